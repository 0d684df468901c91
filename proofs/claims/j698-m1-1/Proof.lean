import JvmDerived
import JvmDerived.Pilot.@@N@@Statement
import JvmDerived.Pilot.@@N@@Code
set_option linter.unusedVariables false
set_option linter.unusedSimpArgs false
namespace Jvm.RoadKit
open Sem ClassFile Op Lib Jvm.Stand Jvm.Free Jvm.LawKit
section Own
variable {p : Program} {l : Launch} {e : Env} {R : Room} {s : State} {m : MethodId} {args : Array Value} {below : List Frame} {meth : Method} {c : Code} {T : State} {locs : List Loc} {cells slots : Nat}
theorem retI (X : Stand p l e R s m args below meth c T locs cells slots) (hx : p.tables.exec = Jvm.exec) {pc : Nat} {Ls : Array Slot} {z : Int32} {rest : List Value} (hret : meth.sig.returnType = some .int) (hd : decode c.code pc = .ok (.ireturn, 1)) {fs : List Frame}
    (hl : ∀ (f : JFrame) (acts : List Action), f.method = m → f.locked = none → f.entered = [] → (doReturn e (T.setTop f) acts (some (.int z))).1 = T.setFrames fs) : Steps p.tables e below (T.setTop (mkF m pc Ls (.int z :: rest))) (T.setFrames fs) :=
  retOut X hx hret rfl (Or.inl ⟨rfl, Or.inl rfl, _, rfl⟩) hd hl
theorem retJ (X : Stand p l e R s m args below meth c T locs cells slots) (hx : p.tables.exec = Jvm.exec) {pc : Nat} {Ls : Array Slot} {z : Int64} {rest : List Value} (hret : meth.sig.returnType = some .long) (hd : decode c.code pc = .ok (.lreturn, 1)) {fs : List Frame}
    (hl : ∀ (f : JFrame) (acts : List Action), f.method = m → f.locked = none → f.entered = [] → (doReturn e (T.setTop f) acts (some (.long z))).1 = T.setFrames fs) : Steps p.tables e below (T.setTop (mkF m pc Ls (.long z :: rest))) (T.setFrames fs) :=
  retOut X hx hret rfl (Or.inr (Or.inl ⟨rfl, rfl, _, rfl⟩)) hd hl
theorem retA (X : Stand p l e R s m args below meth c T locs cells slots) (hx : p.tables.exec = Jvm.exec) {pc : Nat} {Ls : Array Slot} {t : FieldType} {z : Value} {rest : List Value} (hret : meth.sig.returnType = some t) (hn : narrow t z = z) (ht : t.isReference = true) (hz : z.isRef = true) (hd : decode c.code pc = .ok (.areturn, 1)) {fs : List Frame}
    (hl : ∀ (f : JFrame) (acts : List Action), f.method = m → f.locked = none → f.entered = [] → (doReturn e (T.setTop f) acts (some z)).1 = T.setFrames fs) : Steps p.tables e below (T.setTop (mkF m pc Ls (z :: rest))) (T.setFrames fs) :=
  retOut X hx hret hn (Or.inr (Or.inr (Or.inr (Or.inr ⟨rfl, ht, hz⟩)))) hd hl
theorem retZ (X : Stand p l e R s m args below meth c T locs cells slots) (hx : p.tables.exec = Jvm.exec) {pc : Nat} {Ls : Array Slot} {z r : Int32} {t : FieldType} {rest : List Value} (hret : meth.sig.returnType = some t) (ht : t = .boolean ∨ t = .byte ∨ t = .char ∨ t = .short)
    (hd : decode c.code pc = .ok (.ireturn, 1)) (hn : nar t z = r) {fs : List Frame} (hl : ∀ (f : JFrame) (acts : List Action), f.method = m → f.locked = none → f.entered = [] → (doReturn e (T.setTop f) acts (some (.int r))).1 = T.setFrames fs) :
    Steps p.tables e below (T.setTop (mkF m pc Ls (.int z :: rest))) (T.setFrames fs) := retN X hx hret ht hd (by rw [hn]; exact hl)
theorem ownUp (X : Stand p l e R s m args below meth c T locs cells slots) {cells' slots' : Nat} (h1 : cells ≤ cells') (h2 : slots ≤ slots') : Stand p l e R s m args below meth c T locs cells' slots' :=
  ⟨X.admits, X.cas, X.clock, X.frames, X.room, X.hears, X.method, X.code, X.here, X.tail, X.warmed, X.limits, X.bytes, X.same.mono h1 h2⟩
end Own
def Go (tb : Tables) (e : Env) (below : List Frame) (P : Outcome → State → Prop) (T : State) (f : JFrame) : Prop :=
  ∃ s₂ o, Steps tb e below (T.setTop f) s₂ ∧ s₂.status = .running ∧ Ended s₂ below o ∧ P o s₂
theorem Go.via {tb : Tables} {e : Env} {below : List Frame} {P : Outcome → State → Prop} {T T' : State} {f f' : JFrame} (st : ∀ t, Steps tb e below (T'.setTop f') t → Steps tb e below (T.setTop f) t) (k : Go tb e below P T' f') : Go tb e below P T f := by
  obtain ⟨s₂, o, h, r⟩ := k; exact ⟨s₂, o, st _ h, r⟩
theorem Go.hop {tb : Tables} {e : Env} {below : List Frame} {P : Outcome → State → Prop} {T T' : State} {f f' : JFrame} (st : Steps tb e below (T.setTop f) (T'.setTop f')) (k : Go tb e below P T' f') : Go tb e below P T f := by
  obtain ⟨s₂, o, h, r⟩ := k; exact ⟨s₂, o, st.trans h, r⟩
theorem own_nin0 {a : Addr} : a ∉ ([] : List Addr) := fun q => nomatch q
theorem own_ninC {a b : Addr} {l : List Addr} (h : a ≠ b) (h' : a ∉ l) : a ∉ b :: l := fun q => (List.mem_cons.mp q).elim h h'
theorem own_nb {x : Int32} (h : x = 0 ∨ x = 1) : nar .boolean x = x := by rcases h with rfl | rfl <;> rfl
theorem own_nnb {x : Int32} (h : x = 0 ∨ x = 1) : narrow .boolean (.int x) = .int x := by rcases h with rfl | rfl <;> rfl
theorem own_fb {x : Int32} (h : x = 0 ∨ x = 1) : fits .boolean (.int x) = true := by rcases h with rfl | rfl <;> rfl
theorem own_all0 {P : Addr → Prop} : ∀ x ∈ ([] : List Addr), P x := fun _ q => nomatch q
theorem own_allC {P : Addr → Prop} {a : Addr} {l : List Addr} (h : P a) (h' : ∀ x ∈ l, P x) : ∀ x ∈ a :: l, P x := fun x q => (List.mem_cons.mp q).elim (fun e => e ▸ h) (h' x)
theorem own_m0 {k : Int32} : ∀ p ∈ ([] : List (Int × Int)), p.1 ≠ k.toInt := fun _ q => nomatch q
theorem own_mC {k x : Int32} {a o : Int} {l : List (Int × Int)} (h : ¬ k = x) (hx : x.toInt = a) (t : ∀ p ∈ l, p.1 ≠ k.toInt) : ∀ p ∈ (a, o) :: l, p.1 ≠ k.toInt := fun p q => (List.mem_cons.mp q).elim (fun e r => h (Int32.toInt_inj.mp (by rw [hx, ← r, e]))) (t p)
theorem own_cat {v : Value} (h : v.isRef = true) : v.category = 1 := by rcases ref_cases h with rfl | ⟨a, rfl⟩ <;> rfl
theorem own_nat {n : Nat} (h : n < 2147483648) : n.toInt32.toInt = n := len_toInt h
theorem own_ltN {i n : Nat} (hi : i < 2147483648) (hn : n < 2147483648) : i.toInt32 < n.toInt32 ↔ i < n := by
  rw [Int32.lt_iff_toInt_lt, own_nat hi, own_nat hn]; omega
theorem own_succ (i : Nat) : i.toInt32 + 1 = (i + 1).toInt32 := (Int32.ofNat_add i 1).symm
theorem own_nneg {i : Nat} (hi : i < 2147483648) : ¬ i.toInt32 < 0 := by
  rw [Int32.lt_iff_toInt_lt, own_nat hi]; simp
theorem own_clamp {i : Nat} (hi : i < 2147483648) : i.toInt32.toNatClampNeg = i := by
  show i.toInt32.toInt.toNat = i
  rw [own_nat hi]; rfl
end Jvm.RoadKit
namespace Jvm.Pilot.@@N@@
open Jvm Jvm.ClassFile Sem Op Lib Jvm.Free Jvm.Stand Jvm.LawKit Jvm.RoadKit Bundle Jvm.Pilot.@@N@@.Jvm.D
theorem own_ieq {t : Term} {args : Array Value} {s : State} {k : Int32} (h : (Jvm.Cond.eq t (.int k)).value args s none s [] = some true) : t.eval args s none [] s = some (.int k) := by
  obtain ⟨x, y, e1, e2, k1, k2⟩ := cmp_v (Or.inl h)
  cases (Term.int_eval k).symm.trans e2
  obtain ⟨z, rfl⟩ := k2
  have q := gotT (Cond.eq_ints e1 (Term.int_eval k)) h
  rw [e1, q]
theorem own_len {t : Term} {args : Array Value} {s : State} {k : Int32} {a : Addr} {c : Cell} {ty : FieldType} (ev : t.eval args s none [] s = some (.ref a)) (A : Arr s s.heap a c ty) (h : (Jvm.Cond.eq (.length t) (.int k)).value args s none s [] = some true) : c.slots.size < 2 ^ 31 ∧ c.slots.size.toInt32 = k := by
  have e1 := own_ieq h
  obtain ⟨x, c', e2, e3, e4, e5⟩ := Jvm.Free.SB.Term.length_small e1
  cases ev.symm.trans e2
  cases (IntBox.arrayAt_of A.1 A.2.1 A.2.2).symm.trans e3
  exact ⟨e5, (Value.int.inj e4).symm⟩
theorem own_el {t : Term} {args : Array Value} {s : State} {j k : Int32} {a : Addr} {c : Cell} {ty : FieldType} (ev : t.eval args s none [] s = some (.ref a)) (A : Arr s s.heap a c ty) (h : (Jvm.Cond.eq (.elem t (.int j)) (.int k)).value args s none s [] = some true) : c.slots[j.toNatClampNeg]? = some (.int k) := by
  have e1 := own_ieq h
  exact (elem_in e1 ev (Term.int_eval j) A.1).2
theorem own_shr0 (x : Int32) : x >>> ((0 : Int32) &&& 31) = x := by
  rw [← Int32.toInt_inj, c_ishr x 0 0 (by decide)]; simp
theorem own_b2c (x : Int32) : nar .char ((x &&& (255 : Int32)).toUInt32.toUInt16.toUInt32.toInt32) = x &&& 255 := by
  show ((x &&& (255 : Int32)).toUInt32.toUInt16.toUInt32.toInt32).toUInt32.toUInt16.toUInt32.toInt32 = _
  rw [i2c_mask, i2c_mask]
theorem own_nc (x : Int32) : nar .char (x &&& (255 : Int32)) = x &&& 255 := by
  show (x &&& (255 : Int32)).toUInt32.toUInt16.toUInt32.toInt32 = _
  rw [i2c_mask]
theorem own_pn0 : plainName "java/lang/String" = true := by first | (simp [plainName, overriddenIn]; done) | decide +kernel
theorem d3_0 : decode jdk_42_method_55_code 0 = .ok (.aload_n 0, 1) := by decide +kernel
theorem d3_1 : decode jdk_42_method_55_code 1 = .ok (.getfield 9, 3) := by decide +kernel
theorem d3_4 : decode jdk_42_method_55_code 4 = .ok (.arraylength, 1) := by decide +kernel
theorem d3_5 : decode jdk_42_method_55_code 5 = .ok (.ifCond .ne 7, 3) := by decide +kernel
theorem d3_8 : decode jdk_42_method_55_code 8 = .ok (.iconst 1, 1) := by decide +kernel
theorem d3_9 : decode jdk_42_method_55_code 9 = .ok (.goto 4, 3) := by decide +kernel
theorem d3_12 : decode jdk_42_method_55_code 12 = .ok (.iconst 0, 1) := by decide +kernel
theorem d3_13 : decode jdk_42_method_55_code 13 = .ok (.ireturn, 1) := by decide +kernel
theorem ef_3 (m : MethodId) (x0 : Addr) : entryFrame m #[(.ref x0)] 1 = mkF m 0 #[.val (.ref x0)] [] := by first | (simp [entryFrame, mkF, argsToLocals, Value.category]; done) | rfl
def Q3 (Z : State) (so : Addr) (tb : Addr) (kk : ClassId) (nn : Int32) (vs : List Value) (h0 : Heap) (n0 : Nat) (v : Option Value) (h : Heap) (L : List Loc) : Prop := v = some (.int (if nn = (0 : Int32) then (1 : Int32) else (0 : Int32))) ∧ Fr n0 L ∧ h = h0
set_option maxRecDepth 65536 in
set_option maxHeartbeats 40000000 in
theorem rm3 (l : Launch) (Z : State) (a0 : Array Value) (hw : ∀ d ∈ tables_1, d.before a0 Z = true) (ws : List Jvm.Cond) (so : Addr) (tb : Addr) (kk : ClassId) (nn : Int32) (vs : List Value) (h0 : Heap) (n0 : Nat) (Z0 : n0 ≤ h0.size) (P0 : Fld Z h0 so "java/lang/String" "value" "[B" (.ref tb)) (P1 : Arv Z h0 tb kk .byte nn vs (.int (0 : Int32))) :
    MetFree l (⟨"java/lang/String", "isEmpty", "()Z"⟩ : MethodName) (head1 (Jvm.Cond.code (⟨"java/lang/String", "isEmpty", "()Z"⟩ : MethodName) jdk_42_method_55_code 1 (some .boolean) :: ws) ({ frames := 0, cells := 0, slots := 0, locals := 0 } : Room)) (fun a U => a = #[(.ref so)] ∧ Z.Warmed39 U.vm ∧ U.heap = h0) (fun _ _ _ _ _ => True) (fun _ U o U' => ∃ v L, o = .returned v ∧ Q3 Z so tb kk nn vs h0 n0 v U'.heap L ∧ FrameEnd U o U' L ({ frames := 0, cells := 0, slots := 0, locals := 0 } : Room).cells ({ frames := 0, cells := 0, slots := 0, locals := 0 } : Room).slots) := by
  refine MetFree.of_bodySF (plainFor_of_name own_pn0) hisR ?_
  intro p e s m args below meth c s₁ Bd hml0 hP hK
  obtain ⟨rfl, hZ, hh⟩ := hP
  have hx := Bd.exec
  have hby := Bd.bytes
  have hml : c.maxLocals = 1 := hml0
  have hown : s.vm.findClass "java/lang/String" = some m.cls := findClass_of_methodNamed Bd.named
  have hnm := (name_of_methodNamed Bd.named Bd.method).1
  have X0 : Stand p l e ({ frames := 0, cells := 0, slots := 0, locals := 0 } : Room) s m #[(.ref so)] below meth c s₁ [] 0 0 := Stand.of_body Bd
  have e0 : s₁.heap = h0 := by rw [← hh, Bd.state]; rfl
  have N0 := Fr.nil n0
  have K0 : Keep h0 h0 [] := Keep.refl _ _
  suffices GO : ∀ P : Outcome → State → Prop, (∀ o U', (∃ v L, o = .returned v ∧ Q3 Z so tb kk nn vs h0 n0 v U'.heap L ∧ FrameEnd s o U' L ({ frames := 0, cells := 0, slots := 0, locals := 0 } : Room).cells ({ frames := 0, cells := 0, slots := 0, locals := 0 } : Room).slots) → P o U') → Go p.tables e below P s₁ (mkF m 0 #[.val (.ref so)] []) by
    obtain ⟨s2, o, st, r⟩ := GO _ (fun _ _ q => q)
    exact ⟨s2, o, castTop (ef_3 m so) st, r⟩
  clear hh
  intro P hP
  show Go p.tables e below P s₁ (mkF m 0 #[.val (.ref so)] [])
  refine Go.via (fun t k => XS.aloadN X0.here hx rfl (hb hby d3_0) rfl rfl k) ?_
  show Go p.tables e below P s₁ (mkF m 1 #[.val (.ref so)] [(.ref so)])
  obtain ⟨T1, X1, e1, st1⟩ := getF X0 hx hZ hown (host := "") (Or.inl (hw _ (List.mem_of_getElem? (i := 19) rfl))) Via.refl e0 P0 (g := (mkF m 1 #[.val (.ref so)] [(.ref so)])) rfl rfl (hb hby d3_1)
  refine Go.via st1 ?_
  show Go p.tables e below P T1 (mkF m 4 #[.val (.ref so)] [(.ref tb)])
  obtain ⟨c2, A2, -, S2, N2, -, -⟩ := id P1
  refine Go.via (fun t k => X1.arraylength hx (by rw [e1]; exact A2.1) (State.isArrayOf_alike hZ.alike A2.2.1) (g := (mkF m 4 #[.val (.ref so)] [(.ref tb)])) rfl rfl (hb hby d3_4) t (by rw [len_of S2 N2]; exact k)) ?_
  show Go p.tables e below P T1 (mkF m 5 #[.val (.ref so)] [(.int nn)])
  have J4 : ∀ (T4 : State) (locs4 : List Loc) (v4_0 : Int32), Stand p l e ({ frames := 0, cells := 0, slots := 0, locals := 0 } : Room) s m #[(.ref so)] below meth c T4 locs4 0 0 → T4.heap = h0 → Fr n0 locs4 → v4_0 = (if nn = (0 : Int32) then (1 : Int32) else (0 : Int32)) → Go p.tables e below P T4 (mkF m 13 #[.val (.ref so)] [(.int v4_0)]) := by
    intro T4 locs4 v4_0 X4 e4 N4 hv4_0
    have hbv4_0 : v4_0 = 0 ∨ v4_0 = 1 := by (subst hv4_0; (repeat' split) <;> first | (left; rfl) | (right; rfl))
    show Go p.tables e below P T4 (mkF m 13 #[.val (.ref so)] [(.int v4_0)])
    obtain ⟨fs, hr, hrun, hended, hW, hsame⟩ := X4.leave (v := some (.int (if nn = (0 : Int32) then (1 : Int32) else (0 : Int32)))) (fun h => by rw [Bd.returns] at h; cases h)
    refine ⟨_, _, retZ X4 hx (t := .boolean) Bd.returns (by simp) (hb hby d3_13) ((own_nb hbv4_0).trans hv4_0) hr, hrun, hended, hP _ _ ⟨_, _, rfl, ?_, ⟨_, rfl⟩, hW, hsame.mono (by decide) (by decide)⟩⟩
    show Q3 Z so tb kk nn vs h0 n0 _ T4.heap _
    rw [e4]
    exact ⟨rfl, N4, rfl⟩
  by_cases hc3 : nn = (0 : Int32)
  · refine Go.via (fun t k => XS.ifNo X1.here hx rfl (hb hby d3_5) rfl ((if0 _ _).trans (teq hc3).2) k) ?_
    show Go p.tables e below P T1 (mkF m 8 #[.val (.ref so)] [])
    refine Go.via (fun t k => XS.iconst X1.here hx rfl (hb hby d3_8) k) ?_
    show Go p.tables e below P T1 (mkF m 9 #[.val (.ref so)] [(.int (1 : Int32))])
    refine Go.via (fun t k => XS.goto X1.here hx rfl (pc0 := 9) (pc' := 13) rfl (hb hby d3_9) (by decide) (by decide) k) ?_
    exact J4 T1 _ (1 : Int32) X1 e1 N0 (if_pos hc3).symm
  · refine Go.via (fun t k => XS.ifYes X1.here hx rfl (pc0 := 5) (pc' := 12) rfl (hb hby d3_5) rfl ((if0 _ _).trans (feq hc3).2) (by decide) (by decide) k) ?_
    show Go p.tables e below P T1 (mkF m 12 #[.val (.ref so)] [])
    refine Go.via (fun t k => XS.iconst X1.here hx rfl (hb hby d3_12) k) ?_
    exact J4 T1 _ (0 : Int32) X1 e1 N0 (if_neg hc3).symm
theorem d5_0 : decode jdk_42_method_152_code 0 = .ok (.getstatic 38, 3) := by decide +kernel
theorem d5_3 : decode jdk_42_method_152_code 3 = .ok (.ifCond .eq 10, 3) := by decide +kernel
theorem d5_6 : decode jdk_42_method_152_code 6 = .ok (.aload_n 0, 1) := by decide +kernel
theorem d5_7 : decode jdk_42_method_152_code 7 = .ok (.getfield 15, 3) := by decide +kernel
theorem d5_10 : decode jdk_42_method_152_code 10 = .ok (.goto 4, 3) := by decide +kernel
theorem d5_14 : decode jdk_42_method_152_code 14 = .ok (.ireturn, 1) := by decide +kernel
theorem ef_5 (m : MethodId) (x0 : Addr) : entryFrame m #[(.ref x0)] 1 = mkF m 0 #[.val (.ref x0)] [] := by first | (simp [entryFrame, mkF, argsToLocals, Value.category]; done) | rfl
def Q5 (Z : State) (so : Addr) (cs : Int32) (h0 : Heap) (n0 : Nat) (v : Option Value) (h : Heap) (L : List Loc) : Prop := v = some (.int (0 : Int32)) ∧ Fr n0 L ∧ h = h0
set_option maxRecDepth 65536 in
set_option maxHeartbeats 40000000 in
theorem rm5 (l : Launch) (Z : State) (a0 : Array Value) (hw : ∀ d ∈ tables_1, d.before a0 Z = true) (ws : List Jvm.Cond) (so : Addr) (cs : Int32) (h0 : Heap) (n0 : Nat) (Z0 : n0 ≤ h0.size) (O0 : Old Z n0 h0) (P1 : Sta Z Z.heap "java/lang/String" "COMPACT_STRINGS" "Z" (.int cs)) (hcs : ¬ cs = (0 : Int32)) (P3 : Fld Z h0 so "java/lang/String" "coder" "B" (.int (0 : Int32))) :
    MetFree l (⟨"java/lang/String", "coder", "()B"⟩ : MethodName) (head1 (Jvm.Cond.code (⟨"java/lang/String", "coder", "()B"⟩ : MethodName) jdk_42_method_152_code 1 (some .byte) :: ws) ({ frames := 0, cells := 0, slots := 0, locals := 0 } : Room)) (fun a U => a = #[(.ref so)] ∧ Z.Warmed39 U.vm ∧ U.heap = h0) (fun _ _ _ _ _ => True) (fun _ U o U' => ∃ v L, o = .returned v ∧ Q5 Z so cs h0 n0 v U'.heap L ∧ FrameEnd U o U' L ({ frames := 0, cells := 0, slots := 0, locals := 0 } : Room).cells ({ frames := 0, cells := 0, slots := 0, locals := 0 } : Room).slots) := by
  refine MetFree.of_bodySF (plainFor_of_name own_pn0) hisR ?_
  intro p e s m args below meth c s₁ Bd hml0 hP hK
  obtain ⟨rfl, hZ, hh⟩ := hP
  have hx := Bd.exec
  have hby := Bd.bytes
  have hml : c.maxLocals = 1 := hml0
  have hown : s.vm.findClass "java/lang/String" = some m.cls := findClass_of_methodNamed Bd.named
  have hnm := (name_of_methodNamed Bd.named Bd.method).1
  have X0 : Stand p l e ({ frames := 0, cells := 0, slots := 0, locals := 0 } : Room) s m #[(.ref so)] below meth c s₁ [] 0 0 := Stand.of_body Bd
  have e0 : s₁.heap = h0 := by rw [← hh, Bd.state]; rfl
  have N0 := Fr.nil n0
  have K0 : Keep h0 h0 [] := Keep.refl _ _
  suffices GO : ∀ P : Outcome → State → Prop, (∀ o U', (∃ v L, o = .returned v ∧ Q5 Z so cs h0 n0 v U'.heap L ∧ FrameEnd s o U' L ({ frames := 0, cells := 0, slots := 0, locals := 0 } : Room).cells ({ frames := 0, cells := 0, slots := 0, locals := 0 } : Room).slots) → P o U') → Go p.tables e below P s₁ (mkF m 0 #[.val (.ref so)] []) by
    obtain ⟨s2, o, st, r⟩ := GO _ (fun _ _ q => q)
    exact ⟨s2, o, castTop (ef_5 m so) st, r⟩
  clear hh
  intro P hP
  show Go p.tables e below P s₁ (mkF m 0 #[.val (.ref so)] [])
  obtain ⟨T1, X1, e1, st1⟩ := getS2 X0 hx hZ hown (host := "") (Or.inl (hw _ (List.mem_of_getElem? (i := 31) rfl))) Via.refl e0 (P1.ext O0.2) (g := (mkF m 0 #[.val (.ref so)] [])) rfl (hb hby d5_0)
  refine Go.via st1 ?_
  show Go p.tables e below P T1 (mkF m 3 #[.val (.ref so)] [(.int cs)])
  refine Go.via (fun t k => XS.ifNo X1.here hx rfl (hb hby d5_3) rfl ((if0 _ _).trans (feq hcs).1) k) ?_
  show Go p.tables e below P T1 (mkF m 6 #[.val (.ref so)] [])
  refine Go.via (fun t k => XS.aloadN X1.here hx rfl (hb hby d5_6) rfl rfl k) ?_
  show Go p.tables e below P T1 (mkF m 7 #[.val (.ref so)] [(.ref so)])
  obtain ⟨T2, X2, e2, st2⟩ := getF X1 hx hZ hown (host := "") (Or.inl (hw _ (List.mem_of_getElem? (i := 32) rfl))) Via.refl e1 P3 (g := (mkF m 7 #[.val (.ref so)] [(.ref so)])) rfl rfl (hb hby d5_7)
  refine Go.via st2 ?_
  show Go p.tables e below P T2 (mkF m 10 #[.val (.ref so)] [(.int (0 : Int32))])
  refine Go.via (fun t k => XS.goto X2.here hx rfl (pc0 := 10) (pc' := 14) rfl (hb hby d5_10) (by decide) (by decide) k) ?_
  show Go p.tables e below P T2 (mkF m 14 #[.val (.ref so)] [(.int (0 : Int32))])
  obtain ⟨fs, hr, hrun, hended, hW, hsame⟩ := X2.leave (v := some (.int (0 : Int32))) (fun h => by rw [Bd.returns] at h; cases h)
  refine ⟨_, _, retZ X2 hx (t := .byte) Bd.returns (by simp) (hb hby d5_14) rfl hr, hrun, hended, hP _ _ ⟨_, _, rfl, ?_, ⟨_, rfl⟩, hW, hsame.mono (by decide) (by decide)⟩⟩
  show Q5 Z so cs h0 n0 _ T2.heap _
  rw [e2]
  exact ⟨rfl, N0, rfl⟩
theorem own_pd0 : parseMethodDescriptor "()B" = some ⟨[], some .byte⟩ := by decide +kernel
theorem d4_0 : decode jdk_42_method_54_code 0 = .ok (.aload_n 0, 1) := by decide +kernel
theorem d4_1 : decode jdk_42_method_54_code 1 = .ok (.getfield 9, 3) := by decide +kernel
theorem d4_4 : decode jdk_42_method_54_code 4 = .ok (.arraylength, 1) := by decide +kernel
theorem d4_5 : decode jdk_42_method_54_code 5 = .ok (.aload_n 0, 1) := by decide +kernel
theorem d4_6 : decode jdk_42_method_54_code 6 = .ok (.invokevirtual 335, 3) := by decide +kernel
theorem d4_9 : decode jdk_42_method_54_code 9 = .ok (.ishr, 1) := by decide +kernel
theorem d4_10 : decode jdk_42_method_54_code 10 = .ok (.ireturn, 1) := by decide +kernel
theorem ef_4 (m : MethodId) (x0 : Addr) : entryFrame m #[(.ref x0)] 1 = mkF m 0 #[.val (.ref x0)] [] := by first | (simp [entryFrame, mkF, argsToLocals, Value.category]; done) | rfl
def Q4 (Z : State) (so : Addr) (cs : Int32) (tb : Addr) (kk : ClassId) (nn : Int32) (vs : List Value) (h0 : Heap) (n0 : Nat) (v : Option Value) (h : Heap) (L : List Loc) : Prop := v = some (.int nn) ∧ Fr n0 L ∧ h = h0
set_option maxRecDepth 65536 in
set_option maxHeartbeats 40000000 in
theorem rm4 (l : Launch) (Z : State) (a0 : Array Value) (hw : ∀ d ∈ tables_1, d.before a0 Z = true) (ws : List Jvm.Cond) (so : Addr) (cs : Int32) (tb : Addr) (kk : ClassId) (nn : Int32) (vs : List Value) (h0 : Heap) (n0 : Nat) (Z0 : n0 ≤ h0.size) (O0 : Old Z n0 h0) (P1 : Sta Z Z.heap "java/lang/String" "COMPACT_STRINGS" "Z" (.int cs)) (hcs : ¬ cs = (0 : Int32)) (P3 : Exa Z h0 so "java/lang/String") (P4 : Fld Z h0 so "java/lang/String" "value" "[B" (.ref tb)) (P5 : Fld Z h0 so "java/lang/String" "coder" "B" (.int (0 : Int32))) (P6 : Arv Z h0 tb kk .byte nn vs (.int (0 : Int32))) :
    MetFree l (⟨"java/lang/String", "length", "()I"⟩ : MethodName) (head1 (Jvm.Cond.code (⟨"java/lang/String", "length", "()I"⟩ : MethodName) jdk_42_method_54_code 1 (some .int) :: ws) ({ frames := 1, cells := 0, slots := 0, locals := 13 } : Room)) (fun a U => a = #[(.ref so)] ∧ Z.Warmed39 U.vm ∧ U.heap = h0) (fun _ _ _ _ _ => True) (fun _ U o U' => ∃ v L, o = .returned v ∧ Q4 Z so cs tb kk nn vs h0 n0 v U'.heap L ∧ FrameEnd U o U' L ({ frames := 1, cells := 0, slots := 0, locals := 13 } : Room).cells ({ frames := 1, cells := 0, slots := 0, locals := 13 } : Room).slots) := by
  refine MetFree.of_bodySF (plainFor_of_name own_pn0) hisR ?_
  intro p e s m args below meth c s₁ Bd hml0 hP hK
  obtain ⟨rfl, hZ, hh⟩ := hP
  have hx := Bd.exec
  have hby := Bd.bytes
  have hml : c.maxLocals = 1 := hml0
  have hown : s.vm.findClass "java/lang/String" = some m.cls := findClass_of_methodNamed Bd.named
  have hnm := (name_of_methodNamed Bd.named Bd.method).1
  have X0 : Stand p l e ({ frames := 1, cells := 0, slots := 0, locals := 13 } : Room) s m #[(.ref so)] below meth c s₁ [] 0 0 := Stand.of_body Bd
  have e0 : s₁.heap = h0 := by rw [← hh, Bd.state]; rfl
  have N0 := Fr.nil n0
  have K0 : Keep h0 h0 [] := Keep.refl _ _
  suffices GO : ∀ P : Outcome → State → Prop, (∀ o U', (∃ v L, o = .returned v ∧ Q4 Z so cs tb kk nn vs h0 n0 v U'.heap L ∧ FrameEnd s o U' L ({ frames := 1, cells := 0, slots := 0, locals := 13 } : Room).cells ({ frames := 1, cells := 0, slots := 0, locals := 13 } : Room).slots) → P o U') → Go p.tables e below P s₁ (mkF m 0 #[.val (.ref so)] []) by
    obtain ⟨s2, o, st, r⟩ := GO _ (fun _ _ q => q)
    exact ⟨s2, o, castTop (ef_4 m so) st, r⟩
  clear hh
  intro P hP
  show Go p.tables e below P s₁ (mkF m 0 #[.val (.ref so)] [])
  refine Go.via (fun t k => XS.aloadN X0.here hx rfl (hb hby d4_0) rfl rfl k) ?_
  show Go p.tables e below P s₁ (mkF m 1 #[.val (.ref so)] [(.ref so)])
  obtain ⟨T1, X1, e1, st1⟩ := getF X0 hx hZ hown (host := "") (Or.inl (hw _ (List.mem_of_getElem? (i := 19) rfl))) Via.refl e0 P4 (g := (mkF m 1 #[.val (.ref so)] [(.ref so)])) rfl rfl (hb hby d4_1)
  refine Go.via st1 ?_
  show Go p.tables e below P T1 (mkF m 4 #[.val (.ref so)] [(.ref tb)])
  obtain ⟨c2, A2, -, S2, N2, -, -⟩ := id P6
  refine Go.via (fun t k => X1.arraylength hx (by rw [e1]; exact A2.1) (State.isArrayOf_alike hZ.alike A2.2.1) (g := (mkF m 4 #[.val (.ref so)] [(.ref tb)])) rfl rfl (hb hby d4_4) t (by rw [len_of S2 N2]; exact k)) ?_
  show Go p.tables e below P T1 (mkF m 5 #[.val (.ref so)] [(.int nn)])
  refine Go.via (fun t k => XS.aloadN X1.here hx rfl (hb hby d4_5) rfl rfl k) ?_
  show Go p.tables e below P T1 (mkF m 6 #[.val (.ref so)] [(.ref so), (.int nn)])
  obtain ⟨cq3, kq3, q3a, q3b, q3c⟩ := isOf hZ e1 P3
  obtain ⟨_, _, ⟨T3, L3, k3, n3⟩, -, X3, ⟨Lc3, hQ3, l3, y3, z3⟩, st3⟩ := X1.virtualBack hx (y := (⟨"java/lang/String", "coder", "()B"⟩ : MethodName)) (z := (⟨"java/lang/String", "coder", "()B"⟩ : MethodName)) hown (mvT hZ (hw _ (List.mem_of_getElem? (i := 26) rfl))) (mvT hZ (hw _ (List.mem_of_getElem? (i := 27) rfl))) (notFace_of_selects (args := #[]) (mvT hZ (hw _ (List.mem_of_getElem? (i := 29) rfl)))) (mvT hZ (hw _ (List.mem_of_getElem? (i := 29) rfl))) (mvT hZ (hw _ (List.mem_of_getElem? (i := 28) rfl))) (by decide) (backOf (W := 1) (rm5 l Z a0 hw [] so cs h0 n0 Z0 O0 P1 (by first | assumption | decide | omega : ¬ cs = (0 : Int32)) P5) hZ (hw _ (List.mem_of_getElem? (i := 30) rfl)) (hw _ (List.mem_of_getElem? (i := 17) rfl)) (by decide) (by decide)) q3a q3c (g := (mkF m 6 #[.val (.ref so)] [(.ref so), (.int nn)])) rfl (by rw [hml]; rfl) (Steps.refl _) (argsL := []) (rest := [(.int nn)]) (lenOf own_pd0 rfl) rfl (by show 2 * 0 + _ ≤ _; exact Nat.le_of_eq rfl) (hb hby d4_6) (fun _ _ => ⟨rfl, e1, (by decide : 0 + 0 ≤ _), (by decide : 0 + 0 ≤ _)⟩)
  dsimp only [Pt.U, Pt.locs, Pt.cells, Pt.slots] at X3 l3 y3 z3 st3 hQ3
  subst l3 y3 z3
  obtain ⟨rfl, Nq3, hh3⟩ := hQ3
  have N3 := Fr.app N0 Nq3
  refine Go.hop st3 ?_
  show Go p.tables e below P T3 (mkF m 9 #[.val (.ref so)] [(.int (0 : Int32)), (.int nn)])
  refine Go.via (fun t k => XS.ishr X3.here hx rfl (hb hby d4_9) rfl k) ?_
  show Go p.tables e below P T3 (mkF m 10 #[.val (.ref so)] [(.int (nn >>> ((0 : Int32) &&& 31)))])
  obtain ⟨fs, hr, hrun, hended, hW, hsame⟩ := X3.leave (v := some (.int nn)) (fun h => by rw [Bd.returns] at h; cases h)
  refine ⟨_, _, (by have q := retI X3 hx Bd.returns (hb hby d4_10) (z := (nn >>> ((0 : Int32) &&& 31))) (rest := []) (pc := 10) (Ls := #[.val (.ref so)]) (by rw [(own_shr0 nn)]; exact hr); exact q), hrun, hended, hP _ _ ⟨_, _, rfl, ?_, ⟨_, rfl⟩, hW, hsame.mono (by decide) (by decide)⟩⟩
  show Q4 Z so cs tb kk nn vs h0 n0 _ T3.heap _
  rw [hh3]
  exact ⟨rfl, N3, rfl⟩
theorem d7_0 : decode jdk_42_method_154_code 0 = .ok (.getstatic 38, 3) := by decide +kernel
theorem d7_3 : decode jdk_42_method_154_code 3 = .ok (.ifCond .eq 14, 3) := by decide +kernel
theorem d7_6 : decode jdk_42_method_154_code 6 = .ok (.aload_n 0, 1) := by decide +kernel
theorem d7_7 : decode jdk_42_method_154_code 7 = .ok (.getfield 15, 3) := by decide +kernel
theorem d7_10 : decode jdk_42_method_154_code 10 = .ok (.ifCond .ne 7, 3) := by decide +kernel
theorem d7_13 : decode jdk_42_method_154_code 13 = .ok (.iconst 1, 1) := by decide +kernel
theorem d7_14 : decode jdk_42_method_154_code 14 = .ok (.goto 4, 3) := by decide +kernel
theorem d7_18 : decode jdk_42_method_154_code 18 = .ok (.ireturn, 1) := by decide +kernel
theorem ef_7 (m : MethodId) (x0 : Addr) : entryFrame m #[(.ref x0)] 1 = mkF m 0 #[.val (.ref x0)] [] := by first | (simp [entryFrame, mkF, argsToLocals, Value.category]; done) | rfl
def Q7 (Z : State) (so : Addr) (cs : Int32) (h0 : Heap) (n0 : Nat) (v : Option Value) (h : Heap) (L : List Loc) : Prop := v = some (.int (1 : Int32)) ∧ Fr n0 L ∧ h = h0
set_option maxRecDepth 65536 in
set_option maxHeartbeats 40000000 in
theorem rm7 (l : Launch) (Z : State) (a0 : Array Value) (hw : ∀ d ∈ tables_1, d.before a0 Z = true) (ws : List Jvm.Cond) (so : Addr) (cs : Int32) (h0 : Heap) (n0 : Nat) (Z0 : n0 ≤ h0.size) (O0 : Old Z n0 h0) (P1 : Sta Z Z.heap "java/lang/String" "COMPACT_STRINGS" "Z" (.int cs)) (hcs : ¬ cs = (0 : Int32)) (P3 : Fld Z h0 so "java/lang/String" "coder" "B" (.int (0 : Int32))) :
    MetFree l (⟨"java/lang/String", "isLatin1", "()Z"⟩ : MethodName) (head1 (Jvm.Cond.code (⟨"java/lang/String", "isLatin1", "()Z"⟩ : MethodName) jdk_42_method_154_code 1 (some .boolean) :: ws) ({ frames := 0, cells := 0, slots := 0, locals := 0 } : Room)) (fun a U => a = #[(.ref so)] ∧ Z.Warmed39 U.vm ∧ U.heap = h0) (fun _ _ _ _ _ => True) (fun _ U o U' => ∃ v L, o = .returned v ∧ Q7 Z so cs h0 n0 v U'.heap L ∧ FrameEnd U o U' L ({ frames := 0, cells := 0, slots := 0, locals := 0 } : Room).cells ({ frames := 0, cells := 0, slots := 0, locals := 0 } : Room).slots) := by
  refine MetFree.of_bodySF (plainFor_of_name own_pn0) hisR ?_
  intro p e s m args below meth c s₁ Bd hml0 hP hK
  obtain ⟨rfl, hZ, hh⟩ := hP
  have hx := Bd.exec
  have hby := Bd.bytes
  have hml : c.maxLocals = 1 := hml0
  have hown : s.vm.findClass "java/lang/String" = some m.cls := findClass_of_methodNamed Bd.named
  have hnm := (name_of_methodNamed Bd.named Bd.method).1
  have X0 : Stand p l e ({ frames := 0, cells := 0, slots := 0, locals := 0 } : Room) s m #[(.ref so)] below meth c s₁ [] 0 0 := Stand.of_body Bd
  have e0 : s₁.heap = h0 := by rw [← hh, Bd.state]; rfl
  have N0 := Fr.nil n0
  have K0 : Keep h0 h0 [] := Keep.refl _ _
  suffices GO : ∀ P : Outcome → State → Prop, (∀ o U', (∃ v L, o = .returned v ∧ Q7 Z so cs h0 n0 v U'.heap L ∧ FrameEnd s o U' L ({ frames := 0, cells := 0, slots := 0, locals := 0 } : Room).cells ({ frames := 0, cells := 0, slots := 0, locals := 0 } : Room).slots) → P o U') → Go p.tables e below P s₁ (mkF m 0 #[.val (.ref so)] []) by
    obtain ⟨s2, o, st, r⟩ := GO _ (fun _ _ q => q)
    exact ⟨s2, o, castTop (ef_7 m so) st, r⟩
  clear hh
  intro P hP
  show Go p.tables e below P s₁ (mkF m 0 #[.val (.ref so)] [])
  obtain ⟨T1, X1, e1, st1⟩ := getS2 X0 hx hZ hown (host := "") (Or.inl (hw _ (List.mem_of_getElem? (i := 31) rfl))) Via.refl e0 (P1.ext O0.2) (g := (mkF m 0 #[.val (.ref so)] [])) rfl (hb hby d7_0)
  refine Go.via st1 ?_
  show Go p.tables e below P T1 (mkF m 3 #[.val (.ref so)] [(.int cs)])
  refine Go.via (fun t k => XS.ifNo X1.here hx rfl (hb hby d7_3) rfl ((if0 _ _).trans (feq hcs).1) k) ?_
  show Go p.tables e below P T1 (mkF m 6 #[.val (.ref so)] [])
  refine Go.via (fun t k => XS.aloadN X1.here hx rfl (hb hby d7_6) rfl rfl k) ?_
  show Go p.tables e below P T1 (mkF m 7 #[.val (.ref so)] [(.ref so)])
  obtain ⟨T2, X2, e2, st2⟩ := getF X1 hx hZ hown (host := "") (Or.inl (hw _ (List.mem_of_getElem? (i := 32) rfl))) Via.refl e1 P3 (g := (mkF m 7 #[.val (.ref so)] [(.ref so)])) rfl rfl (hb hby d7_7)
  refine Go.via st2 ?_
  show Go p.tables e below P T2 (mkF m 10 #[.val (.ref so)] [(.int (0 : Int32))])
  refine Go.via (fun t k => XS.ifNo X2.here hx rfl (hb hby d7_10) rfl ((if0 _ _).trans (teq (rfl : (0 : Int32) = (0 : Int32))).2) k) ?_
  show Go p.tables e below P T2 (mkF m 13 #[.val (.ref so)] [])
  refine Go.via (fun t k => XS.iconst X2.here hx rfl (hb hby d7_13) k) ?_
  show Go p.tables e below P T2 (mkF m 14 #[.val (.ref so)] [(.int (1 : Int32))])
  refine Go.via (fun t k => XS.goto X2.here hx rfl (pc0 := 14) (pc' := 18) rfl (hb hby d7_14) (by decide) (by decide) k) ?_
  show Go p.tables e below P T2 (mkF m 18 #[.val (.ref so)] [(.int (1 : Int32))])
  obtain ⟨fs, hr, hrun, hended, hW, hsame⟩ := X2.leave (v := some (.int (1 : Int32))) (fun h => by rw [Bd.returns] at h; cases h)
  refine ⟨_, _, retZ X2 hx (t := .boolean) Bd.returns (by simp) (hb hby d7_18) rfl hr, hrun, hended, hP _ _ ⟨_, _, rfl, ?_, ⟨_, rfl⟩, hW, hsame.mono (by decide) (by decide)⟩⟩
  show Q7 Z so cs h0 n0 _ T2.heap _
  rw [e2]
  exact ⟨rfl, N0, rfl⟩
theorem own_pn1 : plainName "jdk/internal/util/Preconditions" = true := by first | (simp [plainName, overriddenIn]; done) | decide +kernel
theorem d10_0 : decode jdk_41_method_11_code 0 = .ok (.iload_n 0, 1) := by decide +kernel
theorem d10_1 : decode jdk_41_method_11_code 1 = .ok (.ifCond .lt 8, 3) := by decide +kernel
theorem d10_4 : decode jdk_41_method_11_code 4 = .ok (.iload_n 0, 1) := by decide +kernel
theorem d10_5 : decode jdk_41_method_11_code 5 = .ok (.iload_n 1, 1) := by decide +kernel
theorem d10_6 : decode jdk_41_method_11_code 6 = .ok (.if_icmp .lt 10, 3) := by decide +kernel
theorem d10_16 : decode jdk_41_method_11_code 16 = .ok (.iload_n 0, 1) := by decide +kernel
theorem d10_17 : decode jdk_41_method_11_code 17 = .ok (.ireturn, 1) := by decide +kernel
theorem ef_10 (m : MethodId) (x0 : Int32) (x1 : Int32) (x2 : Value) (hx2 : x2.isRef = true) : entryFrame m #[(.int x0), (.int x1), x2] 3 = mkF m 0 #[.val (.int x0), .val (.int x1), .val x2] [] := by rcases ref_cases hx2 with rfl | ⟨zx2, rfl⟩ <;> first | (simp [entryFrame, mkF, argsToLocals, Value.category]; done) | rfl
def Q10 (Z : State) (ji : Int32) (nn : Int32) (fm : Value) (h0 : Heap) (n0 : Nat) (v : Option Value) (h : Heap) (L : List Loc) : Prop := v = some (.int ji) ∧ Fr n0 L ∧ h = h0
set_option maxRecDepth 65536 in
set_option maxHeartbeats 40000000 in
theorem rm10 (l : Launch) (Z : State) (a0 : Array Value) (hw : ∀ d ∈ tables_1, d.before a0 Z = true) (ws : List Jvm.Cond) (ji : Int32) (nn : Int32) (fm : Value) (h0 : Heap) (n0 : Nat) (Z0 : n0 ≤ h0.size) (rfm : fm.isRef = true) (hj0 : ¬ (ji < (0 : Int32))) (hjn : ji < nn) :
    MetFree l (⟨"jdk/internal/util/Preconditions", "checkIndex", "(IILjava/util/function/BiFunction;)I"⟩ : MethodName) (head1 (Jvm.Cond.code (⟨"jdk/internal/util/Preconditions", "checkIndex", "(IILjava/util/function/BiFunction;)I"⟩ : MethodName) jdk_41_method_11_code 3 (some .int) :: ws) ({ frames := 0, cells := 0, slots := 0, locals := 0 } : Room)) (fun a U => a = #[(.int ji), (.int nn), fm] ∧ Z.Warmed39 U.vm ∧ U.heap = h0) (fun _ _ _ _ _ => True) (fun _ U o U' => ∃ v L, o = .returned v ∧ Q10 Z ji nn fm h0 n0 v U'.heap L ∧ FrameEnd U o U' L ({ frames := 0, cells := 0, slots := 0, locals := 0 } : Room).cells ({ frames := 0, cells := 0, slots := 0, locals := 0 } : Room).slots) := by
  refine MetFree.of_bodySF (plainFor_of_name own_pn1) hisR ?_
  intro p e s m args below meth c s₁ Bd hml0 hP hK
  obtain ⟨rfl, hZ, hh⟩ := hP
  have hx := Bd.exec
  have hby := Bd.bytes
  have hml : c.maxLocals = 3 := hml0
  have hown : s.vm.findClass "jdk/internal/util/Preconditions" = some m.cls := findClass_of_methodNamed Bd.named
  have hnm := (name_of_methodNamed Bd.named Bd.method).1
  have X0 : Stand p l e ({ frames := 0, cells := 0, slots := 0, locals := 0 } : Room) s m #[(.int ji), (.int nn), fm] below meth c s₁ [] 0 0 := Stand.of_body Bd
  have e0 : s₁.heap = h0 := by rw [← hh, Bd.state]; rfl
  have N0 := Fr.nil n0
  have K0 : Keep h0 h0 [] := Keep.refl _ _
  suffices GO : ∀ P : Outcome → State → Prop, (∀ o U', (∃ v L, o = .returned v ∧ Q10 Z ji nn fm h0 n0 v U'.heap L ∧ FrameEnd s o U' L ({ frames := 0, cells := 0, slots := 0, locals := 0 } : Room).cells ({ frames := 0, cells := 0, slots := 0, locals := 0 } : Room).slots) → P o U') → Go p.tables e below P s₁ (mkF m 0 #[.val (.int ji), .val (.int nn), .val fm] []) by
    obtain ⟨s2, o, st, r⟩ := GO _ (fun _ _ q => q)
    exact ⟨s2, o, castTop (ef_10 m ji nn fm rfm) st, r⟩
  clear hh
  intro P hP
  show Go p.tables e below P s₁ (mkF m 0 #[.val (.int ji), .val (.int nn), .val fm] [])
  refine Go.via (fun t k => XS.iloadN X0.here hx rfl (hb hby d10_0) rfl k) ?_
  show Go p.tables e below P s₁ (mkF m 1 #[.val (.int ji), .val (.int nn), .val fm] [(.int ji)])
  refine Go.via (fun t k => XS.ifNo X0.here hx rfl (hb hby d10_1) rfl ((if0 _ _).trans (flt hj0).1) k) ?_
  show Go p.tables e below P s₁ (mkF m 4 #[.val (.int ji), .val (.int nn), .val fm] [])
  refine Go.via (fun t k => XS.iloadN X0.here hx rfl (hb hby d10_4) rfl k) ?_
  show Go p.tables e below P s₁ (mkF m 5 #[.val (.int ji), .val (.int nn), .val fm] [(.int ji)])
  refine Go.via (fun t k => XS.iloadN X0.here hx rfl (hb hby d10_5) rfl k) ?_
  show Go p.tables e below P s₁ (mkF m 6 #[.val (.int ji), .val (.int nn), .val fm] [(.int nn), (.int ji)])
  refine Go.via (fun t k => XS.icmpYes X0.here hx rfl (pc0 := 6) (pc' := 16) rfl (hb hby d10_6) rfl (tlt hjn).1 (by decide) (by decide) k) ?_
  show Go p.tables e below P s₁ (mkF m 16 #[.val (.int ji), .val (.int nn), .val fm] [])
  refine Go.via (fun t k => XS.iloadN X0.here hx rfl (hb hby d10_16) rfl k) ?_
  show Go p.tables e below P s₁ (mkF m 17 #[.val (.int ji), .val (.int nn), .val fm] [(.int ji)])
  obtain ⟨fs, hr, hrun, hended, hW, hsame⟩ := X0.leave (v := some (.int ji)) (fun h => by rw [Bd.returns] at h; cases h)
  refine ⟨_, _, retI X0 hx Bd.returns (hb hby d10_17) hr, hrun, hended, hP _ _ ⟨_, _, rfl, ?_, ⟨_, rfl⟩, hW, hsame.mono (by decide) (by decide)⟩⟩
  show Q10 Z ji nn fm h0 n0 _ s₁.heap _
  rw [e0]
  exact ⟨rfl, N0, rfl⟩
theorem own_pd1 : parseMethodDescriptor "(IILjava/util/function/BiFunction;)I" = some ⟨[.int, .int, (.object "java/util/function/BiFunction")], some .int⟩ := by decide +kernel
theorem d9_0 : decode jdk_42_method_155_code 0 = .ok (.iload_n 0, 1) := by decide +kernel
theorem d9_1 : decode jdk_42_method_155_code 1 = .ok (.iload_n 1, 1) := by decide +kernel
theorem d9_2 : decode jdk_42_method_155_code 2 = .ok (.getstatic 1053, 3) := by decide +kernel
theorem d9_5 : decode jdk_42_method_155_code 5 = .ok (.invokestatic 1059, 3) := by decide +kernel
theorem d9_8 : decode jdk_42_method_155_code 8 = .ok (.pop, 1) := by decide +kernel
theorem d9_9 : decode jdk_42_method_155_code 9 = .ok (.return_, 1) := by decide +kernel
theorem ef_9 (m : MethodId) (x0 : Int32) (x1 : Int32) : entryFrame m #[(.int x0), (.int x1)] 2 = mkF m 0 #[.val (.int x0), .val (.int x1)] [] := by first | (simp [entryFrame, mkF, argsToLocals, Value.category]; done) | rfl
def Q9 (Z : State) (ji : Int32) (nn : Int32) (fm : Value) (h0 : Heap) (n0 : Nat) (v : Option Value) (h : Heap) (L : List Loc) : Prop := v = none ∧ Fr n0 L ∧ h = h0
set_option maxRecDepth 65536 in
set_option maxHeartbeats 40000000 in
theorem rm9 (l : Launch) (Z : State) (a0 : Array Value) (hw : ∀ d ∈ tables_1, d.before a0 Z = true) (ws : List Jvm.Cond) (ji : Int32) (nn : Int32) (fm : Value) (h0 : Heap) (n0 : Nat) (Z0 : n0 ≤ h0.size) (O0 : Old Z n0 h0) (P1 : Sta Z Z.heap "jdk/internal/util/Preconditions" "SIOOBE_FORMATTER" "Ljava/util/function/BiFunction;" fm) (rfm : fm.isRef = true) (hj0 : ¬ (ji < (0 : Int32))) (hjn : ji < nn) :
    MetFree l (⟨"java/lang/String", "checkIndex", "(II)V"⟩ : MethodName) (head1 (Jvm.Cond.code (⟨"java/lang/String", "checkIndex", "(II)V"⟩ : MethodName) jdk_42_method_155_code 2 none :: ws) ({ frames := 1, cells := 0, slots := 0, locals := 14 } : Room)) (fun a U => a = #[(.int ji), (.int nn)] ∧ Z.Warmed39 U.vm ∧ U.heap = h0) (fun _ _ _ _ _ => True) (fun _ U o U' => ∃ v L, o = .returned v ∧ Q9 Z ji nn fm h0 n0 v U'.heap L ∧ FrameEnd U o U' L ({ frames := 1, cells := 0, slots := 0, locals := 14 } : Room).cells ({ frames := 1, cells := 0, slots := 0, locals := 14 } : Room).slots) := by
  refine MetFree.of_bodySF (plainFor_of_name own_pn0) hisR ?_
  intro p e s m args below meth c s₁ Bd hml0 hP hK
  obtain ⟨rfl, hZ, hh⟩ := hP
  have hx := Bd.exec
  have hby := Bd.bytes
  have hml : c.maxLocals = 2 := hml0
  have hown : s.vm.findClass "java/lang/String" = some m.cls := findClass_of_methodNamed Bd.named
  have hnm := (name_of_methodNamed Bd.named Bd.method).1
  have X0 : Stand p l e ({ frames := 1, cells := 0, slots := 0, locals := 14 } : Room) s m #[(.int ji), (.int nn)] below meth c s₁ [] 0 0 := Stand.of_body Bd
  have e0 : s₁.heap = h0 := by rw [← hh, Bd.state]; rfl
  have N0 := Fr.nil n0
  have K0 : Keep h0 h0 [] := Keep.refl _ _
  suffices GO : ∀ P : Outcome → State → Prop, (∀ o U', (∃ v L, o = .returned v ∧ Q9 Z ji nn fm h0 n0 v U'.heap L ∧ FrameEnd s o U' L ({ frames := 1, cells := 0, slots := 0, locals := 14 } : Room).cells ({ frames := 1, cells := 0, slots := 0, locals := 14 } : Room).slots) → P o U') → Go p.tables e below P s₁ (mkF m 0 #[.val (.int ji), .val (.int nn)] []) by
    obtain ⟨s2, o, st, r⟩ := GO _ (fun _ _ q => q)
    exact ⟨s2, o, castTop (ef_9 m ji nn) st, r⟩
  clear hh
  intro P hP
  show Go p.tables e below P s₁ (mkF m 0 #[.val (.int ji), .val (.int nn)] [])
  refine Go.via (fun t k => XS.iloadN X0.here hx rfl (hb hby d9_0) rfl k) ?_
  show Go p.tables e below P s₁ (mkF m 1 #[.val (.int ji), .val (.int nn)] [(.int ji)])
  refine Go.via (fun t k => XS.iloadN X0.here hx rfl (hb hby d9_1) rfl k) ?_
  show Go p.tables e below P s₁ (mkF m 2 #[.val (.int ji), .val (.int nn)] [(.int nn), (.int ji)])
  obtain ⟨T1, X1, e1, st1⟩ := getS2 X0 hx hZ hown (host := "") (Or.inl (hw _ (List.mem_of_getElem? (i := 51) rfl))) Via.refl e0 (P1.ext O0.2) (g := (mkF m 2 #[.val (.int ji), .val (.int nn)] [(.int nn), (.int ji)])) rfl (hb hby d9_2)
  refine Go.via st1 ?_
  show Go p.tables e below P T1 (mkF m 5 #[.val (.int ji), .val (.int nn)] [fm, (.int nn), (.int ji)])
  obtain ⟨_, _, ⟨T2, L2, k2, n2⟩, -, X2, ⟨Lc2, hQ2, l2, y2, z2⟩, st2⟩ := Jvm.LawKit.callS X1 hx (y := (⟨"jdk/internal/util/Preconditions", "checkIndex", "(IILjava/util/function/BiFunction;)I"⟩ : MethodName)) hown (mvT hZ (hw _ (List.mem_of_getElem? (i := 53) rfl))) (mvT hZ (hw _ (List.mem_of_getElem? (i := 54) rfl))) (mvT hZ (hw _ (List.mem_of_getElem? (i := 52) rfl))) (mvT hZ (hw _ (List.mem_of_getElem? (i := 55) rfl))) (by decide) (backOf (W := 0) (rm10 l Z a0 hw [] ji nn fm h0 n0 Z0 (by first | assumption | decide | omega : fm.isRef = true) (by first | assumption | decide | omega : ¬ (ji < (0 : Int32))) (by first | assumption | decide | omega : ji < nn)) hZ (hw _ (List.mem_of_getElem? (i := 55) rfl)) (hw _ (List.mem_of_getElem? (i := 52) rfl)) (by decide) (by decide)) (g := (mkF m 5 #[.val (.int ji), .val (.int nn)] [fm, (.int nn), (.int ji)])) rfl (by rw [hml]; rfl) (argsL := [(.int ji), (.int nn), fm]) (rest := []) (lenOf own_pd1 rfl) rfl (by show 2 * 0 + _ ≤ _; exact Nat.le_of_eq rfl) (hb hby d9_5) (fun _ _ => ⟨rfl, e1, (by decide : 0 + 0 ≤ _), (by decide : 0 + 0 ≤ _)⟩)
  dsimp only [Pt.U, Pt.locs, Pt.cells, Pt.slots] at X2 l2 y2 z2 st2 hQ2
  subst l2 y2 z2
  obtain ⟨rfl, Nq2, hh2⟩ := hQ2
  have N2 := Fr.app N0 Nq2
  refine Go.via st2 ?_
  show Go p.tables e below P T2 (mkF m 8 #[.val (.int ji), .val (.int nn)] [(.int ji)])
  refine Go.via (fun t k => XS.pop X2.here hx rfl (hb hby d9_8) rfl rfl k) ?_
  show Go p.tables e below P T2 (mkF m 9 #[.val (.int ji), .val (.int nn)] [])
  obtain ⟨fs, hr, hrun, hended, hW, hsame⟩ := X2.leave (v := none) (fun _ => rfl)
  refine ⟨_, _, X2.returnOut hx Bd.returns (hb hby d9_9) hr, hrun, hended, hP _ _ ⟨_, _, rfl, ?_, ⟨_, rfl⟩, hW, hsame.mono (by decide) (by decide)⟩⟩
  show Q9 Z ji nn fm h0 n0 _ T2.heap _
  rw [hh2]
  exact ⟨rfl, N2, rfl⟩
theorem own_pd2 : parseMethodDescriptor "(II)V" = some ⟨[.int, .int], none⟩ := by decide +kernel
theorem own_pn2 : plainName "java/lang/StringLatin1" = true := by first | (simp [plainName, overriddenIn]; done) | decide +kernel
theorem d8_0 : decode jdk_43_method_2_code 0 = .ok (.iload_n 1, 1) := by decide +kernel
theorem d8_1 : decode jdk_43_method_2_code 1 = .ok (.aload_n 0, 1) := by decide +kernel
theorem d8_2 : decode jdk_43_method_2_code 2 = .ok (.arraylength, 1) := by decide +kernel
theorem d8_3 : decode jdk_43_method_2_code 3 = .ok (.invokestatic 9, 3) := by decide +kernel
theorem d8_6 : decode jdk_43_method_2_code 6 = .ok (.aload_n 0, 1) := by decide +kernel
theorem d8_7 : decode jdk_43_method_2_code 7 = .ok (.iload_n 1, 1) := by decide +kernel
theorem d8_8 : decode jdk_43_method_2_code 8 = .ok (.baload, 1) := by decide +kernel
theorem d8_9 : decode jdk_43_method_2_code 9 = .ok (.sipush 255, 3) := by decide +kernel
theorem d8_12 : decode jdk_43_method_2_code 12 = .ok (.iand, 1) := by decide +kernel
theorem d8_13 : decode jdk_43_method_2_code 13 = .ok (.i2c, 1) := by decide +kernel
theorem d8_14 : decode jdk_43_method_2_code 14 = .ok (.ireturn, 1) := by decide +kernel
theorem ef_8 (m : MethodId) (x0 : Addr) (x1 : Int32) : entryFrame m #[(.ref x0), (.int x1)] 2 = mkF m 0 #[.val (.ref x0), .val (.int x1)] [] := by first | (simp [entryFrame, mkF, argsToLocals, Value.category]; done) | rfl
def Q8 (Z : State) (tb : Addr) (ji : Int32) (fm : Value) (kk : ClassId) (nn : Int32) (vs : List Value) (xx : Int32) (h0 : Heap) (n0 : Nat) (v : Option Value) (h : Heap) (L : List Loc) : Prop := v = some (.int (xx &&& (255 : Int32))) ∧ Fr n0 L ∧ h = h0
set_option maxRecDepth 65536 in
set_option maxHeartbeats 40000000 in
theorem rm8 (l : Launch) (Z : State) (a0 : Array Value) (hw : ∀ d ∈ tables_1, d.before a0 Z = true) (ws : List Jvm.Cond) (tb : Addr) (ji : Int32) (fm : Value) (kk : ClassId) (nn : Int32) (vs : List Value) (xx : Int32) (h0 : Heap) (n0 : Nat) (Z0 : n0 ≤ h0.size) (O0 : Old Z n0 h0) (P1 : Sta Z Z.heap "jdk/internal/util/Preconditions" "SIOOBE_FORMATTER" "Ljava/util/function/BiFunction;" fm) (rfm : fm.isRef = true) (P3 : Arv Z h0 tb kk .byte nn vs (.int (0 : Int32))) (hj0 : ¬ (ji < (0 : Int32))) (hjn : ji < nn) (hat : vs.getD ji.toNatClampNeg (.int (0 : Int32)) = .int xx) :
    MetFree l (⟨"java/lang/StringLatin1", "charAt", "([BI)C"⟩ : MethodName) (head1 (Jvm.Cond.code (⟨"java/lang/StringLatin1", "charAt", "([BI)C"⟩ : MethodName) jdk_43_method_2_code 2 (some .char) :: ws) ({ frames := 2, cells := 0, slots := 0, locals := 27 } : Room)) (fun a U => a = #[(.ref tb), (.int ji)] ∧ Z.Warmed39 U.vm ∧ U.heap = h0) (fun _ _ _ _ _ => True) (fun _ U o U' => ∃ v L, o = .returned v ∧ Q8 Z tb ji fm kk nn vs xx h0 n0 v U'.heap L ∧ FrameEnd U o U' L ({ frames := 2, cells := 0, slots := 0, locals := 27 } : Room).cells ({ frames := 2, cells := 0, slots := 0, locals := 27 } : Room).slots) := by
  refine MetFree.of_bodySF (plainFor_of_name own_pn2) hisR ?_
  intro p e s m args below meth c s₁ Bd hml0 hP hK
  obtain ⟨rfl, hZ, hh⟩ := hP
  have hx := Bd.exec
  have hby := Bd.bytes
  have hml : c.maxLocals = 2 := hml0
  have hown : s.vm.findClass "java/lang/StringLatin1" = some m.cls := findClass_of_methodNamed Bd.named
  have hnm := (name_of_methodNamed Bd.named Bd.method).1
  have X0 : Stand p l e ({ frames := 2, cells := 0, slots := 0, locals := 27 } : Room) s m #[(.ref tb), (.int ji)] below meth c s₁ [] 0 0 := Stand.of_body Bd
  have e0 : s₁.heap = h0 := by rw [← hh, Bd.state]; rfl
  have N0 := Fr.nil n0
  have K0 : Keep h0 h0 [] := Keep.refl _ _
  suffices GO : ∀ P : Outcome → State → Prop, (∀ o U', (∃ v L, o = .returned v ∧ Q8 Z tb ji fm kk nn vs xx h0 n0 v U'.heap L ∧ FrameEnd s o U' L ({ frames := 2, cells := 0, slots := 0, locals := 27 } : Room).cells ({ frames := 2, cells := 0, slots := 0, locals := 27 } : Room).slots) → P o U') → Go p.tables e below P s₁ (mkF m 0 #[.val (.ref tb), .val (.int ji)] []) by
    obtain ⟨s2, o, st, r⟩ := GO _ (fun _ _ q => q)
    exact ⟨s2, o, castTop (ef_8 m tb ji) st, r⟩
  clear hh
  intro P hP
  show Go p.tables e below P s₁ (mkF m 0 #[.val (.ref tb), .val (.int ji)] [])
  refine Go.via (fun t k => XS.iloadN X0.here hx rfl (hb hby d8_0) rfl k) ?_
  show Go p.tables e below P s₁ (mkF m 1 #[.val (.ref tb), .val (.int ji)] [(.int ji)])
  refine Go.via (fun t k => XS.aloadN X0.here hx rfl (hb hby d8_1) rfl rfl k) ?_
  show Go p.tables e below P s₁ (mkF m 2 #[.val (.ref tb), .val (.int ji)] [(.ref tb), (.int ji)])
  obtain ⟨c1, A1, -, S1, N1, -, -⟩ := id P3
  refine Go.via (fun t k => X0.arraylength hx (by rw [e0]; exact A1.1) (State.isArrayOf_alike hZ.alike A1.2.1) (g := (mkF m 2 #[.val (.ref tb), .val (.int ji)] [(.ref tb), (.int ji)])) rfl rfl (hb hby d8_2) t (by rw [len_of S1 N1]; exact k)) ?_
  show Go p.tables e below P s₁ (mkF m 3 #[.val (.ref tb), .val (.int ji)] [(.int nn), (.int ji)])
  obtain ⟨_, _, ⟨T2, L2, k2, n2⟩, -, X2, ⟨Lc2, hQ2, l2, y2, z2⟩, st2⟩ := Jvm.LawKit.callS X0 hx (y := (⟨"java/lang/String", "checkIndex", "(II)V"⟩ : MethodName)) hown (mvT hZ (hw _ (List.mem_of_getElem? (i := 48) rfl))) (mvT hZ (hw _ (List.mem_of_getElem? (i := 49) rfl))) (mvT hZ (hw _ (List.mem_of_getElem? (i := 17) rfl))) (mvT hZ (hw _ (List.mem_of_getElem? (i := 50) rfl))) (by decide) (backOf (W := 0) (rm9 l Z a0 hw [] ji nn fm h0 n0 Z0 O0 P1 (by first | assumption | decide | omega : fm.isRef = true) (by first | assumption | decide | omega : ¬ (ji < (0 : Int32))) (by first | assumption | decide | omega : ji < nn)) hZ (hw _ (List.mem_of_getElem? (i := 50) rfl)) (hw _ (List.mem_of_getElem? (i := 17) rfl)) (by decide) (by decide)) (g := (mkF m 3 #[.val (.ref tb), .val (.int ji)] [(.int nn), (.int ji)])) rfl (by rw [hml]; rfl) (argsL := [(.int ji), (.int nn)]) (rest := []) (lenOf own_pd2 rfl) rfl (by show 2 * 0 + _ ≤ _; exact Nat.le_of_eq rfl) (hb hby d8_3) (fun _ _ => ⟨rfl, e0, (by decide : 0 + 0 ≤ _), (by decide : 0 + 0 ≤ _)⟩)
  dsimp only [Pt.U, Pt.locs, Pt.cells, Pt.slots] at X2 l2 y2 z2 st2 hQ2
  subst l2 y2 z2
  obtain ⟨rfl, Nq2, hh2⟩ := hQ2
  have N2 := Fr.app N0 Nq2
  refine Go.via st2 ?_
  show Go p.tables e below P T2 (mkF m 6 #[.val (.ref tb), .val (.int ji)] [])
  refine Go.via (fun t k => XS.aloadN X2.here hx rfl (hb hby d8_6) rfl rfl k) ?_
  show Go p.tables e below P T2 (mkF m 7 #[.val (.ref tb), .val (.int ji)] [(.ref tb)])
  refine Go.via (fun t k => XS.iloadN X2.here hx rfl (hb hby d8_7) rfl k) ?_
  show Go p.tables e below P T2 (mkF m 8 #[.val (.ref tb), .val (.int ji)] [(.int ji), (.ref tb)])
  obtain ⟨c3, A3, q3, S3, N3, H3, G3⟩ := id P3
  have hin3 : ¬ (ji < 0 ∨ c3.slots.size ≤ (ji).toNatClampNeg) := inb_of S3 ⟨hj0, hjn⟩
  have hat3 : c3.slots[(ji).toNatClampNeg]? = some (.int xx) := (H3 _ (Nat.lt_of_not_le fun q => hin3 (Or.inr q))).trans (congrArg some hat)
  refine Go.via (fun t k => X2.baloadBytes hx (j := ji) (v := (.int xx)) (by rw [hh2]; exact A3.1) (State.isArrayOf_alike hZ.alike A3.2.1) A3.2.2 hin3 hat3 (g := (mkF m 8 #[.val (.ref tb), .val (.int ji)] [(.int ji), (.ref tb)])) rfl rfl (hb hby d8_8) t k) ?_
  show Go p.tables e below P T2 (mkF m 9 #[.val (.ref tb), .val (.int ji)] [(.int xx)])
  refine Go.via (fun t k => XS.sipush X2.here hx rfl (hb hby d8_9) k) ?_
  show Go p.tables e below P T2 (mkF m 12 #[.val (.ref tb), .val (.int ji)] [(.int (255 : Int32)), (.int xx)])
  refine Go.via (fun t k => XS.iand X2.here hx rfl (hb hby d8_12) rfl k) ?_
  show Go p.tables e below P T2 (mkF m 13 #[.val (.ref tb), .val (.int ji)] [(.int (xx &&& (255 : Int32)))])
  refine Go.via (fun t k => XS.i2c X2.here hx rfl (hb hby d8_13) rfl k) ?_
  show Go p.tables e below P T2 (mkF m 14 #[.val (.ref tb), .val (.int ji)] [(.int ((xx &&& (255 : Int32)).toUInt32.toUInt16.toUInt32.toInt32))])
  obtain ⟨fs, hr, hrun, hended, hW, hsame⟩ := X2.leave (v := some (.int (xx &&& (255 : Int32)))) (fun h => by rw [Bd.returns] at h; cases h)
  refine ⟨_, _, retZ X2 hx (t := .char) Bd.returns (by simp) (hb hby d8_14) (own_b2c xx) hr, hrun, hended, hP _ _ ⟨_, _, rfl, ?_, ⟨_, rfl⟩, hW, hsame.mono (by decide) (by decide)⟩⟩
  show Q8 Z tb ji fm kk nn vs xx h0 n0 _ T2.heap _
  rw [hh2]
  exact ⟨rfl, N2, rfl⟩
theorem own_pd3 : parseMethodDescriptor "()Z" = some ⟨[], some .boolean⟩ := by decide +kernel
theorem own_pd4 : parseMethodDescriptor "([BI)C" = some ⟨[(.array .byte), .int], some .char⟩ := by decide +kernel
theorem d6_0 : decode jdk_42_method_56_code 0 = .ok (.aload_n 0, 1) := by decide +kernel
theorem d6_1 : decode jdk_42_method_56_code 1 = .ok (.invokevirtual 492, 3) := by decide +kernel
theorem d6_4 : decode jdk_42_method_56_code 4 = .ok (.ifCond .eq 12, 3) := by decide +kernel
theorem d6_7 : decode jdk_42_method_56_code 7 = .ok (.aload_n 0, 1) := by decide +kernel
theorem d6_8 : decode jdk_42_method_56_code 8 = .ok (.getfield 9, 3) := by decide +kernel
theorem d6_11 : decode jdk_42_method_56_code 11 = .ok (.iload_n 1, 1) := by decide +kernel
theorem d6_12 : decode jdk_42_method_56_code 12 = .ok (.invokestatic 495, 3) := by decide +kernel
theorem d6_15 : decode jdk_42_method_56_code 15 = .ok (.ireturn, 1) := by decide +kernel
theorem ef_6 (m : MethodId) (x0 : Addr) (x1 : Int32) : entryFrame m #[(.ref x0), (.int x1)] 2 = mkF m 0 #[.val (.ref x0), .val (.int x1)] [] := by first | (simp [entryFrame, mkF, argsToLocals, Value.category]; done) | rfl
def Q6 (Z : State) (so : Addr) (ji : Int32) (fm : Value) (cs : Int32) (tb : Addr) (kk : ClassId) (nn : Int32) (vs : List Value) (xx : Int32) (h0 : Heap) (n0 : Nat) (v : Option Value) (h : Heap) (L : List Loc) : Prop := v = some (.int (xx &&& (255 : Int32))) ∧ Fr n0 L ∧ h = h0
set_option maxRecDepth 65536 in
set_option maxHeartbeats 40000000 in
theorem rm6 (l : Launch) (Z : State) (a0 : Array Value) (hw : ∀ d ∈ tables_1, d.before a0 Z = true) (ws : List Jvm.Cond) (so : Addr) (ji : Int32) (fm : Value) (cs : Int32) (tb : Addr) (kk : ClassId) (nn : Int32) (vs : List Value) (xx : Int32) (h0 : Heap) (n0 : Nat) (Z0 : n0 ≤ h0.size) (O0 : Old Z n0 h0) (P1 : Sta Z Z.heap "java/lang/String" "COMPACT_STRINGS" "Z" (.int cs)) (hcs : ¬ cs = (0 : Int32)) (P3 : Sta Z Z.heap "jdk/internal/util/Preconditions" "SIOOBE_FORMATTER" "Ljava/util/function/BiFunction;" fm) (rfm : fm.isRef = true) (P5 : Exa Z h0 so "java/lang/String") (P6 : Fld Z h0 so "java/lang/String" "value" "[B" (.ref tb)) (P7 : Fld Z h0 so "java/lang/String" "coder" "B" (.int (0 : Int32))) (P8 : Arv Z h0 tb kk .byte nn vs (.int (0 : Int32))) (hj0 : ¬ (ji < (0 : Int32))) (hjn : ji < nn) (hat : vs.getD ji.toNatClampNeg (.int (0 : Int32)) = .int xx) :
    MetFree l (⟨"java/lang/String", "charAt", "(I)C"⟩ : MethodName) (head1 (Jvm.Cond.code (⟨"java/lang/String", "charAt", "(I)C"⟩ : MethodName) jdk_42_method_56_code 2 (some .char) :: ws) ({ frames := 3, cells := 0, slots := 0, locals := 40 } : Room)) (fun a U => a = #[(.ref so), (.int ji)] ∧ Z.Warmed39 U.vm ∧ U.heap = h0) (fun _ _ _ _ _ => True) (fun _ U o U' => ∃ v L, o = .returned v ∧ Q6 Z so ji fm cs tb kk nn vs xx h0 n0 v U'.heap L ∧ FrameEnd U o U' L ({ frames := 3, cells := 0, slots := 0, locals := 40 } : Room).cells ({ frames := 3, cells := 0, slots := 0, locals := 40 } : Room).slots) := by
  refine MetFree.of_bodySF (plainFor_of_name own_pn0) hisR ?_
  intro p e s m args below meth c s₁ Bd hml0 hP hK
  obtain ⟨rfl, hZ, hh⟩ := hP
  have hx := Bd.exec
  have hby := Bd.bytes
  have hml : c.maxLocals = 2 := hml0
  have hown : s.vm.findClass "java/lang/String" = some m.cls := findClass_of_methodNamed Bd.named
  have hnm := (name_of_methodNamed Bd.named Bd.method).1
  have X0 : Stand p l e ({ frames := 3, cells := 0, slots := 0, locals := 40 } : Room) s m #[(.ref so), (.int ji)] below meth c s₁ [] 0 0 := Stand.of_body Bd
  have e0 : s₁.heap = h0 := by rw [← hh, Bd.state]; rfl
  have N0 := Fr.nil n0
  have K0 : Keep h0 h0 [] := Keep.refl _ _
  suffices GO : ∀ P : Outcome → State → Prop, (∀ o U', (∃ v L, o = .returned v ∧ Q6 Z so ji fm cs tb kk nn vs xx h0 n0 v U'.heap L ∧ FrameEnd s o U' L ({ frames := 3, cells := 0, slots := 0, locals := 40 } : Room).cells ({ frames := 3, cells := 0, slots := 0, locals := 40 } : Room).slots) → P o U') → Go p.tables e below P s₁ (mkF m 0 #[.val (.ref so), .val (.int ji)] []) by
    obtain ⟨s2, o, st, r⟩ := GO _ (fun _ _ q => q)
    exact ⟨s2, o, castTop (ef_6 m so ji) st, r⟩
  clear hh
  intro P hP
  show Go p.tables e below P s₁ (mkF m 0 #[.val (.ref so), .val (.int ji)] [])
  refine Go.via (fun t k => XS.aloadN X0.here hx rfl (hb hby d6_0) rfl rfl k) ?_
  show Go p.tables e below P s₁ (mkF m 1 #[.val (.ref so), .val (.int ji)] [(.ref so)])
  obtain ⟨cq1, kq1, q1a, q1b, q1c⟩ := isOf hZ e0 P5
  obtain ⟨_, _, ⟨T1, L1, k1, n1⟩, -, X1, ⟨Lc1, hQ1, l1, y1, z1⟩, st1⟩ := X0.virtualBack hx (y := (⟨"java/lang/String", "isLatin1", "()Z"⟩ : MethodName)) (z := (⟨"java/lang/String", "isLatin1", "()Z"⟩ : MethodName)) hown (mvT hZ (hw _ (List.mem_of_getElem? (i := 39) rfl))) (mvT hZ (hw _ (List.mem_of_getElem? (i := 40) rfl))) (notFace_of_selects (args := #[]) (mvT hZ (hw _ (List.mem_of_getElem? (i := 42) rfl)))) (mvT hZ (hw _ (List.mem_of_getElem? (i := 42) rfl))) (mvT hZ (hw _ (List.mem_of_getElem? (i := 41) rfl))) (by decide) (backOf (W := 0) (rm7 l Z a0 hw [] so cs h0 n0 Z0 O0 P1 (by first | assumption | decide | omega : ¬ cs = (0 : Int32)) P7) hZ (hw _ (List.mem_of_getElem? (i := 43) rfl)) (hw _ (List.mem_of_getElem? (i := 17) rfl)) (by decide) (by decide)) q1a q1c (g := (mkF m 1 #[.val (.ref so), .val (.int ji)] [(.ref so)])) rfl (by rw [hml]; rfl) (Steps.refl _) (argsL := []) (rest := []) (lenOf own_pd3 rfl) rfl (by show 2 * 0 + _ ≤ _; exact Nat.le_of_eq rfl) (hb hby d6_1) (fun _ _ => ⟨rfl, e0, (by decide : 0 + 0 ≤ _), (by decide : 0 + 0 ≤ _)⟩)
  dsimp only [Pt.U, Pt.locs, Pt.cells, Pt.slots] at X1 l1 y1 z1 st1 hQ1
  subst l1 y1 z1
  obtain ⟨rfl, Nq1, hh1⟩ := hQ1
  have N1 := Fr.app N0 Nq1
  refine Go.hop st1 ?_
  show Go p.tables e below P T1 (mkF m 4 #[.val (.ref so), .val (.int ji)] [(.int (1 : Int32))])
  refine Go.via (fun t k => XS.ifNo X1.here hx rfl (hb hby d6_4) rfl ((if0 _ _).trans (feq (by decide : ¬ ((1 : Int32) = (0 : Int32)))).1) k) ?_
  show Go p.tables e below P T1 (mkF m 7 #[.val (.ref so), .val (.int ji)] [])
  refine Go.via (fun t k => XS.aloadN X1.here hx rfl (hb hby d6_7) rfl rfl k) ?_
  show Go p.tables e below P T1 (mkF m 8 #[.val (.ref so), .val (.int ji)] [(.ref so)])
  obtain ⟨T2, X2, e2, st2⟩ := getF X1 hx hZ hown (host := "") (Or.inl (hw _ (List.mem_of_getElem? (i := 19) rfl))) Via.refl hh1 P6 (g := (mkF m 8 #[.val (.ref so), .val (.int ji)] [(.ref so)])) rfl rfl (hb hby d6_8)
  refine Go.via st2 ?_
  show Go p.tables e below P T2 (mkF m 11 #[.val (.ref so), .val (.int ji)] [(.ref tb)])
  refine Go.via (fun t k => XS.iloadN X2.here hx rfl (hb hby d6_11) rfl k) ?_
  show Go p.tables e below P T2 (mkF m 12 #[.val (.ref so), .val (.int ji)] [(.int ji), (.ref tb)])
  obtain ⟨_, _, ⟨T3, L3, k3, n3⟩, -, X3, ⟨Lc3, hQ3, l3, y3, z3⟩, st3⟩ := Jvm.LawKit.callS X2 hx (y := (⟨"java/lang/StringLatin1", "charAt", "([BI)C"⟩ : MethodName)) hown (mvT hZ (hw _ (List.mem_of_getElem? (i := 44) rfl))) (mvT hZ (hw _ (List.mem_of_getElem? (i := 45) rfl))) (mvT hZ (hw _ (List.mem_of_getElem? (i := 46) rfl))) (mvT hZ (hw _ (List.mem_of_getElem? (i := 47) rfl))) (by decide) (backOf (W := 0) (rm8 l Z a0 hw [] tb ji fm kk nn vs xx h0 n0 Z0 O0 P3 (by first | assumption | decide | omega : fm.isRef = true) P8 (by first | assumption | decide | omega : ¬ (ji < (0 : Int32))) (by first | assumption | decide | omega : ji < nn) hat) hZ (hw _ (List.mem_of_getElem? (i := 47) rfl)) (hw _ (List.mem_of_getElem? (i := 46) rfl)) (by decide) (by decide)) (g := (mkF m 12 #[.val (.ref so), .val (.int ji)] [(.int ji), (.ref tb)])) rfl (by rw [hml]; rfl) (argsL := [(.ref tb), (.int ji)]) (rest := []) (lenOf own_pd4 rfl) rfl (by show 2 * 0 + _ ≤ _; exact Nat.le_of_eq rfl) (hb hby d6_12) (fun _ _ => ⟨rfl, e2, (by decide : 0 + 0 ≤ _), (by decide : 0 + 0 ≤ _)⟩)
  dsimp only [Pt.U, Pt.locs, Pt.cells, Pt.slots] at X3 l3 y3 z3 st3 hQ3
  subst l3 y3 z3
  obtain ⟨rfl, Nq3, hh3⟩ := hQ3
  have N3 := Fr.app N1 Nq3
  refine Go.via st3 ?_
  show Go p.tables e below P T3 (mkF m 15 #[.val (.ref so), .val (.int ji)] [(.int (xx &&& (255 : Int32)))])
  obtain ⟨fs, hr, hrun, hended, hW, hsame⟩ := X3.leave (v := some (.int (xx &&& (255 : Int32)))) (fun h => by rw [Bd.returns] at h; cases h)
  refine ⟨_, _, retZ X3 hx (t := .char) Bd.returns (by simp) (hb hby d6_15) (own_nc xx) hr, hrun, hended, hP _ _ ⟨_, _, rfl, ?_, ⟨_, rfl⟩, hW, hsame.mono (by decide) (by decide)⟩⟩
  show Q6 Z so ji fm cs tb kk nn vs xx h0 n0 _ T3.heap _
  rw [hh3]
  exact ⟨rfl, N3, rfl⟩
theorem own_pn3 : plainName "com/example/referee/referee/model/Quantifier" = true := by first | (simp [plainName, overriddenIn]; done) | decide +kernel
theorem d2_0 : decode prog_46_method_5_code 0 = .ok (.aload_n 0, 1) := by decide +kernel
theorem d2_1 : decode prog_46_method_5_code 1 = .ok (.getfield 35, 3) := by decide +kernel
theorem d2_4 : decode prog_46_method_5_code 4 = .ok (.areturn, 1) := by decide +kernel
theorem ef_2 (m : MethodId) (x0 : Addr) : entryFrame m #[(.ref x0)] 1 = mkF m 0 #[.val (.ref x0)] [] := by first | (simp [entryFrame, mkF, argsToLocals, Value.category]; done) | rfl
def Q2 (Z : State) (oa : Addr) (os : Addr) (h0 : Heap) (n0 : Nat) (v : Option Value) (h : Heap) (L : List Loc) : Prop := v = some (.ref os) ∧ Fr n0 L ∧ h = h0
set_option maxRecDepth 65536 in
set_option maxHeartbeats 40000000 in
theorem rm2 (l : Launch) (Z : State) (a0 : Array Value) (hw : ∀ d ∈ tables_1, d.before a0 Z = true) (ws : List Jvm.Cond) (oa : Addr) (os : Addr) (h0 : Heap) (n0 : Nat) (Z0 : n0 ≤ h0.size) (P0 : Fld Z h0 oa "com/example/referee/referee/model/Quantifier" "symbol" "Ljava/lang/String;" (.ref os)) :
    MetFree l (⟨"com/example/referee/referee/model/Quantifier", "symbol", "()Ljava/lang/String;"⟩ : MethodName) (head1 (Jvm.Cond.code (⟨"com/example/referee/referee/model/Quantifier", "symbol", "()Ljava/lang/String;"⟩ : MethodName) prog_46_method_5_code 1 (some (.object "java/lang/String")) :: ws) ({ frames := 0, cells := 0, slots := 0, locals := 0 } : Room)) (fun a U => a = #[(.ref oa)] ∧ Z.Warmed39 U.vm ∧ U.heap = h0) (fun _ _ _ _ _ => True) (fun _ U o U' => ∃ v L, o = .returned v ∧ Q2 Z oa os h0 n0 v U'.heap L ∧ FrameEnd U o U' L ({ frames := 0, cells := 0, slots := 0, locals := 0 } : Room).cells ({ frames := 0, cells := 0, slots := 0, locals := 0 } : Room).slots) := by
  refine MetFree.of_bodySF (plainFor_of_name own_pn3) hisR ?_
  intro p e s m args below meth c s₁ Bd hml0 hP hK
  obtain ⟨rfl, hZ, hh⟩ := hP
  have hx := Bd.exec
  have hby := Bd.bytes
  have hml : c.maxLocals = 1 := hml0
  have hown : s.vm.findClass "com/example/referee/referee/model/Quantifier" = some m.cls := findClass_of_methodNamed Bd.named
  have hnm := (name_of_methodNamed Bd.named Bd.method).1
  have X0 : Stand p l e ({ frames := 0, cells := 0, slots := 0, locals := 0 } : Room) s m #[(.ref oa)] below meth c s₁ [] 0 0 := Stand.of_body Bd
  have e0 : s₁.heap = h0 := by rw [← hh, Bd.state]; rfl
  have N0 := Fr.nil n0
  have K0 : Keep h0 h0 [] := Keep.refl _ _
  suffices GO : ∀ P : Outcome → State → Prop, (∀ o U', (∃ v L, o = .returned v ∧ Q2 Z oa os h0 n0 v U'.heap L ∧ FrameEnd s o U' L ({ frames := 0, cells := 0, slots := 0, locals := 0 } : Room).cells ({ frames := 0, cells := 0, slots := 0, locals := 0 } : Room).slots) → P o U') → Go p.tables e below P s₁ (mkF m 0 #[.val (.ref oa)] []) by
    obtain ⟨s2, o, st, r⟩ := GO _ (fun _ _ q => q)
    exact ⟨s2, o, castTop (ef_2 m oa) st, r⟩
  clear hh
  intro P hP
  show Go p.tables e below P s₁ (mkF m 0 #[.val (.ref oa)] [])
  refine Go.via (fun t k => XS.aloadN X0.here hx rfl (hb hby d2_0) rfl rfl k) ?_
  show Go p.tables e below P s₁ (mkF m 1 #[.val (.ref oa)] [(.ref oa)])
  obtain ⟨T1, X1, e1, st1⟩ := getF X0 hx hZ hown (host := "") (Or.inl (hw _ (List.mem_of_getElem? (i := 11) rfl))) Via.refl e0 P0 (g := (mkF m 1 #[.val (.ref oa)] [(.ref oa)])) rfl rfl (hb hby d2_1)
  refine Go.via st1 ?_
  show Go p.tables e below P T1 (mkF m 4 #[.val (.ref oa)] [(.ref os)])
  obtain ⟨fs, hr, hrun, hended, hW, hsame⟩ := X1.leave (v := some (.ref os)) (fun h => by rw [Bd.returns] at h; cases h)
  refine ⟨_, _, retA X1 hx Bd.returns rfl rfl rfl (hb hby d2_4) hr, hrun, hended, hP _ _ ⟨_, _, rfl, ?_, ⟨_, rfl⟩, hW, hsame.mono (by decide) (by decide)⟩⟩
  show Q2 Z oa os h0 n0 _ T1.heap _
  rw [e1]
  exact ⟨rfl, N0, rfl⟩
theorem d1_0 : decode prog_46_method_4_code 0 = .ok (.iload_n 0, 1) := by decide +kernel
theorem d1_1 : decode prog_46_method_4_code 1 = .ok (.lookupswitch 56 #[(42, 42), (43, 49), (63, 35)], 35) := by decide +kernel
theorem d1_36 : decode prog_46_method_4_code 36 = .ok (.getstatic 7, 3) := by decide +kernel
theorem d1_39 : decode prog_46_method_4_code 39 = .ok (.astore_n 1, 1) := by decide +kernel
theorem d1_40 : decode prog_46_method_4_code 40 = .ok (.goto 21, 3) := by decide +kernel
theorem d1_43 : decode prog_46_method_4_code 43 = .ok (.getstatic 10, 3) := by decide +kernel
theorem d1_46 : decode prog_46_method_4_code 46 = .ok (.astore_n 1, 1) := by decide +kernel
theorem d1_47 : decode prog_46_method_4_code 47 = .ok (.goto 14, 3) := by decide +kernel
theorem d1_50 : decode prog_46_method_4_code 50 = .ok (.getstatic 13, 3) := by decide +kernel
theorem d1_53 : decode prog_46_method_4_code 53 = .ok (.astore_n 1, 1) := by decide +kernel
theorem d1_54 : decode prog_46_method_4_code 54 = .ok (.goto 7, 3) := by decide +kernel
theorem d1_57 : decode prog_46_method_4_code 57 = .ok (.getstatic 3, 3) := by decide +kernel
theorem d1_60 : decode prog_46_method_4_code 60 = .ok (.astore_n 1, 1) := by decide +kernel
theorem d1_61 : decode prog_46_method_4_code 61 = .ok (.aload_n 1, 1) := by decide +kernel
theorem d1_62 : decode prog_46_method_4_code 62 = .ok (.areturn, 1) := by decide +kernel
theorem ef_1 (m : MethodId) (x0 : Int32) : entryFrame m #[(.int x0)] 2 = mkF m 0 #[.val (.int x0), .unset] [] := by first | (simp [entryFrame, mkF, argsToLocals, Value.category]; done) | rfl
def Q1 (Z : State) (ch : Int32) (aOPTIONAL : Addr) (aZERO_OR_MORE : Addr) (aONE_OR_MORE : Addr) (aONE : Addr) (h0 : Heap) (n0 : Nat) (v : Option Value) (h : Heap) (L : List Loc) : Prop := ∃ (r : Addr), v = some (.ref r) ∧ Fr n0 L ∧ h = h0 ∧ ((ch = (63 : Int32) ∧ r = aOPTIONAL) ∨ (ch = (42 : Int32) ∧ r = aZERO_OR_MORE) ∨ (ch = (43 : Int32) ∧ r = aONE_OR_MORE) ∨ ((¬ ch = (63 : Int32) ∧ ¬ ch = (42 : Int32) ∧ ¬ ch = (43 : Int32)) ∧ r = aONE))
set_option maxRecDepth 65536 in
set_option maxHeartbeats 40000000 in
theorem rm1 (l : Launch) (Z : State) (a0 : Array Value) (hw : ∀ d ∈ tables_1, d.before a0 Z = true) (ws : List Jvm.Cond) (ch : Int32) (aOPTIONAL : Addr) (aZERO_OR_MORE : Addr) (aONE_OR_MORE : Addr) (aONE : Addr) (h0 : Heap) (n0 : Nat) (Z0 : n0 ≤ h0.size) (O0 : Old Z n0 h0) (P1 : Sta Z Z.heap "com/example/referee/referee/model/Quantifier" "OPTIONAL" "Lcom/example/referee/referee/model/Quantifier;" (.ref aOPTIONAL)) (P2 : Sta Z Z.heap "com/example/referee/referee/model/Quantifier" "ZERO_OR_MORE" "Lcom/example/referee/referee/model/Quantifier;" (.ref aZERO_OR_MORE)) (P3 : Sta Z Z.heap "com/example/referee/referee/model/Quantifier" "ONE_OR_MORE" "Lcom/example/referee/referee/model/Quantifier;" (.ref aONE_OR_MORE)) (P4 : Sta Z Z.heap "com/example/referee/referee/model/Quantifier" "ONE" "Lcom/example/referee/referee/model/Quantifier;" (.ref aONE)) :
    MetFree l (⟨"com/example/referee/referee/model/Quantifier", "of", "(I)Lcom/example/referee/referee/model/Quantifier;"⟩ : MethodName) (head1 (Jvm.Cond.code (⟨"com/example/referee/referee/model/Quantifier", "of", "(I)Lcom/example/referee/referee/model/Quantifier;"⟩ : MethodName) prog_46_method_4_code 2 (some (.object "com/example/referee/referee/model/Quantifier")) :: ws) ({ frames := 0, cells := 0, slots := 0, locals := 0 } : Room)) (fun a U => a = #[(.int ch)] ∧ Z.Warmed39 U.vm ∧ U.heap = h0) (fun _ _ _ _ _ => True) (fun _ U o U' => ∃ v L, o = .returned v ∧ Q1 Z ch aOPTIONAL aZERO_OR_MORE aONE_OR_MORE aONE h0 n0 v U'.heap L ∧ FrameEnd U o U' L ({ frames := 0, cells := 0, slots := 0, locals := 0 } : Room).cells ({ frames := 0, cells := 0, slots := 0, locals := 0 } : Room).slots) := by
  refine MetFree.of_bodySF (plainFor_of_name own_pn3) hisR ?_
  intro p e s m args below meth c s₁ Bd hml0 hP hK
  obtain ⟨rfl, hZ, hh⟩ := hP
  have hx := Bd.exec
  have hby := Bd.bytes
  have hml : c.maxLocals = 2 := hml0
  have hown : s.vm.findClass "com/example/referee/referee/model/Quantifier" = some m.cls := findClass_of_methodNamed Bd.named
  have hnm := (name_of_methodNamed Bd.named Bd.method).1
  have X0 : Stand p l e ({ frames := 0, cells := 0, slots := 0, locals := 0 } : Room) s m #[(.int ch)] below meth c s₁ [] 0 0 := Stand.of_body Bd
  have e0 : s₁.heap = h0 := by rw [← hh, Bd.state]; rfl
  have N0 := Fr.nil n0
  have K0 : Keep h0 h0 [] := Keep.refl _ _
  suffices GO : ∀ P : Outcome → State → Prop, (∀ o U', (∃ v L, o = .returned v ∧ Q1 Z ch aOPTIONAL aZERO_OR_MORE aONE_OR_MORE aONE h0 n0 v U'.heap L ∧ FrameEnd s o U' L ({ frames := 0, cells := 0, slots := 0, locals := 0 } : Room).cells ({ frames := 0, cells := 0, slots := 0, locals := 0 } : Room).slots) → P o U') → Go p.tables e below P s₁ (mkF m 0 #[.val (.int ch), .unset] []) by
    obtain ⟨s2, o, st, r⟩ := GO _ (fun _ _ q => q)
    exact ⟨s2, o, castTop (ef_1 m ch) st, r⟩
  clear hh
  intro P hP
  show Go p.tables e below P s₁ (mkF m 0 #[.val (.int ch), .unset] [])
  refine Go.via (fun t k => XS.iloadN X0.here hx rfl (hb hby d1_0) rfl k) ?_
  show Go p.tables e below P s₁ (mkF m 1 #[.val (.int ch), .unset] [(.int ch)])
  by_cases hs1 : ch = (42 : Int32)
  · refine Go.via (fun t k => X0.lookupswitchHit hx (g := (mkF m 1 #[.val (.int ch), .unset] [(.int ch)])) rfl rfl (hb hby d1_1) (by decide) (a := 42) (off := 42) (by rw [hs1]; decide) (by show (0 : Int) ≤ ((1 : Nat) : Int) + 42; decide) t k) ?_
    show Go p.tables e below P s₁ (mkF m 43 #[.val (.int ch), .unset] [])
    obtain ⟨T2, X2, e2, st2⟩ := getS2 X0 hx hZ hown (host := "") (Or.inl (hw _ (List.mem_of_getElem? (i := 61) rfl))) Via.refl e0 (P2.ext O0.2) (g := (mkF m 43 #[.val (.int ch), .unset] [])) rfl (hb hby d1_43)
    refine Go.via st2 ?_
    show Go p.tables e below P T2 (mkF m 46 #[.val (.int ch), .unset] [(.ref aZERO_OR_MORE)])
    refine Go.via (fun t k => XS.astoreN X2.here hx rfl (hb hby d1_46) rfl rfl (l' := #[.val (.int ch), .val (.ref aZERO_OR_MORE)]) rfl k) ?_
    show Go p.tables e below P T2 (mkF m 47 #[.val (.int ch), .val (.ref aZERO_OR_MORE)] [])
    refine Go.via (fun t k => XS.goto X2.here hx rfl (pc0 := 47) (pc' := 61) rfl (hb hby d1_47) (by decide) (by decide) k) ?_
    show Go p.tables e below P T2 (mkF m 61 #[.val (.int ch), .val (.ref aZERO_OR_MORE)] [])
    refine Go.via (fun t k => XS.aloadN X2.here hx rfl (hb hby d1_61) rfl rfl k) ?_
    show Go p.tables e below P T2 (mkF m 62 #[.val (.int ch), .val (.ref aZERO_OR_MORE)] [(.ref aZERO_OR_MORE)])
    obtain ⟨fs, hr, hrun, hended, hW, hsame⟩ := X2.leave (v := some (.ref aZERO_OR_MORE)) (fun h => by rw [Bd.returns] at h; cases h)
    refine ⟨_, _, retA X2 hx Bd.returns rfl rfl rfl (hb hby d1_62) hr, hrun, hended, hP _ _ ⟨_, _, rfl, ?_, ⟨_, rfl⟩, hW, hsame.mono (by decide) (by decide)⟩⟩
    show Q1 Z ch aOPTIONAL aZERO_OR_MORE aONE_OR_MORE aONE h0 n0 _ T2.heap _
    rw [e2]
    exact ⟨aZERO_OR_MORE, rfl, N0, rfl, (Or.inr (Or.inl ⟨hs1, rfl⟩))⟩
  · by_cases hs4 : ch = (43 : Int32)
    · refine Go.via (fun t k => X0.lookupswitchHit hx (g := (mkF m 1 #[.val (.int ch), .unset] [(.int ch)])) rfl rfl (hb hby d1_1) (by decide) (a := 43) (off := 49) (by rw [hs4]; decide) (by show (0 : Int) ≤ ((1 : Nat) : Int) + 49; decide) t k) ?_
      show Go p.tables e below P s₁ (mkF m 50 #[.val (.int ch), .unset] [])
      obtain ⟨T5, X5, e5, st5⟩ := getS2 X0 hx hZ hown (host := "") (Or.inl (hw _ (List.mem_of_getElem? (i := 4) rfl))) Via.refl e0 (P3.ext O0.2) (g := (mkF m 50 #[.val (.int ch), .unset] [])) rfl (hb hby d1_50)
      refine Go.via st5 ?_
      show Go p.tables e below P T5 (mkF m 53 #[.val (.int ch), .unset] [(.ref aONE_OR_MORE)])
      refine Go.via (fun t k => XS.astoreN X5.here hx rfl (hb hby d1_53) rfl rfl (l' := #[.val (.int ch), .val (.ref aONE_OR_MORE)]) rfl k) ?_
      show Go p.tables e below P T5 (mkF m 54 #[.val (.int ch), .val (.ref aONE_OR_MORE)] [])
      refine Go.via (fun t k => XS.goto X5.here hx rfl (pc0 := 54) (pc' := 61) rfl (hb hby d1_54) (by decide) (by decide) k) ?_
      show Go p.tables e below P T5 (mkF m 61 #[.val (.int ch), .val (.ref aONE_OR_MORE)] [])
      refine Go.via (fun t k => XS.aloadN X5.here hx rfl (hb hby d1_61) rfl rfl k) ?_
      show Go p.tables e below P T5 (mkF m 62 #[.val (.int ch), .val (.ref aONE_OR_MORE)] [(.ref aONE_OR_MORE)])
      obtain ⟨fs, hr, hrun, hended, hW, hsame⟩ := X5.leave (v := some (.ref aONE_OR_MORE)) (fun h => by rw [Bd.returns] at h; cases h)
      refine ⟨_, _, retA X5 hx Bd.returns rfl rfl rfl (hb hby d1_62) hr, hrun, hended, hP _ _ ⟨_, _, rfl, ?_, ⟨_, rfl⟩, hW, hsame.mono (by decide) (by decide)⟩⟩
      show Q1 Z ch aOPTIONAL aZERO_OR_MORE aONE_OR_MORE aONE h0 n0 _ T5.heap _
      rw [e5]
      exact ⟨aONE_OR_MORE, rfl, N0, rfl, (Or.inr (Or.inr (Or.inl ⟨hs4, rfl⟩)))⟩
    · by_cases hs7 : ch = (63 : Int32)
      · refine Go.via (fun t k => X0.lookupswitchHit hx (g := (mkF m 1 #[.val (.int ch), .unset] [(.int ch)])) rfl rfl (hb hby d1_1) (by decide) (a := 63) (off := 35) (by rw [hs7]; decide) (by show (0 : Int) ≤ ((1 : Nat) : Int) + 35; decide) t k) ?_
        show Go p.tables e below P s₁ (mkF m 36 #[.val (.int ch), .unset] [])
        obtain ⟨T8, X8, e8, st8⟩ := getS2 X0 hx hZ hown (host := "") (Or.inl (hw _ (List.mem_of_getElem? (i := 56) rfl))) Via.refl e0 (P1.ext O0.2) (g := (mkF m 36 #[.val (.int ch), .unset] [])) rfl (hb hby d1_36)
        refine Go.via st8 ?_
        show Go p.tables e below P T8 (mkF m 39 #[.val (.int ch), .unset] [(.ref aOPTIONAL)])
        refine Go.via (fun t k => XS.astoreN X8.here hx rfl (hb hby d1_39) rfl rfl (l' := #[.val (.int ch), .val (.ref aOPTIONAL)]) rfl k) ?_
        show Go p.tables e below P T8 (mkF m 40 #[.val (.int ch), .val (.ref aOPTIONAL)] [])
        refine Go.via (fun t k => XS.goto X8.here hx rfl (pc0 := 40) (pc' := 61) rfl (hb hby d1_40) (by decide) (by decide) k) ?_
        show Go p.tables e below P T8 (mkF m 61 #[.val (.int ch), .val (.ref aOPTIONAL)] [])
        refine Go.via (fun t k => XS.aloadN X8.here hx rfl (hb hby d1_61) rfl rfl k) ?_
        show Go p.tables e below P T8 (mkF m 62 #[.val (.int ch), .val (.ref aOPTIONAL)] [(.ref aOPTIONAL)])
        obtain ⟨fs, hr, hrun, hended, hW, hsame⟩ := X8.leave (v := some (.ref aOPTIONAL)) (fun h => by rw [Bd.returns] at h; cases h)
        refine ⟨_, _, retA X8 hx Bd.returns rfl rfl rfl (hb hby d1_62) hr, hrun, hended, hP _ _ ⟨_, _, rfl, ?_, ⟨_, rfl⟩, hW, hsame.mono (by decide) (by decide)⟩⟩
        show Q1 Z ch aOPTIONAL aZERO_OR_MORE aONE_OR_MORE aONE h0 n0 _ T8.heap _
        rw [e8]
        exact ⟨aOPTIONAL, rfl, N0, rfl, (Or.inl ⟨hs7, rfl⟩)⟩
      · refine Go.via (fun t k => X0.lookupswitchMiss hx (g := (mkF m 1 #[.val (.int ch), .unset] [(.int ch)])) rfl rfl (hb hby d1_1) (by decide) (find_miss (own_mC hs1 rfl (own_mC hs4 rfl (own_mC hs7 rfl own_m0)))) (by show (0 : Int) ≤ ((1 : Nat) : Int) + 56; decide) t k) ?_
        show Go p.tables e below P s₁ (mkF m 57 #[.val (.int ch), .unset] [])
        obtain ⟨T10, X10, e10, st10⟩ := getS2 X0 hx hZ hown (host := "") (Or.inl (hw _ (List.mem_of_getElem? (i := 58) rfl))) Via.refl e0 (P4.ext O0.2) (g := (mkF m 57 #[.val (.int ch), .unset] [])) rfl (hb hby d1_57)
        refine Go.via st10 ?_
        show Go p.tables e below P T10 (mkF m 60 #[.val (.int ch), .unset] [(.ref aONE)])
        refine Go.via (fun t k => XS.astoreN X10.here hx rfl (hb hby d1_60) rfl rfl (l' := #[.val (.int ch), .val (.ref aONE)]) rfl k) ?_
        show Go p.tables e below P T10 (mkF m 61 #[.val (.int ch), .val (.ref aONE)] [])
        refine Go.via (fun t k => XS.aloadN X10.here hx rfl (hb hby d1_61) rfl rfl k) ?_
        show Go p.tables e below P T10 (mkF m 62 #[.val (.int ch), .val (.ref aONE)] [(.ref aONE)])
        obtain ⟨fs, hr, hrun, hended, hW, hsame⟩ := X10.leave (v := some (.ref aONE)) (fun h => by rw [Bd.returns] at h; cases h)
        refine ⟨_, _, retA X10 hx Bd.returns rfl rfl rfl (hb hby d1_62) hr, hrun, hended, hP _ _ ⟨_, _, rfl, ?_, ⟨_, rfl⟩, hW, hsame.mono (by decide) (by decide)⟩⟩
        show Q1 Z ch aOPTIONAL aZERO_OR_MORE aONE_OR_MORE aONE h0 n0 _ T10.heap _
        rw [e10]
        exact ⟨aONE, rfl, N0, rfl, (Or.inr (Or.inr (Or.inr ⟨⟨hs7, hs1, hs4⟩, rfl⟩)))⟩
theorem own_pd5 : parseMethodDescriptor "(I)Lcom/example/referee/referee/model/Quantifier;" = some ⟨[.int], some (.object "com/example/referee/referee/model/Quantifier")⟩ := by decide +kernel
theorem own_pd6 : parseMethodDescriptor "()Ljava/lang/String;" = some ⟨[], some (.object "java/lang/String")⟩ := by decide +kernel
theorem own_pd7 : parseMethodDescriptor "()I" = some ⟨[], some .int⟩ := by decide +kernel
theorem own_pd8 : parseMethodDescriptor "(I)C" = some ⟨[.int], some .char⟩ := by decide +kernel
theorem own_pn4 : plainName "com/example/referee/referee/model/QuantifierOfPinLaw" = true := by first | (simp [plainName, overriddenIn]; done) | decide +kernel
theorem ef_0 (m : MethodId) (x0 : Int32) (x1 : Int32) : entryFrame m #[(.int x0), (.int x1)] maxLocals = mkF m 0 #[.val (.int x0), .val (.int x1), .unset, .unset, .unset, .unset, .unset] [] := by first | (simp [entryFrame, mkF, argsToLocals, Value.category, maxLocals]; done) | rfl
def Q0 (Z : State) (praw : Int32) (pk : Int32) (cs : Int32) (fm : Value) (aOPTIONAL : Addr) (sOPTIONAL : Addr) (tOPTIONAL : Addr) (kOPTIONAL : ClassId) (aZERO_OR_MORE : Addr) (sZERO_OR_MORE : Addr) (tZERO_OR_MORE : Addr) (kZERO_OR_MORE : ClassId) (aONE_OR_MORE : Addr) (sONE_OR_MORE : Addr) (tONE_OR_MORE : Addr) (kONE_OR_MORE : ClassId) (aONE : Addr) (sONE : Addr) (tONE : Addr) (kONE : ClassId) (h0 : Heap) (n0 : Nat) (v : Option Value) (h : Heap) (L : List Loc) : Prop := v = some (.int (1 : Int32)) ∧ Fr n0 L
set_option maxRecDepth 65536 in
set_option maxHeartbeats 40000000 in
theorem rm0 (l : Launch) (Z : State) (a0 : Array Value) (hw : ∀ d ∈ tables_1, d.before a0 Z = true) (ws : List Jvm.Cond) (praw : Int32) (pk : Int32) (cs : Int32) (fm : Value) (aOPTIONAL : Addr) (sOPTIONAL : Addr) (tOPTIONAL : Addr) (kOPTIONAL : ClassId) (aZERO_OR_MORE : Addr) (sZERO_OR_MORE : Addr) (tZERO_OR_MORE : Addr) (kZERO_OR_MORE : ClassId) (aONE_OR_MORE : Addr) (sONE_OR_MORE : Addr) (tONE_OR_MORE : Addr) (kONE_OR_MORE : ClassId) (aONE : Addr) (sONE : Addr) (tONE : Addr) (kONE : ClassId) (h0 : Heap) (n0 : Nat) (Z0 : n0 ≤ h0.size) (O0 : Old Z n0 h0) (P1 : Sta Z Z.heap "java/lang/String" "COMPACT_STRINGS" "Z" (.int cs)) (hcs : ¬ cs = (0 : Int32)) (P3 : Sta Z Z.heap "jdk/internal/util/Preconditions" "SIOOBE_FORMATTER" "Ljava/util/function/BiFunction;" fm) (rfm : fm.isRef = true) (P5 : Sta Z Z.heap "com/example/referee/referee/model/Quantifier" "OPTIONAL" "Lcom/example/referee/referee/model/Quantifier;" (.ref aOPTIONAL)) (P6 : Exa Z Z.heap aOPTIONAL "com/example/referee/referee/model/Quantifier") (P7 : Fld Z Z.heap aOPTIONAL "com/example/referee/referee/model/Quantifier" "symbol" "Ljava/lang/String;" (.ref sOPTIONAL)) (P8 : Exa Z Z.heap sOPTIONAL "java/lang/String") (P9 : Fld Z Z.heap sOPTIONAL "java/lang/String" "value" "[B" (.ref tOPTIONAL)) (P10 : Fld Z Z.heap sOPTIONAL "java/lang/String" "coder" "B" (.int (0 : Int32))) (P11 : Arv Z Z.heap tOPTIONAL kOPTIONAL .byte (1 : Int32) [(.int (63 : Int32))] (.int (0 : Int32))) (P12 : Sta Z Z.heap "com/example/referee/referee/model/Quantifier" "ZERO_OR_MORE" "Lcom/example/referee/referee/model/Quantifier;" (.ref aZERO_OR_MORE)) (P13 : Exa Z Z.heap aZERO_OR_MORE "com/example/referee/referee/model/Quantifier") (P14 : Fld Z Z.heap aZERO_OR_MORE "com/example/referee/referee/model/Quantifier" "symbol" "Ljava/lang/String;" (.ref sZERO_OR_MORE)) (P15 : Exa Z Z.heap sZERO_OR_MORE "java/lang/String") (P16 : Fld Z Z.heap sZERO_OR_MORE "java/lang/String" "value" "[B" (.ref tZERO_OR_MORE)) (P17 : Fld Z Z.heap sZERO_OR_MORE "java/lang/String" "coder" "B" (.int (0 : Int32))) (P18 : Arv Z Z.heap tZERO_OR_MORE kZERO_OR_MORE .byte (1 : Int32) [(.int (42 : Int32))] (.int (0 : Int32))) (P19 : Sta Z Z.heap "com/example/referee/referee/model/Quantifier" "ONE_OR_MORE" "Lcom/example/referee/referee/model/Quantifier;" (.ref aONE_OR_MORE)) (P20 : Exa Z Z.heap aONE_OR_MORE "com/example/referee/referee/model/Quantifier") (P21 : Fld Z Z.heap aONE_OR_MORE "com/example/referee/referee/model/Quantifier" "symbol" "Ljava/lang/String;" (.ref sONE_OR_MORE)) (P22 : Exa Z Z.heap sONE_OR_MORE "java/lang/String") (P23 : Fld Z Z.heap sONE_OR_MORE "java/lang/String" "value" "[B" (.ref tONE_OR_MORE)) (P24 : Fld Z Z.heap sONE_OR_MORE "java/lang/String" "coder" "B" (.int (0 : Int32))) (P25 : Arv Z Z.heap tONE_OR_MORE kONE_OR_MORE .byte (1 : Int32) [(.int (43 : Int32))] (.int (0 : Int32))) (P26 : Sta Z Z.heap "com/example/referee/referee/model/Quantifier" "ONE" "Lcom/example/referee/referee/model/Quantifier;" (.ref aONE)) (P27 : Exa Z Z.heap aONE "com/example/referee/referee/model/Quantifier") (P28 : Fld Z Z.heap aONE "com/example/referee/referee/model/Quantifier" "symbol" "Ljava/lang/String;" (.ref sONE)) (P29 : Exa Z Z.heap sONE "java/lang/String") (P30 : Fld Z Z.heap sONE "java/lang/String" "value" "[B" (.ref tONE)) (P31 : Fld Z Z.heap sONE "java/lang/String" "coder" "B" (.int (0 : Int32))) (P32 : Arv Z Z.heap tONE kONE .byte (0 : Int32) [] (.int (0 : Int32))) :
    MetFree l x (head1 (Jvm.Cond.code x code maxLocals ret :: ws) room_1) (fun a U => a = #[(.int praw), (.int pk)] ∧ Z.Warmed39 U.vm ∧ U.heap = h0) (fun _ _ _ _ _ => True) (fun _ U o U' => ∃ v L, o = .returned v ∧ Q0 Z praw pk cs fm aOPTIONAL sOPTIONAL tOPTIONAL kOPTIONAL aZERO_OR_MORE sZERO_OR_MORE tZERO_OR_MORE kZERO_OR_MORE aONE_OR_MORE sONE_OR_MORE tONE_OR_MORE kONE_OR_MORE aONE sONE tONE kONE h0 n0 v U'.heap L ∧ FrameEnd U o U' L room_1.cells room_1.slots) := by
  refine MetFree.of_bodySF (plainFor_of_name own_pn4) hisR ?_
  intro p e s m args below meth c s₁ Bd hml0 hP hK
  obtain ⟨rfl, hZ, hh⟩ := hP
  have hx := Bd.exec
  have hby := Bd.bytes
  have hml : c.maxLocals = 7 := hml0
  have hown : s.vm.findClass "com/example/referee/referee/model/QuantifierOfPinLaw" = some m.cls := findClass_of_methodNamed Bd.named
  have hnm := (name_of_methodNamed Bd.named Bd.method).1
  have X0 : Stand p l e room_1 s m #[(.int praw), (.int pk)] below meth c s₁ [] 0 0 := Stand.of_body Bd
  have e0 : s₁.heap = h0 := by rw [← hh, Bd.state]; rfl
  have N0 := Fr.nil n0
  have K0 : Keep h0 h0 [] := Keep.refl _ _
  suffices GO : ∀ P : Outcome → State → Prop, (∀ o U', (∃ v L, o = .returned v ∧ Q0 Z praw pk cs fm aOPTIONAL sOPTIONAL tOPTIONAL kOPTIONAL aZERO_OR_MORE sZERO_OR_MORE tZERO_OR_MORE kZERO_OR_MORE aONE_OR_MORE sONE_OR_MORE tONE_OR_MORE kONE_OR_MORE aONE sONE tONE kONE h0 n0 v U'.heap L ∧ FrameEnd s o U' L room_1.cells room_1.slots) → P o U') → Go p.tables e below P s₁ (mkF m 0 #[.val (.int praw), .val (.int pk), .unset, .unset, .unset, .unset, .unset] []) by
    obtain ⟨s2, o, st, r⟩ := GO _ (fun _ _ q => q)
    exact ⟨s2, o, castTop (ef_0 m praw pk) st, r⟩
  clear hh
  intro P hP
  show Go p.tables e below P s₁ (mkF m 0 #[.val (.int praw), .val (.int pk), .unset, .unset, .unset, .unset, .unset] [])
  refine Go.via (fun t k => XS.iloadN X0.here hx rfl (hb hby at_0) rfl k) ?_
  show Go p.tables e below P s₁ (mkF m 1 #[.val (.int praw), .val (.int pk), .unset, .unset, .unset, .unset, .unset] [(.int pk)])
  refine Go.via (fun t k => XS.iconst X0.here hx rfl (hb hby at_1) k) ?_
  show Go p.tables e below P s₁ (mkF m 2 #[.val (.int praw), .val (.int pk), .unset, .unset, .unset, .unset, .unset] [(.int (3 : Int32)), (.int pk)])
  refine Go.via (fun t k => XS.iand X0.here hx rfl (hb hby at_2) rfl k) ?_
  show Go p.tables e below P s₁ (mkF m 3 #[.val (.int praw), .val (.int pk), .unset, .unset, .unset, .unset, .unset] [(.int (pk &&& (3 : Int32)))])
  refine Go.via (fun t k => XS.istoreN X0.here hx rfl (hb hby at_3) rfl (l' := #[.val (.int praw), .val (.int pk), .val (.int (pk &&& (3 : Int32))), .unset, .unset, .unset, .unset]) rfl k) ?_
  show Go p.tables e below P s₁ (mkF m 4 #[.val (.int praw), .val (.int pk), .val (.int (pk &&& (3 : Int32))), .unset, .unset, .unset, .unset] [])
  refine Go.via (fun t k => XS.iloadN X0.here hx rfl (hb hby at_4) rfl k) ?_
  show Go p.tables e below P s₁ (mkF m 5 #[.val (.int praw), .val (.int pk), .val (.int (pk &&& (3 : Int32))), .unset, .unset, .unset, .unset] [(.int (pk &&& (3 : Int32)))])
  have J2 : ∀ (T2 : State) (locs2 : List Loc) (v2_0 : Int32), Stand p l e room_1 s m #[(.int praw), (.int pk)] below meth c T2 locs2 0 0 → T2.heap = h0 → Fr n0 locs2 → v2_0 = (if (pk &&& (3 : Int32)) = (0 : Int32) then praw else (if (pk &&& (3 : Int32)) = (1 : Int32) then (63 : Int32) else (if (pk &&& (3 : Int32)) = (2 : Int32) then (42 : Int32) else (43 : Int32)))) → Go p.tables e below P T2 (mkF m 38 #[.val (.int praw), .val (.int pk), .val (.int (pk &&& (3 : Int32))), .val (.int v2_0), .unset, .unset, .unset] []) := by
    intro T2 locs2 v2_0 X2 e2 N2 hv2_0
    show Go p.tables e below P T2 (mkF m 38 #[.val (.int praw), .val (.int pk), .val (.int (pk &&& (3 : Int32))), .val (.int v2_0), .unset, .unset, .unset] [])
    refine Go.via (fun t k => XS.iloadN X2.here hx rfl (hb hby at_38) rfl k) ?_
    show Go p.tables e below P T2 (mkF m 39 #[.val (.int praw), .val (.int pk), .val (.int (pk &&& (3 : Int32))), .val (.int v2_0), .unset, .unset, .unset] [(.int v2_0)])
    obtain ⟨_, _, ⟨T3, L3, k3, n3⟩, -, X3, ⟨Lc3, hQ3, l3, y3, z3⟩, st3⟩ := Jvm.LawKit.callS X2 hx (y := (⟨"com/example/referee/referee/model/Quantifier", "of", "(I)Lcom/example/referee/referee/model/Quantifier;"⟩ : MethodName)) hown (mvT hZ (hw _ (List.mem_of_getElem? (i := 0) rfl))) (mvT hZ (hw _ (List.mem_of_getElem? (i := 1) rfl))) (mvT hZ (hw _ (List.mem_of_getElem? (i := 2) rfl))) (mvT hZ (hw _ (List.mem_of_getElem? (i := 3) rfl))) (by decide) (backOf (W := 0) (rm1 l Z a0 hw [] v2_0 aOPTIONAL aZERO_OR_MORE aONE_OR_MORE aONE h0 n0 Z0 O0 P5 P12 P19 P26) hZ (hw _ (List.mem_of_getElem? (i := 3) rfl)) (hw _ (List.mem_of_getElem? (i := 2) rfl)) (by decide) (by decide)) (g := (mkF m 39 #[.val (.int praw), .val (.int pk), .val (.int (pk &&& (3 : Int32))), .val (.int v2_0), .unset, .unset, .unset] [(.int v2_0)])) rfl (by rw [hml]; rfl) (argsL := [(.int v2_0)]) (rest := []) (lenOf own_pd5 rfl) rfl (by show 2 * 0 + _ ≤ _; exact Nat.le_of_eq rfl) (hb hby at_39) (fun _ _ => ⟨rfl, e2, (by decide : 0 + 0 ≤ _), (by decide : 0 + 0 ≤ _)⟩)
    dsimp only [Pt.U, Pt.locs, Pt.cells, Pt.slots] at X3 l3 y3 z3 st3 hQ3
    subst l3 y3 z3
    obtain ⟨r_3, rfl, Nq3, hh3, u3_0⟩ := hQ3
    have N3 := Fr.app N2 Nq3
    refine Go.via st3 ?_
    show Go p.tables e below P T3 (mkF m 42 #[.val (.int praw), .val (.int pk), .val (.int (pk &&& (3 : Int32))), .val (.int v2_0), .unset, .unset, .unset] [(.ref r_3)])
    rcases u3_0 with ⟨c0, q0⟩ | ⟨c1, q1⟩ | ⟨c2, q2⟩ | ⟨⟨n0', n1', n2'⟩, q3⟩
    · rw [c0, q0]
      show Go p.tables e below P T3 (mkF m 42 #[.val (.int praw), .val (.int pk), .val (.int (pk &&& (3 : Int32))), .val (.int (63 : Int32)), .unset, .unset, .unset] [(.ref aOPTIONAL)])
      refine Go.via (fun t k => XS.astore X3.here hx rfl (hb hby at_42) rfl rfl (l' := #[.val (.int praw), .val (.int pk), .val (.int (pk &&& (3 : Int32))), .val (.int (63 : Int32)), .val (.ref aOPTIONAL), .unset, .unset]) rfl k) ?_
      show Go p.tables e below P T3 (mkF m 44 #[.val (.int praw), .val (.int pk), .val (.int (pk &&& (3 : Int32))), .val (.int (63 : Int32)), .val (.ref aOPTIONAL), .unset, .unset] [])
      refine Go.via (fun t k => XS.aload X3.here hx rfl (hb hby at_44) rfl rfl k) ?_
      show Go p.tables e below P T3 (mkF m 46 #[.val (.int praw), .val (.int pk), .val (.int (pk &&& (3 : Int32))), .val (.int (63 : Int32)), .val (.ref aOPTIONAL), .unset, .unset] [(.ref aOPTIONAL)])
      refine Go.via (fun t k => XS.ifnonnullYes X3.here hx rfl (pc0 := 46) (pc' := 51) rfl (hb hby at_46) rfl (by decide) (by decide) k) ?_
      show Go p.tables e below P T3 (mkF m 51 #[.val (.int praw), .val (.int pk), .val (.int (pk &&& (3 : Int32))), .val (.int (63 : Int32)), .val (.ref aOPTIONAL), .unset, .unset] [])
      refine Go.via (fun t k => XS.iloadN X3.here hx rfl (hb hby at_51) rfl k) ?_
      show Go p.tables e below P T3 (mkF m 52 #[.val (.int praw), .val (.int pk), .val (.int (pk &&& (3 : Int32))), .val (.int (63 : Int32)), .val (.ref aOPTIONAL), .unset, .unset] [(.int (63 : Int32))])
      refine Go.via (fun t k => XS.bipush X3.here hx rfl (hb hby at_52) k) ?_
      show Go p.tables e below P T3 (mkF m 54 #[.val (.int praw), .val (.int pk), .val (.int (pk &&& (3 : Int32))), .val (.int (63 : Int32)), .val (.ref aOPTIONAL), .unset, .unset] [(.int (63 : Int32)), (.int (63 : Int32))])
      refine Go.via (fun t k => XS.icmpYes X3.here hx rfl (pc0 := 54) (pc' := 69) rfl (hb hby at_54) rfl (teq (rfl : (63 : Int32) = (63 : Int32))).1 (by decide) (by decide) k) ?_
      show Go p.tables e below P T3 (mkF m 69 #[.val (.int praw), .val (.int pk), .val (.int (pk &&& (3 : Int32))), .val (.int (63 : Int32)), .val (.ref aOPTIONAL), .unset, .unset] [])
      refine Go.via (fun t k => XS.iconst X3.here hx rfl (hb hby at_69) k) ?_
      show Go p.tables e below P T3 (mkF m 70 #[.val (.int praw), .val (.int pk), .val (.int (pk &&& (3 : Int32))), .val (.int (63 : Int32)), .val (.ref aOPTIONAL), .unset, .unset] [(.int (1 : Int32))])
      refine Go.via (fun t k => XS.goto X3.here hx rfl (pc0 := 70) (pc' := 74) rfl (hb hby at_70) (by decide) (by decide) k) ?_
      show Go p.tables e below P T3 (mkF m 74 #[.val (.int praw), .val (.int pk), .val (.int (pk &&& (3 : Int32))), .val (.int (63 : Int32)), .val (.ref aOPTIONAL), .unset, .unset] [(.int (1 : Int32))])
      refine Go.via (fun t k => XS.istore X3.here hx rfl (hb hby at_74) rfl (l' := #[.val (.int praw), .val (.int pk), .val (.int (pk &&& (3 : Int32))), .val (.int (63 : Int32)), .val (.ref aOPTIONAL), .val (.int (1 : Int32)), .unset]) rfl k) ?_
      show Go p.tables e below P T3 (mkF m 76 #[.val (.int praw), .val (.int pk), .val (.int (pk &&& (3 : Int32))), .val (.int (63 : Int32)), .val (.ref aOPTIONAL), .val (.int (1 : Int32)), .unset] [])
      refine Go.via (fun t k => XS.aload X3.here hx rfl (hb hby at_76) rfl rfl k) ?_
      show Go p.tables e below P T3 (mkF m 78 #[.val (.int praw), .val (.int pk), .val (.int (pk &&& (3 : Int32))), .val (.int (63 : Int32)), .val (.ref aOPTIONAL), .val (.int (1 : Int32)), .unset] [(.ref aOPTIONAL)])
      obtain ⟨cq4, kq4, q4a, q4b, q4c⟩ := isOf hZ hh3 (P6.ext O0.2)
      obtain ⟨_, _, ⟨T4, L4, k4, n4⟩, -, X4, ⟨Lc4, hQ4, l4, y4, z4⟩, st4⟩ := X3.virtualBack hx (y := (⟨"com/example/referee/referee/model/Quantifier", "symbol", "()Ljava/lang/String;"⟩ : MethodName)) (z := (⟨"com/example/referee/referee/model/Quantifier", "symbol", "()Ljava/lang/String;"⟩ : MethodName)) hown (mvT hZ (hw _ (List.mem_of_getElem? (i := 6) rfl))) (mvT hZ (hw _ (List.mem_of_getElem? (i := 7) rfl))) (notFace_of_selects (args := #[]) (mvT hZ (hw _ (List.mem_of_getElem? (i := 9) rfl)))) (mvT hZ (hw _ (List.mem_of_getElem? (i := 9) rfl))) (mvT hZ (hw _ (List.mem_of_getElem? (i := 8) rfl))) (by decide) (backOf (W := 0) (rm2 l Z a0 hw [] aOPTIONAL sOPTIONAL h0 n0 Z0 (P7.ext O0.2)) hZ (hw _ (List.mem_of_getElem? (i := 10) rfl)) (hw _ (List.mem_of_getElem? (i := 2) rfl)) (by decide) (by decide)) q4a q4c (g := (mkF m 78 #[.val (.int praw), .val (.int pk), .val (.int (pk &&& (3 : Int32))), .val (.int (63 : Int32)), .val (.ref aOPTIONAL), .val (.int (1 : Int32)), .unset] [(.ref aOPTIONAL)])) rfl (by rw [hml]; rfl) (Steps.refl _) (argsL := []) (rest := []) (lenOf own_pd6 rfl) rfl (by show 2 * 0 + _ ≤ _; exact Nat.le_of_eq rfl) (hb hby at_78) (fun _ _ => ⟨rfl, hh3, (by decide : 0 + 0 ≤ _), (by decide : 0 + 0 ≤ _)⟩)
      dsimp only [Pt.U, Pt.locs, Pt.cells, Pt.slots] at X4 l4 y4 z4 st4 hQ4
      subst l4 y4 z4
      obtain ⟨rfl, Nq4, hh4⟩ := hQ4
      have N4 := Fr.app N3 Nq4
      refine Go.hop st4 ?_
      show Go p.tables e below P T4 (mkF m 81 #[.val (.int praw), .val (.int pk), .val (.int (pk &&& (3 : Int32))), .val (.int (63 : Int32)), .val (.ref aOPTIONAL), .val (.int (1 : Int32)), .unset] [(.ref sOPTIONAL)])
      refine Go.via (fun t k => XS.astore X4.here hx rfl (hb hby at_81) rfl rfl (l' := #[.val (.int praw), .val (.int pk), .val (.int (pk &&& (3 : Int32))), .val (.int (63 : Int32)), .val (.ref aOPTIONAL), .val (.int (1 : Int32)), .val (.ref sOPTIONAL)]) rfl k) ?_
      show Go p.tables e below P T4 (mkF m 83 #[.val (.int praw), .val (.int pk), .val (.int (pk &&& (3 : Int32))), .val (.int (63 : Int32)), .val (.ref aOPTIONAL), .val (.int (1 : Int32)), .val (.ref sOPTIONAL)] [])
      refine Go.via (fun t k => XS.aload X4.here hx rfl (hb hby at_83) rfl rfl k) ?_
      show Go p.tables e below P T4 (mkF m 85 #[.val (.int praw), .val (.int pk), .val (.int (pk &&& (3 : Int32))), .val (.int (63 : Int32)), .val (.ref aOPTIONAL), .val (.int (1 : Int32)), .val (.ref sOPTIONAL)] [(.ref sOPTIONAL)])
      obtain ⟨cq5, kq5, q5a, q5b, q5c⟩ := isOf hZ hh4 (P8.ext O0.2)
      obtain ⟨_, _, ⟨T5, L5, k5, n5⟩, -, X5, ⟨Lc5, hQ5, l5, y5, z5⟩, st5⟩ := X4.virtualBack hx (y := (⟨"java/lang/String", "isEmpty", "()Z"⟩ : MethodName)) (z := (⟨"java/lang/String", "isEmpty", "()Z"⟩ : MethodName)) hown (mvT hZ (hw _ (List.mem_of_getElem? (i := 13) rfl))) (mvT hZ (hw _ (List.mem_of_getElem? (i := 14) rfl))) (notFace_of_selects (args := #[]) (mvT hZ (hw _ (List.mem_of_getElem? (i := 16) rfl)))) (mvT hZ (hw _ (List.mem_of_getElem? (i := 16) rfl))) (mvT hZ (hw _ (List.mem_of_getElem? (i := 15) rfl))) (by decide) (backOf (W := 0) (rm3 l Z a0 hw [] sOPTIONAL tOPTIONAL kOPTIONAL (1 : Int32) [(.int (63 : Int32))] h0 n0 Z0 (P9.ext O0.2) (P11.ext O0.2)) hZ (hw _ (List.mem_of_getElem? (i := 18) rfl)) (hw _ (List.mem_of_getElem? (i := 17) rfl)) (by decide) (by decide)) q5a q5c (g := (mkF m 85 #[.val (.int praw), .val (.int pk), .val (.int (pk &&& (3 : Int32))), .val (.int (63 : Int32)), .val (.ref aOPTIONAL), .val (.int (1 : Int32)), .val (.ref sOPTIONAL)] [(.ref sOPTIONAL)])) rfl (by rw [hml]; rfl) (Steps.refl _) (argsL := []) (rest := []) (lenOf own_pd3 rfl) rfl (by show 2 * 0 + _ ≤ _; exact Nat.le_of_eq rfl) (hb hby at_85) (fun _ _ => ⟨rfl, hh4, (by decide : 0 + 0 ≤ _), (by decide : 0 + 0 ≤ _)⟩)
      dsimp only [Pt.U, Pt.locs, Pt.cells, Pt.slots] at X5 l5 y5 z5 st5 hQ5
      subst l5 y5 z5
      obtain ⟨rfl, Nq5, hh5⟩ := hQ5
      have N5 := Fr.app N4 Nq5
      refine Go.hop st5 ?_
      show Go p.tables e below P T5 (mkF m 88 #[.val (.int praw), .val (.int pk), .val (.int (pk &&& (3 : Int32))), .val (.int (63 : Int32)), .val (.ref aOPTIONAL), .val (.int (1 : Int32)), .val (.ref sOPTIONAL)] [(.int (if (1 : Int32) = (0 : Int32) then (1 : Int32) else (0 : Int32)))])
      refine Go.via (fun t k => XS.ifYes X5.here hx rfl (pc0 := 88) (pc' := 110) rfl (hb hby at_88) rfl ((if0 _ _).trans (teq (by decide)).1) (by decide) (by decide) k) ?_
      show Go p.tables e below P T5 (mkF m 110 #[.val (.int praw), .val (.int pk), .val (.int (pk &&& (3 : Int32))), .val (.int (63 : Int32)), .val (.ref aOPTIONAL), .val (.int (1 : Int32)), .val (.ref sOPTIONAL)] [])
      refine Go.via (fun t k => XS.aload X5.here hx rfl (hb hby at_110) rfl rfl k) ?_
      show Go p.tables e below P T5 (mkF m 112 #[.val (.int praw), .val (.int pk), .val (.int (pk &&& (3 : Int32))), .val (.int (63 : Int32)), .val (.ref aOPTIONAL), .val (.int (1 : Int32)), .val (.ref sOPTIONAL)] [(.ref sOPTIONAL)])
      obtain ⟨cq6, kq6, q6a, q6b, q6c⟩ := isOf hZ hh5 (P8.ext O0.2)
      obtain ⟨_, _, ⟨T6, L6, k6, n6⟩, -, X6, ⟨Lc6, hQ6, l6, y6, z6⟩, st6⟩ := X5.virtualBack hx (y := (⟨"java/lang/String", "length", "()I"⟩ : MethodName)) (z := (⟨"java/lang/String", "length", "()I"⟩ : MethodName)) hown (mvT hZ (hw _ (List.mem_of_getElem? (i := 21) rfl))) (mvT hZ (hw _ (List.mem_of_getElem? (i := 22) rfl))) (notFace_of_selects (args := #[]) (mvT hZ (hw _ (List.mem_of_getElem? (i := 24) rfl)))) (mvT hZ (hw _ (List.mem_of_getElem? (i := 24) rfl))) (mvT hZ (hw _ (List.mem_of_getElem? (i := 23) rfl))) (by decide) (backOf (W := 0) (rm4 l Z a0 hw [] sOPTIONAL cs tOPTIONAL kOPTIONAL (1 : Int32) [(.int (63 : Int32))] h0 n0 Z0 O0 P1 (by first | assumption | decide | omega : ¬ cs = (0 : Int32)) (P8.ext O0.2) (P9.ext O0.2) (P10.ext O0.2) (P11.ext O0.2)) hZ (hw _ (List.mem_of_getElem? (i := 25) rfl)) (hw _ (List.mem_of_getElem? (i := 17) rfl)) (by decide) (by decide)) q6a q6c (g := (mkF m 112 #[.val (.int praw), .val (.int pk), .val (.int (pk &&& (3 : Int32))), .val (.int (63 : Int32)), .val (.ref aOPTIONAL), .val (.int (1 : Int32)), .val (.ref sOPTIONAL)] [(.ref sOPTIONAL)])) rfl (by rw [hml]; rfl) (Steps.refl _) (argsL := []) (rest := []) (lenOf own_pd7 rfl) rfl (by show 2 * 0 + _ ≤ _; exact Nat.le_of_eq rfl) (hb hby at_112) (fun _ _ => ⟨rfl, hh5, (by decide : 0 + 0 ≤ _), (by decide : 0 + 0 ≤ _)⟩)
      dsimp only [Pt.U, Pt.locs, Pt.cells, Pt.slots] at X6 l6 y6 z6 st6 hQ6
      subst l6 y6 z6
      obtain ⟨rfl, Nq6, hh6⟩ := hQ6
      have N6 := Fr.app N5 Nq6
      refine Go.hop st6 ?_
      show Go p.tables e below P T6 (mkF m 115 #[.val (.int praw), .val (.int pk), .val (.int (pk &&& (3 : Int32))), .val (.int (63 : Int32)), .val (.ref aOPTIONAL), .val (.int (1 : Int32)), .val (.ref sOPTIONAL)] [(.int (1 : Int32))])
      refine Go.via (fun t k => XS.iconst X6.here hx rfl (hb hby at_115) k) ?_
      show Go p.tables e below P T6 (mkF m 116 #[.val (.int praw), .val (.int pk), .val (.int (pk &&& (3 : Int32))), .val (.int (63 : Int32)), .val (.ref aOPTIONAL), .val (.int (1 : Int32)), .val (.ref sOPTIONAL)] [(.int (1 : Int32)), (.int (1 : Int32))])
      refine Go.via (fun t k => XS.icmpNo X6.here hx rfl (hb hby at_116) rfl (teq (rfl : (1 : Int32) = (1 : Int32))).2 k) ?_
      show Go p.tables e below P T6 (mkF m 119 #[.val (.int praw), .val (.int pk), .val (.int (pk &&& (3 : Int32))), .val (.int (63 : Int32)), .val (.ref aOPTIONAL), .val (.int (1 : Int32)), .val (.ref sOPTIONAL)] [])
      refine Go.via (fun t k => XS.aload X6.here hx rfl (hb hby at_119) rfl rfl k) ?_
      show Go p.tables e below P T6 (mkF m 121 #[.val (.int praw), .val (.int pk), .val (.int (pk &&& (3 : Int32))), .val (.int (63 : Int32)), .val (.ref aOPTIONAL), .val (.int (1 : Int32)), .val (.ref sOPTIONAL)] [(.ref sOPTIONAL)])
      refine Go.via (fun t k => XS.iconst X6.here hx rfl (hb hby at_121) k) ?_
      show Go p.tables e below P T6 (mkF m 122 #[.val (.int praw), .val (.int pk), .val (.int (pk &&& (3 : Int32))), .val (.int (63 : Int32)), .val (.ref aOPTIONAL), .val (.int (1 : Int32)), .val (.ref sOPTIONAL)] [(.int (0 : Int32)), (.ref sOPTIONAL)])
      obtain ⟨cq7, kq7, q7a, q7b, q7c⟩ := isOf hZ hh6 (P8.ext O0.2)
      obtain ⟨_, _, ⟨T7, L7, k7, n7⟩, -, X7, ⟨Lc7, hQ7, l7, y7, z7⟩, st7⟩ := X6.virtualBack hx (y := (⟨"java/lang/String", "charAt", "(I)C"⟩ : MethodName)) (z := (⟨"java/lang/String", "charAt", "(I)C"⟩ : MethodName)) hown (mvT hZ (hw _ (List.mem_of_getElem? (i := 34) rfl))) (mvT hZ (hw _ (List.mem_of_getElem? (i := 35) rfl))) (notFace_of_selects (args := #[]) (mvT hZ (hw _ (List.mem_of_getElem? (i := 37) rfl)))) (mvT hZ (hw _ (List.mem_of_getElem? (i := 37) rfl))) (mvT hZ (hw _ (List.mem_of_getElem? (i := 36) rfl))) (by decide) (backOf (W := 0) (rm6 l Z a0 hw [] sOPTIONAL (0 : Int32) fm cs tOPTIONAL kOPTIONAL (1 : Int32) [(.int (63 : Int32))] (63 : Int32) h0 n0 Z0 O0 P1 (by first | assumption | decide | omega : ¬ cs = (0 : Int32)) P3 (by first | assumption | decide | omega : fm.isRef = true) (P8.ext O0.2) (P9.ext O0.2) (P10.ext O0.2) (P11.ext O0.2) (by first | assumption | decide | omega : ¬ ((0 : Int32) < (0 : Int32))) (by first | assumption | decide | omega : (0 : Int32) < (1 : Int32)) rfl) hZ (hw _ (List.mem_of_getElem? (i := 38) rfl)) (hw _ (List.mem_of_getElem? (i := 17) rfl)) (by decide) (by decide)) q7a q7c (g := (mkF m 122 #[.val (.int praw), .val (.int pk), .val (.int (pk &&& (3 : Int32))), .val (.int (63 : Int32)), .val (.ref aOPTIONAL), .val (.int (1 : Int32)), .val (.ref sOPTIONAL)] [(.int (0 : Int32)), (.ref sOPTIONAL)])) rfl (by rw [hml]; rfl) (Steps.refl _) (argsL := [(.int (0 : Int32))]) (rest := []) (lenOf own_pd8 rfl) rfl (by show 2 * 0 + _ ≤ _; exact Nat.le_of_eq rfl) (hb hby at_122) (fun _ _ => ⟨rfl, hh6, (by decide : 0 + 0 ≤ _), (by decide : 0 + 0 ≤ _)⟩)
      dsimp only [Pt.U, Pt.locs, Pt.cells, Pt.slots] at X7 l7 y7 z7 st7 hQ7
      subst l7 y7 z7
      obtain ⟨rfl, Nq7, hh7⟩ := hQ7
      have N7 := Fr.app N6 Nq7
      refine Go.hop st7 ?_
      show Go p.tables e below P T7 (mkF m 125 #[.val (.int praw), .val (.int pk), .val (.int (pk &&& (3 : Int32))), .val (.int (63 : Int32)), .val (.ref aOPTIONAL), .val (.int (1 : Int32)), .val (.ref sOPTIONAL)] [(.int ((63 : Int32) &&& (255 : Int32)))])
      refine Go.via (fun t k => XS.iloadN X7.here hx rfl (hb hby at_125) rfl k) ?_
      show Go p.tables e below P T7 (mkF m 126 #[.val (.int praw), .val (.int pk), .val (.int (pk &&& (3 : Int32))), .val (.int (63 : Int32)), .val (.ref aOPTIONAL), .val (.int (1 : Int32)), .val (.ref sOPTIONAL)] [(.int (63 : Int32)), (.int ((63 : Int32) &&& (255 : Int32)))])
      refine Go.via (fun t k => XS.icmpNo X7.here hx rfl (hb hby at_126) rfl (teq (by decide)).2 k) ?_
      show Go p.tables e below P T7 (mkF m 129 #[.val (.int praw), .val (.int pk), .val (.int (pk &&& (3 : Int32))), .val (.int (63 : Int32)), .val (.ref aOPTIONAL), .val (.int (1 : Int32)), .val (.ref sOPTIONAL)] [])
      refine Go.via (fun t k => XS.iconst X7.here hx rfl (hb hby at_129) k) ?_
      show Go p.tables e below P T7 (mkF m 130 #[.val (.int praw), .val (.int pk), .val (.int (pk &&& (3 : Int32))), .val (.int (63 : Int32)), .val (.ref aOPTIONAL), .val (.int (1 : Int32)), .val (.ref sOPTIONAL)] [(.int (1 : Int32))])
      refine Go.via (fun t k => XS.goto X7.here hx rfl (pc0 := 130) (pc' := 134) rfl (hb hby at_130) (by decide) (by decide) k) ?_
      show Go p.tables e below P T7 (mkF m 134 #[.val (.int praw), .val (.int pk), .val (.int (pk &&& (3 : Int32))), .val (.int (63 : Int32)), .val (.ref aOPTIONAL), .val (.int (1 : Int32)), .val (.ref sOPTIONAL)] [(.int (1 : Int32))])
      obtain ⟨fs, hr, hrun, hended, hW, hsame⟩ := X7.leave (v := some (.int (1 : Int32))) (fun h => by rw [Bd.returns] at h; cases h)
      refine ⟨_, _, retZ X7 hx (t := .boolean) Bd.returns (by simp) (hb hby at_134) rfl hr, hrun, hended, hP _ _ ⟨_, _, rfl, ?_, ⟨_, rfl⟩, hW, hsame.mono (by decide) (by decide)⟩⟩
      show Q0 Z praw pk cs fm aOPTIONAL sOPTIONAL tOPTIONAL kOPTIONAL aZERO_OR_MORE sZERO_OR_MORE tZERO_OR_MORE kZERO_OR_MORE aONE_OR_MORE sONE_OR_MORE tONE_OR_MORE kONE_OR_MORE aONE sONE tONE kONE h0 n0 _ T7.heap _
      rw [hh7]
      exact ⟨rfl, N7⟩
    · rw [c1, q1]
      show Go p.tables e below P T3 (mkF m 42 #[.val (.int praw), .val (.int pk), .val (.int (pk &&& (3 : Int32))), .val (.int (42 : Int32)), .unset, .unset, .unset] [(.ref aZERO_OR_MORE)])
      refine Go.via (fun t k => XS.astore X3.here hx rfl (hb hby at_42) rfl rfl (l' := #[.val (.int praw), .val (.int pk), .val (.int (pk &&& (3 : Int32))), .val (.int (42 : Int32)), .val (.ref aZERO_OR_MORE), .unset, .unset]) rfl k) ?_
      show Go p.tables e below P T3 (mkF m 44 #[.val (.int praw), .val (.int pk), .val (.int (pk &&& (3 : Int32))), .val (.int (42 : Int32)), .val (.ref aZERO_OR_MORE), .unset, .unset] [])
      refine Go.via (fun t k => XS.aload X3.here hx rfl (hb hby at_44) rfl rfl k) ?_
      show Go p.tables e below P T3 (mkF m 46 #[.val (.int praw), .val (.int pk), .val (.int (pk &&& (3 : Int32))), .val (.int (42 : Int32)), .val (.ref aZERO_OR_MORE), .unset, .unset] [(.ref aZERO_OR_MORE)])
      refine Go.via (fun t k => XS.ifnonnullYes X3.here hx rfl (pc0 := 46) (pc' := 51) rfl (hb hby at_46) rfl (by decide) (by decide) k) ?_
      show Go p.tables e below P T3 (mkF m 51 #[.val (.int praw), .val (.int pk), .val (.int (pk &&& (3 : Int32))), .val (.int (42 : Int32)), .val (.ref aZERO_OR_MORE), .unset, .unset] [])
      refine Go.via (fun t k => XS.iloadN X3.here hx rfl (hb hby at_51) rfl k) ?_
      show Go p.tables e below P T3 (mkF m 52 #[.val (.int praw), .val (.int pk), .val (.int (pk &&& (3 : Int32))), .val (.int (42 : Int32)), .val (.ref aZERO_OR_MORE), .unset, .unset] [(.int (42 : Int32))])
      refine Go.via (fun t k => XS.bipush X3.here hx rfl (hb hby at_52) k) ?_
      show Go p.tables e below P T3 (mkF m 54 #[.val (.int praw), .val (.int pk), .val (.int (pk &&& (3 : Int32))), .val (.int (42 : Int32)), .val (.ref aZERO_OR_MORE), .unset, .unset] [(.int (63 : Int32)), (.int (42 : Int32))])
      refine Go.via (fun t k => XS.icmpNo X3.here hx rfl (hb hby at_54) rfl (feq (by decide : ¬ ((42 : Int32) = (63 : Int32)))).1 k) ?_
      show Go p.tables e below P T3 (mkF m 57 #[.val (.int praw), .val (.int pk), .val (.int (pk &&& (3 : Int32))), .val (.int (42 : Int32)), .val (.ref aZERO_OR_MORE), .unset, .unset] [])
      refine Go.via (fun t k => XS.iloadN X3.here hx rfl (hb hby at_57) rfl k) ?_
      show Go p.tables e below P T3 (mkF m 58 #[.val (.int praw), .val (.int pk), .val (.int (pk &&& (3 : Int32))), .val (.int (42 : Int32)), .val (.ref aZERO_OR_MORE), .unset, .unset] [(.int (42 : Int32))])
      refine Go.via (fun t k => XS.bipush X3.here hx rfl (hb hby at_58) k) ?_
      show Go p.tables e below P T3 (mkF m 60 #[.val (.int praw), .val (.int pk), .val (.int (pk &&& (3 : Int32))), .val (.int (42 : Int32)), .val (.ref aZERO_OR_MORE), .unset, .unset] [(.int (42 : Int32)), (.int (42 : Int32))])
      refine Go.via (fun t k => XS.icmpYes X3.here hx rfl (pc0 := 60) (pc' := 69) rfl (hb hby at_60) rfl (teq (rfl : (42 : Int32) = (42 : Int32))).1 (by decide) (by decide) k) ?_
      show Go p.tables e below P T3 (mkF m 69 #[.val (.int praw), .val (.int pk), .val (.int (pk &&& (3 : Int32))), .val (.int (42 : Int32)), .val (.ref aZERO_OR_MORE), .unset, .unset] [])
      refine Go.via (fun t k => XS.iconst X3.here hx rfl (hb hby at_69) k) ?_
      show Go p.tables e below P T3 (mkF m 70 #[.val (.int praw), .val (.int pk), .val (.int (pk &&& (3 : Int32))), .val (.int (42 : Int32)), .val (.ref aZERO_OR_MORE), .unset, .unset] [(.int (1 : Int32))])
      refine Go.via (fun t k => XS.goto X3.here hx rfl (pc0 := 70) (pc' := 74) rfl (hb hby at_70) (by decide) (by decide) k) ?_
      show Go p.tables e below P T3 (mkF m 74 #[.val (.int praw), .val (.int pk), .val (.int (pk &&& (3 : Int32))), .val (.int (42 : Int32)), .val (.ref aZERO_OR_MORE), .unset, .unset] [(.int (1 : Int32))])
      refine Go.via (fun t k => XS.istore X3.here hx rfl (hb hby at_74) rfl (l' := #[.val (.int praw), .val (.int pk), .val (.int (pk &&& (3 : Int32))), .val (.int (42 : Int32)), .val (.ref aZERO_OR_MORE), .val (.int (1 : Int32)), .unset]) rfl k) ?_
      show Go p.tables e below P T3 (mkF m 76 #[.val (.int praw), .val (.int pk), .val (.int (pk &&& (3 : Int32))), .val (.int (42 : Int32)), .val (.ref aZERO_OR_MORE), .val (.int (1 : Int32)), .unset] [])
      refine Go.via (fun t k => XS.aload X3.here hx rfl (hb hby at_76) rfl rfl k) ?_
      show Go p.tables e below P T3 (mkF m 78 #[.val (.int praw), .val (.int pk), .val (.int (pk &&& (3 : Int32))), .val (.int (42 : Int32)), .val (.ref aZERO_OR_MORE), .val (.int (1 : Int32)), .unset] [(.ref aZERO_OR_MORE)])
      obtain ⟨cq9, kq9, q9a, q9b, q9c⟩ := isOf hZ hh3 (P13.ext O0.2)
      obtain ⟨_, _, ⟨T9, L9, k9, n9⟩, -, X9, ⟨Lc9, hQ9, l9, y9, z9⟩, st9⟩ := X3.virtualBack hx (y := (⟨"com/example/referee/referee/model/Quantifier", "symbol", "()Ljava/lang/String;"⟩ : MethodName)) (z := (⟨"com/example/referee/referee/model/Quantifier", "symbol", "()Ljava/lang/String;"⟩ : MethodName)) hown (mvT hZ (hw _ (List.mem_of_getElem? (i := 6) rfl))) (mvT hZ (hw _ (List.mem_of_getElem? (i := 7) rfl))) (notFace_of_selects (args := #[]) (mvT hZ (hw _ (List.mem_of_getElem? (i := 9) rfl)))) (mvT hZ (hw _ (List.mem_of_getElem? (i := 9) rfl))) (mvT hZ (hw _ (List.mem_of_getElem? (i := 8) rfl))) (by decide) (backOf (W := 0) (rm2 l Z a0 hw [] aZERO_OR_MORE sZERO_OR_MORE h0 n0 Z0 (P14.ext O0.2)) hZ (hw _ (List.mem_of_getElem? (i := 10) rfl)) (hw _ (List.mem_of_getElem? (i := 2) rfl)) (by decide) (by decide)) q9a q9c (g := (mkF m 78 #[.val (.int praw), .val (.int pk), .val (.int (pk &&& (3 : Int32))), .val (.int (42 : Int32)), .val (.ref aZERO_OR_MORE), .val (.int (1 : Int32)), .unset] [(.ref aZERO_OR_MORE)])) rfl (by rw [hml]; rfl) (Steps.refl _) (argsL := []) (rest := []) (lenOf own_pd6 rfl) rfl (by show 2 * 0 + _ ≤ _; exact Nat.le_of_eq rfl) (hb hby at_78) (fun _ _ => ⟨rfl, hh3, (by decide : 0 + 0 ≤ _), (by decide : 0 + 0 ≤ _)⟩)
      dsimp only [Pt.U, Pt.locs, Pt.cells, Pt.slots] at X9 l9 y9 z9 st9 hQ9
      subst l9 y9 z9
      obtain ⟨rfl, Nq9, hh9⟩ := hQ9
      have N9 := Fr.app N3 Nq9
      refine Go.hop st9 ?_
      show Go p.tables e below P T9 (mkF m 81 #[.val (.int praw), .val (.int pk), .val (.int (pk &&& (3 : Int32))), .val (.int (42 : Int32)), .val (.ref aZERO_OR_MORE), .val (.int (1 : Int32)), .unset] [(.ref sZERO_OR_MORE)])
      refine Go.via (fun t k => XS.astore X9.here hx rfl (hb hby at_81) rfl rfl (l' := #[.val (.int praw), .val (.int pk), .val (.int (pk &&& (3 : Int32))), .val (.int (42 : Int32)), .val (.ref aZERO_OR_MORE), .val (.int (1 : Int32)), .val (.ref sZERO_OR_MORE)]) rfl k) ?_
      show Go p.tables e below P T9 (mkF m 83 #[.val (.int praw), .val (.int pk), .val (.int (pk &&& (3 : Int32))), .val (.int (42 : Int32)), .val (.ref aZERO_OR_MORE), .val (.int (1 : Int32)), .val (.ref sZERO_OR_MORE)] [])
      refine Go.via (fun t k => XS.aload X9.here hx rfl (hb hby at_83) rfl rfl k) ?_
      show Go p.tables e below P T9 (mkF m 85 #[.val (.int praw), .val (.int pk), .val (.int (pk &&& (3 : Int32))), .val (.int (42 : Int32)), .val (.ref aZERO_OR_MORE), .val (.int (1 : Int32)), .val (.ref sZERO_OR_MORE)] [(.ref sZERO_OR_MORE)])
      obtain ⟨cq10, kq10, q10a, q10b, q10c⟩ := isOf hZ hh9 (P15.ext O0.2)
      obtain ⟨_, _, ⟨T10, L10, k10, n10⟩, -, X10, ⟨Lc10, hQ10, l10, y10, z10⟩, st10⟩ := X9.virtualBack hx (y := (⟨"java/lang/String", "isEmpty", "()Z"⟩ : MethodName)) (z := (⟨"java/lang/String", "isEmpty", "()Z"⟩ : MethodName)) hown (mvT hZ (hw _ (List.mem_of_getElem? (i := 13) rfl))) (mvT hZ (hw _ (List.mem_of_getElem? (i := 14) rfl))) (notFace_of_selects (args := #[]) (mvT hZ (hw _ (List.mem_of_getElem? (i := 16) rfl)))) (mvT hZ (hw _ (List.mem_of_getElem? (i := 16) rfl))) (mvT hZ (hw _ (List.mem_of_getElem? (i := 15) rfl))) (by decide) (backOf (W := 0) (rm3 l Z a0 hw [] sZERO_OR_MORE tZERO_OR_MORE kZERO_OR_MORE (1 : Int32) [(.int (42 : Int32))] h0 n0 Z0 (P16.ext O0.2) (P18.ext O0.2)) hZ (hw _ (List.mem_of_getElem? (i := 18) rfl)) (hw _ (List.mem_of_getElem? (i := 17) rfl)) (by decide) (by decide)) q10a q10c (g := (mkF m 85 #[.val (.int praw), .val (.int pk), .val (.int (pk &&& (3 : Int32))), .val (.int (42 : Int32)), .val (.ref aZERO_OR_MORE), .val (.int (1 : Int32)), .val (.ref sZERO_OR_MORE)] [(.ref sZERO_OR_MORE)])) rfl (by rw [hml]; rfl) (Steps.refl _) (argsL := []) (rest := []) (lenOf own_pd3 rfl) rfl (by show 2 * 0 + _ ≤ _; exact Nat.le_of_eq rfl) (hb hby at_85) (fun _ _ => ⟨rfl, hh9, (by decide : 0 + 0 ≤ _), (by decide : 0 + 0 ≤ _)⟩)
      dsimp only [Pt.U, Pt.locs, Pt.cells, Pt.slots] at X10 l10 y10 z10 st10 hQ10
      subst l10 y10 z10
      obtain ⟨rfl, Nq10, hh10⟩ := hQ10
      have N10 := Fr.app N9 Nq10
      refine Go.hop st10 ?_
      show Go p.tables e below P T10 (mkF m 88 #[.val (.int praw), .val (.int pk), .val (.int (pk &&& (3 : Int32))), .val (.int (42 : Int32)), .val (.ref aZERO_OR_MORE), .val (.int (1 : Int32)), .val (.ref sZERO_OR_MORE)] [(.int (if (1 : Int32) = (0 : Int32) then (1 : Int32) else (0 : Int32)))])
      refine Go.via (fun t k => XS.ifYes X10.here hx rfl (pc0 := 88) (pc' := 110) rfl (hb hby at_88) rfl ((if0 _ _).trans (teq (by decide)).1) (by decide) (by decide) k) ?_
      show Go p.tables e below P T10 (mkF m 110 #[.val (.int praw), .val (.int pk), .val (.int (pk &&& (3 : Int32))), .val (.int (42 : Int32)), .val (.ref aZERO_OR_MORE), .val (.int (1 : Int32)), .val (.ref sZERO_OR_MORE)] [])
      refine Go.via (fun t k => XS.aload X10.here hx rfl (hb hby at_110) rfl rfl k) ?_
      show Go p.tables e below P T10 (mkF m 112 #[.val (.int praw), .val (.int pk), .val (.int (pk &&& (3 : Int32))), .val (.int (42 : Int32)), .val (.ref aZERO_OR_MORE), .val (.int (1 : Int32)), .val (.ref sZERO_OR_MORE)] [(.ref sZERO_OR_MORE)])
      obtain ⟨cq11, kq11, q11a, q11b, q11c⟩ := isOf hZ hh10 (P15.ext O0.2)
      obtain ⟨_, _, ⟨T11, L11, k11, n11⟩, -, X11, ⟨Lc11, hQ11, l11, y11, z11⟩, st11⟩ := X10.virtualBack hx (y := (⟨"java/lang/String", "length", "()I"⟩ : MethodName)) (z := (⟨"java/lang/String", "length", "()I"⟩ : MethodName)) hown (mvT hZ (hw _ (List.mem_of_getElem? (i := 21) rfl))) (mvT hZ (hw _ (List.mem_of_getElem? (i := 22) rfl))) (notFace_of_selects (args := #[]) (mvT hZ (hw _ (List.mem_of_getElem? (i := 24) rfl)))) (mvT hZ (hw _ (List.mem_of_getElem? (i := 24) rfl))) (mvT hZ (hw _ (List.mem_of_getElem? (i := 23) rfl))) (by decide) (backOf (W := 0) (rm4 l Z a0 hw [] sZERO_OR_MORE cs tZERO_OR_MORE kZERO_OR_MORE (1 : Int32) [(.int (42 : Int32))] h0 n0 Z0 O0 P1 (by first | assumption | decide | omega : ¬ cs = (0 : Int32)) (P15.ext O0.2) (P16.ext O0.2) (P17.ext O0.2) (P18.ext O0.2)) hZ (hw _ (List.mem_of_getElem? (i := 25) rfl)) (hw _ (List.mem_of_getElem? (i := 17) rfl)) (by decide) (by decide)) q11a q11c (g := (mkF m 112 #[.val (.int praw), .val (.int pk), .val (.int (pk &&& (3 : Int32))), .val (.int (42 : Int32)), .val (.ref aZERO_OR_MORE), .val (.int (1 : Int32)), .val (.ref sZERO_OR_MORE)] [(.ref sZERO_OR_MORE)])) rfl (by rw [hml]; rfl) (Steps.refl _) (argsL := []) (rest := []) (lenOf own_pd7 rfl) rfl (by show 2 * 0 + _ ≤ _; exact Nat.le_of_eq rfl) (hb hby at_112) (fun _ _ => ⟨rfl, hh10, (by decide : 0 + 0 ≤ _), (by decide : 0 + 0 ≤ _)⟩)
      dsimp only [Pt.U, Pt.locs, Pt.cells, Pt.slots] at X11 l11 y11 z11 st11 hQ11
      subst l11 y11 z11
      obtain ⟨rfl, Nq11, hh11⟩ := hQ11
      have N11 := Fr.app N10 Nq11
      refine Go.hop st11 ?_
      show Go p.tables e below P T11 (mkF m 115 #[.val (.int praw), .val (.int pk), .val (.int (pk &&& (3 : Int32))), .val (.int (42 : Int32)), .val (.ref aZERO_OR_MORE), .val (.int (1 : Int32)), .val (.ref sZERO_OR_MORE)] [(.int (1 : Int32))])
      refine Go.via (fun t k => XS.iconst X11.here hx rfl (hb hby at_115) k) ?_
      show Go p.tables e below P T11 (mkF m 116 #[.val (.int praw), .val (.int pk), .val (.int (pk &&& (3 : Int32))), .val (.int (42 : Int32)), .val (.ref aZERO_OR_MORE), .val (.int (1 : Int32)), .val (.ref sZERO_OR_MORE)] [(.int (1 : Int32)), (.int (1 : Int32))])
      refine Go.via (fun t k => XS.icmpNo X11.here hx rfl (hb hby at_116) rfl (teq (rfl : (1 : Int32) = (1 : Int32))).2 k) ?_
      show Go p.tables e below P T11 (mkF m 119 #[.val (.int praw), .val (.int pk), .val (.int (pk &&& (3 : Int32))), .val (.int (42 : Int32)), .val (.ref aZERO_OR_MORE), .val (.int (1 : Int32)), .val (.ref sZERO_OR_MORE)] [])
      refine Go.via (fun t k => XS.aload X11.here hx rfl (hb hby at_119) rfl rfl k) ?_
      show Go p.tables e below P T11 (mkF m 121 #[.val (.int praw), .val (.int pk), .val (.int (pk &&& (3 : Int32))), .val (.int (42 : Int32)), .val (.ref aZERO_OR_MORE), .val (.int (1 : Int32)), .val (.ref sZERO_OR_MORE)] [(.ref sZERO_OR_MORE)])
      refine Go.via (fun t k => XS.iconst X11.here hx rfl (hb hby at_121) k) ?_
      show Go p.tables e below P T11 (mkF m 122 #[.val (.int praw), .val (.int pk), .val (.int (pk &&& (3 : Int32))), .val (.int (42 : Int32)), .val (.ref aZERO_OR_MORE), .val (.int (1 : Int32)), .val (.ref sZERO_OR_MORE)] [(.int (0 : Int32)), (.ref sZERO_OR_MORE)])
      obtain ⟨cq12, kq12, q12a, q12b, q12c⟩ := isOf hZ hh11 (P15.ext O0.2)
      obtain ⟨_, _, ⟨T12, L12, k12, n12⟩, -, X12, ⟨Lc12, hQ12, l12, y12, z12⟩, st12⟩ := X11.virtualBack hx (y := (⟨"java/lang/String", "charAt", "(I)C"⟩ : MethodName)) (z := (⟨"java/lang/String", "charAt", "(I)C"⟩ : MethodName)) hown (mvT hZ (hw _ (List.mem_of_getElem? (i := 34) rfl))) (mvT hZ (hw _ (List.mem_of_getElem? (i := 35) rfl))) (notFace_of_selects (args := #[]) (mvT hZ (hw _ (List.mem_of_getElem? (i := 37) rfl)))) (mvT hZ (hw _ (List.mem_of_getElem? (i := 37) rfl))) (mvT hZ (hw _ (List.mem_of_getElem? (i := 36) rfl))) (by decide) (backOf (W := 0) (rm6 l Z a0 hw [] sZERO_OR_MORE (0 : Int32) fm cs tZERO_OR_MORE kZERO_OR_MORE (1 : Int32) [(.int (42 : Int32))] (42 : Int32) h0 n0 Z0 O0 P1 (by first | assumption | decide | omega : ¬ cs = (0 : Int32)) P3 (by first | assumption | decide | omega : fm.isRef = true) (P15.ext O0.2) (P16.ext O0.2) (P17.ext O0.2) (P18.ext O0.2) (by first | assumption | decide | omega : ¬ ((0 : Int32) < (0 : Int32))) (by first | assumption | decide | omega : (0 : Int32) < (1 : Int32)) rfl) hZ (hw _ (List.mem_of_getElem? (i := 38) rfl)) (hw _ (List.mem_of_getElem? (i := 17) rfl)) (by decide) (by decide)) q12a q12c (g := (mkF m 122 #[.val (.int praw), .val (.int pk), .val (.int (pk &&& (3 : Int32))), .val (.int (42 : Int32)), .val (.ref aZERO_OR_MORE), .val (.int (1 : Int32)), .val (.ref sZERO_OR_MORE)] [(.int (0 : Int32)), (.ref sZERO_OR_MORE)])) rfl (by rw [hml]; rfl) (Steps.refl _) (argsL := [(.int (0 : Int32))]) (rest := []) (lenOf own_pd8 rfl) rfl (by show 2 * 0 + _ ≤ _; exact Nat.le_of_eq rfl) (hb hby at_122) (fun _ _ => ⟨rfl, hh11, (by decide : 0 + 0 ≤ _), (by decide : 0 + 0 ≤ _)⟩)
      dsimp only [Pt.U, Pt.locs, Pt.cells, Pt.slots] at X12 l12 y12 z12 st12 hQ12
      subst l12 y12 z12
      obtain ⟨rfl, Nq12, hh12⟩ := hQ12
      have N12 := Fr.app N11 Nq12
      refine Go.hop st12 ?_
      show Go p.tables e below P T12 (mkF m 125 #[.val (.int praw), .val (.int pk), .val (.int (pk &&& (3 : Int32))), .val (.int (42 : Int32)), .val (.ref aZERO_OR_MORE), .val (.int (1 : Int32)), .val (.ref sZERO_OR_MORE)] [(.int ((42 : Int32) &&& (255 : Int32)))])
      refine Go.via (fun t k => XS.iloadN X12.here hx rfl (hb hby at_125) rfl k) ?_
      show Go p.tables e below P T12 (mkF m 126 #[.val (.int praw), .val (.int pk), .val (.int (pk &&& (3 : Int32))), .val (.int (42 : Int32)), .val (.ref aZERO_OR_MORE), .val (.int (1 : Int32)), .val (.ref sZERO_OR_MORE)] [(.int (42 : Int32)), (.int ((42 : Int32) &&& (255 : Int32)))])
      refine Go.via (fun t k => XS.icmpNo X12.here hx rfl (hb hby at_126) rfl (teq (by decide)).2 k) ?_
      show Go p.tables e below P T12 (mkF m 129 #[.val (.int praw), .val (.int pk), .val (.int (pk &&& (3 : Int32))), .val (.int (42 : Int32)), .val (.ref aZERO_OR_MORE), .val (.int (1 : Int32)), .val (.ref sZERO_OR_MORE)] [])
      refine Go.via (fun t k => XS.iconst X12.here hx rfl (hb hby at_129) k) ?_
      show Go p.tables e below P T12 (mkF m 130 #[.val (.int praw), .val (.int pk), .val (.int (pk &&& (3 : Int32))), .val (.int (42 : Int32)), .val (.ref aZERO_OR_MORE), .val (.int (1 : Int32)), .val (.ref sZERO_OR_MORE)] [(.int (1 : Int32))])
      refine Go.via (fun t k => XS.goto X12.here hx rfl (pc0 := 130) (pc' := 134) rfl (hb hby at_130) (by decide) (by decide) k) ?_
      show Go p.tables e below P T12 (mkF m 134 #[.val (.int praw), .val (.int pk), .val (.int (pk &&& (3 : Int32))), .val (.int (42 : Int32)), .val (.ref aZERO_OR_MORE), .val (.int (1 : Int32)), .val (.ref sZERO_OR_MORE)] [(.int (1 : Int32))])
      obtain ⟨fs, hr, hrun, hended, hW, hsame⟩ := X12.leave (v := some (.int (1 : Int32))) (fun h => by rw [Bd.returns] at h; cases h)
      refine ⟨_, _, retZ X12 hx (t := .boolean) Bd.returns (by simp) (hb hby at_134) rfl hr, hrun, hended, hP _ _ ⟨_, _, rfl, ?_, ⟨_, rfl⟩, hW, hsame.mono (by decide) (by decide)⟩⟩
      show Q0 Z praw pk cs fm aOPTIONAL sOPTIONAL tOPTIONAL kOPTIONAL aZERO_OR_MORE sZERO_OR_MORE tZERO_OR_MORE kZERO_OR_MORE aONE_OR_MORE sONE_OR_MORE tONE_OR_MORE kONE_OR_MORE aONE sONE tONE kONE h0 n0 _ T12.heap _
      rw [hh12]
      exact ⟨rfl, N12⟩
    · rw [c2, q2]
      show Go p.tables e below P T3 (mkF m 42 #[.val (.int praw), .val (.int pk), .val (.int (pk &&& (3 : Int32))), .val (.int (43 : Int32)), .unset, .unset, .unset] [(.ref aONE_OR_MORE)])
      refine Go.via (fun t k => XS.astore X3.here hx rfl (hb hby at_42) rfl rfl (l' := #[.val (.int praw), .val (.int pk), .val (.int (pk &&& (3 : Int32))), .val (.int (43 : Int32)), .val (.ref aONE_OR_MORE), .unset, .unset]) rfl k) ?_
      show Go p.tables e below P T3 (mkF m 44 #[.val (.int praw), .val (.int pk), .val (.int (pk &&& (3 : Int32))), .val (.int (43 : Int32)), .val (.ref aONE_OR_MORE), .unset, .unset] [])
      refine Go.via (fun t k => XS.aload X3.here hx rfl (hb hby at_44) rfl rfl k) ?_
      show Go p.tables e below P T3 (mkF m 46 #[.val (.int praw), .val (.int pk), .val (.int (pk &&& (3 : Int32))), .val (.int (43 : Int32)), .val (.ref aONE_OR_MORE), .unset, .unset] [(.ref aONE_OR_MORE)])
      refine Go.via (fun t k => XS.ifnonnullYes X3.here hx rfl (pc0 := 46) (pc' := 51) rfl (hb hby at_46) rfl (by decide) (by decide) k) ?_
      show Go p.tables e below P T3 (mkF m 51 #[.val (.int praw), .val (.int pk), .val (.int (pk &&& (3 : Int32))), .val (.int (43 : Int32)), .val (.ref aONE_OR_MORE), .unset, .unset] [])
      refine Go.via (fun t k => XS.iloadN X3.here hx rfl (hb hby at_51) rfl k) ?_
      show Go p.tables e below P T3 (mkF m 52 #[.val (.int praw), .val (.int pk), .val (.int (pk &&& (3 : Int32))), .val (.int (43 : Int32)), .val (.ref aONE_OR_MORE), .unset, .unset] [(.int (43 : Int32))])
      refine Go.via (fun t k => XS.bipush X3.here hx rfl (hb hby at_52) k) ?_
      show Go p.tables e below P T3 (mkF m 54 #[.val (.int praw), .val (.int pk), .val (.int (pk &&& (3 : Int32))), .val (.int (43 : Int32)), .val (.ref aONE_OR_MORE), .unset, .unset] [(.int (63 : Int32)), (.int (43 : Int32))])
      refine Go.via (fun t k => XS.icmpNo X3.here hx rfl (hb hby at_54) rfl (feq (by decide : ¬ ((43 : Int32) = (63 : Int32)))).1 k) ?_
      show Go p.tables e below P T3 (mkF m 57 #[.val (.int praw), .val (.int pk), .val (.int (pk &&& (3 : Int32))), .val (.int (43 : Int32)), .val (.ref aONE_OR_MORE), .unset, .unset] [])
      refine Go.via (fun t k => XS.iloadN X3.here hx rfl (hb hby at_57) rfl k) ?_
      show Go p.tables e below P T3 (mkF m 58 #[.val (.int praw), .val (.int pk), .val (.int (pk &&& (3 : Int32))), .val (.int (43 : Int32)), .val (.ref aONE_OR_MORE), .unset, .unset] [(.int (43 : Int32))])
      refine Go.via (fun t k => XS.bipush X3.here hx rfl (hb hby at_58) k) ?_
      show Go p.tables e below P T3 (mkF m 60 #[.val (.int praw), .val (.int pk), .val (.int (pk &&& (3 : Int32))), .val (.int (43 : Int32)), .val (.ref aONE_OR_MORE), .unset, .unset] [(.int (42 : Int32)), (.int (43 : Int32))])
      refine Go.via (fun t k => XS.icmpNo X3.here hx rfl (hb hby at_60) rfl (feq (by decide : ¬ ((43 : Int32) = (42 : Int32)))).1 k) ?_
      show Go p.tables e below P T3 (mkF m 63 #[.val (.int praw), .val (.int pk), .val (.int (pk &&& (3 : Int32))), .val (.int (43 : Int32)), .val (.ref aONE_OR_MORE), .unset, .unset] [])
      refine Go.via (fun t k => XS.iloadN X3.here hx rfl (hb hby at_63) rfl k) ?_
      show Go p.tables e below P T3 (mkF m 64 #[.val (.int praw), .val (.int pk), .val (.int (pk &&& (3 : Int32))), .val (.int (43 : Int32)), .val (.ref aONE_OR_MORE), .unset, .unset] [(.int (43 : Int32))])
      refine Go.via (fun t k => XS.bipush X3.here hx rfl (hb hby at_64) k) ?_
      show Go p.tables e below P T3 (mkF m 66 #[.val (.int praw), .val (.int pk), .val (.int (pk &&& (3 : Int32))), .val (.int (43 : Int32)), .val (.ref aONE_OR_MORE), .unset, .unset] [(.int (43 : Int32)), (.int (43 : Int32))])
      refine Go.via (fun t k => XS.icmpNo X3.here hx rfl (hb hby at_66) rfl (teq (rfl : (43 : Int32) = (43 : Int32))).2 k) ?_
      show Go p.tables e below P T3 (mkF m 69 #[.val (.int praw), .val (.int pk), .val (.int (pk &&& (3 : Int32))), .val (.int (43 : Int32)), .val (.ref aONE_OR_MORE), .unset, .unset] [])
      refine Go.via (fun t k => XS.iconst X3.here hx rfl (hb hby at_69) k) ?_
      show Go p.tables e below P T3 (mkF m 70 #[.val (.int praw), .val (.int pk), .val (.int (pk &&& (3 : Int32))), .val (.int (43 : Int32)), .val (.ref aONE_OR_MORE), .unset, .unset] [(.int (1 : Int32))])
      refine Go.via (fun t k => XS.goto X3.here hx rfl (pc0 := 70) (pc' := 74) rfl (hb hby at_70) (by decide) (by decide) k) ?_
      show Go p.tables e below P T3 (mkF m 74 #[.val (.int praw), .val (.int pk), .val (.int (pk &&& (3 : Int32))), .val (.int (43 : Int32)), .val (.ref aONE_OR_MORE), .unset, .unset] [(.int (1 : Int32))])
      refine Go.via (fun t k => XS.istore X3.here hx rfl (hb hby at_74) rfl (l' := #[.val (.int praw), .val (.int pk), .val (.int (pk &&& (3 : Int32))), .val (.int (43 : Int32)), .val (.ref aONE_OR_MORE), .val (.int (1 : Int32)), .unset]) rfl k) ?_
      show Go p.tables e below P T3 (mkF m 76 #[.val (.int praw), .val (.int pk), .val (.int (pk &&& (3 : Int32))), .val (.int (43 : Int32)), .val (.ref aONE_OR_MORE), .val (.int (1 : Int32)), .unset] [])
      refine Go.via (fun t k => XS.aload X3.here hx rfl (hb hby at_76) rfl rfl k) ?_
      show Go p.tables e below P T3 (mkF m 78 #[.val (.int praw), .val (.int pk), .val (.int (pk &&& (3 : Int32))), .val (.int (43 : Int32)), .val (.ref aONE_OR_MORE), .val (.int (1 : Int32)), .unset] [(.ref aONE_OR_MORE)])
      obtain ⟨cq14, kq14, q14a, q14b, q14c⟩ := isOf hZ hh3 (P20.ext O0.2)
      obtain ⟨_, _, ⟨T14, L14, k14, n14⟩, -, X14, ⟨Lc14, hQ14, l14, y14, z14⟩, st14⟩ := X3.virtualBack hx (y := (⟨"com/example/referee/referee/model/Quantifier", "symbol", "()Ljava/lang/String;"⟩ : MethodName)) (z := (⟨"com/example/referee/referee/model/Quantifier", "symbol", "()Ljava/lang/String;"⟩ : MethodName)) hown (mvT hZ (hw _ (List.mem_of_getElem? (i := 6) rfl))) (mvT hZ (hw _ (List.mem_of_getElem? (i := 7) rfl))) (notFace_of_selects (args := #[]) (mvT hZ (hw _ (List.mem_of_getElem? (i := 9) rfl)))) (mvT hZ (hw _ (List.mem_of_getElem? (i := 9) rfl))) (mvT hZ (hw _ (List.mem_of_getElem? (i := 8) rfl))) (by decide) (backOf (W := 0) (rm2 l Z a0 hw [] aONE_OR_MORE sONE_OR_MORE h0 n0 Z0 (P21.ext O0.2)) hZ (hw _ (List.mem_of_getElem? (i := 10) rfl)) (hw _ (List.mem_of_getElem? (i := 2) rfl)) (by decide) (by decide)) q14a q14c (g := (mkF m 78 #[.val (.int praw), .val (.int pk), .val (.int (pk &&& (3 : Int32))), .val (.int (43 : Int32)), .val (.ref aONE_OR_MORE), .val (.int (1 : Int32)), .unset] [(.ref aONE_OR_MORE)])) rfl (by rw [hml]; rfl) (Steps.refl _) (argsL := []) (rest := []) (lenOf own_pd6 rfl) rfl (by show 2 * 0 + _ ≤ _; exact Nat.le_of_eq rfl) (hb hby at_78) (fun _ _ => ⟨rfl, hh3, (by decide : 0 + 0 ≤ _), (by decide : 0 + 0 ≤ _)⟩)
      dsimp only [Pt.U, Pt.locs, Pt.cells, Pt.slots] at X14 l14 y14 z14 st14 hQ14
      subst l14 y14 z14
      obtain ⟨rfl, Nq14, hh14⟩ := hQ14
      have N14 := Fr.app N3 Nq14
      refine Go.hop st14 ?_
      show Go p.tables e below P T14 (mkF m 81 #[.val (.int praw), .val (.int pk), .val (.int (pk &&& (3 : Int32))), .val (.int (43 : Int32)), .val (.ref aONE_OR_MORE), .val (.int (1 : Int32)), .unset] [(.ref sONE_OR_MORE)])
      refine Go.via (fun t k => XS.astore X14.here hx rfl (hb hby at_81) rfl rfl (l' := #[.val (.int praw), .val (.int pk), .val (.int (pk &&& (3 : Int32))), .val (.int (43 : Int32)), .val (.ref aONE_OR_MORE), .val (.int (1 : Int32)), .val (.ref sONE_OR_MORE)]) rfl k) ?_
      show Go p.tables e below P T14 (mkF m 83 #[.val (.int praw), .val (.int pk), .val (.int (pk &&& (3 : Int32))), .val (.int (43 : Int32)), .val (.ref aONE_OR_MORE), .val (.int (1 : Int32)), .val (.ref sONE_OR_MORE)] [])
      refine Go.via (fun t k => XS.aload X14.here hx rfl (hb hby at_83) rfl rfl k) ?_
      show Go p.tables e below P T14 (mkF m 85 #[.val (.int praw), .val (.int pk), .val (.int (pk &&& (3 : Int32))), .val (.int (43 : Int32)), .val (.ref aONE_OR_MORE), .val (.int (1 : Int32)), .val (.ref sONE_OR_MORE)] [(.ref sONE_OR_MORE)])
      obtain ⟨cq15, kq15, q15a, q15b, q15c⟩ := isOf hZ hh14 (P22.ext O0.2)
      obtain ⟨_, _, ⟨T15, L15, k15, n15⟩, -, X15, ⟨Lc15, hQ15, l15, y15, z15⟩, st15⟩ := X14.virtualBack hx (y := (⟨"java/lang/String", "isEmpty", "()Z"⟩ : MethodName)) (z := (⟨"java/lang/String", "isEmpty", "()Z"⟩ : MethodName)) hown (mvT hZ (hw _ (List.mem_of_getElem? (i := 13) rfl))) (mvT hZ (hw _ (List.mem_of_getElem? (i := 14) rfl))) (notFace_of_selects (args := #[]) (mvT hZ (hw _ (List.mem_of_getElem? (i := 16) rfl)))) (mvT hZ (hw _ (List.mem_of_getElem? (i := 16) rfl))) (mvT hZ (hw _ (List.mem_of_getElem? (i := 15) rfl))) (by decide) (backOf (W := 0) (rm3 l Z a0 hw [] sONE_OR_MORE tONE_OR_MORE kONE_OR_MORE (1 : Int32) [(.int (43 : Int32))] h0 n0 Z0 (P23.ext O0.2) (P25.ext O0.2)) hZ (hw _ (List.mem_of_getElem? (i := 18) rfl)) (hw _ (List.mem_of_getElem? (i := 17) rfl)) (by decide) (by decide)) q15a q15c (g := (mkF m 85 #[.val (.int praw), .val (.int pk), .val (.int (pk &&& (3 : Int32))), .val (.int (43 : Int32)), .val (.ref aONE_OR_MORE), .val (.int (1 : Int32)), .val (.ref sONE_OR_MORE)] [(.ref sONE_OR_MORE)])) rfl (by rw [hml]; rfl) (Steps.refl _) (argsL := []) (rest := []) (lenOf own_pd3 rfl) rfl (by show 2 * 0 + _ ≤ _; exact Nat.le_of_eq rfl) (hb hby at_85) (fun _ _ => ⟨rfl, hh14, (by decide : 0 + 0 ≤ _), (by decide : 0 + 0 ≤ _)⟩)
      dsimp only [Pt.U, Pt.locs, Pt.cells, Pt.slots] at X15 l15 y15 z15 st15 hQ15
      subst l15 y15 z15
      obtain ⟨rfl, Nq15, hh15⟩ := hQ15
      have N15 := Fr.app N14 Nq15
      refine Go.hop st15 ?_
      show Go p.tables e below P T15 (mkF m 88 #[.val (.int praw), .val (.int pk), .val (.int (pk &&& (3 : Int32))), .val (.int (43 : Int32)), .val (.ref aONE_OR_MORE), .val (.int (1 : Int32)), .val (.ref sONE_OR_MORE)] [(.int (if (1 : Int32) = (0 : Int32) then (1 : Int32) else (0 : Int32)))])
      refine Go.via (fun t k => XS.ifYes X15.here hx rfl (pc0 := 88) (pc' := 110) rfl (hb hby at_88) rfl ((if0 _ _).trans (teq (by decide)).1) (by decide) (by decide) k) ?_
      show Go p.tables e below P T15 (mkF m 110 #[.val (.int praw), .val (.int pk), .val (.int (pk &&& (3 : Int32))), .val (.int (43 : Int32)), .val (.ref aONE_OR_MORE), .val (.int (1 : Int32)), .val (.ref sONE_OR_MORE)] [])
      refine Go.via (fun t k => XS.aload X15.here hx rfl (hb hby at_110) rfl rfl k) ?_
      show Go p.tables e below P T15 (mkF m 112 #[.val (.int praw), .val (.int pk), .val (.int (pk &&& (3 : Int32))), .val (.int (43 : Int32)), .val (.ref aONE_OR_MORE), .val (.int (1 : Int32)), .val (.ref sONE_OR_MORE)] [(.ref sONE_OR_MORE)])
      obtain ⟨cq16, kq16, q16a, q16b, q16c⟩ := isOf hZ hh15 (P22.ext O0.2)
      obtain ⟨_, _, ⟨T16, L16, k16, n16⟩, -, X16, ⟨Lc16, hQ16, l16, y16, z16⟩, st16⟩ := X15.virtualBack hx (y := (⟨"java/lang/String", "length", "()I"⟩ : MethodName)) (z := (⟨"java/lang/String", "length", "()I"⟩ : MethodName)) hown (mvT hZ (hw _ (List.mem_of_getElem? (i := 21) rfl))) (mvT hZ (hw _ (List.mem_of_getElem? (i := 22) rfl))) (notFace_of_selects (args := #[]) (mvT hZ (hw _ (List.mem_of_getElem? (i := 24) rfl)))) (mvT hZ (hw _ (List.mem_of_getElem? (i := 24) rfl))) (mvT hZ (hw _ (List.mem_of_getElem? (i := 23) rfl))) (by decide) (backOf (W := 0) (rm4 l Z a0 hw [] sONE_OR_MORE cs tONE_OR_MORE kONE_OR_MORE (1 : Int32) [(.int (43 : Int32))] h0 n0 Z0 O0 P1 (by first | assumption | decide | omega : ¬ cs = (0 : Int32)) (P22.ext O0.2) (P23.ext O0.2) (P24.ext O0.2) (P25.ext O0.2)) hZ (hw _ (List.mem_of_getElem? (i := 25) rfl)) (hw _ (List.mem_of_getElem? (i := 17) rfl)) (by decide) (by decide)) q16a q16c (g := (mkF m 112 #[.val (.int praw), .val (.int pk), .val (.int (pk &&& (3 : Int32))), .val (.int (43 : Int32)), .val (.ref aONE_OR_MORE), .val (.int (1 : Int32)), .val (.ref sONE_OR_MORE)] [(.ref sONE_OR_MORE)])) rfl (by rw [hml]; rfl) (Steps.refl _) (argsL := []) (rest := []) (lenOf own_pd7 rfl) rfl (by show 2 * 0 + _ ≤ _; exact Nat.le_of_eq rfl) (hb hby at_112) (fun _ _ => ⟨rfl, hh15, (by decide : 0 + 0 ≤ _), (by decide : 0 + 0 ≤ _)⟩)
      dsimp only [Pt.U, Pt.locs, Pt.cells, Pt.slots] at X16 l16 y16 z16 st16 hQ16
      subst l16 y16 z16
      obtain ⟨rfl, Nq16, hh16⟩ := hQ16
      have N16 := Fr.app N15 Nq16
      refine Go.hop st16 ?_
      show Go p.tables e below P T16 (mkF m 115 #[.val (.int praw), .val (.int pk), .val (.int (pk &&& (3 : Int32))), .val (.int (43 : Int32)), .val (.ref aONE_OR_MORE), .val (.int (1 : Int32)), .val (.ref sONE_OR_MORE)] [(.int (1 : Int32))])
      refine Go.via (fun t k => XS.iconst X16.here hx rfl (hb hby at_115) k) ?_
      show Go p.tables e below P T16 (mkF m 116 #[.val (.int praw), .val (.int pk), .val (.int (pk &&& (3 : Int32))), .val (.int (43 : Int32)), .val (.ref aONE_OR_MORE), .val (.int (1 : Int32)), .val (.ref sONE_OR_MORE)] [(.int (1 : Int32)), (.int (1 : Int32))])
      refine Go.via (fun t k => XS.icmpNo X16.here hx rfl (hb hby at_116) rfl (teq (rfl : (1 : Int32) = (1 : Int32))).2 k) ?_
      show Go p.tables e below P T16 (mkF m 119 #[.val (.int praw), .val (.int pk), .val (.int (pk &&& (3 : Int32))), .val (.int (43 : Int32)), .val (.ref aONE_OR_MORE), .val (.int (1 : Int32)), .val (.ref sONE_OR_MORE)] [])
      refine Go.via (fun t k => XS.aload X16.here hx rfl (hb hby at_119) rfl rfl k) ?_
      show Go p.tables e below P T16 (mkF m 121 #[.val (.int praw), .val (.int pk), .val (.int (pk &&& (3 : Int32))), .val (.int (43 : Int32)), .val (.ref aONE_OR_MORE), .val (.int (1 : Int32)), .val (.ref sONE_OR_MORE)] [(.ref sONE_OR_MORE)])
      refine Go.via (fun t k => XS.iconst X16.here hx rfl (hb hby at_121) k) ?_
      show Go p.tables e below P T16 (mkF m 122 #[.val (.int praw), .val (.int pk), .val (.int (pk &&& (3 : Int32))), .val (.int (43 : Int32)), .val (.ref aONE_OR_MORE), .val (.int (1 : Int32)), .val (.ref sONE_OR_MORE)] [(.int (0 : Int32)), (.ref sONE_OR_MORE)])
      obtain ⟨cq17, kq17, q17a, q17b, q17c⟩ := isOf hZ hh16 (P22.ext O0.2)
      obtain ⟨_, _, ⟨T17, L17, k17, n17⟩, -, X17, ⟨Lc17, hQ17, l17, y17, z17⟩, st17⟩ := X16.virtualBack hx (y := (⟨"java/lang/String", "charAt", "(I)C"⟩ : MethodName)) (z := (⟨"java/lang/String", "charAt", "(I)C"⟩ : MethodName)) hown (mvT hZ (hw _ (List.mem_of_getElem? (i := 34) rfl))) (mvT hZ (hw _ (List.mem_of_getElem? (i := 35) rfl))) (notFace_of_selects (args := #[]) (mvT hZ (hw _ (List.mem_of_getElem? (i := 37) rfl)))) (mvT hZ (hw _ (List.mem_of_getElem? (i := 37) rfl))) (mvT hZ (hw _ (List.mem_of_getElem? (i := 36) rfl))) (by decide) (backOf (W := 0) (rm6 l Z a0 hw [] sONE_OR_MORE (0 : Int32) fm cs tONE_OR_MORE kONE_OR_MORE (1 : Int32) [(.int (43 : Int32))] (43 : Int32) h0 n0 Z0 O0 P1 (by first | assumption | decide | omega : ¬ cs = (0 : Int32)) P3 (by first | assumption | decide | omega : fm.isRef = true) (P22.ext O0.2) (P23.ext O0.2) (P24.ext O0.2) (P25.ext O0.2) (by first | assumption | decide | omega : ¬ ((0 : Int32) < (0 : Int32))) (by first | assumption | decide | omega : (0 : Int32) < (1 : Int32)) rfl) hZ (hw _ (List.mem_of_getElem? (i := 38) rfl)) (hw _ (List.mem_of_getElem? (i := 17) rfl)) (by decide) (by decide)) q17a q17c (g := (mkF m 122 #[.val (.int praw), .val (.int pk), .val (.int (pk &&& (3 : Int32))), .val (.int (43 : Int32)), .val (.ref aONE_OR_MORE), .val (.int (1 : Int32)), .val (.ref sONE_OR_MORE)] [(.int (0 : Int32)), (.ref sONE_OR_MORE)])) rfl (by rw [hml]; rfl) (Steps.refl _) (argsL := [(.int (0 : Int32))]) (rest := []) (lenOf own_pd8 rfl) rfl (by show 2 * 0 + _ ≤ _; exact Nat.le_of_eq rfl) (hb hby at_122) (fun _ _ => ⟨rfl, hh16, (by decide : 0 + 0 ≤ _), (by decide : 0 + 0 ≤ _)⟩)
      dsimp only [Pt.U, Pt.locs, Pt.cells, Pt.slots] at X17 l17 y17 z17 st17 hQ17
      subst l17 y17 z17
      obtain ⟨rfl, Nq17, hh17⟩ := hQ17
      have N17 := Fr.app N16 Nq17
      refine Go.hop st17 ?_
      show Go p.tables e below P T17 (mkF m 125 #[.val (.int praw), .val (.int pk), .val (.int (pk &&& (3 : Int32))), .val (.int (43 : Int32)), .val (.ref aONE_OR_MORE), .val (.int (1 : Int32)), .val (.ref sONE_OR_MORE)] [(.int ((43 : Int32) &&& (255 : Int32)))])
      refine Go.via (fun t k => XS.iloadN X17.here hx rfl (hb hby at_125) rfl k) ?_
      show Go p.tables e below P T17 (mkF m 126 #[.val (.int praw), .val (.int pk), .val (.int (pk &&& (3 : Int32))), .val (.int (43 : Int32)), .val (.ref aONE_OR_MORE), .val (.int (1 : Int32)), .val (.ref sONE_OR_MORE)] [(.int (43 : Int32)), (.int ((43 : Int32) &&& (255 : Int32)))])
      refine Go.via (fun t k => XS.icmpNo X17.here hx rfl (hb hby at_126) rfl (teq (by decide)).2 k) ?_
      show Go p.tables e below P T17 (mkF m 129 #[.val (.int praw), .val (.int pk), .val (.int (pk &&& (3 : Int32))), .val (.int (43 : Int32)), .val (.ref aONE_OR_MORE), .val (.int (1 : Int32)), .val (.ref sONE_OR_MORE)] [])
      refine Go.via (fun t k => XS.iconst X17.here hx rfl (hb hby at_129) k) ?_
      show Go p.tables e below P T17 (mkF m 130 #[.val (.int praw), .val (.int pk), .val (.int (pk &&& (3 : Int32))), .val (.int (43 : Int32)), .val (.ref aONE_OR_MORE), .val (.int (1 : Int32)), .val (.ref sONE_OR_MORE)] [(.int (1 : Int32))])
      refine Go.via (fun t k => XS.goto X17.here hx rfl (pc0 := 130) (pc' := 134) rfl (hb hby at_130) (by decide) (by decide) k) ?_
      show Go p.tables e below P T17 (mkF m 134 #[.val (.int praw), .val (.int pk), .val (.int (pk &&& (3 : Int32))), .val (.int (43 : Int32)), .val (.ref aONE_OR_MORE), .val (.int (1 : Int32)), .val (.ref sONE_OR_MORE)] [(.int (1 : Int32))])
      obtain ⟨fs, hr, hrun, hended, hW, hsame⟩ := X17.leave (v := some (.int (1 : Int32))) (fun h => by rw [Bd.returns] at h; cases h)
      refine ⟨_, _, retZ X17 hx (t := .boolean) Bd.returns (by simp) (hb hby at_134) rfl hr, hrun, hended, hP _ _ ⟨_, _, rfl, ?_, ⟨_, rfl⟩, hW, hsame.mono (by decide) (by decide)⟩⟩
      show Q0 Z praw pk cs fm aOPTIONAL sOPTIONAL tOPTIONAL kOPTIONAL aZERO_OR_MORE sZERO_OR_MORE tZERO_OR_MORE kZERO_OR_MORE aONE_OR_MORE sONE_OR_MORE tONE_OR_MORE kONE_OR_MORE aONE sONE tONE kONE h0 n0 _ T17.heap _
      rw [hh17]
      exact ⟨rfl, N17⟩
    · rw [q3]
      show Go p.tables e below P T3 (mkF m 42 #[.val (.int praw), .val (.int pk), .val (.int (pk &&& (3 : Int32))), .val (.int v2_0), .unset, .unset, .unset] [(.ref aONE)])
      refine Go.via (fun t k => XS.astore X3.here hx rfl (hb hby at_42) rfl rfl (l' := #[.val (.int praw), .val (.int pk), .val (.int (pk &&& (3 : Int32))), .val (.int v2_0), .val (.ref aONE), .unset, .unset]) rfl k) ?_
      show Go p.tables e below P T3 (mkF m 44 #[.val (.int praw), .val (.int pk), .val (.int (pk &&& (3 : Int32))), .val (.int v2_0), .val (.ref aONE), .unset, .unset] [])
      refine Go.via (fun t k => XS.aload X3.here hx rfl (hb hby at_44) rfl rfl k) ?_
      show Go p.tables e below P T3 (mkF m 46 #[.val (.int praw), .val (.int pk), .val (.int (pk &&& (3 : Int32))), .val (.int v2_0), .val (.ref aONE), .unset, .unset] [(.ref aONE)])
      refine Go.via (fun t k => XS.ifnonnullYes X3.here hx rfl (pc0 := 46) (pc' := 51) rfl (hb hby at_46) rfl (by decide) (by decide) k) ?_
      show Go p.tables e below P T3 (mkF m 51 #[.val (.int praw), .val (.int pk), .val (.int (pk &&& (3 : Int32))), .val (.int v2_0), .val (.ref aONE), .unset, .unset] [])
      refine Go.via (fun t k => XS.iloadN X3.here hx rfl (hb hby at_51) rfl k) ?_
      show Go p.tables e below P T3 (mkF m 52 #[.val (.int praw), .val (.int pk), .val (.int (pk &&& (3 : Int32))), .val (.int v2_0), .val (.ref aONE), .unset, .unset] [(.int v2_0)])
      refine Go.via (fun t k => XS.bipush X3.here hx rfl (hb hby at_52) k) ?_
      show Go p.tables e below P T3 (mkF m 54 #[.val (.int praw), .val (.int pk), .val (.int (pk &&& (3 : Int32))), .val (.int v2_0), .val (.ref aONE), .unset, .unset] [(.int (63 : Int32)), (.int v2_0)])
      refine Go.via (fun t k => XS.icmpNo X3.here hx rfl (hb hby at_54) rfl (feq n0').1 k) ?_
      show Go p.tables e below P T3 (mkF m 57 #[.val (.int praw), .val (.int pk), .val (.int (pk &&& (3 : Int32))), .val (.int v2_0), .val (.ref aONE), .unset, .unset] [])
      refine Go.via (fun t k => XS.iloadN X3.here hx rfl (hb hby at_57) rfl k) ?_
      show Go p.tables e below P T3 (mkF m 58 #[.val (.int praw), .val (.int pk), .val (.int (pk &&& (3 : Int32))), .val (.int v2_0), .val (.ref aONE), .unset, .unset] [(.int v2_0)])
      refine Go.via (fun t k => XS.bipush X3.here hx rfl (hb hby at_58) k) ?_
      show Go p.tables e below P T3 (mkF m 60 #[.val (.int praw), .val (.int pk), .val (.int (pk &&& (3 : Int32))), .val (.int v2_0), .val (.ref aONE), .unset, .unset] [(.int (42 : Int32)), (.int v2_0)])
      refine Go.via (fun t k => XS.icmpNo X3.here hx rfl (hb hby at_60) rfl (feq n1').1 k) ?_
      show Go p.tables e below P T3 (mkF m 63 #[.val (.int praw), .val (.int pk), .val (.int (pk &&& (3 : Int32))), .val (.int v2_0), .val (.ref aONE), .unset, .unset] [])
      refine Go.via (fun t k => XS.iloadN X3.here hx rfl (hb hby at_63) rfl k) ?_
      show Go p.tables e below P T3 (mkF m 64 #[.val (.int praw), .val (.int pk), .val (.int (pk &&& (3 : Int32))), .val (.int v2_0), .val (.ref aONE), .unset, .unset] [(.int v2_0)])
      refine Go.via (fun t k => XS.bipush X3.here hx rfl (hb hby at_64) k) ?_
      show Go p.tables e below P T3 (mkF m 66 #[.val (.int praw), .val (.int pk), .val (.int (pk &&& (3 : Int32))), .val (.int v2_0), .val (.ref aONE), .unset, .unset] [(.int (43 : Int32)), (.int v2_0)])
      refine Go.via (fun t k => XS.icmpYes X3.here hx rfl (pc0 := 66) (pc' := 73) rfl (hb hby at_66) rfl (feq n2').2 (by decide) (by decide) k) ?_
      show Go p.tables e below P T3 (mkF m 73 #[.val (.int praw), .val (.int pk), .val (.int (pk &&& (3 : Int32))), .val (.int v2_0), .val (.ref aONE), .unset, .unset] [])
      refine Go.via (fun t k => XS.iconst X3.here hx rfl (hb hby at_73) k) ?_
      show Go p.tables e below P T3 (mkF m 74 #[.val (.int praw), .val (.int pk), .val (.int (pk &&& (3 : Int32))), .val (.int v2_0), .val (.ref aONE), .unset, .unset] [(.int (0 : Int32))])
      refine Go.via (fun t k => XS.istore X3.here hx rfl (hb hby at_74) rfl (l' := #[.val (.int praw), .val (.int pk), .val (.int (pk &&& (3 : Int32))), .val (.int v2_0), .val (.ref aONE), .val (.int (0 : Int32)), .unset]) rfl k) ?_
      show Go p.tables e below P T3 (mkF m 76 #[.val (.int praw), .val (.int pk), .val (.int (pk &&& (3 : Int32))), .val (.int v2_0), .val (.ref aONE), .val (.int (0 : Int32)), .unset] [])
      refine Go.via (fun t k => XS.aload X3.here hx rfl (hb hby at_76) rfl rfl k) ?_
      show Go p.tables e below P T3 (mkF m 78 #[.val (.int praw), .val (.int pk), .val (.int (pk &&& (3 : Int32))), .val (.int v2_0), .val (.ref aONE), .val (.int (0 : Int32)), .unset] [(.ref aONE)])
      obtain ⟨cq19, kq19, q19a, q19b, q19c⟩ := isOf hZ hh3 (P27.ext O0.2)
      obtain ⟨_, _, ⟨T19, L19, k19, n19⟩, -, X19, ⟨Lc19, hQ19, l19, y19, z19⟩, st19⟩ := X3.virtualBack hx (y := (⟨"com/example/referee/referee/model/Quantifier", "symbol", "()Ljava/lang/String;"⟩ : MethodName)) (z := (⟨"com/example/referee/referee/model/Quantifier", "symbol", "()Ljava/lang/String;"⟩ : MethodName)) hown (mvT hZ (hw _ (List.mem_of_getElem? (i := 6) rfl))) (mvT hZ (hw _ (List.mem_of_getElem? (i := 7) rfl))) (notFace_of_selects (args := #[]) (mvT hZ (hw _ (List.mem_of_getElem? (i := 9) rfl)))) (mvT hZ (hw _ (List.mem_of_getElem? (i := 9) rfl))) (mvT hZ (hw _ (List.mem_of_getElem? (i := 8) rfl))) (by decide) (backOf (W := 0) (rm2 l Z a0 hw [] aONE sONE h0 n0 Z0 (P28.ext O0.2)) hZ (hw _ (List.mem_of_getElem? (i := 10) rfl)) (hw _ (List.mem_of_getElem? (i := 2) rfl)) (by decide) (by decide)) q19a q19c (g := (mkF m 78 #[.val (.int praw), .val (.int pk), .val (.int (pk &&& (3 : Int32))), .val (.int v2_0), .val (.ref aONE), .val (.int (0 : Int32)), .unset] [(.ref aONE)])) rfl (by rw [hml]; rfl) (Steps.refl _) (argsL := []) (rest := []) (lenOf own_pd6 rfl) rfl (by show 2 * 0 + _ ≤ _; exact Nat.le_of_eq rfl) (hb hby at_78) (fun _ _ => ⟨rfl, hh3, (by decide : 0 + 0 ≤ _), (by decide : 0 + 0 ≤ _)⟩)
      dsimp only [Pt.U, Pt.locs, Pt.cells, Pt.slots] at X19 l19 y19 z19 st19 hQ19
      subst l19 y19 z19
      obtain ⟨rfl, Nq19, hh19⟩ := hQ19
      have N19 := Fr.app N3 Nq19
      refine Go.hop st19 ?_
      show Go p.tables e below P T19 (mkF m 81 #[.val (.int praw), .val (.int pk), .val (.int (pk &&& (3 : Int32))), .val (.int v2_0), .val (.ref aONE), .val (.int (0 : Int32)), .unset] [(.ref sONE)])
      refine Go.via (fun t k => XS.astore X19.here hx rfl (hb hby at_81) rfl rfl (l' := #[.val (.int praw), .val (.int pk), .val (.int (pk &&& (3 : Int32))), .val (.int v2_0), .val (.ref aONE), .val (.int (0 : Int32)), .val (.ref sONE)]) rfl k) ?_
      show Go p.tables e below P T19 (mkF m 83 #[.val (.int praw), .val (.int pk), .val (.int (pk &&& (3 : Int32))), .val (.int v2_0), .val (.ref aONE), .val (.int (0 : Int32)), .val (.ref sONE)] [])
      refine Go.via (fun t k => XS.aload X19.here hx rfl (hb hby at_83) rfl rfl k) ?_
      show Go p.tables e below P T19 (mkF m 85 #[.val (.int praw), .val (.int pk), .val (.int (pk &&& (3 : Int32))), .val (.int v2_0), .val (.ref aONE), .val (.int (0 : Int32)), .val (.ref sONE)] [(.ref sONE)])
      obtain ⟨cq20, kq20, q20a, q20b, q20c⟩ := isOf hZ hh19 (P29.ext O0.2)
      obtain ⟨_, _, ⟨T20, L20, k20, n20⟩, -, X20, ⟨Lc20, hQ20, l20, y20, z20⟩, st20⟩ := X19.virtualBack hx (y := (⟨"java/lang/String", "isEmpty", "()Z"⟩ : MethodName)) (z := (⟨"java/lang/String", "isEmpty", "()Z"⟩ : MethodName)) hown (mvT hZ (hw _ (List.mem_of_getElem? (i := 13) rfl))) (mvT hZ (hw _ (List.mem_of_getElem? (i := 14) rfl))) (notFace_of_selects (args := #[]) (mvT hZ (hw _ (List.mem_of_getElem? (i := 16) rfl)))) (mvT hZ (hw _ (List.mem_of_getElem? (i := 16) rfl))) (mvT hZ (hw _ (List.mem_of_getElem? (i := 15) rfl))) (by decide) (backOf (W := 0) (rm3 l Z a0 hw [] sONE tONE kONE (0 : Int32) [] h0 n0 Z0 (P30.ext O0.2) (P32.ext O0.2)) hZ (hw _ (List.mem_of_getElem? (i := 18) rfl)) (hw _ (List.mem_of_getElem? (i := 17) rfl)) (by decide) (by decide)) q20a q20c (g := (mkF m 85 #[.val (.int praw), .val (.int pk), .val (.int (pk &&& (3 : Int32))), .val (.int v2_0), .val (.ref aONE), .val (.int (0 : Int32)), .val (.ref sONE)] [(.ref sONE)])) rfl (by rw [hml]; rfl) (Steps.refl _) (argsL := []) (rest := []) (lenOf own_pd3 rfl) rfl (by show 2 * 0 + _ ≤ _; exact Nat.le_of_eq rfl) (hb hby at_85) (fun _ _ => ⟨rfl, hh19, (by decide : 0 + 0 ≤ _), (by decide : 0 + 0 ≤ _)⟩)
      dsimp only [Pt.U, Pt.locs, Pt.cells, Pt.slots] at X20 l20 y20 z20 st20 hQ20
      subst l20 y20 z20
      obtain ⟨rfl, Nq20, hh20⟩ := hQ20
      have N20 := Fr.app N19 Nq20
      refine Go.hop st20 ?_
      show Go p.tables e below P T20 (mkF m 88 #[.val (.int praw), .val (.int pk), .val (.int (pk &&& (3 : Int32))), .val (.int v2_0), .val (.ref aONE), .val (.int (0 : Int32)), .val (.ref sONE)] [(.int (if (0 : Int32) = (0 : Int32) then (1 : Int32) else (0 : Int32)))])
      refine Go.via (fun t k => XS.ifNo X20.here hx rfl (hb hby at_88) rfl ((if0 _ _).trans (feq (by decide)).1) k) ?_
      show Go p.tables e below P T20 (mkF m 91 #[.val (.int praw), .val (.int pk), .val (.int (pk &&& (3 : Int32))), .val (.int v2_0), .val (.ref aONE), .val (.int (0 : Int32)), .val (.ref sONE)] [])
      refine Go.via (fun t k => XS.aload X20.here hx rfl (hb hby at_91) rfl rfl k) ?_
      show Go p.tables e below P T20 (mkF m 93 #[.val (.int praw), .val (.int pk), .val (.int (pk &&& (3 : Int32))), .val (.int v2_0), .val (.ref aONE), .val (.int (0 : Int32)), .val (.ref sONE)] [(.ref aONE)])
      obtain ⟨T21, X21, e21, st21⟩ := getS2 X20 hx hZ hown (host := "") (Or.inl (hw _ (List.mem_of_getElem? (i := 60) rfl))) Via.refl hh20 (P26.ext O0.2) (g := (mkF m 93 #[.val (.int praw), .val (.int pk), .val (.int (pk &&& (3 : Int32))), .val (.int v2_0), .val (.ref aONE), .val (.int (0 : Int32)), .val (.ref sONE)] [(.ref aONE)])) rfl (hb hby at_93)
      refine Go.via st21 ?_
      show Go p.tables e below P T21 (mkF m 96 #[.val (.int praw), .val (.int pk), .val (.int (pk &&& (3 : Int32))), .val (.int v2_0), .val (.ref aONE), .val (.int (0 : Int32)), .val (.ref sONE)] [(.ref aONE), (.ref aONE)])
      refine Go.via (fun t k => Jvm.RoadKit.acmp (g := (mkF m 96 #[.val (.int praw), .val (.int pk), .val (.int (pk &&& (3 : Int32))), .val (.int v2_0), .val (.ref aONE), .val (.int (0 : Int32)), .val (.ref sONE)] [(.ref aONE), (.ref aONE)])) X21 hx rfl rfl rfl (pc0 := 96) (pc' := 99) (same := true) rfl (hb hby at_96) rfl (decide_eq_true rfl) (by decide) (by decide) k) ?_
      show Go p.tables e below P T21 (mkF m 99 #[.val (.int praw), .val (.int pk), .val (.int (pk &&& (3 : Int32))), .val (.int v2_0), .val (.ref aONE), .val (.int (0 : Int32)), .val (.ref sONE)] [])
      refine Go.via (fun t k => XS.iload X21.here hx rfl (hb hby at_99) rfl k) ?_
      show Go p.tables e below P T21 (mkF m 101 #[.val (.int praw), .val (.int pk), .val (.int (pk &&& (3 : Int32))), .val (.int v2_0), .val (.ref aONE), .val (.int (0 : Int32)), .val (.ref sONE)] [(.int (0 : Int32))])
      refine Go.via (fun t k => XS.ifNo X21.here hx rfl (hb hby at_101) rfl ((if0 _ _).trans (teq (rfl : (0 : Int32) = (0 : Int32))).2) k) ?_
      show Go p.tables e below P T21 (mkF m 104 #[.val (.int praw), .val (.int pk), .val (.int (pk &&& (3 : Int32))), .val (.int v2_0), .val (.ref aONE), .val (.int (0 : Int32)), .val (.ref sONE)] [])
      refine Go.via (fun t k => XS.iconst X21.here hx rfl (hb hby at_104) k) ?_
      show Go p.tables e below P T21 (mkF m 105 #[.val (.int praw), .val (.int pk), .val (.int (pk &&& (3 : Int32))), .val (.int v2_0), .val (.ref aONE), .val (.int (0 : Int32)), .val (.ref sONE)] [(.int (1 : Int32))])
      refine Go.via (fun t k => XS.goto X21.here hx rfl (pc0 := 105) (pc' := 109) rfl (hb hby at_105) (by decide) (by decide) k) ?_
      show Go p.tables e below P T21 (mkF m 109 #[.val (.int praw), .val (.int pk), .val (.int (pk &&& (3 : Int32))), .val (.int v2_0), .val (.ref aONE), .val (.int (0 : Int32)), .val (.ref sONE)] [(.int (1 : Int32))])
      obtain ⟨fs, hr, hrun, hended, hW, hsame⟩ := X21.leave (v := some (.int (1 : Int32))) (fun h => by rw [Bd.returns] at h; cases h)
      refine ⟨_, _, retZ X21 hx (t := .boolean) Bd.returns (by simp) (hb hby at_109) rfl hr, hrun, hended, hP _ _ ⟨_, _, rfl, ?_, ⟨_, rfl⟩, hW, hsame.mono (by decide) (by decide)⟩⟩
      show Q0 Z praw pk cs fm aOPTIONAL sOPTIONAL tOPTIONAL kOPTIONAL aZERO_OR_MORE sZERO_OR_MORE tZERO_OR_MORE kZERO_OR_MORE aONE_OR_MORE sONE_OR_MORE tONE_OR_MORE kONE_OR_MORE aONE sONE tONE kONE h0 n0 _ T21.heap _
      rw [e21]
      exact ⟨rfl, N20⟩
  by_cases hc1 : (pk &&& (3 : Int32)) = (0 : Int32)
  · refine Go.via (fun t k => XS.ifNo X0.here hx rfl (hb hby at_5) rfl ((if0 _ _).trans (teq hc1).2) k) ?_
    show Go p.tables e below P s₁ (mkF m 8 #[.val (.int praw), .val (.int pk), .val (.int (pk &&& (3 : Int32))), .unset, .unset, .unset, .unset] [])
    refine Go.via (fun t k => XS.iloadN X0.here hx rfl (hb hby at_8) rfl k) ?_
    show Go p.tables e below P s₁ (mkF m 9 #[.val (.int praw), .val (.int pk), .val (.int (pk &&& (3 : Int32))), .unset, .unset, .unset, .unset] [(.int praw)])
    refine Go.via (fun t k => XS.istoreN X0.here hx rfl (hb hby at_9) rfl (l' := #[.val (.int praw), .val (.int pk), .val (.int (pk &&& (3 : Int32))), .val (.int praw), .unset, .unset, .unset]) rfl k) ?_
    show Go p.tables e below P s₁ (mkF m 10 #[.val (.int praw), .val (.int pk), .val (.int (pk &&& (3 : Int32))), .val (.int praw), .unset, .unset, .unset] [])
    refine Go.via (fun t k => XS.goto X0.here hx rfl (pc0 := 10) (pc' := 38) rfl (hb hby at_10) (by decide) (by decide) k) ?_
    exact J2 s₁ _ praw X0 e0 N0 (if_pos hc1).symm
  · refine Go.via (fun t k => XS.ifYes X0.here hx rfl (pc0 := 5) (pc' := 13) rfl (hb hby at_5) rfl ((if0 _ _).trans (feq hc1).2) (by decide) (by decide) k) ?_
    show Go p.tables e below P s₁ (mkF m 13 #[.val (.int praw), .val (.int pk), .val (.int (pk &&& (3 : Int32))), .unset, .unset, .unset, .unset] [])
    refine Go.via (fun t k => XS.iloadN X0.here hx rfl (hb hby at_13) rfl k) ?_
    show Go p.tables e below P s₁ (mkF m 14 #[.val (.int praw), .val (.int pk), .val (.int (pk &&& (3 : Int32))), .unset, .unset, .unset, .unset] [(.int (pk &&& (3 : Int32)))])
    refine Go.via (fun t k => XS.iconst X0.here hx rfl (hb hby at_14) k) ?_
    show Go p.tables e below P s₁ (mkF m 15 #[.val (.int praw), .val (.int pk), .val (.int (pk &&& (3 : Int32))), .unset, .unset, .unset, .unset] [(.int (1 : Int32)), (.int (pk &&& (3 : Int32)))])
    by_cases hc23 : (pk &&& (3 : Int32)) = (1 : Int32)
    · refine Go.via (fun t k => XS.icmpNo X0.here hx rfl (hb hby at_15) rfl (teq hc23).2 k) ?_
      show Go p.tables e below P s₁ (mkF m 18 #[.val (.int praw), .val (.int pk), .val (.int (pk &&& (3 : Int32))), .unset, .unset, .unset, .unset] [])
      refine Go.via (fun t k => XS.bipush X0.here hx rfl (hb hby at_18) k) ?_
      show Go p.tables e below P s₁ (mkF m 20 #[.val (.int praw), .val (.int pk), .val (.int (pk &&& (3 : Int32))), .unset, .unset, .unset, .unset] [(.int (63 : Int32))])
      refine Go.via (fun t k => XS.istoreN X0.here hx rfl (hb hby at_20) rfl (l' := #[.val (.int praw), .val (.int pk), .val (.int (pk &&& (3 : Int32))), .val (.int (63 : Int32)), .unset, .unset, .unset]) rfl k) ?_
      show Go p.tables e below P s₁ (mkF m 21 #[.val (.int praw), .val (.int pk), .val (.int (pk &&& (3 : Int32))), .val (.int (63 : Int32)), .unset, .unset, .unset] [])
      refine Go.via (fun t k => XS.goto X0.here hx rfl (pc0 := 21) (pc' := 38) rfl (hb hby at_21) (by decide) (by decide) k) ?_
      exact J2 s₁ _ (63 : Int32) X0 e0 N0 (Eq.trans (if_neg hc1) (if_pos hc23)).symm
    · refine Go.via (fun t k => XS.icmpYes X0.here hx rfl (pc0 := 15) (pc' := 24) rfl (hb hby at_15) rfl (feq hc23).2 (by decide) (by decide) k) ?_
      show Go p.tables e below P s₁ (mkF m 24 #[.val (.int praw), .val (.int pk), .val (.int (pk &&& (3 : Int32))), .unset, .unset, .unset, .unset] [])
      refine Go.via (fun t k => XS.iloadN X0.here hx rfl (hb hby at_24) rfl k) ?_
      show Go p.tables e below P s₁ (mkF m 25 #[.val (.int praw), .val (.int pk), .val (.int (pk &&& (3 : Int32))), .unset, .unset, .unset, .unset] [(.int (pk &&& (3 : Int32)))])
      refine Go.via (fun t k => XS.iconst X0.here hx rfl (hb hby at_25) k) ?_
      show Go p.tables e below P s₁ (mkF m 26 #[.val (.int praw), .val (.int pk), .val (.int (pk &&& (3 : Int32))), .unset, .unset, .unset, .unset] [(.int (2 : Int32)), (.int (pk &&& (3 : Int32)))])
      by_cases hc24 : (pk &&& (3 : Int32)) = (2 : Int32)
      · refine Go.via (fun t k => XS.icmpNo X0.here hx rfl (hb hby at_26) rfl (teq hc24).2 k) ?_
        show Go p.tables e below P s₁ (mkF m 29 #[.val (.int praw), .val (.int pk), .val (.int (pk &&& (3 : Int32))), .unset, .unset, .unset, .unset] [])
        refine Go.via (fun t k => XS.bipush X0.here hx rfl (hb hby at_29) k) ?_
        show Go p.tables e below P s₁ (mkF m 31 #[.val (.int praw), .val (.int pk), .val (.int (pk &&& (3 : Int32))), .unset, .unset, .unset, .unset] [(.int (42 : Int32))])
        refine Go.via (fun t k => XS.istoreN X0.here hx rfl (hb hby at_31) rfl (l' := #[.val (.int praw), .val (.int pk), .val (.int (pk &&& (3 : Int32))), .val (.int (42 : Int32)), .unset, .unset, .unset]) rfl k) ?_
        show Go p.tables e below P s₁ (mkF m 32 #[.val (.int praw), .val (.int pk), .val (.int (pk &&& (3 : Int32))), .val (.int (42 : Int32)), .unset, .unset, .unset] [])
        refine Go.via (fun t k => XS.goto X0.here hx rfl (pc0 := 32) (pc' := 38) rfl (hb hby at_32) (by decide) (by decide) k) ?_
        exact J2 s₁ _ (42 : Int32) X0 e0 N0 (Eq.trans (Eq.trans (if_neg hc1) (if_neg hc23)) (if_pos hc24)).symm
      · refine Go.via (fun t k => XS.icmpYes X0.here hx rfl (pc0 := 26) (pc' := 35) rfl (hb hby at_26) rfl (feq hc24).2 (by decide) (by decide) k) ?_
        show Go p.tables e below P s₁ (mkF m 35 #[.val (.int praw), .val (.int pk), .val (.int (pk &&& (3 : Int32))), .unset, .unset, .unset, .unset] [])
        refine Go.via (fun t k => XS.bipush X0.here hx rfl (hb hby at_35) k) ?_
        show Go p.tables e below P s₁ (mkF m 37 #[.val (.int praw), .val (.int pk), .val (.int (pk &&& (3 : Int32))), .unset, .unset, .unset, .unset] [(.int (43 : Int32))])
        refine Go.via (fun t k => XS.istoreN X0.here hx rfl (hb hby at_37) rfl (l' := #[.val (.int praw), .val (.int pk), .val (.int (pk &&& (3 : Int32))), .val (.int (43 : Int32)), .unset, .unset, .unset]) rfl k) ?_
        exact J2 s₁ _ (43 : Int32) X0 e0 N0 (Eq.trans (Eq.trans (if_neg hc1) (if_neg hc23)) (if_neg hc24)).symm
set_option maxRecDepth 65536 in
set_option maxHeartbeats 40000000 in
theorem comes_1 {Post : Tables → Env → Array Value → State → Outcome → State → Prop} (hpost : ∀ tb e args s v u, (limb_1_1.after args s (.returned v) u = true ∧ limb_1_2.after args s (.returned v) u = true ∧ True) → FrameEnd s (.returned v) u (Jvm.fieldLocs frame_1_writes args s ++ Jvm.arrayLocs frame_1_arrays args s ++ Jvm.staticLocs frame_1_statics s) 0 0 → Post tb e args s (.returned v) u) :
    ArmFor flags0 classFile x code maxLocals ret World_1 tables_1 room_1 Calls_1 rest_1 Pre_1 Post := by
  intro l hfl _ _ p e ha hc hk s m args below hf hA hF happ hP
  obtain ⟨hcalls, hrest, hpre⟩ := hP
  obtain ⟨-, -, -, hnamed, -, -, -, hat⟩ := (Spec.applies_iff hf).mp happ
  obtain ⟨hg, hn⟩ := and_e (Cond.before_iff.mp (show (Jvm.Cond.and given_1 narrow_1).before args s = true from hpre))
  obtain ⟨hv0, hr0⟩ := and_e hg
  obtain ⟨hv1, hr1⟩ := and_e hr0
  obtain ⟨w0, w1, rfl⟩ : ∃ w0 w1 : Value, args = #[w0, w1] := by
    have hs : args.size = 2 := by simpa [Cond.value, given_1] using hv0
    obtain ⟨L⟩ := args
    match L, hs with
    | [w0, w1], _ => exact ⟨w0, w1, rfl⟩
  have hw := fun d (hd : d ∈ tables_1) => atoms_spec (ws := Jvm.Cond.code x code maxLocals ret :: tables_1) hat d (List.mem_cons_of_mem _ hd)
  have hfit : Fit s := fun {y c} hc i hi => by
    obtain ⟨ha, rfl⟩ := Array.getElem?_eq_some_iff.mp hc
    have q := List.all_eq_true.mp ((Array.all_eq_true_iff_forall_mem.mp hF) _ (Array.getElem_mem ha)) i (List.mem_range.mpr hi)
    simpa [Array.getElem?_eq_getElem hi] using q
  obtain ⟨hsets, hown0⟩ := atoms_of _ (rest_1_c_eq ▸ (show rest_1_c.before _ s = true from hrest))
  have hr00 := Cond.before_iff.mp hown0
  obtain ⟨i0, ei0⟩ := is_v hv1
  obtain rfl : w0 = (.int i0) := Option.some.inj ei0
  obtain ⟨i1, ei1⟩ := is_v hr1
  obtain rfl : w1 = (.int i1) := Option.some.inj ei1
  have ncs := not_v (Cond.before_iff.mp (hsets _ (List.mem_of_getElem? (i := 2) rfl)))
  obtain ⟨cs, ecs⟩ := is_v (Cond.before_iff.mp (hsets _ (List.mem_of_getElem? (i := 1) rfl)))
  have Scs : Sta s s.heap "java/lang/String" "COMPACT_STRINGS" "Z" (.int cs) := Sta.start ecs (Or.inl (hsets _ (List.mem_of_getElem? (i := 0) rfl)))
  have hcs : ¬ (cs = (0 : Int32)) := gotF (Cond.eq_ints ecs (Term.int_eval (0))) ncs
  obtain ⟨fm, efm, rfm⟩ := isR_v (Cond.before_iff.mp (hsets _ (List.mem_of_getElem? (i := 8) rfl)))
  have Sfm : Sta s s.heap "jdk/internal/util/Preconditions" "SIOOBE_FORMATTER" "Ljava/util/function/BiFunction;" fm := Sta.start efm (Or.inl (hsets _ (List.mem_of_getElem? (i := 7) rfl)))
  obtain ⟨hn1, hn2⟩ := and_e hn
  obtain ⟨hn3, hn4⟩ := and_e hn2
  obtain ⟨hn5, hn6⟩ := and_e hn4
  obtain ⟨hn7, hn8⟩ := and_e hn6
  obtain ⟨hn9, hn10⟩ := and_e hn8
  obtain ⟨hn11, hn12⟩ := and_e hn10
  obtain ⟨hn13, hn14⟩ := and_e hn12
  obtain ⟨hn15, hn16⟩ := and_e hn14
  obtain ⟨hn17, hn18⟩ := and_e hn16
  obtain ⟨hn19, hn20⟩ := and_e hn18
  obtain ⟨hn21, hn22⟩ := and_e hn20
  obtain ⟨hn23, hn24⟩ := and_e hn22
  obtain ⟨hn25, hn26⟩ := and_e hn24
  obtain ⟨hn27, hn28⟩ := and_e hn26
  obtain ⟨hn29, hn30⟩ := and_e hn28
  obtain ⟨hn31, hn32⟩ := and_e hn30
  obtain ⟨hn33, hn34⟩ := and_e hn32
  obtain ⟨hn35, hn36⟩ := and_e hn34
  obtain ⟨hn37, hn38⟩ := and_e hn36
  obtain ⟨hn39, hn40⟩ := and_e hn38
  obtain ⟨hn41, hn42⟩ := and_e hn40
  obtain ⟨hn43, hn44⟩ := and_e hn42
  obtain ⟨aONE_OR_MORE, e_aONE_OR_MORE⟩ := exa_v hn1
  have Sta_aONE_OR_MORE : Sta s s.heap "com/example/referee/referee/model/Quantifier" "ONE_OR_MORE" "Lcom/example/referee/referee/model/Quantifier;" (.ref aONE_OR_MORE) := Sta.start e_aONE_OR_MORE (Or.inr ⟨(hw _ (List.mem_of_getElem? (i := 2) rfl)), (hw _ (List.mem_of_getElem? (i := 5) rfl))⟩)
  have Ex_aONE_OR_MORE : Exa s s.heap aONE_OR_MORE "com/example/referee/referee/model/Quantifier" := Exa.start e_aONE_OR_MORE hn1
  obtain ⟨sONE_OR_MORE, e_sONE_OR_MORE⟩ := exa_v hn3
  have Fd_sONE_OR_MORE : Fld s s.heap aONE_OR_MORE "com/example/referee/referee/model/Quantifier" "symbol" "Ljava/lang/String;" (.ref sONE_OR_MORE) := Fld.start ((fld_at e_aONE_OR_MORE).symm.trans e_sONE_OR_MORE)
  have Ex_sONE_OR_MORE : Exa s s.heap sONE_OR_MORE "java/lang/String" := Exa.start e_sONE_OR_MORE hn3
  obtain ⟨tONE_OR_MORE, e_tONE_OR_MORE⟩ := arr_v hn5
  have Fd_tONE_OR_MORE : Fld s s.heap sONE_OR_MORE "java/lang/String" "value" "[B" (.ref tONE_OR_MORE) := Fld.start ((fld_at e_sONE_OR_MORE).symm.trans e_tONE_OR_MORE)
  obtain ⟨cl_tONE_OR_MORE, Ar_tONE_OR_MORE⟩ := Arr.start e_tONE_OR_MORE hn5
  obtain ⟨qln45, rln45⟩ := own_len e_tONE_OR_MORE Ar_tONE_OR_MORE hn7
  have fi46 : Fld s s.heap sONE_OR_MORE "java/lang/String" "coder" "B" (.int (0 : Int32)) := Fld.start ((fld_at e_sONE_OR_MORE).symm.trans (own_ieq hn9))
  have el47 := own_el e_tONE_OR_MORE Ar_tONE_OR_MORE hn11
  obtain ⟨aOPTIONAL, e_aOPTIONAL⟩ := exa_v hn13
  have Sta_aOPTIONAL : Sta s s.heap "com/example/referee/referee/model/Quantifier" "OPTIONAL" "Lcom/example/referee/referee/model/Quantifier;" (.ref aOPTIONAL) := Sta.start e_aOPTIONAL (Or.inr ⟨(hw _ (List.mem_of_getElem? (i := 2) rfl)), (hw _ (List.mem_of_getElem? (i := 57) rfl))⟩)
  have Ex_aOPTIONAL : Exa s s.heap aOPTIONAL "com/example/referee/referee/model/Quantifier" := Exa.start e_aOPTIONAL hn13
  obtain ⟨sOPTIONAL, e_sOPTIONAL⟩ := exa_v hn15
  have Fd_sOPTIONAL : Fld s s.heap aOPTIONAL "com/example/referee/referee/model/Quantifier" "symbol" "Ljava/lang/String;" (.ref sOPTIONAL) := Fld.start ((fld_at e_aOPTIONAL).symm.trans e_sOPTIONAL)
  have Ex_sOPTIONAL : Exa s s.heap sOPTIONAL "java/lang/String" := Exa.start e_sOPTIONAL hn15
  obtain ⟨tOPTIONAL, e_tOPTIONAL⟩ := arr_v hn17
  have Fd_tOPTIONAL : Fld s s.heap sOPTIONAL "java/lang/String" "value" "[B" (.ref tOPTIONAL) := Fld.start ((fld_at e_sOPTIONAL).symm.trans e_tOPTIONAL)
  obtain ⟨cl_tOPTIONAL, Ar_tOPTIONAL⟩ := Arr.start e_tOPTIONAL hn17
  obtain ⟨qln48, rln48⟩ := own_len e_tOPTIONAL Ar_tOPTIONAL hn19
  have fi49 : Fld s s.heap sOPTIONAL "java/lang/String" "coder" "B" (.int (0 : Int32)) := Fld.start ((fld_at e_sOPTIONAL).symm.trans (own_ieq hn21))
  have el50 := own_el e_tOPTIONAL Ar_tOPTIONAL hn23
  obtain ⟨aONE, e_aONE⟩ := exa_v hn25
  have Sta_aONE : Sta s s.heap "com/example/referee/referee/model/Quantifier" "ONE" "Lcom/example/referee/referee/model/Quantifier;" (.ref aONE) := Sta.start e_aONE (Or.inr ⟨(hw _ (List.mem_of_getElem? (i := 2) rfl)), (hw _ (List.mem_of_getElem? (i := 59) rfl))⟩)
  have Ex_aONE : Exa s s.heap aONE "com/example/referee/referee/model/Quantifier" := Exa.start e_aONE hn25
  obtain ⟨sONE, e_sONE⟩ := exa_v hn27
  have Fd_sONE : Fld s s.heap aONE "com/example/referee/referee/model/Quantifier" "symbol" "Ljava/lang/String;" (.ref sONE) := Fld.start ((fld_at e_aONE).symm.trans e_sONE)
  have Ex_sONE : Exa s s.heap sONE "java/lang/String" := Exa.start e_sONE hn27
  obtain ⟨tONE, e_tONE⟩ := arr_v hn29
  have Fd_tONE : Fld s s.heap sONE "java/lang/String" "value" "[B" (.ref tONE) := Fld.start ((fld_at e_sONE).symm.trans e_tONE)
  obtain ⟨cl_tONE, Ar_tONE⟩ := Arr.start e_tONE hn29
  obtain ⟨qln51, rln51⟩ := own_len e_tONE Ar_tONE hn31
  obtain ⟨aZERO_OR_MORE, e_aZERO_OR_MORE⟩ := exa_v hn33
  have Sta_aZERO_OR_MORE : Sta s s.heap "com/example/referee/referee/model/Quantifier" "ZERO_OR_MORE" "Lcom/example/referee/referee/model/Quantifier;" (.ref aZERO_OR_MORE) := Sta.start e_aZERO_OR_MORE (Or.inr ⟨(hw _ (List.mem_of_getElem? (i := 2) rfl)), (hw _ (List.mem_of_getElem? (i := 62) rfl))⟩)
  have Ex_aZERO_OR_MORE : Exa s s.heap aZERO_OR_MORE "com/example/referee/referee/model/Quantifier" := Exa.start e_aZERO_OR_MORE hn33
  obtain ⟨sZERO_OR_MORE, e_sZERO_OR_MORE⟩ := exa_v hn35
  have Fd_sZERO_OR_MORE : Fld s s.heap aZERO_OR_MORE "com/example/referee/referee/model/Quantifier" "symbol" "Ljava/lang/String;" (.ref sZERO_OR_MORE) := Fld.start ((fld_at e_aZERO_OR_MORE).symm.trans e_sZERO_OR_MORE)
  have Ex_sZERO_OR_MORE : Exa s s.heap sZERO_OR_MORE "java/lang/String" := Exa.start e_sZERO_OR_MORE hn35
  obtain ⟨tZERO_OR_MORE, e_tZERO_OR_MORE⟩ := arr_v hn37
  have Fd_tZERO_OR_MORE : Fld s s.heap sZERO_OR_MORE "java/lang/String" "value" "[B" (.ref tZERO_OR_MORE) := Fld.start ((fld_at e_sZERO_OR_MORE).symm.trans e_tZERO_OR_MORE)
  obtain ⟨cl_tZERO_OR_MORE, Ar_tZERO_OR_MORE⟩ := Arr.start e_tZERO_OR_MORE hn37
  obtain ⟨qln52, rln52⟩ := own_len e_tZERO_OR_MORE Ar_tZERO_OR_MORE hn39
  have fi53 : Fld s s.heap sZERO_OR_MORE "java/lang/String" "coder" "B" (.int (0 : Int32)) := Fld.start ((fld_at e_sZERO_OR_MORE).symm.trans (own_ieq hn41))
  have el54 := own_el e_tZERO_OR_MORE Ar_tZERO_OR_MORE hn43
  have fi55 : Fld s s.heap sONE "java/lang/String" "coder" "B" (.int (0 : Int32)) := Fld.start ((fld_at e_sONE).symm.trans (own_ieq hn44))
  have Av_tONE_OR_MORE : Arv s s.heap tONE_OR_MORE cl_tONE_OR_MORE.cls .byte (1 : Int32) [(.int (43 : Int32))] (.int (0 : Int32)) := Arv.start hfit Ar_tONE_OR_MORE qln45 rln45 (by decide) rfl ⟨el47, trivial⟩
  have Av_tOPTIONAL : Arv s s.heap tOPTIONAL cl_tOPTIONAL.cls .byte (1 : Int32) [(.int (63 : Int32))] (.int (0 : Int32)) := Arv.start hfit Ar_tOPTIONAL qln48 rln48 (by decide) rfl ⟨el50, trivial⟩
  have Av_tONE : Arv s s.heap tONE cl_tONE.cls .byte (0 : Int32) [] (.int (0 : Int32)) := Arv.start hfit Ar_tONE qln51 rln51 (by decide) rfl trivial
  have Av_tZERO_OR_MORE : Arv s s.heap tZERO_OR_MORE cl_tZERO_OR_MORE.cls .byte (1 : Int32) [(.int (42 : Int32))] (.int (0 : Int32)) := Arv.start hfit Ar_tZERO_OR_MORE qln52 rln52 (by decide) rfl ⟨el54, trivial⟩
  obtain ⟨n, o, h1, h2, h3, _, L, rfl, ⟨rfl, N⟩, hq⟩ := rm0 l s _ hw tables_1 i0 i1 cs fm aOPTIONAL sOPTIONAL tOPTIONAL cl_tOPTIONAL.cls aZERO_OR_MORE sZERO_OR_MORE tZERO_OR_MORE cl_tZERO_OR_MORE.cls aONE_OR_MORE sONE_OR_MORE tONE_OR_MORE cl_tONE_OR_MORE.cls aONE sONE tONE cl_tONE.cls s.heap s.heap.size (Nat.le_refl _) (Old.start s) Scs hcs Sfm rfm Sta_aOPTIONAL Ex_aOPTIONAL Fd_sOPTIONAL Ex_sOPTIONAL Fd_tOPTIONAL fi49 Av_tOPTIONAL Sta_aZERO_OR_MORE Ex_aZERO_OR_MORE Fd_sZERO_OR_MORE Ex_sZERO_OR_MORE Fd_tZERO_OR_MORE fi53 Av_tZERO_OR_MORE Sta_aONE_OR_MORE Ex_aONE_OR_MORE Fd_sONE_OR_MORE Ex_sONE_OR_MORE Fd_tONE_OR_MORE fi46 Av_tONE_OR_MORE Sta_aONE Ex_aONE Fd_sONE Ex_sONE Fd_tONE fi55 Av_tONE p e ha hc hk s m _ below hf ((Spec.applies_iff_loose hf).mp happ).1 ⟨rfl, State.Warmed39.refl s, rfl⟩ trivial
  refine ⟨n, _, h1, h2, h3, hpost _ _ _ _ _ _ ⟨Cond.after_iff.mpr rfl, Cond.after_iff.mpr (eq_i res_at (Term.int_eval (1)) rfl), trivial⟩ ⟨hq.1, hq.2.1, (hq.2.2.sift fun y hy => Or.inr (N y hy)).mono (by decide) (by decide)⟩⟩
theorem main_1_1 : Claimed_1_1 := comes_1 fun _ _ _ _ _ _ h hF => ⟨h.1, hF⟩
theorem main_1_2 : Claimed_1_2 := comes_1 fun _ _ _ _ _ _ h hF => ⟨h.2.1, hF⟩
end Jvm.Pilot.@@N@@
namespace Jvm.Pilot.@@N@@
open Jvm Jvm.ClassFile Sem Op Lib Jvm.Free Jvm.Stand Jvm.Pilot.@@N@@.Jvm.D
/-! MADE BY PROGRAM (witnessworld.py) out of the Statement's table words and the real class files: 18 classes; the members and pool entries that the words name. The judged class is class 1, her method 1. -/
namespace start1
open Jvm.ClassFile
def u (s : String) : CpInfo := .utf8 (stringToUtf16 s)
/-- a pool by its gaps: so many unusable entries, then the entry; so many at the end -/
def gap : Nat → List CpInfo → List CpInfo
  | 0, r => r
  | n + 1, r => .unusable :: gap n r
def poolList (es : List (Nat × CpInfo)) (last : Nat) : List CpInfo := es.foldr (fun e r => gap e.1 (e.2 :: r)) (gap last [])
def pool (es : List (Nat × CpInfo)) (last : Nat) : Array CpInfo := ⟨poolList es last⟩
def fileOf (pool : Array CpInfo) (this : Nat) (attrs : Array Attribute := #[]) (ms : Array MethodInfo := #[]) (fl : Nat := 33) (sup : Nat := 0) (ifs : Array Nat := #[]) (fds : Array FieldInfo := #[]) : ClassFile where
  minorVersion := 0
  majorVersion := 65
  constantPool := pool
  accessFlags := fl
  thisClass := this
  superClass := sup
  interfaces := ifs
  fields := fds
  methods := ms
  attributes := attrs
def plain (name : String) (sup : Option ClassId) : Class where
  name := name
  kind := .ordinary
  loader := none
  accessFlags := 33
  super := sup
  interfaces := #[]
  cf := none
  fields := #[]
  methods := #[]
  instanceTypes := #[]
  staticTypes := #[]
  resolved := #[]
  callSites := []
  init := .initialized
  statics := none
  mirror := none

def pool0 : Array CpInfo := pool [(5, u "<init>"), (0, u "()V"), (1, .class_ 10), (1, u "java/lang/Object")] 113

def k0m0 : Method := { name := "<init>", desc := "()V", sig := { parameters := [], returnType := none }, accessFlags := 1, code := none }
/-- java/lang/Object -/
def k0 : Class := { plain "java/lang/Object" none with
  accessFlags := 33
  interfaces := #[]
  cf := some (fileOf pool0 8 #[] #[{ accessFlags := 1, nameIndex := 5, descriptorIndex := 6, attributes := #[] }] 33 0 #[] #[])
  fields := #[]
  methods := #[k0m0]
  instanceTypes := #[]
  staticTypes := #[]
  resolved := Array.replicate 124 none
  statics := none }

def pool1 : Array CpInfo := pool [(2, .class_ 4), (1, u "java/lang/Object"), (0, u "<init>"), (0, u "()V"), (0, .methodref 8 9), (0, .class_ 10), (0, .nameAndType 11 12), (0, u "com/example/referee/referee/model/Quantifier"), (0, u "of"), (0, u "(I)Lcom/example/referee/referee/model/Quantifier;"), (0, .methodref 8 14), (0, .nameAndType 15 16), (0, u "symbol"), (0, u "()Ljava/lang/String;"), (0, .methodref 18 19), (0, .class_ 20), (0, .nameAndType 21 22), (0, u "java/lang/String"), (0, u "isEmpty"), (0, u "()Z"), (0, .fieldref 8 24), (0, .nameAndType 25 26), (0, u "ONE"), (0, u "Lcom/example/referee/referee/model/Quantifier;"), (0, .methodref 18 28), (0, .nameAndType 29 30), (0, u "length"), (0, u "()I"), (0, .methodref 18 32), (0, .nameAndType 33 34), (0, u "charAt"), (0, u "(I)C"), (0, .class_ 36), (0, u "com/example/referee/referee/model/QuantifierOfPinLaw"), (2, u "law"), (0, u "(II)Z")] 3

def k1m0 : Method := { name := "<init>", desc := "()V", sig := { parameters := [], returnType := none }, accessFlags := 2, code := none }
def k1c1 : Code := { maxStack := 2, maxLocals := 7, code := code, exceptionTable := #[], attributes := #[] }
def k1m1 : Method := { name := "law", desc := "(II)Z", sig := { parameters := [.int, .int], returnType := some .boolean }, accessFlags := 9, code := some k1c1 }
/-- com/example/referee/referee/model/QuantifierOfPinLaw -/
def k1 : Class := { plain "com/example/referee/referee/model/QuantifierOfPinLaw" (some 0) with
  accessFlags := 49
  interfaces := #[]
  cf := some (fileOf pool1 35 #[] #[{ accessFlags := 2, nameIndex := 5, descriptorIndex := 6, attributes := #[] }, { accessFlags := 9, nameIndex := 39, descriptorIndex := 40, attributes := #[] }] 49 2 #[] #[])
  fields := #[]
  methods := #[k1m0, k1m1]
  instanceTypes := #[]
  staticTypes := #[]
  resolved := Array.replicate 44 none
  statics := none }

def pool2 : Array CpInfo := pool [(1, .class_ 2), (0, u "java/lang/constant/Constable"), (0, .class_ 4), (0, u "java/lang/Object")] 6

/-- java/lang/constant/Constable -/
def k2 : Class := { plain "java/lang/constant/Constable" (some 0) with
  accessFlags := 1537
  interfaces := #[]
  cf := some (fileOf pool2 1 #[] #[] 1537 3 #[] #[])
  fields := #[]
  methods := #[]
  instanceTypes := #[]
  staticTypes := #[]
  resolved := Array.replicate 11 none
  statics := none }

def pool3 : Array CpInfo := pool [(1, .class_ 2), (0, u "java/lang/Comparable"), (0, .class_ 4), (0, u "java/lang/Object")] 7

/-- java/lang/Comparable -/
def k3 : Class := { plain "java/lang/Comparable" (some 0) with
  accessFlags := 1537
  interfaces := #[]
  cf := some (fileOf pool3 1 #[] #[] 1537 3 #[] #[])
  fields := #[]
  methods := #[]
  instanceTypes := #[]
  staticTypes := #[]
  resolved := Array.replicate 12 none
  statics := none }

def pool4 : Array CpInfo := pool [(1, .class_ 2), (0, u "java/io/Serializable"), (0, .class_ 4), (0, u "java/lang/Object")] 2

/-- java/io/Serializable -/
def k4 : Class := { plain "java/io/Serializable" (some 0) with
  accessFlags := 1537
  interfaces := #[]
  cf := some (fileOf pool4 1 #[] #[] 1537 3 #[] #[])
  fields := #[]
  methods := #[]
  instanceTypes := #[]
  staticTypes := #[]
  resolved := Array.replicate 7 none
  statics := none }

def pool5 : Array CpInfo := pool [(2, .class_ 4), (1, u "java/lang/Enum"), (0, u "name"), (0, u "Ljava/lang/String;"), (2, u "ordinal"), (0, u "I"), (1, .class_ 14), (1, u "java/lang/Object"), (4, u "hash"), (86, .class_ 108), (1, u "java/lang/Enum$EnumDesc"), (2, .class_ 112), (0, u "java/lang/constant/Constable"), (0, .class_ 114), (0, u "java/lang/Comparable"), (0, .class_ 116), (0, u "java/io/Serializable")] 87

/-- java/lang/Enum -/
def k5 : Class := { plain "java/lang/Enum" (some 0) with
  accessFlags := 1057
  interfaces := #[2, 3, 4]
  cf := some (fileOf pool5 2 #[.nestMembers #[106]] #[] 1057 12 #[111, 113, 115] #[{ accessFlags := 18, nameIndex := 5, descriptorIndex := 6, attributes := #[] }, { accessFlags := 18, nameIndex := 9, descriptorIndex := 10, attributes := #[] }, { accessFlags := 2, nameIndex := 19, descriptorIndex := 10, attributes := #[] }])
  fields := #[{ name := "name", type := (.object "java/lang/String"), accessFlags := 18, slot := 0, constantValue := 0 }, { name := "ordinal", type := .int, accessFlags := 18, slot := 1, constantValue := 0 }, { name := "hash", type := .int, accessFlags := 2, slot := 2, constantValue := 0 }]
  methods := #[]
  instanceTypes := #[(.object "java/lang/String"), .int, .int]
  staticTypes := #[]
  resolved := Array.replicate 204 none
  statics := none }

def pool6 : Array CpInfo := pool [(1, .class_ 2), (0, u "com/example/referee/referee/model/Quantifier"), (0, .fieldref 1 4), (0, .nameAndType 5 6), (0, u "ONE"), (0, u "Lcom/example/referee/referee/model/Quantifier;"), (0, .fieldref 1 8), (0, .nameAndType 9 6), (0, u "OPTIONAL"), (0, .fieldref 1 11), (0, .nameAndType 12 6), (0, u "ZERO_OR_MORE"), (0, .fieldref 1 14), (0, .nameAndType 15 6), (0, u "ONE_OR_MORE"), (2, u "$VALUES"), (0, u "[Lcom/example/referee/referee/model/Quantifier;"), (6, .class_ 28), (1, u "java/lang/Enum"), (6, .fieldref 1 36), (0, .nameAndType 37 38), (0, u "symbol"), (0, u "Ljava/lang/String;"), (26, u "of"), (0, u "(I)Lcom/example/referee/referee/model/Quantifier;"), (1, u "()Ljava/lang/String;")] 8

def k6c0 : Code := { maxStack := 1, maxLocals := 2, code := prog_46_method_4_code, exceptionTable := #[], attributes := #[] }
def k6m0 : Method := { name := "of", desc := "(I)Lcom/example/referee/referee/model/Quantifier;", sig := { parameters := [.int], returnType := some (.object "com/example/referee/referee/model/Quantifier") }, accessFlags := 9, code := some k6c0 }
def k6c1 : Code := { maxStack := 1, maxLocals := 1, code := prog_46_method_5_code, exceptionTable := #[], attributes := #[] }
def k6m1 : Method := { name := "symbol", desc := "()Ljava/lang/String;", sig := { parameters := [], returnType := some (.object "java/lang/String") }, accessFlags := 1, code := some k6c1 }
/-- com/example/referee/referee/model/Quantifier -/
def k6 : Class := { plain "com/example/referee/referee/model/Quantifier" (some 5) with
  accessFlags := 16433
  interfaces := #[]
  cf := some (fileOf pool6 1 #[] #[{ accessFlags := 9, nameIndex := 65, descriptorIndex := 66, attributes := #[] }, { accessFlags := 1, nameIndex := 37, descriptorIndex := 68, attributes := #[] }] 16433 26 #[] #[{ accessFlags := 16409, nameIndex := 5, descriptorIndex := 6, attributes := #[] }, { accessFlags := 16409, nameIndex := 9, descriptorIndex := 6, attributes := #[] }, { accessFlags := 16409, nameIndex := 12, descriptorIndex := 6, attributes := #[] }, { accessFlags := 16409, nameIndex := 15, descriptorIndex := 6, attributes := #[] }, { accessFlags := 18, nameIndex := 37, descriptorIndex := 38, attributes := #[] }, { accessFlags := 4122, nameIndex := 18, descriptorIndex := 19, attributes := #[] }])
  fields := #[{ name := "ONE", type := (.object "com/example/referee/referee/model/Quantifier"), accessFlags := 16409, slot := 0, constantValue := 0 }, { name := "OPTIONAL", type := (.object "com/example/referee/referee/model/Quantifier"), accessFlags := 16409, slot := 1, constantValue := 0 }, { name := "ZERO_OR_MORE", type := (.object "com/example/referee/referee/model/Quantifier"), accessFlags := 16409, slot := 2, constantValue := 0 }, { name := "ONE_OR_MORE", type := (.object "com/example/referee/referee/model/Quantifier"), accessFlags := 16409, slot := 3, constantValue := 0 }, { name := "symbol", type := (.object "java/lang/String"), accessFlags := 18, slot := 3, constantValue := 0 }, { name := "$VALUES", type := (.array (.object "com/example/referee/referee/model/Quantifier")), accessFlags := 4122, slot := 4, constantValue := 0 }]
  methods := #[k6m0, k6m1]
  instanceTypes := #[(.object "java/lang/String"), .int, .int, (.object "java/lang/String")]
  staticTypes := #[(.object "com/example/referee/referee/model/Quantifier"), (.object "com/example/referee/referee/model/Quantifier"), (.object "com/example/referee/referee/model/Quantifier"), (.object "com/example/referee/referee/model/Quantifier"), (.array (.object "com/example/referee/referee/model/Quantifier"))]
  resolved := Array.replicate 77 none
  statics := some 0 }

def pool7 : Array CpInfo := pool [(2, .class_ 4), (1, u "java/lang/CharSequence"), (42, .class_ 48), (0, u "java/lang/CharSequence$1CodePointIterator"), (10, .class_ 60), (0, u "java/lang/CharSequence$1CharIterator"), (5, .class_ 67), (0, u "java/lang/Object")] 63

/-- java/lang/CharSequence -/
def k7 : Class := { plain "java/lang/CharSequence" (some 0) with
  accessFlags := 1537
  interfaces := #[]
  cf := some (fileOf pool7 2 #[.nestMembers #[47, 59]] #[] 1537 66 #[] #[])
  fields := #[]
  methods := #[]
  instanceTypes := #[]
  staticTypes := #[]
  resolved := Array.replicate 131 none
  statics := none }

def pool8 : Array CpInfo := pool [(1, .class_ 2), (0, u "java/lang/constant/ConstantDesc"), (0, .class_ 4), (0, u "java/lang/Object")] 32

/-- java/lang/constant/ConstantDesc -/
def k8 : Class := { plain "java/lang/constant/ConstantDesc" (some 0) with
  accessFlags := 1537
  interfaces := #[]
  cf := some (fileOf pool8 1 #[] #[] 1537 3 #[] #[])
  fields := #[]
  methods := #[]
  instanceTypes := #[]
  staticTypes := #[]
  resolved := Array.replicate 37 none
  statics := none }

def pool9 : Array CpInfo := pool [(2, .class_ 4), (1, u "java/lang/Object"), (0, u "<init>"), (0, u "()V"), (2, .fieldref 10 11), (0, .class_ 12), (0, .nameAndType 13 14), (0, u "java/lang/String"), (0, u "value"), (0, u "[B"), (0, .fieldref 10 16), (0, .nameAndType 17 18), (0, u "coder"), (0, u "B"), (2, u "hash"), (0, u "I"), (2, u "hashIsZero"), (0, u "Z"), (11, .fieldref 10 39), (0, .nameAndType 40 26), (0, u "COMPACT_STRINGS"), (66, .class_ 109), (1, u "java/lang/StringLatin1"), (32, u "()Z"), (191, u "()I"), (0, .methodref 10 336), (0, .nameAndType 17 337), (0, u "()B"), (25, u "([BI)C"), (27, u "(II)V"), (35, u "(I)C"), (64, .methodref 10 493), (0, .nameAndType 494 142), (0, u "isLatin1"), (0, .methodref 107 496), (0, .nameAndType 497 363), (0, u "charAt"), (3, u "checkIndex"), (5, u "length"), (67, .class_ 576), (0, u "java/lang/CharSequence"), (22, u "CASE_INSENSITIVE_ORDER"), (0, u "Ljava/util/Comparator;"), (91, u "isEmpty"), (360, .fieldref 1054 1055), (0, .class_ 1056), (0, .nameAndType 1057 1058), (0, u "jdk/internal/util/Preconditions"), (0, u "SIOOBE_FORMATTER"), (0, u "Ljava/util/function/BiFunction;"), (0, .methodref 1054 1060), (0, .nameAndType 501 1061), (0, u "(IILjava/util/function/BiFunction;)I"), (39, u "serialPersistentFields"), (0, u "[Ljava/io/ObjectStreamField;"), (0, .class_ 1104), (0, u "java/lang/String$CaseInsensitiveComparator"), (1, .class_ 1107), (0, u "java/io/Serializable"), (0, .class_ 1109), (0, u "java/lang/Comparable"), (0, .class_ 1111), (0, u "java/lang/constant/Constable"), (0, .class_ 1113), (0, u "java/lang/constant/ConstantDesc"), (2, u "serialVersionUID"), (0, u "J"), (3, u "REPL"), (0, u "C"), (2, u "LATIN1"), (1, u "UTF16")] 323

def k9m0 : Method := { name := "<init>", desc := "()V", sig := { parameters := [], returnType := none }, accessFlags := 1, code := none }
def k9c1 : Code := { maxStack := 2, maxLocals := 1, code := jdk_42_method_54_code, exceptionTable := #[], attributes := #[] }
def k9m1 : Method := { name := "length", desc := "()I", sig := { parameters := [], returnType := some .int }, accessFlags := 1, code := some k9c1 }
def k9c2 : Code := { maxStack := 1, maxLocals := 1, code := jdk_42_method_55_code, exceptionTable := #[], attributes := #[] }
def k9m2 : Method := { name := "isEmpty", desc := "()Z", sig := { parameters := [], returnType := some .boolean }, accessFlags := 1, code := some k9c2 }
def k9c3 : Code := { maxStack := 2, maxLocals := 2, code := jdk_42_method_56_code, exceptionTable := #[], attributes := #[] }
def k9m3 : Method := { name := "charAt", desc := "(I)C", sig := { parameters := [.int], returnType := some .char }, accessFlags := 1, code := some k9c3 }
def k9c4 : Code := { maxStack := 1, maxLocals := 1, code := jdk_42_method_152_code, exceptionTable := #[], attributes := #[] }
def k9m4 : Method := { name := "coder", desc := "()B", sig := { parameters := [], returnType := some .byte }, accessFlags := 0, code := some k9c4 }
def k9c5 : Code := { maxStack := 1, maxLocals := 1, code := jdk_42_method_154_code, exceptionTable := #[], attributes := #[] }
def k9m5 : Method := { name := "isLatin1", desc := "()Z", sig := { parameters := [], returnType := some .boolean }, accessFlags := 0, code := some k9c5 }
def k9c6 : Code := { maxStack := 3, maxLocals := 2, code := jdk_42_method_155_code, exceptionTable := #[], attributes := #[] }
def k9m6 : Method := { name := "checkIndex", desc := "(II)V", sig := { parameters := [.int, .int], returnType := none }, accessFlags := 8, code := some k9c6 }
/-- java/lang/String -/
def k9 : Class := { plain "java/lang/String" (some 0) with
  accessFlags := 49
  interfaces := #[4, 3, 7, 2, 8]
  cf := some (fileOf pool9 10 #[.nestMembers #[1103]] #[{ accessFlags := 1, nameIndex := 5, descriptorIndex := 6, attributes := #[] }, { accessFlags := 1, nameIndex := 507, descriptorIndex := 334, attributes := #[] }, { accessFlags := 1, nameIndex := 692, descriptorIndex := 142, attributes := #[] }, { accessFlags := 1, nameIndex := 497, descriptorIndex := 427, attributes := #[] }, { accessFlags := 0, nameIndex := 17, descriptorIndex := 337, attributes := #[] }, { accessFlags := 0, nameIndex := 494, descriptorIndex := 142, attributes := #[] }, { accessFlags := 8, nameIndex := 501, descriptorIndex := 391, attributes := #[] }] 49 2 #[1106, 1108, 575, 1110, 1112] #[{ accessFlags := 18, nameIndex := 13, descriptorIndex := 14, attributes := #[] }, { accessFlags := 18, nameIndex := 17, descriptorIndex := 18, attributes := #[] }, { accessFlags := 2, nameIndex := 21, descriptorIndex := 22, attributes := #[] }, { accessFlags := 2, nameIndex := 25, descriptorIndex := 26, attributes := #[] }, { accessFlags := 26, nameIndex := 1116, descriptorIndex := 1117, attributes := #[] }, { accessFlags := 24, nameIndex := 40, descriptorIndex := 26, attributes := #[] }, { accessFlags := 26, nameIndex := 1101, descriptorIndex := 1102, attributes := #[] }, { accessFlags := 26, nameIndex := 1121, descriptorIndex := 1122, attributes := #[] }, { accessFlags := 25, nameIndex := 599, descriptorIndex := 600, attributes := #[] }, { accessFlags := 24, nameIndex := 1125, descriptorIndex := 18, attributes := #[] }, { accessFlags := 24, nameIndex := 1127, descriptorIndex := 18, attributes := #[] }])
  fields := #[{ name := "value", type := (.array .byte), accessFlags := 18, slot := 0, constantValue := 0 }, { name := "coder", type := .byte, accessFlags := 18, slot := 1, constantValue := 0 }, { name := "hash", type := .int, accessFlags := 2, slot := 2, constantValue := 0 }, { name := "hashIsZero", type := .boolean, accessFlags := 2, slot := 3, constantValue := 0 }, { name := "serialVersionUID", type := .long, accessFlags := 26, slot := 0, constantValue := 0 }, { name := "COMPACT_STRINGS", type := .boolean, accessFlags := 24, slot := 1, constantValue := 0 }, { name := "serialPersistentFields", type := (.array (.object "java/io/ObjectStreamField")), accessFlags := 26, slot := 2, constantValue := 0 }, { name := "REPL", type := .char, accessFlags := 26, slot := 3, constantValue := 0 }, { name := "CASE_INSENSITIVE_ORDER", type := (.object "java/util/Comparator"), accessFlags := 25, slot := 4, constantValue := 0 }, { name := "LATIN1", type := .byte, accessFlags := 24, slot := 5, constantValue := 0 }, { name := "UTF16", type := .byte, accessFlags := 24, slot := 6, constantValue := 0 }]
  methods := #[k9m0, k9m1, k9m2, k9m3, k9m4, k9m5, k9m6]
  instanceTypes := #[(.array .byte), .byte, .int, .boolean]
  staticTypes := #[.long, .boolean, (.array (.object "java/io/ObjectStreamField")), .char, (.object "java/util/Comparator"), .byte, .byte]
  resolved := Array.replicate 1451 none
  statics := some 1 }

def pool10 : Array CpInfo := pool [(1, .class_ 2), (0, u "java/lang/String"), (1, .class_ 6), (1, u "java/lang/Object"), (0, u "<init>"), (0, u "()V"), (0, .methodref 1 10), (0, .nameAndType 11 12), (0, u "checkIndex"), (0, u "(II)V"), (1, .class_ 16), (1, u "java/lang/StringLatin1"), (36, u "([BI)C"), (67, u "$assertionsDisabled"), (0, u "Z"), (98, .class_ 223), (1, u "java/lang/StringLatin1$LinesSpliterator"), (28, u "charAt"), (137, .class_ 391), (0, u "java/lang/StringLatin1$CharsSpliterator")] 3

def k10m0 : Method := { name := "<init>", desc := "()V", sig := { parameters := [], returnType := none }, accessFlags := 0, code := none }
def k10c1 : Code := { maxStack := 2, maxLocals := 2, code := jdk_43_method_2_code, exceptionTable := #[], attributes := #[] }
def k10m1 : Method := { name := "charAt", desc := "([BI)C", sig := { parameters := [(.array .byte), .int], returnType := some .char }, accessFlags := 9, code := some k10c1 }
/-- java/lang/StringLatin1 -/
def k10 : Class := { plain "java/lang/StringLatin1" (some 0) with
  accessFlags := 48
  interfaces := #[]
  cf := some (fileOf pool10 14 #[.nestMembers #[390, 221]] #[{ accessFlags := 0, nameIndex := 7, descriptorIndex := 8, attributes := #[] }, { accessFlags := 9, nameIndex := 252, descriptorIndex := 53, attributes := #[] }] 48 4 #[] #[{ accessFlags := 4120, nameIndex := 121, descriptorIndex := 122, attributes := #[] }])
  fields := #[{ name := "$assertionsDisabled", type := .boolean, accessFlags := 4120, slot := 0, constantValue := 0 }]
  methods := #[k10m0, k10m1]
  instanceTypes := #[]
  staticTypes := #[.boolean]
  resolved := Array.replicate 395 none
  statics := none }

def pool11 : Array CpInfo := pool [(2, .class_ 4), (1, u "java/lang/Object"), (0, u "<init>"), (0, u "()V"), (17, .class_ 26), (1, u "jdk/internal/util/Preconditions"), (6, u "checkIndex"), (21, .class_ 56), (0, u "jdk/internal/util/Preconditions$4"), (57, .class_ 115), (0, u "jdk/internal/util/Preconditions$1"), (7, u "SIOOBE_FORMATTER"), (0, u "Ljava/util/function/BiFunction;"), (0, .class_ 126), (0, u "jdk/internal/util/Preconditions$2"), (3, u "AIOOBE_FORMATTER"), (0, .class_ 132), (0, u "jdk/internal/util/Preconditions$3"), (3, u "IOOBE_FORMATTER"), (41, u "(IILjava/util/function/BiFunction;)I")] 15

def k11m0 : Method := { name := "<init>", desc := "()V", sig := { parameters := [], returnType := none }, accessFlags := 1, code := none }
def k11c1 : Code := { maxStack := 3, maxLocals := 3, code := jdk_41_method_11_code, exceptionTable := #[], attributes := #[] }
def k11m1 : Method := { name := "checkIndex", desc := "(IILjava/util/function/BiFunction;)I", sig := { parameters := [.int, .int, (.object "java/util/function/BiFunction")], returnType := some .int }, accessFlags := 9, code := some k11c1 }
/-- jdk/internal/util/Preconditions -/
def k11 : Class := { plain "jdk/internal/util/Preconditions" (some 0) with
  accessFlags := 33
  interfaces := #[]
  cf := some (fileOf pool11 24 #[.nestMembers #[55, 131, 125, 114]] #[{ accessFlags := 1, nameIndex := 5, descriptorIndex := 6, attributes := #[] }, { accessFlags := 9, nameIndex := 33, descriptorIndex := 178, attributes := #[] }] 33 2 #[] #[{ accessFlags := 25, nameIndex := 123, descriptorIndex := 124, attributes := #[] }, { accessFlags := 25, nameIndex := 130, descriptorIndex := 124, attributes := #[] }, { accessFlags := 25, nameIndex := 136, descriptorIndex := 124, attributes := #[] }])
  fields := #[{ name := "SIOOBE_FORMATTER", type := (.object "java/util/function/BiFunction"), accessFlags := 25, slot := 0, constantValue := 0 }, { name := "AIOOBE_FORMATTER", type := (.object "java/util/function/BiFunction"), accessFlags := 25, slot := 1, constantValue := 0 }, { name := "IOOBE_FORMATTER", type := (.object "java/util/function/BiFunction"), accessFlags := 25, slot := 2, constantValue := 0 }]
  methods := #[k11m0, k11m1]
  instanceTypes := #[]
  staticTypes := #[(.object "java/util/function/BiFunction"), (.object "java/util/function/BiFunction"), (.object "java/util/function/BiFunction")]
  resolved := Array.replicate 194 none
  statics := some 2 }

def pool12 : Array CpInfo := pool [(9, u "<init>"), (6, .class_ 18), (1, u "java/lang/Object"), (0, u "()V"), (1, .class_ 23), (1, u "jdk/internal/util/ArraysSupport"), (0, u "LOG2_ARRAY_LONG_INDEX_SCALE"), (0, u "I"), (2, u "U"), (0, u "Ljdk/internal/misc/Unsafe;"), (8, u "BIG_ENDIAN"), (0, u "Z"), (8, u "LOG2_BYTE_BIT_SIZE"), (4, u "LOG2_ARRAY_INT_INDEX_SCALE"), (54, u "JLA"), (0, u "Ljdk/internal/access/JavaLangAccess;"), (11, u "LOG2_ARRAY_BOOLEAN_INDEX_SCALE"), (9, u "LOG2_ARRAY_BYTE_INDEX_SCALE"), (5, u "LOG2_ARRAY_CHAR_INDEX_SCALE"), (5, u "LOG2_ARRAY_SHORT_INDEX_SCALE"), (18, u "LOG2_ARRAY_FLOAT_INDEX_SCALE"), (24, u "LOG2_ARRAY_DOUBLE_INDEX_SCALE"), (89, u "T_BOOLEAN"), (2, u "T_CHAR"), (1, u "T_FLOAT"), (1, u "T_DOUBLE"), (1, u "T_BYTE"), (1, u "T_SHORT"), (1, u "T_INT"), (1, u "T_LONG"), (1, u "SOFT_MAX_ARRAY_LENGTH")] 83

def k12m0 : Method := { name := "<init>", desc := "()V", sig := { parameters := [], returnType := none }, accessFlags := 2, code := none }
/-- jdk/internal/util/ArraysSupport -/
def k12 : Class := { plain "jdk/internal/util/ArraysSupport" (some 0) with
  accessFlags := 33
  interfaces := #[]
  cf := some (fileOf pool12 21 #[] #[{ accessFlags := 2, nameIndex := 9, descriptorIndex := 19, attributes := #[] }] 33 16 #[] #[{ accessFlags := 24, nameIndex := 28, descriptorIndex := 29, attributes := #[] }, { accessFlags := 26, nameIndex := 38, descriptorIndex := 39, attributes := #[] }, { accessFlags := 25, nameIndex := 121, descriptorIndex := 25, attributes := #[] }, { accessFlags := 25, nameIndex := 131, descriptorIndex := 25, attributes := #[] }, { accessFlags := 25, nameIndex := 137, descriptorIndex := 25, attributes := #[] }, { accessFlags := 25, nameIndex := 143, descriptorIndex := 25, attributes := #[] }, { accessFlags := 25, nameIndex := 53, descriptorIndex := 25, attributes := #[] }, { accessFlags := 25, nameIndex := 24, descriptorIndex := 25, attributes := #[] }, { accessFlags := 25, nameIndex := 162, descriptorIndex := 25, attributes := #[] }, { accessFlags := 25, nameIndex := 187, descriptorIndex := 25, attributes := #[] }, { accessFlags := 26, nameIndex := 48, descriptorIndex := 25, attributes := #[] }, { accessFlags := 25, nameIndex := 277, descriptorIndex := 25, attributes := #[] }, { accessFlags := 25, nameIndex := 280, descriptorIndex := 25, attributes := #[] }, { accessFlags := 25, nameIndex := 282, descriptorIndex := 25, attributes := #[] }, { accessFlags := 25, nameIndex := 284, descriptorIndex := 25, attributes := #[] }, { accessFlags := 25, nameIndex := 286, descriptorIndex := 25, attributes := #[] }, { accessFlags := 25, nameIndex := 288, descriptorIndex := 25, attributes := #[] }, { accessFlags := 25, nameIndex := 290, descriptorIndex := 25, attributes := #[] }, { accessFlags := 25, nameIndex := 292, descriptorIndex := 25, attributes := #[] }, { accessFlags := 26, nameIndex := 108, descriptorIndex := 109, attributes := #[] }, { accessFlags := 25, nameIndex := 294, descriptorIndex := 25, attributes := #[] }])
  fields := #[{ name := "U", type := (.object "jdk/internal/misc/Unsafe"), accessFlags := 24, slot := 0, constantValue := 0 }, { name := "BIG_ENDIAN", type := .boolean, accessFlags := 26, slot := 1, constantValue := 0 }, { name := "LOG2_ARRAY_BOOLEAN_INDEX_SCALE", type := .int, accessFlags := 25, slot := 2, constantValue := 0 }, { name := "LOG2_ARRAY_BYTE_INDEX_SCALE", type := .int, accessFlags := 25, slot := 3, constantValue := 0 }, { name := "LOG2_ARRAY_CHAR_INDEX_SCALE", type := .int, accessFlags := 25, slot := 4, constantValue := 0 }, { name := "LOG2_ARRAY_SHORT_INDEX_SCALE", type := .int, accessFlags := 25, slot := 5, constantValue := 0 }, { name := "LOG2_ARRAY_INT_INDEX_SCALE", type := .int, accessFlags := 25, slot := 6, constantValue := 0 }, { name := "LOG2_ARRAY_LONG_INDEX_SCALE", type := .int, accessFlags := 25, slot := 7, constantValue := 0 }, { name := "LOG2_ARRAY_FLOAT_INDEX_SCALE", type := .int, accessFlags := 25, slot := 8, constantValue := 0 }, { name := "LOG2_ARRAY_DOUBLE_INDEX_SCALE", type := .int, accessFlags := 25, slot := 9, constantValue := 0 }, { name := "LOG2_BYTE_BIT_SIZE", type := .int, accessFlags := 26, slot := 10, constantValue := 0 }, { name := "T_BOOLEAN", type := .int, accessFlags := 25, slot := 11, constantValue := 0 }, { name := "T_CHAR", type := .int, accessFlags := 25, slot := 12, constantValue := 0 }, { name := "T_FLOAT", type := .int, accessFlags := 25, slot := 13, constantValue := 0 }, { name := "T_DOUBLE", type := .int, accessFlags := 25, slot := 14, constantValue := 0 }, { name := "T_BYTE", type := .int, accessFlags := 25, slot := 15, constantValue := 0 }, { name := "T_SHORT", type := .int, accessFlags := 25, slot := 16, constantValue := 0 }, { name := "T_INT", type := .int, accessFlags := 25, slot := 17, constantValue := 0 }, { name := "T_LONG", type := .int, accessFlags := 25, slot := 18, constantValue := 0 }, { name := "JLA", type := (.object "jdk/internal/access/JavaLangAccess"), accessFlags := 26, slot := 19, constantValue := 0 }, { name := "SOFT_MAX_ARRAY_LENGTH", type := .int, accessFlags := 25, slot := 20, constantValue := 0 }]
  methods := #[k12m0]
  instanceTypes := #[]
  staticTypes := #[(.object "jdk/internal/misc/Unsafe"), .boolean, .int, .int, .int, .int, .int, .int, .int, .int, .int, .int, .int, .int, .int, .int, .int, .int, .int, (.object "jdk/internal/access/JavaLangAccess"), .int]
  resolved := Array.replicate 378 none
  statics := none }

def pool13 : Array CpInfo := pool [(1, u "java/lang/Cloneable"), (0, .class_ 1), (0, u "java/lang/Object"), (0, .class_ 3)] 3

/-- java/lang/Cloneable -/
def k13 : Class := { plain "java/lang/Cloneable" (some 0) with
  accessFlags := 1537
  interfaces := #[]
  cf := some (fileOf pool13 2 #[] #[] 1537 4 #[] #[])
  fields := #[]
  methods := #[]
  instanceTypes := #[]
  staticTypes := #[]
  resolved := Array.replicate 8 none
  statics := none }

/-- the primitive byte -/
def k14 : Class := { plain "byte" none with kind := .primitive 'B', accessFlags := 0x411 }
/-- [B -/
def k15 : Class := { plain "[B" (some 0) with kind := .array 14 .byte, interfaces := #[13, 4], accessFlags := 1041 }

/-- the primitive int -/
def k16 : Class := { plain "int" none with kind := .primitive 'I', accessFlags := 0x411 }
/-- [I -/
def k17 : Class := { plain "[I" (some 0) with kind := .array 16 .int, interfaces := #[13, 4], accessFlags := 1041 }

def heap : Heap := #[{ cls := 6, slots := #[.ref 6, .ref 4, .ref 5, .ref 3, .null], vm := .statics 6 },
  { cls := 9, slots := #[.long 0, .int 1, .null, .int 0, .null, .int 0, .int 0], vm := .statics 9 },
  { cls := 11, slots := #[.null, .null, .null], vm := .statics 11 },
  { cls := 6, slots := #[.null, .int 3, .int 0, .ref 7], vm := .none },
  { cls := 6, slots := #[.null, .int 1, .int 0, .ref 8], vm := .none },
  { cls := 6, slots := #[.null, .int 2, .int 0, .ref 9], vm := .none },
  { cls := 6, slots := #[.null, .int 0, .int 0, .ref 10], vm := .none },
  { cls := 9, slots := #[.ref 11, .int 0, .int 0, .int 0], vm := .none },
  { cls := 9, slots := #[.ref 12, .int 0, .int 0, .int 0], vm := .none },
  { cls := 9, slots := #[.ref 13, .int 0, .int 0, .int 0], vm := .none },
  { cls := 9, slots := #[.ref 14, .int 0, .int 0, .int 0], vm := .none },
  { cls := 15, slots := #[.int 43], vm := .none },
  { cls := 15, slots := #[.int 63], vm := .none },
  { cls := 15, slots := #[.int 42], vm := .none },
  { cls := 15, slots := #[], vm := .none }]
def classes : Array Class := #[k0, k1, k2, k3, k4, k5, k6, k7, k8, k9, k10, k11, k12, k13, k14, k15, k16, k17]
def interned : List (Array UInt16 × Addr) := []
def slotsUsed : Nat := 50
def theMethod : MethodId := ⟨1, 1⟩
def args0 : Array Value := #[.int 5, .int 7]
def aboutOver (below : List Frame) : State where
  vm := { classes := classes, interned := interned.toArray }
  heap := heap
  slotsUsed := slotsUsed
  threads := #[{ frames := .invoking theMethod args0 :: below }]
def below0 : List Frame := [.native { method := ⟨0, 0⟩, args := #[] }]
def about1 : State := aboutOver below0
def p0 : Program := .bare "" "" ""
def e0 : Env := launch0.env 0 0 0
theorem w_frames : about1.frames = Frame.invoking theMethod args0 :: below0 := rfl
set_option maxRecDepth 65536 in
theorem w_args : argsFit about1.vm theMethod args0 = true := by decide +kernel
set_option maxRecDepth 65536 in
theorem w_heap : heapFits about1 = true := by decide +kernel
set_option maxRecDepth 65536 in
theorem w_runnable : about1.curStatus? = some .runnable := by decide +kernel
set_option maxRecDepth 65536 in
theorem w_alone : about1.alone = true := by decide +kernel
set_option maxRecDepth 65536 in
theorem w_named : about1.methodNamed? x = some theMethod := by decide +kernel
set_option maxRecDepth 65536 in
theorem w_hears : about1.hears theMethod below0 = true := by decide +kernel
set_option maxRecDepth 65536 in
theorem w_ripe : about1.ripe theMethod args0 below0 = true := by decide +kernel
theorem w_running : about1.status = .running := rfl
set_option maxRecDepth 65536 in
theorem w_room : about1.hasRoom e0.platform room_1 = true :=
  launch0.hasRoom_least _ room_1 (by decide +kernel) (by decide +kernel) (by decide +kernel) (by decide +kernel) (by decide +kernel) (by decide +kernel)
theorem allAtoms_all (ts : List Jvm.Cond) (a : Array Jvm.Value) (st : Jvm.State) : (allAtoms ts).before a st = ts.all (fun c => c.before a st) := by
  induction ts with
  | nil => rfl
  | cons c t ih =>
    show (Jvm.Cond.and c (allAtoms t)).before a st = _
    rw [Jvm.Cond.before_and, ih, List.all_cons]
def words1 : List Jvm.Cond := Jvm.Cond.code x code maxLocals ret :: tables_1
/-- a 'code' word, met by the world's own term for the bytes: nothing is compared byte by byte -/
theorem code_word {y : MethodName} {bytes : ByteArray} {mx : Nat} {rt : Option FieldType} {a : Array Value} {s : State} {m : MethodId} {meth : Method} {c : Code} (h1 : s.methodNamed? y = some m) (h2 : s.vm.method? m = some meth) (h3 : meth.code = some c) (h4 : c.code = bytes)
    (h5 : (c.maxLocals == mx && c.exceptionTable.isEmpty && decide (c.maxStack ≤ mostOperands) && decide (meth.sig.returnType = rt) && !meth.locks && decide (parseMethodDescriptor y.desc = some meth.sig)) = true) : (Jvm.Cond.code y bytes mx rt).before a s = true := by
  simp only [Bool.and_eq_true, beq_iff_eq, Bool.not_eq_true', decide_eq_true_eq] at h5
  obtain ⟨⟨⟨⟨⟨g1, g2⟩, g3⟩, g4⟩, g5⟩, g6⟩ := h5
  simp [Cond.before, Cond.holds, Cond.value, h1, h2, h3, h4, g1, g2, g3, g4, g5, g6]
def isCode : Jvm.Cond → Bool
  | .code _ _ _ _ => true
  | _ => false
theorem all_split {L : List Jvm.Cond} {P : Jvm.Cond → Bool} (h1 : L.all (fun c => isCode c || P c) = true) (h2 : ∀ c ∈ L.filter isCode, P c = true) : L.all P = true := by
  refine List.all_eq_true.mpr fun c hc => ?_
  have h := List.all_eq_true.mp h1 c hc
  rcases Bool.eq_false_or_eq_true (isCode c) with hi | hi
  · exact h2 c (List.mem_filter.mpr ⟨hc, hi⟩)
  · simpa [hi] using h
set_option maxRecDepth 65536 in
theorem w_c0 : (Jvm.Cond.code x code maxLocals ret).before args0 about1 = true := code_word (m := ⟨1, 1⟩) (meth := k1m1) (c := k1c1) (by decide +kernel) rfl rfl rfl (by decide +kernel)
set_option maxRecDepth 65536 in
theorem w_c1 : (Jvm.Cond.code ({ cls := "com/example/referee/referee/model/Quantifier", name := "of", desc := "(I)Lcom/example/referee/referee/model/Quantifier;" } : Jvm.MethodName) prog_46_method_4_code (2 : Nat) (Option.some (Jvm.ClassFile.FieldType.object "com/example/referee/referee/model/Quantifier"))).before args0 about1 = true := code_word (m := ⟨6, 0⟩) (meth := k6m0) (c := k6c0) (by decide +kernel) rfl rfl rfl (by decide +kernel)
set_option maxRecDepth 65536 in
theorem w_c2 : (Jvm.Cond.code ({ cls := "com/example/referee/referee/model/Quantifier", name := "symbol", desc := "()Ljava/lang/String;" } : Jvm.MethodName) prog_46_method_5_code (1 : Nat) (Option.some (Jvm.ClassFile.FieldType.object "java/lang/String"))).before args0 about1 = true := code_word (m := ⟨6, 1⟩) (meth := k6m1) (c := k6c1) (by decide +kernel) rfl rfl rfl (by decide +kernel)
set_option maxRecDepth 65536 in
theorem w_c3 : (Jvm.Cond.code ({ cls := "java/lang/String", name := "isEmpty", desc := "()Z" } : Jvm.MethodName) jdk_42_method_55_code (1 : Nat) (Option.some Jvm.ClassFile.FieldType.boolean)).before args0 about1 = true := code_word (m := ⟨9, 2⟩) (meth := k9m2) (c := k9c2) (by decide +kernel) rfl rfl rfl (by decide +kernel)
set_option maxRecDepth 65536 in
theorem w_c4 : (Jvm.Cond.code ({ cls := "java/lang/String", name := "length", desc := "()I" } : Jvm.MethodName) jdk_42_method_54_code (1 : Nat) (Option.some Jvm.ClassFile.FieldType.int)).before args0 about1 = true := code_word (m := ⟨9, 1⟩) (meth := k9m1) (c := k9c1) (by decide +kernel) rfl rfl rfl (by decide +kernel)
set_option maxRecDepth 65536 in
theorem w_c5 : (Jvm.Cond.code ({ cls := "java/lang/String", name := "coder", desc := "()B" } : Jvm.MethodName) jdk_42_method_152_code (1 : Nat) (Option.some Jvm.ClassFile.FieldType.byte)).before args0 about1 = true := code_word (m := ⟨9, 4⟩) (meth := k9m4) (c := k9c4) (by decide +kernel) rfl rfl rfl (by decide +kernel)
set_option maxRecDepth 65536 in
theorem w_c6 : (Jvm.Cond.code ({ cls := "java/lang/String", name := "charAt", desc := "(I)C" } : Jvm.MethodName) jdk_42_method_56_code (2 : Nat) (Option.some Jvm.ClassFile.FieldType.char)).before args0 about1 = true := code_word (m := ⟨9, 3⟩) (meth := k9m3) (c := k9c3) (by decide +kernel) rfl rfl rfl (by decide +kernel)
set_option maxRecDepth 65536 in
theorem w_c7 : (Jvm.Cond.code ({ cls := "java/lang/String", name := "isLatin1", desc := "()Z" } : Jvm.MethodName) jdk_42_method_154_code (1 : Nat) (Option.some Jvm.ClassFile.FieldType.boolean)).before args0 about1 = true := code_word (m := ⟨9, 5⟩) (meth := k9m5) (c := k9c5) (by decide +kernel) rfl rfl rfl (by decide +kernel)
set_option maxRecDepth 65536 in
theorem w_c8 : (Jvm.Cond.code ({ cls := "java/lang/StringLatin1", name := "charAt", desc := "([BI)C" } : Jvm.MethodName) jdk_43_method_2_code (2 : Nat) (Option.some Jvm.ClassFile.FieldType.char)).before args0 about1 = true := code_word (m := ⟨10, 1⟩) (meth := k10m1) (c := k10c1) (by decide +kernel) rfl rfl rfl (by decide +kernel)
set_option maxRecDepth 65536 in
theorem w_c9 : (Jvm.Cond.code ({ cls := "java/lang/String", name := "checkIndex", desc := "(II)V" } : Jvm.MethodName) jdk_42_method_155_code (2 : Nat) (Option.none : Option Jvm.ClassFile.FieldType)).before args0 about1 = true := code_word (m := ⟨9, 6⟩) (meth := k9m6) (c := k9c6) (by decide +kernel) rfl rfl rfl (by decide +kernel)
set_option maxRecDepth 65536 in
theorem w_c10 : (Jvm.Cond.code ({ cls := "jdk/internal/util/Preconditions", name := "checkIndex", desc := "(IILjava/util/function/BiFunction;)I" } : Jvm.MethodName) jdk_41_method_11_code (3 : Nat) (Option.some Jvm.ClassFile.FieldType.int)).before args0 about1 = true := code_word (m := ⟨11, 1⟩) (meth := k11m1) (c := k11c1) (by decide +kernel) rfl rfl rfl (by decide +kernel)
def codes1 : List Jvm.Cond := [Jvm.Cond.code x code maxLocals ret, Jvm.Cond.code ({ cls := "com/example/referee/referee/model/Quantifier", name := "of", desc := "(I)Lcom/example/referee/referee/model/Quantifier;" } : Jvm.MethodName) prog_46_method_4_code (2 : Nat) (Option.some (Jvm.ClassFile.FieldType.object "com/example/referee/referee/model/Quantifier")), Jvm.Cond.code ({ cls := "com/example/referee/referee/model/Quantifier", name := "symbol", desc := "()Ljava/lang/String;" } : Jvm.MethodName) prog_46_method_5_code (1 : Nat) (Option.some (Jvm.ClassFile.FieldType.object "java/lang/String")), Jvm.Cond.code ({ cls := "java/lang/String", name := "isEmpty", desc := "()Z" } : Jvm.MethodName) jdk_42_method_55_code (1 : Nat) (Option.some Jvm.ClassFile.FieldType.boolean), Jvm.Cond.code ({ cls := "java/lang/String", name := "length", desc := "()I" } : Jvm.MethodName) jdk_42_method_54_code (1 : Nat) (Option.some Jvm.ClassFile.FieldType.int), Jvm.Cond.code ({ cls := "java/lang/String", name := "coder", desc := "()B" } : Jvm.MethodName) jdk_42_method_152_code (1 : Nat) (Option.some Jvm.ClassFile.FieldType.byte), Jvm.Cond.code ({ cls := "java/lang/String", name := "charAt", desc := "(I)C" } : Jvm.MethodName) jdk_42_method_56_code (2 : Nat) (Option.some Jvm.ClassFile.FieldType.char), Jvm.Cond.code ({ cls := "java/lang/String", name := "isLatin1", desc := "()Z" } : Jvm.MethodName) jdk_42_method_154_code (1 : Nat) (Option.some Jvm.ClassFile.FieldType.boolean), Jvm.Cond.code ({ cls := "java/lang/StringLatin1", name := "charAt", desc := "([BI)C" } : Jvm.MethodName) jdk_43_method_2_code (2 : Nat) (Option.some Jvm.ClassFile.FieldType.char), Jvm.Cond.code ({ cls := "java/lang/String", name := "checkIndex", desc := "(II)V" } : Jvm.MethodName) jdk_42_method_155_code (2 : Nat) (Option.none : Option Jvm.ClassFile.FieldType), Jvm.Cond.code ({ cls := "jdk/internal/util/Preconditions", name := "checkIndex", desc := "(IILjava/util/function/BiFunction;)I" } : Jvm.MethodName) jdk_41_method_11_code (3 : Nat) (Option.some Jvm.ClassFile.FieldType.int)]
set_option maxRecDepth 65536 in
theorem codes_eq : words1.filter isCode = codes1 := rfl
theorem w_codes : ∀ c ∈ words1.filter isCode, c.before args0 about1 = true := by
  rw [codes_eq]
  intro c hc
  simp only [codes1, List.mem_cons, List.not_mem_nil, or_false] at hc
  rcases hc with rfl | rfl | rfl | rfl | rfl | rfl | rfl | rfl | rfl | rfl | rfl
  · exact w_c0
  · exact w_c1
  · exact w_c2
  · exact w_c3
  · exact w_c4
  · exact w_c5
  · exact w_c6
  · exact w_c7
  · exact w_c8
  · exact w_c9
  · exact w_c10
set_option maxRecDepth 65536 in
theorem w_t1 : (words1.take 24).all (fun c => isCode c || c.before args0 about1) = true := by decide +kernel
set_option maxRecDepth 65536 in
theorem w_t2 : ((words1.drop 24).take 24).all (fun c => isCode c || c.before args0 about1) = true := by decide +kernel
set_option maxRecDepth 65536 in
theorem w_t3 : ((words1.drop 24).drop 24).all (fun c => isCode c || c.before args0 about1) = true := by decide +kernel
theorem w_tables : (allAtoms (Jvm.Cond.code x code maxLocals ret :: tables_1)).before args0 about1 = true := by
  rw [allAtoms_all]
  show words1.all (fun c => c.before args0 about1) = true
  refine all_split ?_ w_codes
  rw [← List.take_append_drop 24 words1, List.all_append, w_t1, ← List.take_append_drop 24 (words1.drop 24), List.all_append, w_t2, w_t3]
  rfl
set_option maxRecDepth 65536 in
theorem w_rest : rest_1_c.before args0 about1 = true := by decide +kernel
set_option maxRecDepth 65536 in
theorem w_case : (Jvm.Cond.and given_1 narrow_1).before args0 about1 = true := by decide +kernel
theorem w_applies : (headSpec (Jvm.Cond.code x code maxLocals ret :: tables_1) room_1).applies x e0.platform about1 = true :=
  (Spec.applies_iff w_frames).mpr ⟨w_running, w_runnable, w_alone, w_named, w_hears, w_ripe, w_room, w_tables⟩
theorem atStart : AtStart classFile x code maxLocals ret World_1 tables_1 room_1 Calls_1 rest_1 Pre_1 launch0 p0 e0 about1 theMethod args0 below0 :=
  ⟨lists_1, trivial, launch0.admits_env _ _ _, launch0.least_env, fairChoices_fair.cas, fairChoices_fair.clock, w_frames, w_args, w_heap, w_applies, trivial, w_rest, w_case⟩
end start1
theorem witness_1 : WitnessClaimed_1 := ⟨start1.p0, start1.e0, start1.about1, start1.theMethod, start1.args0, start1.below0, start1.atStart⟩
end Jvm.Pilot.@@N@@
