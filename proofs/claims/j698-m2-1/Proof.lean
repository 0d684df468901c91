import JvmDerived
import JvmDerived.Pilot.@@N@@Statement
import JvmDerived.Pilot.@@N@@Code
set_option linter.unusedVariables false
set_option linter.unusedSimpArgs false
namespace Jvm.RoadKit
open Sem ClassFile Op Lib Jvm.Stand Jvm.Free Jvm.LawKit
section Own
variable {p : Program} {l : Launch} {e : Env} {R : Room} {s : State} {m : MethodId} {args : Array Value} {below : List Frame} {meth : Method} {c : Code} {T : State} {locs : List Loc} {cells slots : Nat}
theorem retI (X : Stand p l e R s m args below meth c T locs cells slots) (hx : p.tables.exec = Jvm.exec) {pc : Nat} {Ls : Array Slot} {z : Int32} {rest : List Value} (hret : meth.sig.returnType = some .int) (hd : decode c.code pc = .ok (.ireturn, 1)) {fs : List Frame}
    (hl : ∀ (f : JFrame) (acts : List Action), f.method = m → f.locked = none → f.entered = [] → (doReturn e (T.setTop f) acts (some (.int z))).1 = T.setFrames fs) : Steps p.tables e below (T.setTop (mkF m pc Ls (.int z :: rest))) (T.setFrames fs) :=
  retOut X hx hret rfl (Or.inl ⟨rfl, Or.inl rfl, _, rfl⟩) hd hl
theorem retJ (X : Stand p l e R s m args below meth c T locs cells slots) (hx : p.tables.exec = Jvm.exec) {pc : Nat} {Ls : Array Slot} {z : Int64} {rest : List Value} (hret : meth.sig.returnType = some .long) (hd : decode c.code pc = .ok (.lreturn, 1)) {fs : List Frame}
    (hl : ∀ (f : JFrame) (acts : List Action), f.method = m → f.locked = none → f.entered = [] → (doReturn e (T.setTop f) acts (some (.long z))).1 = T.setFrames fs) : Steps p.tables e below (T.setTop (mkF m pc Ls (.long z :: rest))) (T.setFrames fs) :=
  retOut X hx hret rfl (Or.inr (Or.inl ⟨rfl, rfl, _, rfl⟩)) hd hl
theorem retA (X : Stand p l e R s m args below meth c T locs cells slots) (hx : p.tables.exec = Jvm.exec) {pc : Nat} {Ls : Array Slot} {t : FieldType} {z : Value} {rest : List Value} (hret : meth.sig.returnType = some t) (hn : narrow t z = z) (ht : t.isReference = true) (hz : z.isRef = true) (hd : decode c.code pc = .ok (.areturn, 1)) {fs : List Frame}
    (hl : ∀ (f : JFrame) (acts : List Action), f.method = m → f.locked = none → f.entered = [] → (doReturn e (T.setTop f) acts (some z)).1 = T.setFrames fs) : Steps p.tables e below (T.setTop (mkF m pc Ls (z :: rest))) (T.setFrames fs) :=
  retOut X hx hret hn (Or.inr (Or.inr (Or.inr (Or.inr ⟨rfl, ht, hz⟩)))) hd hl
theorem retZ (X : Stand p l e R s m args below meth c T locs cells slots) (hx : p.tables.exec = Jvm.exec) {pc : Nat} {Ls : Array Slot} {z r : Int32} {t : FieldType} {rest : List Value} (hret : meth.sig.returnType = some t) (ht : t = .boolean ∨ t = .byte ∨ t = .char ∨ t = .short)
    (hd : decode c.code pc = .ok (.ireturn, 1)) (hn : nar t z = r) {fs : List Frame} (hl : ∀ (f : JFrame) (acts : List Action), f.method = m → f.locked = none → f.entered = [] → (doReturn e (T.setTop f) acts (some (.int r))).1 = T.setFrames fs) :
    Steps p.tables e below (T.setTop (mkF m pc Ls (.int z :: rest))) (T.setFrames fs) := retN X hx hret ht hd (by rw [hn]; exact hl)
theorem ownUp (X : Stand p l e R s m args below meth c T locs cells slots) {cells' slots' : Nat} (h1 : cells ≤ cells') (h2 : slots ≤ slots') : Stand p l e R s m args below meth c T locs cells' slots' :=
  ⟨X.admits, X.cas, X.clock, X.frames, X.room, X.hears, X.method, X.code, X.here, X.tail, X.warmed, X.limits, X.bytes, X.same.mono h1 h2⟩
theorem own_hide (X : Stand p l e R s m args below meth c T locs cells slots) {n0 : Nat} (N : Fr n0 locs) : ∃ L, Stand p l e R s m args below meth c T L cells slots ∧ Fr n0 L := ⟨_, X, N⟩
end Own
def Go (tb : Tables) (e : Env) (below : List Frame) (P : Outcome → State → Prop) (T : State) (f : JFrame) : Prop :=
  ∃ s₂ o, Steps tb e below (T.setTop f) s₂ ∧ s₂.status = .running ∧ Ended s₂ below o ∧ P o s₂
theorem Go.via {tb : Tables} {e : Env} {below : List Frame} {P : Outcome → State → Prop} {T T' : State} {f f' : JFrame} (st : ∀ t, Steps tb e below (T'.setTop f') t → Steps tb e below (T.setTop f) t) (k : Go tb e below P T' f') : Go tb e below P T f := by
  obtain ⟨s₂, o, h, r⟩ := k; exact ⟨s₂, o, st _ h, r⟩
theorem Go.hop {tb : Tables} {e : Env} {below : List Frame} {P : Outcome → State → Prop} {T T' : State} {f f' : JFrame} (st : Steps tb e below (T.setTop f) (T'.setTop f')) (k : Go tb e below P T' f') : Go tb e below P T f := by
  obtain ⟨s₂, o, h, r⟩ := k; exact ⟨s₂, o, st.trans h, r⟩
theorem own_nin0 {a : Addr} : a ∉ ([] : List Addr) := fun q => nomatch q
theorem own_ninC {a b : Addr} {l : List Addr} (h : a ≠ b) (h' : a ∉ l) : a ∉ b :: l := fun q => (List.mem_cons.mp q).elim h h'
theorem own_nb {x : Int32} (h : x = 0 ∨ x = 1) : nar .boolean x = x := by rcases h with rfl | rfl <;> rfl
theorem own_nnb {x : Int32} (h : x = 0 ∨ x = 1) : narrow .boolean (.int x) = .int x := by rcases h with rfl | rfl <;> rfl
theorem own_fb {x : Int32} (h : x = 0 ∨ x = 1) : fits .boolean (.int x) = true := by rcases h with rfl | rfl <;> rfl
theorem own_all0 {P : Addr → Prop} : ∀ x ∈ ([] : List Addr), P x := fun _ q => nomatch q
theorem own_allC {P : Addr → Prop} {a : Addr} {l : List Addr} (h : P a) (h' : ∀ x ∈ l, P x) : ∀ x ∈ a :: l, P x := fun x q => (List.mem_cons.mp q).elim (fun e => e ▸ h) (h' x)
theorem own_m0 {k : Int32} : ∀ p ∈ ([] : List (Int × Int)), p.1 ≠ k.toInt := fun _ q => nomatch q
theorem own_mC {k x : Int32} {a o : Int} {l : List (Int × Int)} (h : ¬ k = x) (hx : x.toInt = a) (t : ∀ p ∈ l, p.1 ≠ k.toInt) : ∀ p ∈ (a, o) :: l, p.1 ≠ k.toInt := fun p q => (List.mem_cons.mp q).elim (fun e r => h (Int32.toInt_inj.mp (by rw [hx, ← r, e]))) (t p)
theorem own_cat {v : Value} (h : v.isRef = true) : v.category = 1 := by rcases ref_cases h with rfl | ⟨a, rfl⟩ <;> rfl
theorem own_nat {n : Nat} (h : n < 2147483648) : n.toInt32.toInt = n := len_toInt h
theorem own_ltN {i n : Nat} (hi : i < 2147483648) (hn : n < 2147483648) : i.toInt32 < n.toInt32 ↔ i < n := by
  rw [Int32.lt_iff_toInt_lt, own_nat hi, own_nat hn]; omega
theorem own_succ (i : Nat) : i.toInt32 + 1 = (i + 1).toInt32 := (Int32.ofNat_add i 1).symm
theorem own_nneg {i : Nat} (hi : i < 2147483648) : ¬ i.toInt32 < 0 := by
  rw [Int32.lt_iff_toInt_lt, own_nat hi]; simp
theorem own_clamp {i : Nat} (hi : i < 2147483648) : i.toInt32.toNatClampNeg = i := by
  show i.toInt32.toInt.toNat = i
  rw [own_nat hi]; rfl
end Jvm.RoadKit
namespace Jvm.Pilot.@@N@@
open Jvm Jvm.ClassFile Sem Op Lib Jvm.Free Jvm.Stand Jvm.LawKit Jvm.RoadKit Bundle Jvm.Pilot.@@N@@.Jvm.D
theorem own_ieq {t : Term} {args : Array Value} {s : State} {k : Int32} (h : (Jvm.Cond.eq t (.int k)).value args s none s [] = some true) : t.eval args s none [] s = some (.int k) := by
  obtain ⟨x, y, e1, e2, k1, k2⟩ := cmp_v (Or.inl h)
  cases (Term.int_eval k).symm.trans e2
  obtain ⟨z, rfl⟩ := k2
  have q := gotT (Cond.eq_ints e1 (Term.int_eval k)) h
  rw [e1, q]
theorem own_len {t : Term} {args : Array Value} {s : State} {k : Int32} {a : Addr} {c : Cell} {ty : FieldType} (ev : t.eval args s none [] s = some (.ref a)) (A : Arr s s.heap a c ty) (h : (Jvm.Cond.eq (.length t) (.int k)).value args s none s [] = some true) : c.slots.size < 2 ^ 31 ∧ c.slots.size.toInt32 = k := by
  have e1 := own_ieq h
  obtain ⟨x, c', e2, e3, e4, e5⟩ := Jvm.Free.SB.Term.length_small e1
  cases ev.symm.trans e2
  cases (IntBox.arrayAt_of A.1 A.2.1 A.2.2).symm.trans e3
  exact ⟨e5, (Value.int.inj e4).symm⟩
theorem own_el {t : Term} {args : Array Value} {s : State} {j k : Int32} {a : Addr} {c : Cell} {ty : FieldType} (ev : t.eval args s none [] s = some (.ref a)) (A : Arr s s.heap a c ty) (h : (Jvm.Cond.eq (.elem t (.int j)) (.int k)).value args s none s [] = some true) : c.slots[j.toNatClampNeg]? = some (.int k) := by
  have e1 := own_ieq h
  exact (elem_in e1 ev (Term.int_eval j) A.1).2
theorem own_rem10 (x : Int32) : let y := ((x &&& (2147483647 : Int32)) % (10 : Int32)); y = (0 : Int32) ∨ y = (1 : Int32) ∨ y = (2 : Int32) ∨ y = (3 : Int32) ∨ y = (4 : Int32) ∨ y = (5 : Int32) ∨ y = (6 : Int32) ∨ y = (7 : Int32) ∨ y = (8 : Int32) ∨ y = (9 : Int32) := by
  intro y
  have h1 := (c_and x 2147483647 (by decide)).1
  have h2 := (c_irem (x &&& (2147483647 : Int32)) 10 10 rfl).1 h1
  have h3 : y.toInt = (x &&& (2147483647 : Int32)).toInt % 10 := h2
  have h4 : ∀ k : Int32, y.toInt = k.toInt → y = k := fun k q => Int32.toInt_inj.mp q
  have c : y.toInt = 0 ∨ y.toInt = 1 ∨ y.toInt = 2 ∨ y.toInt = 3 ∨ y.toInt = 4 ∨ y.toInt = 5 ∨ y.toInt = 6 ∨ y.toInt = 7 ∨ y.toInt = 8 ∨ y.toInt = 9 := by omega
  rcases c with c | c | c | c | c | c | c | c | c | c
  · exact Or.inl (h4 0 c)
  · exact Or.inr (Or.inl (h4 1 c))
  · exact Or.inr (Or.inr (Or.inl (h4 2 c)))
  · exact Or.inr (Or.inr (Or.inr (Or.inl (h4 3 c))))
  · exact Or.inr (Or.inr (Or.inr (Or.inr (Or.inl (h4 4 c)))))
  · exact Or.inr (Or.inr (Or.inr (Or.inr (Or.inr (Or.inl (h4 5 c))))))
  · exact Or.inr (Or.inr (Or.inr (Or.inr (Or.inr (Or.inr (Or.inl (h4 6 c)))))))
  · exact Or.inr (Or.inr (Or.inr (Or.inr (Or.inr (Or.inr (Or.inr (Or.inl (h4 7 c))))))))
  · exact Or.inr (Or.inr (Or.inr (Or.inr (Or.inr (Or.inr (Or.inr (Or.inr (Or.inl (h4 8 c)))))))))
  · exact Or.inr (Or.inr (Or.inr (Or.inr (Or.inr (Or.inr (Or.inr (Or.inr (Or.inr (h4 9 c)))))))))
theorem own_pn0 : plainName "com/example/referee/referee/model/AttributeType" = true := by first | (simp [plainName, overriddenIn]; done) | decide +kernel
theorem d1_0 : decode prog_29_method_7_code 0 = .ok (.aload_n 0, 1) := by decide +kernel
theorem d1_1 : decode prog_29_method_7_code 1 = .ok (.getstatic 10, 3) := by decide +kernel
theorem d1_4 : decode prog_29_method_7_code 4 = .ok (.if_acmp .eq 24, 3) := by decide +kernel
theorem d1_7 : decode prog_29_method_7_code 7 = .ok (.aload_n 0, 1) := by decide +kernel
theorem d1_8 : decode prog_29_method_7_code 8 = .ok (.getstatic 13, 3) := by decide +kernel
theorem d1_11 : decode prog_29_method_7_code 11 = .ok (.if_acmp .eq 17, 3) := by decide +kernel
theorem d1_14 : decode prog_29_method_7_code 14 = .ok (.aload_n 0, 1) := by decide +kernel
theorem d1_15 : decode prog_29_method_7_code 15 = .ok (.getstatic 16, 3) := by decide +kernel
theorem d1_18 : decode prog_29_method_7_code 18 = .ok (.if_acmp .eq 10, 3) := by decide +kernel
theorem d1_21 : decode prog_29_method_7_code 21 = .ok (.aload_n 0, 1) := by decide +kernel
theorem d1_22 : decode prog_29_method_7_code 22 = .ok (.getstatic 19, 3) := by decide +kernel
theorem d1_25 : decode prog_29_method_7_code 25 = .ok (.if_acmp .ne 7, 3) := by decide +kernel
theorem d1_28 : decode prog_29_method_7_code 28 = .ok (.iconst 1, 1) := by decide +kernel
theorem d1_29 : decode prog_29_method_7_code 29 = .ok (.goto 4, 3) := by decide +kernel
theorem d1_32 : decode prog_29_method_7_code 32 = .ok (.iconst 0, 1) := by decide +kernel
theorem d1_33 : decode prog_29_method_7_code 33 = .ok (.ireturn, 1) := by decide +kernel
theorem ef_1 (m : MethodId) (x0 : Addr) : entryFrame m #[(.ref x0)] 1 = mkF m 0 #[.val (.ref x0)] [] := by first | (simp [entryFrame, mkF, argsToLocals, Value.category]; done) | rfl
def Q1 (Z : State) (oa : Addr) (aIDREF : Addr) (aIDREFS : Addr) (aENTITY : Addr) (aENTITIES : Addr) (h0 : Heap) (n0 : Nat) (v : Option Value) (h : Heap) (L : List Loc) : Prop := v = some (.int (if ((.ref oa) : Value) = (.ref aIDREF) then (1 : Int32) else (if ((.ref oa) : Value) = (.ref aIDREFS) then (1 : Int32) else (if ((.ref oa) : Value) = (.ref aENTITY) then (1 : Int32) else (if ((.ref oa) : Value) = (.ref aENTITIES) then (1 : Int32) else (0 : Int32)))))) ∧ Fr n0 L ∧ h = h0
set_option maxRecDepth 65536 in
set_option maxHeartbeats 40000000 in
theorem rm1 (l : Launch) (Z : State) (a0 : Array Value) (hw : ∀ d ∈ tables_1, d.before a0 Z = true) (ws : List Jvm.Cond) (oa : Addr) (aIDREF : Addr) (aIDREFS : Addr) (aENTITY : Addr) (aENTITIES : Addr) (h0 : Heap) (n0 : Nat) (Z0 : n0 ≤ h0.size) (O0 : Old Z n0 h0) (P1 : Sta Z Z.heap "com/example/referee/referee/model/AttributeType" "IDREF" "Lcom/example/referee/referee/model/AttributeType;" (.ref aIDREF)) (P2 : Sta Z Z.heap "com/example/referee/referee/model/AttributeType" "IDREFS" "Lcom/example/referee/referee/model/AttributeType;" (.ref aIDREFS)) (P3 : Sta Z Z.heap "com/example/referee/referee/model/AttributeType" "ENTITY" "Lcom/example/referee/referee/model/AttributeType;" (.ref aENTITY)) (P4 : Sta Z Z.heap "com/example/referee/referee/model/AttributeType" "ENTITIES" "Lcom/example/referee/referee/model/AttributeType;" (.ref aENTITIES)) :
    MetFree l (⟨"com/example/referee/referee/model/AttributeType", "refers", "()Z"⟩ : MethodName) (head1 (Jvm.Cond.code (⟨"com/example/referee/referee/model/AttributeType", "refers", "()Z"⟩ : MethodName) prog_29_method_7_code 1 (some .boolean) :: ws) ({ frames := 0, cells := 0, slots := 0, locals := 0 } : Room)) (fun a U => a = #[(.ref oa)] ∧ Z.Warmed39 U.vm ∧ U.heap = h0) (fun _ _ _ _ _ => True) (fun _ U o U' => ∃ v L, o = .returned v ∧ Q1 Z oa aIDREF aIDREFS aENTITY aENTITIES h0 n0 v U'.heap L ∧ FrameEnd U o U' L ({ frames := 0, cells := 0, slots := 0, locals := 0 } : Room).cells ({ frames := 0, cells := 0, slots := 0, locals := 0 } : Room).slots) := by
  refine MetFree.of_bodySF (plainFor_of_name own_pn0) hisR ?_
  intro p e s m args below meth c s₁ Bd hml0 hP hK
  obtain ⟨rfl, hZ, hh⟩ := hP
  have hx := Bd.exec
  have hby := Bd.bytes
  have hml : c.maxLocals = 1 := hml0
  have hown : s.vm.findClass "com/example/referee/referee/model/AttributeType" = some m.cls := findClass_of_methodNamed Bd.named
  have hnm := (name_of_methodNamed Bd.named Bd.method).1
  have X0 : Stand p l e ({ frames := 0, cells := 0, slots := 0, locals := 0 } : Room) s m #[(.ref oa)] below meth c s₁ [] 0 0 := Stand.of_body Bd
  have e0 : s₁.heap = h0 := by rw [← hh, Bd.state]; rfl
  have N0 := Fr.nil n0
  have K0 : Keep h0 h0 [] := Keep.refl _ _
  suffices GO : ∀ P : Outcome → State → Prop, (∀ o U', (∃ v L, o = .returned v ∧ Q1 Z oa aIDREF aIDREFS aENTITY aENTITIES h0 n0 v U'.heap L ∧ FrameEnd s o U' L ({ frames := 0, cells := 0, slots := 0, locals := 0 } : Room).cells ({ frames := 0, cells := 0, slots := 0, locals := 0 } : Room).slots) → P o U') → Go p.tables e below P s₁ (mkF m 0 #[.val (.ref oa)] []) by
    obtain ⟨s2, o, st, r⟩ := GO _ (fun _ _ q => q)
    exact ⟨s2, o, castTop (ef_1 m oa) st, r⟩
  clear hh
  intro P hP
  show Go p.tables e below P s₁ (mkF m 0 #[.val (.ref oa)] [])
  refine Go.via (fun t k => XS.aloadN X0.here hx rfl (hb hby d1_0) rfl rfl k) ?_
  show Go p.tables e below P s₁ (mkF m 1 #[.val (.ref oa)] [(.ref oa)])
  obtain ⟨T1, X1, e1, st1⟩ := getS2 X0 hx hZ hown (host := "") (Or.inl (hw _ (List.mem_of_getElem? (i := 31) rfl))) Via.refl e0 (P1.ext O0.2) (g := (mkF m 1 #[.val (.ref oa)] [(.ref oa)])) rfl (hb hby d1_1)
  refine Go.via st1 ?_
  show Go p.tables e below P T1 (mkF m 4 #[.val (.ref oa)] [(.ref aIDREF), (.ref oa)])
  have J3 : ∀ (T3 : State) (locs3 : List Loc) (v3_0 : Int32), Stand p l e ({ frames := 0, cells := 0, slots := 0, locals := 0 } : Room) s m #[(.ref oa)] below meth c T3 locs3 0 0 → T3.heap = h0 → Fr n0 locs3 → v3_0 = (if ((.ref oa) : Value) = (.ref aIDREF) then (1 : Int32) else (if ((.ref oa) : Value) = (.ref aIDREFS) then (1 : Int32) else (if ((.ref oa) : Value) = (.ref aENTITY) then (1 : Int32) else (if ((.ref oa) : Value) = (.ref aENTITIES) then (1 : Int32) else (0 : Int32))))) → Go p.tables e below P T3 (mkF m 33 #[.val (.ref oa)] [(.int v3_0)]) := by
    intro T3 locs3 v3_0 X3 e3 N3 hv3_0
    have hbv3_0 : v3_0 = 0 ∨ v3_0 = 1 := by (subst hv3_0; (repeat' split) <;> first | (left; rfl) | (right; rfl))
    show Go p.tables e below P T3 (mkF m 33 #[.val (.ref oa)] [(.int v3_0)])
    obtain ⟨fs, hr, hrun, hended, hW, hsame⟩ := X3.leave (v := some (.int (if ((.ref oa) : Value) = (.ref aIDREF) then (1 : Int32) else (if ((.ref oa) : Value) = (.ref aIDREFS) then (1 : Int32) else (if ((.ref oa) : Value) = (.ref aENTITY) then (1 : Int32) else (if ((.ref oa) : Value) = (.ref aENTITIES) then (1 : Int32) else (0 : Int32))))))) (fun h => by rw [Bd.returns] at h; cases h)
    refine ⟨_, _, retZ X3 hx (t := .boolean) Bd.returns (by simp) (hb hby d1_33) ((own_nb hbv3_0).trans hv3_0) hr, hrun, hended, hP _ _ ⟨_, _, rfl, ?_, ⟨_, rfl⟩, hW, hsame.mono (by decide) (by decide)⟩⟩
    show Q1 Z oa aIDREF aIDREFS aENTITY aENTITIES h0 n0 _ T3.heap _
    rw [e3]
    exact ⟨rfl, N3, rfl⟩
  by_cases hc2 : ((.ref oa) : Value) = (.ref aIDREF)
  · refine Go.via (fun t k => Jvm.RoadKit.acmp (g := (mkF m 4 #[.val (.ref oa)] [(.ref aIDREF), (.ref oa)])) X1 hx rfl rfl rfl (pc0 := 4) (pc' := 28) (same := true) rfl (hb hby d1_4) rfl (decide_eq_true hc2) (by decide) (by decide) k) ?_
    show Go p.tables e below P T1 (mkF m 28 #[.val (.ref oa)] [])
    refine Go.via (fun t k => XS.iconst X1.here hx rfl (hb hby d1_28) k) ?_
    show Go p.tables e below P T1 (mkF m 29 #[.val (.ref oa)] [(.int (1 : Int32))])
    refine Go.via (fun t k => XS.goto X1.here hx rfl (pc0 := 29) (pc' := 33) rfl (hb hby d1_29) (by decide) (by decide) k) ?_
    exact J3 T1 _ (1 : Int32) X1 e1 N0 (if_pos hc2).symm
  · refine Go.via (fun t k => Jvm.RoadKit.acmp (g := (mkF m 4 #[.val (.ref oa)] [(.ref aIDREF), (.ref oa)])) X1 hx rfl rfl rfl (pc0 := 4) (pc' := 7) (same := false) rfl (hb hby d1_4) rfl (decide_eq_false hc2) (by decide) (by decide) k) ?_
    show Go p.tables e below P T1 (mkF m 7 #[.val (.ref oa)] [])
    refine Go.via (fun t k => XS.aloadN X1.here hx rfl (hb hby d1_7) rfl rfl k) ?_
    show Go p.tables e below P T1 (mkF m 8 #[.val (.ref oa)] [(.ref oa)])
    obtain ⟨T5, X5, e5, st5⟩ := getS2 X1 hx hZ hown (host := "") (Or.inl (hw _ (List.mem_of_getElem? (i := 32) rfl))) Via.refl e1 (P2.ext O0.2) (g := (mkF m 8 #[.val (.ref oa)] [(.ref oa)])) rfl (hb hby d1_8)
    refine Go.via st5 ?_
    show Go p.tables e below P T5 (mkF m 11 #[.val (.ref oa)] [(.ref aIDREFS), (.ref oa)])
    by_cases hc6 : ((.ref oa) : Value) = (.ref aIDREFS)
    · refine Go.via (fun t k => Jvm.RoadKit.acmp (g := (mkF m 11 #[.val (.ref oa)] [(.ref aIDREFS), (.ref oa)])) X5 hx rfl rfl rfl (pc0 := 11) (pc' := 28) (same := true) rfl (hb hby d1_11) rfl (decide_eq_true hc6) (by decide) (by decide) k) ?_
      show Go p.tables e below P T5 (mkF m 28 #[.val (.ref oa)] [])
      refine Go.via (fun t k => XS.iconst X5.here hx rfl (hb hby d1_28) k) ?_
      show Go p.tables e below P T5 (mkF m 29 #[.val (.ref oa)] [(.int (1 : Int32))])
      refine Go.via (fun t k => XS.goto X5.here hx rfl (pc0 := 29) (pc' := 33) rfl (hb hby d1_29) (by decide) (by decide) k) ?_
      exact J3 T5 _ (1 : Int32) X5 e5 N0 (Eq.trans (if_neg hc2) (if_pos hc6)).symm
    · refine Go.via (fun t k => Jvm.RoadKit.acmp (g := (mkF m 11 #[.val (.ref oa)] [(.ref aIDREFS), (.ref oa)])) X5 hx rfl rfl rfl (pc0 := 11) (pc' := 14) (same := false) rfl (hb hby d1_11) rfl (decide_eq_false hc6) (by decide) (by decide) k) ?_
      show Go p.tables e below P T5 (mkF m 14 #[.val (.ref oa)] [])
      refine Go.via (fun t k => XS.aloadN X5.here hx rfl (hb hby d1_14) rfl rfl k) ?_
      show Go p.tables e below P T5 (mkF m 15 #[.val (.ref oa)] [(.ref oa)])
      obtain ⟨T7, X7, e7, st7⟩ := getS2 X5 hx hZ hown (host := "") (Or.inl (hw _ (List.mem_of_getElem? (i := 33) rfl))) Via.refl e5 (P3.ext O0.2) (g := (mkF m 15 #[.val (.ref oa)] [(.ref oa)])) rfl (hb hby d1_15)
      refine Go.via st7 ?_
      show Go p.tables e below P T7 (mkF m 18 #[.val (.ref oa)] [(.ref aENTITY), (.ref oa)])
      by_cases hc8 : ((.ref oa) : Value) = (.ref aENTITY)
      · refine Go.via (fun t k => Jvm.RoadKit.acmp (g := (mkF m 18 #[.val (.ref oa)] [(.ref aENTITY), (.ref oa)])) X7 hx rfl rfl rfl (pc0 := 18) (pc' := 28) (same := true) rfl (hb hby d1_18) rfl (decide_eq_true hc8) (by decide) (by decide) k) ?_
        show Go p.tables e below P T7 (mkF m 28 #[.val (.ref oa)] [])
        refine Go.via (fun t k => XS.iconst X7.here hx rfl (hb hby d1_28) k) ?_
        show Go p.tables e below P T7 (mkF m 29 #[.val (.ref oa)] [(.int (1 : Int32))])
        refine Go.via (fun t k => XS.goto X7.here hx rfl (pc0 := 29) (pc' := 33) rfl (hb hby d1_29) (by decide) (by decide) k) ?_
        exact J3 T7 _ (1 : Int32) X7 e7 N0 (Eq.trans (Eq.trans (if_neg hc2) (if_neg hc6)) (if_pos hc8)).symm
      · refine Go.via (fun t k => Jvm.RoadKit.acmp (g := (mkF m 18 #[.val (.ref oa)] [(.ref aENTITY), (.ref oa)])) X7 hx rfl rfl rfl (pc0 := 18) (pc' := 21) (same := false) rfl (hb hby d1_18) rfl (decide_eq_false hc8) (by decide) (by decide) k) ?_
        show Go p.tables e below P T7 (mkF m 21 #[.val (.ref oa)] [])
        refine Go.via (fun t k => XS.aloadN X7.here hx rfl (hb hby d1_21) rfl rfl k) ?_
        show Go p.tables e below P T7 (mkF m 22 #[.val (.ref oa)] [(.ref oa)])
        obtain ⟨T9, X9, e9, st9⟩ := getS2 X7 hx hZ hown (host := "") (Or.inl (hw _ (List.mem_of_getElem? (i := 34) rfl))) Via.refl e7 (P4.ext O0.2) (g := (mkF m 22 #[.val (.ref oa)] [(.ref oa)])) rfl (hb hby d1_22)
        refine Go.via st9 ?_
        show Go p.tables e below P T9 (mkF m 25 #[.val (.ref oa)] [(.ref aENTITIES), (.ref oa)])
        by_cases hc10 : ((.ref oa) : Value) = (.ref aENTITIES)
        · refine Go.via (fun t k => Jvm.RoadKit.acmp (g := (mkF m 25 #[.val (.ref oa)] [(.ref aENTITIES), (.ref oa)])) X9 hx rfl rfl rfl (pc0 := 25) (pc' := 28) (same := true) rfl (hb hby d1_25) rfl (decide_eq_true hc10) (by decide) (by decide) k) ?_
          show Go p.tables e below P T9 (mkF m 28 #[.val (.ref oa)] [])
          refine Go.via (fun t k => XS.iconst X9.here hx rfl (hb hby d1_28) k) ?_
          show Go p.tables e below P T9 (mkF m 29 #[.val (.ref oa)] [(.int (1 : Int32))])
          refine Go.via (fun t k => XS.goto X9.here hx rfl (pc0 := 29) (pc' := 33) rfl (hb hby d1_29) (by decide) (by decide) k) ?_
          exact J3 T9 _ (1 : Int32) X9 e9 N0 (Eq.trans (Eq.trans (Eq.trans (if_neg hc2) (if_neg hc6)) (if_neg hc8)) (if_pos hc10)).symm
        · refine Go.via (fun t k => Jvm.RoadKit.acmp (g := (mkF m 25 #[.val (.ref oa)] [(.ref aENTITIES), (.ref oa)])) X9 hx rfl rfl rfl (pc0 := 25) (pc' := 32) (same := false) rfl (hb hby d1_25) rfl (decide_eq_false hc10) (by decide) (by decide) k) ?_
          show Go p.tables e below P T9 (mkF m 32 #[.val (.ref oa)] [])
          refine Go.via (fun t k => XS.iconst X9.here hx rfl (hb hby d1_32) k) ?_
          exact J3 T9 _ (0 : Int32) X9 e9 N0 (Eq.trans (Eq.trans (Eq.trans (if_neg hc2) (if_neg hc6)) (if_neg hc8)) (if_neg hc10)).symm
theorem own_pd0 : parseMethodDescriptor "()Z" = some ⟨[], some .boolean⟩ := by decide +kernel
theorem own_pn1 : plainName "com/example/referee/referee/model/AttributeTypeRefersPinLaw" = true := by first | (simp [plainName, overriddenIn]; done) | decide +kernel
theorem ef_0 (m : MethodId) (x0 : Int32) : entryFrame m #[(.int x0)] maxLocals = mkF m 0 #[.val (.int x0), .unset, .unset, .unset] [] := by first | (simp [entryFrame, mkF, argsToLocals, Value.category, maxLocals]; done) | rfl
def Q0 (Z : State) (px : Int32) (aCDATA : Addr) (aID : Addr) (aIDREF : Addr) (aIDREFS : Addr) (aENTITY : Addr) (aENTITIES : Addr) (aNMTOKEN : Addr) (aNMTOKENS : Addr) (aNOTATION : Addr) (aENUMERATION : Addr) (h0 : Heap) (n0 : Nat) (v : Option Value) (h : Heap) (L : List Loc) : Prop := v = some (.int (1 : Int32)) ∧ Fr n0 L
set_option maxRecDepth 65536 in
set_option maxHeartbeats 40000000 in
theorem rm0 (l : Launch) (Z : State) (a0 : Array Value) (hw : ∀ d ∈ tables_1, d.before a0 Z = true) (ws : List Jvm.Cond) (px : Int32) (aCDATA : Addr) (aID : Addr) (aIDREF : Addr) (aIDREFS : Addr) (aENTITY : Addr) (aENTITIES : Addr) (aNMTOKEN : Addr) (aNMTOKENS : Addr) (aNOTATION : Addr) (aENUMERATION : Addr) (h0 : Heap) (n0 : Nat) (Z0 : n0 ≤ h0.size) (O0 : Old Z n0 h0) (P1 : Sta Z Z.heap "com/example/referee/referee/model/AttributeType" "CDATA" "Lcom/example/referee/referee/model/AttributeType;" (.ref aCDATA)) (P2 : Sta Z Z.heap "com/example/referee/referee/model/AttributeType" "ID" "Lcom/example/referee/referee/model/AttributeType;" (.ref aID)) (P3 : Sta Z Z.heap "com/example/referee/referee/model/AttributeType" "IDREF" "Lcom/example/referee/referee/model/AttributeType;" (.ref aIDREF)) (P4 : Sta Z Z.heap "com/example/referee/referee/model/AttributeType" "IDREFS" "Lcom/example/referee/referee/model/AttributeType;" (.ref aIDREFS)) (P5 : Sta Z Z.heap "com/example/referee/referee/model/AttributeType" "ENTITY" "Lcom/example/referee/referee/model/AttributeType;" (.ref aENTITY)) (P6 : Sta Z Z.heap "com/example/referee/referee/model/AttributeType" "ENTITIES" "Lcom/example/referee/referee/model/AttributeType;" (.ref aENTITIES)) (P7 : Sta Z Z.heap "com/example/referee/referee/model/AttributeType" "NMTOKEN" "Lcom/example/referee/referee/model/AttributeType;" (.ref aNMTOKEN)) (P8 : Sta Z Z.heap "com/example/referee/referee/model/AttributeType" "NMTOKENS" "Lcom/example/referee/referee/model/AttributeType;" (.ref aNMTOKENS)) (P9 : Sta Z Z.heap "com/example/referee/referee/model/AttributeType" "NOTATION" "Lcom/example/referee/referee/model/AttributeType;" (.ref aNOTATION)) (P10 : Sta Z Z.heap "com/example/referee/referee/model/AttributeType" "ENUMERATION" "Lcom/example/referee/referee/model/AttributeType;" (.ref aENUMERATION)) (P11 : Exa Z Z.heap aCDATA "com/example/referee/referee/model/AttributeType") (P12 : Exa Z Z.heap aID "com/example/referee/referee/model/AttributeType") (P13 : Exa Z Z.heap aIDREF "com/example/referee/referee/model/AttributeType") (P14 : Exa Z Z.heap aIDREFS "com/example/referee/referee/model/AttributeType") (P15 : Exa Z Z.heap aENTITY "com/example/referee/referee/model/AttributeType") (P16 : Exa Z Z.heap aENTITIES "com/example/referee/referee/model/AttributeType") (P17 : Exa Z Z.heap aNMTOKEN "com/example/referee/referee/model/AttributeType") (P18 : Exa Z Z.heap aNMTOKENS "com/example/referee/referee/model/AttributeType") (P19 : Exa Z Z.heap aNOTATION "com/example/referee/referee/model/AttributeType") (P20 : Exa Z Z.heap aENUMERATION "com/example/referee/referee/model/AttributeType") (P21 : Fld Z Z.heap aCDATA "java/lang/Enum" "ordinal" "I" (.int (0 : Int32))) (P22 : Fld Z Z.heap aID "java/lang/Enum" "ordinal" "I" (.int (1 : Int32))) (P23 : Fld Z Z.heap aIDREF "java/lang/Enum" "ordinal" "I" (.int (2 : Int32))) (P24 : Fld Z Z.heap aIDREFS "java/lang/Enum" "ordinal" "I" (.int (3 : Int32))) (P25 : Fld Z Z.heap aENTITY "java/lang/Enum" "ordinal" "I" (.int (4 : Int32))) (P26 : Fld Z Z.heap aENTITIES "java/lang/Enum" "ordinal" "I" (.int (5 : Int32))) (P27 : Fld Z Z.heap aNMTOKEN "java/lang/Enum" "ordinal" "I" (.int (6 : Int32))) (P28 : Fld Z Z.heap aNMTOKENS "java/lang/Enum" "ordinal" "I" (.int (7 : Int32))) (P29 : Fld Z Z.heap aNOTATION "java/lang/Enum" "ordinal" "I" (.int (8 : Int32))) (P30 : Fld Z Z.heap aENUMERATION "java/lang/Enum" "ordinal" "I" (.int (9 : Int32))) :
    MetFree l x (head1 (Jvm.Cond.code x code maxLocals ret :: ws) room_1) (fun a U => a = #[(.int px)] ∧ Z.Warmed39 U.vm ∧ U.heap = h0) (fun _ _ _ _ _ => True) (fun _ U o U' => ∃ v L, o = .returned v ∧ Q0 Z px aCDATA aID aIDREF aIDREFS aENTITY aENTITIES aNMTOKEN aNMTOKENS aNOTATION aENUMERATION h0 n0 v U'.heap L ∧ FrameEnd U o U' L room_1.cells room_1.slots) := by
  refine MetFree.of_bodySF (plainFor_of_name own_pn1) hisR ?_
  intro p e s m args below meth c s₁ Bd hml0 hP hK
  obtain ⟨rfl, hZ, hh⟩ := hP
  have hx := Bd.exec
  have hby := Bd.bytes
  have hml : c.maxLocals = 4 := hml0
  have hown : s.vm.findClass "com/example/referee/referee/model/AttributeTypeRefersPinLaw" = some m.cls := findClass_of_methodNamed Bd.named
  have hnm := (name_of_methodNamed Bd.named Bd.method).1
  have X0 : Stand p l e room_1 s m #[(.int px)] below meth c s₁ [] 0 0 := Stand.of_body Bd
  have e0 : s₁.heap = h0 := by rw [← hh, Bd.state]; rfl
  have N0 := Fr.nil n0
  have K0 : Keep h0 h0 [] := Keep.refl _ _
  suffices GO : ∀ P : Outcome → State → Prop, (∀ o U', (∃ v L, o = .returned v ∧ Q0 Z px aCDATA aID aIDREF aIDREFS aENTITY aENTITIES aNMTOKEN aNMTOKENS aNOTATION aENUMERATION h0 n0 v U'.heap L ∧ FrameEnd s o U' L room_1.cells room_1.slots) → P o U') → Go p.tables e below P s₁ (mkF m 0 #[.val (.int px), .unset, .unset, .unset] []) by
    obtain ⟨s2, o, st, r⟩ := GO _ (fun _ _ q => q)
    exact ⟨s2, o, castTop (ef_0 m px) st, r⟩
  clear hh
  intro P hP
  show Go p.tables e below P s₁ (mkF m 0 #[.val (.int px), .unset, .unset, .unset] [])
  refine Go.via (fun t k => XS.bipush X0.here hx rfl (hb hby at_0) k) ?_
  show Go p.tables e below P s₁ (mkF m 2 #[.val (.int px), .unset, .unset, .unset] [(.int (10 : Int32))])
  obtain ⟨T1, h1, k1, X1, e1, E1, A1, O1, st1⟩ := newR X0 hx hZ hown (hw _ (List.mem_of_getElem? (i := 0) rfl)) (hw _ (List.mem_of_getElem? (i := 1) rfl)) e0 (g := (mkF m 2 #[.val (.int px), .unset, .unset, .unset] [(.int (10 : Int32))])) rfl (hb hby at_2) rfl (by decide) (cap := 10) (by decide) (by decide) (by decide) (by decide)
  obtain ⟨b1, g1⟩ : ∃ z, z = h0.size := ⟨_, rfl⟩
  rw [← g1] at A1 st1
  refine Go.via st1 ?_
  have g2 : n0 ≤ b1 := Nat.le_trans Z0 (Nat.le_of_eq g1.symm)
  have sz3 : h0.size ≤ b1 := Nat.le_trans K0.1 (Nat.le_of_eq g1.symm)
  have Z4 : n0 ≤ h1.size := Nat.le_trans Z0 E1.1
  have K5 : Keep h0 h1 [] := K0.ext E1
  have O6 : Old Z n0 h1 := O0.ext E1
  have V1 : Arv Z h1 b1 k1 (.object "com/example/referee/referee/model/AttributeType") (10 : Int32) [.null, .null, .null, .null, .null, .null, .null, .null, .null, .null] .null := (Arv.new A1 (by decide)).pad (pad_rep [] .null 10)
  show Go p.tables e below P T1 (mkF m 5 #[.val (.int px), .unset, .unset, .unset] [(.ref b1)])
  refine Go.via (fun t k => XS.dup X1.here hx rfl (hb hby at_5) rfl rfl k) ?_
  show Go p.tables e below P T1 (mkF m 6 #[.val (.int px), .unset, .unset, .unset] [(.ref b1), (.ref b1)])
  refine Go.via (fun t k => XS.iconst X1.here hx rfl (hb hby at_6) k) ?_
  show Go p.tables e below P T1 (mkF m 7 #[.val (.int px), .unset, .unset, .unset] [(.int (0 : Int32)), (.ref b1), (.ref b1)])
  obtain ⟨T7, X7, e7, st7⟩ := getS2 X1 hx hZ hown (host := "") (Or.inl (hw _ (List.mem_of_getElem? (i := 2) rfl))) Via.refl e1 (P1.ext O6.2) (g := (mkF m 7 #[.val (.int px), .unset, .unset, .unset] [(.int (0 : Int32)), (.ref b1), (.ref b1)])) rfl (hb hby at_7)
  refine Go.via st7 ?_
  show Go p.tables e below P T7 (mkF m 10 #[.val (.int px), .unset, .unset, .unset] [(.ref aCDATA), (.int (0 : Int32)), (.ref b1), (.ref b1)])
  obtain ⟨c8, A8, q8, S8, N8, H8, G8⟩ := id V1
  have hin8 : ¬ ((0 : Int32) < 0 ∨ c8.slots.size ≤ ((0 : Int32)).toNatClampNeg) := inb_of S8 ⟨by decide, by decide⟩
  obtain ⟨T8, h8, X8, e8, W8, st8⟩ := stR X7 hx hZ e7 A8 (j := (0 : Int32)) hin8 rfl (Sto.ofV A8 q8 O1 (Ins.self (P11.ext O6.2))) (g := (mkF m 10 #[.val (.int px), .unset, .unset, .unset] [(.ref aCDATA), (.int (0 : Int32)), (.ref b1), (.ref b1)])) rfl rfl (hb hby at_10)
  refine Go.via st8 ?_
  have Z9 : n0 ≤ h8.size := Nat.le_trans Z4 (Nat.le_of_eq W8.size.symm)
  have K10 : Keep h0 h8 [] := K5.wr W8 (Or.inr sz3)
  obtain ⟨lc8, Xh8, N11⟩ := own_hide X8 (Fr.snoc X8 N0 g2)
  clear X8
  have O12 : Old Z n0 h8 := O6.wr W8 g2
  have V8 : Arv Z h8 b1 k1 (.object "com/example/referee/referee/model/AttributeType") (10 : Int32) [(.ref aCDATA), .null, .null, .null, .null, .null, .null, .null, .null, .null] .null := Arv.set A8 q8 S8 N8 H8 G8 rfl W8 0 rfl (Nat.le_of_ble_eq_true rfl)
  show Go p.tables e below P T8 (mkF m 11 #[.val (.int px), .unset, .unset, .unset] [(.ref b1)])
  refine Go.via (fun t k => XS.dup Xh8.here hx rfl (hb hby at_11) rfl rfl k) ?_
  show Go p.tables e below P T8 (mkF m 12 #[.val (.int px), .unset, .unset, .unset] [(.ref b1), (.ref b1)])
  refine Go.via (fun t k => XS.iconst Xh8.here hx rfl (hb hby at_12) k) ?_
  show Go p.tables e below P T8 (mkF m 13 #[.val (.int px), .unset, .unset, .unset] [(.int (1 : Int32)), (.ref b1), (.ref b1)])
  obtain ⟨T13, X13, e13, st13⟩ := getS2 Xh8 hx hZ hown (host := "") (Or.inl (hw _ (List.mem_of_getElem? (i := 6) rfl))) Via.refl e8 (P2.ext O12.2) (g := (mkF m 13 #[.val (.int px), .unset, .unset, .unset] [(.int (1 : Int32)), (.ref b1), (.ref b1)])) rfl (hb hby at_13)
  refine Go.via st13 ?_
  show Go p.tables e below P T13 (mkF m 16 #[.val (.int px), .unset, .unset, .unset] [(.ref aID), (.int (1 : Int32)), (.ref b1), (.ref b1)])
  obtain ⟨c14, A14, q14, S14, N14, H14, G14⟩ := id V8
  have hin14 : ¬ ((1 : Int32) < 0 ∨ c14.slots.size ≤ ((1 : Int32)).toNatClampNeg) := inb_of S14 ⟨by decide, by decide⟩
  obtain ⟨T14, h14, X14, e14, W14, st14⟩ := stR X13 hx hZ e13 A14 (j := (1 : Int32)) hin14 rfl (Sto.ofV A14 q14 O1 (Ins.self (P12.ext O12.2))) (g := (mkF m 16 #[.val (.int px), .unset, .unset, .unset] [(.ref aID), (.int (1 : Int32)), (.ref b1), (.ref b1)])) rfl rfl (hb hby at_16)
  refine Go.via st14 ?_
  have Z15 : n0 ≤ h14.size := Nat.le_trans Z9 (Nat.le_of_eq W14.size.symm)
  have K16 : Keep h0 h14 [] := K10.wr W14 (Or.inr sz3)
  obtain ⟨lc14, Xh14, N17⟩ := own_hide X14 (Fr.snoc X14 N11 g2)
  clear X14
  have O18 : Old Z n0 h14 := O12.wr W14 g2
  have V14 : Arv Z h14 b1 k1 (.object "com/example/referee/referee/model/AttributeType") (10 : Int32) [(.ref aCDATA), (.ref aID), .null, .null, .null, .null, .null, .null, .null, .null] .null := Arv.set A14 q14 S14 N14 H14 G14 rfl W14 1 rfl (Nat.le_of_ble_eq_true rfl)
  show Go p.tables e below P T14 (mkF m 17 #[.val (.int px), .unset, .unset, .unset] [(.ref b1)])
  refine Go.via (fun t k => XS.dup Xh14.here hx rfl (hb hby at_17) rfl rfl k) ?_
  show Go p.tables e below P T14 (mkF m 18 #[.val (.int px), .unset, .unset, .unset] [(.ref b1), (.ref b1)])
  refine Go.via (fun t k => XS.iconst Xh14.here hx rfl (hb hby at_18) k) ?_
  show Go p.tables e below P T14 (mkF m 19 #[.val (.int px), .unset, .unset, .unset] [(.int (2 : Int32)), (.ref b1), (.ref b1)])
  obtain ⟨T19, X19, e19, st19⟩ := getS2 Xh14 hx hZ hown (host := "") (Or.inl (hw _ (List.mem_of_getElem? (i := 8) rfl))) Via.refl e14 (P3.ext O18.2) (g := (mkF m 19 #[.val (.int px), .unset, .unset, .unset] [(.int (2 : Int32)), (.ref b1), (.ref b1)])) rfl (hb hby at_19)
  refine Go.via st19 ?_
  show Go p.tables e below P T19 (mkF m 22 #[.val (.int px), .unset, .unset, .unset] [(.ref aIDREF), (.int (2 : Int32)), (.ref b1), (.ref b1)])
  obtain ⟨c20, A20, q20, S20, N20, H20, G20⟩ := id V14
  have hin20 : ¬ ((2 : Int32) < 0 ∨ c20.slots.size ≤ ((2 : Int32)).toNatClampNeg) := inb_of S20 ⟨by decide, by decide⟩
  obtain ⟨T20, h20, X20, e20, W20, st20⟩ := stR X19 hx hZ e19 A20 (j := (2 : Int32)) hin20 rfl (Sto.ofV A20 q20 O1 (Ins.self (P13.ext O18.2))) (g := (mkF m 22 #[.val (.int px), .unset, .unset, .unset] [(.ref aIDREF), (.int (2 : Int32)), (.ref b1), (.ref b1)])) rfl rfl (hb hby at_22)
  refine Go.via st20 ?_
  have Z21 : n0 ≤ h20.size := Nat.le_trans Z15 (Nat.le_of_eq W20.size.symm)
  have K22 : Keep h0 h20 [] := K16.wr W20 (Or.inr sz3)
  obtain ⟨lc20, Xh20, N23⟩ := own_hide X20 (Fr.snoc X20 N17 g2)
  clear X20
  have O24 : Old Z n0 h20 := O18.wr W20 g2
  have V20 : Arv Z h20 b1 k1 (.object "com/example/referee/referee/model/AttributeType") (10 : Int32) [(.ref aCDATA), (.ref aID), (.ref aIDREF), .null, .null, .null, .null, .null, .null, .null] .null := Arv.set A20 q20 S20 N20 H20 G20 rfl W20 2 rfl (Nat.le_of_ble_eq_true rfl)
  show Go p.tables e below P T20 (mkF m 23 #[.val (.int px), .unset, .unset, .unset] [(.ref b1)])
  refine Go.via (fun t k => XS.dup Xh20.here hx rfl (hb hby at_23) rfl rfl k) ?_
  show Go p.tables e below P T20 (mkF m 24 #[.val (.int px), .unset, .unset, .unset] [(.ref b1), (.ref b1)])
  refine Go.via (fun t k => XS.iconst Xh20.here hx rfl (hb hby at_24) k) ?_
  show Go p.tables e below P T20 (mkF m 25 #[.val (.int px), .unset, .unset, .unset] [(.int (3 : Int32)), (.ref b1), (.ref b1)])
  obtain ⟨T25, X25, e25, st25⟩ := getS2 Xh20 hx hZ hown (host := "") (Or.inl (hw _ (List.mem_of_getElem? (i := 10) rfl))) Via.refl e20 (P4.ext O24.2) (g := (mkF m 25 #[.val (.int px), .unset, .unset, .unset] [(.int (3 : Int32)), (.ref b1), (.ref b1)])) rfl (hb hby at_25)
  refine Go.via st25 ?_
  show Go p.tables e below P T25 (mkF m 28 #[.val (.int px), .unset, .unset, .unset] [(.ref aIDREFS), (.int (3 : Int32)), (.ref b1), (.ref b1)])
  obtain ⟨c26, A26, q26, S26, N26, H26, G26⟩ := id V20
  have hin26 : ¬ ((3 : Int32) < 0 ∨ c26.slots.size ≤ ((3 : Int32)).toNatClampNeg) := inb_of S26 ⟨by decide, by decide⟩
  obtain ⟨T26, h26, X26, e26, W26, st26⟩ := stR X25 hx hZ e25 A26 (j := (3 : Int32)) hin26 rfl (Sto.ofV A26 q26 O1 (Ins.self (P14.ext O24.2))) (g := (mkF m 28 #[.val (.int px), .unset, .unset, .unset] [(.ref aIDREFS), (.int (3 : Int32)), (.ref b1), (.ref b1)])) rfl rfl (hb hby at_28)
  refine Go.via st26 ?_
  have Z27 : n0 ≤ h26.size := Nat.le_trans Z21 (Nat.le_of_eq W26.size.symm)
  have K28 : Keep h0 h26 [] := K22.wr W26 (Or.inr sz3)
  obtain ⟨lc26, Xh26, N29⟩ := own_hide X26 (Fr.snoc X26 N23 g2)
  clear X26
  have O30 : Old Z n0 h26 := O24.wr W26 g2
  have V26 : Arv Z h26 b1 k1 (.object "com/example/referee/referee/model/AttributeType") (10 : Int32) [(.ref aCDATA), (.ref aID), (.ref aIDREF), (.ref aIDREFS), .null, .null, .null, .null, .null, .null] .null := Arv.set A26 q26 S26 N26 H26 G26 rfl W26 3 rfl (Nat.le_of_ble_eq_true rfl)
  show Go p.tables e below P T26 (mkF m 29 #[.val (.int px), .unset, .unset, .unset] [(.ref b1)])
  refine Go.via (fun t k => XS.dup Xh26.here hx rfl (hb hby at_29) rfl rfl k) ?_
  show Go p.tables e below P T26 (mkF m 30 #[.val (.int px), .unset, .unset, .unset] [(.ref b1), (.ref b1)])
  refine Go.via (fun t k => XS.iconst Xh26.here hx rfl (hb hby at_30) k) ?_
  show Go p.tables e below P T26 (mkF m 31 #[.val (.int px), .unset, .unset, .unset] [(.int (4 : Int32)), (.ref b1), (.ref b1)])
  obtain ⟨T31, X31, e31, st31⟩ := getS2 Xh26 hx hZ hown (host := "") (Or.inl (hw _ (List.mem_of_getElem? (i := 12) rfl))) Via.refl e26 (P5.ext O30.2) (g := (mkF m 31 #[.val (.int px), .unset, .unset, .unset] [(.int (4 : Int32)), (.ref b1), (.ref b1)])) rfl (hb hby at_31)
  refine Go.via st31 ?_
  show Go p.tables e below P T31 (mkF m 34 #[.val (.int px), .unset, .unset, .unset] [(.ref aENTITY), (.int (4 : Int32)), (.ref b1), (.ref b1)])
  obtain ⟨c32, A32, q32, S32, N32, H32, G32⟩ := id V26
  have hin32 : ¬ ((4 : Int32) < 0 ∨ c32.slots.size ≤ ((4 : Int32)).toNatClampNeg) := inb_of S32 ⟨by decide, by decide⟩
  obtain ⟨T32, h32, X32, e32, W32, st32⟩ := stR X31 hx hZ e31 A32 (j := (4 : Int32)) hin32 rfl (Sto.ofV A32 q32 O1 (Ins.self (P15.ext O30.2))) (g := (mkF m 34 #[.val (.int px), .unset, .unset, .unset] [(.ref aENTITY), (.int (4 : Int32)), (.ref b1), (.ref b1)])) rfl rfl (hb hby at_34)
  refine Go.via st32 ?_
  have Z33 : n0 ≤ h32.size := Nat.le_trans Z27 (Nat.le_of_eq W32.size.symm)
  have K34 : Keep h0 h32 [] := K28.wr W32 (Or.inr sz3)
  obtain ⟨lc32, Xh32, N35⟩ := own_hide X32 (Fr.snoc X32 N29 g2)
  clear X32
  have O36 : Old Z n0 h32 := O30.wr W32 g2
  have V32 : Arv Z h32 b1 k1 (.object "com/example/referee/referee/model/AttributeType") (10 : Int32) [(.ref aCDATA), (.ref aID), (.ref aIDREF), (.ref aIDREFS), (.ref aENTITY), .null, .null, .null, .null, .null] .null := Arv.set A32 q32 S32 N32 H32 G32 rfl W32 4 rfl (Nat.le_of_ble_eq_true rfl)
  show Go p.tables e below P T32 (mkF m 35 #[.val (.int px), .unset, .unset, .unset] [(.ref b1)])
  refine Go.via (fun t k => XS.dup Xh32.here hx rfl (hb hby at_35) rfl rfl k) ?_
  show Go p.tables e below P T32 (mkF m 36 #[.val (.int px), .unset, .unset, .unset] [(.ref b1), (.ref b1)])
  refine Go.via (fun t k => XS.iconst Xh32.here hx rfl (hb hby at_36) k) ?_
  show Go p.tables e below P T32 (mkF m 37 #[.val (.int px), .unset, .unset, .unset] [(.int (5 : Int32)), (.ref b1), (.ref b1)])
  obtain ⟨T37, X37, e37, st37⟩ := getS2 Xh32 hx hZ hown (host := "") (Or.inl (hw _ (List.mem_of_getElem? (i := 14) rfl))) Via.refl e32 (P6.ext O36.2) (g := (mkF m 37 #[.val (.int px), .unset, .unset, .unset] [(.int (5 : Int32)), (.ref b1), (.ref b1)])) rfl (hb hby at_37)
  refine Go.via st37 ?_
  show Go p.tables e below P T37 (mkF m 40 #[.val (.int px), .unset, .unset, .unset] [(.ref aENTITIES), (.int (5 : Int32)), (.ref b1), (.ref b1)])
  obtain ⟨c38, A38, q38, S38, N38, H38, G38⟩ := id V32
  have hin38 : ¬ ((5 : Int32) < 0 ∨ c38.slots.size ≤ ((5 : Int32)).toNatClampNeg) := inb_of S38 ⟨by decide, by decide⟩
  obtain ⟨T38, h38, X38, e38, W38, st38⟩ := stR X37 hx hZ e37 A38 (j := (5 : Int32)) hin38 rfl (Sto.ofV A38 q38 O1 (Ins.self (P16.ext O36.2))) (g := (mkF m 40 #[.val (.int px), .unset, .unset, .unset] [(.ref aENTITIES), (.int (5 : Int32)), (.ref b1), (.ref b1)])) rfl rfl (hb hby at_40)
  refine Go.via st38 ?_
  have Z39 : n0 ≤ h38.size := Nat.le_trans Z33 (Nat.le_of_eq W38.size.symm)
  have K40 : Keep h0 h38 [] := K34.wr W38 (Or.inr sz3)
  obtain ⟨lc38, Xh38, N41⟩ := own_hide X38 (Fr.snoc X38 N35 g2)
  clear X38
  have O42 : Old Z n0 h38 := O36.wr W38 g2
  have V38 : Arv Z h38 b1 k1 (.object "com/example/referee/referee/model/AttributeType") (10 : Int32) [(.ref aCDATA), (.ref aID), (.ref aIDREF), (.ref aIDREFS), (.ref aENTITY), (.ref aENTITIES), .null, .null, .null, .null] .null := Arv.set A38 q38 S38 N38 H38 G38 rfl W38 5 rfl (Nat.le_of_ble_eq_true rfl)
  show Go p.tables e below P T38 (mkF m 41 #[.val (.int px), .unset, .unset, .unset] [(.ref b1)])
  refine Go.via (fun t k => XS.dup Xh38.here hx rfl (hb hby at_41) rfl rfl k) ?_
  show Go p.tables e below P T38 (mkF m 42 #[.val (.int px), .unset, .unset, .unset] [(.ref b1), (.ref b1)])
  refine Go.via (fun t k => XS.bipush Xh38.here hx rfl (hb hby at_42) k) ?_
  show Go p.tables e below P T38 (mkF m 44 #[.val (.int px), .unset, .unset, .unset] [(.int (6 : Int32)), (.ref b1), (.ref b1)])
  obtain ⟨T43, X43, e43, st43⟩ := getS2 Xh38 hx hZ hown (host := "") (Or.inl (hw _ (List.mem_of_getElem? (i := 16) rfl))) Via.refl e38 (P7.ext O42.2) (g := (mkF m 44 #[.val (.int px), .unset, .unset, .unset] [(.int (6 : Int32)), (.ref b1), (.ref b1)])) rfl (hb hby at_44)
  refine Go.via st43 ?_
  show Go p.tables e below P T43 (mkF m 47 #[.val (.int px), .unset, .unset, .unset] [(.ref aNMTOKEN), (.int (6 : Int32)), (.ref b1), (.ref b1)])
  obtain ⟨c44, A44, q44, S44, N44, H44, G44⟩ := id V38
  have hin44 : ¬ ((6 : Int32) < 0 ∨ c44.slots.size ≤ ((6 : Int32)).toNatClampNeg) := inb_of S44 ⟨by decide, by decide⟩
  obtain ⟨T44, h44, X44, e44, W44, st44⟩ := stR X43 hx hZ e43 A44 (j := (6 : Int32)) hin44 rfl (Sto.ofV A44 q44 O1 (Ins.self (P17.ext O42.2))) (g := (mkF m 47 #[.val (.int px), .unset, .unset, .unset] [(.ref aNMTOKEN), (.int (6 : Int32)), (.ref b1), (.ref b1)])) rfl rfl (hb hby at_47)
  refine Go.via st44 ?_
  have Z45 : n0 ≤ h44.size := Nat.le_trans Z39 (Nat.le_of_eq W44.size.symm)
  have K46 : Keep h0 h44 [] := K40.wr W44 (Or.inr sz3)
  obtain ⟨lc44, Xh44, N47⟩ := own_hide X44 (Fr.snoc X44 N41 g2)
  clear X44
  have O48 : Old Z n0 h44 := O42.wr W44 g2
  have V44 : Arv Z h44 b1 k1 (.object "com/example/referee/referee/model/AttributeType") (10 : Int32) [(.ref aCDATA), (.ref aID), (.ref aIDREF), (.ref aIDREFS), (.ref aENTITY), (.ref aENTITIES), (.ref aNMTOKEN), .null, .null, .null] .null := Arv.set A44 q44 S44 N44 H44 G44 rfl W44 6 rfl (Nat.le_of_ble_eq_true rfl)
  show Go p.tables e below P T44 (mkF m 48 #[.val (.int px), .unset, .unset, .unset] [(.ref b1)])
  refine Go.via (fun t k => XS.dup Xh44.here hx rfl (hb hby at_48) rfl rfl k) ?_
  show Go p.tables e below P T44 (mkF m 49 #[.val (.int px), .unset, .unset, .unset] [(.ref b1), (.ref b1)])
  refine Go.via (fun t k => XS.bipush Xh44.here hx rfl (hb hby at_49) k) ?_
  show Go p.tables e below P T44 (mkF m 51 #[.val (.int px), .unset, .unset, .unset] [(.int (7 : Int32)), (.ref b1), (.ref b1)])
  obtain ⟨T49, X49, e49, st49⟩ := getS2 Xh44 hx hZ hown (host := "") (Or.inl (hw _ (List.mem_of_getElem? (i := 18) rfl))) Via.refl e44 (P8.ext O48.2) (g := (mkF m 51 #[.val (.int px), .unset, .unset, .unset] [(.int (7 : Int32)), (.ref b1), (.ref b1)])) rfl (hb hby at_51)
  refine Go.via st49 ?_
  show Go p.tables e below P T49 (mkF m 54 #[.val (.int px), .unset, .unset, .unset] [(.ref aNMTOKENS), (.int (7 : Int32)), (.ref b1), (.ref b1)])
  obtain ⟨c50, A50, q50, S50, N50, H50, G50⟩ := id V44
  have hin50 : ¬ ((7 : Int32) < 0 ∨ c50.slots.size ≤ ((7 : Int32)).toNatClampNeg) := inb_of S50 ⟨by decide, by decide⟩
  obtain ⟨T50, h50, X50, e50, W50, st50⟩ := stR X49 hx hZ e49 A50 (j := (7 : Int32)) hin50 rfl (Sto.ofV A50 q50 O1 (Ins.self (P18.ext O48.2))) (g := (mkF m 54 #[.val (.int px), .unset, .unset, .unset] [(.ref aNMTOKENS), (.int (7 : Int32)), (.ref b1), (.ref b1)])) rfl rfl (hb hby at_54)
  refine Go.via st50 ?_
  have Z51 : n0 ≤ h50.size := Nat.le_trans Z45 (Nat.le_of_eq W50.size.symm)
  have K52 : Keep h0 h50 [] := K46.wr W50 (Or.inr sz3)
  obtain ⟨lc50, Xh50, N53⟩ := own_hide X50 (Fr.snoc X50 N47 g2)
  clear X50
  have O54 : Old Z n0 h50 := O48.wr W50 g2
  have V50 : Arv Z h50 b1 k1 (.object "com/example/referee/referee/model/AttributeType") (10 : Int32) [(.ref aCDATA), (.ref aID), (.ref aIDREF), (.ref aIDREFS), (.ref aENTITY), (.ref aENTITIES), (.ref aNMTOKEN), (.ref aNMTOKENS), .null, .null] .null := Arv.set A50 q50 S50 N50 H50 G50 rfl W50 7 rfl (Nat.le_of_ble_eq_true rfl)
  show Go p.tables e below P T50 (mkF m 55 #[.val (.int px), .unset, .unset, .unset] [(.ref b1)])
  refine Go.via (fun t k => XS.dup Xh50.here hx rfl (hb hby at_55) rfl rfl k) ?_
  show Go p.tables e below P T50 (mkF m 56 #[.val (.int px), .unset, .unset, .unset] [(.ref b1), (.ref b1)])
  refine Go.via (fun t k => XS.bipush Xh50.here hx rfl (hb hby at_56) k) ?_
  show Go p.tables e below P T50 (mkF m 58 #[.val (.int px), .unset, .unset, .unset] [(.int (8 : Int32)), (.ref b1), (.ref b1)])
  obtain ⟨T55, X55, e55, st55⟩ := getS2 Xh50 hx hZ hown (host := "") (Or.inl (hw _ (List.mem_of_getElem? (i := 20) rfl))) Via.refl e50 (P9.ext O54.2) (g := (mkF m 58 #[.val (.int px), .unset, .unset, .unset] [(.int (8 : Int32)), (.ref b1), (.ref b1)])) rfl (hb hby at_58)
  refine Go.via st55 ?_
  show Go p.tables e below P T55 (mkF m 61 #[.val (.int px), .unset, .unset, .unset] [(.ref aNOTATION), (.int (8 : Int32)), (.ref b1), (.ref b1)])
  obtain ⟨c56, A56, q56, S56, N56, H56, G56⟩ := id V50
  have hin56 : ¬ ((8 : Int32) < 0 ∨ c56.slots.size ≤ ((8 : Int32)).toNatClampNeg) := inb_of S56 ⟨by decide, by decide⟩
  obtain ⟨T56, h56, X56, e56, W56, st56⟩ := stR X55 hx hZ e55 A56 (j := (8 : Int32)) hin56 rfl (Sto.ofV A56 q56 O1 (Ins.self (P19.ext O54.2))) (g := (mkF m 61 #[.val (.int px), .unset, .unset, .unset] [(.ref aNOTATION), (.int (8 : Int32)), (.ref b1), (.ref b1)])) rfl rfl (hb hby at_61)
  refine Go.via st56 ?_
  have Z57 : n0 ≤ h56.size := Nat.le_trans Z51 (Nat.le_of_eq W56.size.symm)
  have K58 : Keep h0 h56 [] := K52.wr W56 (Or.inr sz3)
  obtain ⟨lc56, Xh56, N59⟩ := own_hide X56 (Fr.snoc X56 N53 g2)
  clear X56
  have O60 : Old Z n0 h56 := O54.wr W56 g2
  have V56 : Arv Z h56 b1 k1 (.object "com/example/referee/referee/model/AttributeType") (10 : Int32) [(.ref aCDATA), (.ref aID), (.ref aIDREF), (.ref aIDREFS), (.ref aENTITY), (.ref aENTITIES), (.ref aNMTOKEN), (.ref aNMTOKENS), (.ref aNOTATION), .null] .null := Arv.set A56 q56 S56 N56 H56 G56 rfl W56 8 rfl (Nat.le_of_ble_eq_true rfl)
  show Go p.tables e below P T56 (mkF m 62 #[.val (.int px), .unset, .unset, .unset] [(.ref b1)])
  refine Go.via (fun t k => XS.dup Xh56.here hx rfl (hb hby at_62) rfl rfl k) ?_
  show Go p.tables e below P T56 (mkF m 63 #[.val (.int px), .unset, .unset, .unset] [(.ref b1), (.ref b1)])
  refine Go.via (fun t k => XS.bipush Xh56.here hx rfl (hb hby at_63) k) ?_
  show Go p.tables e below P T56 (mkF m 65 #[.val (.int px), .unset, .unset, .unset] [(.int (9 : Int32)), (.ref b1), (.ref b1)])
  obtain ⟨T61, X61, e61, st61⟩ := getS2 Xh56 hx hZ hown (host := "") (Or.inl (hw _ (List.mem_of_getElem? (i := 22) rfl))) Via.refl e56 (P10.ext O60.2) (g := (mkF m 65 #[.val (.int px), .unset, .unset, .unset] [(.int (9 : Int32)), (.ref b1), (.ref b1)])) rfl (hb hby at_65)
  refine Go.via st61 ?_
  show Go p.tables e below P T61 (mkF m 68 #[.val (.int px), .unset, .unset, .unset] [(.ref aENUMERATION), (.int (9 : Int32)), (.ref b1), (.ref b1)])
  obtain ⟨c62, A62, q62, S62, N62, H62, G62⟩ := id V56
  have hin62 : ¬ ((9 : Int32) < 0 ∨ c62.slots.size ≤ ((9 : Int32)).toNatClampNeg) := inb_of S62 ⟨by decide, by decide⟩
  obtain ⟨T62, h62, X62, e62, W62, st62⟩ := stR X61 hx hZ e61 A62 (j := (9 : Int32)) hin62 rfl (Sto.ofV A62 q62 O1 (Ins.self (P20.ext O60.2))) (g := (mkF m 68 #[.val (.int px), .unset, .unset, .unset] [(.ref aENUMERATION), (.int (9 : Int32)), (.ref b1), (.ref b1)])) rfl rfl (hb hby at_68)
  refine Go.via st62 ?_
  have Z63 : n0 ≤ h62.size := Nat.le_trans Z57 (Nat.le_of_eq W62.size.symm)
  have K64 : Keep h0 h62 [] := K58.wr W62 (Or.inr sz3)
  obtain ⟨lc62, Xh62, N65⟩ := own_hide X62 (Fr.snoc X62 N59 g2)
  clear X62
  have O66 : Old Z n0 h62 := O60.wr W62 g2
  have V62 : Arv Z h62 b1 k1 (.object "com/example/referee/referee/model/AttributeType") (10 : Int32) [(.ref aCDATA), (.ref aID), (.ref aIDREF), (.ref aIDREFS), (.ref aENTITY), (.ref aENTITIES), (.ref aNMTOKEN), (.ref aNMTOKENS), (.ref aNOTATION), (.ref aENUMERATION)] .null := Arv.set A62 q62 S62 N62 H62 G62 rfl W62 9 rfl (Nat.le_of_ble_eq_true rfl)
  show Go p.tables e below P T62 (mkF m 69 #[.val (.int px), .unset, .unset, .unset] [(.ref b1)])
  refine Go.via (fun t k => XS.astoreN Xh62.here hx rfl (hb hby at_69) rfl rfl (l' := #[.val (.int px), .val (.ref b1), .unset, .unset]) rfl k) ?_
  show Go p.tables e below P T62 (mkF m 70 #[.val (.int px), .val (.ref b1), .unset, .unset] [])
  refine Go.via (fun t k => XS.bipush Xh62.here hx rfl (hb hby at_70) k) ?_
  show Go p.tables e below P T62 (mkF m 72 #[.val (.int px), .val (.ref b1), .unset, .unset] [(.int (10 : Int32))])
  obtain ⟨T67, h67, k67, X67, e67, E67, A67, st67⟩ := newP Xh62 hx hZ (hw _ (List.mem_of_getElem? (i := 24) rfl)) e62 (g := (mkF m 72 #[.val (.int px), .val (.ref b1), .unset, .unset] [(.int (10 : Int32))])) rfl (hb hby at_72) rfl (by decide) (cap := 10) (by decide) (by decide) (by decide) (by decide)
  obtain ⟨b67, g67⟩ : ∃ z, z = h62.size := ⟨_, rfl⟩
  rw [← g67] at A67 st67
  refine Go.via st67 ?_
  have ne68 : b1 ≠ b67 := Nat.ne_of_lt (Nat.lt_of_lt_of_le V62.lt (Nat.le_of_eq g67.symm))
  have g69 : n0 ≤ b67 := Nat.le_trans Z63 (Nat.le_of_eq g67.symm)
  have sz70 : h0.size ≤ b67 := Nat.le_trans K64.1 (Nat.le_of_eq g67.symm)
  have Z71 : n0 ≤ h67.size := Nat.le_trans Z63 E67.1
  have K72 : Keep h0 h67 [] := K64.ext E67
  have O73 : Old Z n0 h67 := O66.ext E67
  have V67 : Arv Z h67 b67 k67 .boolean (10 : Int32) [(.int (0 : Int32)), (.int (0 : Int32)), (.int (0 : Int32)), (.int (0 : Int32)), (.int (0 : Int32)), (.int (0 : Int32)), (.int (0 : Int32)), (.int (0 : Int32)), (.int (0 : Int32)), (.int (0 : Int32))] (.int (0 : Int32)) := (Arv.new A67 (by decide)).pad (pad_rep [] (.int (0 : Int32)) 10)
  show Go p.tables e below P T67 (mkF m 74 #[.val (.int px), .val (.ref b1), .unset, .unset] [(.ref b67)])
  refine Go.via (fun t k => XS.dup X67.here hx rfl (hb hby at_74) rfl rfl k) ?_
  show Go p.tables e below P T67 (mkF m 75 #[.val (.int px), .val (.ref b1), .unset, .unset] [(.ref b67), (.ref b67)])
  refine Go.via (fun t k => XS.iconst X67.here hx rfl (hb hby at_75) k) ?_
  show Go p.tables e below P T67 (mkF m 76 #[.val (.int px), .val (.ref b1), .unset, .unset] [(.int (0 : Int32)), (.ref b67), (.ref b67)])
  refine Go.via (fun t k => XS.iconst X67.here hx rfl (hb hby at_76) k) ?_
  show Go p.tables e below P T67 (mkF m 77 #[.val (.int px), .val (.ref b1), .unset, .unset] [(.int (0 : Int32)), (.int (0 : Int32)), (.ref b67), (.ref b67)])
  have F74 : Arv Z h67 b1 k1 (.object "com/example/referee/referee/model/AttributeType") (10 : Int32) [(.ref aCDATA), (.ref aID), (.ref aIDREF), (.ref aIDREFS), (.ref aENTITY), (.ref aENTITIES), (.ref aNMTOKEN), (.ref aNMTOKENS), (.ref aNOTATION), (.ref aENUMERATION)] .null := (V62.ext E67)
  obtain ⟨c75, A75, q75, S75, N75, H75, G75⟩ := id V67
  have hin75 : ¬ ((0 : Int32) < 0 ∨ c75.slots.size ≤ ((0 : Int32)).toNatClampNeg) := inb_of S75 ⟨by decide, by decide⟩
  obtain ⟨T75, h75, X75, e75, W75, st75⟩ := stZ X67 hx hZ e67 A75 (j := (0 : Int32)) hin75 (g := (mkF m 77 #[.val (.int px), .val (.ref b1), .unset, .unset] [(.int (0 : Int32)), (.int (0 : Int32)), (.ref b67), (.ref b67)])) rfl rfl (hb hby at_77)
  refine Go.via st75 ?_
  have Z76 : n0 ≤ h75.size := Nat.le_trans Z71 (Nat.le_of_eq W75.size.symm)
  have K77 : Keep h0 h75 [] := K72.wr W75 (Or.inr sz70)
  obtain ⟨lc75, Xh75, N78⟩ := own_hide X75 (Fr.snoc X75 N65 g69)
  clear X75
  have O79 : Old Z n0 h75 := O73.wr W75 g69
  have V75 : Arv Z h75 b67 k67 .boolean (10 : Int32) [(.int (nar .boolean (0 : Int32))), (.int (0 : Int32)), (.int (0 : Int32)), (.int (0 : Int32)), (.int (0 : Int32)), (.int (0 : Int32)), (.int (0 : Int32)), (.int (0 : Int32)), (.int (0 : Int32)), (.int (0 : Int32))] (.int (0 : Int32)) := Arv.set A75 q75 S75 N75 H75 G75 (fits_nar_bool _) W75 0 rfl (Nat.le_of_ble_eq_true rfl)
  show Go p.tables e below P T75 (mkF m 78 #[.val (.int px), .val (.ref b1), .unset, .unset] [(.ref b67)])
  refine Go.via (fun t k => XS.dup Xh75.here hx rfl (hb hby at_78) rfl rfl k) ?_
  show Go p.tables e below P T75 (mkF m 79 #[.val (.int px), .val (.ref b1), .unset, .unset] [(.ref b67), (.ref b67)])
  refine Go.via (fun t k => XS.iconst Xh75.here hx rfl (hb hby at_79) k) ?_
  show Go p.tables e below P T75 (mkF m 80 #[.val (.int px), .val (.ref b1), .unset, .unset] [(.int (1 : Int32)), (.ref b67), (.ref b67)])
  refine Go.via (fun t k => XS.iconst Xh75.here hx rfl (hb hby at_80) k) ?_
  show Go p.tables e below P T75 (mkF m 81 #[.val (.int px), .val (.ref b1), .unset, .unset] [(.int (0 : Int32)), (.int (1 : Int32)), (.ref b67), (.ref b67)])
  have F80 : Arv Z h75 b1 k1 (.object "com/example/referee/referee/model/AttributeType") (10 : Int32) [(.ref aCDATA), (.ref aID), (.ref aIDREF), (.ref aIDREFS), (.ref aENTITY), (.ref aENTITIES), (.ref aNMTOKEN), (.ref aNMTOKENS), (.ref aNOTATION), (.ref aENUMERATION)] .null := (F74.other W75 ne68)
  obtain ⟨c81, A81, q81, S81, N81, H81, G81⟩ := id V75
  have hin81 : ¬ ((1 : Int32) < 0 ∨ c81.slots.size ≤ ((1 : Int32)).toNatClampNeg) := inb_of S81 ⟨by decide, by decide⟩
  obtain ⟨T81, h81, X81, e81, W81, st81⟩ := stZ Xh75 hx hZ e75 A81 (j := (1 : Int32)) hin81 (g := (mkF m 81 #[.val (.int px), .val (.ref b1), .unset, .unset] [(.int (0 : Int32)), (.int (1 : Int32)), (.ref b67), (.ref b67)])) rfl rfl (hb hby at_81)
  refine Go.via st81 ?_
  have Z82 : n0 ≤ h81.size := Nat.le_trans Z76 (Nat.le_of_eq W81.size.symm)
  have K83 : Keep h0 h81 [] := K77.wr W81 (Or.inr sz70)
  obtain ⟨lc81, Xh81, N84⟩ := own_hide X81 (Fr.snoc X81 N78 g69)
  clear X81
  have O85 : Old Z n0 h81 := O79.wr W81 g69
  have V81 : Arv Z h81 b67 k67 .boolean (10 : Int32) [(.int (nar .boolean (0 : Int32))), (.int (nar .boolean (0 : Int32))), (.int (0 : Int32)), (.int (0 : Int32)), (.int (0 : Int32)), (.int (0 : Int32)), (.int (0 : Int32)), (.int (0 : Int32)), (.int (0 : Int32)), (.int (0 : Int32))] (.int (0 : Int32)) := Arv.set A81 q81 S81 N81 H81 G81 (fits_nar_bool _) W81 1 rfl (Nat.le_of_ble_eq_true rfl)
  show Go p.tables e below P T81 (mkF m 82 #[.val (.int px), .val (.ref b1), .unset, .unset] [(.ref b67)])
  refine Go.via (fun t k => XS.dup Xh81.here hx rfl (hb hby at_82) rfl rfl k) ?_
  show Go p.tables e below P T81 (mkF m 83 #[.val (.int px), .val (.ref b1), .unset, .unset] [(.ref b67), (.ref b67)])
  refine Go.via (fun t k => XS.iconst Xh81.here hx rfl (hb hby at_83) k) ?_
  show Go p.tables e below P T81 (mkF m 84 #[.val (.int px), .val (.ref b1), .unset, .unset] [(.int (2 : Int32)), (.ref b67), (.ref b67)])
  refine Go.via (fun t k => XS.iconst Xh81.here hx rfl (hb hby at_84) k) ?_
  show Go p.tables e below P T81 (mkF m 85 #[.val (.int px), .val (.ref b1), .unset, .unset] [(.int (1 : Int32)), (.int (2 : Int32)), (.ref b67), (.ref b67)])
  have F86 : Arv Z h81 b1 k1 (.object "com/example/referee/referee/model/AttributeType") (10 : Int32) [(.ref aCDATA), (.ref aID), (.ref aIDREF), (.ref aIDREFS), (.ref aENTITY), (.ref aENTITIES), (.ref aNMTOKEN), (.ref aNMTOKENS), (.ref aNOTATION), (.ref aENUMERATION)] .null := (F80.other W81 ne68)
  obtain ⟨c87, A87, q87, S87, N87, H87, G87⟩ := id V81
  have hin87 : ¬ ((2 : Int32) < 0 ∨ c87.slots.size ≤ ((2 : Int32)).toNatClampNeg) := inb_of S87 ⟨by decide, by decide⟩
  obtain ⟨T87, h87, X87, e87, W87, st87⟩ := stZ Xh81 hx hZ e81 A87 (j := (2 : Int32)) hin87 (g := (mkF m 85 #[.val (.int px), .val (.ref b1), .unset, .unset] [(.int (1 : Int32)), (.int (2 : Int32)), (.ref b67), (.ref b67)])) rfl rfl (hb hby at_85)
  refine Go.via st87 ?_
  have Z88 : n0 ≤ h87.size := Nat.le_trans Z82 (Nat.le_of_eq W87.size.symm)
  have K89 : Keep h0 h87 [] := K83.wr W87 (Or.inr sz70)
  obtain ⟨lc87, Xh87, N90⟩ := own_hide X87 (Fr.snoc X87 N84 g69)
  clear X87
  have O91 : Old Z n0 h87 := O85.wr W87 g69
  have V87 : Arv Z h87 b67 k67 .boolean (10 : Int32) [(.int (nar .boolean (0 : Int32))), (.int (nar .boolean (0 : Int32))), (.int (nar .boolean (1 : Int32))), (.int (0 : Int32)), (.int (0 : Int32)), (.int (0 : Int32)), (.int (0 : Int32)), (.int (0 : Int32)), (.int (0 : Int32)), (.int (0 : Int32))] (.int (0 : Int32)) := Arv.set A87 q87 S87 N87 H87 G87 (fits_nar_bool _) W87 2 rfl (Nat.le_of_ble_eq_true rfl)
  show Go p.tables e below P T87 (mkF m 86 #[.val (.int px), .val (.ref b1), .unset, .unset] [(.ref b67)])
  refine Go.via (fun t k => XS.dup Xh87.here hx rfl (hb hby at_86) rfl rfl k) ?_
  show Go p.tables e below P T87 (mkF m 87 #[.val (.int px), .val (.ref b1), .unset, .unset] [(.ref b67), (.ref b67)])
  refine Go.via (fun t k => XS.iconst Xh87.here hx rfl (hb hby at_87) k) ?_
  show Go p.tables e below P T87 (mkF m 88 #[.val (.int px), .val (.ref b1), .unset, .unset] [(.int (3 : Int32)), (.ref b67), (.ref b67)])
  refine Go.via (fun t k => XS.iconst Xh87.here hx rfl (hb hby at_88) k) ?_
  show Go p.tables e below P T87 (mkF m 89 #[.val (.int px), .val (.ref b1), .unset, .unset] [(.int (1 : Int32)), (.int (3 : Int32)), (.ref b67), (.ref b67)])
  have F92 : Arv Z h87 b1 k1 (.object "com/example/referee/referee/model/AttributeType") (10 : Int32) [(.ref aCDATA), (.ref aID), (.ref aIDREF), (.ref aIDREFS), (.ref aENTITY), (.ref aENTITIES), (.ref aNMTOKEN), (.ref aNMTOKENS), (.ref aNOTATION), (.ref aENUMERATION)] .null := (F86.other W87 ne68)
  obtain ⟨c93, A93, q93, S93, N93, H93, G93⟩ := id V87
  have hin93 : ¬ ((3 : Int32) < 0 ∨ c93.slots.size ≤ ((3 : Int32)).toNatClampNeg) := inb_of S93 ⟨by decide, by decide⟩
  obtain ⟨T93, h93, X93, e93, W93, st93⟩ := stZ Xh87 hx hZ e87 A93 (j := (3 : Int32)) hin93 (g := (mkF m 89 #[.val (.int px), .val (.ref b1), .unset, .unset] [(.int (1 : Int32)), (.int (3 : Int32)), (.ref b67), (.ref b67)])) rfl rfl (hb hby at_89)
  refine Go.via st93 ?_
  have Z94 : n0 ≤ h93.size := Nat.le_trans Z88 (Nat.le_of_eq W93.size.symm)
  have K95 : Keep h0 h93 [] := K89.wr W93 (Or.inr sz70)
  obtain ⟨lc93, Xh93, N96⟩ := own_hide X93 (Fr.snoc X93 N90 g69)
  clear X93
  have O97 : Old Z n0 h93 := O91.wr W93 g69
  have V93 : Arv Z h93 b67 k67 .boolean (10 : Int32) [(.int (nar .boolean (0 : Int32))), (.int (nar .boolean (0 : Int32))), (.int (nar .boolean (1 : Int32))), (.int (nar .boolean (1 : Int32))), (.int (0 : Int32)), (.int (0 : Int32)), (.int (0 : Int32)), (.int (0 : Int32)), (.int (0 : Int32)), (.int (0 : Int32))] (.int (0 : Int32)) := Arv.set A93 q93 S93 N93 H93 G93 (fits_nar_bool _) W93 3 rfl (Nat.le_of_ble_eq_true rfl)
  show Go p.tables e below P T93 (mkF m 90 #[.val (.int px), .val (.ref b1), .unset, .unset] [(.ref b67)])
  refine Go.via (fun t k => XS.dup Xh93.here hx rfl (hb hby at_90) rfl rfl k) ?_
  show Go p.tables e below P T93 (mkF m 91 #[.val (.int px), .val (.ref b1), .unset, .unset] [(.ref b67), (.ref b67)])
  refine Go.via (fun t k => XS.iconst Xh93.here hx rfl (hb hby at_91) k) ?_
  show Go p.tables e below P T93 (mkF m 92 #[.val (.int px), .val (.ref b1), .unset, .unset] [(.int (4 : Int32)), (.ref b67), (.ref b67)])
  refine Go.via (fun t k => XS.iconst Xh93.here hx rfl (hb hby at_92) k) ?_
  show Go p.tables e below P T93 (mkF m 93 #[.val (.int px), .val (.ref b1), .unset, .unset] [(.int (1 : Int32)), (.int (4 : Int32)), (.ref b67), (.ref b67)])
  have F98 : Arv Z h93 b1 k1 (.object "com/example/referee/referee/model/AttributeType") (10 : Int32) [(.ref aCDATA), (.ref aID), (.ref aIDREF), (.ref aIDREFS), (.ref aENTITY), (.ref aENTITIES), (.ref aNMTOKEN), (.ref aNMTOKENS), (.ref aNOTATION), (.ref aENUMERATION)] .null := (F92.other W93 ne68)
  obtain ⟨c99, A99, q99, S99, N99, H99, G99⟩ := id V93
  have hin99 : ¬ ((4 : Int32) < 0 ∨ c99.slots.size ≤ ((4 : Int32)).toNatClampNeg) := inb_of S99 ⟨by decide, by decide⟩
  obtain ⟨T99, h99, X99, e99, W99, st99⟩ := stZ Xh93 hx hZ e93 A99 (j := (4 : Int32)) hin99 (g := (mkF m 93 #[.val (.int px), .val (.ref b1), .unset, .unset] [(.int (1 : Int32)), (.int (4 : Int32)), (.ref b67), (.ref b67)])) rfl rfl (hb hby at_93)
  refine Go.via st99 ?_
  have Z100 : n0 ≤ h99.size := Nat.le_trans Z94 (Nat.le_of_eq W99.size.symm)
  have K101 : Keep h0 h99 [] := K95.wr W99 (Or.inr sz70)
  obtain ⟨lc99, Xh99, N102⟩ := own_hide X99 (Fr.snoc X99 N96 g69)
  clear X99
  have O103 : Old Z n0 h99 := O97.wr W99 g69
  have V99 : Arv Z h99 b67 k67 .boolean (10 : Int32) [(.int (nar .boolean (0 : Int32))), (.int (nar .boolean (0 : Int32))), (.int (nar .boolean (1 : Int32))), (.int (nar .boolean (1 : Int32))), (.int (nar .boolean (1 : Int32))), (.int (0 : Int32)), (.int (0 : Int32)), (.int (0 : Int32)), (.int (0 : Int32)), (.int (0 : Int32))] (.int (0 : Int32)) := Arv.set A99 q99 S99 N99 H99 G99 (fits_nar_bool _) W99 4 rfl (Nat.le_of_ble_eq_true rfl)
  show Go p.tables e below P T99 (mkF m 94 #[.val (.int px), .val (.ref b1), .unset, .unset] [(.ref b67)])
  refine Go.via (fun t k => XS.dup Xh99.here hx rfl (hb hby at_94) rfl rfl k) ?_
  show Go p.tables e below P T99 (mkF m 95 #[.val (.int px), .val (.ref b1), .unset, .unset] [(.ref b67), (.ref b67)])
  refine Go.via (fun t k => XS.iconst Xh99.here hx rfl (hb hby at_95) k) ?_
  show Go p.tables e below P T99 (mkF m 96 #[.val (.int px), .val (.ref b1), .unset, .unset] [(.int (5 : Int32)), (.ref b67), (.ref b67)])
  refine Go.via (fun t k => XS.iconst Xh99.here hx rfl (hb hby at_96) k) ?_
  show Go p.tables e below P T99 (mkF m 97 #[.val (.int px), .val (.ref b1), .unset, .unset] [(.int (1 : Int32)), (.int (5 : Int32)), (.ref b67), (.ref b67)])
  have F104 : Arv Z h99 b1 k1 (.object "com/example/referee/referee/model/AttributeType") (10 : Int32) [(.ref aCDATA), (.ref aID), (.ref aIDREF), (.ref aIDREFS), (.ref aENTITY), (.ref aENTITIES), (.ref aNMTOKEN), (.ref aNMTOKENS), (.ref aNOTATION), (.ref aENUMERATION)] .null := (F98.other W99 ne68)
  obtain ⟨c105, A105, q105, S105, N105, H105, G105⟩ := id V99
  have hin105 : ¬ ((5 : Int32) < 0 ∨ c105.slots.size ≤ ((5 : Int32)).toNatClampNeg) := inb_of S105 ⟨by decide, by decide⟩
  obtain ⟨T105, h105, X105, e105, W105, st105⟩ := stZ Xh99 hx hZ e99 A105 (j := (5 : Int32)) hin105 (g := (mkF m 97 #[.val (.int px), .val (.ref b1), .unset, .unset] [(.int (1 : Int32)), (.int (5 : Int32)), (.ref b67), (.ref b67)])) rfl rfl (hb hby at_97)
  refine Go.via st105 ?_
  have Z106 : n0 ≤ h105.size := Nat.le_trans Z100 (Nat.le_of_eq W105.size.symm)
  have K107 : Keep h0 h105 [] := K101.wr W105 (Or.inr sz70)
  obtain ⟨lc105, Xh105, N108⟩ := own_hide X105 (Fr.snoc X105 N102 g69)
  clear X105
  have O109 : Old Z n0 h105 := O103.wr W105 g69
  have V105 : Arv Z h105 b67 k67 .boolean (10 : Int32) [(.int (nar .boolean (0 : Int32))), (.int (nar .boolean (0 : Int32))), (.int (nar .boolean (1 : Int32))), (.int (nar .boolean (1 : Int32))), (.int (nar .boolean (1 : Int32))), (.int (nar .boolean (1 : Int32))), (.int (0 : Int32)), (.int (0 : Int32)), (.int (0 : Int32)), (.int (0 : Int32))] (.int (0 : Int32)) := Arv.set A105 q105 S105 N105 H105 G105 (fits_nar_bool _) W105 5 rfl (Nat.le_of_ble_eq_true rfl)
  show Go p.tables e below P T105 (mkF m 98 #[.val (.int px), .val (.ref b1), .unset, .unset] [(.ref b67)])
  refine Go.via (fun t k => XS.dup Xh105.here hx rfl (hb hby at_98) rfl rfl k) ?_
  show Go p.tables e below P T105 (mkF m 99 #[.val (.int px), .val (.ref b1), .unset, .unset] [(.ref b67), (.ref b67)])
  refine Go.via (fun t k => XS.bipush Xh105.here hx rfl (hb hby at_99) k) ?_
  show Go p.tables e below P T105 (mkF m 101 #[.val (.int px), .val (.ref b1), .unset, .unset] [(.int (6 : Int32)), (.ref b67), (.ref b67)])
  refine Go.via (fun t k => XS.iconst Xh105.here hx rfl (hb hby at_101) k) ?_
  show Go p.tables e below P T105 (mkF m 102 #[.val (.int px), .val (.ref b1), .unset, .unset] [(.int (0 : Int32)), (.int (6 : Int32)), (.ref b67), (.ref b67)])
  have F110 : Arv Z h105 b1 k1 (.object "com/example/referee/referee/model/AttributeType") (10 : Int32) [(.ref aCDATA), (.ref aID), (.ref aIDREF), (.ref aIDREFS), (.ref aENTITY), (.ref aENTITIES), (.ref aNMTOKEN), (.ref aNMTOKENS), (.ref aNOTATION), (.ref aENUMERATION)] .null := (F104.other W105 ne68)
  obtain ⟨c111, A111, q111, S111, N111, H111, G111⟩ := id V105
  have hin111 : ¬ ((6 : Int32) < 0 ∨ c111.slots.size ≤ ((6 : Int32)).toNatClampNeg) := inb_of S111 ⟨by decide, by decide⟩
  obtain ⟨T111, h111, X111, e111, W111, st111⟩ := stZ Xh105 hx hZ e105 A111 (j := (6 : Int32)) hin111 (g := (mkF m 102 #[.val (.int px), .val (.ref b1), .unset, .unset] [(.int (0 : Int32)), (.int (6 : Int32)), (.ref b67), (.ref b67)])) rfl rfl (hb hby at_102)
  refine Go.via st111 ?_
  have Z112 : n0 ≤ h111.size := Nat.le_trans Z106 (Nat.le_of_eq W111.size.symm)
  have K113 : Keep h0 h111 [] := K107.wr W111 (Or.inr sz70)
  obtain ⟨lc111, Xh111, N114⟩ := own_hide X111 (Fr.snoc X111 N108 g69)
  clear X111
  have O115 : Old Z n0 h111 := O109.wr W111 g69
  have V111 : Arv Z h111 b67 k67 .boolean (10 : Int32) [(.int (nar .boolean (0 : Int32))), (.int (nar .boolean (0 : Int32))), (.int (nar .boolean (1 : Int32))), (.int (nar .boolean (1 : Int32))), (.int (nar .boolean (1 : Int32))), (.int (nar .boolean (1 : Int32))), (.int (nar .boolean (0 : Int32))), (.int (0 : Int32)), (.int (0 : Int32)), (.int (0 : Int32))] (.int (0 : Int32)) := Arv.set A111 q111 S111 N111 H111 G111 (fits_nar_bool _) W111 6 rfl (Nat.le_of_ble_eq_true rfl)
  show Go p.tables e below P T111 (mkF m 103 #[.val (.int px), .val (.ref b1), .unset, .unset] [(.ref b67)])
  refine Go.via (fun t k => XS.dup Xh111.here hx rfl (hb hby at_103) rfl rfl k) ?_
  show Go p.tables e below P T111 (mkF m 104 #[.val (.int px), .val (.ref b1), .unset, .unset] [(.ref b67), (.ref b67)])
  refine Go.via (fun t k => XS.bipush Xh111.here hx rfl (hb hby at_104) k) ?_
  show Go p.tables e below P T111 (mkF m 106 #[.val (.int px), .val (.ref b1), .unset, .unset] [(.int (7 : Int32)), (.ref b67), (.ref b67)])
  refine Go.via (fun t k => XS.iconst Xh111.here hx rfl (hb hby at_106) k) ?_
  show Go p.tables e below P T111 (mkF m 107 #[.val (.int px), .val (.ref b1), .unset, .unset] [(.int (0 : Int32)), (.int (7 : Int32)), (.ref b67), (.ref b67)])
  have F116 : Arv Z h111 b1 k1 (.object "com/example/referee/referee/model/AttributeType") (10 : Int32) [(.ref aCDATA), (.ref aID), (.ref aIDREF), (.ref aIDREFS), (.ref aENTITY), (.ref aENTITIES), (.ref aNMTOKEN), (.ref aNMTOKENS), (.ref aNOTATION), (.ref aENUMERATION)] .null := (F110.other W111 ne68)
  obtain ⟨c117, A117, q117, S117, N117, H117, G117⟩ := id V111
  have hin117 : ¬ ((7 : Int32) < 0 ∨ c117.slots.size ≤ ((7 : Int32)).toNatClampNeg) := inb_of S117 ⟨by decide, by decide⟩
  obtain ⟨T117, h117, X117, e117, W117, st117⟩ := stZ Xh111 hx hZ e111 A117 (j := (7 : Int32)) hin117 (g := (mkF m 107 #[.val (.int px), .val (.ref b1), .unset, .unset] [(.int (0 : Int32)), (.int (7 : Int32)), (.ref b67), (.ref b67)])) rfl rfl (hb hby at_107)
  refine Go.via st117 ?_
  have Z118 : n0 ≤ h117.size := Nat.le_trans Z112 (Nat.le_of_eq W117.size.symm)
  have K119 : Keep h0 h117 [] := K113.wr W117 (Or.inr sz70)
  obtain ⟨lc117, Xh117, N120⟩ := own_hide X117 (Fr.snoc X117 N114 g69)
  clear X117
  have O121 : Old Z n0 h117 := O115.wr W117 g69
  have V117 : Arv Z h117 b67 k67 .boolean (10 : Int32) [(.int (nar .boolean (0 : Int32))), (.int (nar .boolean (0 : Int32))), (.int (nar .boolean (1 : Int32))), (.int (nar .boolean (1 : Int32))), (.int (nar .boolean (1 : Int32))), (.int (nar .boolean (1 : Int32))), (.int (nar .boolean (0 : Int32))), (.int (nar .boolean (0 : Int32))), (.int (0 : Int32)), (.int (0 : Int32))] (.int (0 : Int32)) := Arv.set A117 q117 S117 N117 H117 G117 (fits_nar_bool _) W117 7 rfl (Nat.le_of_ble_eq_true rfl)
  show Go p.tables e below P T117 (mkF m 108 #[.val (.int px), .val (.ref b1), .unset, .unset] [(.ref b67)])
  refine Go.via (fun t k => XS.dup Xh117.here hx rfl (hb hby at_108) rfl rfl k) ?_
  show Go p.tables e below P T117 (mkF m 109 #[.val (.int px), .val (.ref b1), .unset, .unset] [(.ref b67), (.ref b67)])
  refine Go.via (fun t k => XS.bipush Xh117.here hx rfl (hb hby at_109) k) ?_
  show Go p.tables e below P T117 (mkF m 111 #[.val (.int px), .val (.ref b1), .unset, .unset] [(.int (8 : Int32)), (.ref b67), (.ref b67)])
  refine Go.via (fun t k => XS.iconst Xh117.here hx rfl (hb hby at_111) k) ?_
  show Go p.tables e below P T117 (mkF m 112 #[.val (.int px), .val (.ref b1), .unset, .unset] [(.int (0 : Int32)), (.int (8 : Int32)), (.ref b67), (.ref b67)])
  have F122 : Arv Z h117 b1 k1 (.object "com/example/referee/referee/model/AttributeType") (10 : Int32) [(.ref aCDATA), (.ref aID), (.ref aIDREF), (.ref aIDREFS), (.ref aENTITY), (.ref aENTITIES), (.ref aNMTOKEN), (.ref aNMTOKENS), (.ref aNOTATION), (.ref aENUMERATION)] .null := (F116.other W117 ne68)
  obtain ⟨c123, A123, q123, S123, N123, H123, G123⟩ := id V117
  have hin123 : ¬ ((8 : Int32) < 0 ∨ c123.slots.size ≤ ((8 : Int32)).toNatClampNeg) := inb_of S123 ⟨by decide, by decide⟩
  obtain ⟨T123, h123, X123, e123, W123, st123⟩ := stZ Xh117 hx hZ e117 A123 (j := (8 : Int32)) hin123 (g := (mkF m 112 #[.val (.int px), .val (.ref b1), .unset, .unset] [(.int (0 : Int32)), (.int (8 : Int32)), (.ref b67), (.ref b67)])) rfl rfl (hb hby at_112)
  refine Go.via st123 ?_
  have Z124 : n0 ≤ h123.size := Nat.le_trans Z118 (Nat.le_of_eq W123.size.symm)
  have K125 : Keep h0 h123 [] := K119.wr W123 (Or.inr sz70)
  obtain ⟨lc123, Xh123, N126⟩ := own_hide X123 (Fr.snoc X123 N120 g69)
  clear X123
  have O127 : Old Z n0 h123 := O121.wr W123 g69
  have V123 : Arv Z h123 b67 k67 .boolean (10 : Int32) [(.int (nar .boolean (0 : Int32))), (.int (nar .boolean (0 : Int32))), (.int (nar .boolean (1 : Int32))), (.int (nar .boolean (1 : Int32))), (.int (nar .boolean (1 : Int32))), (.int (nar .boolean (1 : Int32))), (.int (nar .boolean (0 : Int32))), (.int (nar .boolean (0 : Int32))), (.int (nar .boolean (0 : Int32))), (.int (0 : Int32))] (.int (0 : Int32)) := Arv.set A123 q123 S123 N123 H123 G123 (fits_nar_bool _) W123 8 rfl (Nat.le_of_ble_eq_true rfl)
  show Go p.tables e below P T123 (mkF m 113 #[.val (.int px), .val (.ref b1), .unset, .unset] [(.ref b67)])
  refine Go.via (fun t k => XS.dup Xh123.here hx rfl (hb hby at_113) rfl rfl k) ?_
  show Go p.tables e below P T123 (mkF m 114 #[.val (.int px), .val (.ref b1), .unset, .unset] [(.ref b67), (.ref b67)])
  refine Go.via (fun t k => XS.bipush Xh123.here hx rfl (hb hby at_114) k) ?_
  show Go p.tables e below P T123 (mkF m 116 #[.val (.int px), .val (.ref b1), .unset, .unset] [(.int (9 : Int32)), (.ref b67), (.ref b67)])
  refine Go.via (fun t k => XS.iconst Xh123.here hx rfl (hb hby at_116) k) ?_
  show Go p.tables e below P T123 (mkF m 117 #[.val (.int px), .val (.ref b1), .unset, .unset] [(.int (0 : Int32)), (.int (9 : Int32)), (.ref b67), (.ref b67)])
  have F128 : Arv Z h123 b1 k1 (.object "com/example/referee/referee/model/AttributeType") (10 : Int32) [(.ref aCDATA), (.ref aID), (.ref aIDREF), (.ref aIDREFS), (.ref aENTITY), (.ref aENTITIES), (.ref aNMTOKEN), (.ref aNMTOKENS), (.ref aNOTATION), (.ref aENUMERATION)] .null := (F122.other W123 ne68)
  obtain ⟨c129, A129, q129, S129, N129, H129, G129⟩ := id V123
  have hin129 : ¬ ((9 : Int32) < 0 ∨ c129.slots.size ≤ ((9 : Int32)).toNatClampNeg) := inb_of S129 ⟨by decide, by decide⟩
  obtain ⟨T129, h129, X129, e129, W129, st129⟩ := stZ Xh123 hx hZ e123 A129 (j := (9 : Int32)) hin129 (g := (mkF m 117 #[.val (.int px), .val (.ref b1), .unset, .unset] [(.int (0 : Int32)), (.int (9 : Int32)), (.ref b67), (.ref b67)])) rfl rfl (hb hby at_117)
  refine Go.via st129 ?_
  have Z130 : n0 ≤ h129.size := Nat.le_trans Z124 (Nat.le_of_eq W129.size.symm)
  have K131 : Keep h0 h129 [] := K125.wr W129 (Or.inr sz70)
  obtain ⟨lc129, Xh129, N132⟩ := own_hide X129 (Fr.snoc X129 N126 g69)
  clear X129
  have O133 : Old Z n0 h129 := O127.wr W129 g69
  have V129 : Arv Z h129 b67 k67 .boolean (10 : Int32) [(.int (nar .boolean (0 : Int32))), (.int (nar .boolean (0 : Int32))), (.int (nar .boolean (1 : Int32))), (.int (nar .boolean (1 : Int32))), (.int (nar .boolean (1 : Int32))), (.int (nar .boolean (1 : Int32))), (.int (nar .boolean (0 : Int32))), (.int (nar .boolean (0 : Int32))), (.int (nar .boolean (0 : Int32))), (.int (nar .boolean (0 : Int32)))] (.int (0 : Int32)) := Arv.set A129 q129 S129 N129 H129 G129 (fits_nar_bool _) W129 9 rfl (Nat.le_of_ble_eq_true rfl)
  show Go p.tables e below P T129 (mkF m 118 #[.val (.int px), .val (.ref b1), .unset, .unset] [(.ref b67)])
  refine Go.via (fun t k => XS.astoreN Xh129.here hx rfl (hb hby at_118) rfl rfl (l' := #[.val (.int px), .val (.ref b1), .val (.ref b67), .unset]) rfl k) ?_
  show Go p.tables e below P T129 (mkF m 119 #[.val (.int px), .val (.ref b1), .val (.ref b67), .unset] [])
  refine Go.via (fun t k => XS.iloadN Xh129.here hx rfl (hb hby at_119) rfl k) ?_
  show Go p.tables e below P T129 (mkF m 120 #[.val (.int px), .val (.ref b1), .val (.ref b67), .unset] [(.int px)])
  refine Go.via (fun t k => Xh129.ldcInt hx hown (mvT hZ (hw _ (List.mem_of_getElem? (i := 25) rfl))) (g := (mkF m 120 #[.val (.int px), .val (.ref b1), .val (.ref b67), .unset] [(.int px)])) rfl (hb hby at_120) t k) ?_
  show Go p.tables e below P T129 (mkF m 122 #[.val (.int px), .val (.ref b1), .val (.ref b67), .unset] [(.int (2147483647 : Int32)), (.int px)])
  refine Go.via (fun t k => XS.iand Xh129.here hx rfl (hb hby at_122) rfl k) ?_
  show Go p.tables e below P T129 (mkF m 123 #[.val (.int px), .val (.ref b1), .val (.ref b67), .unset] [(.int (px &&& (2147483647 : Int32)))])
  refine Go.via (fun t k => XS.bipush Xh129.here hx rfl (hb hby at_123) k) ?_
  show Go p.tables e below P T129 (mkF m 125 #[.val (.int px), .val (.ref b1), .val (.ref b67), .unset] [(.int (10 : Int32)), (.int (px &&& (2147483647 : Int32)))])
  refine Go.via (fun t k => iremM Xh129 hx rfl (hb hby at_125) rfl (by decide) k) ?_
  show Go p.tables e below P T129 (mkF m 126 #[.val (.int px), .val (.ref b1), .val (.ref b67), .unset] [(.int ((px &&& (2147483647 : Int32)) % (10 : Int32)))])
  refine Go.via (fun t k => XS.istoreN Xh129.here hx rfl (hb hby at_126) rfl (l' := #[.val (.int px), .val (.ref b1), .val (.ref b67), .val (.int ((px &&& (2147483647 : Int32)) % (10 : Int32)))]) rfl k) ?_
  show Go p.tables e below P T129 (mkF m 127 #[.val (.int px), .val (.ref b1), .val (.ref b67), .val (.int ((px &&& (2147483647 : Int32)) % (10 : Int32)))] [])
  obtain ⟨ix, hix⟩ : ∃ z, z = ((px &&& (2147483647 : Int32)) % (10 : Int32)) := ⟨_, rfl⟩
  rw [← hix]
  have hor := own_rem10 px
  rw [← hix] at hor
  rcases hor with hi0 | hi1 | hi2 | hi3 | hi4 | hi5 | hi6 | hi7 | hi8 | hi9
  · rw [hi0]
    show Go p.tables e below P T129 (mkF m 127 #[.val (.int px), .val (.ref b1), .val (.ref b67), .val (.int (0 : Int32))] [])
    refine Go.via (fun t k => XS.aloadN Xh129.here hx rfl (hb hby at_127) rfl rfl k) ?_
    show Go p.tables e below P T129 (mkF m 128 #[.val (.int px), .val (.ref b1), .val (.ref b67), .val (.int (0 : Int32))] [(.ref b1)])
    refine Go.via (fun t k => XS.iloadN Xh129.here hx rfl (hb hby at_128) rfl k) ?_
    show Go p.tables e below P T129 (mkF m 129 #[.val (.int px), .val (.ref b1), .val (.ref b67), .val (.int (0 : Int32))] [(.int (0 : Int32)), (.ref b1)])
    have F134 : Arv Z h129 b1 k1 (.object "com/example/referee/referee/model/AttributeType") (10 : Int32) [(.ref aCDATA), (.ref aID), (.ref aIDREF), (.ref aIDREFS), (.ref aENTITY), (.ref aENTITIES), (.ref aNMTOKEN), (.ref aNMTOKENS), (.ref aNOTATION), (.ref aENUMERATION)] .null := (F128.other W129 ne68)
    obtain ⟨c135, A135, q135, S135, N135, H135, G135⟩ := id F134
    have hin135 : ¬ ((0 : Int32) < 0 ∨ c135.slots.size ≤ ((0 : Int32)).toNatClampNeg) := inb_of S135 ⟨by decide, by decide⟩
    have hat135 : c135.slots[((0 : Int32)).toNatClampNeg]? = some (.ref aCDATA) := (H135 _ (Nat.lt_of_not_le fun q => hin135 (Or.inr q))).trans (congrArg some rfl)
    refine Go.via (fun t k => Xh129.aaload hx (j := (0 : Int32)) (v := (.ref aCDATA)) (by rw [e129]; exact A135.1) (State.isArrayOf_alike hZ.alike A135.2.1) rfl A135.2.2 hin135 hat135 (g := (mkF m 129 #[.val (.int px), .val (.ref b1), .val (.ref b67), .val (.int (0 : Int32))] [(.int (0 : Int32)), (.ref b1)])) rfl rfl (hb hby at_129) t k) ?_
    show Go p.tables e below P T129 (mkF m 130 #[.val (.int px), .val (.ref b1), .val (.ref b67), .val (.int (0 : Int32))] [(.ref aCDATA)])
    obtain ⟨cq136, kq136, q136a, q136b, q136c⟩ := isOf hZ e129 (P11.ext O133.2)
    obtain ⟨_, _, ⟨T136, L136, k136, n136⟩, -, X136, ⟨Lc136, hQ136, l136, y136, z136⟩, st136⟩ := Xh129.virtualBack hx (y := (⟨"com/example/referee/referee/model/AttributeType", "refers", "()Z"⟩ : MethodName)) (z := (⟨"com/example/referee/referee/model/AttributeType", "refers", "()Z"⟩ : MethodName)) hown (mvT hZ (hw _ (List.mem_of_getElem? (i := 26) rfl))) (mvT hZ (hw _ (List.mem_of_getElem? (i := 27) rfl))) (notFace_of_selects (args := #[]) (mvT hZ (hw _ (List.mem_of_getElem? (i := 29) rfl)))) (mvT hZ (hw _ (List.mem_of_getElem? (i := 29) rfl))) (mvT hZ (hw _ (List.mem_of_getElem? (i := 28) rfl))) (by decide) (backOf (W := 0) (rm1 l Z a0 hw [] aCDATA aIDREF aIDREFS aENTITY aENTITIES h129 n0 Z130 O133 P3 P4 P5 P6) hZ (hw _ (List.mem_of_getElem? (i := 30) rfl)) (hw _ (List.mem_of_getElem? (i := 3) rfl)) (by decide) (by decide)) q136a q136c (g := (mkF m 130 #[.val (.int px), .val (.ref b1), .val (.ref b67), .val (.int (0 : Int32))] [(.ref aCDATA)])) rfl (by rw [hml]; rfl) (Steps.refl _) (argsL := []) (rest := []) (lenOf own_pd0 rfl) rfl (by show 2 * 0 + _ ≤ _; exact Nat.le_of_eq rfl) (hb hby at_130) (fun _ _ => ⟨rfl, e129, (by decide : 2 + 0 ≤ _), (by decide : 20 + 0 ≤ _)⟩)
    dsimp only [Pt.U, Pt.locs, Pt.cells, Pt.slots] at X136 l136 y136 z136 st136 hQ136
    subst l136 y136 z136
    obtain ⟨rfl, Nq136, hh136⟩ := hQ136
    obtain ⟨lc136, Xh136, N136⟩ := own_hide X136 (Fr.app N132 Nq136)
    clear X136
    refine Go.hop st136 ?_
    show Go p.tables e below P T136 (mkF m 133 #[.val (.int px), .val (.ref b1), .val (.ref b67), .val (.int (0 : Int32))] [(.int (if ((.ref aCDATA) : Value) = (.ref aIDREF) then (1 : Int32) else (if ((.ref aCDATA) : Value) = (.ref aIDREFS) then (1 : Int32) else (if ((.ref aCDATA) : Value) = (.ref aENTITY) then (1 : Int32) else (if ((.ref aCDATA) : Value) = (.ref aENTITIES) then (1 : Int32) else (0 : Int32))))))])
    refine Go.via (fun t k => XS.aloadN Xh136.here hx rfl (hb hby at_133) rfl rfl k) ?_
    show Go p.tables e below P T136 (mkF m 134 #[.val (.int px), .val (.ref b1), .val (.ref b67), .val (.int (0 : Int32))] [(.ref b67), (.int (if ((.ref aCDATA) : Value) = (.ref aIDREF) then (1 : Int32) else (if ((.ref aCDATA) : Value) = (.ref aIDREFS) then (1 : Int32) else (if ((.ref aCDATA) : Value) = (.ref aENTITY) then (1 : Int32) else (if ((.ref aCDATA) : Value) = (.ref aENTITIES) then (1 : Int32) else (0 : Int32))))))])
    refine Go.via (fun t k => XS.iloadN Xh136.here hx rfl (hb hby at_134) rfl k) ?_
    show Go p.tables e below P T136 (mkF m 135 #[.val (.int px), .val (.ref b1), .val (.ref b67), .val (.int (0 : Int32))] [(.int (0 : Int32)), (.ref b67), (.int (if ((.ref aCDATA) : Value) = (.ref aIDREF) then (1 : Int32) else (if ((.ref aCDATA) : Value) = (.ref aIDREFS) then (1 : Int32) else (if ((.ref aCDATA) : Value) = (.ref aENTITY) then (1 : Int32) else (if ((.ref aCDATA) : Value) = (.ref aENTITIES) then (1 : Int32) else (0 : Int32))))))])
    obtain ⟨c137, A137, q137, S137, N137, H137, G137⟩ := id V129
    have hin137 : ¬ ((0 : Int32) < 0 ∨ c137.slots.size ≤ ((0 : Int32)).toNatClampNeg) := inb_of S137 ⟨by decide, by decide⟩
    have hat137 : c137.slots[((0 : Int32)).toNatClampNeg]? = some (.int (nar .boolean (0 : Int32))) := (H137 _ (Nat.lt_of_not_le fun q => hin137 (Or.inr q))).trans (congrArg some rfl)
    refine Go.via (fun t k => Xh136.baloadBooleans hx (j := (0 : Int32)) (v := (.int (nar .boolean (0 : Int32)))) (by rw [hh136]; exact A137.1) (State.isArrayOf_alike hZ.alike A137.2.1) A137.2.2 hin137 hat137 (g := (mkF m 135 #[.val (.int px), .val (.ref b1), .val (.ref b67), .val (.int (0 : Int32))] [(.int (0 : Int32)), (.ref b67), (.int (if ((.ref aCDATA) : Value) = (.ref aIDREF) then (1 : Int32) else (if ((.ref aCDATA) : Value) = (.ref aIDREFS) then (1 : Int32) else (if ((.ref aCDATA) : Value) = (.ref aENTITY) then (1 : Int32) else (if ((.ref aCDATA) : Value) = (.ref aENTITIES) then (1 : Int32) else (0 : Int32))))))])) rfl rfl (hb hby at_135) t k) ?_
    show Go p.tables e below P T136 (mkF m 136 #[.val (.int px), .val (.ref b1), .val (.ref b67), .val (.int (0 : Int32))] [(.int (nar .boolean (0 : Int32))), (.int (if ((.ref aCDATA) : Value) = (.ref aIDREF) then (1 : Int32) else (if ((.ref aCDATA) : Value) = (.ref aIDREFS) then (1 : Int32) else (if ((.ref aCDATA) : Value) = (.ref aENTITY) then (1 : Int32) else (if ((.ref aCDATA) : Value) = (.ref aENTITIES) then (1 : Int32) else (0 : Int32))))))])
    refine Go.via (fun t k => XS.icmpNo Xh136.here hx rfl (hb hby at_136) rfl (teq (Eq.trans (Eq.trans (Eq.trans (Eq.trans (if_neg fun q => (Fld.ne P21 P23 (by decide)) (Value.ref.inj q)) (if_neg fun q => (Fld.ne P21 P24 (by decide)) (Value.ref.inj q))) (if_neg fun q => (Fld.ne P21 P25 (by decide)) (Value.ref.inj q))) (if_neg fun q => (Fld.ne P21 P26 (by decide)) (Value.ref.inj q))) (by decide))).2 k) ?_
    show Go p.tables e below P T136 (mkF m 139 #[.val (.int px), .val (.ref b1), .val (.ref b67), .val (.int (0 : Int32))] [])
    refine Go.via (fun t k => XS.iconst Xh136.here hx rfl (hb hby at_139) k) ?_
    show Go p.tables e below P T136 (mkF m 140 #[.val (.int px), .val (.ref b1), .val (.ref b67), .val (.int (0 : Int32))] [(.int (1 : Int32))])
    refine Go.via (fun t k => XS.goto Xh136.here hx rfl (pc0 := 140) (pc' := 144) rfl (hb hby at_140) (by decide) (by decide) k) ?_
    show Go p.tables e below P T136 (mkF m 144 #[.val (.int px), .val (.ref b1), .val (.ref b67), .val (.int (0 : Int32))] [(.int (1 : Int32))])
    obtain ⟨fs, hr, hrun, hended, hW, hsame⟩ := Xh136.leave (v := some (.int (1 : Int32))) (fun h => by rw [Bd.returns] at h; cases h)
    refine ⟨_, _, retZ Xh136 hx (t := .boolean) Bd.returns (by simp) (hb hby at_144) rfl hr, hrun, hended, hP _ _ ⟨_, _, rfl, ?_, ⟨_, rfl⟩, hW, hsame.mono (by decide) (by decide)⟩⟩
    show Q0 Z px aCDATA aID aIDREF aIDREFS aENTITY aENTITIES aNMTOKEN aNMTOKENS aNOTATION aENUMERATION h0 n0 _ T136.heap _
    rw [hh136]
    exact ⟨rfl, N136⟩
  · rw [hi1]
    show Go p.tables e below P T129 (mkF m 127 #[.val (.int px), .val (.ref b1), .val (.ref b67), .val (.int (1 : Int32))] [])
    refine Go.via (fun t k => XS.aloadN Xh129.here hx rfl (hb hby at_127) rfl rfl k) ?_
    show Go p.tables e below P T129 (mkF m 128 #[.val (.int px), .val (.ref b1), .val (.ref b67), .val (.int (1 : Int32))] [(.ref b1)])
    refine Go.via (fun t k => XS.iloadN Xh129.here hx rfl (hb hby at_128) rfl k) ?_
    show Go p.tables e below P T129 (mkF m 129 #[.val (.int px), .val (.ref b1), .val (.ref b67), .val (.int (1 : Int32))] [(.int (1 : Int32)), (.ref b1)])
    have F139 : Arv Z h129 b1 k1 (.object "com/example/referee/referee/model/AttributeType") (10 : Int32) [(.ref aCDATA), (.ref aID), (.ref aIDREF), (.ref aIDREFS), (.ref aENTITY), (.ref aENTITIES), (.ref aNMTOKEN), (.ref aNMTOKENS), (.ref aNOTATION), (.ref aENUMERATION)] .null := (F128.other W129 ne68)
    obtain ⟨c140, A140, q140, S140, N140, H140, G140⟩ := id F139
    have hin140 : ¬ ((1 : Int32) < 0 ∨ c140.slots.size ≤ ((1 : Int32)).toNatClampNeg) := inb_of S140 ⟨by decide, by decide⟩
    have hat140 : c140.slots[((1 : Int32)).toNatClampNeg]? = some (.ref aID) := (H140 _ (Nat.lt_of_not_le fun q => hin140 (Or.inr q))).trans (congrArg some rfl)
    refine Go.via (fun t k => Xh129.aaload hx (j := (1 : Int32)) (v := (.ref aID)) (by rw [e129]; exact A140.1) (State.isArrayOf_alike hZ.alike A140.2.1) rfl A140.2.2 hin140 hat140 (g := (mkF m 129 #[.val (.int px), .val (.ref b1), .val (.ref b67), .val (.int (1 : Int32))] [(.int (1 : Int32)), (.ref b1)])) rfl rfl (hb hby at_129) t k) ?_
    show Go p.tables e below P T129 (mkF m 130 #[.val (.int px), .val (.ref b1), .val (.ref b67), .val (.int (1 : Int32))] [(.ref aID)])
    obtain ⟨cq141, kq141, q141a, q141b, q141c⟩ := isOf hZ e129 (P12.ext O133.2)
    obtain ⟨_, _, ⟨T141, L141, k141, n141⟩, -, X141, ⟨Lc141, hQ141, l141, y141, z141⟩, st141⟩ := Xh129.virtualBack hx (y := (⟨"com/example/referee/referee/model/AttributeType", "refers", "()Z"⟩ : MethodName)) (z := (⟨"com/example/referee/referee/model/AttributeType", "refers", "()Z"⟩ : MethodName)) hown (mvT hZ (hw _ (List.mem_of_getElem? (i := 26) rfl))) (mvT hZ (hw _ (List.mem_of_getElem? (i := 27) rfl))) (notFace_of_selects (args := #[]) (mvT hZ (hw _ (List.mem_of_getElem? (i := 29) rfl)))) (mvT hZ (hw _ (List.mem_of_getElem? (i := 29) rfl))) (mvT hZ (hw _ (List.mem_of_getElem? (i := 28) rfl))) (by decide) (backOf (W := 0) (rm1 l Z a0 hw [] aID aIDREF aIDREFS aENTITY aENTITIES h129 n0 Z130 O133 P3 P4 P5 P6) hZ (hw _ (List.mem_of_getElem? (i := 30) rfl)) (hw _ (List.mem_of_getElem? (i := 3) rfl)) (by decide) (by decide)) q141a q141c (g := (mkF m 130 #[.val (.int px), .val (.ref b1), .val (.ref b67), .val (.int (1 : Int32))] [(.ref aID)])) rfl (by rw [hml]; rfl) (Steps.refl _) (argsL := []) (rest := []) (lenOf own_pd0 rfl) rfl (by show 2 * 0 + _ ≤ _; exact Nat.le_of_eq rfl) (hb hby at_130) (fun _ _ => ⟨rfl, e129, (by decide : 2 + 0 ≤ _), (by decide : 20 + 0 ≤ _)⟩)
    dsimp only [Pt.U, Pt.locs, Pt.cells, Pt.slots] at X141 l141 y141 z141 st141 hQ141
    subst l141 y141 z141
    obtain ⟨rfl, Nq141, hh141⟩ := hQ141
    obtain ⟨lc141, Xh141, N141⟩ := own_hide X141 (Fr.app N132 Nq141)
    clear X141
    refine Go.hop st141 ?_
    show Go p.tables e below P T141 (mkF m 133 #[.val (.int px), .val (.ref b1), .val (.ref b67), .val (.int (1 : Int32))] [(.int (if ((.ref aID) : Value) = (.ref aIDREF) then (1 : Int32) else (if ((.ref aID) : Value) = (.ref aIDREFS) then (1 : Int32) else (if ((.ref aID) : Value) = (.ref aENTITY) then (1 : Int32) else (if ((.ref aID) : Value) = (.ref aENTITIES) then (1 : Int32) else (0 : Int32))))))])
    refine Go.via (fun t k => XS.aloadN Xh141.here hx rfl (hb hby at_133) rfl rfl k) ?_
    show Go p.tables e below P T141 (mkF m 134 #[.val (.int px), .val (.ref b1), .val (.ref b67), .val (.int (1 : Int32))] [(.ref b67), (.int (if ((.ref aID) : Value) = (.ref aIDREF) then (1 : Int32) else (if ((.ref aID) : Value) = (.ref aIDREFS) then (1 : Int32) else (if ((.ref aID) : Value) = (.ref aENTITY) then (1 : Int32) else (if ((.ref aID) : Value) = (.ref aENTITIES) then (1 : Int32) else (0 : Int32))))))])
    refine Go.via (fun t k => XS.iloadN Xh141.here hx rfl (hb hby at_134) rfl k) ?_
    show Go p.tables e below P T141 (mkF m 135 #[.val (.int px), .val (.ref b1), .val (.ref b67), .val (.int (1 : Int32))] [(.int (1 : Int32)), (.ref b67), (.int (if ((.ref aID) : Value) = (.ref aIDREF) then (1 : Int32) else (if ((.ref aID) : Value) = (.ref aIDREFS) then (1 : Int32) else (if ((.ref aID) : Value) = (.ref aENTITY) then (1 : Int32) else (if ((.ref aID) : Value) = (.ref aENTITIES) then (1 : Int32) else (0 : Int32))))))])
    obtain ⟨c142, A142, q142, S142, N142, H142, G142⟩ := id V129
    have hin142 : ¬ ((1 : Int32) < 0 ∨ c142.slots.size ≤ ((1 : Int32)).toNatClampNeg) := inb_of S142 ⟨by decide, by decide⟩
    have hat142 : c142.slots[((1 : Int32)).toNatClampNeg]? = some (.int (nar .boolean (0 : Int32))) := (H142 _ (Nat.lt_of_not_le fun q => hin142 (Or.inr q))).trans (congrArg some rfl)
    refine Go.via (fun t k => Xh141.baloadBooleans hx (j := (1 : Int32)) (v := (.int (nar .boolean (0 : Int32)))) (by rw [hh141]; exact A142.1) (State.isArrayOf_alike hZ.alike A142.2.1) A142.2.2 hin142 hat142 (g := (mkF m 135 #[.val (.int px), .val (.ref b1), .val (.ref b67), .val (.int (1 : Int32))] [(.int (1 : Int32)), (.ref b67), (.int (if ((.ref aID) : Value) = (.ref aIDREF) then (1 : Int32) else (if ((.ref aID) : Value) = (.ref aIDREFS) then (1 : Int32) else (if ((.ref aID) : Value) = (.ref aENTITY) then (1 : Int32) else (if ((.ref aID) : Value) = (.ref aENTITIES) then (1 : Int32) else (0 : Int32))))))])) rfl rfl (hb hby at_135) t k) ?_
    show Go p.tables e below P T141 (mkF m 136 #[.val (.int px), .val (.ref b1), .val (.ref b67), .val (.int (1 : Int32))] [(.int (nar .boolean (0 : Int32))), (.int (if ((.ref aID) : Value) = (.ref aIDREF) then (1 : Int32) else (if ((.ref aID) : Value) = (.ref aIDREFS) then (1 : Int32) else (if ((.ref aID) : Value) = (.ref aENTITY) then (1 : Int32) else (if ((.ref aID) : Value) = (.ref aENTITIES) then (1 : Int32) else (0 : Int32))))))])
    refine Go.via (fun t k => XS.icmpNo Xh141.here hx rfl (hb hby at_136) rfl (teq (Eq.trans (Eq.trans (Eq.trans (Eq.trans (if_neg fun q => (Fld.ne P22 P23 (by decide)) (Value.ref.inj q)) (if_neg fun q => (Fld.ne P22 P24 (by decide)) (Value.ref.inj q))) (if_neg fun q => (Fld.ne P22 P25 (by decide)) (Value.ref.inj q))) (if_neg fun q => (Fld.ne P22 P26 (by decide)) (Value.ref.inj q))) (by decide))).2 k) ?_
    show Go p.tables e below P T141 (mkF m 139 #[.val (.int px), .val (.ref b1), .val (.ref b67), .val (.int (1 : Int32))] [])
    refine Go.via (fun t k => XS.iconst Xh141.here hx rfl (hb hby at_139) k) ?_
    show Go p.tables e below P T141 (mkF m 140 #[.val (.int px), .val (.ref b1), .val (.ref b67), .val (.int (1 : Int32))] [(.int (1 : Int32))])
    refine Go.via (fun t k => XS.goto Xh141.here hx rfl (pc0 := 140) (pc' := 144) rfl (hb hby at_140) (by decide) (by decide) k) ?_
    show Go p.tables e below P T141 (mkF m 144 #[.val (.int px), .val (.ref b1), .val (.ref b67), .val (.int (1 : Int32))] [(.int (1 : Int32))])
    obtain ⟨fs, hr, hrun, hended, hW, hsame⟩ := Xh141.leave (v := some (.int (1 : Int32))) (fun h => by rw [Bd.returns] at h; cases h)
    refine ⟨_, _, retZ Xh141 hx (t := .boolean) Bd.returns (by simp) (hb hby at_144) rfl hr, hrun, hended, hP _ _ ⟨_, _, rfl, ?_, ⟨_, rfl⟩, hW, hsame.mono (by decide) (by decide)⟩⟩
    show Q0 Z px aCDATA aID aIDREF aIDREFS aENTITY aENTITIES aNMTOKEN aNMTOKENS aNOTATION aENUMERATION h0 n0 _ T141.heap _
    rw [hh141]
    exact ⟨rfl, N141⟩
  · rw [hi2]
    show Go p.tables e below P T129 (mkF m 127 #[.val (.int px), .val (.ref b1), .val (.ref b67), .val (.int (2 : Int32))] [])
    refine Go.via (fun t k => XS.aloadN Xh129.here hx rfl (hb hby at_127) rfl rfl k) ?_
    show Go p.tables e below P T129 (mkF m 128 #[.val (.int px), .val (.ref b1), .val (.ref b67), .val (.int (2 : Int32))] [(.ref b1)])
    refine Go.via (fun t k => XS.iloadN Xh129.here hx rfl (hb hby at_128) rfl k) ?_
    show Go p.tables e below P T129 (mkF m 129 #[.val (.int px), .val (.ref b1), .val (.ref b67), .val (.int (2 : Int32))] [(.int (2 : Int32)), (.ref b1)])
    have F144 : Arv Z h129 b1 k1 (.object "com/example/referee/referee/model/AttributeType") (10 : Int32) [(.ref aCDATA), (.ref aID), (.ref aIDREF), (.ref aIDREFS), (.ref aENTITY), (.ref aENTITIES), (.ref aNMTOKEN), (.ref aNMTOKENS), (.ref aNOTATION), (.ref aENUMERATION)] .null := (F128.other W129 ne68)
    obtain ⟨c145, A145, q145, S145, N145, H145, G145⟩ := id F144
    have hin145 : ¬ ((2 : Int32) < 0 ∨ c145.slots.size ≤ ((2 : Int32)).toNatClampNeg) := inb_of S145 ⟨by decide, by decide⟩
    have hat145 : c145.slots[((2 : Int32)).toNatClampNeg]? = some (.ref aIDREF) := (H145 _ (Nat.lt_of_not_le fun q => hin145 (Or.inr q))).trans (congrArg some rfl)
    refine Go.via (fun t k => Xh129.aaload hx (j := (2 : Int32)) (v := (.ref aIDREF)) (by rw [e129]; exact A145.1) (State.isArrayOf_alike hZ.alike A145.2.1) rfl A145.2.2 hin145 hat145 (g := (mkF m 129 #[.val (.int px), .val (.ref b1), .val (.ref b67), .val (.int (2 : Int32))] [(.int (2 : Int32)), (.ref b1)])) rfl rfl (hb hby at_129) t k) ?_
    show Go p.tables e below P T129 (mkF m 130 #[.val (.int px), .val (.ref b1), .val (.ref b67), .val (.int (2 : Int32))] [(.ref aIDREF)])
    obtain ⟨cq146, kq146, q146a, q146b, q146c⟩ := isOf hZ e129 (P13.ext O133.2)
    obtain ⟨_, _, ⟨T146, L146, k146, n146⟩, -, X146, ⟨Lc146, hQ146, l146, y146, z146⟩, st146⟩ := Xh129.virtualBack hx (y := (⟨"com/example/referee/referee/model/AttributeType", "refers", "()Z"⟩ : MethodName)) (z := (⟨"com/example/referee/referee/model/AttributeType", "refers", "()Z"⟩ : MethodName)) hown (mvT hZ (hw _ (List.mem_of_getElem? (i := 26) rfl))) (mvT hZ (hw _ (List.mem_of_getElem? (i := 27) rfl))) (notFace_of_selects (args := #[]) (mvT hZ (hw _ (List.mem_of_getElem? (i := 29) rfl)))) (mvT hZ (hw _ (List.mem_of_getElem? (i := 29) rfl))) (mvT hZ (hw _ (List.mem_of_getElem? (i := 28) rfl))) (by decide) (backOf (W := 0) (rm1 l Z a0 hw [] aIDREF aIDREF aIDREFS aENTITY aENTITIES h129 n0 Z130 O133 P3 P4 P5 P6) hZ (hw _ (List.mem_of_getElem? (i := 30) rfl)) (hw _ (List.mem_of_getElem? (i := 3) rfl)) (by decide) (by decide)) q146a q146c (g := (mkF m 130 #[.val (.int px), .val (.ref b1), .val (.ref b67), .val (.int (2 : Int32))] [(.ref aIDREF)])) rfl (by rw [hml]; rfl) (Steps.refl _) (argsL := []) (rest := []) (lenOf own_pd0 rfl) rfl (by show 2 * 0 + _ ≤ _; exact Nat.le_of_eq rfl) (hb hby at_130) (fun _ _ => ⟨rfl, e129, (by decide : 2 + 0 ≤ _), (by decide : 20 + 0 ≤ _)⟩)
    dsimp only [Pt.U, Pt.locs, Pt.cells, Pt.slots] at X146 l146 y146 z146 st146 hQ146
    subst l146 y146 z146
    obtain ⟨rfl, Nq146, hh146⟩ := hQ146
    obtain ⟨lc146, Xh146, N146⟩ := own_hide X146 (Fr.app N132 Nq146)
    clear X146
    refine Go.hop st146 ?_
    show Go p.tables e below P T146 (mkF m 133 #[.val (.int px), .val (.ref b1), .val (.ref b67), .val (.int (2 : Int32))] [(.int (if ((.ref aIDREF) : Value) = (.ref aIDREF) then (1 : Int32) else (if ((.ref aIDREF) : Value) = (.ref aIDREFS) then (1 : Int32) else (if ((.ref aIDREF) : Value) = (.ref aENTITY) then (1 : Int32) else (if ((.ref aIDREF) : Value) = (.ref aENTITIES) then (1 : Int32) else (0 : Int32))))))])
    refine Go.via (fun t k => XS.aloadN Xh146.here hx rfl (hb hby at_133) rfl rfl k) ?_
    show Go p.tables e below P T146 (mkF m 134 #[.val (.int px), .val (.ref b1), .val (.ref b67), .val (.int (2 : Int32))] [(.ref b67), (.int (if ((.ref aIDREF) : Value) = (.ref aIDREF) then (1 : Int32) else (if ((.ref aIDREF) : Value) = (.ref aIDREFS) then (1 : Int32) else (if ((.ref aIDREF) : Value) = (.ref aENTITY) then (1 : Int32) else (if ((.ref aIDREF) : Value) = (.ref aENTITIES) then (1 : Int32) else (0 : Int32))))))])
    refine Go.via (fun t k => XS.iloadN Xh146.here hx rfl (hb hby at_134) rfl k) ?_
    show Go p.tables e below P T146 (mkF m 135 #[.val (.int px), .val (.ref b1), .val (.ref b67), .val (.int (2 : Int32))] [(.int (2 : Int32)), (.ref b67), (.int (if ((.ref aIDREF) : Value) = (.ref aIDREF) then (1 : Int32) else (if ((.ref aIDREF) : Value) = (.ref aIDREFS) then (1 : Int32) else (if ((.ref aIDREF) : Value) = (.ref aENTITY) then (1 : Int32) else (if ((.ref aIDREF) : Value) = (.ref aENTITIES) then (1 : Int32) else (0 : Int32))))))])
    obtain ⟨c147, A147, q147, S147, N147, H147, G147⟩ := id V129
    have hin147 : ¬ ((2 : Int32) < 0 ∨ c147.slots.size ≤ ((2 : Int32)).toNatClampNeg) := inb_of S147 ⟨by decide, by decide⟩
    have hat147 : c147.slots[((2 : Int32)).toNatClampNeg]? = some (.int (nar .boolean (1 : Int32))) := (H147 _ (Nat.lt_of_not_le fun q => hin147 (Or.inr q))).trans (congrArg some rfl)
    refine Go.via (fun t k => Xh146.baloadBooleans hx (j := (2 : Int32)) (v := (.int (nar .boolean (1 : Int32)))) (by rw [hh146]; exact A147.1) (State.isArrayOf_alike hZ.alike A147.2.1) A147.2.2 hin147 hat147 (g := (mkF m 135 #[.val (.int px), .val (.ref b1), .val (.ref b67), .val (.int (2 : Int32))] [(.int (2 : Int32)), (.ref b67), (.int (if ((.ref aIDREF) : Value) = (.ref aIDREF) then (1 : Int32) else (if ((.ref aIDREF) : Value) = (.ref aIDREFS) then (1 : Int32) else (if ((.ref aIDREF) : Value) = (.ref aENTITY) then (1 : Int32) else (if ((.ref aIDREF) : Value) = (.ref aENTITIES) then (1 : Int32) else (0 : Int32))))))])) rfl rfl (hb hby at_135) t k) ?_
    show Go p.tables e below P T146 (mkF m 136 #[.val (.int px), .val (.ref b1), .val (.ref b67), .val (.int (2 : Int32))] [(.int (nar .boolean (1 : Int32))), (.int (if ((.ref aIDREF) : Value) = (.ref aIDREF) then (1 : Int32) else (if ((.ref aIDREF) : Value) = (.ref aIDREFS) then (1 : Int32) else (if ((.ref aIDREF) : Value) = (.ref aENTITY) then (1 : Int32) else (if ((.ref aIDREF) : Value) = (.ref aENTITIES) then (1 : Int32) else (0 : Int32))))))])
    refine Go.via (fun t k => XS.icmpNo Xh146.here hx rfl (hb hby at_136) rfl (teq (Eq.trans (if_pos rfl) (by decide))).2 k) ?_
    show Go p.tables e below P T146 (mkF m 139 #[.val (.int px), .val (.ref b1), .val (.ref b67), .val (.int (2 : Int32))] [])
    refine Go.via (fun t k => XS.iconst Xh146.here hx rfl (hb hby at_139) k) ?_
    show Go p.tables e below P T146 (mkF m 140 #[.val (.int px), .val (.ref b1), .val (.ref b67), .val (.int (2 : Int32))] [(.int (1 : Int32))])
    refine Go.via (fun t k => XS.goto Xh146.here hx rfl (pc0 := 140) (pc' := 144) rfl (hb hby at_140) (by decide) (by decide) k) ?_
    show Go p.tables e below P T146 (mkF m 144 #[.val (.int px), .val (.ref b1), .val (.ref b67), .val (.int (2 : Int32))] [(.int (1 : Int32))])
    obtain ⟨fs, hr, hrun, hended, hW, hsame⟩ := Xh146.leave (v := some (.int (1 : Int32))) (fun h => by rw [Bd.returns] at h; cases h)
    refine ⟨_, _, retZ Xh146 hx (t := .boolean) Bd.returns (by simp) (hb hby at_144) rfl hr, hrun, hended, hP _ _ ⟨_, _, rfl, ?_, ⟨_, rfl⟩, hW, hsame.mono (by decide) (by decide)⟩⟩
    show Q0 Z px aCDATA aID aIDREF aIDREFS aENTITY aENTITIES aNMTOKEN aNMTOKENS aNOTATION aENUMERATION h0 n0 _ T146.heap _
    rw [hh146]
    exact ⟨rfl, N146⟩
  · rw [hi3]
    show Go p.tables e below P T129 (mkF m 127 #[.val (.int px), .val (.ref b1), .val (.ref b67), .val (.int (3 : Int32))] [])
    refine Go.via (fun t k => XS.aloadN Xh129.here hx rfl (hb hby at_127) rfl rfl k) ?_
    show Go p.tables e below P T129 (mkF m 128 #[.val (.int px), .val (.ref b1), .val (.ref b67), .val (.int (3 : Int32))] [(.ref b1)])
    refine Go.via (fun t k => XS.iloadN Xh129.here hx rfl (hb hby at_128) rfl k) ?_
    show Go p.tables e below P T129 (mkF m 129 #[.val (.int px), .val (.ref b1), .val (.ref b67), .val (.int (3 : Int32))] [(.int (3 : Int32)), (.ref b1)])
    have F149 : Arv Z h129 b1 k1 (.object "com/example/referee/referee/model/AttributeType") (10 : Int32) [(.ref aCDATA), (.ref aID), (.ref aIDREF), (.ref aIDREFS), (.ref aENTITY), (.ref aENTITIES), (.ref aNMTOKEN), (.ref aNMTOKENS), (.ref aNOTATION), (.ref aENUMERATION)] .null := (F128.other W129 ne68)
    obtain ⟨c150, A150, q150, S150, N150, H150, G150⟩ := id F149
    have hin150 : ¬ ((3 : Int32) < 0 ∨ c150.slots.size ≤ ((3 : Int32)).toNatClampNeg) := inb_of S150 ⟨by decide, by decide⟩
    have hat150 : c150.slots[((3 : Int32)).toNatClampNeg]? = some (.ref aIDREFS) := (H150 _ (Nat.lt_of_not_le fun q => hin150 (Or.inr q))).trans (congrArg some rfl)
    refine Go.via (fun t k => Xh129.aaload hx (j := (3 : Int32)) (v := (.ref aIDREFS)) (by rw [e129]; exact A150.1) (State.isArrayOf_alike hZ.alike A150.2.1) rfl A150.2.2 hin150 hat150 (g := (mkF m 129 #[.val (.int px), .val (.ref b1), .val (.ref b67), .val (.int (3 : Int32))] [(.int (3 : Int32)), (.ref b1)])) rfl rfl (hb hby at_129) t k) ?_
    show Go p.tables e below P T129 (mkF m 130 #[.val (.int px), .val (.ref b1), .val (.ref b67), .val (.int (3 : Int32))] [(.ref aIDREFS)])
    obtain ⟨cq151, kq151, q151a, q151b, q151c⟩ := isOf hZ e129 (P14.ext O133.2)
    obtain ⟨_, _, ⟨T151, L151, k151, n151⟩, -, X151, ⟨Lc151, hQ151, l151, y151, z151⟩, st151⟩ := Xh129.virtualBack hx (y := (⟨"com/example/referee/referee/model/AttributeType", "refers", "()Z"⟩ : MethodName)) (z := (⟨"com/example/referee/referee/model/AttributeType", "refers", "()Z"⟩ : MethodName)) hown (mvT hZ (hw _ (List.mem_of_getElem? (i := 26) rfl))) (mvT hZ (hw _ (List.mem_of_getElem? (i := 27) rfl))) (notFace_of_selects (args := #[]) (mvT hZ (hw _ (List.mem_of_getElem? (i := 29) rfl)))) (mvT hZ (hw _ (List.mem_of_getElem? (i := 29) rfl))) (mvT hZ (hw _ (List.mem_of_getElem? (i := 28) rfl))) (by decide) (backOf (W := 0) (rm1 l Z a0 hw [] aIDREFS aIDREF aIDREFS aENTITY aENTITIES h129 n0 Z130 O133 P3 P4 P5 P6) hZ (hw _ (List.mem_of_getElem? (i := 30) rfl)) (hw _ (List.mem_of_getElem? (i := 3) rfl)) (by decide) (by decide)) q151a q151c (g := (mkF m 130 #[.val (.int px), .val (.ref b1), .val (.ref b67), .val (.int (3 : Int32))] [(.ref aIDREFS)])) rfl (by rw [hml]; rfl) (Steps.refl _) (argsL := []) (rest := []) (lenOf own_pd0 rfl) rfl (by show 2 * 0 + _ ≤ _; exact Nat.le_of_eq rfl) (hb hby at_130) (fun _ _ => ⟨rfl, e129, (by decide : 2 + 0 ≤ _), (by decide : 20 + 0 ≤ _)⟩)
    dsimp only [Pt.U, Pt.locs, Pt.cells, Pt.slots] at X151 l151 y151 z151 st151 hQ151
    subst l151 y151 z151
    obtain ⟨rfl, Nq151, hh151⟩ := hQ151
    obtain ⟨lc151, Xh151, N151⟩ := own_hide X151 (Fr.app N132 Nq151)
    clear X151
    refine Go.hop st151 ?_
    show Go p.tables e below P T151 (mkF m 133 #[.val (.int px), .val (.ref b1), .val (.ref b67), .val (.int (3 : Int32))] [(.int (if ((.ref aIDREFS) : Value) = (.ref aIDREF) then (1 : Int32) else (if ((.ref aIDREFS) : Value) = (.ref aIDREFS) then (1 : Int32) else (if ((.ref aIDREFS) : Value) = (.ref aENTITY) then (1 : Int32) else (if ((.ref aIDREFS) : Value) = (.ref aENTITIES) then (1 : Int32) else (0 : Int32))))))])
    refine Go.via (fun t k => XS.aloadN Xh151.here hx rfl (hb hby at_133) rfl rfl k) ?_
    show Go p.tables e below P T151 (mkF m 134 #[.val (.int px), .val (.ref b1), .val (.ref b67), .val (.int (3 : Int32))] [(.ref b67), (.int (if ((.ref aIDREFS) : Value) = (.ref aIDREF) then (1 : Int32) else (if ((.ref aIDREFS) : Value) = (.ref aIDREFS) then (1 : Int32) else (if ((.ref aIDREFS) : Value) = (.ref aENTITY) then (1 : Int32) else (if ((.ref aIDREFS) : Value) = (.ref aENTITIES) then (1 : Int32) else (0 : Int32))))))])
    refine Go.via (fun t k => XS.iloadN Xh151.here hx rfl (hb hby at_134) rfl k) ?_
    show Go p.tables e below P T151 (mkF m 135 #[.val (.int px), .val (.ref b1), .val (.ref b67), .val (.int (3 : Int32))] [(.int (3 : Int32)), (.ref b67), (.int (if ((.ref aIDREFS) : Value) = (.ref aIDREF) then (1 : Int32) else (if ((.ref aIDREFS) : Value) = (.ref aIDREFS) then (1 : Int32) else (if ((.ref aIDREFS) : Value) = (.ref aENTITY) then (1 : Int32) else (if ((.ref aIDREFS) : Value) = (.ref aENTITIES) then (1 : Int32) else (0 : Int32))))))])
    obtain ⟨c152, A152, q152, S152, N152, H152, G152⟩ := id V129
    have hin152 : ¬ ((3 : Int32) < 0 ∨ c152.slots.size ≤ ((3 : Int32)).toNatClampNeg) := inb_of S152 ⟨by decide, by decide⟩
    have hat152 : c152.slots[((3 : Int32)).toNatClampNeg]? = some (.int (nar .boolean (1 : Int32))) := (H152 _ (Nat.lt_of_not_le fun q => hin152 (Or.inr q))).trans (congrArg some rfl)
    refine Go.via (fun t k => Xh151.baloadBooleans hx (j := (3 : Int32)) (v := (.int (nar .boolean (1 : Int32)))) (by rw [hh151]; exact A152.1) (State.isArrayOf_alike hZ.alike A152.2.1) A152.2.2 hin152 hat152 (g := (mkF m 135 #[.val (.int px), .val (.ref b1), .val (.ref b67), .val (.int (3 : Int32))] [(.int (3 : Int32)), (.ref b67), (.int (if ((.ref aIDREFS) : Value) = (.ref aIDREF) then (1 : Int32) else (if ((.ref aIDREFS) : Value) = (.ref aIDREFS) then (1 : Int32) else (if ((.ref aIDREFS) : Value) = (.ref aENTITY) then (1 : Int32) else (if ((.ref aIDREFS) : Value) = (.ref aENTITIES) then (1 : Int32) else (0 : Int32))))))])) rfl rfl (hb hby at_135) t k) ?_
    show Go p.tables e below P T151 (mkF m 136 #[.val (.int px), .val (.ref b1), .val (.ref b67), .val (.int (3 : Int32))] [(.int (nar .boolean (1 : Int32))), (.int (if ((.ref aIDREFS) : Value) = (.ref aIDREF) then (1 : Int32) else (if ((.ref aIDREFS) : Value) = (.ref aIDREFS) then (1 : Int32) else (if ((.ref aIDREFS) : Value) = (.ref aENTITY) then (1 : Int32) else (if ((.ref aIDREFS) : Value) = (.ref aENTITIES) then (1 : Int32) else (0 : Int32))))))])
    refine Go.via (fun t k => XS.icmpNo Xh151.here hx rfl (hb hby at_136) rfl (teq (Eq.trans (Eq.trans (if_neg fun q => (Fld.ne P24 P23 (by decide)) (Value.ref.inj q)) (if_pos rfl)) (by decide))).2 k) ?_
    show Go p.tables e below P T151 (mkF m 139 #[.val (.int px), .val (.ref b1), .val (.ref b67), .val (.int (3 : Int32))] [])
    refine Go.via (fun t k => XS.iconst Xh151.here hx rfl (hb hby at_139) k) ?_
    show Go p.tables e below P T151 (mkF m 140 #[.val (.int px), .val (.ref b1), .val (.ref b67), .val (.int (3 : Int32))] [(.int (1 : Int32))])
    refine Go.via (fun t k => XS.goto Xh151.here hx rfl (pc0 := 140) (pc' := 144) rfl (hb hby at_140) (by decide) (by decide) k) ?_
    show Go p.tables e below P T151 (mkF m 144 #[.val (.int px), .val (.ref b1), .val (.ref b67), .val (.int (3 : Int32))] [(.int (1 : Int32))])
    obtain ⟨fs, hr, hrun, hended, hW, hsame⟩ := Xh151.leave (v := some (.int (1 : Int32))) (fun h => by rw [Bd.returns] at h; cases h)
    refine ⟨_, _, retZ Xh151 hx (t := .boolean) Bd.returns (by simp) (hb hby at_144) rfl hr, hrun, hended, hP _ _ ⟨_, _, rfl, ?_, ⟨_, rfl⟩, hW, hsame.mono (by decide) (by decide)⟩⟩
    show Q0 Z px aCDATA aID aIDREF aIDREFS aENTITY aENTITIES aNMTOKEN aNMTOKENS aNOTATION aENUMERATION h0 n0 _ T151.heap _
    rw [hh151]
    exact ⟨rfl, N151⟩
  · rw [hi4]
    show Go p.tables e below P T129 (mkF m 127 #[.val (.int px), .val (.ref b1), .val (.ref b67), .val (.int (4 : Int32))] [])
    refine Go.via (fun t k => XS.aloadN Xh129.here hx rfl (hb hby at_127) rfl rfl k) ?_
    show Go p.tables e below P T129 (mkF m 128 #[.val (.int px), .val (.ref b1), .val (.ref b67), .val (.int (4 : Int32))] [(.ref b1)])
    refine Go.via (fun t k => XS.iloadN Xh129.here hx rfl (hb hby at_128) rfl k) ?_
    show Go p.tables e below P T129 (mkF m 129 #[.val (.int px), .val (.ref b1), .val (.ref b67), .val (.int (4 : Int32))] [(.int (4 : Int32)), (.ref b1)])
    have F154 : Arv Z h129 b1 k1 (.object "com/example/referee/referee/model/AttributeType") (10 : Int32) [(.ref aCDATA), (.ref aID), (.ref aIDREF), (.ref aIDREFS), (.ref aENTITY), (.ref aENTITIES), (.ref aNMTOKEN), (.ref aNMTOKENS), (.ref aNOTATION), (.ref aENUMERATION)] .null := (F128.other W129 ne68)
    obtain ⟨c155, A155, q155, S155, N155, H155, G155⟩ := id F154
    have hin155 : ¬ ((4 : Int32) < 0 ∨ c155.slots.size ≤ ((4 : Int32)).toNatClampNeg) := inb_of S155 ⟨by decide, by decide⟩
    have hat155 : c155.slots[((4 : Int32)).toNatClampNeg]? = some (.ref aENTITY) := (H155 _ (Nat.lt_of_not_le fun q => hin155 (Or.inr q))).trans (congrArg some rfl)
    refine Go.via (fun t k => Xh129.aaload hx (j := (4 : Int32)) (v := (.ref aENTITY)) (by rw [e129]; exact A155.1) (State.isArrayOf_alike hZ.alike A155.2.1) rfl A155.2.2 hin155 hat155 (g := (mkF m 129 #[.val (.int px), .val (.ref b1), .val (.ref b67), .val (.int (4 : Int32))] [(.int (4 : Int32)), (.ref b1)])) rfl rfl (hb hby at_129) t k) ?_
    show Go p.tables e below P T129 (mkF m 130 #[.val (.int px), .val (.ref b1), .val (.ref b67), .val (.int (4 : Int32))] [(.ref aENTITY)])
    obtain ⟨cq156, kq156, q156a, q156b, q156c⟩ := isOf hZ e129 (P15.ext O133.2)
    obtain ⟨_, _, ⟨T156, L156, k156, n156⟩, -, X156, ⟨Lc156, hQ156, l156, y156, z156⟩, st156⟩ := Xh129.virtualBack hx (y := (⟨"com/example/referee/referee/model/AttributeType", "refers", "()Z"⟩ : MethodName)) (z := (⟨"com/example/referee/referee/model/AttributeType", "refers", "()Z"⟩ : MethodName)) hown (mvT hZ (hw _ (List.mem_of_getElem? (i := 26) rfl))) (mvT hZ (hw _ (List.mem_of_getElem? (i := 27) rfl))) (notFace_of_selects (args := #[]) (mvT hZ (hw _ (List.mem_of_getElem? (i := 29) rfl)))) (mvT hZ (hw _ (List.mem_of_getElem? (i := 29) rfl))) (mvT hZ (hw _ (List.mem_of_getElem? (i := 28) rfl))) (by decide) (backOf (W := 0) (rm1 l Z a0 hw [] aENTITY aIDREF aIDREFS aENTITY aENTITIES h129 n0 Z130 O133 P3 P4 P5 P6) hZ (hw _ (List.mem_of_getElem? (i := 30) rfl)) (hw _ (List.mem_of_getElem? (i := 3) rfl)) (by decide) (by decide)) q156a q156c (g := (mkF m 130 #[.val (.int px), .val (.ref b1), .val (.ref b67), .val (.int (4 : Int32))] [(.ref aENTITY)])) rfl (by rw [hml]; rfl) (Steps.refl _) (argsL := []) (rest := []) (lenOf own_pd0 rfl) rfl (by show 2 * 0 + _ ≤ _; exact Nat.le_of_eq rfl) (hb hby at_130) (fun _ _ => ⟨rfl, e129, (by decide : 2 + 0 ≤ _), (by decide : 20 + 0 ≤ _)⟩)
    dsimp only [Pt.U, Pt.locs, Pt.cells, Pt.slots] at X156 l156 y156 z156 st156 hQ156
    subst l156 y156 z156
    obtain ⟨rfl, Nq156, hh156⟩ := hQ156
    obtain ⟨lc156, Xh156, N156⟩ := own_hide X156 (Fr.app N132 Nq156)
    clear X156
    refine Go.hop st156 ?_
    show Go p.tables e below P T156 (mkF m 133 #[.val (.int px), .val (.ref b1), .val (.ref b67), .val (.int (4 : Int32))] [(.int (if ((.ref aENTITY) : Value) = (.ref aIDREF) then (1 : Int32) else (if ((.ref aENTITY) : Value) = (.ref aIDREFS) then (1 : Int32) else (if ((.ref aENTITY) : Value) = (.ref aENTITY) then (1 : Int32) else (if ((.ref aENTITY) : Value) = (.ref aENTITIES) then (1 : Int32) else (0 : Int32))))))])
    refine Go.via (fun t k => XS.aloadN Xh156.here hx rfl (hb hby at_133) rfl rfl k) ?_
    show Go p.tables e below P T156 (mkF m 134 #[.val (.int px), .val (.ref b1), .val (.ref b67), .val (.int (4 : Int32))] [(.ref b67), (.int (if ((.ref aENTITY) : Value) = (.ref aIDREF) then (1 : Int32) else (if ((.ref aENTITY) : Value) = (.ref aIDREFS) then (1 : Int32) else (if ((.ref aENTITY) : Value) = (.ref aENTITY) then (1 : Int32) else (if ((.ref aENTITY) : Value) = (.ref aENTITIES) then (1 : Int32) else (0 : Int32))))))])
    refine Go.via (fun t k => XS.iloadN Xh156.here hx rfl (hb hby at_134) rfl k) ?_
    show Go p.tables e below P T156 (mkF m 135 #[.val (.int px), .val (.ref b1), .val (.ref b67), .val (.int (4 : Int32))] [(.int (4 : Int32)), (.ref b67), (.int (if ((.ref aENTITY) : Value) = (.ref aIDREF) then (1 : Int32) else (if ((.ref aENTITY) : Value) = (.ref aIDREFS) then (1 : Int32) else (if ((.ref aENTITY) : Value) = (.ref aENTITY) then (1 : Int32) else (if ((.ref aENTITY) : Value) = (.ref aENTITIES) then (1 : Int32) else (0 : Int32))))))])
    obtain ⟨c157, A157, q157, S157, N157, H157, G157⟩ := id V129
    have hin157 : ¬ ((4 : Int32) < 0 ∨ c157.slots.size ≤ ((4 : Int32)).toNatClampNeg) := inb_of S157 ⟨by decide, by decide⟩
    have hat157 : c157.slots[((4 : Int32)).toNatClampNeg]? = some (.int (nar .boolean (1 : Int32))) := (H157 _ (Nat.lt_of_not_le fun q => hin157 (Or.inr q))).trans (congrArg some rfl)
    refine Go.via (fun t k => Xh156.baloadBooleans hx (j := (4 : Int32)) (v := (.int (nar .boolean (1 : Int32)))) (by rw [hh156]; exact A157.1) (State.isArrayOf_alike hZ.alike A157.2.1) A157.2.2 hin157 hat157 (g := (mkF m 135 #[.val (.int px), .val (.ref b1), .val (.ref b67), .val (.int (4 : Int32))] [(.int (4 : Int32)), (.ref b67), (.int (if ((.ref aENTITY) : Value) = (.ref aIDREF) then (1 : Int32) else (if ((.ref aENTITY) : Value) = (.ref aIDREFS) then (1 : Int32) else (if ((.ref aENTITY) : Value) = (.ref aENTITY) then (1 : Int32) else (if ((.ref aENTITY) : Value) = (.ref aENTITIES) then (1 : Int32) else (0 : Int32))))))])) rfl rfl (hb hby at_135) t k) ?_
    show Go p.tables e below P T156 (mkF m 136 #[.val (.int px), .val (.ref b1), .val (.ref b67), .val (.int (4 : Int32))] [(.int (nar .boolean (1 : Int32))), (.int (if ((.ref aENTITY) : Value) = (.ref aIDREF) then (1 : Int32) else (if ((.ref aENTITY) : Value) = (.ref aIDREFS) then (1 : Int32) else (if ((.ref aENTITY) : Value) = (.ref aENTITY) then (1 : Int32) else (if ((.ref aENTITY) : Value) = (.ref aENTITIES) then (1 : Int32) else (0 : Int32))))))])
    refine Go.via (fun t k => XS.icmpNo Xh156.here hx rfl (hb hby at_136) rfl (teq (Eq.trans (Eq.trans (Eq.trans (if_neg fun q => (Fld.ne P25 P23 (by decide)) (Value.ref.inj q)) (if_neg fun q => (Fld.ne P25 P24 (by decide)) (Value.ref.inj q))) (if_pos rfl)) (by decide))).2 k) ?_
    show Go p.tables e below P T156 (mkF m 139 #[.val (.int px), .val (.ref b1), .val (.ref b67), .val (.int (4 : Int32))] [])
    refine Go.via (fun t k => XS.iconst Xh156.here hx rfl (hb hby at_139) k) ?_
    show Go p.tables e below P T156 (mkF m 140 #[.val (.int px), .val (.ref b1), .val (.ref b67), .val (.int (4 : Int32))] [(.int (1 : Int32))])
    refine Go.via (fun t k => XS.goto Xh156.here hx rfl (pc0 := 140) (pc' := 144) rfl (hb hby at_140) (by decide) (by decide) k) ?_
    show Go p.tables e below P T156 (mkF m 144 #[.val (.int px), .val (.ref b1), .val (.ref b67), .val (.int (4 : Int32))] [(.int (1 : Int32))])
    obtain ⟨fs, hr, hrun, hended, hW, hsame⟩ := Xh156.leave (v := some (.int (1 : Int32))) (fun h => by rw [Bd.returns] at h; cases h)
    refine ⟨_, _, retZ Xh156 hx (t := .boolean) Bd.returns (by simp) (hb hby at_144) rfl hr, hrun, hended, hP _ _ ⟨_, _, rfl, ?_, ⟨_, rfl⟩, hW, hsame.mono (by decide) (by decide)⟩⟩
    show Q0 Z px aCDATA aID aIDREF aIDREFS aENTITY aENTITIES aNMTOKEN aNMTOKENS aNOTATION aENUMERATION h0 n0 _ T156.heap _
    rw [hh156]
    exact ⟨rfl, N156⟩
  · rw [hi5]
    show Go p.tables e below P T129 (mkF m 127 #[.val (.int px), .val (.ref b1), .val (.ref b67), .val (.int (5 : Int32))] [])
    refine Go.via (fun t k => XS.aloadN Xh129.here hx rfl (hb hby at_127) rfl rfl k) ?_
    show Go p.tables e below P T129 (mkF m 128 #[.val (.int px), .val (.ref b1), .val (.ref b67), .val (.int (5 : Int32))] [(.ref b1)])
    refine Go.via (fun t k => XS.iloadN Xh129.here hx rfl (hb hby at_128) rfl k) ?_
    show Go p.tables e below P T129 (mkF m 129 #[.val (.int px), .val (.ref b1), .val (.ref b67), .val (.int (5 : Int32))] [(.int (5 : Int32)), (.ref b1)])
    have F159 : Arv Z h129 b1 k1 (.object "com/example/referee/referee/model/AttributeType") (10 : Int32) [(.ref aCDATA), (.ref aID), (.ref aIDREF), (.ref aIDREFS), (.ref aENTITY), (.ref aENTITIES), (.ref aNMTOKEN), (.ref aNMTOKENS), (.ref aNOTATION), (.ref aENUMERATION)] .null := (F128.other W129 ne68)
    obtain ⟨c160, A160, q160, S160, N160, H160, G160⟩ := id F159
    have hin160 : ¬ ((5 : Int32) < 0 ∨ c160.slots.size ≤ ((5 : Int32)).toNatClampNeg) := inb_of S160 ⟨by decide, by decide⟩
    have hat160 : c160.slots[((5 : Int32)).toNatClampNeg]? = some (.ref aENTITIES) := (H160 _ (Nat.lt_of_not_le fun q => hin160 (Or.inr q))).trans (congrArg some rfl)
    refine Go.via (fun t k => Xh129.aaload hx (j := (5 : Int32)) (v := (.ref aENTITIES)) (by rw [e129]; exact A160.1) (State.isArrayOf_alike hZ.alike A160.2.1) rfl A160.2.2 hin160 hat160 (g := (mkF m 129 #[.val (.int px), .val (.ref b1), .val (.ref b67), .val (.int (5 : Int32))] [(.int (5 : Int32)), (.ref b1)])) rfl rfl (hb hby at_129) t k) ?_
    show Go p.tables e below P T129 (mkF m 130 #[.val (.int px), .val (.ref b1), .val (.ref b67), .val (.int (5 : Int32))] [(.ref aENTITIES)])
    obtain ⟨cq161, kq161, q161a, q161b, q161c⟩ := isOf hZ e129 (P16.ext O133.2)
    obtain ⟨_, _, ⟨T161, L161, k161, n161⟩, -, X161, ⟨Lc161, hQ161, l161, y161, z161⟩, st161⟩ := Xh129.virtualBack hx (y := (⟨"com/example/referee/referee/model/AttributeType", "refers", "()Z"⟩ : MethodName)) (z := (⟨"com/example/referee/referee/model/AttributeType", "refers", "()Z"⟩ : MethodName)) hown (mvT hZ (hw _ (List.mem_of_getElem? (i := 26) rfl))) (mvT hZ (hw _ (List.mem_of_getElem? (i := 27) rfl))) (notFace_of_selects (args := #[]) (mvT hZ (hw _ (List.mem_of_getElem? (i := 29) rfl)))) (mvT hZ (hw _ (List.mem_of_getElem? (i := 29) rfl))) (mvT hZ (hw _ (List.mem_of_getElem? (i := 28) rfl))) (by decide) (backOf (W := 0) (rm1 l Z a0 hw [] aENTITIES aIDREF aIDREFS aENTITY aENTITIES h129 n0 Z130 O133 P3 P4 P5 P6) hZ (hw _ (List.mem_of_getElem? (i := 30) rfl)) (hw _ (List.mem_of_getElem? (i := 3) rfl)) (by decide) (by decide)) q161a q161c (g := (mkF m 130 #[.val (.int px), .val (.ref b1), .val (.ref b67), .val (.int (5 : Int32))] [(.ref aENTITIES)])) rfl (by rw [hml]; rfl) (Steps.refl _) (argsL := []) (rest := []) (lenOf own_pd0 rfl) rfl (by show 2 * 0 + _ ≤ _; exact Nat.le_of_eq rfl) (hb hby at_130) (fun _ _ => ⟨rfl, e129, (by decide : 2 + 0 ≤ _), (by decide : 20 + 0 ≤ _)⟩)
    dsimp only [Pt.U, Pt.locs, Pt.cells, Pt.slots] at X161 l161 y161 z161 st161 hQ161
    subst l161 y161 z161
    obtain ⟨rfl, Nq161, hh161⟩ := hQ161
    obtain ⟨lc161, Xh161, N161⟩ := own_hide X161 (Fr.app N132 Nq161)
    clear X161
    refine Go.hop st161 ?_
    show Go p.tables e below P T161 (mkF m 133 #[.val (.int px), .val (.ref b1), .val (.ref b67), .val (.int (5 : Int32))] [(.int (if ((.ref aENTITIES) : Value) = (.ref aIDREF) then (1 : Int32) else (if ((.ref aENTITIES) : Value) = (.ref aIDREFS) then (1 : Int32) else (if ((.ref aENTITIES) : Value) = (.ref aENTITY) then (1 : Int32) else (if ((.ref aENTITIES) : Value) = (.ref aENTITIES) then (1 : Int32) else (0 : Int32))))))])
    refine Go.via (fun t k => XS.aloadN Xh161.here hx rfl (hb hby at_133) rfl rfl k) ?_
    show Go p.tables e below P T161 (mkF m 134 #[.val (.int px), .val (.ref b1), .val (.ref b67), .val (.int (5 : Int32))] [(.ref b67), (.int (if ((.ref aENTITIES) : Value) = (.ref aIDREF) then (1 : Int32) else (if ((.ref aENTITIES) : Value) = (.ref aIDREFS) then (1 : Int32) else (if ((.ref aENTITIES) : Value) = (.ref aENTITY) then (1 : Int32) else (if ((.ref aENTITIES) : Value) = (.ref aENTITIES) then (1 : Int32) else (0 : Int32))))))])
    refine Go.via (fun t k => XS.iloadN Xh161.here hx rfl (hb hby at_134) rfl k) ?_
    show Go p.tables e below P T161 (mkF m 135 #[.val (.int px), .val (.ref b1), .val (.ref b67), .val (.int (5 : Int32))] [(.int (5 : Int32)), (.ref b67), (.int (if ((.ref aENTITIES) : Value) = (.ref aIDREF) then (1 : Int32) else (if ((.ref aENTITIES) : Value) = (.ref aIDREFS) then (1 : Int32) else (if ((.ref aENTITIES) : Value) = (.ref aENTITY) then (1 : Int32) else (if ((.ref aENTITIES) : Value) = (.ref aENTITIES) then (1 : Int32) else (0 : Int32))))))])
    obtain ⟨c162, A162, q162, S162, N162, H162, G162⟩ := id V129
    have hin162 : ¬ ((5 : Int32) < 0 ∨ c162.slots.size ≤ ((5 : Int32)).toNatClampNeg) := inb_of S162 ⟨by decide, by decide⟩
    have hat162 : c162.slots[((5 : Int32)).toNatClampNeg]? = some (.int (nar .boolean (1 : Int32))) := (H162 _ (Nat.lt_of_not_le fun q => hin162 (Or.inr q))).trans (congrArg some rfl)
    refine Go.via (fun t k => Xh161.baloadBooleans hx (j := (5 : Int32)) (v := (.int (nar .boolean (1 : Int32)))) (by rw [hh161]; exact A162.1) (State.isArrayOf_alike hZ.alike A162.2.1) A162.2.2 hin162 hat162 (g := (mkF m 135 #[.val (.int px), .val (.ref b1), .val (.ref b67), .val (.int (5 : Int32))] [(.int (5 : Int32)), (.ref b67), (.int (if ((.ref aENTITIES) : Value) = (.ref aIDREF) then (1 : Int32) else (if ((.ref aENTITIES) : Value) = (.ref aIDREFS) then (1 : Int32) else (if ((.ref aENTITIES) : Value) = (.ref aENTITY) then (1 : Int32) else (if ((.ref aENTITIES) : Value) = (.ref aENTITIES) then (1 : Int32) else (0 : Int32))))))])) rfl rfl (hb hby at_135) t k) ?_
    show Go p.tables e below P T161 (mkF m 136 #[.val (.int px), .val (.ref b1), .val (.ref b67), .val (.int (5 : Int32))] [(.int (nar .boolean (1 : Int32))), (.int (if ((.ref aENTITIES) : Value) = (.ref aIDREF) then (1 : Int32) else (if ((.ref aENTITIES) : Value) = (.ref aIDREFS) then (1 : Int32) else (if ((.ref aENTITIES) : Value) = (.ref aENTITY) then (1 : Int32) else (if ((.ref aENTITIES) : Value) = (.ref aENTITIES) then (1 : Int32) else (0 : Int32))))))])
    refine Go.via (fun t k => XS.icmpNo Xh161.here hx rfl (hb hby at_136) rfl (teq (Eq.trans (Eq.trans (Eq.trans (Eq.trans (if_neg fun q => (Fld.ne P26 P23 (by decide)) (Value.ref.inj q)) (if_neg fun q => (Fld.ne P26 P24 (by decide)) (Value.ref.inj q))) (if_neg fun q => (Fld.ne P26 P25 (by decide)) (Value.ref.inj q))) (if_pos rfl)) (by decide))).2 k) ?_
    show Go p.tables e below P T161 (mkF m 139 #[.val (.int px), .val (.ref b1), .val (.ref b67), .val (.int (5 : Int32))] [])
    refine Go.via (fun t k => XS.iconst Xh161.here hx rfl (hb hby at_139) k) ?_
    show Go p.tables e below P T161 (mkF m 140 #[.val (.int px), .val (.ref b1), .val (.ref b67), .val (.int (5 : Int32))] [(.int (1 : Int32))])
    refine Go.via (fun t k => XS.goto Xh161.here hx rfl (pc0 := 140) (pc' := 144) rfl (hb hby at_140) (by decide) (by decide) k) ?_
    show Go p.tables e below P T161 (mkF m 144 #[.val (.int px), .val (.ref b1), .val (.ref b67), .val (.int (5 : Int32))] [(.int (1 : Int32))])
    obtain ⟨fs, hr, hrun, hended, hW, hsame⟩ := Xh161.leave (v := some (.int (1 : Int32))) (fun h => by rw [Bd.returns] at h; cases h)
    refine ⟨_, _, retZ Xh161 hx (t := .boolean) Bd.returns (by simp) (hb hby at_144) rfl hr, hrun, hended, hP _ _ ⟨_, _, rfl, ?_, ⟨_, rfl⟩, hW, hsame.mono (by decide) (by decide)⟩⟩
    show Q0 Z px aCDATA aID aIDREF aIDREFS aENTITY aENTITIES aNMTOKEN aNMTOKENS aNOTATION aENUMERATION h0 n0 _ T161.heap _
    rw [hh161]
    exact ⟨rfl, N161⟩
  · rw [hi6]
    show Go p.tables e below P T129 (mkF m 127 #[.val (.int px), .val (.ref b1), .val (.ref b67), .val (.int (6 : Int32))] [])
    refine Go.via (fun t k => XS.aloadN Xh129.here hx rfl (hb hby at_127) rfl rfl k) ?_
    show Go p.tables e below P T129 (mkF m 128 #[.val (.int px), .val (.ref b1), .val (.ref b67), .val (.int (6 : Int32))] [(.ref b1)])
    refine Go.via (fun t k => XS.iloadN Xh129.here hx rfl (hb hby at_128) rfl k) ?_
    show Go p.tables e below P T129 (mkF m 129 #[.val (.int px), .val (.ref b1), .val (.ref b67), .val (.int (6 : Int32))] [(.int (6 : Int32)), (.ref b1)])
    have F164 : Arv Z h129 b1 k1 (.object "com/example/referee/referee/model/AttributeType") (10 : Int32) [(.ref aCDATA), (.ref aID), (.ref aIDREF), (.ref aIDREFS), (.ref aENTITY), (.ref aENTITIES), (.ref aNMTOKEN), (.ref aNMTOKENS), (.ref aNOTATION), (.ref aENUMERATION)] .null := (F128.other W129 ne68)
    obtain ⟨c165, A165, q165, S165, N165, H165, G165⟩ := id F164
    have hin165 : ¬ ((6 : Int32) < 0 ∨ c165.slots.size ≤ ((6 : Int32)).toNatClampNeg) := inb_of S165 ⟨by decide, by decide⟩
    have hat165 : c165.slots[((6 : Int32)).toNatClampNeg]? = some (.ref aNMTOKEN) := (H165 _ (Nat.lt_of_not_le fun q => hin165 (Or.inr q))).trans (congrArg some rfl)
    refine Go.via (fun t k => Xh129.aaload hx (j := (6 : Int32)) (v := (.ref aNMTOKEN)) (by rw [e129]; exact A165.1) (State.isArrayOf_alike hZ.alike A165.2.1) rfl A165.2.2 hin165 hat165 (g := (mkF m 129 #[.val (.int px), .val (.ref b1), .val (.ref b67), .val (.int (6 : Int32))] [(.int (6 : Int32)), (.ref b1)])) rfl rfl (hb hby at_129) t k) ?_
    show Go p.tables e below P T129 (mkF m 130 #[.val (.int px), .val (.ref b1), .val (.ref b67), .val (.int (6 : Int32))] [(.ref aNMTOKEN)])
    obtain ⟨cq166, kq166, q166a, q166b, q166c⟩ := isOf hZ e129 (P17.ext O133.2)
    obtain ⟨_, _, ⟨T166, L166, k166, n166⟩, -, X166, ⟨Lc166, hQ166, l166, y166, z166⟩, st166⟩ := Xh129.virtualBack hx (y := (⟨"com/example/referee/referee/model/AttributeType", "refers", "()Z"⟩ : MethodName)) (z := (⟨"com/example/referee/referee/model/AttributeType", "refers", "()Z"⟩ : MethodName)) hown (mvT hZ (hw _ (List.mem_of_getElem? (i := 26) rfl))) (mvT hZ (hw _ (List.mem_of_getElem? (i := 27) rfl))) (notFace_of_selects (args := #[]) (mvT hZ (hw _ (List.mem_of_getElem? (i := 29) rfl)))) (mvT hZ (hw _ (List.mem_of_getElem? (i := 29) rfl))) (mvT hZ (hw _ (List.mem_of_getElem? (i := 28) rfl))) (by decide) (backOf (W := 0) (rm1 l Z a0 hw [] aNMTOKEN aIDREF aIDREFS aENTITY aENTITIES h129 n0 Z130 O133 P3 P4 P5 P6) hZ (hw _ (List.mem_of_getElem? (i := 30) rfl)) (hw _ (List.mem_of_getElem? (i := 3) rfl)) (by decide) (by decide)) q166a q166c (g := (mkF m 130 #[.val (.int px), .val (.ref b1), .val (.ref b67), .val (.int (6 : Int32))] [(.ref aNMTOKEN)])) rfl (by rw [hml]; rfl) (Steps.refl _) (argsL := []) (rest := []) (lenOf own_pd0 rfl) rfl (by show 2 * 0 + _ ≤ _; exact Nat.le_of_eq rfl) (hb hby at_130) (fun _ _ => ⟨rfl, e129, (by decide : 2 + 0 ≤ _), (by decide : 20 + 0 ≤ _)⟩)
    dsimp only [Pt.U, Pt.locs, Pt.cells, Pt.slots] at X166 l166 y166 z166 st166 hQ166
    subst l166 y166 z166
    obtain ⟨rfl, Nq166, hh166⟩ := hQ166
    obtain ⟨lc166, Xh166, N166⟩ := own_hide X166 (Fr.app N132 Nq166)
    clear X166
    refine Go.hop st166 ?_
    show Go p.tables e below P T166 (mkF m 133 #[.val (.int px), .val (.ref b1), .val (.ref b67), .val (.int (6 : Int32))] [(.int (if ((.ref aNMTOKEN) : Value) = (.ref aIDREF) then (1 : Int32) else (if ((.ref aNMTOKEN) : Value) = (.ref aIDREFS) then (1 : Int32) else (if ((.ref aNMTOKEN) : Value) = (.ref aENTITY) then (1 : Int32) else (if ((.ref aNMTOKEN) : Value) = (.ref aENTITIES) then (1 : Int32) else (0 : Int32))))))])
    refine Go.via (fun t k => XS.aloadN Xh166.here hx rfl (hb hby at_133) rfl rfl k) ?_
    show Go p.tables e below P T166 (mkF m 134 #[.val (.int px), .val (.ref b1), .val (.ref b67), .val (.int (6 : Int32))] [(.ref b67), (.int (if ((.ref aNMTOKEN) : Value) = (.ref aIDREF) then (1 : Int32) else (if ((.ref aNMTOKEN) : Value) = (.ref aIDREFS) then (1 : Int32) else (if ((.ref aNMTOKEN) : Value) = (.ref aENTITY) then (1 : Int32) else (if ((.ref aNMTOKEN) : Value) = (.ref aENTITIES) then (1 : Int32) else (0 : Int32))))))])
    refine Go.via (fun t k => XS.iloadN Xh166.here hx rfl (hb hby at_134) rfl k) ?_
    show Go p.tables e below P T166 (mkF m 135 #[.val (.int px), .val (.ref b1), .val (.ref b67), .val (.int (6 : Int32))] [(.int (6 : Int32)), (.ref b67), (.int (if ((.ref aNMTOKEN) : Value) = (.ref aIDREF) then (1 : Int32) else (if ((.ref aNMTOKEN) : Value) = (.ref aIDREFS) then (1 : Int32) else (if ((.ref aNMTOKEN) : Value) = (.ref aENTITY) then (1 : Int32) else (if ((.ref aNMTOKEN) : Value) = (.ref aENTITIES) then (1 : Int32) else (0 : Int32))))))])
    obtain ⟨c167, A167, q167, S167, N167, H167, G167⟩ := id V129
    have hin167 : ¬ ((6 : Int32) < 0 ∨ c167.slots.size ≤ ((6 : Int32)).toNatClampNeg) := inb_of S167 ⟨by decide, by decide⟩
    have hat167 : c167.slots[((6 : Int32)).toNatClampNeg]? = some (.int (nar .boolean (0 : Int32))) := (H167 _ (Nat.lt_of_not_le fun q => hin167 (Or.inr q))).trans (congrArg some rfl)
    refine Go.via (fun t k => Xh166.baloadBooleans hx (j := (6 : Int32)) (v := (.int (nar .boolean (0 : Int32)))) (by rw [hh166]; exact A167.1) (State.isArrayOf_alike hZ.alike A167.2.1) A167.2.2 hin167 hat167 (g := (mkF m 135 #[.val (.int px), .val (.ref b1), .val (.ref b67), .val (.int (6 : Int32))] [(.int (6 : Int32)), (.ref b67), (.int (if ((.ref aNMTOKEN) : Value) = (.ref aIDREF) then (1 : Int32) else (if ((.ref aNMTOKEN) : Value) = (.ref aIDREFS) then (1 : Int32) else (if ((.ref aNMTOKEN) : Value) = (.ref aENTITY) then (1 : Int32) else (if ((.ref aNMTOKEN) : Value) = (.ref aENTITIES) then (1 : Int32) else (0 : Int32))))))])) rfl rfl (hb hby at_135) t k) ?_
    show Go p.tables e below P T166 (mkF m 136 #[.val (.int px), .val (.ref b1), .val (.ref b67), .val (.int (6 : Int32))] [(.int (nar .boolean (0 : Int32))), (.int (if ((.ref aNMTOKEN) : Value) = (.ref aIDREF) then (1 : Int32) else (if ((.ref aNMTOKEN) : Value) = (.ref aIDREFS) then (1 : Int32) else (if ((.ref aNMTOKEN) : Value) = (.ref aENTITY) then (1 : Int32) else (if ((.ref aNMTOKEN) : Value) = (.ref aENTITIES) then (1 : Int32) else (0 : Int32))))))])
    refine Go.via (fun t k => XS.icmpNo Xh166.here hx rfl (hb hby at_136) rfl (teq (Eq.trans (Eq.trans (Eq.trans (Eq.trans (if_neg fun q => (Fld.ne P27 P23 (by decide)) (Value.ref.inj q)) (if_neg fun q => (Fld.ne P27 P24 (by decide)) (Value.ref.inj q))) (if_neg fun q => (Fld.ne P27 P25 (by decide)) (Value.ref.inj q))) (if_neg fun q => (Fld.ne P27 P26 (by decide)) (Value.ref.inj q))) (by decide))).2 k) ?_
    show Go p.tables e below P T166 (mkF m 139 #[.val (.int px), .val (.ref b1), .val (.ref b67), .val (.int (6 : Int32))] [])
    refine Go.via (fun t k => XS.iconst Xh166.here hx rfl (hb hby at_139) k) ?_
    show Go p.tables e below P T166 (mkF m 140 #[.val (.int px), .val (.ref b1), .val (.ref b67), .val (.int (6 : Int32))] [(.int (1 : Int32))])
    refine Go.via (fun t k => XS.goto Xh166.here hx rfl (pc0 := 140) (pc' := 144) rfl (hb hby at_140) (by decide) (by decide) k) ?_
    show Go p.tables e below P T166 (mkF m 144 #[.val (.int px), .val (.ref b1), .val (.ref b67), .val (.int (6 : Int32))] [(.int (1 : Int32))])
    obtain ⟨fs, hr, hrun, hended, hW, hsame⟩ := Xh166.leave (v := some (.int (1 : Int32))) (fun h => by rw [Bd.returns] at h; cases h)
    refine ⟨_, _, retZ Xh166 hx (t := .boolean) Bd.returns (by simp) (hb hby at_144) rfl hr, hrun, hended, hP _ _ ⟨_, _, rfl, ?_, ⟨_, rfl⟩, hW, hsame.mono (by decide) (by decide)⟩⟩
    show Q0 Z px aCDATA aID aIDREF aIDREFS aENTITY aENTITIES aNMTOKEN aNMTOKENS aNOTATION aENUMERATION h0 n0 _ T166.heap _
    rw [hh166]
    exact ⟨rfl, N166⟩
  · rw [hi7]
    show Go p.tables e below P T129 (mkF m 127 #[.val (.int px), .val (.ref b1), .val (.ref b67), .val (.int (7 : Int32))] [])
    refine Go.via (fun t k => XS.aloadN Xh129.here hx rfl (hb hby at_127) rfl rfl k) ?_
    show Go p.tables e below P T129 (mkF m 128 #[.val (.int px), .val (.ref b1), .val (.ref b67), .val (.int (7 : Int32))] [(.ref b1)])
    refine Go.via (fun t k => XS.iloadN Xh129.here hx rfl (hb hby at_128) rfl k) ?_
    show Go p.tables e below P T129 (mkF m 129 #[.val (.int px), .val (.ref b1), .val (.ref b67), .val (.int (7 : Int32))] [(.int (7 : Int32)), (.ref b1)])
    have F169 : Arv Z h129 b1 k1 (.object "com/example/referee/referee/model/AttributeType") (10 : Int32) [(.ref aCDATA), (.ref aID), (.ref aIDREF), (.ref aIDREFS), (.ref aENTITY), (.ref aENTITIES), (.ref aNMTOKEN), (.ref aNMTOKENS), (.ref aNOTATION), (.ref aENUMERATION)] .null := (F128.other W129 ne68)
    obtain ⟨c170, A170, q170, S170, N170, H170, G170⟩ := id F169
    have hin170 : ¬ ((7 : Int32) < 0 ∨ c170.slots.size ≤ ((7 : Int32)).toNatClampNeg) := inb_of S170 ⟨by decide, by decide⟩
    have hat170 : c170.slots[((7 : Int32)).toNatClampNeg]? = some (.ref aNMTOKENS) := (H170 _ (Nat.lt_of_not_le fun q => hin170 (Or.inr q))).trans (congrArg some rfl)
    refine Go.via (fun t k => Xh129.aaload hx (j := (7 : Int32)) (v := (.ref aNMTOKENS)) (by rw [e129]; exact A170.1) (State.isArrayOf_alike hZ.alike A170.2.1) rfl A170.2.2 hin170 hat170 (g := (mkF m 129 #[.val (.int px), .val (.ref b1), .val (.ref b67), .val (.int (7 : Int32))] [(.int (7 : Int32)), (.ref b1)])) rfl rfl (hb hby at_129) t k) ?_
    show Go p.tables e below P T129 (mkF m 130 #[.val (.int px), .val (.ref b1), .val (.ref b67), .val (.int (7 : Int32))] [(.ref aNMTOKENS)])
    obtain ⟨cq171, kq171, q171a, q171b, q171c⟩ := isOf hZ e129 (P18.ext O133.2)
    obtain ⟨_, _, ⟨T171, L171, k171, n171⟩, -, X171, ⟨Lc171, hQ171, l171, y171, z171⟩, st171⟩ := Xh129.virtualBack hx (y := (⟨"com/example/referee/referee/model/AttributeType", "refers", "()Z"⟩ : MethodName)) (z := (⟨"com/example/referee/referee/model/AttributeType", "refers", "()Z"⟩ : MethodName)) hown (mvT hZ (hw _ (List.mem_of_getElem? (i := 26) rfl))) (mvT hZ (hw _ (List.mem_of_getElem? (i := 27) rfl))) (notFace_of_selects (args := #[]) (mvT hZ (hw _ (List.mem_of_getElem? (i := 29) rfl)))) (mvT hZ (hw _ (List.mem_of_getElem? (i := 29) rfl))) (mvT hZ (hw _ (List.mem_of_getElem? (i := 28) rfl))) (by decide) (backOf (W := 0) (rm1 l Z a0 hw [] aNMTOKENS aIDREF aIDREFS aENTITY aENTITIES h129 n0 Z130 O133 P3 P4 P5 P6) hZ (hw _ (List.mem_of_getElem? (i := 30) rfl)) (hw _ (List.mem_of_getElem? (i := 3) rfl)) (by decide) (by decide)) q171a q171c (g := (mkF m 130 #[.val (.int px), .val (.ref b1), .val (.ref b67), .val (.int (7 : Int32))] [(.ref aNMTOKENS)])) rfl (by rw [hml]; rfl) (Steps.refl _) (argsL := []) (rest := []) (lenOf own_pd0 rfl) rfl (by show 2 * 0 + _ ≤ _; exact Nat.le_of_eq rfl) (hb hby at_130) (fun _ _ => ⟨rfl, e129, (by decide : 2 + 0 ≤ _), (by decide : 20 + 0 ≤ _)⟩)
    dsimp only [Pt.U, Pt.locs, Pt.cells, Pt.slots] at X171 l171 y171 z171 st171 hQ171
    subst l171 y171 z171
    obtain ⟨rfl, Nq171, hh171⟩ := hQ171
    obtain ⟨lc171, Xh171, N171⟩ := own_hide X171 (Fr.app N132 Nq171)
    clear X171
    refine Go.hop st171 ?_
    show Go p.tables e below P T171 (mkF m 133 #[.val (.int px), .val (.ref b1), .val (.ref b67), .val (.int (7 : Int32))] [(.int (if ((.ref aNMTOKENS) : Value) = (.ref aIDREF) then (1 : Int32) else (if ((.ref aNMTOKENS) : Value) = (.ref aIDREFS) then (1 : Int32) else (if ((.ref aNMTOKENS) : Value) = (.ref aENTITY) then (1 : Int32) else (if ((.ref aNMTOKENS) : Value) = (.ref aENTITIES) then (1 : Int32) else (0 : Int32))))))])
    refine Go.via (fun t k => XS.aloadN Xh171.here hx rfl (hb hby at_133) rfl rfl k) ?_
    show Go p.tables e below P T171 (mkF m 134 #[.val (.int px), .val (.ref b1), .val (.ref b67), .val (.int (7 : Int32))] [(.ref b67), (.int (if ((.ref aNMTOKENS) : Value) = (.ref aIDREF) then (1 : Int32) else (if ((.ref aNMTOKENS) : Value) = (.ref aIDREFS) then (1 : Int32) else (if ((.ref aNMTOKENS) : Value) = (.ref aENTITY) then (1 : Int32) else (if ((.ref aNMTOKENS) : Value) = (.ref aENTITIES) then (1 : Int32) else (0 : Int32))))))])
    refine Go.via (fun t k => XS.iloadN Xh171.here hx rfl (hb hby at_134) rfl k) ?_
    show Go p.tables e below P T171 (mkF m 135 #[.val (.int px), .val (.ref b1), .val (.ref b67), .val (.int (7 : Int32))] [(.int (7 : Int32)), (.ref b67), (.int (if ((.ref aNMTOKENS) : Value) = (.ref aIDREF) then (1 : Int32) else (if ((.ref aNMTOKENS) : Value) = (.ref aIDREFS) then (1 : Int32) else (if ((.ref aNMTOKENS) : Value) = (.ref aENTITY) then (1 : Int32) else (if ((.ref aNMTOKENS) : Value) = (.ref aENTITIES) then (1 : Int32) else (0 : Int32))))))])
    obtain ⟨c172, A172, q172, S172, N172, H172, G172⟩ := id V129
    have hin172 : ¬ ((7 : Int32) < 0 ∨ c172.slots.size ≤ ((7 : Int32)).toNatClampNeg) := inb_of S172 ⟨by decide, by decide⟩
    have hat172 : c172.slots[((7 : Int32)).toNatClampNeg]? = some (.int (nar .boolean (0 : Int32))) := (H172 _ (Nat.lt_of_not_le fun q => hin172 (Or.inr q))).trans (congrArg some rfl)
    refine Go.via (fun t k => Xh171.baloadBooleans hx (j := (7 : Int32)) (v := (.int (nar .boolean (0 : Int32)))) (by rw [hh171]; exact A172.1) (State.isArrayOf_alike hZ.alike A172.2.1) A172.2.2 hin172 hat172 (g := (mkF m 135 #[.val (.int px), .val (.ref b1), .val (.ref b67), .val (.int (7 : Int32))] [(.int (7 : Int32)), (.ref b67), (.int (if ((.ref aNMTOKENS) : Value) = (.ref aIDREF) then (1 : Int32) else (if ((.ref aNMTOKENS) : Value) = (.ref aIDREFS) then (1 : Int32) else (if ((.ref aNMTOKENS) : Value) = (.ref aENTITY) then (1 : Int32) else (if ((.ref aNMTOKENS) : Value) = (.ref aENTITIES) then (1 : Int32) else (0 : Int32))))))])) rfl rfl (hb hby at_135) t k) ?_
    show Go p.tables e below P T171 (mkF m 136 #[.val (.int px), .val (.ref b1), .val (.ref b67), .val (.int (7 : Int32))] [(.int (nar .boolean (0 : Int32))), (.int (if ((.ref aNMTOKENS) : Value) = (.ref aIDREF) then (1 : Int32) else (if ((.ref aNMTOKENS) : Value) = (.ref aIDREFS) then (1 : Int32) else (if ((.ref aNMTOKENS) : Value) = (.ref aENTITY) then (1 : Int32) else (if ((.ref aNMTOKENS) : Value) = (.ref aENTITIES) then (1 : Int32) else (0 : Int32))))))])
    refine Go.via (fun t k => XS.icmpNo Xh171.here hx rfl (hb hby at_136) rfl (teq (Eq.trans (Eq.trans (Eq.trans (Eq.trans (if_neg fun q => (Fld.ne P28 P23 (by decide)) (Value.ref.inj q)) (if_neg fun q => (Fld.ne P28 P24 (by decide)) (Value.ref.inj q))) (if_neg fun q => (Fld.ne P28 P25 (by decide)) (Value.ref.inj q))) (if_neg fun q => (Fld.ne P28 P26 (by decide)) (Value.ref.inj q))) (by decide))).2 k) ?_
    show Go p.tables e below P T171 (mkF m 139 #[.val (.int px), .val (.ref b1), .val (.ref b67), .val (.int (7 : Int32))] [])
    refine Go.via (fun t k => XS.iconst Xh171.here hx rfl (hb hby at_139) k) ?_
    show Go p.tables e below P T171 (mkF m 140 #[.val (.int px), .val (.ref b1), .val (.ref b67), .val (.int (7 : Int32))] [(.int (1 : Int32))])
    refine Go.via (fun t k => XS.goto Xh171.here hx rfl (pc0 := 140) (pc' := 144) rfl (hb hby at_140) (by decide) (by decide) k) ?_
    show Go p.tables e below P T171 (mkF m 144 #[.val (.int px), .val (.ref b1), .val (.ref b67), .val (.int (7 : Int32))] [(.int (1 : Int32))])
    obtain ⟨fs, hr, hrun, hended, hW, hsame⟩ := Xh171.leave (v := some (.int (1 : Int32))) (fun h => by rw [Bd.returns] at h; cases h)
    refine ⟨_, _, retZ Xh171 hx (t := .boolean) Bd.returns (by simp) (hb hby at_144) rfl hr, hrun, hended, hP _ _ ⟨_, _, rfl, ?_, ⟨_, rfl⟩, hW, hsame.mono (by decide) (by decide)⟩⟩
    show Q0 Z px aCDATA aID aIDREF aIDREFS aENTITY aENTITIES aNMTOKEN aNMTOKENS aNOTATION aENUMERATION h0 n0 _ T171.heap _
    rw [hh171]
    exact ⟨rfl, N171⟩
  · rw [hi8]
    show Go p.tables e below P T129 (mkF m 127 #[.val (.int px), .val (.ref b1), .val (.ref b67), .val (.int (8 : Int32))] [])
    refine Go.via (fun t k => XS.aloadN Xh129.here hx rfl (hb hby at_127) rfl rfl k) ?_
    show Go p.tables e below P T129 (mkF m 128 #[.val (.int px), .val (.ref b1), .val (.ref b67), .val (.int (8 : Int32))] [(.ref b1)])
    refine Go.via (fun t k => XS.iloadN Xh129.here hx rfl (hb hby at_128) rfl k) ?_
    show Go p.tables e below P T129 (mkF m 129 #[.val (.int px), .val (.ref b1), .val (.ref b67), .val (.int (8 : Int32))] [(.int (8 : Int32)), (.ref b1)])
    have F174 : Arv Z h129 b1 k1 (.object "com/example/referee/referee/model/AttributeType") (10 : Int32) [(.ref aCDATA), (.ref aID), (.ref aIDREF), (.ref aIDREFS), (.ref aENTITY), (.ref aENTITIES), (.ref aNMTOKEN), (.ref aNMTOKENS), (.ref aNOTATION), (.ref aENUMERATION)] .null := (F128.other W129 ne68)
    obtain ⟨c175, A175, q175, S175, N175, H175, G175⟩ := id F174
    have hin175 : ¬ ((8 : Int32) < 0 ∨ c175.slots.size ≤ ((8 : Int32)).toNatClampNeg) := inb_of S175 ⟨by decide, by decide⟩
    have hat175 : c175.slots[((8 : Int32)).toNatClampNeg]? = some (.ref aNOTATION) := (H175 _ (Nat.lt_of_not_le fun q => hin175 (Or.inr q))).trans (congrArg some rfl)
    refine Go.via (fun t k => Xh129.aaload hx (j := (8 : Int32)) (v := (.ref aNOTATION)) (by rw [e129]; exact A175.1) (State.isArrayOf_alike hZ.alike A175.2.1) rfl A175.2.2 hin175 hat175 (g := (mkF m 129 #[.val (.int px), .val (.ref b1), .val (.ref b67), .val (.int (8 : Int32))] [(.int (8 : Int32)), (.ref b1)])) rfl rfl (hb hby at_129) t k) ?_
    show Go p.tables e below P T129 (mkF m 130 #[.val (.int px), .val (.ref b1), .val (.ref b67), .val (.int (8 : Int32))] [(.ref aNOTATION)])
    obtain ⟨cq176, kq176, q176a, q176b, q176c⟩ := isOf hZ e129 (P19.ext O133.2)
    obtain ⟨_, _, ⟨T176, L176, k176, n176⟩, -, X176, ⟨Lc176, hQ176, l176, y176, z176⟩, st176⟩ := Xh129.virtualBack hx (y := (⟨"com/example/referee/referee/model/AttributeType", "refers", "()Z"⟩ : MethodName)) (z := (⟨"com/example/referee/referee/model/AttributeType", "refers", "()Z"⟩ : MethodName)) hown (mvT hZ (hw _ (List.mem_of_getElem? (i := 26) rfl))) (mvT hZ (hw _ (List.mem_of_getElem? (i := 27) rfl))) (notFace_of_selects (args := #[]) (mvT hZ (hw _ (List.mem_of_getElem? (i := 29) rfl)))) (mvT hZ (hw _ (List.mem_of_getElem? (i := 29) rfl))) (mvT hZ (hw _ (List.mem_of_getElem? (i := 28) rfl))) (by decide) (backOf (W := 0) (rm1 l Z a0 hw [] aNOTATION aIDREF aIDREFS aENTITY aENTITIES h129 n0 Z130 O133 P3 P4 P5 P6) hZ (hw _ (List.mem_of_getElem? (i := 30) rfl)) (hw _ (List.mem_of_getElem? (i := 3) rfl)) (by decide) (by decide)) q176a q176c (g := (mkF m 130 #[.val (.int px), .val (.ref b1), .val (.ref b67), .val (.int (8 : Int32))] [(.ref aNOTATION)])) rfl (by rw [hml]; rfl) (Steps.refl _) (argsL := []) (rest := []) (lenOf own_pd0 rfl) rfl (by show 2 * 0 + _ ≤ _; exact Nat.le_of_eq rfl) (hb hby at_130) (fun _ _ => ⟨rfl, e129, (by decide : 2 + 0 ≤ _), (by decide : 20 + 0 ≤ _)⟩)
    dsimp only [Pt.U, Pt.locs, Pt.cells, Pt.slots] at X176 l176 y176 z176 st176 hQ176
    subst l176 y176 z176
    obtain ⟨rfl, Nq176, hh176⟩ := hQ176
    obtain ⟨lc176, Xh176, N176⟩ := own_hide X176 (Fr.app N132 Nq176)
    clear X176
    refine Go.hop st176 ?_
    show Go p.tables e below P T176 (mkF m 133 #[.val (.int px), .val (.ref b1), .val (.ref b67), .val (.int (8 : Int32))] [(.int (if ((.ref aNOTATION) : Value) = (.ref aIDREF) then (1 : Int32) else (if ((.ref aNOTATION) : Value) = (.ref aIDREFS) then (1 : Int32) else (if ((.ref aNOTATION) : Value) = (.ref aENTITY) then (1 : Int32) else (if ((.ref aNOTATION) : Value) = (.ref aENTITIES) then (1 : Int32) else (0 : Int32))))))])
    refine Go.via (fun t k => XS.aloadN Xh176.here hx rfl (hb hby at_133) rfl rfl k) ?_
    show Go p.tables e below P T176 (mkF m 134 #[.val (.int px), .val (.ref b1), .val (.ref b67), .val (.int (8 : Int32))] [(.ref b67), (.int (if ((.ref aNOTATION) : Value) = (.ref aIDREF) then (1 : Int32) else (if ((.ref aNOTATION) : Value) = (.ref aIDREFS) then (1 : Int32) else (if ((.ref aNOTATION) : Value) = (.ref aENTITY) then (1 : Int32) else (if ((.ref aNOTATION) : Value) = (.ref aENTITIES) then (1 : Int32) else (0 : Int32))))))])
    refine Go.via (fun t k => XS.iloadN Xh176.here hx rfl (hb hby at_134) rfl k) ?_
    show Go p.tables e below P T176 (mkF m 135 #[.val (.int px), .val (.ref b1), .val (.ref b67), .val (.int (8 : Int32))] [(.int (8 : Int32)), (.ref b67), (.int (if ((.ref aNOTATION) : Value) = (.ref aIDREF) then (1 : Int32) else (if ((.ref aNOTATION) : Value) = (.ref aIDREFS) then (1 : Int32) else (if ((.ref aNOTATION) : Value) = (.ref aENTITY) then (1 : Int32) else (if ((.ref aNOTATION) : Value) = (.ref aENTITIES) then (1 : Int32) else (0 : Int32))))))])
    obtain ⟨c177, A177, q177, S177, N177, H177, G177⟩ := id V129
    have hin177 : ¬ ((8 : Int32) < 0 ∨ c177.slots.size ≤ ((8 : Int32)).toNatClampNeg) := inb_of S177 ⟨by decide, by decide⟩
    have hat177 : c177.slots[((8 : Int32)).toNatClampNeg]? = some (.int (nar .boolean (0 : Int32))) := (H177 _ (Nat.lt_of_not_le fun q => hin177 (Or.inr q))).trans (congrArg some rfl)
    refine Go.via (fun t k => Xh176.baloadBooleans hx (j := (8 : Int32)) (v := (.int (nar .boolean (0 : Int32)))) (by rw [hh176]; exact A177.1) (State.isArrayOf_alike hZ.alike A177.2.1) A177.2.2 hin177 hat177 (g := (mkF m 135 #[.val (.int px), .val (.ref b1), .val (.ref b67), .val (.int (8 : Int32))] [(.int (8 : Int32)), (.ref b67), (.int (if ((.ref aNOTATION) : Value) = (.ref aIDREF) then (1 : Int32) else (if ((.ref aNOTATION) : Value) = (.ref aIDREFS) then (1 : Int32) else (if ((.ref aNOTATION) : Value) = (.ref aENTITY) then (1 : Int32) else (if ((.ref aNOTATION) : Value) = (.ref aENTITIES) then (1 : Int32) else (0 : Int32))))))])) rfl rfl (hb hby at_135) t k) ?_
    show Go p.tables e below P T176 (mkF m 136 #[.val (.int px), .val (.ref b1), .val (.ref b67), .val (.int (8 : Int32))] [(.int (nar .boolean (0 : Int32))), (.int (if ((.ref aNOTATION) : Value) = (.ref aIDREF) then (1 : Int32) else (if ((.ref aNOTATION) : Value) = (.ref aIDREFS) then (1 : Int32) else (if ((.ref aNOTATION) : Value) = (.ref aENTITY) then (1 : Int32) else (if ((.ref aNOTATION) : Value) = (.ref aENTITIES) then (1 : Int32) else (0 : Int32))))))])
    refine Go.via (fun t k => XS.icmpNo Xh176.here hx rfl (hb hby at_136) rfl (teq (Eq.trans (Eq.trans (Eq.trans (Eq.trans (if_neg fun q => (Fld.ne P29 P23 (by decide)) (Value.ref.inj q)) (if_neg fun q => (Fld.ne P29 P24 (by decide)) (Value.ref.inj q))) (if_neg fun q => (Fld.ne P29 P25 (by decide)) (Value.ref.inj q))) (if_neg fun q => (Fld.ne P29 P26 (by decide)) (Value.ref.inj q))) (by decide))).2 k) ?_
    show Go p.tables e below P T176 (mkF m 139 #[.val (.int px), .val (.ref b1), .val (.ref b67), .val (.int (8 : Int32))] [])
    refine Go.via (fun t k => XS.iconst Xh176.here hx rfl (hb hby at_139) k) ?_
    show Go p.tables e below P T176 (mkF m 140 #[.val (.int px), .val (.ref b1), .val (.ref b67), .val (.int (8 : Int32))] [(.int (1 : Int32))])
    refine Go.via (fun t k => XS.goto Xh176.here hx rfl (pc0 := 140) (pc' := 144) rfl (hb hby at_140) (by decide) (by decide) k) ?_
    show Go p.tables e below P T176 (mkF m 144 #[.val (.int px), .val (.ref b1), .val (.ref b67), .val (.int (8 : Int32))] [(.int (1 : Int32))])
    obtain ⟨fs, hr, hrun, hended, hW, hsame⟩ := Xh176.leave (v := some (.int (1 : Int32))) (fun h => by rw [Bd.returns] at h; cases h)
    refine ⟨_, _, retZ Xh176 hx (t := .boolean) Bd.returns (by simp) (hb hby at_144) rfl hr, hrun, hended, hP _ _ ⟨_, _, rfl, ?_, ⟨_, rfl⟩, hW, hsame.mono (by decide) (by decide)⟩⟩
    show Q0 Z px aCDATA aID aIDREF aIDREFS aENTITY aENTITIES aNMTOKEN aNMTOKENS aNOTATION aENUMERATION h0 n0 _ T176.heap _
    rw [hh176]
    exact ⟨rfl, N176⟩
  · rw [hi9]
    show Go p.tables e below P T129 (mkF m 127 #[.val (.int px), .val (.ref b1), .val (.ref b67), .val (.int (9 : Int32))] [])
    refine Go.via (fun t k => XS.aloadN Xh129.here hx rfl (hb hby at_127) rfl rfl k) ?_
    show Go p.tables e below P T129 (mkF m 128 #[.val (.int px), .val (.ref b1), .val (.ref b67), .val (.int (9 : Int32))] [(.ref b1)])
    refine Go.via (fun t k => XS.iloadN Xh129.here hx rfl (hb hby at_128) rfl k) ?_
    show Go p.tables e below P T129 (mkF m 129 #[.val (.int px), .val (.ref b1), .val (.ref b67), .val (.int (9 : Int32))] [(.int (9 : Int32)), (.ref b1)])
    have F179 : Arv Z h129 b1 k1 (.object "com/example/referee/referee/model/AttributeType") (10 : Int32) [(.ref aCDATA), (.ref aID), (.ref aIDREF), (.ref aIDREFS), (.ref aENTITY), (.ref aENTITIES), (.ref aNMTOKEN), (.ref aNMTOKENS), (.ref aNOTATION), (.ref aENUMERATION)] .null := (F128.other W129 ne68)
    obtain ⟨c180, A180, q180, S180, N180, H180, G180⟩ := id F179
    have hin180 : ¬ ((9 : Int32) < 0 ∨ c180.slots.size ≤ ((9 : Int32)).toNatClampNeg) := inb_of S180 ⟨by decide, by decide⟩
    have hat180 : c180.slots[((9 : Int32)).toNatClampNeg]? = some (.ref aENUMERATION) := (H180 _ (Nat.lt_of_not_le fun q => hin180 (Or.inr q))).trans (congrArg some rfl)
    refine Go.via (fun t k => Xh129.aaload hx (j := (9 : Int32)) (v := (.ref aENUMERATION)) (by rw [e129]; exact A180.1) (State.isArrayOf_alike hZ.alike A180.2.1) rfl A180.2.2 hin180 hat180 (g := (mkF m 129 #[.val (.int px), .val (.ref b1), .val (.ref b67), .val (.int (9 : Int32))] [(.int (9 : Int32)), (.ref b1)])) rfl rfl (hb hby at_129) t k) ?_
    show Go p.tables e below P T129 (mkF m 130 #[.val (.int px), .val (.ref b1), .val (.ref b67), .val (.int (9 : Int32))] [(.ref aENUMERATION)])
    obtain ⟨cq181, kq181, q181a, q181b, q181c⟩ := isOf hZ e129 (P20.ext O133.2)
    obtain ⟨_, _, ⟨T181, L181, k181, n181⟩, -, X181, ⟨Lc181, hQ181, l181, y181, z181⟩, st181⟩ := Xh129.virtualBack hx (y := (⟨"com/example/referee/referee/model/AttributeType", "refers", "()Z"⟩ : MethodName)) (z := (⟨"com/example/referee/referee/model/AttributeType", "refers", "()Z"⟩ : MethodName)) hown (mvT hZ (hw _ (List.mem_of_getElem? (i := 26) rfl))) (mvT hZ (hw _ (List.mem_of_getElem? (i := 27) rfl))) (notFace_of_selects (args := #[]) (mvT hZ (hw _ (List.mem_of_getElem? (i := 29) rfl)))) (mvT hZ (hw _ (List.mem_of_getElem? (i := 29) rfl))) (mvT hZ (hw _ (List.mem_of_getElem? (i := 28) rfl))) (by decide) (backOf (W := 0) (rm1 l Z a0 hw [] aENUMERATION aIDREF aIDREFS aENTITY aENTITIES h129 n0 Z130 O133 P3 P4 P5 P6) hZ (hw _ (List.mem_of_getElem? (i := 30) rfl)) (hw _ (List.mem_of_getElem? (i := 3) rfl)) (by decide) (by decide)) q181a q181c (g := (mkF m 130 #[.val (.int px), .val (.ref b1), .val (.ref b67), .val (.int (9 : Int32))] [(.ref aENUMERATION)])) rfl (by rw [hml]; rfl) (Steps.refl _) (argsL := []) (rest := []) (lenOf own_pd0 rfl) rfl (by show 2 * 0 + _ ≤ _; exact Nat.le_of_eq rfl) (hb hby at_130) (fun _ _ => ⟨rfl, e129, (by decide : 2 + 0 ≤ _), (by decide : 20 + 0 ≤ _)⟩)
    dsimp only [Pt.U, Pt.locs, Pt.cells, Pt.slots] at X181 l181 y181 z181 st181 hQ181
    subst l181 y181 z181
    obtain ⟨rfl, Nq181, hh181⟩ := hQ181
    obtain ⟨lc181, Xh181, N181⟩ := own_hide X181 (Fr.app N132 Nq181)
    clear X181
    refine Go.hop st181 ?_
    show Go p.tables e below P T181 (mkF m 133 #[.val (.int px), .val (.ref b1), .val (.ref b67), .val (.int (9 : Int32))] [(.int (if ((.ref aENUMERATION) : Value) = (.ref aIDREF) then (1 : Int32) else (if ((.ref aENUMERATION) : Value) = (.ref aIDREFS) then (1 : Int32) else (if ((.ref aENUMERATION) : Value) = (.ref aENTITY) then (1 : Int32) else (if ((.ref aENUMERATION) : Value) = (.ref aENTITIES) then (1 : Int32) else (0 : Int32))))))])
    refine Go.via (fun t k => XS.aloadN Xh181.here hx rfl (hb hby at_133) rfl rfl k) ?_
    show Go p.tables e below P T181 (mkF m 134 #[.val (.int px), .val (.ref b1), .val (.ref b67), .val (.int (9 : Int32))] [(.ref b67), (.int (if ((.ref aENUMERATION) : Value) = (.ref aIDREF) then (1 : Int32) else (if ((.ref aENUMERATION) : Value) = (.ref aIDREFS) then (1 : Int32) else (if ((.ref aENUMERATION) : Value) = (.ref aENTITY) then (1 : Int32) else (if ((.ref aENUMERATION) : Value) = (.ref aENTITIES) then (1 : Int32) else (0 : Int32))))))])
    refine Go.via (fun t k => XS.iloadN Xh181.here hx rfl (hb hby at_134) rfl k) ?_
    show Go p.tables e below P T181 (mkF m 135 #[.val (.int px), .val (.ref b1), .val (.ref b67), .val (.int (9 : Int32))] [(.int (9 : Int32)), (.ref b67), (.int (if ((.ref aENUMERATION) : Value) = (.ref aIDREF) then (1 : Int32) else (if ((.ref aENUMERATION) : Value) = (.ref aIDREFS) then (1 : Int32) else (if ((.ref aENUMERATION) : Value) = (.ref aENTITY) then (1 : Int32) else (if ((.ref aENUMERATION) : Value) = (.ref aENTITIES) then (1 : Int32) else (0 : Int32))))))])
    obtain ⟨c182, A182, q182, S182, N182, H182, G182⟩ := id V129
    have hin182 : ¬ ((9 : Int32) < 0 ∨ c182.slots.size ≤ ((9 : Int32)).toNatClampNeg) := inb_of S182 ⟨by decide, by decide⟩
    have hat182 : c182.slots[((9 : Int32)).toNatClampNeg]? = some (.int (nar .boolean (0 : Int32))) := (H182 _ (Nat.lt_of_not_le fun q => hin182 (Or.inr q))).trans (congrArg some rfl)
    refine Go.via (fun t k => Xh181.baloadBooleans hx (j := (9 : Int32)) (v := (.int (nar .boolean (0 : Int32)))) (by rw [hh181]; exact A182.1) (State.isArrayOf_alike hZ.alike A182.2.1) A182.2.2 hin182 hat182 (g := (mkF m 135 #[.val (.int px), .val (.ref b1), .val (.ref b67), .val (.int (9 : Int32))] [(.int (9 : Int32)), (.ref b67), (.int (if ((.ref aENUMERATION) : Value) = (.ref aIDREF) then (1 : Int32) else (if ((.ref aENUMERATION) : Value) = (.ref aIDREFS) then (1 : Int32) else (if ((.ref aENUMERATION) : Value) = (.ref aENTITY) then (1 : Int32) else (if ((.ref aENUMERATION) : Value) = (.ref aENTITIES) then (1 : Int32) else (0 : Int32))))))])) rfl rfl (hb hby at_135) t k) ?_
    show Go p.tables e below P T181 (mkF m 136 #[.val (.int px), .val (.ref b1), .val (.ref b67), .val (.int (9 : Int32))] [(.int (nar .boolean (0 : Int32))), (.int (if ((.ref aENUMERATION) : Value) = (.ref aIDREF) then (1 : Int32) else (if ((.ref aENUMERATION) : Value) = (.ref aIDREFS) then (1 : Int32) else (if ((.ref aENUMERATION) : Value) = (.ref aENTITY) then (1 : Int32) else (if ((.ref aENUMERATION) : Value) = (.ref aENTITIES) then (1 : Int32) else (0 : Int32))))))])
    refine Go.via (fun t k => XS.icmpNo Xh181.here hx rfl (hb hby at_136) rfl (teq (Eq.trans (Eq.trans (Eq.trans (Eq.trans (if_neg fun q => (Fld.ne P30 P23 (by decide)) (Value.ref.inj q)) (if_neg fun q => (Fld.ne P30 P24 (by decide)) (Value.ref.inj q))) (if_neg fun q => (Fld.ne P30 P25 (by decide)) (Value.ref.inj q))) (if_neg fun q => (Fld.ne P30 P26 (by decide)) (Value.ref.inj q))) (by decide))).2 k) ?_
    show Go p.tables e below P T181 (mkF m 139 #[.val (.int px), .val (.ref b1), .val (.ref b67), .val (.int (9 : Int32))] [])
    refine Go.via (fun t k => XS.iconst Xh181.here hx rfl (hb hby at_139) k) ?_
    show Go p.tables e below P T181 (mkF m 140 #[.val (.int px), .val (.ref b1), .val (.ref b67), .val (.int (9 : Int32))] [(.int (1 : Int32))])
    refine Go.via (fun t k => XS.goto Xh181.here hx rfl (pc0 := 140) (pc' := 144) rfl (hb hby at_140) (by decide) (by decide) k) ?_
    show Go p.tables e below P T181 (mkF m 144 #[.val (.int px), .val (.ref b1), .val (.ref b67), .val (.int (9 : Int32))] [(.int (1 : Int32))])
    obtain ⟨fs, hr, hrun, hended, hW, hsame⟩ := Xh181.leave (v := some (.int (1 : Int32))) (fun h => by rw [Bd.returns] at h; cases h)
    refine ⟨_, _, retZ Xh181 hx (t := .boolean) Bd.returns (by simp) (hb hby at_144) rfl hr, hrun, hended, hP _ _ ⟨_, _, rfl, ?_, ⟨_, rfl⟩, hW, hsame.mono (by decide) (by decide)⟩⟩
    show Q0 Z px aCDATA aID aIDREF aIDREFS aENTITY aENTITIES aNMTOKEN aNMTOKENS aNOTATION aENUMERATION h0 n0 _ T181.heap _
    rw [hh181]
    exact ⟨rfl, N181⟩
set_option maxRecDepth 65536 in
set_option maxHeartbeats 40000000 in
theorem comes_1 {Post : Tables → Env → Array Value → State → Outcome → State → Prop} (hpost : ∀ tb e args s v u, (limb_1_1.after args s (.returned v) u = true ∧ limb_1_2.after args s (.returned v) u = true ∧ True) → FrameEnd s (.returned v) u (Jvm.fieldLocs frame_1_writes args s ++ Jvm.arrayLocs frame_1_arrays args s ++ Jvm.staticLocs frame_1_statics s) 16 128 → Post tb e args s (.returned v) u) :
    ArmFor flags0 classFile x code maxLocals ret World_1 tables_1 room_1 Calls_1 rest_1 Pre_1 Post := by
  intro l hfl _ _ p e ha hc hk s m args below hf hA hF happ hP
  obtain ⟨hcalls, hrest, hpre⟩ := hP
  obtain ⟨-, -, -, hnamed, -, -, -, hat⟩ := (Spec.applies_iff hf).mp happ
  obtain ⟨hg, hn⟩ := and_e (Cond.before_iff.mp (show (Jvm.Cond.and given_1 narrow_1).before args s = true from hpre))
  obtain ⟨hv0, hr0⟩ := and_e hg
  obtain ⟨w0, rfl⟩ : ∃ w0 : Value, args = #[w0] := by
    have hs : args.size = 1 := by simpa [Cond.value, given_1] using hv0
    obtain ⟨L⟩ := args
    match L, hs with
    | [w0], _ => exact ⟨w0, rfl⟩
  have hw := fun d (hd : d ∈ tables_1) => atoms_spec (ws := Jvm.Cond.code x code maxLocals ret :: tables_1) hat d (List.mem_cons_of_mem _ hd)
  have hfit : Fit s := fun {y c} hc i hi => by
    obtain ⟨ha, rfl⟩ := Array.getElem?_eq_some_iff.mp hc
    have q := List.all_eq_true.mp ((Array.all_eq_true_iff_forall_mem.mp hF) _ (Array.getElem_mem ha)) i (List.mem_range.mpr hi)
    simpa [Array.getElem?_eq_getElem hi] using q
  obtain ⟨i0, ei0⟩ := is_v hr0
  obtain rfl : w0 = (.int i0) := Option.some.inj ei0
  obtain ⟨hn1, hn2⟩ := and_e hn
  obtain ⟨hn3, hn4⟩ := and_e hn2
  obtain ⟨hn5, hn6⟩ := and_e hn4
  obtain ⟨hn7, hn8⟩ := and_e hn6
  obtain ⟨hn9, hn10⟩ := and_e hn8
  obtain ⟨hn11, hn12⟩ := and_e hn10
  obtain ⟨hn13, hn14⟩ := and_e hn12
  obtain ⟨hn15, hn16⟩ := and_e hn14
  obtain ⟨hn17, hn18⟩ := and_e hn16
  obtain ⟨hn19, hn20⟩ := and_e hn18
  obtain ⟨hn21, hn22⟩ := and_e hn20
  obtain ⟨hn23, hn24⟩ := and_e hn22
  obtain ⟨hn25, hn26⟩ := and_e hn24
  obtain ⟨hn27, hn28⟩ := and_e hn26
  obtain ⟨hn29, hn30⟩ := and_e hn28
  obtain ⟨hn31, hn32⟩ := and_e hn30
  obtain ⟨hn33, hn34⟩ := and_e hn32
  obtain ⟨hn35, hn36⟩ := and_e hn34
  obtain ⟨hn37, hn38⟩ := and_e hn36
  obtain ⟨aCDATA, e_aCDATA⟩ := exa_v hn1
  have Sta_aCDATA : Sta s s.heap "com/example/referee/referee/model/AttributeType" "CDATA" "Lcom/example/referee/referee/model/AttributeType;" (.ref aCDATA) := Sta.start e_aCDATA (Or.inr ⟨(hw _ (List.mem_of_getElem? (i := 3) rfl)), (hw _ (List.mem_of_getElem? (i := 4) rfl))⟩)
  have Ex_aCDATA : Exa s s.heap aCDATA "com/example/referee/referee/model/AttributeType" := Exa.start e_aCDATA hn1
  obtain ⟨aID, e_aID⟩ := exa_v hn3
  have Sta_aID : Sta s s.heap "com/example/referee/referee/model/AttributeType" "ID" "Lcom/example/referee/referee/model/AttributeType;" (.ref aID) := Sta.start e_aID (Or.inr ⟨(hw _ (List.mem_of_getElem? (i := 3) rfl)), (hw _ (List.mem_of_getElem? (i := 7) rfl))⟩)
  have Ex_aID : Exa s s.heap aID "com/example/referee/referee/model/AttributeType" := Exa.start e_aID hn3
  obtain ⟨aIDREF, e_aIDREF⟩ := exa_v hn5
  have Sta_aIDREF : Sta s s.heap "com/example/referee/referee/model/AttributeType" "IDREF" "Lcom/example/referee/referee/model/AttributeType;" (.ref aIDREF) := Sta.start e_aIDREF (Or.inr ⟨(hw _ (List.mem_of_getElem? (i := 3) rfl)), (hw _ (List.mem_of_getElem? (i := 9) rfl))⟩)
  have Ex_aIDREF : Exa s s.heap aIDREF "com/example/referee/referee/model/AttributeType" := Exa.start e_aIDREF hn5
  obtain ⟨aIDREFS, e_aIDREFS⟩ := exa_v hn7
  have Sta_aIDREFS : Sta s s.heap "com/example/referee/referee/model/AttributeType" "IDREFS" "Lcom/example/referee/referee/model/AttributeType;" (.ref aIDREFS) := Sta.start e_aIDREFS (Or.inr ⟨(hw _ (List.mem_of_getElem? (i := 3) rfl)), (hw _ (List.mem_of_getElem? (i := 11) rfl))⟩)
  have Ex_aIDREFS : Exa s s.heap aIDREFS "com/example/referee/referee/model/AttributeType" := Exa.start e_aIDREFS hn7
  obtain ⟨aENTITY, e_aENTITY⟩ := exa_v hn9
  have Sta_aENTITY : Sta s s.heap "com/example/referee/referee/model/AttributeType" "ENTITY" "Lcom/example/referee/referee/model/AttributeType;" (.ref aENTITY) := Sta.start e_aENTITY (Or.inr ⟨(hw _ (List.mem_of_getElem? (i := 3) rfl)), (hw _ (List.mem_of_getElem? (i := 13) rfl))⟩)
  have Ex_aENTITY : Exa s s.heap aENTITY "com/example/referee/referee/model/AttributeType" := Exa.start e_aENTITY hn9
  obtain ⟨aENTITIES, e_aENTITIES⟩ := exa_v hn11
  have Sta_aENTITIES : Sta s s.heap "com/example/referee/referee/model/AttributeType" "ENTITIES" "Lcom/example/referee/referee/model/AttributeType;" (.ref aENTITIES) := Sta.start e_aENTITIES (Or.inr ⟨(hw _ (List.mem_of_getElem? (i := 3) rfl)), (hw _ (List.mem_of_getElem? (i := 15) rfl))⟩)
  have Ex_aENTITIES : Exa s s.heap aENTITIES "com/example/referee/referee/model/AttributeType" := Exa.start e_aENTITIES hn11
  obtain ⟨aNMTOKEN, e_aNMTOKEN⟩ := exa_v hn13
  have Sta_aNMTOKEN : Sta s s.heap "com/example/referee/referee/model/AttributeType" "NMTOKEN" "Lcom/example/referee/referee/model/AttributeType;" (.ref aNMTOKEN) := Sta.start e_aNMTOKEN (Or.inr ⟨(hw _ (List.mem_of_getElem? (i := 3) rfl)), (hw _ (List.mem_of_getElem? (i := 17) rfl))⟩)
  have Ex_aNMTOKEN : Exa s s.heap aNMTOKEN "com/example/referee/referee/model/AttributeType" := Exa.start e_aNMTOKEN hn13
  obtain ⟨aNMTOKENS, e_aNMTOKENS⟩ := exa_v hn15
  have Sta_aNMTOKENS : Sta s s.heap "com/example/referee/referee/model/AttributeType" "NMTOKENS" "Lcom/example/referee/referee/model/AttributeType;" (.ref aNMTOKENS) := Sta.start e_aNMTOKENS (Or.inr ⟨(hw _ (List.mem_of_getElem? (i := 3) rfl)), (hw _ (List.mem_of_getElem? (i := 19) rfl))⟩)
  have Ex_aNMTOKENS : Exa s s.heap aNMTOKENS "com/example/referee/referee/model/AttributeType" := Exa.start e_aNMTOKENS hn15
  obtain ⟨aNOTATION, e_aNOTATION⟩ := exa_v hn17
  have Sta_aNOTATION : Sta s s.heap "com/example/referee/referee/model/AttributeType" "NOTATION" "Lcom/example/referee/referee/model/AttributeType;" (.ref aNOTATION) := Sta.start e_aNOTATION (Or.inr ⟨(hw _ (List.mem_of_getElem? (i := 3) rfl)), (hw _ (List.mem_of_getElem? (i := 21) rfl))⟩)
  have Ex_aNOTATION : Exa s s.heap aNOTATION "com/example/referee/referee/model/AttributeType" := Exa.start e_aNOTATION hn17
  obtain ⟨aENUMERATION, e_aENUMERATION⟩ := exa_v hn19
  have Sta_aENUMERATION : Sta s s.heap "com/example/referee/referee/model/AttributeType" "ENUMERATION" "Lcom/example/referee/referee/model/AttributeType;" (.ref aENUMERATION) := Sta.start e_aENUMERATION (Or.inr ⟨(hw _ (List.mem_of_getElem? (i := 3) rfl)), (hw _ (List.mem_of_getElem? (i := 23) rfl))⟩)
  have Ex_aENUMERATION : Exa s s.heap aENUMERATION "com/example/referee/referee/model/AttributeType" := Exa.start e_aENUMERATION hn19
  have fi39 : Fld s s.heap aCDATA "java/lang/Enum" "ordinal" "I" (.int (0 : Int32)) := Fld.start ((fld_at e_aCDATA).symm.trans (own_ieq hn21))
  have fi40 : Fld s s.heap aIDREF "java/lang/Enum" "ordinal" "I" (.int (2 : Int32)) := Fld.start ((fld_at e_aIDREF).symm.trans (own_ieq hn23))
  have fi41 : Fld s s.heap aIDREFS "java/lang/Enum" "ordinal" "I" (.int (3 : Int32)) := Fld.start ((fld_at e_aIDREFS).symm.trans (own_ieq hn25))
  have fi42 : Fld s s.heap aENTITY "java/lang/Enum" "ordinal" "I" (.int (4 : Int32)) := Fld.start ((fld_at e_aENTITY).symm.trans (own_ieq hn27))
  have fi43 : Fld s s.heap aENTITIES "java/lang/Enum" "ordinal" "I" (.int (5 : Int32)) := Fld.start ((fld_at e_aENTITIES).symm.trans (own_ieq hn29))
  have fi44 : Fld s s.heap aID "java/lang/Enum" "ordinal" "I" (.int (1 : Int32)) := Fld.start ((fld_at e_aID).symm.trans (own_ieq hn31))
  have fi45 : Fld s s.heap aNMTOKENS "java/lang/Enum" "ordinal" "I" (.int (7 : Int32)) := Fld.start ((fld_at e_aNMTOKENS).symm.trans (own_ieq hn33))
  have fi46 : Fld s s.heap aNOTATION "java/lang/Enum" "ordinal" "I" (.int (8 : Int32)) := Fld.start ((fld_at e_aNOTATION).symm.trans (own_ieq hn35))
  have fi47 : Fld s s.heap aENUMERATION "java/lang/Enum" "ordinal" "I" (.int (9 : Int32)) := Fld.start ((fld_at e_aENUMERATION).symm.trans (own_ieq hn37))
  have fi48 : Fld s s.heap aNMTOKEN "java/lang/Enum" "ordinal" "I" (.int (6 : Int32)) := Fld.start ((fld_at e_aNMTOKEN).symm.trans (own_ieq hn38))
  obtain ⟨n, o, h1, h2, h3, _, L, rfl, ⟨rfl, N⟩, hq⟩ := rm0 l s _ hw tables_1 i0 aCDATA aID aIDREF aIDREFS aENTITY aENTITIES aNMTOKEN aNMTOKENS aNOTATION aENUMERATION s.heap s.heap.size (Nat.le_refl _) (Old.start s) Sta_aCDATA Sta_aID Sta_aIDREF Sta_aIDREFS Sta_aENTITY Sta_aENTITIES Sta_aNMTOKEN Sta_aNMTOKENS Sta_aNOTATION Sta_aENUMERATION Ex_aCDATA Ex_aID Ex_aIDREF Ex_aIDREFS Ex_aENTITY Ex_aENTITIES Ex_aNMTOKEN Ex_aNMTOKENS Ex_aNOTATION Ex_aENUMERATION fi39 fi44 fi40 fi41 fi42 fi43 fi48 fi45 fi46 fi47 p e ha hc hk s m _ below hf ((Spec.applies_iff_loose hf).mp happ).1 ⟨rfl, State.Warmed39.refl s, rfl⟩ trivial
  refine ⟨n, _, h1, h2, h3, hpost _ _ _ _ _ _ ⟨Cond.after_iff.mpr rfl, Cond.after_iff.mpr (eq_i res_at (Term.int_eval (1)) rfl), trivial⟩ ⟨hq.1, hq.2.1, (hq.2.2.sift fun y hy => Or.inr (N y hy)).mono (by decide) (by decide)⟩⟩
theorem main_1_1 : Claimed_1_1 := comes_1 fun _ _ _ _ _ _ h hF => ⟨h.1, hF⟩
theorem main_1_2 : Claimed_1_2 := comes_1 fun _ _ _ _ _ _ h hF => ⟨h.2.1, hF⟩
end Jvm.Pilot.@@N@@
namespace Jvm.Pilot.@@N@@
open Jvm Jvm.ClassFile Sem Op Lib Jvm.Free Jvm.Stand Jvm.Pilot.@@N@@.Jvm.D
/-! MADE BY PROGRAM (witnessworld.py) out of the Statement's table words and the real class files: 15 classes; the members and pool entries that the words name. The judged class is class 1, her method 1. -/
namespace start1
open Jvm.ClassFile
def u (s : String) : CpInfo := .utf8 (stringToUtf16 s)
/-- a pool by its gaps: so many unusable entries, then the entry; so many at the end -/
def gap : Nat → List CpInfo → List CpInfo
  | 0, r => r
  | n + 1, r => .unusable :: gap n r
def poolList (es : List (Nat × CpInfo)) (last : Nat) : List CpInfo := es.foldr (fun e r => gap e.1 (e.2 :: r)) (gap last [])
def pool (es : List (Nat × CpInfo)) (last : Nat) : Array CpInfo := ⟨poolList es last⟩
def fileOf (pool : Array CpInfo) (this : Nat) (attrs : Array Attribute := #[]) (ms : Array MethodInfo := #[]) (fl : Nat := 33) (sup : Nat := 0) (ifs : Array Nat := #[]) (fds : Array FieldInfo := #[]) : ClassFile where
  minorVersion := 0
  majorVersion := 65
  constantPool := pool
  accessFlags := fl
  thisClass := this
  superClass := sup
  interfaces := ifs
  fields := fds
  methods := ms
  attributes := attrs
def plain (name : String) (sup : Option ClassId) : Class where
  name := name
  kind := .ordinary
  loader := none
  accessFlags := 33
  super := sup
  interfaces := #[]
  cf := none
  fields := #[]
  methods := #[]
  instanceTypes := #[]
  staticTypes := #[]
  resolved := #[]
  callSites := []
  init := .initialized
  statics := none
  mirror := none

def pool0 : Array CpInfo := pool [(5, u "<init>"), (0, u "()V"), (1, .class_ 10), (1, u "java/lang/Object")] 113

def k0m0 : Method := { name := "<init>", desc := "()V", sig := { parameters := [], returnType := none }, accessFlags := 1, code := none }
/-- java/lang/Object -/
def k0 : Class := { plain "java/lang/Object" none with
  accessFlags := 33
  interfaces := #[]
  cf := some (fileOf pool0 8 #[] #[{ accessFlags := 1, nameIndex := 5, descriptorIndex := 6, attributes := #[] }] 33 0 #[] #[])
  fields := #[]
  methods := #[k0m0]
  instanceTypes := #[]
  staticTypes := #[]
  resolved := Array.replicate 124 none
  statics := none }

def pool1 : Array CpInfo := pool [(2, .class_ 4), (1, u "java/lang/Object"), (0, u "<init>"), (0, u "()V"), (0, .class_ 8), (0, u "com/example/referee/referee/model/AttributeType"), (0, .fieldref 7 10), (0, .nameAndType 11 12), (0, u "CDATA"), (0, u "Lcom/example/referee/referee/model/AttributeType;"), (0, .fieldref 7 14), (0, .nameAndType 15 12), (0, u "ID"), (0, .fieldref 7 17), (0, .nameAndType 18 12), (0, u "IDREF"), (0, .fieldref 7 20), (0, .nameAndType 21 12), (0, u "IDREFS"), (0, .fieldref 7 23), (0, .nameAndType 24 12), (0, u "ENTITY"), (0, .fieldref 7 26), (0, .nameAndType 27 12), (0, u "ENTITIES"), (0, .fieldref 7 29), (0, .nameAndType 30 12), (0, u "NMTOKEN"), (0, .fieldref 7 32), (0, .nameAndType 33 12), (0, u "NMTOKENS"), (0, .fieldref 7 35), (0, .nameAndType 36 12), (0, u "NOTATION"), (0, .fieldref 7 38), (0, .nameAndType 39 12), (0, u "ENUMERATION"), (0, .integer 2147483647), (0, .methodref 7 42), (0, .nameAndType 43 44), (0, u "refers"), (0, u "()Z"), (0, .class_ 46), (0, u "com/example/referee/referee/model/AttributeTypeRefersPinLaw"), (2, u "law"), (0, u "(I)Z")] 7

def k1m0 : Method := { name := "<init>", desc := "()V", sig := { parameters := [], returnType := none }, accessFlags := 1, code := none }
def k1c1 : Code := { maxStack := 4, maxLocals := 4, code := code, exceptionTable := #[], attributes := #[] }
def k1m1 : Method := { name := "law", desc := "(I)Z", sig := { parameters := [.int], returnType := some .boolean }, accessFlags := 9, code := some k1c1 }
/-- com/example/referee/referee/model/AttributeTypeRefersPinLaw -/
def k1 : Class := { plain "com/example/referee/referee/model/AttributeTypeRefersPinLaw" (some 0) with
  accessFlags := 49
  interfaces := #[]
  cf := some (fileOf pool1 45 #[] #[{ accessFlags := 1, nameIndex := 5, descriptorIndex := 6, attributes := #[] }, { accessFlags := 9, nameIndex := 49, descriptorIndex := 50, attributes := #[] }] 49 2 #[] #[])
  fields := #[]
  methods := #[k1m0, k1m1]
  instanceTypes := #[]
  staticTypes := #[]
  resolved := Array.replicate 58 none
  statics := none }

def pool2 : Array CpInfo := pool [(1, .class_ 2), (0, u "java/lang/constant/Constable"), (0, .class_ 4), (0, u "java/lang/Object")] 6

/-- java/lang/constant/Constable -/
def k2 : Class := { plain "java/lang/constant/Constable" (some 0) with
  accessFlags := 1537
  interfaces := #[]
  cf := some (fileOf pool2 1 #[] #[] 1537 3 #[] #[])
  fields := #[]
  methods := #[]
  instanceTypes := #[]
  staticTypes := #[]
  resolved := Array.replicate 11 none
  statics := none }

def pool3 : Array CpInfo := pool [(1, .class_ 2), (0, u "java/lang/Comparable"), (0, .class_ 4), (0, u "java/lang/Object")] 7

/-- java/lang/Comparable -/
def k3 : Class := { plain "java/lang/Comparable" (some 0) with
  accessFlags := 1537
  interfaces := #[]
  cf := some (fileOf pool3 1 #[] #[] 1537 3 #[] #[])
  fields := #[]
  methods := #[]
  instanceTypes := #[]
  staticTypes := #[]
  resolved := Array.replicate 12 none
  statics := none }

def pool4 : Array CpInfo := pool [(1, .class_ 2), (0, u "java/io/Serializable"), (0, .class_ 4), (0, u "java/lang/Object")] 2

/-- java/io/Serializable -/
def k4 : Class := { plain "java/io/Serializable" (some 0) with
  accessFlags := 1537
  interfaces := #[]
  cf := some (fileOf pool4 1 #[] #[] 1537 3 #[] #[])
  fields := #[]
  methods := #[]
  instanceTypes := #[]
  staticTypes := #[]
  resolved := Array.replicate 7 none
  statics := none }

def pool5 : Array CpInfo := pool [(2, .class_ 4), (1, u "java/lang/Enum"), (0, u "name"), (0, u "Ljava/lang/String;"), (2, u "ordinal"), (0, u "I"), (1, .class_ 14), (1, u "java/lang/Object"), (4, u "hash"), (86, .class_ 108), (1, u "java/lang/Enum$EnumDesc"), (2, .class_ 112), (0, u "java/lang/constant/Constable"), (0, .class_ 114), (0, u "java/lang/Comparable"), (0, .class_ 116), (0, u "java/io/Serializable")] 87

/-- java/lang/Enum -/
def k5 : Class := { plain "java/lang/Enum" (some 0) with
  accessFlags := 1057
  interfaces := #[2, 3, 4]
  cf := some (fileOf pool5 2 #[.nestMembers #[106]] #[] 1057 12 #[111, 113, 115] #[{ accessFlags := 18, nameIndex := 5, descriptorIndex := 6, attributes := #[] }, { accessFlags := 18, nameIndex := 9, descriptorIndex := 10, attributes := #[] }, { accessFlags := 2, nameIndex := 19, descriptorIndex := 10, attributes := #[] }])
  fields := #[{ name := "name", type := (.object "java/lang/String"), accessFlags := 18, slot := 0, constantValue := 0 }, { name := "ordinal", type := .int, accessFlags := 18, slot := 1, constantValue := 0 }, { name := "hash", type := .int, accessFlags := 2, slot := 2, constantValue := 0 }]
  methods := #[]
  instanceTypes := #[(.object "java/lang/String"), .int, .int]
  staticTypes := #[]
  resolved := Array.replicate 204 none
  statics := none }

def pool6 : Array CpInfo := pool [(1, .class_ 2), (0, u "com/example/referee/referee/model/AttributeType"), (2, u "CDATA"), (0, u "Lcom/example/referee/referee/model/AttributeType;"), (2, u "ID"), (0, .fieldref 1 11), (0, .nameAndType 12 6), (0, u "IDREF"), (0, .fieldref 1 14), (0, .nameAndType 15 6), (0, u "IDREFS"), (0, .fieldref 1 17), (0, .nameAndType 18 6), (0, u "ENTITY"), (0, .fieldref 1 20), (0, .nameAndType 21 6), (0, u "ENTITIES"), (2, u "NMTOKEN"), (2, u "NMTOKENS"), (2, u "NOTATION"), (2, u "ENUMERATION"), (2, u "$VALUES"), (0, u "[Lcom/example/referee/referee/model/AttributeType;"), (6, .class_ 46), (1, u "java/lang/Enum"), (8, u "keyword"), (0, u "Ljava/lang/String;"), (36, u "()Z"), (0, u "refers")] 5

def k6c0 : Code := { maxStack := 2, maxLocals := 1, code := prog_29_method_7_code, exceptionTable := #[], attributes := #[] }
def k6m0 : Method := { name := "refers", desc := "()Z", sig := { parameters := [], returnType := some .boolean }, accessFlags := 1, code := some k6c0 }
/-- com/example/referee/referee/model/AttributeType -/
def k6 : Class := { plain "com/example/referee/referee/model/AttributeType" (some 5) with
  accessFlags := 16433
  interfaces := #[]
  cf := some (fileOf pool6 1 #[] #[{ accessFlags := 1, nameIndex := 94, descriptorIndex := 93, attributes := #[] }] 16433 44 #[] #[{ accessFlags := 16409, nameIndex := 5, descriptorIndex := 6, attributes := #[] }, { accessFlags := 16409, nameIndex := 9, descriptorIndex := 6, attributes := #[] }, { accessFlags := 16409, nameIndex := 12, descriptorIndex := 6, attributes := #[] }, { accessFlags := 16409, nameIndex := 15, descriptorIndex := 6, attributes := #[] }, { accessFlags := 16409, nameIndex := 18, descriptorIndex := 6, attributes := #[] }, { accessFlags := 16409, nameIndex := 21, descriptorIndex := 6, attributes := #[] }, { accessFlags := 16409, nameIndex := 24, descriptorIndex := 6, attributes := #[] }, { accessFlags := 16409, nameIndex := 27, descriptorIndex := 6, attributes := #[] }, { accessFlags := 16409, nameIndex := 30, descriptorIndex := 6, attributes := #[] }, { accessFlags := 16409, nameIndex := 33, descriptorIndex := 6, attributes := #[] }, { accessFlags := 18, nameIndex := 55, descriptorIndex := 56, attributes := #[] }, { accessFlags := 4122, nameIndex := 36, descriptorIndex := 37, attributes := #[] }])
  fields := #[{ name := "CDATA", type := (.object "com/example/referee/referee/model/AttributeType"), accessFlags := 16409, slot := 0, constantValue := 0 }, { name := "ID", type := (.object "com/example/referee/referee/model/AttributeType"), accessFlags := 16409, slot := 1, constantValue := 0 }, { name := "IDREF", type := (.object "com/example/referee/referee/model/AttributeType"), accessFlags := 16409, slot := 2, constantValue := 0 }, { name := "IDREFS", type := (.object "com/example/referee/referee/model/AttributeType"), accessFlags := 16409, slot := 3, constantValue := 0 }, { name := "ENTITY", type := (.object "com/example/referee/referee/model/AttributeType"), accessFlags := 16409, slot := 4, constantValue := 0 }, { name := "ENTITIES", type := (.object "com/example/referee/referee/model/AttributeType"), accessFlags := 16409, slot := 5, constantValue := 0 }, { name := "NMTOKEN", type := (.object "com/example/referee/referee/model/AttributeType"), accessFlags := 16409, slot := 6, constantValue := 0 }, { name := "NMTOKENS", type := (.object "com/example/referee/referee/model/AttributeType"), accessFlags := 16409, slot := 7, constantValue := 0 }, { name := "NOTATION", type := (.object "com/example/referee/referee/model/AttributeType"), accessFlags := 16409, slot := 8, constantValue := 0 }, { name := "ENUMERATION", type := (.object "com/example/referee/referee/model/AttributeType"), accessFlags := 16409, slot := 9, constantValue := 0 }, { name := "keyword", type := (.object "java/lang/String"), accessFlags := 18, slot := 3, constantValue := 0 }, { name := "$VALUES", type := (.array (.object "com/example/referee/referee/model/AttributeType")), accessFlags := 4122, slot := 10, constantValue := 0 }]
  methods := #[k6m0]
  instanceTypes := #[(.object "java/lang/String"), .int, .int, (.object "java/lang/String")]
  staticTypes := #[(.object "com/example/referee/referee/model/AttributeType"), (.object "com/example/referee/referee/model/AttributeType"), (.object "com/example/referee/referee/model/AttributeType"), (.object "com/example/referee/referee/model/AttributeType"), (.object "com/example/referee/referee/model/AttributeType"), (.object "com/example/referee/referee/model/AttributeType"), (.object "com/example/referee/referee/model/AttributeType"), (.object "com/example/referee/referee/model/AttributeType"), (.object "com/example/referee/referee/model/AttributeType"), (.object "com/example/referee/referee/model/AttributeType"), (.array (.object "com/example/referee/referee/model/AttributeType"))]
  resolved := Array.replicate 100 none
  statics := some 0 }

def pool7 : Array CpInfo := pool [(1, u "java/lang/Cloneable"), (0, .class_ 1), (0, u "java/lang/Object"), (0, .class_ 3)] 3

/-- java/lang/Cloneable -/
def k7 : Class := { plain "java/lang/Cloneable" (some 0) with
  accessFlags := 1537
  interfaces := #[]
  cf := some (fileOf pool7 2 #[] #[] 1537 4 #[] #[])
  fields := #[]
  methods := #[]
  instanceTypes := #[]
  staticTypes := #[]
  resolved := Array.replicate 8 none
  statics := none }

/-- the primitive boolean -/
def k8 : Class := { plain "boolean" none with kind := .primitive 'Z', accessFlags := 0x411 }
/-- [Z -/
def k9 : Class := { plain "[Z" (some 0) with kind := .array 8 .boolean, interfaces := #[7, 4], accessFlags := 1041 }

/-- the primitive byte -/
def k10 : Class := { plain "byte" none with kind := .primitive 'B', accessFlags := 0x411 }
/-- [B -/
def k11 : Class := { plain "[B" (some 0) with kind := .array 10 .byte, interfaces := #[7, 4], accessFlags := 1041 }

/-- the primitive int -/
def k12 : Class := { plain "int" none with kind := .primitive 'I', accessFlags := 0x411 }
/-- [I -/
def k13 : Class := { plain "[I" (some 0) with kind := .array 12 .int, interfaces := #[7, 4], accessFlags := 1041 }

/-- [Lcom/example/referee/referee/model/AttributeType; -/
def k14 : Class := { plain "[Lcom/example/referee/referee/model/AttributeType;" (some 0) with kind := .array 6 (.object "com/example/referee/referee/model/AttributeType"), interfaces := #[7, 4], accessFlags := 1041 }

def heap : Heap := #[{ cls := 6, slots := #[.ref 1, .ref 2, .ref 3, .ref 4, .ref 5, .ref 6, .ref 7, .ref 8, .ref 9, .ref 10, .null], vm := .statics 6 },
  { cls := 6, slots := #[.null, .int 0, .int 0, .null], vm := .none },
  { cls := 6, slots := #[.null, .int 1, .int 0, .null], vm := .none },
  { cls := 6, slots := #[.null, .int 2, .int 0, .null], vm := .none },
  { cls := 6, slots := #[.null, .int 3, .int 0, .null], vm := .none },
  { cls := 6, slots := #[.null, .int 4, .int 0, .null], vm := .none },
  { cls := 6, slots := #[.null, .int 5, .int 0, .null], vm := .none },
  { cls := 6, slots := #[.null, .int 6, .int 0, .null], vm := .none },
  { cls := 6, slots := #[.null, .int 7, .int 0, .null], vm := .none },
  { cls := 6, slots := #[.null, .int 8, .int 0, .null], vm := .none },
  { cls := 6, slots := #[.null, .int 9, .int 0, .null], vm := .none }]
def classes : Array Class := #[k0, k1, k2, k3, k4, k5, k6, k7, k8, k9, k10, k11, k12, k13, k14]
def interned : List (Array UInt16 × Addr) := []
def slotsUsed : Nat := 51
def theMethod : MethodId := ⟨1, 1⟩
def args0 : Array Value := #[.int 5]
def aboutOver (below : List Frame) : State where
  vm := { classes := classes, interned := interned.toArray }
  heap := heap
  slotsUsed := slotsUsed
  threads := #[{ frames := .invoking theMethod args0 :: below }]
def below0 : List Frame := [.native { method := ⟨0, 0⟩, args := #[] }]
def about1 : State := aboutOver below0
def p0 : Program := .bare "" "" ""
def e0 : Env := launch0.env 0 0 0
theorem w_frames : about1.frames = Frame.invoking theMethod args0 :: below0 := rfl
set_option maxRecDepth 65536 in
theorem w_args : argsFit about1.vm theMethod args0 = true := by decide +kernel
set_option maxRecDepth 65536 in
theorem w_heap : heapFits about1 = true := by decide +kernel
set_option maxRecDepth 65536 in
theorem w_runnable : about1.curStatus? = some .runnable := by decide +kernel
set_option maxRecDepth 65536 in
theorem w_alone : about1.alone = true := by decide +kernel
set_option maxRecDepth 65536 in
theorem w_named : about1.methodNamed? x = some theMethod := by decide +kernel
set_option maxRecDepth 65536 in
theorem w_hears : about1.hears theMethod below0 = true := by decide +kernel
set_option maxRecDepth 65536 in
theorem w_ripe : about1.ripe theMethod args0 below0 = true := by decide +kernel
theorem w_running : about1.status = .running := rfl
set_option maxRecDepth 65536 in
theorem w_room : about1.hasRoom e0.platform room_1 = true :=
  launch0.hasRoom_least _ room_1 (by decide +kernel) (by decide +kernel) (by decide +kernel) (by decide +kernel) (by decide +kernel) (by decide +kernel)
theorem allAtoms_all (ts : List Jvm.Cond) (a : Array Jvm.Value) (st : Jvm.State) : (allAtoms ts).before a st = ts.all (fun c => c.before a st) := by
  induction ts with
  | nil => rfl
  | cons c t ih =>
    show (Jvm.Cond.and c (allAtoms t)).before a st = _
    rw [Jvm.Cond.before_and, ih, List.all_cons]
def words1 : List Jvm.Cond := Jvm.Cond.code x code maxLocals ret :: tables_1
/-- a 'code' word, met by the world's own term for the bytes: nothing is compared byte by byte -/
theorem code_word {y : MethodName} {bytes : ByteArray} {mx : Nat} {rt : Option FieldType} {a : Array Value} {s : State} {m : MethodId} {meth : Method} {c : Code} (h1 : s.methodNamed? y = some m) (h2 : s.vm.method? m = some meth) (h3 : meth.code = some c) (h4 : c.code = bytes)
    (h5 : (c.maxLocals == mx && c.exceptionTable.isEmpty && decide (c.maxStack ≤ mostOperands) && decide (meth.sig.returnType = rt) && !meth.locks && decide (parseMethodDescriptor y.desc = some meth.sig)) = true) : (Jvm.Cond.code y bytes mx rt).before a s = true := by
  simp only [Bool.and_eq_true, beq_iff_eq, Bool.not_eq_true', decide_eq_true_eq] at h5
  obtain ⟨⟨⟨⟨⟨g1, g2⟩, g3⟩, g4⟩, g5⟩, g6⟩ := h5
  simp [Cond.before, Cond.holds, Cond.value, h1, h2, h3, h4, g1, g2, g3, g4, g5, g6]
def isCode : Jvm.Cond → Bool
  | .code _ _ _ _ => true
  | _ => false
theorem all_split {L : List Jvm.Cond} {P : Jvm.Cond → Bool} (h1 : L.all (fun c => isCode c || P c) = true) (h2 : ∀ c ∈ L.filter isCode, P c = true) : L.all P = true := by
  refine List.all_eq_true.mpr fun c hc => ?_
  have h := List.all_eq_true.mp h1 c hc
  rcases Bool.eq_false_or_eq_true (isCode c) with hi | hi
  · exact h2 c (List.mem_filter.mpr ⟨hc, hi⟩)
  · simpa [hi] using h
set_option maxRecDepth 65536 in
theorem w_c0 : (Jvm.Cond.code x code maxLocals ret).before args0 about1 = true := code_word (m := ⟨1, 1⟩) (meth := k1m1) (c := k1c1) (by decide +kernel) rfl rfl rfl (by decide +kernel)
set_option maxRecDepth 65536 in
theorem w_c1 : (Jvm.Cond.code ({ cls := "com/example/referee/referee/model/AttributeType", name := "refers", desc := "()Z" } : Jvm.MethodName) prog_29_method_7_code (1 : Nat) (Option.some Jvm.ClassFile.FieldType.boolean)).before args0 about1 = true := code_word (m := ⟨6, 0⟩) (meth := k6m0) (c := k6c0) (by decide +kernel) rfl rfl rfl (by decide +kernel)
def codes1 : List Jvm.Cond := [Jvm.Cond.code x code maxLocals ret, Jvm.Cond.code ({ cls := "com/example/referee/referee/model/AttributeType", name := "refers", desc := "()Z" } : Jvm.MethodName) prog_29_method_7_code (1 : Nat) (Option.some Jvm.ClassFile.FieldType.boolean)]
set_option maxRecDepth 65536 in
theorem codes_eq : words1.filter isCode = codes1 := rfl
theorem w_codes : ∀ c ∈ words1.filter isCode, c.before args0 about1 = true := by
  rw [codes_eq]
  intro c hc
  simp only [codes1, List.mem_cons, List.not_mem_nil, or_false] at hc
  rcases hc with rfl | rfl
  · exact w_c0
  · exact w_c1
set_option maxRecDepth 65536 in
theorem w_t1 : (words1.take 24).all (fun c => isCode c || c.before args0 about1) = true := by decide +kernel
set_option maxRecDepth 65536 in
theorem w_t2 : (words1.drop 24).all (fun c => isCode c || c.before args0 about1) = true := by decide +kernel
theorem w_tables : (allAtoms (Jvm.Cond.code x code maxLocals ret :: tables_1)).before args0 about1 = true := by
  rw [allAtoms_all]
  show words1.all (fun c => c.before args0 about1) = true
  refine all_split ?_ w_codes
  rw [← List.take_append_drop 24 words1, List.all_append, w_t1, w_t2]
  rfl
set_option maxRecDepth 65536 in
theorem w_case : (Jvm.Cond.and given_1 narrow_1).before args0 about1 = true := by decide +kernel
theorem w_applies : (headSpec (Jvm.Cond.code x code maxLocals ret :: tables_1) room_1).applies x e0.platform about1 = true :=
  (Spec.applies_iff w_frames).mpr ⟨w_running, w_runnable, w_alone, w_named, w_hears, w_ripe, w_room, w_tables⟩
theorem atStart : AtStart classFile x code maxLocals ret World_1 tables_1 room_1 Calls_1 rest_1 Pre_1 launch0 p0 e0 about1 theMethod args0 below0 :=
  ⟨lists_1, trivial, launch0.admits_env _ _ _, launch0.least_env, fairChoices_fair.cas, fairChoices_fair.clock, w_frames, w_args, w_heap, w_applies, trivial, trivial, w_case⟩
end start1
theorem witness_1 : WitnessClaimed_1 := ⟨start1.p0, start1.e0, start1.about1, start1.theMethod, start1.args0, start1.below0, start1.atStart⟩
end Jvm.Pilot.@@N@@
