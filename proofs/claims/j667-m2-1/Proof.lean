import JvmDerived
import JvmDerived.Pilot.@@N@@Statement
import JvmDerived.Pilot.@@N@@Code
set_option linter.unusedVariables false
set_option linter.unusedSimpArgs false
namespace Jvm.RoadKit
open Sem ClassFile Op Lib Jvm.Stand Jvm.Free Jvm.LawKit
section Own
variable {p : Program} {l : Launch} {e : Env} {R : Room} {s : State} {m : MethodId} {args : Array Value} {below : List Frame} {meth : Method} {c : Code} {T : State} {locs : List Loc} {cells slots : Nat}
theorem retI (X : Stand p l e R s m args below meth c T locs cells slots) (hx : p.tables.exec = Jvm.exec) {pc : Nat} {Ls : Array Slot} {z : Int32} {rest : List Value} (hret : meth.sig.returnType = some .int) (hd : decode c.code pc = .ok (.ireturn, 1)) {fs : List Frame}
    (hl : ∀ (f : JFrame) (acts : List Action), f.method = m → f.locked = none → f.entered = [] → (doReturn e (T.setTop f) acts (some (.int z))).1 = T.setFrames fs) : Steps p.tables e below (T.setTop (mkF m pc Ls (.int z :: rest))) (T.setFrames fs) :=
  retOut X hx hret rfl (Or.inl ⟨rfl, Or.inl rfl, _, rfl⟩) hd hl
theorem retJ (X : Stand p l e R s m args below meth c T locs cells slots) (hx : p.tables.exec = Jvm.exec) {pc : Nat} {Ls : Array Slot} {z : Int64} {rest : List Value} (hret : meth.sig.returnType = some .long) (hd : decode c.code pc = .ok (.lreturn, 1)) {fs : List Frame}
    (hl : ∀ (f : JFrame) (acts : List Action), f.method = m → f.locked = none → f.entered = [] → (doReturn e (T.setTop f) acts (some (.long z))).1 = T.setFrames fs) : Steps p.tables e below (T.setTop (mkF m pc Ls (.long z :: rest))) (T.setFrames fs) :=
  retOut X hx hret rfl (Or.inr (Or.inl ⟨rfl, rfl, _, rfl⟩)) hd hl
theorem retA (X : Stand p l e R s m args below meth c T locs cells slots) (hx : p.tables.exec = Jvm.exec) {pc : Nat} {Ls : Array Slot} {t : FieldType} {z : Value} {rest : List Value} (hret : meth.sig.returnType = some t) (hn : narrow t z = z) (ht : t.isReference = true) (hz : z.isRef = true) (hd : decode c.code pc = .ok (.areturn, 1)) {fs : List Frame}
    (hl : ∀ (f : JFrame) (acts : List Action), f.method = m → f.locked = none → f.entered = [] → (doReturn e (T.setTop f) acts (some z)).1 = T.setFrames fs) : Steps p.tables e below (T.setTop (mkF m pc Ls (z :: rest))) (T.setFrames fs) :=
  retOut X hx hret hn (Or.inr (Or.inr (Or.inr (Or.inr ⟨rfl, ht, hz⟩)))) hd hl
theorem retZ (X : Stand p l e R s m args below meth c T locs cells slots) (hx : p.tables.exec = Jvm.exec) {pc : Nat} {Ls : Array Slot} {z r : Int32} {t : FieldType} {rest : List Value} (hret : meth.sig.returnType = some t) (ht : t = .boolean ∨ t = .byte ∨ t = .char ∨ t = .short)
    (hd : decode c.code pc = .ok (.ireturn, 1)) (hn : nar t z = r) {fs : List Frame} (hl : ∀ (f : JFrame) (acts : List Action), f.method = m → f.locked = none → f.entered = [] → (doReturn e (T.setTop f) acts (some (.int r))).1 = T.setFrames fs) :
    Steps p.tables e below (T.setTop (mkF m pc Ls (.int z :: rest))) (T.setFrames fs) := retN X hx hret ht hd (by rw [hn]; exact hl)
theorem ownUp (X : Stand p l e R s m args below meth c T locs cells slots) {cells' slots' : Nat} (h1 : cells ≤ cells') (h2 : slots ≤ slots') : Stand p l e R s m args below meth c T locs cells' slots' :=
  ⟨X.admits, X.cas, X.clock, X.frames, X.room, X.hears, X.method, X.code, X.here, X.tail, X.warmed, X.limits, X.bytes, X.same.mono h1 h2⟩
end Own
def Go (tb : Tables) (e : Env) (below : List Frame) (P : Outcome → State → Prop) (T : State) (f : JFrame) : Prop :=
  ∃ s₂ o, Steps tb e below (T.setTop f) s₂ ∧ s₂.status = .running ∧ Ended s₂ below o ∧ P o s₂
theorem Go.via {tb : Tables} {e : Env} {below : List Frame} {P : Outcome → State → Prop} {T T' : State} {f f' : JFrame} (st : ∀ t, Steps tb e below (T'.setTop f') t → Steps tb e below (T.setTop f) t) (k : Go tb e below P T' f') : Go tb e below P T f := by
  obtain ⟨s₂, o, h, r⟩ := k; exact ⟨s₂, o, st _ h, r⟩
theorem Go.hop {tb : Tables} {e : Env} {below : List Frame} {P : Outcome → State → Prop} {T T' : State} {f f' : JFrame} (st : Steps tb e below (T.setTop f) (T'.setTop f')) (k : Go tb e below P T' f') : Go tb e below P T f := by
  obtain ⟨s₂, o, h, r⟩ := k; exact ⟨s₂, o, st.trans h, r⟩
theorem own_nin0 {a : Addr} : a ∉ ([] : List Addr) := fun q => nomatch q
theorem own_ninC {a b : Addr} {l : List Addr} (h : a ≠ b) (h' : a ∉ l) : a ∉ b :: l := fun q => (List.mem_cons.mp q).elim h h'
theorem own_nb {x : Int32} (h : x = 0 ∨ x = 1) : nar .boolean x = x := by rcases h with rfl | rfl <;> rfl
theorem own_nnb {x : Int32} (h : x = 0 ∨ x = 1) : narrow .boolean (.int x) = .int x := by rcases h with rfl | rfl <;> rfl
theorem own_fb {x : Int32} (h : x = 0 ∨ x = 1) : fits .boolean (.int x) = true := by rcases h with rfl | rfl <;> rfl
theorem own_all0 {P : Addr → Prop} : ∀ x ∈ ([] : List Addr), P x := fun _ q => nomatch q
theorem own_allC {P : Addr → Prop} {a : Addr} {l : List Addr} (h : P a) (h' : ∀ x ∈ l, P x) : ∀ x ∈ a :: l, P x := fun x q => (List.mem_cons.mp q).elim (fun e => e ▸ h) (h' x)
theorem own_m0 {k : Int32} : ∀ p ∈ ([] : List (Int × Int)), p.1 ≠ k.toInt := fun _ q => nomatch q
theorem own_mC {k x : Int32} {a o : Int} {l : List (Int × Int)} (h : ¬ k = x) (hx : x.toInt = a) (t : ∀ p ∈ l, p.1 ≠ k.toInt) : ∀ p ∈ (a, o) :: l, p.1 ≠ k.toInt := fun p q => (List.mem_cons.mp q).elim (fun e r => h (Int32.toInt_inj.mp (by rw [hx, ← r, e]))) (t p)
theorem own_cat {v : Value} (h : v.isRef = true) : v.category = 1 := by rcases ref_cases h with rfl | ⟨a, rfl⟩ <;> rfl
theorem own_nat {n : Nat} (h : n < 2147483648) : n.toInt32.toInt = n := len_toInt h
theorem own_ltN {i n : Nat} (hi : i < 2147483648) (hn : n < 2147483648) : i.toInt32 < n.toInt32 ↔ i < n := by
  rw [Int32.lt_iff_toInt_lt, own_nat hi, own_nat hn]; omega
theorem own_succ (i : Nat) : i.toInt32 + 1 = (i + 1).toInt32 := (Int32.ofNat_add i 1).symm
theorem own_nneg {i : Nat} (hi : i < 2147483648) : ¬ i.toInt32 < 0 := by
  rw [Int32.lt_iff_toInt_lt, own_nat hi]; simp
theorem own_clamp {i : Nat} (hi : i < 2147483648) : i.toInt32.toNatClampNeg = i := by
  show i.toInt32.toInt.toNat = i
  rw [own_nat hi]; rfl
end Jvm.RoadKit
namespace Jvm.Pilot.@@N@@
open Jvm Jvm.ClassFile Sem Op Lib Jvm.Free Jvm.Stand Jvm.LawKit Jvm.RoadKit Bundle Jvm.Pilot.@@N@@.Jvm.D
theorem own_pn0 : plainName "com/example/tri3/tri3/ItemShape" = true := by first | (simp [plainName, overriddenIn]; done) | decide +kernel
theorem d1_0 : decode prog_11_method_5_code 0 = .ok (.aload_n 0, 1) := by decide +kernel
theorem d1_1 : decode prog_11_method_5_code 1 = .ok (.invokespecial 33, 3) := by decide +kernel
theorem d1_4 : decode prog_11_method_5_code 4 = .ok (.aload_n 0, 1) := by decide +kernel
theorem d1_5 : decode prog_11_method_5_code 5 = .ok (.iload_n 1, 1) := by decide +kernel
theorem d1_6 : decode prog_11_method_5_code 6 = .ok (.putfield 38, 3) := by decide +kernel
theorem d1_9 : decode prog_11_method_5_code 9 = .ok (.aload_n 0, 1) := by decide +kernel
theorem d1_10 : decode prog_11_method_5_code 10 = .ok (.iload_n 2, 1) := by decide +kernel
theorem d1_11 : decode prog_11_method_5_code 11 = .ok (.putfield 42, 3) := by decide +kernel
theorem d1_14 : decode prog_11_method_5_code 14 = .ok (.aload_n 0, 1) := by decide +kernel
theorem d1_15 : decode prog_11_method_5_code 15 = .ok (.iload_n 3, 1) := by decide +kernel
theorem d1_16 : decode prog_11_method_5_code 16 = .ok (.putfield 45, 3) := by decide +kernel
theorem d1_19 : decode prog_11_method_5_code 19 = .ok (.return_, 1) := by decide +kernel
theorem ef_1 (m : MethodId) (x0 : Addr) (x1 : Int32) (x2 : Int32) (x3 : Int32) : entryFrame m #[(.ref x0), (.int x1), (.int x2), (.int x3)] 4 = mkF m 0 #[.val (.ref x0), .val (.int x1), .val (.int x2), .val (.int x3)] [] := by first | (simp [entryFrame, mkF, argsToLocals, Value.category]; done) | rfl
def Q1 (Z : State) (oa : Addr) (x1 : Int32) (x2 : Int32) (x3 : Int32) (h0 : Heap) (n0 : Nat) (v : Option Value) (h : Heap) (L : List Loc) : Prop := v = none ∧ Fr n0 L ∧ Keep h0 h [oa] ∧ Exa Z h oa "com/example/tri3/tri3/ItemShape" ∧ Fld Z h oa "com/example/tri3/tri3/ItemShape" "takesTurns" "Z" (.int x1) ∧ Fld Z h oa "com/example/tri3/tri3/ItemShape" "waitsForStages" "Z" (.int x2) ∧ Fld Z h oa "com/example/tri3/tri3/ItemShape" "sharesItem" "Z" (.int x3)
set_option maxRecDepth 65536 in
set_option maxHeartbeats 40000000 in
theorem rm1 (l : Launch) (Z : State) (a0 : Array Value) (hw : ∀ d ∈ tables_1, d.before a0 Z = true) (ws : List Jvm.Cond) (oa : Addr) (x1 : Int32) (x2 : Int32) (x3 : Int32) (h0 : Heap) (n0 : Nat) (Z0 : n0 ≤ h0.size) (P0 : Exa Z h0 oa "com/example/tri3/tri3/ItemShape") (P1 : Fld Z h0 oa "com/example/tri3/tri3/ItemShape" "takesTurns" "Z" (.int (0 : Int32))) (P2 : Fld Z h0 oa "com/example/tri3/tri3/ItemShape" "waitsForStages" "Z" (.int (0 : Int32))) (P3 : Fld Z h0 oa "com/example/tri3/tri3/ItemShape" "sharesItem" "Z" (.int (0 : Int32))) (ga : n0 ≤ oa) (hb1 : x1 = 0 ∨ x1 = 1) (hb2 : x2 = 0 ∨ x2 = 1) (hb3 : x3 = 0 ∨ x3 = 1) :
    MetFree l (⟨"com/example/tri3/tri3/ItemShape", "<init>", "(ZZZ)V"⟩ : MethodName) (head1 (Jvm.Cond.code (⟨"com/example/tri3/tri3/ItemShape", "<init>", "(ZZZ)V"⟩ : MethodName) prog_11_method_5_code 4 none :: ws) ({ frames := 1, cells := 0, slots := 0, locals := 12 } : Room)) (fun a U => a = #[(.ref oa), (.int x1), (.int x2), (.int x3)] ∧ Z.Warmed39 U.vm ∧ U.heap = h0) (fun _ _ _ _ _ => True) (fun _ U o U' => ∃ v L, o = .returned v ∧ Q1 Z oa x1 x2 x3 h0 n0 v U'.heap L ∧ FrameEnd U o U' L ({ frames := 1, cells := 0, slots := 0, locals := 12 } : Room).cells ({ frames := 1, cells := 0, slots := 0, locals := 12 } : Room).slots) := by
  refine MetFree.of_bodySF (plainFor_of_name own_pn0) hisR ?_
  intro p e s m args below meth c s₁ Bd hml0 hP hK
  obtain ⟨rfl, hZ, hh⟩ := hP
  have hx := Bd.exec
  have hby := Bd.bytes
  have hml : c.maxLocals = 4 := hml0
  have hown : s.vm.findClass "com/example/tri3/tri3/ItemShape" = some m.cls := findClass_of_methodNamed Bd.named
  have hnm := (name_of_methodNamed Bd.named Bd.method).1
  have X0 : Stand p l e ({ frames := 1, cells := 0, slots := 0, locals := 12 } : Room) s m #[(.ref oa), (.int x1), (.int x2), (.int x3)] below meth c s₁ [] 0 0 := Stand.of_body Bd
  have e0 : s₁.heap = h0 := by rw [← hh, Bd.state]; rfl
  have N0 := Fr.nil n0
  have K0 : Keep h0 h0 [oa] := Keep.refl _ _
  suffices GO : ∀ P : Outcome → State → Prop, (∀ o U', (∃ v L, o = .returned v ∧ Q1 Z oa x1 x2 x3 h0 n0 v U'.heap L ∧ FrameEnd s o U' L ({ frames := 1, cells := 0, slots := 0, locals := 12 } : Room).cells ({ frames := 1, cells := 0, slots := 0, locals := 12 } : Room).slots) → P o U') → Go p.tables e below P s₁ (mkF m 0 #[.val (.ref oa), .val (.int x1), .val (.int x2), .val (.int x3)] []) by
    obtain ⟨s2, o, st, r⟩ := GO _ (fun _ _ q => q)
    exact ⟨s2, o, castTop (ef_1 m oa x1 x2 x3) st, r⟩
  clear hh
  intro P hP
  show Go p.tables e below P s₁ (mkF m 0 #[.val (.ref oa), .val (.int x1), .val (.int x2), .val (.int x3)] [])
  refine Go.via (fun t k => XS.aloadN X0.here hx rfl (hb hby d1_0) rfl rfl k) ?_
  show Go p.tables e below P s₁ (mkF m 1 #[.val (.ref oa), .val (.int x1), .val (.int x2), .val (.int x3)] [(.ref oa)])
  obtain ⟨T1, X1, e1, st1⟩ := initO X0 hx hZ hown (hw _ (List.mem_of_getElem? (i := 6) rfl)) (hw _ (List.mem_of_getElem? (i := 7) rfl)) (hw _ (List.mem_of_getElem? (i := 8) rfl)) e0 (g := (mkF m 1 #[.val (.ref oa), .val (.int x1), .val (.int x2), .val (.int x3)] [(.ref oa)])) rfl (by rw [hml]; rfl) rfl (hb hby d1_1) (by decide) (W := 0) (by show 2 * 0 + _ ≤ _; exact Nat.le_of_eq rfl) (by decide)
  refine Go.via st1 ?_
  show Go p.tables e below P T1 (mkF m 4 #[.val (.ref oa), .val (.int x1), .val (.int x2), .val (.int x3)] [])
  refine Go.via (fun t k => XS.aloadN X1.here hx rfl (hb hby d1_4) rfl rfl k) ?_
  show Go p.tables e below P T1 (mkF m 5 #[.val (.ref oa), .val (.int x1), .val (.int x2), .val (.int x3)] [(.ref oa)])
  refine Go.via (fun t k => XS.iloadN X1.here hx rfl (hb hby d1_5) rfl k) ?_
  show Go p.tables e below P T1 (mkF m 6 #[.val (.ref oa), .val (.int x1), .val (.int x2), .val (.int x3)] [(.int x1), (.ref oa)])
  obtain ⟨T2, h2, X2, e2, W2, st2⟩ := putF X1 hx hZ hown (host := "") (Or.inl (hw _ (List.mem_of_getElem? (i := 9) rfl))) Via.refl e1 P1 P0 (Or.inr ⟨(hw _ (List.mem_of_getElem? (i := 10) rfl)), rfl, hnm⟩) (hw _ (List.mem_of_getElem? (i := 1) rfl)) (ty := .boolean) (by decide) (own_nnb hb1) (own_fb hb1) (g := (mkF m 6 #[.val (.ref oa), .val (.int x1), .val (.int x2), .val (.int x3)] [(.int x1), (.ref oa)])) rfl rfl (hb hby d1_6)
  refine Go.via st2 ?_
  have Z3 : n0 ≤ h2.size := Nat.le_trans Z0 (Nat.le_of_eq W2.size.symm)
  have K4 : Keep h0 h2 [oa] := K0.wr W2 (Or.inl (List.mem_of_getElem? (i := 0) rfl))
  have N5 := Fr.snoc X2 N0 ga
  have Fw2 := P1.same W2
  show Go p.tables e below P T2 (mkF m 9 #[.val (.ref oa), .val (.int x1), .val (.int x2), .val (.int x3)] [])
  refine Go.via (fun t k => XS.aloadN X2.here hx rfl (hb hby d1_9) rfl rfl k) ?_
  show Go p.tables e below P T2 (mkF m 10 #[.val (.ref oa), .val (.int x1), .val (.int x2), .val (.int x3)] [(.ref oa)])
  refine Go.via (fun t k => XS.iloadN X2.here hx rfl (hb hby d1_10) rfl k) ?_
  show Go p.tables e below P T2 (mkF m 11 #[.val (.ref oa), .val (.int x1), .val (.int x2), .val (.int x3)] [(.int x2), (.ref oa)])
  have F6 : Exa Z h2 oa "com/example/tri3/tri3/ItemShape" := (P0.wr W2)
  have F7 : Fld Z h2 oa "com/example/tri3/tri3/ItemShape" "waitsForStages" "Z" (.int (0 : Int32)) := (P2.other W2 (Or.inr (slot_ne (Or.inr (hw _ (List.mem_of_getElem? (i := 12) rfl))) (Or.inr (hw _ (List.mem_of_getElem? (i := 10) rfl))) (by decide) (t := .boolean) (t' := .boolean) (by decide) (by decide))))
  have F8 : Fld Z h2 oa "com/example/tri3/tri3/ItemShape" "sharesItem" "Z" (.int (0 : Int32)) := (P3.other W2 (Or.inr (slot_ne (Or.inr (hw _ (List.mem_of_getElem? (i := 14) rfl))) (Or.inr (hw _ (List.mem_of_getElem? (i := 10) rfl))) (by decide) (t := .boolean) (t' := .boolean) (by decide) (by decide))))
  obtain ⟨T9, h9, X9, e9, W9, st9⟩ := putF X2 hx hZ hown (host := "") (Or.inl (hw _ (List.mem_of_getElem? (i := 11) rfl))) Via.refl e2 F7 F6 (Or.inr ⟨(hw _ (List.mem_of_getElem? (i := 12) rfl)), rfl, hnm⟩) (hw _ (List.mem_of_getElem? (i := 1) rfl)) (ty := .boolean) (by decide) (own_nnb hb2) (own_fb hb2) (g := (mkF m 11 #[.val (.ref oa), .val (.int x1), .val (.int x2), .val (.int x3)] [(.int x2), (.ref oa)])) rfl rfl (hb hby d1_11)
  refine Go.via st9 ?_
  have Z10 : n0 ≤ h9.size := Nat.le_trans Z3 (Nat.le_of_eq W9.size.symm)
  have K11 : Keep h0 h9 [oa] := K4.wr W9 (Or.inl (List.mem_of_getElem? (i := 0) rfl))
  have N12 := Fr.snoc X9 N5 ga
  have Fw9 := F7.same W9
  show Go p.tables e below P T9 (mkF m 14 #[.val (.ref oa), .val (.int x1), .val (.int x2), .val (.int x3)] [])
  refine Go.via (fun t k => XS.aloadN X9.here hx rfl (hb hby d1_14) rfl rfl k) ?_
  show Go p.tables e below P T9 (mkF m 15 #[.val (.ref oa), .val (.int x1), .val (.int x2), .val (.int x3)] [(.ref oa)])
  refine Go.via (fun t k => XS.iloadN X9.here hx rfl (hb hby d1_15) rfl k) ?_
  show Go p.tables e below P T9 (mkF m 16 #[.val (.ref oa), .val (.int x1), .val (.int x2), .val (.int x3)] [(.int x3), (.ref oa)])
  have F13 : Exa Z h9 oa "com/example/tri3/tri3/ItemShape" := (F6.wr W9)
  have F14 : Fld Z h9 oa "com/example/tri3/tri3/ItemShape" "sharesItem" "Z" (.int (0 : Int32)) := (F8.other W9 (Or.inr (slot_ne (Or.inr (hw _ (List.mem_of_getElem? (i := 14) rfl))) (Or.inr (hw _ (List.mem_of_getElem? (i := 12) rfl))) (by decide) (t := .boolean) (t' := .boolean) (by decide) (by decide))))
  have F15 : Fld Z h9 oa "com/example/tri3/tri3/ItemShape" "takesTurns" "Z" (.int x1) := (Fw2.other W9 (Or.inr (slot_ne (Or.inr (hw _ (List.mem_of_getElem? (i := 10) rfl))) (Or.inr (hw _ (List.mem_of_getElem? (i := 12) rfl))) (by decide) (t := .boolean) (t' := .boolean) (by decide) (by decide))))
  obtain ⟨T16, h16, X16, e16, W16, st16⟩ := putF X9 hx hZ hown (host := "") (Or.inl (hw _ (List.mem_of_getElem? (i := 13) rfl))) Via.refl e9 F14 F13 (Or.inr ⟨(hw _ (List.mem_of_getElem? (i := 14) rfl)), rfl, hnm⟩) (hw _ (List.mem_of_getElem? (i := 1) rfl)) (ty := .boolean) (by decide) (own_nnb hb3) (own_fb hb3) (g := (mkF m 16 #[.val (.ref oa), .val (.int x1), .val (.int x2), .val (.int x3)] [(.int x3), (.ref oa)])) rfl rfl (hb hby d1_16)
  refine Go.via st16 ?_
  have Z17 : n0 ≤ h16.size := Nat.le_trans Z10 (Nat.le_of_eq W16.size.symm)
  have K18 : Keep h0 h16 [oa] := K11.wr W16 (Or.inl (List.mem_of_getElem? (i := 0) rfl))
  have N19 := Fr.snoc X16 N12 ga
  have Fw16 := F14.same W16
  show Go p.tables e below P T16 (mkF m 19 #[.val (.ref oa), .val (.int x1), .val (.int x2), .val (.int x3)] [])
  obtain ⟨fs, hr, hrun, hended, hW, hsame⟩ := X16.leave (v := none) (fun _ => rfl)
  have F21 : Exa Z h16 oa "com/example/tri3/tri3/ItemShape" := (F13.wr W16)
  have F22 : Fld Z h16 oa "com/example/tri3/tri3/ItemShape" "takesTurns" "Z" (.int x1) := (F15.other W16 (Or.inr (slot_ne (Or.inr (hw _ (List.mem_of_getElem? (i := 10) rfl))) (Or.inr (hw _ (List.mem_of_getElem? (i := 14) rfl))) (by decide) (t := .boolean) (t' := .boolean) (by decide) (by decide))))
  have F23 : Fld Z h16 oa "com/example/tri3/tri3/ItemShape" "waitsForStages" "Z" (.int x2) := (Fw9.other W16 (Or.inr (slot_ne (Or.inr (hw _ (List.mem_of_getElem? (i := 12) rfl))) (Or.inr (hw _ (List.mem_of_getElem? (i := 14) rfl))) (by decide) (t := .boolean) (t' := .boolean) (by decide) (by decide))))
  refine ⟨_, _, X16.returnOut hx Bd.returns (hb hby d1_19) hr, hrun, hended, hP _ _ ⟨_, _, rfl, ?_, ⟨_, rfl⟩, hW, hsame.mono (by decide) (by decide)⟩⟩
  show Q1 Z oa x1 x2 x3 h0 n0 _ T16.heap _
  rw [e16]
  exact ⟨rfl, N19, K18, F21, F22, F23, Fw16⟩
theorem d4_0 : decode prog_11_method_6_code 0 = .ok (.aload_n 0, 1) := by decide +kernel
theorem d4_1 : decode prog_11_method_6_code 1 = .ok (.getfield 38, 3) := by decide +kernel
theorem d4_4 : decode prog_11_method_6_code 4 = .ok (.ireturn, 1) := by decide +kernel
theorem ef_4 (m : MethodId) (x0 : Addr) : entryFrame m #[(.ref x0)] 1 = mkF m 0 #[.val (.ref x0)] [] := by first | (simp [entryFrame, mkF, argsToLocals, Value.category]; done) | rfl
def Q4 (Z : State) (oa : Addr) (w : Int32) (h0 : Heap) (n0 : Nat) (v : Option Value) (h : Heap) (L : List Loc) : Prop := v = some (.int w) ∧ Fr n0 L ∧ h = h0
set_option maxRecDepth 65536 in
set_option maxHeartbeats 40000000 in
theorem rm4 (l : Launch) (Z : State) (a0 : Array Value) (hw : ∀ d ∈ tables_1, d.before a0 Z = true) (ws : List Jvm.Cond) (oa : Addr) (w : Int32) (h0 : Heap) (n0 : Nat) (Z0 : n0 ≤ h0.size) (P0 : Fld Z h0 oa "com/example/tri3/tri3/ItemShape" "takesTurns" "Z" (.int w)) (hbw : w = 0 ∨ w = 1) :
    MetFree l (⟨"com/example/tri3/tri3/ItemShape", "takesTurns", "()Z"⟩ : MethodName) (head1 (Jvm.Cond.code (⟨"com/example/tri3/tri3/ItemShape", "takesTurns", "()Z"⟩ : MethodName) prog_11_method_6_code 1 (some .boolean) :: ws) ({ frames := 0, cells := 0, slots := 0, locals := 0 } : Room)) (fun a U => a = #[(.ref oa)] ∧ Z.Warmed39 U.vm ∧ U.heap = h0) (fun _ _ _ _ _ => True) (fun _ U o U' => ∃ v L, o = .returned v ∧ Q4 Z oa w h0 n0 v U'.heap L ∧ FrameEnd U o U' L ({ frames := 0, cells := 0, slots := 0, locals := 0 } : Room).cells ({ frames := 0, cells := 0, slots := 0, locals := 0 } : Room).slots) := by
  refine MetFree.of_bodySF (plainFor_of_name own_pn0) hisR ?_
  intro p e s m args below meth c s₁ Bd hml0 hP hK
  obtain ⟨rfl, hZ, hh⟩ := hP
  have hx := Bd.exec
  have hby := Bd.bytes
  have hml : c.maxLocals = 1 := hml0
  have hown : s.vm.findClass "com/example/tri3/tri3/ItemShape" = some m.cls := findClass_of_methodNamed Bd.named
  have hnm := (name_of_methodNamed Bd.named Bd.method).1
  have X0 : Stand p l e ({ frames := 0, cells := 0, slots := 0, locals := 0 } : Room) s m #[(.ref oa)] below meth c s₁ [] 0 0 := Stand.of_body Bd
  have e0 : s₁.heap = h0 := by rw [← hh, Bd.state]; rfl
  have N0 := Fr.nil n0
  have K0 : Keep h0 h0 [] := Keep.refl _ _
  suffices GO : ∀ P : Outcome → State → Prop, (∀ o U', (∃ v L, o = .returned v ∧ Q4 Z oa w h0 n0 v U'.heap L ∧ FrameEnd s o U' L ({ frames := 0, cells := 0, slots := 0, locals := 0 } : Room).cells ({ frames := 0, cells := 0, slots := 0, locals := 0 } : Room).slots) → P o U') → Go p.tables e below P s₁ (mkF m 0 #[.val (.ref oa)] []) by
    obtain ⟨s2, o, st, r⟩ := GO _ (fun _ _ q => q)
    exact ⟨s2, o, castTop (ef_4 m oa) st, r⟩
  clear hh
  intro P hP
  show Go p.tables e below P s₁ (mkF m 0 #[.val (.ref oa)] [])
  refine Go.via (fun t k => XS.aloadN X0.here hx rfl (hb hby d4_0) rfl rfl k) ?_
  show Go p.tables e below P s₁ (mkF m 1 #[.val (.ref oa)] [(.ref oa)])
  obtain ⟨T1, X1, e1, st1⟩ := getF X0 hx hZ hown (host := "") (Or.inl (hw _ (List.mem_of_getElem? (i := 9) rfl))) Via.refl e0 P0 (g := (mkF m 1 #[.val (.ref oa)] [(.ref oa)])) rfl rfl (hb hby d4_1)
  refine Go.via st1 ?_
  show Go p.tables e below P T1 (mkF m 4 #[.val (.ref oa)] [(.int w)])
  obtain ⟨fs, hr, hrun, hended, hW, hsame⟩ := X1.leave (v := some (.int w)) (fun h => by rw [Bd.returns] at h; cases h)
  refine ⟨_, _, retZ X1 hx (t := .boolean) Bd.returns (by simp) (hb hby d4_4) (own_nb hbw) hr, hrun, hended, hP _ _ ⟨_, _, rfl, ?_, ⟨_, rfl⟩, hW, hsame.mono (by decide) (by decide)⟩⟩
  show Q4 Z oa w h0 n0 _ T1.heap _
  rw [e1]
  exact ⟨rfl, N0, rfl⟩
theorem d5_0 : decode prog_11_method_7_code 0 = .ok (.aload_n 0, 1) := by decide +kernel
theorem d5_1 : decode prog_11_method_7_code 1 = .ok (.getfield 42, 3) := by decide +kernel
theorem d5_4 : decode prog_11_method_7_code 4 = .ok (.ireturn, 1) := by decide +kernel
theorem ef_5 (m : MethodId) (x0 : Addr) : entryFrame m #[(.ref x0)] 1 = mkF m 0 #[.val (.ref x0)] [] := by first | (simp [entryFrame, mkF, argsToLocals, Value.category]; done) | rfl
def Q5 (Z : State) (oa : Addr) (w : Int32) (h0 : Heap) (n0 : Nat) (v : Option Value) (h : Heap) (L : List Loc) : Prop := v = some (.int w) ∧ Fr n0 L ∧ h = h0
set_option maxRecDepth 65536 in
set_option maxHeartbeats 40000000 in
theorem rm5 (l : Launch) (Z : State) (a0 : Array Value) (hw : ∀ d ∈ tables_1, d.before a0 Z = true) (ws : List Jvm.Cond) (oa : Addr) (w : Int32) (h0 : Heap) (n0 : Nat) (Z0 : n0 ≤ h0.size) (P0 : Fld Z h0 oa "com/example/tri3/tri3/ItemShape" "waitsForStages" "Z" (.int w)) (hbw : w = 0 ∨ w = 1) :
    MetFree l (⟨"com/example/tri3/tri3/ItemShape", "waitsForStages", "()Z"⟩ : MethodName) (head1 (Jvm.Cond.code (⟨"com/example/tri3/tri3/ItemShape", "waitsForStages", "()Z"⟩ : MethodName) prog_11_method_7_code 1 (some .boolean) :: ws) ({ frames := 0, cells := 0, slots := 0, locals := 0 } : Room)) (fun a U => a = #[(.ref oa)] ∧ Z.Warmed39 U.vm ∧ U.heap = h0) (fun _ _ _ _ _ => True) (fun _ U o U' => ∃ v L, o = .returned v ∧ Q5 Z oa w h0 n0 v U'.heap L ∧ FrameEnd U o U' L ({ frames := 0, cells := 0, slots := 0, locals := 0 } : Room).cells ({ frames := 0, cells := 0, slots := 0, locals := 0 } : Room).slots) := by
  refine MetFree.of_bodySF (plainFor_of_name own_pn0) hisR ?_
  intro p e s m args below meth c s₁ Bd hml0 hP hK
  obtain ⟨rfl, hZ, hh⟩ := hP
  have hx := Bd.exec
  have hby := Bd.bytes
  have hml : c.maxLocals = 1 := hml0
  have hown : s.vm.findClass "com/example/tri3/tri3/ItemShape" = some m.cls := findClass_of_methodNamed Bd.named
  have hnm := (name_of_methodNamed Bd.named Bd.method).1
  have X0 : Stand p l e ({ frames := 0, cells := 0, slots := 0, locals := 0 } : Room) s m #[(.ref oa)] below meth c s₁ [] 0 0 := Stand.of_body Bd
  have e0 : s₁.heap = h0 := by rw [← hh, Bd.state]; rfl
  have N0 := Fr.nil n0
  have K0 : Keep h0 h0 [] := Keep.refl _ _
  suffices GO : ∀ P : Outcome → State → Prop, (∀ o U', (∃ v L, o = .returned v ∧ Q5 Z oa w h0 n0 v U'.heap L ∧ FrameEnd s o U' L ({ frames := 0, cells := 0, slots := 0, locals := 0 } : Room).cells ({ frames := 0, cells := 0, slots := 0, locals := 0 } : Room).slots) → P o U') → Go p.tables e below P s₁ (mkF m 0 #[.val (.ref oa)] []) by
    obtain ⟨s2, o, st, r⟩ := GO _ (fun _ _ q => q)
    exact ⟨s2, o, castTop (ef_5 m oa) st, r⟩
  clear hh
  intro P hP
  show Go p.tables e below P s₁ (mkF m 0 #[.val (.ref oa)] [])
  refine Go.via (fun t k => XS.aloadN X0.here hx rfl (hb hby d5_0) rfl rfl k) ?_
  show Go p.tables e below P s₁ (mkF m 1 #[.val (.ref oa)] [(.ref oa)])
  obtain ⟨T1, X1, e1, st1⟩ := getF X0 hx hZ hown (host := "") (Or.inl (hw _ (List.mem_of_getElem? (i := 11) rfl))) Via.refl e0 P0 (g := (mkF m 1 #[.val (.ref oa)] [(.ref oa)])) rfl rfl (hb hby d5_1)
  refine Go.via st1 ?_
  show Go p.tables e below P T1 (mkF m 4 #[.val (.ref oa)] [(.int w)])
  obtain ⟨fs, hr, hrun, hended, hW, hsame⟩ := X1.leave (v := some (.int w)) (fun h => by rw [Bd.returns] at h; cases h)
  refine ⟨_, _, retZ X1 hx (t := .boolean) Bd.returns (by simp) (hb hby d5_4) (own_nb hbw) hr, hrun, hended, hP _ _ ⟨_, _, rfl, ?_, ⟨_, rfl⟩, hW, hsame.mono (by decide) (by decide)⟩⟩
  show Q5 Z oa w h0 n0 _ T1.heap _
  rw [e1]
  exact ⟨rfl, N0, rfl⟩
theorem d6_0 : decode prog_11_method_8_code 0 = .ok (.aload_n 0, 1) := by decide +kernel
theorem d6_1 : decode prog_11_method_8_code 1 = .ok (.getfield 45, 3) := by decide +kernel
theorem d6_4 : decode prog_11_method_8_code 4 = .ok (.ireturn, 1) := by decide +kernel
theorem ef_6 (m : MethodId) (x0 : Addr) : entryFrame m #[(.ref x0)] 1 = mkF m 0 #[.val (.ref x0)] [] := by first | (simp [entryFrame, mkF, argsToLocals, Value.category]; done) | rfl
def Q6 (Z : State) (oa : Addr) (w : Int32) (h0 : Heap) (n0 : Nat) (v : Option Value) (h : Heap) (L : List Loc) : Prop := v = some (.int w) ∧ Fr n0 L ∧ h = h0
set_option maxRecDepth 65536 in
set_option maxHeartbeats 40000000 in
theorem rm6 (l : Launch) (Z : State) (a0 : Array Value) (hw : ∀ d ∈ tables_1, d.before a0 Z = true) (ws : List Jvm.Cond) (oa : Addr) (w : Int32) (h0 : Heap) (n0 : Nat) (Z0 : n0 ≤ h0.size) (P0 : Fld Z h0 oa "com/example/tri3/tri3/ItemShape" "sharesItem" "Z" (.int w)) (hbw : w = 0 ∨ w = 1) :
    MetFree l (⟨"com/example/tri3/tri3/ItemShape", "sharesItem", "()Z"⟩ : MethodName) (head1 (Jvm.Cond.code (⟨"com/example/tri3/tri3/ItemShape", "sharesItem", "()Z"⟩ : MethodName) prog_11_method_8_code 1 (some .boolean) :: ws) ({ frames := 0, cells := 0, slots := 0, locals := 0 } : Room)) (fun a U => a = #[(.ref oa)] ∧ Z.Warmed39 U.vm ∧ U.heap = h0) (fun _ _ _ _ _ => True) (fun _ U o U' => ∃ v L, o = .returned v ∧ Q6 Z oa w h0 n0 v U'.heap L ∧ FrameEnd U o U' L ({ frames := 0, cells := 0, slots := 0, locals := 0 } : Room).cells ({ frames := 0, cells := 0, slots := 0, locals := 0 } : Room).slots) := by
  refine MetFree.of_bodySF (plainFor_of_name own_pn0) hisR ?_
  intro p e s m args below meth c s₁ Bd hml0 hP hK
  obtain ⟨rfl, hZ, hh⟩ := hP
  have hx := Bd.exec
  have hby := Bd.bytes
  have hml : c.maxLocals = 1 := hml0
  have hown : s.vm.findClass "com/example/tri3/tri3/ItemShape" = some m.cls := findClass_of_methodNamed Bd.named
  have hnm := (name_of_methodNamed Bd.named Bd.method).1
  have X0 : Stand p l e ({ frames := 0, cells := 0, slots := 0, locals := 0 } : Room) s m #[(.ref oa)] below meth c s₁ [] 0 0 := Stand.of_body Bd
  have e0 : s₁.heap = h0 := by rw [← hh, Bd.state]; rfl
  have N0 := Fr.nil n0
  have K0 : Keep h0 h0 [] := Keep.refl _ _
  suffices GO : ∀ P : Outcome → State → Prop, (∀ o U', (∃ v L, o = .returned v ∧ Q6 Z oa w h0 n0 v U'.heap L ∧ FrameEnd s o U' L ({ frames := 0, cells := 0, slots := 0, locals := 0 } : Room).cells ({ frames := 0, cells := 0, slots := 0, locals := 0 } : Room).slots) → P o U') → Go p.tables e below P s₁ (mkF m 0 #[.val (.ref oa)] []) by
    obtain ⟨s2, o, st, r⟩ := GO _ (fun _ _ q => q)
    exact ⟨s2, o, castTop (ef_6 m oa) st, r⟩
  clear hh
  intro P hP
  show Go p.tables e below P s₁ (mkF m 0 #[.val (.ref oa)] [])
  refine Go.via (fun t k => XS.aloadN X0.here hx rfl (hb hby d6_0) rfl rfl k) ?_
  show Go p.tables e below P s₁ (mkF m 1 #[.val (.ref oa)] [(.ref oa)])
  obtain ⟨T1, X1, e1, st1⟩ := getF X0 hx hZ hown (host := "") (Or.inl (hw _ (List.mem_of_getElem? (i := 13) rfl))) Via.refl e0 P0 (g := (mkF m 1 #[.val (.ref oa)] [(.ref oa)])) rfl rfl (hb hby d6_1)
  refine Go.via st1 ?_
  show Go p.tables e below P T1 (mkF m 4 #[.val (.ref oa)] [(.int w)])
  obtain ⟨fs, hr, hrun, hended, hW, hsame⟩ := X1.leave (v := some (.int w)) (fun h => by rw [Bd.returns] at h; cases h)
  refine ⟨_, _, retZ X1 hx (t := .boolean) Bd.returns (by simp) (hb hby d6_4) (own_nb hbw) hr, hrun, hended, hP _ _ ⟨_, _, rfl, ?_, ⟨_, rfl⟩, hW, hsame.mono (by decide) (by decide)⟩⟩
  show Q6 Z oa w h0 n0 _ T1.heap _
  rw [e1]
  exact ⟨rfl, N0, rfl⟩
theorem own_pd0 : parseMethodDescriptor "(ZZZ)V" = some ⟨[.boolean, .boolean, .boolean], none⟩ := by decide +kernel
theorem d3_0 : decode prog_11_method_9_code 0 = .ok (.new 4, 3) := by decide +kernel
theorem d3_3 : decode prog_11_method_9_code 3 = .ok (.dup, 1) := by decide +kernel
theorem d3_4 : decode prog_11_method_9_code 4 = .ok (.aload_n 0, 1) := by decide +kernel
theorem d3_5 : decode prog_11_method_9_code 5 = .ok (.getfield 38, 3) := by decide +kernel
theorem d3_8 : decode prog_11_method_9_code 8 = .ok (.ifCond .ne 10, 3) := by decide +kernel
theorem d3_11 : decode prog_11_method_9_code 11 = .ok (.aload_n 1, 1) := by decide +kernel
theorem d3_12 : decode prog_11_method_9_code 12 = .ok (.getfield 38, 3) := by decide +kernel
theorem d3_15 : decode prog_11_method_9_code 15 = .ok (.ifCond .eq 7, 3) := by decide +kernel
theorem d3_18 : decode prog_11_method_9_code 18 = .ok (.iconst 1, 1) := by decide +kernel
theorem d3_19 : decode prog_11_method_9_code 19 = .ok (.goto 4, 3) := by decide +kernel
theorem d3_22 : decode prog_11_method_9_code 22 = .ok (.iconst 0, 1) := by decide +kernel
theorem d3_23 : decode prog_11_method_9_code 23 = .ok (.aload_n 0, 1) := by decide +kernel
theorem d3_24 : decode prog_11_method_9_code 24 = .ok (.getfield 42, 3) := by decide +kernel
theorem d3_27 : decode prog_11_method_9_code 27 = .ok (.ifCond .ne 10, 3) := by decide +kernel
theorem d3_30 : decode prog_11_method_9_code 30 = .ok (.aload_n 1, 1) := by decide +kernel
theorem d3_31 : decode prog_11_method_9_code 31 = .ok (.getfield 42, 3) := by decide +kernel
theorem d3_34 : decode prog_11_method_9_code 34 = .ok (.ifCond .eq 7, 3) := by decide +kernel
theorem d3_37 : decode prog_11_method_9_code 37 = .ok (.iconst 1, 1) := by decide +kernel
theorem d3_38 : decode prog_11_method_9_code 38 = .ok (.goto 4, 3) := by decide +kernel
theorem d3_41 : decode prog_11_method_9_code 41 = .ok (.iconst 0, 1) := by decide +kernel
theorem d3_42 : decode prog_11_method_9_code 42 = .ok (.aload_n 0, 1) := by decide +kernel
theorem d3_43 : decode prog_11_method_9_code 43 = .ok (.getfield 45, 3) := by decide +kernel
theorem d3_46 : decode prog_11_method_9_code 46 = .ok (.ifCond .ne 10, 3) := by decide +kernel
theorem d3_49 : decode prog_11_method_9_code 49 = .ok (.aload_n 1, 1) := by decide +kernel
theorem d3_50 : decode prog_11_method_9_code 50 = .ok (.getfield 45, 3) := by decide +kernel
theorem d3_53 : decode prog_11_method_9_code 53 = .ok (.ifCond .eq 7, 3) := by decide +kernel
theorem d3_56 : decode prog_11_method_9_code 56 = .ok (.iconst 1, 1) := by decide +kernel
theorem d3_57 : decode prog_11_method_9_code 57 = .ok (.goto 4, 3) := by decide +kernel
theorem d3_60 : decode prog_11_method_9_code 60 = .ok (.iconst 0, 1) := by decide +kernel
theorem d3_61 : decode prog_11_method_9_code 61 = .ok (.invokespecial 29, 3) := by decide +kernel
theorem d3_64 : decode prog_11_method_9_code 64 = .ok (.areturn, 1) := by decide +kernel
theorem ef_3 (m : MethodId) (x0 : Addr) (x1 : Addr) : entryFrame m #[(.ref x0), (.ref x1)] 2 = mkF m 0 #[.val (.ref x0), .val (.ref x1)] [] := by first | (simp [entryFrame, mkF, argsToLocals, Value.category]; done) | rfl
def Q3 (Z : State) (oa : Addr) (ob : Addr) (s1 : Int32) (s2 : Int32) (s3 : Int32) (t1 : Int32) (t2 : Int32) (t3 : Int32) (h0 : Heap) (n0 : Nat) (v : Option Value) (h : Heap) (L : List Loc) : Prop := ∃ (r : Addr) (u1 : Int32) (u2 : Int32) (u3 : Int32), v = some (.ref r) ∧ Fr n0 L ∧ Keep h0 h [] ∧ h0.size ≤ r ∧ Exa Z h r "com/example/tri3/tri3/ItemShape" ∧ Fld Z h r "com/example/tri3/tri3/ItemShape" "takesTurns" "Z" (.int u1) ∧ Fld Z h r "com/example/tri3/tri3/ItemShape" "waitsForStages" "Z" (.int u2) ∧ Fld Z h r "com/example/tri3/tri3/ItemShape" "sharesItem" "Z" (.int u3) ∧ (u1 = (if s1 = (0 : Int32) then (if t1 = (0 : Int32) then (0 : Int32) else (1 : Int32)) else (1 : Int32))) ∧ (u2 = (if s2 = (0 : Int32) then (if t2 = (0 : Int32) then (0 : Int32) else (1 : Int32)) else (1 : Int32))) ∧ (u3 = (if s3 = (0 : Int32) then (if t3 = (0 : Int32) then (0 : Int32) else (1 : Int32)) else (1 : Int32))) ∧ (u1 = 0 ∨ u1 = 1) ∧ (u2 = 0 ∨ u2 = 1) ∧ (u3 = 0 ∨ u3 = 1)
set_option maxRecDepth 65536 in
set_option maxHeartbeats 40000000 in
theorem rm3 (l : Launch) (Z : State) (a0 : Array Value) (hw : ∀ d ∈ tables_1, d.before a0 Z = true) (ws : List Jvm.Cond) (oa : Addr) (ob : Addr) (s1 : Int32) (s2 : Int32) (s3 : Int32) (t1 : Int32) (t2 : Int32) (t3 : Int32) (h0 : Heap) (n0 : Nat) (Z0 : n0 ≤ h0.size) (P0 : Fld Z h0 oa "com/example/tri3/tri3/ItemShape" "takesTurns" "Z" (.int s1)) (P1 : Fld Z h0 oa "com/example/tri3/tri3/ItemShape" "waitsForStages" "Z" (.int s2)) (P2 : Fld Z h0 oa "com/example/tri3/tri3/ItemShape" "sharesItem" "Z" (.int s3)) (P3 : Fld Z h0 ob "com/example/tri3/tri3/ItemShape" "takesTurns" "Z" (.int t1)) (P4 : Fld Z h0 ob "com/example/tri3/tri3/ItemShape" "waitsForStages" "Z" (.int t2)) (P5 : Fld Z h0 ob "com/example/tri3/tri3/ItemShape" "sharesItem" "Z" (.int t3)) :
    MetFree l (⟨"com/example/tri3/tri3/ItemShape", "with", "(Lcom/example/tri3/tri3/ItemShape;)Lcom/example/tri3/tri3/ItemShape;"⟩ : MethodName) (head1 (Jvm.Cond.code (⟨"com/example/tri3/tri3/ItemShape", "with", "(Lcom/example/tri3/tri3/ItemShape;)Lcom/example/tri3/tri3/ItemShape;"⟩ : MethodName) prog_11_method_9_code 2 (some (.object "com/example/tri3/tri3/ItemShape")) :: ws) ({ frames := 2, cells := 1, slots := 3, locals := 28 } : Room)) (fun a U => a = #[(.ref oa), (.ref ob)] ∧ Z.Warmed39 U.vm ∧ U.heap = h0) (fun _ _ _ _ _ => True) (fun _ U o U' => ∃ v L, o = .returned v ∧ Q3 Z oa ob s1 s2 s3 t1 t2 t3 h0 n0 v U'.heap L ∧ FrameEnd U o U' L ({ frames := 2, cells := 1, slots := 3, locals := 28 } : Room).cells ({ frames := 2, cells := 1, slots := 3, locals := 28 } : Room).slots) := by
  refine MetFree.of_bodySF (plainFor_of_name own_pn0) hisR ?_
  intro p e s m args below meth c s₁ Bd hml0 hP hK
  obtain ⟨rfl, hZ, hh⟩ := hP
  have hx := Bd.exec
  have hby := Bd.bytes
  have hml : c.maxLocals = 2 := hml0
  have hown : s.vm.findClass "com/example/tri3/tri3/ItemShape" = some m.cls := findClass_of_methodNamed Bd.named
  have hnm := (name_of_methodNamed Bd.named Bd.method).1
  have X0 : Stand p l e ({ frames := 2, cells := 1, slots := 3, locals := 28 } : Room) s m #[(.ref oa), (.ref ob)] below meth c s₁ [] 0 0 := Stand.of_body Bd
  have e0 : s₁.heap = h0 := by rw [← hh, Bd.state]; rfl
  have N0 := Fr.nil n0
  have K0 : Keep h0 h0 [] := Keep.refl _ _
  suffices GO : ∀ P : Outcome → State → Prop, (∀ o U', (∃ v L, o = .returned v ∧ Q3 Z oa ob s1 s2 s3 t1 t2 t3 h0 n0 v U'.heap L ∧ FrameEnd s o U' L ({ frames := 2, cells := 1, slots := 3, locals := 28 } : Room).cells ({ frames := 2, cells := 1, slots := 3, locals := 28 } : Room).slots) → P o U') → Go p.tables e below P s₁ (mkF m 0 #[.val (.ref oa), .val (.ref ob)] []) by
    obtain ⟨s2, o, st, r⟩ := GO _ (fun _ _ q => q)
    exact ⟨s2, o, castTop (ef_3 m oa ob) st, r⟩
  clear hh
  intro P hP
  show Go p.tables e below P s₁ (mkF m 0 #[.val (.ref oa), .val (.ref ob)] [])
  obtain ⟨T1, h1, X1, e1, E1, A1, D1, -, st1⟩ := newO X0 hx hZ hown (hw _ (List.mem_of_getElem? (i := 20) rfl)) (hw _ (List.mem_of_getElem? (i := 1) rfl)) (hw _ (List.mem_of_getElem? (i := 2) rfl)) e0 (g := (mkF m 0 #[.val (.ref oa), .val (.ref ob)] [])) rfl (hb hby d3_0) (by decide) (by decide)
  obtain ⟨b1, g1⟩ : ∃ z, z = h0.size := ⟨_, rfl⟩
  rw [← g1] at A1 D1 st1
  refine Go.via st1 ?_
  have ne2 : oa ≠ b1 := Nat.ne_of_lt (Nat.lt_of_lt_of_le P0.lt (Nat.le_of_eq g1.symm))
  have ne3 : ob ≠ b1 := Nat.ne_of_lt (Nat.lt_of_lt_of_le P3.lt (Nat.le_of_eq g1.symm))
  have g4 : n0 ≤ b1 := Nat.le_trans Z0 (Nat.le_of_eq g1.symm)
  have sz5 : h0.size ≤ b1 := Nat.le_trans K0.1 (Nat.le_of_eq g1.symm)
  have Z6 : n0 ≤ h1.size := Nat.le_trans Z0 E1.1
  have K7 : Keep h0 h1 [] := K0.ext E1
  show Go p.tables e below P T1 (mkF m 3 #[.val (.ref oa), .val (.ref ob)] [(.ref b1)])
  refine Go.via (fun t k => XS.dup X1.here hx rfl (hb hby d3_3) rfl rfl k) ?_
  show Go p.tables e below P T1 (mkF m 4 #[.val (.ref oa), .val (.ref ob)] [(.ref b1), (.ref b1)])
  refine Go.via (fun t k => XS.aloadN X1.here hx rfl (hb hby d3_4) rfl rfl k) ?_
  show Go p.tables e below P T1 (mkF m 5 #[.val (.ref oa), .val (.ref ob)] [(.ref oa), (.ref b1), (.ref b1)])
  have F8 : Fld Z h1 oa "com/example/tri3/tri3/ItemShape" "takesTurns" "Z" (.int s1) := (P0.ext E1)
  obtain ⟨T9, X9, e9, st9⟩ := getF X1 hx hZ hown (host := "") (Or.inl (hw _ (List.mem_of_getElem? (i := 9) rfl))) Via.refl e1 F8 (g := (mkF m 5 #[.val (.ref oa), .val (.ref ob)] [(.ref oa), (.ref b1), (.ref b1)])) rfl rfl (hb hby d3_5)
  refine Go.via st9 ?_
  show Go p.tables e below P T9 (mkF m 8 #[.val (.ref oa), .val (.ref ob)] [(.int s1), (.ref b1), (.ref b1)])
  have J11 : ∀ (T11 : State) (locs11 : List Loc) (v11_0 : Int32), Stand p l e ({ frames := 2, cells := 1, slots := 3, locals := 28 } : Room) s m #[(.ref oa), (.ref ob)] below meth c T11 locs11 1 3 → T11.heap = h1 → Fr n0 locs11 → v11_0 = (if s1 = (0 : Int32) then (if t1 = (0 : Int32) then (0 : Int32) else (1 : Int32)) else (1 : Int32)) → Go p.tables e below P T11 (mkF m 23 #[.val (.ref oa), .val (.ref ob)] [(.int v11_0), (.ref b1), (.ref b1)]) := by
    intro T11 locs11 v11_0 X11 e11 N11 hv11_0
    have hbv11_0 : v11_0 = 0 ∨ v11_0 = 1 := by (subst hv11_0; (repeat' split) <;> first | (left; rfl) | (right; rfl))
    show Go p.tables e below P T11 (mkF m 23 #[.val (.ref oa), .val (.ref ob)] [(.int v11_0), (.ref b1), (.ref b1)])
    refine Go.via (fun t k => XS.aloadN X11.here hx rfl (hb hby d3_23) rfl rfl k) ?_
    show Go p.tables e below P T11 (mkF m 24 #[.val (.ref oa), .val (.ref ob)] [(.ref oa), (.int v11_0), (.ref b1), (.ref b1)])
    have F12 : Fld Z h1 oa "com/example/tri3/tri3/ItemShape" "waitsForStages" "Z" (.int s2) := (P1.ext E1)
    obtain ⟨T13, X13, e13, st13⟩ := getF X11 hx hZ hown (host := "") (Or.inl (hw _ (List.mem_of_getElem? (i := 11) rfl))) Via.refl e11 F12 (g := (mkF m 24 #[.val (.ref oa), .val (.ref ob)] [(.ref oa), (.int v11_0), (.ref b1), (.ref b1)])) rfl rfl (hb hby d3_24)
    refine Go.via st13 ?_
    show Go p.tables e below P T13 (mkF m 27 #[.val (.ref oa), .val (.ref ob)] [(.int s2), (.int v11_0), (.ref b1), (.ref b1)])
    have J15 : ∀ (T15 : State) (locs15 : List Loc) (v15_0 : Int32), Stand p l e ({ frames := 2, cells := 1, slots := 3, locals := 28 } : Room) s m #[(.ref oa), (.ref ob)] below meth c T15 locs15 1 3 → T15.heap = h1 → Fr n0 locs15 → v15_0 = (if s2 = (0 : Int32) then (if t2 = (0 : Int32) then (0 : Int32) else (1 : Int32)) else (1 : Int32)) → Go p.tables e below P T15 (mkF m 42 #[.val (.ref oa), .val (.ref ob)] [(.int v15_0), (.int v11_0), (.ref b1), (.ref b1)]) := by
      intro T15 locs15 v15_0 X15 e15 N15 hv15_0
      have hbv15_0 : v15_0 = 0 ∨ v15_0 = 1 := by (subst hv15_0; (repeat' split) <;> first | (left; rfl) | (right; rfl))
      show Go p.tables e below P T15 (mkF m 42 #[.val (.ref oa), .val (.ref ob)] [(.int v15_0), (.int v11_0), (.ref b1), (.ref b1)])
      refine Go.via (fun t k => XS.aloadN X15.here hx rfl (hb hby d3_42) rfl rfl k) ?_
      show Go p.tables e below P T15 (mkF m 43 #[.val (.ref oa), .val (.ref ob)] [(.ref oa), (.int v15_0), (.int v11_0), (.ref b1), (.ref b1)])
      have F16 : Fld Z h1 oa "com/example/tri3/tri3/ItemShape" "sharesItem" "Z" (.int s3) := (P2.ext E1)
      obtain ⟨T17, X17, e17, st17⟩ := getF X15 hx hZ hown (host := "") (Or.inl (hw _ (List.mem_of_getElem? (i := 13) rfl))) Via.refl e15 F16 (g := (mkF m 43 #[.val (.ref oa), .val (.ref ob)] [(.ref oa), (.int v15_0), (.int v11_0), (.ref b1), (.ref b1)])) rfl rfl (hb hby d3_43)
      refine Go.via st17 ?_
      show Go p.tables e below P T17 (mkF m 46 #[.val (.ref oa), .val (.ref ob)] [(.int s3), (.int v15_0), (.int v11_0), (.ref b1), (.ref b1)])
      have J19 : ∀ (T19 : State) (locs19 : List Loc) (v19_0 : Int32), Stand p l e ({ frames := 2, cells := 1, slots := 3, locals := 28 } : Room) s m #[(.ref oa), (.ref ob)] below meth c T19 locs19 1 3 → T19.heap = h1 → Fr n0 locs19 → v19_0 = (if s3 = (0 : Int32) then (if t3 = (0 : Int32) then (0 : Int32) else (1 : Int32)) else (1 : Int32)) → Go p.tables e below P T19 (mkF m 61 #[.val (.ref oa), .val (.ref ob)] [(.int v19_0), (.int v15_0), (.int v11_0), (.ref b1), (.ref b1)]) := by
        intro T19 locs19 v19_0 X19 e19 N19 hv19_0
        have hbv19_0 : v19_0 = 0 ∨ v19_0 = 1 := by (subst hv19_0; (repeat' split) <;> first | (left; rfl) | (right; rfl))
        show Go p.tables e below P T19 (mkF m 61 #[.val (.ref oa), .val (.ref ob)] [(.int v19_0), (.int v15_0), (.int v11_0), (.ref b1), (.ref b1)])
        have F20 : Fld Z h1 ob "com/example/tri3/tri3/ItemShape" "takesTurns" "Z" (.int t1) := (P3.ext E1)
        have F21 : Fld Z h1 ob "com/example/tri3/tri3/ItemShape" "waitsForStages" "Z" (.int t2) := (P4.ext E1)
        have F22 : Fld Z h1 ob "com/example/tri3/tri3/ItemShape" "sharesItem" "Z" (.int t3) := (P5.ext E1)
        obtain ⟨_, _, ⟨T23, L23, k23, n23⟩, -, X23, ⟨Lc23, hQ23, l23, y23, z23⟩, st23⟩ := X19.specialBack hx (y := (⟨"com/example/tri3/tri3/ItemShape", "<init>", "(ZZZ)V"⟩ : MethodName)) rfl hown (mvT hZ (hw _ (List.mem_of_getElem? (i := 21) rfl))) (mvT hZ (hw _ (List.mem_of_getElem? (i := 4) rfl))) (mvT hZ (hw _ (List.mem_of_getElem? (i := 5) rfl))) (by decide) (backOf (W := 1) (rm1 l Z a0 hw [] b1 v11_0 v15_0 v19_0 h1 n0 Z6 A1 (D1 (Or.inr (hw _ (List.mem_of_getElem? (i := 10) rfl))) (ty := .boolean) (by decide) : Fld Z h1 b1 "com/example/tri3/tri3/ItemShape" "takesTurns" "Z" (.int (0 : Int32))) (D1 (Or.inr (hw _ (List.mem_of_getElem? (i := 12) rfl))) (ty := .boolean) (by decide) : Fld Z h1 b1 "com/example/tri3/tri3/ItemShape" "waitsForStages" "Z" (.int (0 : Int32))) (D1 (Or.inr (hw _ (List.mem_of_getElem? (i := 14) rfl))) (ty := .boolean) (by decide) : Fld Z h1 b1 "com/example/tri3/tri3/ItemShape" "sharesItem" "Z" (.int (0 : Int32))) g4 (by first | assumption | decide | omega : v11_0 = 0 ∨ v11_0 = 1) (by first | assumption | decide | omega : v15_0 = 0 ∨ v15_0 = 1) (by first | assumption | decide | omega : v19_0 = 0 ∨ v19_0 = 1)) hZ (hw _ (List.mem_of_getElem? (i := 5) rfl)) (hw _ (List.mem_of_getElem? (i := 2) rfl)) (by decide) (by decide)) (g := (mkF m 61 #[.val (.ref oa), .val (.ref ob)] [(.int v19_0), (.int v15_0), (.int v11_0), (.ref b1), (.ref b1)])) rfl (by rw [hml]; rfl) (Steps.refl _) (a := b1) (argsL := [(.int v11_0), (.int v15_0), (.int v19_0)]) (rest := [(.ref b1)]) (lenOf own_pd0 rfl) rfl (by show 2 * 0 + _ ≤ _; exact Nat.le_of_eq rfl) (hb hby d3_61) (fun _ _ => ⟨rfl, e19, (by decide : 1 + 0 ≤ _), (by decide : 3 + 0 ≤ _)⟩)
        dsimp only [Pt.U, Pt.locs, Pt.cells, Pt.slots] at X23 l23 y23 z23 st23 hQ23
        subst l23 y23 z23
        obtain ⟨rfl, Nq23, K23, u23_0, u23_1, u23_2, u23_3⟩ := hQ23
        have N23 := Fr.app N19 Nq23
        refine Go.hop st23 ?_
        have Z24 : n0 ≤ T23.heap.size := Nat.le_trans Z6 K23.1
        have K25 : Keep h0 T23.heap [] := K7.trans K23 (own_allC (Or.inr sz5) own_all0)
        show Go p.tables e below P T23 (mkF m 64 #[.val (.ref oa), .val (.ref ob)] [(.ref b1)])
        obtain ⟨fs, hr, hrun, hended, hW, hsame⟩ := X23.leave (v := some (.ref b1)) (fun h => by rw [Bd.returns] at h; cases h)
        refine ⟨_, _, retA X23 hx Bd.returns rfl rfl rfl (hb hby d3_64) hr, hrun, hended, hP _ _ ⟨_, _, rfl, ?_, ⟨_, rfl⟩, hW, hsame.mono (by decide) (by decide)⟩⟩
        show Q3 Z oa ob s1 s2 s3 t1 t2 t3 h0 n0 _ T23.heap _
        exact ⟨b1, v11_0, v15_0, v19_0, rfl, N23, K25, sz5, u23_0, u23_1, u23_2, u23_3, hv11_0, hv15_0, hv19_0, hbv11_0, hbv15_0, hbv19_0⟩
      by_cases hc18 : s3 = (0 : Int32)
      · refine Go.via (fun t k => XS.ifNo X17.here hx rfl (hb hby d3_46) rfl ((if0 _ _).trans (teq hc18).2) k) ?_
        show Go p.tables e below P T17 (mkF m 49 #[.val (.ref oa), .val (.ref ob)] [(.int v15_0), (.int v11_0), (.ref b1), (.ref b1)])
        refine Go.via (fun t k => XS.aloadN X17.here hx rfl (hb hby d3_49) rfl rfl k) ?_
        show Go p.tables e below P T17 (mkF m 50 #[.val (.ref oa), .val (.ref ob)] [(.ref ob), (.int v15_0), (.int v11_0), (.ref b1), (.ref b1)])
        have F27 : Fld Z h1 ob "com/example/tri3/tri3/ItemShape" "sharesItem" "Z" (.int t3) := (P5.ext E1)
        obtain ⟨T28, X28, e28, st28⟩ := getF X17 hx hZ hown (host := "") (Or.inl (hw _ (List.mem_of_getElem? (i := 13) rfl))) Via.refl e17 F27 (g := (mkF m 50 #[.val (.ref oa), .val (.ref ob)] [(.ref ob), (.int v15_0), (.int v11_0), (.ref b1), (.ref b1)])) rfl rfl (hb hby d3_50)
        refine Go.via st28 ?_
        show Go p.tables e below P T28 (mkF m 53 #[.val (.ref oa), .val (.ref ob)] [(.int t3), (.int v15_0), (.int v11_0), (.ref b1), (.ref b1)])
        by_cases hc29 : t3 = (0 : Int32)
        · refine Go.via (fun t k => XS.ifYes X28.here hx rfl (pc0 := 53) (pc' := 60) rfl (hb hby d3_53) rfl ((if0 _ _).trans (teq hc29).1) (by decide) (by decide) k) ?_
          show Go p.tables e below P T28 (mkF m 60 #[.val (.ref oa), .val (.ref ob)] [(.int v15_0), (.int v11_0), (.ref b1), (.ref b1)])
          refine Go.via (fun t k => XS.iconst X28.here hx rfl (hb hby d3_60) k) ?_
          exact J19 T28 _ (0 : Int32) X28 e28 N15 (Eq.trans (if_pos hc18) (if_pos hc29)).symm
        · refine Go.via (fun t k => XS.ifNo X28.here hx rfl (hb hby d3_53) rfl ((if0 _ _).trans (feq hc29).1) k) ?_
          show Go p.tables e below P T28 (mkF m 56 #[.val (.ref oa), .val (.ref ob)] [(.int v15_0), (.int v11_0), (.ref b1), (.ref b1)])
          refine Go.via (fun t k => XS.iconst X28.here hx rfl (hb hby d3_56) k) ?_
          show Go p.tables e below P T28 (mkF m 57 #[.val (.ref oa), .val (.ref ob)] [(.int (1 : Int32)), (.int v15_0), (.int v11_0), (.ref b1), (.ref b1)])
          refine Go.via (fun t k => XS.goto X28.here hx rfl (pc0 := 57) (pc' := 61) rfl (hb hby d3_57) (by decide) (by decide) k) ?_
          exact J19 T28 _ (1 : Int32) X28 e28 N15 (Eq.trans (if_pos hc18) (if_neg hc29)).symm
      · refine Go.via (fun t k => XS.ifYes X17.here hx rfl (pc0 := 46) (pc' := 56) rfl (hb hby d3_46) rfl ((if0 _ _).trans (feq hc18).2) (by decide) (by decide) k) ?_
        show Go p.tables e below P T17 (mkF m 56 #[.val (.ref oa), .val (.ref ob)] [(.int v15_0), (.int v11_0), (.ref b1), (.ref b1)])
        refine Go.via (fun t k => XS.iconst X17.here hx rfl (hb hby d3_56) k) ?_
        show Go p.tables e below P T17 (mkF m 57 #[.val (.ref oa), .val (.ref ob)] [(.int (1 : Int32)), (.int v15_0), (.int v11_0), (.ref b1), (.ref b1)])
        refine Go.via (fun t k => XS.goto X17.here hx rfl (pc0 := 57) (pc' := 61) rfl (hb hby d3_57) (by decide) (by decide) k) ?_
        exact J19 T17 _ (1 : Int32) X17 e17 N15 (if_neg hc18).symm
    by_cases hc14 : s2 = (0 : Int32)
    · refine Go.via (fun t k => XS.ifNo X13.here hx rfl (hb hby d3_27) rfl ((if0 _ _).trans (teq hc14).2) k) ?_
      show Go p.tables e below P T13 (mkF m 30 #[.val (.ref oa), .val (.ref ob)] [(.int v11_0), (.ref b1), (.ref b1)])
      refine Go.via (fun t k => XS.aloadN X13.here hx rfl (hb hby d3_30) rfl rfl k) ?_
      show Go p.tables e below P T13 (mkF m 31 #[.val (.ref oa), .val (.ref ob)] [(.ref ob), (.int v11_0), (.ref b1), (.ref b1)])
      have F30 : Fld Z h1 ob "com/example/tri3/tri3/ItemShape" "waitsForStages" "Z" (.int t2) := (P4.ext E1)
      obtain ⟨T31, X31, e31, st31⟩ := getF X13 hx hZ hown (host := "") (Or.inl (hw _ (List.mem_of_getElem? (i := 11) rfl))) Via.refl e13 F30 (g := (mkF m 31 #[.val (.ref oa), .val (.ref ob)] [(.ref ob), (.int v11_0), (.ref b1), (.ref b1)])) rfl rfl (hb hby d3_31)
      refine Go.via st31 ?_
      show Go p.tables e below P T31 (mkF m 34 #[.val (.ref oa), .val (.ref ob)] [(.int t2), (.int v11_0), (.ref b1), (.ref b1)])
      by_cases hc32 : t2 = (0 : Int32)
      · refine Go.via (fun t k => XS.ifYes X31.here hx rfl (pc0 := 34) (pc' := 41) rfl (hb hby d3_34) rfl ((if0 _ _).trans (teq hc32).1) (by decide) (by decide) k) ?_
        show Go p.tables e below P T31 (mkF m 41 #[.val (.ref oa), .val (.ref ob)] [(.int v11_0), (.ref b1), (.ref b1)])
        refine Go.via (fun t k => XS.iconst X31.here hx rfl (hb hby d3_41) k) ?_
        exact J15 T31 _ (0 : Int32) X31 e31 N11 (Eq.trans (if_pos hc14) (if_pos hc32)).symm
      · refine Go.via (fun t k => XS.ifNo X31.here hx rfl (hb hby d3_34) rfl ((if0 _ _).trans (feq hc32).1) k) ?_
        show Go p.tables e below P T31 (mkF m 37 #[.val (.ref oa), .val (.ref ob)] [(.int v11_0), (.ref b1), (.ref b1)])
        refine Go.via (fun t k => XS.iconst X31.here hx rfl (hb hby d3_37) k) ?_
        show Go p.tables e below P T31 (mkF m 38 #[.val (.ref oa), .val (.ref ob)] [(.int (1 : Int32)), (.int v11_0), (.ref b1), (.ref b1)])
        refine Go.via (fun t k => XS.goto X31.here hx rfl (pc0 := 38) (pc' := 42) rfl (hb hby d3_38) (by decide) (by decide) k) ?_
        exact J15 T31 _ (1 : Int32) X31 e31 N11 (Eq.trans (if_pos hc14) (if_neg hc32)).symm
    · refine Go.via (fun t k => XS.ifYes X13.here hx rfl (pc0 := 27) (pc' := 37) rfl (hb hby d3_27) rfl ((if0 _ _).trans (feq hc14).2) (by decide) (by decide) k) ?_
      show Go p.tables e below P T13 (mkF m 37 #[.val (.ref oa), .val (.ref ob)] [(.int v11_0), (.ref b1), (.ref b1)])
      refine Go.via (fun t k => XS.iconst X13.here hx rfl (hb hby d3_37) k) ?_
      show Go p.tables e below P T13 (mkF m 38 #[.val (.ref oa), .val (.ref ob)] [(.int (1 : Int32)), (.int v11_0), (.ref b1), (.ref b1)])
      refine Go.via (fun t k => XS.goto X13.here hx rfl (pc0 := 38) (pc' := 42) rfl (hb hby d3_38) (by decide) (by decide) k) ?_
      exact J15 T13 _ (1 : Int32) X13 e13 N11 (if_neg hc14).symm
  by_cases hc10 : s1 = (0 : Int32)
  · refine Go.via (fun t k => XS.ifNo X9.here hx rfl (hb hby d3_8) rfl ((if0 _ _).trans (teq hc10).2) k) ?_
    show Go p.tables e below P T9 (mkF m 11 #[.val (.ref oa), .val (.ref ob)] [(.ref b1), (.ref b1)])
    refine Go.via (fun t k => XS.aloadN X9.here hx rfl (hb hby d3_11) rfl rfl k) ?_
    show Go p.tables e below P T9 (mkF m 12 #[.val (.ref oa), .val (.ref ob)] [(.ref ob), (.ref b1), (.ref b1)])
    have F33 : Fld Z h1 ob "com/example/tri3/tri3/ItemShape" "takesTurns" "Z" (.int t1) := (P3.ext E1)
    obtain ⟨T34, X34, e34, st34⟩ := getF X9 hx hZ hown (host := "") (Or.inl (hw _ (List.mem_of_getElem? (i := 9) rfl))) Via.refl e9 F33 (g := (mkF m 12 #[.val (.ref oa), .val (.ref ob)] [(.ref ob), (.ref b1), (.ref b1)])) rfl rfl (hb hby d3_12)
    refine Go.via st34 ?_
    show Go p.tables e below P T34 (mkF m 15 #[.val (.ref oa), .val (.ref ob)] [(.int t1), (.ref b1), (.ref b1)])
    by_cases hc35 : t1 = (0 : Int32)
    · refine Go.via (fun t k => XS.ifYes X34.here hx rfl (pc0 := 15) (pc' := 22) rfl (hb hby d3_15) rfl ((if0 _ _).trans (teq hc35).1) (by decide) (by decide) k) ?_
      show Go p.tables e below P T34 (mkF m 22 #[.val (.ref oa), .val (.ref ob)] [(.ref b1), (.ref b1)])
      refine Go.via (fun t k => XS.iconst X34.here hx rfl (hb hby d3_22) k) ?_
      exact J11 T34 _ (0 : Int32) X34 e34 N0 (Eq.trans (if_pos hc10) (if_pos hc35)).symm
    · refine Go.via (fun t k => XS.ifNo X34.here hx rfl (hb hby d3_15) rfl ((if0 _ _).trans (feq hc35).1) k) ?_
      show Go p.tables e below P T34 (mkF m 18 #[.val (.ref oa), .val (.ref ob)] [(.ref b1), (.ref b1)])
      refine Go.via (fun t k => XS.iconst X34.here hx rfl (hb hby d3_18) k) ?_
      show Go p.tables e below P T34 (mkF m 19 #[.val (.ref oa), .val (.ref ob)] [(.int (1 : Int32)), (.ref b1), (.ref b1)])
      refine Go.via (fun t k => XS.goto X34.here hx rfl (pc0 := 19) (pc' := 23) rfl (hb hby d3_19) (by decide) (by decide) k) ?_
      exact J11 T34 _ (1 : Int32) X34 e34 N0 (Eq.trans (if_pos hc10) (if_neg hc35)).symm
  · refine Go.via (fun t k => XS.ifYes X9.here hx rfl (pc0 := 8) (pc' := 18) rfl (hb hby d3_8) rfl ((if0 _ _).trans (feq hc10).2) (by decide) (by decide) k) ?_
    show Go p.tables e below P T9 (mkF m 18 #[.val (.ref oa), .val (.ref ob)] [(.ref b1), (.ref b1)])
    refine Go.via (fun t k => XS.iconst X9.here hx rfl (hb hby d3_18) k) ?_
    show Go p.tables e below P T9 (mkF m 19 #[.val (.ref oa), .val (.ref ob)] [(.int (1 : Int32)), (.ref b1), (.ref b1)])
    refine Go.via (fun t k => XS.goto X9.here hx rfl (pc0 := 19) (pc' := 23) rfl (hb hby d3_19) (by decide) (by decide) k) ?_
    exact J11 T9 _ (1 : Int32) X9 e9 N0 (if_neg hc10).symm
theorem own_pd1 : parseMethodDescriptor "(Lcom/example/tri3/tri3/ItemShape;)Lcom/example/tri3/tri3/ItemShape;" = some ⟨[(.object "com/example/tri3/tri3/ItemShape")], some (.object "com/example/tri3/tri3/ItemShape")⟩ := by decide +kernel
theorem own_pd2 : parseMethodDescriptor "()Z" = some ⟨[], some .boolean⟩ := by decide +kernel
theorem own_pn1 : plainName "com/example/tri3/tri3/ItemShapeWithPinLaw" = true := by first | (simp [plainName, overriddenIn]; done) | decide +kernel
theorem ef_0 (m : MethodId) (x0 : Int32) (x1 : Int32) : entryFrame m #[(.int x0), (.int x1)] maxLocals = mkF m 0 #[.val (.int x0), .val (.int x1), .unset, .unset, .unset, .unset, .unset, .unset, .unset, .unset, .unset, .unset, .unset, .unset] [] := by first | (simp [entryFrame, mkF, argsToLocals, Value.category, maxLocals]; done) | rfl
def Q0 (Z : State) (pa : Int32) (pb : Int32) (h0 : Heap) (n0 : Nat) (v : Option Value) (h : Heap) (L : List Loc) : Prop := v = some (.int (1 : Int32)) ∧ Fr n0 L
set_option maxRecDepth 65536 in
set_option maxHeartbeats 40000000 in
theorem rm0 (l : Launch) (Z : State) (a0 : Array Value) (hw : ∀ d ∈ tables_1, d.before a0 Z = true) (ws : List Jvm.Cond) (pa : Int32) (pb : Int32) (h0 : Heap) (n0 : Nat) (Z0 : n0 ≤ h0.size) :
    MetFree l x (head1 (Jvm.Cond.code x code maxLocals ret :: ws) room_1) (fun a U => a = #[(.int pa), (.int pb)] ∧ Z.Warmed39 U.vm ∧ U.heap = h0) (fun _ _ _ _ _ => True) (fun _ U o U' => ∃ v L, o = .returned v ∧ Q0 Z pa pb h0 n0 v U'.heap L ∧ FrameEnd U o U' L room_1.cells room_1.slots) := by
  refine MetFree.of_bodySF (plainFor_of_name own_pn1) hisR ?_
  intro p e s m args below meth c s₁ Bd hml0 hP hK
  obtain ⟨rfl, hZ, hh⟩ := hP
  have hx := Bd.exec
  have hby := Bd.bytes
  have hml : c.maxLocals = 14 := hml0
  have hown : s.vm.findClass "com/example/tri3/tri3/ItemShapeWithPinLaw" = some m.cls := findClass_of_methodNamed Bd.named
  have hnm := (name_of_methodNamed Bd.named Bd.method).1
  have X0 : Stand p l e room_1 s m #[(.int pa), (.int pb)] below meth c s₁ [] 0 0 := Stand.of_body Bd
  have e0 : s₁.heap = h0 := by rw [← hh, Bd.state]; rfl
  have N0 := Fr.nil n0
  have K0 : Keep h0 h0 [] := Keep.refl _ _
  suffices GO : ∀ P : Outcome → State → Prop, (∀ o U', (∃ v L, o = .returned v ∧ Q0 Z pa pb h0 n0 v U'.heap L ∧ FrameEnd s o U' L room_1.cells room_1.slots) → P o U') → Go p.tables e below P s₁ (mkF m 0 #[.val (.int pa), .val (.int pb), .unset, .unset, .unset, .unset, .unset, .unset, .unset, .unset, .unset, .unset, .unset, .unset] []) by
    obtain ⟨s2, o, st, r⟩ := GO _ (fun _ _ q => q)
    exact ⟨s2, o, castTop (ef_0 m pa pb) st, r⟩
  clear hh
  intro P hP
  show Go p.tables e below P s₁ (mkF m 0 #[.val (.int pa), .val (.int pb), .unset, .unset, .unset, .unset, .unset, .unset, .unset, .unset, .unset, .unset, .unset, .unset] [])
  refine Go.via (fun t k => XS.iloadN X0.here hx rfl (hb hby at_0) rfl k) ?_
  show Go p.tables e below P s₁ (mkF m 1 #[.val (.int pa), .val (.int pb), .unset, .unset, .unset, .unset, .unset, .unset, .unset, .unset, .unset, .unset, .unset, .unset] [(.int pa)])
  refine Go.via (fun t k => XS.iconst X0.here hx rfl (hb hby at_1) k) ?_
  show Go p.tables e below P s₁ (mkF m 2 #[.val (.int pa), .val (.int pb), .unset, .unset, .unset, .unset, .unset, .unset, .unset, .unset, .unset, .unset, .unset, .unset] [(.int (1 : Int32)), (.int pa)])
  refine Go.via (fun t k => XS.iand X0.here hx rfl (hb hby at_2) rfl k) ?_
  show Go p.tables e below P s₁ (mkF m 3 #[.val (.int pa), .val (.int pb), .unset, .unset, .unset, .unset, .unset, .unset, .unset, .unset, .unset, .unset, .unset, .unset] [(.int (pa &&& (1 : Int32)))])
  have J2 : ∀ (T2 : State) (locs2 : List Loc) (v2_0 : Int32), Stand p l e room_1 s m #[(.int pa), (.int pb)] below meth c T2 locs2 0 0 → T2.heap = h0 → Fr n0 locs2 → v2_0 = (if (pa &&& (1 : Int32)) = (0 : Int32) then (0 : Int32) else (1 : Int32)) → Go p.tables e below P T2 (mkF m 11 #[.val (.int pa), .val (.int pb), .unset, .unset, .unset, .unset, .unset, .unset, .unset, .unset, .unset, .unset, .unset, .unset] [(.int v2_0)]) := by
    intro T2 locs2 v2_0 X2 e2 N2 hv2_0
    have hbv2_0 : v2_0 = 0 ∨ v2_0 = 1 := by (subst hv2_0; (repeat' split) <;> first | (left; rfl) | (right; rfl))
    show Go p.tables e below P T2 (mkF m 11 #[.val (.int pa), .val (.int pb), .unset, .unset, .unset, .unset, .unset, .unset, .unset, .unset, .unset, .unset, .unset, .unset] [(.int v2_0)])
    refine Go.via (fun t k => XS.istoreN X2.here hx rfl (hb hby at_11) rfl (l' := #[.val (.int pa), .val (.int pb), .val (.int v2_0), .unset, .unset, .unset, .unset, .unset, .unset, .unset, .unset, .unset, .unset, .unset]) rfl k) ?_
    show Go p.tables e below P T2 (mkF m 12 #[.val (.int pa), .val (.int pb), .val (.int v2_0), .unset, .unset, .unset, .unset, .unset, .unset, .unset, .unset, .unset, .unset, .unset] [])
    refine Go.via (fun t k => XS.iloadN X2.here hx rfl (hb hby at_12) rfl k) ?_
    show Go p.tables e below P T2 (mkF m 13 #[.val (.int pa), .val (.int pb), .val (.int v2_0), .unset, .unset, .unset, .unset, .unset, .unset, .unset, .unset, .unset, .unset, .unset] [(.int pa)])
    refine Go.via (fun t k => XS.iconst X2.here hx rfl (hb hby at_13) k) ?_
    show Go p.tables e below P T2 (mkF m 14 #[.val (.int pa), .val (.int pb), .val (.int v2_0), .unset, .unset, .unset, .unset, .unset, .unset, .unset, .unset, .unset, .unset, .unset] [(.int (2 : Int32)), (.int pa)])
    refine Go.via (fun t k => XS.iand X2.here hx rfl (hb hby at_14) rfl k) ?_
    show Go p.tables e below P T2 (mkF m 15 #[.val (.int pa), .val (.int pb), .val (.int v2_0), .unset, .unset, .unset, .unset, .unset, .unset, .unset, .unset, .unset, .unset, .unset] [(.int (pa &&& (2 : Int32)))])
    have J4 : ∀ (T4 : State) (locs4 : List Loc) (v4_0 : Int32), Stand p l e room_1 s m #[(.int pa), (.int pb)] below meth c T4 locs4 0 0 → T4.heap = h0 → Fr n0 locs4 → v4_0 = (if (pa &&& (2 : Int32)) = (0 : Int32) then (0 : Int32) else (1 : Int32)) → Go p.tables e below P T4 (mkF m 23 #[.val (.int pa), .val (.int pb), .val (.int v2_0), .unset, .unset, .unset, .unset, .unset, .unset, .unset, .unset, .unset, .unset, .unset] [(.int v4_0)]) := by
      intro T4 locs4 v4_0 X4 e4 N4 hv4_0
      have hbv4_0 : v4_0 = 0 ∨ v4_0 = 1 := by (subst hv4_0; (repeat' split) <;> first | (left; rfl) | (right; rfl))
      show Go p.tables e below P T4 (mkF m 23 #[.val (.int pa), .val (.int pb), .val (.int v2_0), .unset, .unset, .unset, .unset, .unset, .unset, .unset, .unset, .unset, .unset, .unset] [(.int v4_0)])
      refine Go.via (fun t k => XS.istoreN X4.here hx rfl (hb hby at_23) rfl (l' := #[.val (.int pa), .val (.int pb), .val (.int v2_0), .val (.int v4_0), .unset, .unset, .unset, .unset, .unset, .unset, .unset, .unset, .unset, .unset]) rfl k) ?_
      show Go p.tables e below P T4 (mkF m 24 #[.val (.int pa), .val (.int pb), .val (.int v2_0), .val (.int v4_0), .unset, .unset, .unset, .unset, .unset, .unset, .unset, .unset, .unset, .unset] [])
      refine Go.via (fun t k => XS.iloadN X4.here hx rfl (hb hby at_24) rfl k) ?_
      show Go p.tables e below P T4 (mkF m 25 #[.val (.int pa), .val (.int pb), .val (.int v2_0), .val (.int v4_0), .unset, .unset, .unset, .unset, .unset, .unset, .unset, .unset, .unset, .unset] [(.int pa)])
      refine Go.via (fun t k => XS.iconst X4.here hx rfl (hb hby at_25) k) ?_
      show Go p.tables e below P T4 (mkF m 26 #[.val (.int pa), .val (.int pb), .val (.int v2_0), .val (.int v4_0), .unset, .unset, .unset, .unset, .unset, .unset, .unset, .unset, .unset, .unset] [(.int (4 : Int32)), (.int pa)])
      refine Go.via (fun t k => XS.iand X4.here hx rfl (hb hby at_26) rfl k) ?_
      show Go p.tables e below P T4 (mkF m 27 #[.val (.int pa), .val (.int pb), .val (.int v2_0), .val (.int v4_0), .unset, .unset, .unset, .unset, .unset, .unset, .unset, .unset, .unset, .unset] [(.int (pa &&& (4 : Int32)))])
      have J6 : ∀ (T6 : State) (locs6 : List Loc) (v6_0 : Int32), Stand p l e room_1 s m #[(.int pa), (.int pb)] below meth c T6 locs6 0 0 → T6.heap = h0 → Fr n0 locs6 → v6_0 = (if (pa &&& (4 : Int32)) = (0 : Int32) then (0 : Int32) else (1 : Int32)) → Go p.tables e below P T6 (mkF m 35 #[.val (.int pa), .val (.int pb), .val (.int v2_0), .val (.int v4_0), .unset, .unset, .unset, .unset, .unset, .unset, .unset, .unset, .unset, .unset] [(.int v6_0)]) := by
        intro T6 locs6 v6_0 X6 e6 N6 hv6_0
        have hbv6_0 : v6_0 = 0 ∨ v6_0 = 1 := by (subst hv6_0; (repeat' split) <;> first | (left; rfl) | (right; rfl))
        show Go p.tables e below P T6 (mkF m 35 #[.val (.int pa), .val (.int pb), .val (.int v2_0), .val (.int v4_0), .unset, .unset, .unset, .unset, .unset, .unset, .unset, .unset, .unset, .unset] [(.int v6_0)])
        refine Go.via (fun t k => XS.istore X6.here hx rfl (hb hby at_35) rfl (l' := #[.val (.int pa), .val (.int pb), .val (.int v2_0), .val (.int v4_0), .val (.int v6_0), .unset, .unset, .unset, .unset, .unset, .unset, .unset, .unset, .unset]) rfl k) ?_
        show Go p.tables e below P T6 (mkF m 37 #[.val (.int pa), .val (.int pb), .val (.int v2_0), .val (.int v4_0), .val (.int v6_0), .unset, .unset, .unset, .unset, .unset, .unset, .unset, .unset, .unset] [])
        refine Go.via (fun t k => XS.iloadN X6.here hx rfl (hb hby at_37) rfl k) ?_
        show Go p.tables e below P T6 (mkF m 38 #[.val (.int pa), .val (.int pb), .val (.int v2_0), .val (.int v4_0), .val (.int v6_0), .unset, .unset, .unset, .unset, .unset, .unset, .unset, .unset, .unset] [(.int pb)])
        refine Go.via (fun t k => XS.iconst X6.here hx rfl (hb hby at_38) k) ?_
        show Go p.tables e below P T6 (mkF m 39 #[.val (.int pa), .val (.int pb), .val (.int v2_0), .val (.int v4_0), .val (.int v6_0), .unset, .unset, .unset, .unset, .unset, .unset, .unset, .unset, .unset] [(.int (1 : Int32)), (.int pb)])
        refine Go.via (fun t k => XS.iand X6.here hx rfl (hb hby at_39) rfl k) ?_
        show Go p.tables e below P T6 (mkF m 40 #[.val (.int pa), .val (.int pb), .val (.int v2_0), .val (.int v4_0), .val (.int v6_0), .unset, .unset, .unset, .unset, .unset, .unset, .unset, .unset, .unset] [(.int (pb &&& (1 : Int32)))])
        have J8 : ∀ (T8 : State) (locs8 : List Loc) (v8_0 : Int32), Stand p l e room_1 s m #[(.int pa), (.int pb)] below meth c T8 locs8 0 0 → T8.heap = h0 → Fr n0 locs8 → v8_0 = (if (pb &&& (1 : Int32)) = (0 : Int32) then (0 : Int32) else (1 : Int32)) → Go p.tables e below P T8 (mkF m 48 #[.val (.int pa), .val (.int pb), .val (.int v2_0), .val (.int v4_0), .val (.int v6_0), .unset, .unset, .unset, .unset, .unset, .unset, .unset, .unset, .unset] [(.int v8_0)]) := by
          intro T8 locs8 v8_0 X8 e8 N8 hv8_0
          have hbv8_0 : v8_0 = 0 ∨ v8_0 = 1 := by (subst hv8_0; (repeat' split) <;> first | (left; rfl) | (right; rfl))
          show Go p.tables e below P T8 (mkF m 48 #[.val (.int pa), .val (.int pb), .val (.int v2_0), .val (.int v4_0), .val (.int v6_0), .unset, .unset, .unset, .unset, .unset, .unset, .unset, .unset, .unset] [(.int v8_0)])
          refine Go.via (fun t k => XS.istore X8.here hx rfl (hb hby at_48) rfl (l' := #[.val (.int pa), .val (.int pb), .val (.int v2_0), .val (.int v4_0), .val (.int v6_0), .val (.int v8_0), .unset, .unset, .unset, .unset, .unset, .unset, .unset, .unset]) rfl k) ?_
          show Go p.tables e below P T8 (mkF m 50 #[.val (.int pa), .val (.int pb), .val (.int v2_0), .val (.int v4_0), .val (.int v6_0), .val (.int v8_0), .unset, .unset, .unset, .unset, .unset, .unset, .unset, .unset] [])
          refine Go.via (fun t k => XS.iloadN X8.here hx rfl (hb hby at_50) rfl k) ?_
          show Go p.tables e below P T8 (mkF m 51 #[.val (.int pa), .val (.int pb), .val (.int v2_0), .val (.int v4_0), .val (.int v6_0), .val (.int v8_0), .unset, .unset, .unset, .unset, .unset, .unset, .unset, .unset] [(.int pb)])
          refine Go.via (fun t k => XS.iconst X8.here hx rfl (hb hby at_51) k) ?_
          show Go p.tables e below P T8 (mkF m 52 #[.val (.int pa), .val (.int pb), .val (.int v2_0), .val (.int v4_0), .val (.int v6_0), .val (.int v8_0), .unset, .unset, .unset, .unset, .unset, .unset, .unset, .unset] [(.int (2 : Int32)), (.int pb)])
          refine Go.via (fun t k => XS.iand X8.here hx rfl (hb hby at_52) rfl k) ?_
          show Go p.tables e below P T8 (mkF m 53 #[.val (.int pa), .val (.int pb), .val (.int v2_0), .val (.int v4_0), .val (.int v6_0), .val (.int v8_0), .unset, .unset, .unset, .unset, .unset, .unset, .unset, .unset] [(.int (pb &&& (2 : Int32)))])
          have J10 : ∀ (T10 : State) (locs10 : List Loc) (v10_0 : Int32), Stand p l e room_1 s m #[(.int pa), (.int pb)] below meth c T10 locs10 0 0 → T10.heap = h0 → Fr n0 locs10 → v10_0 = (if (pb &&& (2 : Int32)) = (0 : Int32) then (0 : Int32) else (1 : Int32)) → Go p.tables e below P T10 (mkF m 61 #[.val (.int pa), .val (.int pb), .val (.int v2_0), .val (.int v4_0), .val (.int v6_0), .val (.int v8_0), .unset, .unset, .unset, .unset, .unset, .unset, .unset, .unset] [(.int v10_0)]) := by
            intro T10 locs10 v10_0 X10 e10 N10 hv10_0
            have hbv10_0 : v10_0 = 0 ∨ v10_0 = 1 := by (subst hv10_0; (repeat' split) <;> first | (left; rfl) | (right; rfl))
            show Go p.tables e below P T10 (mkF m 61 #[.val (.int pa), .val (.int pb), .val (.int v2_0), .val (.int v4_0), .val (.int v6_0), .val (.int v8_0), .unset, .unset, .unset, .unset, .unset, .unset, .unset, .unset] [(.int v10_0)])
            refine Go.via (fun t k => XS.istore X10.here hx rfl (hb hby at_61) rfl (l' := #[.val (.int pa), .val (.int pb), .val (.int v2_0), .val (.int v4_0), .val (.int v6_0), .val (.int v8_0), .val (.int v10_0), .unset, .unset, .unset, .unset, .unset, .unset, .unset]) rfl k) ?_
            show Go p.tables e below P T10 (mkF m 63 #[.val (.int pa), .val (.int pb), .val (.int v2_0), .val (.int v4_0), .val (.int v6_0), .val (.int v8_0), .val (.int v10_0), .unset, .unset, .unset, .unset, .unset, .unset, .unset] [])
            refine Go.via (fun t k => XS.iloadN X10.here hx rfl (hb hby at_63) rfl k) ?_
            show Go p.tables e below P T10 (mkF m 64 #[.val (.int pa), .val (.int pb), .val (.int v2_0), .val (.int v4_0), .val (.int v6_0), .val (.int v8_0), .val (.int v10_0), .unset, .unset, .unset, .unset, .unset, .unset, .unset] [(.int pb)])
            refine Go.via (fun t k => XS.iconst X10.here hx rfl (hb hby at_64) k) ?_
            show Go p.tables e below P T10 (mkF m 65 #[.val (.int pa), .val (.int pb), .val (.int v2_0), .val (.int v4_0), .val (.int v6_0), .val (.int v8_0), .val (.int v10_0), .unset, .unset, .unset, .unset, .unset, .unset, .unset] [(.int (4 : Int32)), (.int pb)])
            refine Go.via (fun t k => XS.iand X10.here hx rfl (hb hby at_65) rfl k) ?_
            show Go p.tables e below P T10 (mkF m 66 #[.val (.int pa), .val (.int pb), .val (.int v2_0), .val (.int v4_0), .val (.int v6_0), .val (.int v8_0), .val (.int v10_0), .unset, .unset, .unset, .unset, .unset, .unset, .unset] [(.int (pb &&& (4 : Int32)))])
            have J12 : ∀ (T12 : State) (locs12 : List Loc) (v12_0 : Int32), Stand p l e room_1 s m #[(.int pa), (.int pb)] below meth c T12 locs12 0 0 → T12.heap = h0 → Fr n0 locs12 → v12_0 = (if (pb &&& (4 : Int32)) = (0 : Int32) then (0 : Int32) else (1 : Int32)) → Go p.tables e below P T12 (mkF m 74 #[.val (.int pa), .val (.int pb), .val (.int v2_0), .val (.int v4_0), .val (.int v6_0), .val (.int v8_0), .val (.int v10_0), .unset, .unset, .unset, .unset, .unset, .unset, .unset] [(.int v12_0)]) := by
              intro T12 locs12 v12_0 X12 e12 N12 hv12_0
              have hbv12_0 : v12_0 = 0 ∨ v12_0 = 1 := by (subst hv12_0; (repeat' split) <;> first | (left; rfl) | (right; rfl))
              show Go p.tables e below P T12 (mkF m 74 #[.val (.int pa), .val (.int pb), .val (.int v2_0), .val (.int v4_0), .val (.int v6_0), .val (.int v8_0), .val (.int v10_0), .unset, .unset, .unset, .unset, .unset, .unset, .unset] [(.int v12_0)])
              refine Go.via (fun t k => XS.istore X12.here hx rfl (hb hby at_74) rfl (l' := #[.val (.int pa), .val (.int pb), .val (.int v2_0), .val (.int v4_0), .val (.int v6_0), .val (.int v8_0), .val (.int v10_0), .val (.int v12_0), .unset, .unset, .unset, .unset, .unset, .unset]) rfl k) ?_
              show Go p.tables e below P T12 (mkF m 76 #[.val (.int pa), .val (.int pb), .val (.int v2_0), .val (.int v4_0), .val (.int v6_0), .val (.int v8_0), .val (.int v10_0), .val (.int v12_0), .unset, .unset, .unset, .unset, .unset, .unset] [])
              obtain ⟨T13, h13, X13, e13, E13, A13, D13, -, st13⟩ := newO X12 hx hZ hown (hw _ (List.mem_of_getElem? (i := 0) rfl)) (hw _ (List.mem_of_getElem? (i := 1) rfl)) (hw _ (List.mem_of_getElem? (i := 2) rfl)) e12 (g := (mkF m 76 #[.val (.int pa), .val (.int pb), .val (.int v2_0), .val (.int v4_0), .val (.int v6_0), .val (.int v8_0), .val (.int v10_0), .val (.int v12_0), .unset, .unset, .unset, .unset, .unset, .unset] [])) rfl (hb hby at_76) (by decide) (by decide)
              obtain ⟨b13, g13⟩ : ∃ z, z = h0.size := ⟨_, rfl⟩
              rw [← g13] at A13 D13 st13
              refine Go.via st13 ?_
              have g14 : n0 ≤ b13 := Nat.le_trans Z0 (Nat.le_of_eq g13.symm)
              have sz15 : h0.size ≤ b13 := Nat.le_trans K0.1 (Nat.le_of_eq g13.symm)
              have Z16 : n0 ≤ h13.size := Nat.le_trans Z0 E13.1
              have K17 : Keep h0 h13 [] := K0.ext E13
              show Go p.tables e below P T13 (mkF m 79 #[.val (.int pa), .val (.int pb), .val (.int v2_0), .val (.int v4_0), .val (.int v6_0), .val (.int v8_0), .val (.int v10_0), .val (.int v12_0), .unset, .unset, .unset, .unset, .unset, .unset] [(.ref b13)])
              refine Go.via (fun t k => XS.dup X13.here hx rfl (hb hby at_79) rfl rfl k) ?_
              show Go p.tables e below P T13 (mkF m 80 #[.val (.int pa), .val (.int pb), .val (.int v2_0), .val (.int v4_0), .val (.int v6_0), .val (.int v8_0), .val (.int v10_0), .val (.int v12_0), .unset, .unset, .unset, .unset, .unset, .unset] [(.ref b13), (.ref b13)])
              refine Go.via (fun t k => XS.iloadN X13.here hx rfl (hb hby at_80) rfl k) ?_
              show Go p.tables e below P T13 (mkF m 81 #[.val (.int pa), .val (.int pb), .val (.int v2_0), .val (.int v4_0), .val (.int v6_0), .val (.int v8_0), .val (.int v10_0), .val (.int v12_0), .unset, .unset, .unset, .unset, .unset, .unset] [(.int v2_0), (.ref b13), (.ref b13)])
              refine Go.via (fun t k => XS.iloadN X13.here hx rfl (hb hby at_81) rfl k) ?_
              show Go p.tables e below P T13 (mkF m 82 #[.val (.int pa), .val (.int pb), .val (.int v2_0), .val (.int v4_0), .val (.int v6_0), .val (.int v8_0), .val (.int v10_0), .val (.int v12_0), .unset, .unset, .unset, .unset, .unset, .unset] [(.int v4_0), (.int v2_0), (.ref b13), (.ref b13)])
              refine Go.via (fun t k => XS.iload X13.here hx rfl (hb hby at_82) rfl k) ?_
              show Go p.tables e below P T13 (mkF m 84 #[.val (.int pa), .val (.int pb), .val (.int v2_0), .val (.int v4_0), .val (.int v6_0), .val (.int v8_0), .val (.int v10_0), .val (.int v12_0), .unset, .unset, .unset, .unset, .unset, .unset] [(.int v6_0), (.int v4_0), (.int v2_0), (.ref b13), (.ref b13)])
              obtain ⟨_, _, ⟨T18, L18, k18, n18⟩, -, X18, ⟨Lc18, hQ18, l18, y18, z18⟩, st18⟩ := X13.specialBack hx (y := (⟨"com/example/tri3/tri3/ItemShape", "<init>", "(ZZZ)V"⟩ : MethodName)) rfl hown (mvT hZ (hw _ (List.mem_of_getElem? (i := 3) rfl))) (mvT hZ (hw _ (List.mem_of_getElem? (i := 4) rfl))) (mvT hZ (hw _ (List.mem_of_getElem? (i := 5) rfl))) (by decide) (backOf (W := 1) (rm1 l Z a0 hw [] b13 v2_0 v4_0 v6_0 h13 n0 Z16 A13 (D13 (Or.inr (hw _ (List.mem_of_getElem? (i := 10) rfl))) (ty := .boolean) (by decide) : Fld Z h13 b13 "com/example/tri3/tri3/ItemShape" "takesTurns" "Z" (.int (0 : Int32))) (D13 (Or.inr (hw _ (List.mem_of_getElem? (i := 12) rfl))) (ty := .boolean) (by decide) : Fld Z h13 b13 "com/example/tri3/tri3/ItemShape" "waitsForStages" "Z" (.int (0 : Int32))) (D13 (Or.inr (hw _ (List.mem_of_getElem? (i := 14) rfl))) (ty := .boolean) (by decide) : Fld Z h13 b13 "com/example/tri3/tri3/ItemShape" "sharesItem" "Z" (.int (0 : Int32))) g14 (by first | assumption | decide | omega : v2_0 = 0 ∨ v2_0 = 1) (by first | assumption | decide | omega : v4_0 = 0 ∨ v4_0 = 1) (by first | assumption | decide | omega : v6_0 = 0 ∨ v6_0 = 1)) hZ (hw _ (List.mem_of_getElem? (i := 5) rfl)) (hw _ (List.mem_of_getElem? (i := 2) rfl)) (by decide) (by decide)) (g := (mkF m 84 #[.val (.int pa), .val (.int pb), .val (.int v2_0), .val (.int v4_0), .val (.int v6_0), .val (.int v8_0), .val (.int v10_0), .val (.int v12_0), .unset, .unset, .unset, .unset, .unset, .unset] [(.int v6_0), (.int v4_0), (.int v2_0), (.ref b13), (.ref b13)])) rfl (by rw [hml]; rfl) (Steps.refl _) (a := b13) (argsL := [(.int v2_0), (.int v4_0), (.int v6_0)]) (rest := [(.ref b13)]) (lenOf own_pd0 rfl) rfl (by show 2 * 0 + _ ≤ _; exact Nat.le_of_eq rfl) (hb hby at_84) (fun _ _ => ⟨rfl, e13, (by decide : 1 + 0 ≤ _), (by decide : 3 + 0 ≤ _)⟩)
              dsimp only [Pt.U, Pt.locs, Pt.cells, Pt.slots] at X18 l18 y18 z18 st18 hQ18
              subst l18 y18 z18
              obtain ⟨rfl, Nq18, K18, u18_0, u18_1, u18_2, u18_3⟩ := hQ18
              have N18 := Fr.app N12 Nq18
              refine Go.hop st18 ?_
              have Z19 : n0 ≤ T18.heap.size := Nat.le_trans Z16 K18.1
              have K20 : Keep h0 T18.heap [] := K17.trans K18 (own_allC (Or.inr sz15) own_all0)
              show Go p.tables e below P T18 (mkF m 87 #[.val (.int pa), .val (.int pb), .val (.int v2_0), .val (.int v4_0), .val (.int v6_0), .val (.int v8_0), .val (.int v10_0), .val (.int v12_0), .unset, .unset, .unset, .unset, .unset, .unset] [(.ref b13)])
              refine Go.via (fun t k => XS.astore X18.here hx rfl (hb hby at_87) rfl rfl (l' := #[.val (.int pa), .val (.int pb), .val (.int v2_0), .val (.int v4_0), .val (.int v6_0), .val (.int v8_0), .val (.int v10_0), .val (.int v12_0), .val (.ref b13), .unset, .unset, .unset, .unset, .unset]) rfl k) ?_
              show Go p.tables e below P T18 (mkF m 89 #[.val (.int pa), .val (.int pb), .val (.int v2_0), .val (.int v4_0), .val (.int v6_0), .val (.int v8_0), .val (.int v10_0), .val (.int v12_0), .val (.ref b13), .unset, .unset, .unset, .unset, .unset] [])
              obtain ⟨T21, h21, X21, e21, E21, A21, D21, -, st21⟩ := newO X18 hx hZ hown (hw _ (List.mem_of_getElem? (i := 0) rfl)) (hw _ (List.mem_of_getElem? (i := 1) rfl)) (hw _ (List.mem_of_getElem? (i := 2) rfl)) rfl (g := (mkF m 89 #[.val (.int pa), .val (.int pb), .val (.int v2_0), .val (.int v4_0), .val (.int v6_0), .val (.int v8_0), .val (.int v10_0), .val (.int v12_0), .val (.ref b13), .unset, .unset, .unset, .unset, .unset] [])) rfl (hb hby at_89) (by decide) (by decide)
              obtain ⟨b21, g21⟩ : ∃ z, z = T18.heap.size := ⟨_, rfl⟩
              rw [← g21] at A21 D21 st21
              refine Go.via st21 ?_
              have ne22 : b13 ≠ b21 := Nat.ne_of_lt (Nat.lt_of_lt_of_le u18_0.lt (Nat.le_of_eq g21.symm))
              have g23 : n0 ≤ b21 := Nat.le_trans Z19 (Nat.le_of_eq g21.symm)
              have sz24 : h0.size ≤ b21 := Nat.le_trans K20.1 (Nat.le_of_eq g21.symm)
              have Z25 : n0 ≤ h21.size := Nat.le_trans Z19 E21.1
              have K26 : Keep h0 h21 [] := K20.ext E21
              show Go p.tables e below P T21 (mkF m 92 #[.val (.int pa), .val (.int pb), .val (.int v2_0), .val (.int v4_0), .val (.int v6_0), .val (.int v8_0), .val (.int v10_0), .val (.int v12_0), .val (.ref b13), .unset, .unset, .unset, .unset, .unset] [(.ref b21)])
              refine Go.via (fun t k => XS.dup X21.here hx rfl (hb hby at_92) rfl rfl k) ?_
              show Go p.tables e below P T21 (mkF m 93 #[.val (.int pa), .val (.int pb), .val (.int v2_0), .val (.int v4_0), .val (.int v6_0), .val (.int v8_0), .val (.int v10_0), .val (.int v12_0), .val (.ref b13), .unset, .unset, .unset, .unset, .unset] [(.ref b21), (.ref b21)])
              refine Go.via (fun t k => XS.iload X21.here hx rfl (hb hby at_93) rfl k) ?_
              show Go p.tables e below P T21 (mkF m 95 #[.val (.int pa), .val (.int pb), .val (.int v2_0), .val (.int v4_0), .val (.int v6_0), .val (.int v8_0), .val (.int v10_0), .val (.int v12_0), .val (.ref b13), .unset, .unset, .unset, .unset, .unset] [(.int v8_0), (.ref b21), (.ref b21)])
              refine Go.via (fun t k => XS.iload X21.here hx rfl (hb hby at_95) rfl k) ?_
              show Go p.tables e below P T21 (mkF m 97 #[.val (.int pa), .val (.int pb), .val (.int v2_0), .val (.int v4_0), .val (.int v6_0), .val (.int v8_0), .val (.int v10_0), .val (.int v12_0), .val (.ref b13), .unset, .unset, .unset, .unset, .unset] [(.int v10_0), (.int v8_0), (.ref b21), (.ref b21)])
              refine Go.via (fun t k => XS.iload X21.here hx rfl (hb hby at_97) rfl k) ?_
              show Go p.tables e below P T21 (mkF m 99 #[.val (.int pa), .val (.int pb), .val (.int v2_0), .val (.int v4_0), .val (.int v6_0), .val (.int v8_0), .val (.int v10_0), .val (.int v12_0), .val (.ref b13), .unset, .unset, .unset, .unset, .unset] [(.int v12_0), (.int v10_0), (.int v8_0), (.ref b21), (.ref b21)])
              have F27 : Exa Z h21 b13 "com/example/tri3/tri3/ItemShape" := (u18_0.ext E21)
              have F28 : Fld Z h21 b13 "com/example/tri3/tri3/ItemShape" "takesTurns" "Z" (.int v2_0) := (u18_1.ext E21)
              have F29 : Fld Z h21 b13 "com/example/tri3/tri3/ItemShape" "waitsForStages" "Z" (.int v4_0) := (u18_2.ext E21)
              have F30 : Fld Z h21 b13 "com/example/tri3/tri3/ItemShape" "sharesItem" "Z" (.int v6_0) := (u18_3.ext E21)
              obtain ⟨_, _, ⟨T31, L31, k31, n31⟩, -, X31, ⟨Lc31, hQ31, l31, y31, z31⟩, st31⟩ := X21.specialBack hx (y := (⟨"com/example/tri3/tri3/ItemShape", "<init>", "(ZZZ)V"⟩ : MethodName)) rfl hown (mvT hZ (hw _ (List.mem_of_getElem? (i := 3) rfl))) (mvT hZ (hw _ (List.mem_of_getElem? (i := 4) rfl))) (mvT hZ (hw _ (List.mem_of_getElem? (i := 5) rfl))) (by decide) (backOf (W := 1) (rm1 l Z a0 hw [] b21 v8_0 v10_0 v12_0 h21 n0 Z25 A21 (D21 (Or.inr (hw _ (List.mem_of_getElem? (i := 10) rfl))) (ty := .boolean) (by decide) : Fld Z h21 b21 "com/example/tri3/tri3/ItemShape" "takesTurns" "Z" (.int (0 : Int32))) (D21 (Or.inr (hw _ (List.mem_of_getElem? (i := 12) rfl))) (ty := .boolean) (by decide) : Fld Z h21 b21 "com/example/tri3/tri3/ItemShape" "waitsForStages" "Z" (.int (0 : Int32))) (D21 (Or.inr (hw _ (List.mem_of_getElem? (i := 14) rfl))) (ty := .boolean) (by decide) : Fld Z h21 b21 "com/example/tri3/tri3/ItemShape" "sharesItem" "Z" (.int (0 : Int32))) g23 (by first | assumption | decide | omega : v8_0 = 0 ∨ v8_0 = 1) (by first | assumption | decide | omega : v10_0 = 0 ∨ v10_0 = 1) (by first | assumption | decide | omega : v12_0 = 0 ∨ v12_0 = 1)) hZ (hw _ (List.mem_of_getElem? (i := 5) rfl)) (hw _ (List.mem_of_getElem? (i := 2) rfl)) (by decide) (by decide)) (g := (mkF m 99 #[.val (.int pa), .val (.int pb), .val (.int v2_0), .val (.int v4_0), .val (.int v6_0), .val (.int v8_0), .val (.int v10_0), .val (.int v12_0), .val (.ref b13), .unset, .unset, .unset, .unset, .unset] [(.int v12_0), (.int v10_0), (.int v8_0), (.ref b21), (.ref b21)])) rfl (by rw [hml]; rfl) (Steps.refl _) (a := b21) (argsL := [(.int v8_0), (.int v10_0), (.int v12_0)]) (rest := [(.ref b21)]) (lenOf own_pd0 rfl) rfl (by show 2 * 0 + _ ≤ _; exact Nat.le_of_eq rfl) (hb hby at_99) (fun _ _ => ⟨rfl, e21, (by decide : 2 + 0 ≤ _), (by decide : 6 + 0 ≤ _)⟩)
              dsimp only [Pt.U, Pt.locs, Pt.cells, Pt.slots] at X31 l31 y31 z31 st31 hQ31
              subst l31 y31 z31
              obtain ⟨rfl, Nq31, K31, u31_0, u31_1, u31_2, u31_3⟩ := hQ31
              have N31 := Fr.app N18 Nq31
              refine Go.hop st31 ?_
              have Z32 : n0 ≤ T31.heap.size := Nat.le_trans Z25 K31.1
              have K33 : Keep h0 T31.heap [] := K26.trans K31 (own_allC (Or.inr sz24) own_all0)
              show Go p.tables e below P T31 (mkF m 102 #[.val (.int pa), .val (.int pb), .val (.int v2_0), .val (.int v4_0), .val (.int v6_0), .val (.int v8_0), .val (.int v10_0), .val (.int v12_0), .val (.ref b13), .unset, .unset, .unset, .unset, .unset] [(.ref b21)])
              refine Go.via (fun t k => XS.astore X31.here hx rfl (hb hby at_102) rfl rfl (l' := #[.val (.int pa), .val (.int pb), .val (.int v2_0), .val (.int v4_0), .val (.int v6_0), .val (.int v8_0), .val (.int v10_0), .val (.int v12_0), .val (.ref b13), .val (.ref b21), .unset, .unset, .unset, .unset]) rfl k) ?_
              show Go p.tables e below P T31 (mkF m 104 #[.val (.int pa), .val (.int pb), .val (.int v2_0), .val (.int v4_0), .val (.int v6_0), .val (.int v8_0), .val (.int v10_0), .val (.int v12_0), .val (.ref b13), .val (.ref b21), .unset, .unset, .unset, .unset] [])
              refine Go.via (fun t k => XS.aload X31.here hx rfl (hb hby at_104) rfl rfl k) ?_
              show Go p.tables e below P T31 (mkF m 106 #[.val (.int pa), .val (.int pb), .val (.int v2_0), .val (.int v4_0), .val (.int v6_0), .val (.int v8_0), .val (.int v10_0), .val (.int v12_0), .val (.ref b13), .val (.ref b21), .unset, .unset, .unset, .unset] [(.ref b13)])
              refine Go.via (fun t k => XS.aload X31.here hx rfl (hb hby at_106) rfl rfl k) ?_
              show Go p.tables e below P T31 (mkF m 108 #[.val (.int pa), .val (.int pb), .val (.int v2_0), .val (.int v4_0), .val (.int v6_0), .val (.int v8_0), .val (.int v10_0), .val (.int v12_0), .val (.ref b13), .val (.ref b21), .unset, .unset, .unset, .unset] [(.ref b21), (.ref b13)])
              have F34 : Fld Z T31.heap b13 "com/example/tri3/tri3/ItemShape" "takesTurns" "Z" (.int v2_0) := (F28.keep K31 (own_ninC ne22 own_nin0))
              have F35 : Fld Z T31.heap b13 "com/example/tri3/tri3/ItemShape" "waitsForStages" "Z" (.int v4_0) := (F29.keep K31 (own_ninC ne22 own_nin0))
              have F36 : Fld Z T31.heap b13 "com/example/tri3/tri3/ItemShape" "sharesItem" "Z" (.int v6_0) := (F30.keep K31 (own_ninC ne22 own_nin0))
              have F37 : Exa Z T31.heap b13 "com/example/tri3/tri3/ItemShape" := (F27.keep K31)
              obtain ⟨cq38, kq38, q38a, q38b, q38c⟩ := isOf hZ rfl F37
              obtain ⟨_, _, ⟨T38, L38, k38, n38⟩, -, X38, ⟨Lc38, hQ38, l38, y38, z38⟩, st38⟩ := X31.virtualBack hx (y := (⟨"com/example/tri3/tri3/ItemShape", "with", "(Lcom/example/tri3/tri3/ItemShape;)Lcom/example/tri3/tri3/ItemShape;"⟩ : MethodName)) (z := (⟨"com/example/tri3/tri3/ItemShape", "with", "(Lcom/example/tri3/tri3/ItemShape;)Lcom/example/tri3/tri3/ItemShape;"⟩ : MethodName)) hown (mvT hZ (hw _ (List.mem_of_getElem? (i := 15) rfl))) (mvT hZ (hw _ (List.mem_of_getElem? (i := 16) rfl))) (notFace_of_selects (args := #[]) (mvT hZ (hw _ (List.mem_of_getElem? (i := 18) rfl)))) (mvT hZ (hw _ (List.mem_of_getElem? (i := 18) rfl))) (mvT hZ (hw _ (List.mem_of_getElem? (i := 17) rfl))) (by decide) (backOf (W := 0) (rm3 l Z a0 hw [] b13 b21 v2_0 v4_0 v6_0 v8_0 v10_0 v12_0 T31.heap n0 Z32 F34 F35 F36 u31_1 u31_2 u31_3) hZ (hw _ (List.mem_of_getElem? (i := 19) rfl)) (hw _ (List.mem_of_getElem? (i := 2) rfl)) (by decide) (by decide)) q38a q38c (g := (mkF m 108 #[.val (.int pa), .val (.int pb), .val (.int v2_0), .val (.int v4_0), .val (.int v6_0), .val (.int v8_0), .val (.int v10_0), .val (.int v12_0), .val (.ref b13), .val (.ref b21), .unset, .unset, .unset, .unset] [(.ref b21), (.ref b13)])) rfl (by rw [hml]; rfl) (Steps.refl _) (argsL := [(.ref b21)]) (rest := []) (lenOf own_pd1 rfl) rfl (by show 2 * 0 + _ ≤ _; exact Nat.le_of_eq rfl) (hb hby at_108) (fun _ _ => ⟨rfl, rfl, (by decide : 2 + 1 ≤ _), (by decide : 6 + 3 ≤ _)⟩)
              dsimp only [Pt.U, Pt.locs, Pt.cells, Pt.slots] at X38 l38 y38 z38 st38 hQ38
              subst l38 y38 z38
              obtain ⟨r_38, u1_38, u2_38, u3_38, rfl, Nq38, K38, fr38_r, u38_0, u38_1, u38_2, u38_3, u38_4, u38_5, u38_6, u38_7, u38_8, u38_9⟩ := hQ38
              have N38 := Fr.app N31 Nq38
              refine Go.hop st38 ?_
              have ne39 : b13 ≠ r_38 := Nat.ne_of_lt (Nat.lt_of_lt_of_le F37.lt fr38_r)
              have ne40 : b21 ≠ r_38 := Nat.ne_of_lt (Nat.lt_of_lt_of_le u31_0.lt fr38_r)
              have g41 : n0 ≤ r_38 := Nat.le_trans Z32 fr38_r
              have sz42 : h0.size ≤ r_38 := Nat.le_trans K33.1 fr38_r
              have Z43 : n0 ≤ T38.heap.size := Nat.le_trans Z32 K38.1
              have K44 : Keep h0 T38.heap [] := K33.trans K38 own_all0
              show Go p.tables e below P T38 (mkF m 111 #[.val (.int pa), .val (.int pb), .val (.int v2_0), .val (.int v4_0), .val (.int v6_0), .val (.int v8_0), .val (.int v10_0), .val (.int v12_0), .val (.ref b13), .val (.ref b21), .unset, .unset, .unset, .unset] [(.ref r_38)])
              refine Go.via (fun t k => XS.astore X38.here hx rfl (hb hby at_111) rfl rfl (l' := #[.val (.int pa), .val (.int pb), .val (.int v2_0), .val (.int v4_0), .val (.int v6_0), .val (.int v8_0), .val (.int v10_0), .val (.int v12_0), .val (.ref b13), .val (.ref b21), .val (.ref r_38), .unset, .unset, .unset]) rfl k) ?_
              show Go p.tables e below P T38 (mkF m 113 #[.val (.int pa), .val (.int pb), .val (.int v2_0), .val (.int v4_0), .val (.int v6_0), .val (.int v8_0), .val (.int v10_0), .val (.int v12_0), .val (.ref b13), .val (.ref b21), .val (.ref r_38), .unset, .unset, .unset] [])
              refine Go.via (fun t k => XS.aload X38.here hx rfl (hb hby at_113) rfl rfl k) ?_
              show Go p.tables e below P T38 (mkF m 115 #[.val (.int pa), .val (.int pb), .val (.int v2_0), .val (.int v4_0), .val (.int v6_0), .val (.int v8_0), .val (.int v10_0), .val (.int v12_0), .val (.ref b13), .val (.ref b21), .val (.ref r_38), .unset, .unset, .unset] [(.ref r_38)])
              have F45 : Exa Z T38.heap b13 "com/example/tri3/tri3/ItemShape" := (F37.keep K38)
              have F46 : Fld Z T38.heap b13 "com/example/tri3/tri3/ItemShape" "takesTurns" "Z" (.int v2_0) := (F34.keep K38 own_nin0)
              have F47 : Fld Z T38.heap b13 "com/example/tri3/tri3/ItemShape" "waitsForStages" "Z" (.int v4_0) := (F35.keep K38 own_nin0)
              have F48 : Fld Z T38.heap b13 "com/example/tri3/tri3/ItemShape" "sharesItem" "Z" (.int v6_0) := (F36.keep K38 own_nin0)
              have F49 : Exa Z T38.heap b21 "com/example/tri3/tri3/ItemShape" := (u31_0.keep K38)
              have F50 : Fld Z T38.heap b21 "com/example/tri3/tri3/ItemShape" "takesTurns" "Z" (.int v8_0) := (u31_1.keep K38 own_nin0)
              have F51 : Fld Z T38.heap b21 "com/example/tri3/tri3/ItemShape" "waitsForStages" "Z" (.int v10_0) := (u31_2.keep K38 own_nin0)
              have F52 : Fld Z T38.heap b21 "com/example/tri3/tri3/ItemShape" "sharesItem" "Z" (.int v12_0) := (u31_3.keep K38 own_nin0)
              obtain ⟨cq53, kq53, q53a, q53b, q53c⟩ := isOf hZ rfl u38_0
              obtain ⟨_, _, ⟨T53, L53, k53, n53⟩, -, X53, ⟨Lc53, hQ53, l53, y53, z53⟩, st53⟩ := X38.virtualBack hx (y := (⟨"com/example/tri3/tri3/ItemShape", "takesTurns", "()Z"⟩ : MethodName)) (z := (⟨"com/example/tri3/tri3/ItemShape", "takesTurns", "()Z"⟩ : MethodName)) hown (mvT hZ (hw _ (List.mem_of_getElem? (i := 22) rfl))) (mvT hZ (hw _ (List.mem_of_getElem? (i := 23) rfl))) (notFace_of_selects (args := #[]) (mvT hZ (hw _ (List.mem_of_getElem? (i := 25) rfl)))) (mvT hZ (hw _ (List.mem_of_getElem? (i := 25) rfl))) (mvT hZ (hw _ (List.mem_of_getElem? (i := 24) rfl))) (by decide) (backOf (W := 0) (rm4 l Z a0 hw [] r_38 u1_38 T38.heap n0 Z43 u38_1 (by first | assumption | decide | omega : u1_38 = 0 ∨ u1_38 = 1)) hZ (hw _ (List.mem_of_getElem? (i := 26) rfl)) (hw _ (List.mem_of_getElem? (i := 2) rfl)) (by decide) (by decide)) q53a q53c (g := (mkF m 115 #[.val (.int pa), .val (.int pb), .val (.int v2_0), .val (.int v4_0), .val (.int v6_0), .val (.int v8_0), .val (.int v10_0), .val (.int v12_0), .val (.ref b13), .val (.ref b21), .val (.ref r_38), .unset, .unset, .unset] [(.ref r_38)])) rfl (by rw [hml]; rfl) (Steps.refl _) (argsL := []) (rest := []) (lenOf own_pd2 rfl) rfl (by show 2 * 0 + _ ≤ _; exact Nat.le_of_eq rfl) (hb hby at_115) (fun _ _ => ⟨rfl, rfl, (by decide : 3 + 0 ≤ _), (by decide : 9 + 0 ≤ _)⟩)
              dsimp only [Pt.U, Pt.locs, Pt.cells, Pt.slots] at X53 l53 y53 z53 st53 hQ53
              subst l53 y53 z53
              obtain ⟨rfl, Nq53, hh53⟩ := hQ53
              have N53 := Fr.app N38 Nq53
              refine Go.hop st53 ?_
              show Go p.tables e below P T53 (mkF m 118 #[.val (.int pa), .val (.int pb), .val (.int v2_0), .val (.int v4_0), .val (.int v6_0), .val (.int v8_0), .val (.int v10_0), .val (.int v12_0), .val (.ref b13), .val (.ref b21), .val (.ref r_38), .unset, .unset, .unset] [(.int u1_38)])
              refine Go.via (fun t k => XS.iloadN X53.here hx rfl (hb hby at_118) rfl k) ?_
              show Go p.tables e below P T53 (mkF m 119 #[.val (.int pa), .val (.int pb), .val (.int v2_0), .val (.int v4_0), .val (.int v6_0), .val (.int v8_0), .val (.int v10_0), .val (.int v12_0), .val (.ref b13), .val (.ref b21), .val (.ref r_38), .unset, .unset, .unset] [(.int v2_0), (.int u1_38)])
              have J55 : ∀ (T55 : State) (locs55 : List Loc) (v55_0 : Int32), Stand p l e room_1 s m #[(.int pa), (.int pb)] below meth c T55 locs55 3 9 → T55.heap = T38.heap → Fr n0 locs55 → v55_0 = (if v2_0 = (0 : Int32) then (if v8_0 = (0 : Int32) then (0 : Int32) else (1 : Int32)) else (1 : Int32)) → Go p.tables e below P T55 (mkF m 132 #[.val (.int pa), .val (.int pb), .val (.int v2_0), .val (.int v4_0), .val (.int v6_0), .val (.int v8_0), .val (.int v10_0), .val (.int v12_0), .val (.ref b13), .val (.ref b21), .val (.ref r_38), .unset, .unset, .unset] [(.int v55_0), (.int u1_38)]) := by
                intro T55 locs55 v55_0 X55 e55 N55 hv55_0
                have hbv55_0 : v55_0 = 0 ∨ v55_0 = 1 := by (subst hv55_0; (repeat' split) <;> first | (left; rfl) | (right; rfl))
                show Go p.tables e below P T55 (mkF m 132 #[.val (.int pa), .val (.int pb), .val (.int v2_0), .val (.int v4_0), .val (.int v6_0), .val (.int v8_0), .val (.int v10_0), .val (.int v12_0), .val (.ref b13), .val (.ref b21), .val (.ref r_38), .unset, .unset, .unset] [(.int v55_0), (.int u1_38)])
                refine Go.via (fun t k => XS.icmpNo X55.here hx rfl (hb hby at_132) rfl (teq (u38_4.trans hv55_0.symm)).2 k) ?_
                show Go p.tables e below P T55 (mkF m 135 #[.val (.int pa), .val (.int pb), .val (.int v2_0), .val (.int v4_0), .val (.int v6_0), .val (.int v8_0), .val (.int v10_0), .val (.int v12_0), .val (.ref b13), .val (.ref b21), .val (.ref r_38), .unset, .unset, .unset] [])
                refine Go.via (fun t k => XS.iconst X55.here hx rfl (hb hby at_135) k) ?_
                show Go p.tables e below P T55 (mkF m 136 #[.val (.int pa), .val (.int pb), .val (.int v2_0), .val (.int v4_0), .val (.int v6_0), .val (.int v8_0), .val (.int v10_0), .val (.int v12_0), .val (.ref b13), .val (.ref b21), .val (.ref r_38), .unset, .unset, .unset] [(.int (1 : Int32))])
                refine Go.via (fun t k => XS.goto X55.here hx rfl (pc0 := 136) (pc' := 140) rfl (hb hby at_136) (by decide) (by decide) k) ?_
                show Go p.tables e below P T55 (mkF m 140 #[.val (.int pa), .val (.int pb), .val (.int v2_0), .val (.int v4_0), .val (.int v6_0), .val (.int v8_0), .val (.int v10_0), .val (.int v12_0), .val (.ref b13), .val (.ref b21), .val (.ref r_38), .unset, .unset, .unset] [(.int (1 : Int32))])
                refine Go.via (fun t k => XS.istore X55.here hx rfl (hb hby at_140) rfl (l' := #[.val (.int pa), .val (.int pb), .val (.int v2_0), .val (.int v4_0), .val (.int v6_0), .val (.int v8_0), .val (.int v10_0), .val (.int v12_0), .val (.ref b13), .val (.ref b21), .val (.ref r_38), .val (.int (1 : Int32)), .unset, .unset]) rfl k) ?_
                show Go p.tables e below P T55 (mkF m 142 #[.val (.int pa), .val (.int pb), .val (.int v2_0), .val (.int v4_0), .val (.int v6_0), .val (.int v8_0), .val (.int v10_0), .val (.int v12_0), .val (.ref b13), .val (.ref b21), .val (.ref r_38), .val (.int (1 : Int32)), .unset, .unset] [])
                refine Go.via (fun t k => XS.aload X55.here hx rfl (hb hby at_142) rfl rfl k) ?_
                show Go p.tables e below P T55 (mkF m 144 #[.val (.int pa), .val (.int pb), .val (.int v2_0), .val (.int v4_0), .val (.int v6_0), .val (.int v8_0), .val (.int v10_0), .val (.int v12_0), .val (.ref b13), .val (.ref b21), .val (.ref r_38), .val (.int (1 : Int32)), .unset, .unset] [(.ref r_38)])
                obtain ⟨cq56, kq56, q56a, q56b, q56c⟩ := isOf hZ e55 u38_0
                obtain ⟨_, _, ⟨T56, L56, k56, n56⟩, -, X56, ⟨Lc56, hQ56, l56, y56, z56⟩, st56⟩ := X55.virtualBack hx (y := (⟨"com/example/tri3/tri3/ItemShape", "waitsForStages", "()Z"⟩ : MethodName)) (z := (⟨"com/example/tri3/tri3/ItemShape", "waitsForStages", "()Z"⟩ : MethodName)) hown (mvT hZ (hw _ (List.mem_of_getElem? (i := 27) rfl))) (mvT hZ (hw _ (List.mem_of_getElem? (i := 28) rfl))) (notFace_of_selects (args := #[]) (mvT hZ (hw _ (List.mem_of_getElem? (i := 30) rfl)))) (mvT hZ (hw _ (List.mem_of_getElem? (i := 30) rfl))) (mvT hZ (hw _ (List.mem_of_getElem? (i := 29) rfl))) (by decide) (backOf (W := 0) (rm5 l Z a0 hw [] r_38 u2_38 T38.heap n0 Z43 u38_2 (by first | assumption | decide | omega : u2_38 = 0 ∨ u2_38 = 1)) hZ (hw _ (List.mem_of_getElem? (i := 31) rfl)) (hw _ (List.mem_of_getElem? (i := 2) rfl)) (by decide) (by decide)) q56a q56c (g := (mkF m 144 #[.val (.int pa), .val (.int pb), .val (.int v2_0), .val (.int v4_0), .val (.int v6_0), .val (.int v8_0), .val (.int v10_0), .val (.int v12_0), .val (.ref b13), .val (.ref b21), .val (.ref r_38), .val (.int (1 : Int32)), .unset, .unset] [(.ref r_38)])) rfl (by rw [hml]; rfl) (Steps.refl _) (argsL := []) (rest := []) (lenOf own_pd2 rfl) rfl (by show 2 * 0 + _ ≤ _; exact Nat.le_of_eq rfl) (hb hby at_144) (fun _ _ => ⟨rfl, e55, (by decide : 3 + 0 ≤ _), (by decide : 9 + 0 ≤ _)⟩)
                dsimp only [Pt.U, Pt.locs, Pt.cells, Pt.slots] at X56 l56 y56 z56 st56 hQ56
                subst l56 y56 z56
                obtain ⟨rfl, Nq56, hh56⟩ := hQ56
                have N56 := Fr.app N55 Nq56
                refine Go.hop st56 ?_
                show Go p.tables e below P T56 (mkF m 147 #[.val (.int pa), .val (.int pb), .val (.int v2_0), .val (.int v4_0), .val (.int v6_0), .val (.int v8_0), .val (.int v10_0), .val (.int v12_0), .val (.ref b13), .val (.ref b21), .val (.ref r_38), .val (.int (1 : Int32)), .unset, .unset] [(.int u2_38)])
                refine Go.via (fun t k => XS.iloadN X56.here hx rfl (hb hby at_147) rfl k) ?_
                show Go p.tables e below P T56 (mkF m 148 #[.val (.int pa), .val (.int pb), .val (.int v2_0), .val (.int v4_0), .val (.int v6_0), .val (.int v8_0), .val (.int v10_0), .val (.int v12_0), .val (.ref b13), .val (.ref b21), .val (.ref r_38), .val (.int (1 : Int32)), .unset, .unset] [(.int v4_0), (.int u2_38)])
                have J58 : ∀ (T58 : State) (locs58 : List Loc) (v58_0 : Int32), Stand p l e room_1 s m #[(.int pa), (.int pb)] below meth c T58 locs58 3 9 → T58.heap = T38.heap → Fr n0 locs58 → v58_0 = (if v4_0 = (0 : Int32) then (if v10_0 = (0 : Int32) then (0 : Int32) else (1 : Int32)) else (1 : Int32)) → Go p.tables e below P T58 (mkF m 161 #[.val (.int pa), .val (.int pb), .val (.int v2_0), .val (.int v4_0), .val (.int v6_0), .val (.int v8_0), .val (.int v10_0), .val (.int v12_0), .val (.ref b13), .val (.ref b21), .val (.ref r_38), .val (.int (1 : Int32)), .unset, .unset] [(.int v58_0), (.int u2_38)]) := by
                  intro T58 locs58 v58_0 X58 e58 N58 hv58_0
                  have hbv58_0 : v58_0 = 0 ∨ v58_0 = 1 := by (subst hv58_0; (repeat' split) <;> first | (left; rfl) | (right; rfl))
                  show Go p.tables e below P T58 (mkF m 161 #[.val (.int pa), .val (.int pb), .val (.int v2_0), .val (.int v4_0), .val (.int v6_0), .val (.int v8_0), .val (.int v10_0), .val (.int v12_0), .val (.ref b13), .val (.ref b21), .val (.ref r_38), .val (.int (1 : Int32)), .unset, .unset] [(.int v58_0), (.int u2_38)])
                  refine Go.via (fun t k => XS.icmpNo X58.here hx rfl (hb hby at_161) rfl (teq (u38_5.trans hv58_0.symm)).2 k) ?_
                  show Go p.tables e below P T58 (mkF m 164 #[.val (.int pa), .val (.int pb), .val (.int v2_0), .val (.int v4_0), .val (.int v6_0), .val (.int v8_0), .val (.int v10_0), .val (.int v12_0), .val (.ref b13), .val (.ref b21), .val (.ref r_38), .val (.int (1 : Int32)), .unset, .unset] [])
                  refine Go.via (fun t k => XS.iconst X58.here hx rfl (hb hby at_164) k) ?_
                  show Go p.tables e below P T58 (mkF m 165 #[.val (.int pa), .val (.int pb), .val (.int v2_0), .val (.int v4_0), .val (.int v6_0), .val (.int v8_0), .val (.int v10_0), .val (.int v12_0), .val (.ref b13), .val (.ref b21), .val (.ref r_38), .val (.int (1 : Int32)), .unset, .unset] [(.int (1 : Int32))])
                  refine Go.via (fun t k => XS.goto X58.here hx rfl (pc0 := 165) (pc' := 169) rfl (hb hby at_165) (by decide) (by decide) k) ?_
                  show Go p.tables e below P T58 (mkF m 169 #[.val (.int pa), .val (.int pb), .val (.int v2_0), .val (.int v4_0), .val (.int v6_0), .val (.int v8_0), .val (.int v10_0), .val (.int v12_0), .val (.ref b13), .val (.ref b21), .val (.ref r_38), .val (.int (1 : Int32)), .unset, .unset] [(.int (1 : Int32))])
                  refine Go.via (fun t k => XS.istore X58.here hx rfl (hb hby at_169) rfl (l' := #[.val (.int pa), .val (.int pb), .val (.int v2_0), .val (.int v4_0), .val (.int v6_0), .val (.int v8_0), .val (.int v10_0), .val (.int v12_0), .val (.ref b13), .val (.ref b21), .val (.ref r_38), .val (.int (1 : Int32)), .val (.int (1 : Int32)), .unset]) rfl k) ?_
                  show Go p.tables e below P T58 (mkF m 171 #[.val (.int pa), .val (.int pb), .val (.int v2_0), .val (.int v4_0), .val (.int v6_0), .val (.int v8_0), .val (.int v10_0), .val (.int v12_0), .val (.ref b13), .val (.ref b21), .val (.ref r_38), .val (.int (1 : Int32)), .val (.int (1 : Int32)), .unset] [])
                  refine Go.via (fun t k => XS.aload X58.here hx rfl (hb hby at_171) rfl rfl k) ?_
                  show Go p.tables e below P T58 (mkF m 173 #[.val (.int pa), .val (.int pb), .val (.int v2_0), .val (.int v4_0), .val (.int v6_0), .val (.int v8_0), .val (.int v10_0), .val (.int v12_0), .val (.ref b13), .val (.ref b21), .val (.ref r_38), .val (.int (1 : Int32)), .val (.int (1 : Int32)), .unset] [(.ref r_38)])
                  obtain ⟨cq59, kq59, q59a, q59b, q59c⟩ := isOf hZ e58 u38_0
                  obtain ⟨_, _, ⟨T59, L59, k59, n59⟩, -, X59, ⟨Lc59, hQ59, l59, y59, z59⟩, st59⟩ := X58.virtualBack hx (y := (⟨"com/example/tri3/tri3/ItemShape", "sharesItem", "()Z"⟩ : MethodName)) (z := (⟨"com/example/tri3/tri3/ItemShape", "sharesItem", "()Z"⟩ : MethodName)) hown (mvT hZ (hw _ (List.mem_of_getElem? (i := 32) rfl))) (mvT hZ (hw _ (List.mem_of_getElem? (i := 33) rfl))) (notFace_of_selects (args := #[]) (mvT hZ (hw _ (List.mem_of_getElem? (i := 35) rfl)))) (mvT hZ (hw _ (List.mem_of_getElem? (i := 35) rfl))) (mvT hZ (hw _ (List.mem_of_getElem? (i := 34) rfl))) (by decide) (backOf (W := 0) (rm6 l Z a0 hw [] r_38 u3_38 T38.heap n0 Z43 u38_3 (by first | assumption | decide | omega : u3_38 = 0 ∨ u3_38 = 1)) hZ (hw _ (List.mem_of_getElem? (i := 36) rfl)) (hw _ (List.mem_of_getElem? (i := 2) rfl)) (by decide) (by decide)) q59a q59c (g := (mkF m 173 #[.val (.int pa), .val (.int pb), .val (.int v2_0), .val (.int v4_0), .val (.int v6_0), .val (.int v8_0), .val (.int v10_0), .val (.int v12_0), .val (.ref b13), .val (.ref b21), .val (.ref r_38), .val (.int (1 : Int32)), .val (.int (1 : Int32)), .unset] [(.ref r_38)])) rfl (by rw [hml]; rfl) (Steps.refl _) (argsL := []) (rest := []) (lenOf own_pd2 rfl) rfl (by show 2 * 0 + _ ≤ _; exact Nat.le_of_eq rfl) (hb hby at_173) (fun _ _ => ⟨rfl, e58, (by decide : 3 + 0 ≤ _), (by decide : 9 + 0 ≤ _)⟩)
                  dsimp only [Pt.U, Pt.locs, Pt.cells, Pt.slots] at X59 l59 y59 z59 st59 hQ59
                  subst l59 y59 z59
                  obtain ⟨rfl, Nq59, hh59⟩ := hQ59
                  have N59 := Fr.app N58 Nq59
                  refine Go.hop st59 ?_
                  show Go p.tables e below P T59 (mkF m 176 #[.val (.int pa), .val (.int pb), .val (.int v2_0), .val (.int v4_0), .val (.int v6_0), .val (.int v8_0), .val (.int v10_0), .val (.int v12_0), .val (.ref b13), .val (.ref b21), .val (.ref r_38), .val (.int (1 : Int32)), .val (.int (1 : Int32)), .unset] [(.int u3_38)])
                  refine Go.via (fun t k => XS.iload X59.here hx rfl (hb hby at_176) rfl k) ?_
                  show Go p.tables e below P T59 (mkF m 178 #[.val (.int pa), .val (.int pb), .val (.int v2_0), .val (.int v4_0), .val (.int v6_0), .val (.int v8_0), .val (.int v10_0), .val (.int v12_0), .val (.ref b13), .val (.ref b21), .val (.ref r_38), .val (.int (1 : Int32)), .val (.int (1 : Int32)), .unset] [(.int v6_0), (.int u3_38)])
                  have J61 : ∀ (T61 : State) (locs61 : List Loc) (v61_0 : Int32), Stand p l e room_1 s m #[(.int pa), (.int pb)] below meth c T61 locs61 3 9 → T61.heap = T38.heap → Fr n0 locs61 → v61_0 = (if v6_0 = (0 : Int32) then (if v12_0 = (0 : Int32) then (0 : Int32) else (1 : Int32)) else (1 : Int32)) → Go p.tables e below P T61 (mkF m 191 #[.val (.int pa), .val (.int pb), .val (.int v2_0), .val (.int v4_0), .val (.int v6_0), .val (.int v8_0), .val (.int v10_0), .val (.int v12_0), .val (.ref b13), .val (.ref b21), .val (.ref r_38), .val (.int (1 : Int32)), .val (.int (1 : Int32)), .unset] [(.int v61_0), (.int u3_38)]) := by
                    intro T61 locs61 v61_0 X61 e61 N61 hv61_0
                    have hbv61_0 : v61_0 = 0 ∨ v61_0 = 1 := by (subst hv61_0; (repeat' split) <;> first | (left; rfl) | (right; rfl))
                    show Go p.tables e below P T61 (mkF m 191 #[.val (.int pa), .val (.int pb), .val (.int v2_0), .val (.int v4_0), .val (.int v6_0), .val (.int v8_0), .val (.int v10_0), .val (.int v12_0), .val (.ref b13), .val (.ref b21), .val (.ref r_38), .val (.int (1 : Int32)), .val (.int (1 : Int32)), .unset] [(.int v61_0), (.int u3_38)])
                    refine Go.via (fun t k => XS.icmpNo X61.here hx rfl (hb hby at_191) rfl (teq (u38_6.trans hv61_0.symm)).2 k) ?_
                    show Go p.tables e below P T61 (mkF m 194 #[.val (.int pa), .val (.int pb), .val (.int v2_0), .val (.int v4_0), .val (.int v6_0), .val (.int v8_0), .val (.int v10_0), .val (.int v12_0), .val (.ref b13), .val (.ref b21), .val (.ref r_38), .val (.int (1 : Int32)), .val (.int (1 : Int32)), .unset] [])
                    refine Go.via (fun t k => XS.iconst X61.here hx rfl (hb hby at_194) k) ?_
                    show Go p.tables e below P T61 (mkF m 195 #[.val (.int pa), .val (.int pb), .val (.int v2_0), .val (.int v4_0), .val (.int v6_0), .val (.int v8_0), .val (.int v10_0), .val (.int v12_0), .val (.ref b13), .val (.ref b21), .val (.ref r_38), .val (.int (1 : Int32)), .val (.int (1 : Int32)), .unset] [(.int (1 : Int32))])
                    refine Go.via (fun t k => XS.goto X61.here hx rfl (pc0 := 195) (pc' := 199) rfl (hb hby at_195) (by decide) (by decide) k) ?_
                    show Go p.tables e below P T61 (mkF m 199 #[.val (.int pa), .val (.int pb), .val (.int v2_0), .val (.int v4_0), .val (.int v6_0), .val (.int v8_0), .val (.int v10_0), .val (.int v12_0), .val (.ref b13), .val (.ref b21), .val (.ref r_38), .val (.int (1 : Int32)), .val (.int (1 : Int32)), .unset] [(.int (1 : Int32))])
                    refine Go.via (fun t k => XS.istore X61.here hx rfl (hb hby at_199) rfl (l' := #[.val (.int pa), .val (.int pb), .val (.int v2_0), .val (.int v4_0), .val (.int v6_0), .val (.int v8_0), .val (.int v10_0), .val (.int v12_0), .val (.ref b13), .val (.ref b21), .val (.ref r_38), .val (.int (1 : Int32)), .val (.int (1 : Int32)), .val (.int (1 : Int32))]) rfl k) ?_
                    show Go p.tables e below P T61 (mkF m 201 #[.val (.int pa), .val (.int pb), .val (.int v2_0), .val (.int v4_0), .val (.int v6_0), .val (.int v8_0), .val (.int v10_0), .val (.int v12_0), .val (.ref b13), .val (.ref b21), .val (.ref r_38), .val (.int (1 : Int32)), .val (.int (1 : Int32)), .val (.int (1 : Int32))] [])
                    refine Go.via (fun t k => XS.iload X61.here hx rfl (hb hby at_201) rfl k) ?_
                    show Go p.tables e below P T61 (mkF m 203 #[.val (.int pa), .val (.int pb), .val (.int v2_0), .val (.int v4_0), .val (.int v6_0), .val (.int v8_0), .val (.int v10_0), .val (.int v12_0), .val (.ref b13), .val (.ref b21), .val (.ref r_38), .val (.int (1 : Int32)), .val (.int (1 : Int32)), .val (.int (1 : Int32))] [(.int (1 : Int32))])
                    refine Go.via (fun t k => XS.ifNo X61.here hx rfl (hb hby at_203) rfl ((if0 _ _).trans (feq (by decide : ¬ ((1 : Int32) = (0 : Int32)))).1) k) ?_
                    show Go p.tables e below P T61 (mkF m 206 #[.val (.int pa), .val (.int pb), .val (.int v2_0), .val (.int v4_0), .val (.int v6_0), .val (.int v8_0), .val (.int v10_0), .val (.int v12_0), .val (.ref b13), .val (.ref b21), .val (.ref r_38), .val (.int (1 : Int32)), .val (.int (1 : Int32)), .val (.int (1 : Int32))] [])
                    refine Go.via (fun t k => XS.iload X61.here hx rfl (hb hby at_206) rfl k) ?_
                    show Go p.tables e below P T61 (mkF m 208 #[.val (.int pa), .val (.int pb), .val (.int v2_0), .val (.int v4_0), .val (.int v6_0), .val (.int v8_0), .val (.int v10_0), .val (.int v12_0), .val (.ref b13), .val (.ref b21), .val (.ref r_38), .val (.int (1 : Int32)), .val (.int (1 : Int32)), .val (.int (1 : Int32))] [(.int (1 : Int32))])
                    refine Go.via (fun t k => XS.ifNo X61.here hx rfl (hb hby at_208) rfl ((if0 _ _).trans (feq (by decide : ¬ ((1 : Int32) = (0 : Int32)))).1) k) ?_
                    show Go p.tables e below P T61 (mkF m 211 #[.val (.int pa), .val (.int pb), .val (.int v2_0), .val (.int v4_0), .val (.int v6_0), .val (.int v8_0), .val (.int v10_0), .val (.int v12_0), .val (.ref b13), .val (.ref b21), .val (.ref r_38), .val (.int (1 : Int32)), .val (.int (1 : Int32)), .val (.int (1 : Int32))] [])
                    refine Go.via (fun t k => XS.iload X61.here hx rfl (hb hby at_211) rfl k) ?_
                    show Go p.tables e below P T61 (mkF m 213 #[.val (.int pa), .val (.int pb), .val (.int v2_0), .val (.int v4_0), .val (.int v6_0), .val (.int v8_0), .val (.int v10_0), .val (.int v12_0), .val (.ref b13), .val (.ref b21), .val (.ref r_38), .val (.int (1 : Int32)), .val (.int (1 : Int32)), .val (.int (1 : Int32))] [(.int (1 : Int32))])
                    refine Go.via (fun t k => XS.ifNo X61.here hx rfl (hb hby at_213) rfl ((if0 _ _).trans (feq (by decide : ¬ ((1 : Int32) = (0 : Int32)))).1) k) ?_
                    show Go p.tables e below P T61 (mkF m 216 #[.val (.int pa), .val (.int pb), .val (.int v2_0), .val (.int v4_0), .val (.int v6_0), .val (.int v8_0), .val (.int v10_0), .val (.int v12_0), .val (.ref b13), .val (.ref b21), .val (.ref r_38), .val (.int (1 : Int32)), .val (.int (1 : Int32)), .val (.int (1 : Int32))] [])
                    refine Go.via (fun t k => XS.iconst X61.here hx rfl (hb hby at_216) k) ?_
                    show Go p.tables e below P T61 (mkF m 217 #[.val (.int pa), .val (.int pb), .val (.int v2_0), .val (.int v4_0), .val (.int v6_0), .val (.int v8_0), .val (.int v10_0), .val (.int v12_0), .val (.ref b13), .val (.ref b21), .val (.ref r_38), .val (.int (1 : Int32)), .val (.int (1 : Int32)), .val (.int (1 : Int32))] [(.int (1 : Int32))])
                    refine Go.via (fun t k => XS.goto X61.here hx rfl (pc0 := 217) (pc' := 221) rfl (hb hby at_217) (by decide) (by decide) k) ?_
                    show Go p.tables e below P T61 (mkF m 221 #[.val (.int pa), .val (.int pb), .val (.int v2_0), .val (.int v4_0), .val (.int v6_0), .val (.int v8_0), .val (.int v10_0), .val (.int v12_0), .val (.ref b13), .val (.ref b21), .val (.ref r_38), .val (.int (1 : Int32)), .val (.int (1 : Int32)), .val (.int (1 : Int32))] [(.int (1 : Int32))])
                    obtain ⟨fs, hr, hrun, hended, hW, hsame⟩ := X61.leave (v := some (.int (1 : Int32))) (fun h => by rw [Bd.returns] at h; cases h)
                    refine ⟨_, _, retZ X61 hx (t := .boolean) Bd.returns (by simp) (hb hby at_221) rfl hr, hrun, hended, hP _ _ ⟨_, _, rfl, ?_, ⟨_, rfl⟩, hW, hsame.mono (by decide) (by decide)⟩⟩
                    show Q0 Z pa pb h0 n0 _ T61.heap _
                    rw [e61]
                    exact ⟨rfl, N61⟩
                  by_cases hc60 : v6_0 = (0 : Int32)
                  · refine Go.via (fun t k => XS.ifNo X59.here hx rfl (hb hby at_178) rfl ((if0 _ _).trans (teq hc60).2) k) ?_
                    show Go p.tables e below P T59 (mkF m 181 #[.val (.int pa), .val (.int pb), .val (.int v2_0), .val (.int v4_0), .val (.int v6_0), .val (.int v8_0), .val (.int v10_0), .val (.int v12_0), .val (.ref b13), .val (.ref b21), .val (.ref r_38), .val (.int (1 : Int32)), .val (.int (1 : Int32)), .unset] [(.int u3_38)])
                    refine Go.via (fun t k => XS.iload X59.here hx rfl (hb hby at_181) rfl k) ?_
                    show Go p.tables e below P T59 (mkF m 183 #[.val (.int pa), .val (.int pb), .val (.int v2_0), .val (.int v4_0), .val (.int v6_0), .val (.int v8_0), .val (.int v10_0), .val (.int v12_0), .val (.ref b13), .val (.ref b21), .val (.ref r_38), .val (.int (1 : Int32)), .val (.int (1 : Int32)), .unset] [(.int v12_0), (.int u3_38)])
                    by_cases hc63 : v12_0 = (0 : Int32)
                    · refine Go.via (fun t k => XS.ifYes X59.here hx rfl (pc0 := 183) (pc' := 190) rfl (hb hby at_183) rfl ((if0 _ _).trans (teq hc63).1) (by decide) (by decide) k) ?_
                      show Go p.tables e below P T59 (mkF m 190 #[.val (.int pa), .val (.int pb), .val (.int v2_0), .val (.int v4_0), .val (.int v6_0), .val (.int v8_0), .val (.int v10_0), .val (.int v12_0), .val (.ref b13), .val (.ref b21), .val (.ref r_38), .val (.int (1 : Int32)), .val (.int (1 : Int32)), .unset] [(.int u3_38)])
                      refine Go.via (fun t k => XS.iconst X59.here hx rfl (hb hby at_190) k) ?_
                      exact J61 T59 _ (0 : Int32) X59 hh59 N59 (Eq.trans (if_pos hc60) (if_pos hc63)).symm
                    · refine Go.via (fun t k => XS.ifNo X59.here hx rfl (hb hby at_183) rfl ((if0 _ _).trans (feq hc63).1) k) ?_
                      show Go p.tables e below P T59 (mkF m 186 #[.val (.int pa), .val (.int pb), .val (.int v2_0), .val (.int v4_0), .val (.int v6_0), .val (.int v8_0), .val (.int v10_0), .val (.int v12_0), .val (.ref b13), .val (.ref b21), .val (.ref r_38), .val (.int (1 : Int32)), .val (.int (1 : Int32)), .unset] [(.int u3_38)])
                      refine Go.via (fun t k => XS.iconst X59.here hx rfl (hb hby at_186) k) ?_
                      show Go p.tables e below P T59 (mkF m 187 #[.val (.int pa), .val (.int pb), .val (.int v2_0), .val (.int v4_0), .val (.int v6_0), .val (.int v8_0), .val (.int v10_0), .val (.int v12_0), .val (.ref b13), .val (.ref b21), .val (.ref r_38), .val (.int (1 : Int32)), .val (.int (1 : Int32)), .unset] [(.int (1 : Int32)), (.int u3_38)])
                      refine Go.via (fun t k => XS.goto X59.here hx rfl (pc0 := 187) (pc' := 191) rfl (hb hby at_187) (by decide) (by decide) k) ?_
                      exact J61 T59 _ (1 : Int32) X59 hh59 N59 (Eq.trans (if_pos hc60) (if_neg hc63)).symm
                  · refine Go.via (fun t k => XS.ifYes X59.here hx rfl (pc0 := 178) (pc' := 186) rfl (hb hby at_178) rfl ((if0 _ _).trans (feq hc60).2) (by decide) (by decide) k) ?_
                    show Go p.tables e below P T59 (mkF m 186 #[.val (.int pa), .val (.int pb), .val (.int v2_0), .val (.int v4_0), .val (.int v6_0), .val (.int v8_0), .val (.int v10_0), .val (.int v12_0), .val (.ref b13), .val (.ref b21), .val (.ref r_38), .val (.int (1 : Int32)), .val (.int (1 : Int32)), .unset] [(.int u3_38)])
                    refine Go.via (fun t k => XS.iconst X59.here hx rfl (hb hby at_186) k) ?_
                    show Go p.tables e below P T59 (mkF m 187 #[.val (.int pa), .val (.int pb), .val (.int v2_0), .val (.int v4_0), .val (.int v6_0), .val (.int v8_0), .val (.int v10_0), .val (.int v12_0), .val (.ref b13), .val (.ref b21), .val (.ref r_38), .val (.int (1 : Int32)), .val (.int (1 : Int32)), .unset] [(.int (1 : Int32)), (.int u3_38)])
                    refine Go.via (fun t k => XS.goto X59.here hx rfl (pc0 := 187) (pc' := 191) rfl (hb hby at_187) (by decide) (by decide) k) ?_
                    exact J61 T59 _ (1 : Int32) X59 hh59 N59 (if_neg hc60).symm
                by_cases hc57 : v4_0 = (0 : Int32)
                · refine Go.via (fun t k => XS.ifNo X56.here hx rfl (hb hby at_148) rfl ((if0 _ _).trans (teq hc57).2) k) ?_
                  show Go p.tables e below P T56 (mkF m 151 #[.val (.int pa), .val (.int pb), .val (.int v2_0), .val (.int v4_0), .val (.int v6_0), .val (.int v8_0), .val (.int v10_0), .val (.int v12_0), .val (.ref b13), .val (.ref b21), .val (.ref r_38), .val (.int (1 : Int32)), .unset, .unset] [(.int u2_38)])
                  refine Go.via (fun t k => XS.iload X56.here hx rfl (hb hby at_151) rfl k) ?_
                  show Go p.tables e below P T56 (mkF m 153 #[.val (.int pa), .val (.int pb), .val (.int v2_0), .val (.int v4_0), .val (.int v6_0), .val (.int v8_0), .val (.int v10_0), .val (.int v12_0), .val (.ref b13), .val (.ref b21), .val (.ref r_38), .val (.int (1 : Int32)), .unset, .unset] [(.int v10_0), (.int u2_38)])
                  by_cases hc64 : v10_0 = (0 : Int32)
                  · refine Go.via (fun t k => XS.ifYes X56.here hx rfl (pc0 := 153) (pc' := 160) rfl (hb hby at_153) rfl ((if0 _ _).trans (teq hc64).1) (by decide) (by decide) k) ?_
                    show Go p.tables e below P T56 (mkF m 160 #[.val (.int pa), .val (.int pb), .val (.int v2_0), .val (.int v4_0), .val (.int v6_0), .val (.int v8_0), .val (.int v10_0), .val (.int v12_0), .val (.ref b13), .val (.ref b21), .val (.ref r_38), .val (.int (1 : Int32)), .unset, .unset] [(.int u2_38)])
                    refine Go.via (fun t k => XS.iconst X56.here hx rfl (hb hby at_160) k) ?_
                    exact J58 T56 _ (0 : Int32) X56 hh56 N56 (Eq.trans (if_pos hc57) (if_pos hc64)).symm
                  · refine Go.via (fun t k => XS.ifNo X56.here hx rfl (hb hby at_153) rfl ((if0 _ _).trans (feq hc64).1) k) ?_
                    show Go p.tables e below P T56 (mkF m 156 #[.val (.int pa), .val (.int pb), .val (.int v2_0), .val (.int v4_0), .val (.int v6_0), .val (.int v8_0), .val (.int v10_0), .val (.int v12_0), .val (.ref b13), .val (.ref b21), .val (.ref r_38), .val (.int (1 : Int32)), .unset, .unset] [(.int u2_38)])
                    refine Go.via (fun t k => XS.iconst X56.here hx rfl (hb hby at_156) k) ?_
                    show Go p.tables e below P T56 (mkF m 157 #[.val (.int pa), .val (.int pb), .val (.int v2_0), .val (.int v4_0), .val (.int v6_0), .val (.int v8_0), .val (.int v10_0), .val (.int v12_0), .val (.ref b13), .val (.ref b21), .val (.ref r_38), .val (.int (1 : Int32)), .unset, .unset] [(.int (1 : Int32)), (.int u2_38)])
                    refine Go.via (fun t k => XS.goto X56.here hx rfl (pc0 := 157) (pc' := 161) rfl (hb hby at_157) (by decide) (by decide) k) ?_
                    exact J58 T56 _ (1 : Int32) X56 hh56 N56 (Eq.trans (if_pos hc57) (if_neg hc64)).symm
                · refine Go.via (fun t k => XS.ifYes X56.here hx rfl (pc0 := 148) (pc' := 156) rfl (hb hby at_148) rfl ((if0 _ _).trans (feq hc57).2) (by decide) (by decide) k) ?_
                  show Go p.tables e below P T56 (mkF m 156 #[.val (.int pa), .val (.int pb), .val (.int v2_0), .val (.int v4_0), .val (.int v6_0), .val (.int v8_0), .val (.int v10_0), .val (.int v12_0), .val (.ref b13), .val (.ref b21), .val (.ref r_38), .val (.int (1 : Int32)), .unset, .unset] [(.int u2_38)])
                  refine Go.via (fun t k => XS.iconst X56.here hx rfl (hb hby at_156) k) ?_
                  show Go p.tables e below P T56 (mkF m 157 #[.val (.int pa), .val (.int pb), .val (.int v2_0), .val (.int v4_0), .val (.int v6_0), .val (.int v8_0), .val (.int v10_0), .val (.int v12_0), .val (.ref b13), .val (.ref b21), .val (.ref r_38), .val (.int (1 : Int32)), .unset, .unset] [(.int (1 : Int32)), (.int u2_38)])
                  refine Go.via (fun t k => XS.goto X56.here hx rfl (pc0 := 157) (pc' := 161) rfl (hb hby at_157) (by decide) (by decide) k) ?_
                  exact J58 T56 _ (1 : Int32) X56 hh56 N56 (if_neg hc57).symm
              by_cases hc54 : v2_0 = (0 : Int32)
              · refine Go.via (fun t k => XS.ifNo X53.here hx rfl (hb hby at_119) rfl ((if0 _ _).trans (teq hc54).2) k) ?_
                show Go p.tables e below P T53 (mkF m 122 #[.val (.int pa), .val (.int pb), .val (.int v2_0), .val (.int v4_0), .val (.int v6_0), .val (.int v8_0), .val (.int v10_0), .val (.int v12_0), .val (.ref b13), .val (.ref b21), .val (.ref r_38), .unset, .unset, .unset] [(.int u1_38)])
                refine Go.via (fun t k => XS.iload X53.here hx rfl (hb hby at_122) rfl k) ?_
                show Go p.tables e below P T53 (mkF m 124 #[.val (.int pa), .val (.int pb), .val (.int v2_0), .val (.int v4_0), .val (.int v6_0), .val (.int v8_0), .val (.int v10_0), .val (.int v12_0), .val (.ref b13), .val (.ref b21), .val (.ref r_38), .unset, .unset, .unset] [(.int v8_0), (.int u1_38)])
                by_cases hc65 : v8_0 = (0 : Int32)
                · refine Go.via (fun t k => XS.ifYes X53.here hx rfl (pc0 := 124) (pc' := 131) rfl (hb hby at_124) rfl ((if0 _ _).trans (teq hc65).1) (by decide) (by decide) k) ?_
                  show Go p.tables e below P T53 (mkF m 131 #[.val (.int pa), .val (.int pb), .val (.int v2_0), .val (.int v4_0), .val (.int v6_0), .val (.int v8_0), .val (.int v10_0), .val (.int v12_0), .val (.ref b13), .val (.ref b21), .val (.ref r_38), .unset, .unset, .unset] [(.int u1_38)])
                  refine Go.via (fun t k => XS.iconst X53.here hx rfl (hb hby at_131) k) ?_
                  exact J55 T53 _ (0 : Int32) X53 hh53 N53 (Eq.trans (if_pos hc54) (if_pos hc65)).symm
                · refine Go.via (fun t k => XS.ifNo X53.here hx rfl (hb hby at_124) rfl ((if0 _ _).trans (feq hc65).1) k) ?_
                  show Go p.tables e below P T53 (mkF m 127 #[.val (.int pa), .val (.int pb), .val (.int v2_0), .val (.int v4_0), .val (.int v6_0), .val (.int v8_0), .val (.int v10_0), .val (.int v12_0), .val (.ref b13), .val (.ref b21), .val (.ref r_38), .unset, .unset, .unset] [(.int u1_38)])
                  refine Go.via (fun t k => XS.iconst X53.here hx rfl (hb hby at_127) k) ?_
                  show Go p.tables e below P T53 (mkF m 128 #[.val (.int pa), .val (.int pb), .val (.int v2_0), .val (.int v4_0), .val (.int v6_0), .val (.int v8_0), .val (.int v10_0), .val (.int v12_0), .val (.ref b13), .val (.ref b21), .val (.ref r_38), .unset, .unset, .unset] [(.int (1 : Int32)), (.int u1_38)])
                  refine Go.via (fun t k => XS.goto X53.here hx rfl (pc0 := 128) (pc' := 132) rfl (hb hby at_128) (by decide) (by decide) k) ?_
                  exact J55 T53 _ (1 : Int32) X53 hh53 N53 (Eq.trans (if_pos hc54) (if_neg hc65)).symm
              · refine Go.via (fun t k => XS.ifYes X53.here hx rfl (pc0 := 119) (pc' := 127) rfl (hb hby at_119) rfl ((if0 _ _).trans (feq hc54).2) (by decide) (by decide) k) ?_
                show Go p.tables e below P T53 (mkF m 127 #[.val (.int pa), .val (.int pb), .val (.int v2_0), .val (.int v4_0), .val (.int v6_0), .val (.int v8_0), .val (.int v10_0), .val (.int v12_0), .val (.ref b13), .val (.ref b21), .val (.ref r_38), .unset, .unset, .unset] [(.int u1_38)])
                refine Go.via (fun t k => XS.iconst X53.here hx rfl (hb hby at_127) k) ?_
                show Go p.tables e below P T53 (mkF m 128 #[.val (.int pa), .val (.int pb), .val (.int v2_0), .val (.int v4_0), .val (.int v6_0), .val (.int v8_0), .val (.int v10_0), .val (.int v12_0), .val (.ref b13), .val (.ref b21), .val (.ref r_38), .unset, .unset, .unset] [(.int (1 : Int32)), (.int u1_38)])
                refine Go.via (fun t k => XS.goto X53.here hx rfl (pc0 := 128) (pc' := 132) rfl (hb hby at_128) (by decide) (by decide) k) ?_
                exact J55 T53 _ (1 : Int32) X53 hh53 N53 (if_neg hc54).symm
            by_cases hc11 : (pb &&& (4 : Int32)) = (0 : Int32)
            · refine Go.via (fun t k => XS.ifYes X10.here hx rfl (pc0 := 66) (pc' := 73) rfl (hb hby at_66) rfl ((if0 _ _).trans (teq hc11).1) (by decide) (by decide) k) ?_
              show Go p.tables e below P T10 (mkF m 73 #[.val (.int pa), .val (.int pb), .val (.int v2_0), .val (.int v4_0), .val (.int v6_0), .val (.int v8_0), .val (.int v10_0), .unset, .unset, .unset, .unset, .unset, .unset, .unset] [])
              refine Go.via (fun t k => XS.iconst X10.here hx rfl (hb hby at_73) k) ?_
              exact J12 T10 _ (0 : Int32) (ownUp X10 (by decide) (by decide)) e10 N10 (if_pos hc11).symm
            · refine Go.via (fun t k => XS.ifNo X10.here hx rfl (hb hby at_66) rfl ((if0 _ _).trans (feq hc11).1) k) ?_
              show Go p.tables e below P T10 (mkF m 69 #[.val (.int pa), .val (.int pb), .val (.int v2_0), .val (.int v4_0), .val (.int v6_0), .val (.int v8_0), .val (.int v10_0), .unset, .unset, .unset, .unset, .unset, .unset, .unset] [])
              refine Go.via (fun t k => XS.iconst X10.here hx rfl (hb hby at_69) k) ?_
              show Go p.tables e below P T10 (mkF m 70 #[.val (.int pa), .val (.int pb), .val (.int v2_0), .val (.int v4_0), .val (.int v6_0), .val (.int v8_0), .val (.int v10_0), .unset, .unset, .unset, .unset, .unset, .unset, .unset] [(.int (1 : Int32))])
              refine Go.via (fun t k => XS.goto X10.here hx rfl (pc0 := 70) (pc' := 74) rfl (hb hby at_70) (by decide) (by decide) k) ?_
              exact J12 T10 _ (1 : Int32) (ownUp X10 (by decide) (by decide)) e10 N10 (if_neg hc11).symm
          by_cases hc9 : (pb &&& (2 : Int32)) = (0 : Int32)
          · refine Go.via (fun t k => XS.ifYes X8.here hx rfl (pc0 := 53) (pc' := 60) rfl (hb hby at_53) rfl ((if0 _ _).trans (teq hc9).1) (by decide) (by decide) k) ?_
            show Go p.tables e below P T8 (mkF m 60 #[.val (.int pa), .val (.int pb), .val (.int v2_0), .val (.int v4_0), .val (.int v6_0), .val (.int v8_0), .unset, .unset, .unset, .unset, .unset, .unset, .unset, .unset] [])
            refine Go.via (fun t k => XS.iconst X8.here hx rfl (hb hby at_60) k) ?_
            exact J10 T8 _ (0 : Int32) X8 e8 N8 (if_pos hc9).symm
          · refine Go.via (fun t k => XS.ifNo X8.here hx rfl (hb hby at_53) rfl ((if0 _ _).trans (feq hc9).1) k) ?_
            show Go p.tables e below P T8 (mkF m 56 #[.val (.int pa), .val (.int pb), .val (.int v2_0), .val (.int v4_0), .val (.int v6_0), .val (.int v8_0), .unset, .unset, .unset, .unset, .unset, .unset, .unset, .unset] [])
            refine Go.via (fun t k => XS.iconst X8.here hx rfl (hb hby at_56) k) ?_
            show Go p.tables e below P T8 (mkF m 57 #[.val (.int pa), .val (.int pb), .val (.int v2_0), .val (.int v4_0), .val (.int v6_0), .val (.int v8_0), .unset, .unset, .unset, .unset, .unset, .unset, .unset, .unset] [(.int (1 : Int32))])
            refine Go.via (fun t k => XS.goto X8.here hx rfl (pc0 := 57) (pc' := 61) rfl (hb hby at_57) (by decide) (by decide) k) ?_
            exact J10 T8 _ (1 : Int32) X8 e8 N8 (if_neg hc9).symm
        by_cases hc7 : (pb &&& (1 : Int32)) = (0 : Int32)
        · refine Go.via (fun t k => XS.ifYes X6.here hx rfl (pc0 := 40) (pc' := 47) rfl (hb hby at_40) rfl ((if0 _ _).trans (teq hc7).1) (by decide) (by decide) k) ?_
          show Go p.tables e below P T6 (mkF m 47 #[.val (.int pa), .val (.int pb), .val (.int v2_0), .val (.int v4_0), .val (.int v6_0), .unset, .unset, .unset, .unset, .unset, .unset, .unset, .unset, .unset] [])
          refine Go.via (fun t k => XS.iconst X6.here hx rfl (hb hby at_47) k) ?_
          exact J8 T6 _ (0 : Int32) X6 e6 N6 (if_pos hc7).symm
        · refine Go.via (fun t k => XS.ifNo X6.here hx rfl (hb hby at_40) rfl ((if0 _ _).trans (feq hc7).1) k) ?_
          show Go p.tables e below P T6 (mkF m 43 #[.val (.int pa), .val (.int pb), .val (.int v2_0), .val (.int v4_0), .val (.int v6_0), .unset, .unset, .unset, .unset, .unset, .unset, .unset, .unset, .unset] [])
          refine Go.via (fun t k => XS.iconst X6.here hx rfl (hb hby at_43) k) ?_
          show Go p.tables e below P T6 (mkF m 44 #[.val (.int pa), .val (.int pb), .val (.int v2_0), .val (.int v4_0), .val (.int v6_0), .unset, .unset, .unset, .unset, .unset, .unset, .unset, .unset, .unset] [(.int (1 : Int32))])
          refine Go.via (fun t k => XS.goto X6.here hx rfl (pc0 := 44) (pc' := 48) rfl (hb hby at_44) (by decide) (by decide) k) ?_
          exact J8 T6 _ (1 : Int32) X6 e6 N6 (if_neg hc7).symm
      by_cases hc5 : (pa &&& (4 : Int32)) = (0 : Int32)
      · refine Go.via (fun t k => XS.ifYes X4.here hx rfl (pc0 := 27) (pc' := 34) rfl (hb hby at_27) rfl ((if0 _ _).trans (teq hc5).1) (by decide) (by decide) k) ?_
        show Go p.tables e below P T4 (mkF m 34 #[.val (.int pa), .val (.int pb), .val (.int v2_0), .val (.int v4_0), .unset, .unset, .unset, .unset, .unset, .unset, .unset, .unset, .unset, .unset] [])
        refine Go.via (fun t k => XS.iconst X4.here hx rfl (hb hby at_34) k) ?_
        exact J6 T4 _ (0 : Int32) X4 e4 N4 (if_pos hc5).symm
      · refine Go.via (fun t k => XS.ifNo X4.here hx rfl (hb hby at_27) rfl ((if0 _ _).trans (feq hc5).1) k) ?_
        show Go p.tables e below P T4 (mkF m 30 #[.val (.int pa), .val (.int pb), .val (.int v2_0), .val (.int v4_0), .unset, .unset, .unset, .unset, .unset, .unset, .unset, .unset, .unset, .unset] [])
        refine Go.via (fun t k => XS.iconst X4.here hx rfl (hb hby at_30) k) ?_
        show Go p.tables e below P T4 (mkF m 31 #[.val (.int pa), .val (.int pb), .val (.int v2_0), .val (.int v4_0), .unset, .unset, .unset, .unset, .unset, .unset, .unset, .unset, .unset, .unset] [(.int (1 : Int32))])
        refine Go.via (fun t k => XS.goto X4.here hx rfl (pc0 := 31) (pc' := 35) rfl (hb hby at_31) (by decide) (by decide) k) ?_
        exact J6 T4 _ (1 : Int32) X4 e4 N4 (if_neg hc5).symm
    by_cases hc3 : (pa &&& (2 : Int32)) = (0 : Int32)
    · refine Go.via (fun t k => XS.ifYes X2.here hx rfl (pc0 := 15) (pc' := 22) rfl (hb hby at_15) rfl ((if0 _ _).trans (teq hc3).1) (by decide) (by decide) k) ?_
      show Go p.tables e below P T2 (mkF m 22 #[.val (.int pa), .val (.int pb), .val (.int v2_0), .unset, .unset, .unset, .unset, .unset, .unset, .unset, .unset, .unset, .unset, .unset] [])
      refine Go.via (fun t k => XS.iconst X2.here hx rfl (hb hby at_22) k) ?_
      exact J4 T2 _ (0 : Int32) X2 e2 N2 (if_pos hc3).symm
    · refine Go.via (fun t k => XS.ifNo X2.here hx rfl (hb hby at_15) rfl ((if0 _ _).trans (feq hc3).1) k) ?_
      show Go p.tables e below P T2 (mkF m 18 #[.val (.int pa), .val (.int pb), .val (.int v2_0), .unset, .unset, .unset, .unset, .unset, .unset, .unset, .unset, .unset, .unset, .unset] [])
      refine Go.via (fun t k => XS.iconst X2.here hx rfl (hb hby at_18) k) ?_
      show Go p.tables e below P T2 (mkF m 19 #[.val (.int pa), .val (.int pb), .val (.int v2_0), .unset, .unset, .unset, .unset, .unset, .unset, .unset, .unset, .unset, .unset, .unset] [(.int (1 : Int32))])
      refine Go.via (fun t k => XS.goto X2.here hx rfl (pc0 := 19) (pc' := 23) rfl (hb hby at_19) (by decide) (by decide) k) ?_
      exact J4 T2 _ (1 : Int32) X2 e2 N2 (if_neg hc3).symm
  by_cases hc1 : (pa &&& (1 : Int32)) = (0 : Int32)
  · refine Go.via (fun t k => XS.ifYes X0.here hx rfl (pc0 := 3) (pc' := 10) rfl (hb hby at_3) rfl ((if0 _ _).trans (teq hc1).1) (by decide) (by decide) k) ?_
    show Go p.tables e below P s₁ (mkF m 10 #[.val (.int pa), .val (.int pb), .unset, .unset, .unset, .unset, .unset, .unset, .unset, .unset, .unset, .unset, .unset, .unset] [])
    refine Go.via (fun t k => XS.iconst X0.here hx rfl (hb hby at_10) k) ?_
    exact J2 s₁ _ (0 : Int32) X0 e0 N0 (if_pos hc1).symm
  · refine Go.via (fun t k => XS.ifNo X0.here hx rfl (hb hby at_3) rfl ((if0 _ _).trans (feq hc1).1) k) ?_
    show Go p.tables e below P s₁ (mkF m 6 #[.val (.int pa), .val (.int pb), .unset, .unset, .unset, .unset, .unset, .unset, .unset, .unset, .unset, .unset, .unset, .unset] [])
    refine Go.via (fun t k => XS.iconst X0.here hx rfl (hb hby at_6) k) ?_
    show Go p.tables e below P s₁ (mkF m 7 #[.val (.int pa), .val (.int pb), .unset, .unset, .unset, .unset, .unset, .unset, .unset, .unset, .unset, .unset, .unset, .unset] [(.int (1 : Int32))])
    refine Go.via (fun t k => XS.goto X0.here hx rfl (pc0 := 7) (pc' := 11) rfl (hb hby at_7) (by decide) (by decide) k) ?_
    exact J2 s₁ _ (1 : Int32) X0 e0 N0 (if_neg hc1).symm
set_option maxRecDepth 65536 in
set_option maxHeartbeats 40000000 in
theorem comes_1 {Post : Tables → Env → Array Value → State → Outcome → State → Prop} (hpost : ∀ tb e args s v u, (limb_1_1.after args s (.returned v) u = true ∧ limb_1_2.after args s (.returned v) u = true ∧ True) → FrameEnd s (.returned v) u (Jvm.fieldLocs frame_1_writes args s ++ Jvm.arrayLocs frame_1_arrays args s ++ Jvm.staticLocs frame_1_statics s) 16 128 → Post tb e args s (.returned v) u) :
    ArmFor flags0 classFile x code maxLocals ret World_1 tables_1 room_1 Calls_1 rest_1 Pre_1 Post := by
  intro l hfl _ _ p e ha hc hk s m args below hf hA hF happ hP
  obtain ⟨hcalls, hrest, hpre⟩ := hP
  obtain ⟨-, -, -, hnamed, -, -, -, hat⟩ := (Spec.applies_iff hf).mp happ
  obtain ⟨hg, hn⟩ := and_e (Cond.before_iff.mp (show (Jvm.Cond.and given_1 narrow_1).before args s = true from hpre))
  obtain ⟨hv0, hr0⟩ := and_e hg
  obtain ⟨hv1, hr1⟩ := and_e hr0
  obtain ⟨w0, w1, rfl⟩ : ∃ w0 w1 : Value, args = #[w0, w1] := by
    have hs : args.size = 2 := by simpa [Cond.value, given_1] using hv0
    obtain ⟨L⟩ := args
    match L, hs with
    | [w0, w1], _ => exact ⟨w0, w1, rfl⟩
  have hw := fun d (hd : d ∈ tables_1) => atoms_spec (ws := Jvm.Cond.code x code maxLocals ret :: tables_1) hat d (List.mem_cons_of_mem _ hd)
  have hfit : Fit s := fun {y c} hc i hi => by
    obtain ⟨ha, rfl⟩ := Array.getElem?_eq_some_iff.mp hc
    have q := List.all_eq_true.mp ((Array.all_eq_true_iff_forall_mem.mp hF) _ (Array.getElem_mem ha)) i (List.mem_range.mpr hi)
    simpa [Array.getElem?_eq_getElem hi] using q
  obtain ⟨i0, ei0⟩ := is_v hv1
  obtain rfl : w0 = (.int i0) := Option.some.inj ei0
  obtain ⟨i1, ei1⟩ := is_v hr1
  obtain rfl : w1 = (.int i1) := Option.some.inj ei1
  obtain ⟨n, o, h1, h2, h3, _, L, rfl, ⟨rfl, N⟩, hq⟩ := rm0 l s _ hw tables_1 i0 i1 s.heap s.heap.size (Nat.le_refl _)  p e ha hc hk s m _ below hf ((Spec.applies_iff_loose hf).mp happ).1 ⟨rfl, State.Warmed39.refl s, rfl⟩ trivial
  refine ⟨n, _, h1, h2, h3, hpost _ _ _ _ _ _ ⟨Cond.after_iff.mpr rfl, Cond.after_iff.mpr (eq_i res_at (Term.int_eval (1)) rfl), trivial⟩ ⟨hq.1, hq.2.1, (hq.2.2.sift fun y hy => Or.inr (N y hy)).mono (by decide) (by decide)⟩⟩
theorem main_1_1 : Claimed_1_1 := comes_1 fun _ _ _ _ _ _ h hF => ⟨h.1, hF⟩
theorem main_1_2 : Claimed_1_2 := comes_1 fun _ _ _ _ _ _ h hF => ⟨h.2.1, hF⟩
end Jvm.Pilot.@@N@@
namespace Jvm.Pilot.@@N@@
open Jvm Jvm.ClassFile Sem Op Lib Jvm.Free Jvm.Stand Jvm.Pilot.@@N@@.Jvm.D
/-! MADE BY PROGRAM (witnessworld.py) out of the Statement's table words and the real class files: 9 classes; the members and pool entries that the words name. The judged class is class 1, her method 1. -/
namespace start1
open Jvm.ClassFile
def u (s : String) : CpInfo := .utf8 (stringToUtf16 s)
/-- a pool by its gaps: so many unusable entries, then the entry; so many at the end -/
def gap : Nat → List CpInfo → List CpInfo
  | 0, r => r
  | n + 1, r => .unusable :: gap n r
def poolList (es : List (Nat × CpInfo)) (last : Nat) : List CpInfo := es.foldr (fun e r => gap e.1 (e.2 :: r)) (gap last [])
def pool (es : List (Nat × CpInfo)) (last : Nat) : Array CpInfo := ⟨poolList es last⟩
def fileOf (pool : Array CpInfo) (this : Nat) (attrs : Array Attribute := #[]) (ms : Array MethodInfo := #[]) (fl : Nat := 33) (sup : Nat := 0) (ifs : Array Nat := #[]) (fds : Array FieldInfo := #[]) : ClassFile where
  minorVersion := 0
  majorVersion := 65
  constantPool := pool
  accessFlags := fl
  thisClass := this
  superClass := sup
  interfaces := ifs
  fields := fds
  methods := ms
  attributes := attrs
def plain (name : String) (sup : Option ClassId) : Class where
  name := name
  kind := .ordinary
  loader := none
  accessFlags := 33
  super := sup
  interfaces := #[]
  cf := none
  fields := #[]
  methods := #[]
  instanceTypes := #[]
  staticTypes := #[]
  resolved := #[]
  callSites := []
  init := .initialized
  statics := none
  mirror := none

def pool0 : Array CpInfo := pool [(5, u "<init>"), (0, u "()V"), (1, .class_ 10), (1, u "java/lang/Object")] 113

def k0c0 : Code := { maxStack := 0, maxLocals := 1, code := object_method_1_code, exceptionTable := #[], attributes := #[] }
def k0m0 : Method := { name := "<init>", desc := "()V", sig := { parameters := [], returnType := none }, accessFlags := 1, code := some k0c0 }
/-- java/lang/Object -/
def k0 : Class := { plain "java/lang/Object" none with
  accessFlags := 33
  interfaces := #[]
  cf := some (fileOf pool0 8 #[] #[{ accessFlags := 1, nameIndex := 5, descriptorIndex := 6, attributes := #[] }] 33 0 #[] #[])
  fields := #[]
  methods := #[k0m0]
  instanceTypes := #[]
  staticTypes := #[]
  resolved := Array.replicate 124 none
  statics := none }

def pool1 : Array CpInfo := pool [(2, .class_ 4), (1, u "java/lang/Object"), (0, u "<init>"), (0, u "()V"), (0, .class_ 8), (0, u "com/example/tri3/tri3/ItemShape"), (0, .methodref 7 10), (0, .nameAndType 5 11), (0, u "(ZZZ)V"), (0, .methodref 7 13), (0, .nameAndType 14 15), (0, u "with"), (0, u "(Lcom/example/tri3/tri3/ItemShape;)Lcom/example/tri3/tri3/ItemShape;"), (0, .methodref 7 17), (0, .nameAndType 18 19), (0, u "takesTurns"), (0, u "()Z"), (0, .methodref 7 21), (0, .nameAndType 22 19), (0, u "waitsForStages"), (0, .methodref 7 24), (0, .nameAndType 25 19), (0, u "sharesItem"), (0, .class_ 27), (0, u "com/example/tri3/tri3/ItemShapeWithPinLaw"), (2, u "law"), (0, u "(II)Z")] 3

def k1m0 : Method := { name := "<init>", desc := "()V", sig := { parameters := [], returnType := none }, accessFlags := 1, code := none }
def k1c1 : Code := { maxStack := 5, maxLocals := 14, code := code, exceptionTable := #[], attributes := #[] }
def k1m1 : Method := { name := "law", desc := "(II)Z", sig := { parameters := [.int, .int], returnType := some .boolean }, accessFlags := 9, code := some k1c1 }
/-- com/example/tri3/tri3/ItemShapeWithPinLaw -/
def k1 : Class := { plain "com/example/tri3/tri3/ItemShapeWithPinLaw" (some 0) with
  accessFlags := 49
  interfaces := #[]
  cf := some (fileOf pool1 26 #[] #[{ accessFlags := 1, nameIndex := 5, descriptorIndex := 6, attributes := #[] }, { accessFlags := 9, nameIndex := 30, descriptorIndex := 31, attributes := #[] }] 49 2 #[] #[])
  fields := #[]
  methods := #[k1m0, k1m1]
  instanceTypes := #[]
  staticTypes := #[]
  resolved := Array.replicate 35 none
  statics := none }

def pool2 : Array CpInfo := pool [(4, .class_ 6), (1, u "com/example/tri3/tri3/ItemShape"), (22, .methodref 4 30), (0, .nameAndType 31 32), (0, u "<init>"), (0, u "(ZZZ)V"), (0, .methodref 34 35), (0, .class_ 36), (0, .nameAndType 31 37), (0, u "java/lang/Object"), (0, u "()V"), (0, .fieldref 4 39), (0, .nameAndType 40 41), (0, u "takesTurns"), (0, u "Z"), (0, .fieldref 4 43), (0, .nameAndType 44 41), (0, u "waitsForStages"), (0, .fieldref 4 46), (0, .nameAndType 47 41), (0, u "sharesItem"), (8, u "PLAIN"), (0, u "Lcom/example/tri3/tri3/ItemShape;"), (8, u "()Z"), (0, u "with"), (0, u "(Lcom/example/tri3/tri3/ItemShape;)Lcom/example/tri3/tri3/ItemShape;")] 26

def k2c0 : Code := { maxStack := 2, maxLocals := 4, code := prog_11_method_5_code, exceptionTable := #[], attributes := #[] }
def k2m0 : Method := { name := "<init>", desc := "(ZZZ)V", sig := { parameters := [.boolean, .boolean, .boolean], returnType := none }, accessFlags := 0, code := some k2c0 }
def k2c1 : Code := { maxStack := 1, maxLocals := 1, code := prog_11_method_6_code, exceptionTable := #[], attributes := #[] }
def k2m1 : Method := { name := "takesTurns", desc := "()Z", sig := { parameters := [], returnType := some .boolean }, accessFlags := 0, code := some k2c1 }
def k2c2 : Code := { maxStack := 1, maxLocals := 1, code := prog_11_method_7_code, exceptionTable := #[], attributes := #[] }
def k2m2 : Method := { name := "waitsForStages", desc := "()Z", sig := { parameters := [], returnType := some .boolean }, accessFlags := 0, code := some k2c2 }
def k2c3 : Code := { maxStack := 1, maxLocals := 1, code := prog_11_method_8_code, exceptionTable := #[], attributes := #[] }
def k2m3 : Method := { name := "sharesItem", desc := "()Z", sig := { parameters := [], returnType := some .boolean }, accessFlags := 0, code := some k2c3 }
def k2c4 : Code := { maxStack := 5, maxLocals := 2, code := prog_11_method_9_code, exceptionTable := #[], attributes := #[] }
def k2m4 : Method := { name := "with", desc := "(Lcom/example/tri3/tri3/ItemShape;)Lcom/example/tri3/tri3/ItemShape;", sig := { parameters := [(.object "com/example/tri3/tri3/ItemShape")], returnType := some (.object "com/example/tri3/tri3/ItemShape") }, accessFlags := 0, code := some k2c4 }
/-- com/example/tri3/tri3/ItemShape -/
def k2 : Class := { plain "com/example/tri3/tri3/ItemShape" (some 0) with
  accessFlags := 48
  interfaces := #[]
  cf := some (fileOf pool2 4 #[] #[{ accessFlags := 0, nameIndex := 31, descriptorIndex := 32, attributes := #[] }, { accessFlags := 0, nameIndex := 40, descriptorIndex := 66, attributes := #[] }, { accessFlags := 0, nameIndex := 44, descriptorIndex := 66, attributes := #[] }, { accessFlags := 0, nameIndex := 47, descriptorIndex := 66, attributes := #[] }, { accessFlags := 0, nameIndex := 67, descriptorIndex := 68, attributes := #[] }] 48 34 #[] #[{ accessFlags := 24, nameIndex := 56, descriptorIndex := 57, attributes := #[] }, { accessFlags := 18, nameIndex := 40, descriptorIndex := 41, attributes := #[] }, { accessFlags := 18, nameIndex := 44, descriptorIndex := 41, attributes := #[] }, { accessFlags := 18, nameIndex := 47, descriptorIndex := 41, attributes := #[] }])
  fields := #[{ name := "PLAIN", type := (.object "com/example/tri3/tri3/ItemShape"), accessFlags := 24, slot := 0, constantValue := 0 }, { name := "takesTurns", type := .boolean, accessFlags := 18, slot := 0, constantValue := 0 }, { name := "waitsForStages", type := .boolean, accessFlags := 18, slot := 1, constantValue := 0 }, { name := "sharesItem", type := .boolean, accessFlags := 18, slot := 2, constantValue := 0 }]
  methods := #[k2m0, k2m1, k2m2, k2m3, k2m4]
  instanceTypes := #[.boolean, .boolean, .boolean]
  staticTypes := #[(.object "com/example/tri3/tri3/ItemShape")]
  resolved := Array.replicate 95 none
  statics := none }

def pool3 : Array CpInfo := pool [(1, u "java/lang/Cloneable"), (0, .class_ 1), (0, u "java/lang/Object"), (0, .class_ 3)] 3

/-- java/lang/Cloneable -/
def k3 : Class := { plain "java/lang/Cloneable" (some 0) with
  accessFlags := 1537
  interfaces := #[]
  cf := some (fileOf pool3 2 #[] #[] 1537 4 #[] #[])
  fields := #[]
  methods := #[]
  instanceTypes := #[]
  staticTypes := #[]
  resolved := Array.replicate 8 none
  statics := none }

def pool4 : Array CpInfo := pool [(1, u "java/io/Serializable"), (0, .class_ 1), (0, u "java/lang/Object"), (0, .class_ 3)] 3

/-- java/io/Serializable -/
def k4 : Class := { plain "java/io/Serializable" (some 0) with
  accessFlags := 1537
  interfaces := #[]
  cf := some (fileOf pool4 2 #[] #[] 1537 4 #[] #[])
  fields := #[]
  methods := #[]
  instanceTypes := #[]
  staticTypes := #[]
  resolved := Array.replicate 8 none
  statics := none }

/-- the primitive byte -/
def k5 : Class := { plain "byte" none with kind := .primitive 'B', accessFlags := 0x411 }
/-- [B -/
def k6 : Class := { plain "[B" (some 0) with kind := .array 5 .byte, interfaces := #[3, 4], accessFlags := 1041 }

/-- the primitive int -/
def k7 : Class := { plain "int" none with kind := .primitive 'I', accessFlags := 0x411 }
/-- [I -/
def k8 : Class := { plain "[I" (some 0) with kind := .array 7 .int, interfaces := #[3, 4], accessFlags := 1041 }

def heap : Heap := #[]
def classes : Array Class := #[k0, k1, k2, k3, k4, k5, k6, k7, k8]
def interned : List (Array UInt16 × Addr) := []
def slotsUsed : Nat := 0
def theMethod : MethodId := ⟨1, 1⟩
def args0 : Array Value := #[.int 5, .int 7]
def aboutOver (below : List Frame) : State where
  vm := { classes := classes, interned := interned.toArray }
  heap := heap
  slotsUsed := slotsUsed
  threads := #[{ frames := .invoking theMethod args0 :: below }]
def below0 : List Frame := [.native { method := ⟨0, 0⟩, args := #[] }]
def about1 : State := aboutOver below0
def p0 : Program := .bare "" "" ""
def e0 : Env := launch0.env 0 0 0
theorem w_frames : about1.frames = Frame.invoking theMethod args0 :: below0 := rfl
set_option maxRecDepth 65536 in
theorem w_args : argsFit about1.vm theMethod args0 = true := by decide +kernel
set_option maxRecDepth 65536 in
theorem w_heap : heapFits about1 = true := by decide +kernel
set_option maxRecDepth 65536 in
theorem w_runnable : about1.curStatus? = some .runnable := by decide +kernel
set_option maxRecDepth 65536 in
theorem w_alone : about1.alone = true := by decide +kernel
set_option maxRecDepth 65536 in
theorem w_named : about1.methodNamed? x = some theMethod := by decide +kernel
set_option maxRecDepth 65536 in
theorem w_hears : about1.hears theMethod below0 = true := by decide +kernel
set_option maxRecDepth 65536 in
theorem w_ripe : about1.ripe theMethod args0 below0 = true := by decide +kernel
theorem w_running : about1.status = .running := rfl
set_option maxRecDepth 65536 in
theorem w_room : about1.hasRoom e0.platform room_1 = true :=
  launch0.hasRoom_least _ room_1 (by decide +kernel) (by decide +kernel) (by decide +kernel) (by decide +kernel) (by decide +kernel) (by decide +kernel)
theorem allAtoms_all (ts : List Jvm.Cond) (a : Array Jvm.Value) (st : Jvm.State) : (allAtoms ts).before a st = ts.all (fun c => c.before a st) := by
  induction ts with
  | nil => rfl
  | cons c t ih =>
    show (Jvm.Cond.and c (allAtoms t)).before a st = _
    rw [Jvm.Cond.before_and, ih, List.all_cons]
def words1 : List Jvm.Cond := Jvm.Cond.code x code maxLocals ret :: tables_1
/-- a 'code' word, met by the world's own term for the bytes: nothing is compared byte by byte -/
theorem code_word {y : MethodName} {bytes : ByteArray} {mx : Nat} {rt : Option FieldType} {a : Array Value} {s : State} {m : MethodId} {meth : Method} {c : Code} (h1 : s.methodNamed? y = some m) (h2 : s.vm.method? m = some meth) (h3 : meth.code = some c) (h4 : c.code = bytes)
    (h5 : (c.maxLocals == mx && c.exceptionTable.isEmpty && decide (c.maxStack ≤ mostOperands) && decide (meth.sig.returnType = rt) && !meth.locks && decide (parseMethodDescriptor y.desc = some meth.sig)) = true) : (Jvm.Cond.code y bytes mx rt).before a s = true := by
  simp only [Bool.and_eq_true, beq_iff_eq, Bool.not_eq_true', decide_eq_true_eq] at h5
  obtain ⟨⟨⟨⟨⟨g1, g2⟩, g3⟩, g4⟩, g5⟩, g6⟩ := h5
  simp [Cond.before, Cond.holds, Cond.value, h1, h2, h3, h4, g1, g2, g3, g4, g5, g6]
def isCode : Jvm.Cond → Bool
  | .code _ _ _ _ => true
  | _ => false
theorem all_split {L : List Jvm.Cond} {P : Jvm.Cond → Bool} (h1 : L.all (fun c => isCode c || P c) = true) (h2 : ∀ c ∈ L.filter isCode, P c = true) : L.all P = true := by
  refine List.all_eq_true.mpr fun c hc => ?_
  have h := List.all_eq_true.mp h1 c hc
  rcases Bool.eq_false_or_eq_true (isCode c) with hi | hi
  · exact h2 c (List.mem_filter.mpr ⟨hc, hi⟩)
  · simpa [hi] using h
set_option maxRecDepth 65536 in
theorem w_c0 : (Jvm.Cond.code x code maxLocals ret).before args0 about1 = true := code_word (m := ⟨1, 1⟩) (meth := k1m1) (c := k1c1) (by decide +kernel) rfl rfl rfl (by decide +kernel)
set_option maxRecDepth 65536 in
theorem w_c1 : (Jvm.Cond.code ({ cls := "com/example/tri3/tri3/ItemShape", name := "<init>", desc := "(ZZZ)V" } : Jvm.MethodName) prog_11_method_5_code (4 : Nat) (Option.none : Option Jvm.ClassFile.FieldType)).before args0 about1 = true := code_word (m := ⟨2, 0⟩) (meth := k2m0) (c := k2c0) (by decide +kernel) rfl rfl rfl (by decide +kernel)
set_option maxRecDepth 65536 in
theorem w_c2 : (Jvm.Cond.code ({ cls := "java/lang/Object", name := "<init>", desc := "()V" } : Jvm.MethodName) object_method_1_code (1 : Nat) (Option.none : Option Jvm.ClassFile.FieldType)).before args0 about1 = true := code_word (m := ⟨0, 0⟩) (meth := k0m0) (c := k0c0) (by decide +kernel) rfl rfl rfl (by decide +kernel)
set_option maxRecDepth 65536 in
theorem w_c3 : (Jvm.Cond.code ({ cls := "com/example/tri3/tri3/ItemShape", name := "with", desc := "(Lcom/example/tri3/tri3/ItemShape;)Lcom/example/tri3/tri3/ItemShape;" } : Jvm.MethodName) prog_11_method_9_code (2 : Nat) (Option.some (Jvm.ClassFile.FieldType.object "com/example/tri3/tri3/ItemShape"))).before args0 about1 = true := code_word (m := ⟨2, 4⟩) (meth := k2m4) (c := k2c4) (by decide +kernel) rfl rfl rfl (by decide +kernel)
set_option maxRecDepth 65536 in
theorem w_c4 : (Jvm.Cond.code ({ cls := "com/example/tri3/tri3/ItemShape", name := "takesTurns", desc := "()Z" } : Jvm.MethodName) prog_11_method_6_code (1 : Nat) (Option.some Jvm.ClassFile.FieldType.boolean)).before args0 about1 = true := code_word (m := ⟨2, 1⟩) (meth := k2m1) (c := k2c1) (by decide +kernel) rfl rfl rfl (by decide +kernel)
set_option maxRecDepth 65536 in
theorem w_c5 : (Jvm.Cond.code ({ cls := "com/example/tri3/tri3/ItemShape", name := "waitsForStages", desc := "()Z" } : Jvm.MethodName) prog_11_method_7_code (1 : Nat) (Option.some Jvm.ClassFile.FieldType.boolean)).before args0 about1 = true := code_word (m := ⟨2, 2⟩) (meth := k2m2) (c := k2c2) (by decide +kernel) rfl rfl rfl (by decide +kernel)
set_option maxRecDepth 65536 in
theorem w_c6 : (Jvm.Cond.code ({ cls := "com/example/tri3/tri3/ItemShape", name := "sharesItem", desc := "()Z" } : Jvm.MethodName) prog_11_method_8_code (1 : Nat) (Option.some Jvm.ClassFile.FieldType.boolean)).before args0 about1 = true := code_word (m := ⟨2, 3⟩) (meth := k2m3) (c := k2c3) (by decide +kernel) rfl rfl rfl (by decide +kernel)
def codes1 : List Jvm.Cond := [Jvm.Cond.code x code maxLocals ret, Jvm.Cond.code ({ cls := "com/example/tri3/tri3/ItemShape", name := "<init>", desc := "(ZZZ)V" } : Jvm.MethodName) prog_11_method_5_code (4 : Nat) (Option.none : Option Jvm.ClassFile.FieldType), Jvm.Cond.code ({ cls := "java/lang/Object", name := "<init>", desc := "()V" } : Jvm.MethodName) object_method_1_code (1 : Nat) (Option.none : Option Jvm.ClassFile.FieldType), Jvm.Cond.code ({ cls := "com/example/tri3/tri3/ItemShape", name := "with", desc := "(Lcom/example/tri3/tri3/ItemShape;)Lcom/example/tri3/tri3/ItemShape;" } : Jvm.MethodName) prog_11_method_9_code (2 : Nat) (Option.some (Jvm.ClassFile.FieldType.object "com/example/tri3/tri3/ItemShape")), Jvm.Cond.code ({ cls := "com/example/tri3/tri3/ItemShape", name := "takesTurns", desc := "()Z" } : Jvm.MethodName) prog_11_method_6_code (1 : Nat) (Option.some Jvm.ClassFile.FieldType.boolean), Jvm.Cond.code ({ cls := "com/example/tri3/tri3/ItemShape", name := "waitsForStages", desc := "()Z" } : Jvm.MethodName) prog_11_method_7_code (1 : Nat) (Option.some Jvm.ClassFile.FieldType.boolean), Jvm.Cond.code ({ cls := "com/example/tri3/tri3/ItemShape", name := "sharesItem", desc := "()Z" } : Jvm.MethodName) prog_11_method_8_code (1 : Nat) (Option.some Jvm.ClassFile.FieldType.boolean)]
set_option maxRecDepth 65536 in
theorem codes_eq : words1.filter isCode = codes1 := rfl
theorem w_codes : ∀ c ∈ words1.filter isCode, c.before args0 about1 = true := by
  rw [codes_eq]
  intro c hc
  simp only [codes1, List.mem_cons, List.not_mem_nil, or_false] at hc
  rcases hc with rfl | rfl | rfl | rfl | rfl | rfl | rfl
  · exact w_c0
  · exact w_c1
  · exact w_c2
  · exact w_c3
  · exact w_c4
  · exact w_c5
  · exact w_c6
set_option maxRecDepth 65536 in
theorem w_t1 : (words1.take 24).all (fun c => isCode c || c.before args0 about1) = true := by decide +kernel
set_option maxRecDepth 65536 in
theorem w_t2 : (words1.drop 24).all (fun c => isCode c || c.before args0 about1) = true := by decide +kernel
theorem w_tables : (allAtoms (Jvm.Cond.code x code maxLocals ret :: tables_1)).before args0 about1 = true := by
  rw [allAtoms_all]
  show words1.all (fun c => c.before args0 about1) = true
  refine all_split ?_ w_codes
  rw [← List.take_append_drop 24 words1, List.all_append, w_t1, w_t2]
  rfl
set_option maxRecDepth 65536 in
theorem w_case : (Jvm.Cond.and given_1 narrow_1).before args0 about1 = true := by decide +kernel
theorem w_applies : (headSpec (Jvm.Cond.code x code maxLocals ret :: tables_1) room_1).applies x e0.platform about1 = true :=
  (Spec.applies_iff w_frames).mpr ⟨w_running, w_runnable, w_alone, w_named, w_hears, w_ripe, w_room, w_tables⟩
theorem atStart : AtStart classFile x code maxLocals ret World_1 tables_1 room_1 Calls_1 rest_1 Pre_1 launch0 p0 e0 about1 theMethod args0 below0 :=
  ⟨lists_1, trivial, launch0.admits_env _ _ _, launch0.least_env, fairChoices_fair.cas, fairChoices_fair.clock, w_frames, w_args, w_heap, w_applies, trivial, trivial, w_case⟩
end start1
theorem witness_1 : WitnessClaimed_1 := ⟨start1.p0, start1.e0, start1.about1, start1.theMethod, start1.args0, start1.below0, start1.atStart⟩
end Jvm.Pilot.@@N@@
