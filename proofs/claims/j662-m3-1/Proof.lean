import JvmDerived
import JvmDerived.Pilot.@@N@@Statement
import JvmDerived.Pilot.@@N@@Code
set_option linter.unusedVariables false
set_option linter.unusedSimpArgs false
namespace Jvm.RoadKit
open Sem ClassFile Op Lib Jvm.Stand Jvm.Free Jvm.LawKit
section Own
variable {p : Program} {l : Launch} {e : Env} {R : Room} {s : State} {m : MethodId} {args : Array Value} {below : List Frame} {meth : Method} {c : Code} {T : State} {locs : List Loc} {cells slots : Nat}
theorem retI (X : Stand p l e R s m args below meth c T locs cells slots) (hx : p.tables.exec = Jvm.exec) {pc : Nat} {Ls : Array Slot} {z : Int32} {rest : List Value} (hret : meth.sig.returnType = some .int) (hd : decode c.code pc = .ok (.ireturn, 1)) {fs : List Frame}
    (hl : ∀ (f : JFrame) (acts : List Action), f.method = m → f.locked = none → f.entered = [] → (doReturn e (T.setTop f) acts (some (.int z))).1 = T.setFrames fs) : Steps p.tables e below (T.setTop (mkF m pc Ls (.int z :: rest))) (T.setFrames fs) :=
  retOut X hx hret rfl (Or.inl ⟨rfl, Or.inl rfl, _, rfl⟩) hd hl
theorem retJ (X : Stand p l e R s m args below meth c T locs cells slots) (hx : p.tables.exec = Jvm.exec) {pc : Nat} {Ls : Array Slot} {z : Int64} {rest : List Value} (hret : meth.sig.returnType = some .long) (hd : decode c.code pc = .ok (.lreturn, 1)) {fs : List Frame}
    (hl : ∀ (f : JFrame) (acts : List Action), f.method = m → f.locked = none → f.entered = [] → (doReturn e (T.setTop f) acts (some (.long z))).1 = T.setFrames fs) : Steps p.tables e below (T.setTop (mkF m pc Ls (.long z :: rest))) (T.setFrames fs) :=
  retOut X hx hret rfl (Or.inr (Or.inl ⟨rfl, rfl, _, rfl⟩)) hd hl
theorem retA (X : Stand p l e R s m args below meth c T locs cells slots) (hx : p.tables.exec = Jvm.exec) {pc : Nat} {Ls : Array Slot} {t : FieldType} {z : Value} {rest : List Value} (hret : meth.sig.returnType = some t) (hn : narrow t z = z) (ht : t.isReference = true) (hz : z.isRef = true) (hd : decode c.code pc = .ok (.areturn, 1)) {fs : List Frame}
    (hl : ∀ (f : JFrame) (acts : List Action), f.method = m → f.locked = none → f.entered = [] → (doReturn e (T.setTop f) acts (some z)).1 = T.setFrames fs) : Steps p.tables e below (T.setTop (mkF m pc Ls (z :: rest))) (T.setFrames fs) :=
  retOut X hx hret hn (Or.inr (Or.inr (Or.inr (Or.inr ⟨rfl, ht, hz⟩)))) hd hl
theorem retZ (X : Stand p l e R s m args below meth c T locs cells slots) (hx : p.tables.exec = Jvm.exec) {pc : Nat} {Ls : Array Slot} {z r : Int32} {t : FieldType} {rest : List Value} (hret : meth.sig.returnType = some t) (ht : t = .boolean ∨ t = .byte ∨ t = .char ∨ t = .short)
    (hd : decode c.code pc = .ok (.ireturn, 1)) (hn : nar t z = r) {fs : List Frame} (hl : ∀ (f : JFrame) (acts : List Action), f.method = m → f.locked = none → f.entered = [] → (doReturn e (T.setTop f) acts (some (.int r))).1 = T.setFrames fs) :
    Steps p.tables e below (T.setTop (mkF m pc Ls (.int z :: rest))) (T.setFrames fs) := retN X hx hret ht hd (by rw [hn]; exact hl)
theorem ownUp (X : Stand p l e R s m args below meth c T locs cells slots) {cells' slots' : Nat} (h1 : cells ≤ cells') (h2 : slots ≤ slots') : Stand p l e R s m args below meth c T locs cells' slots' :=
  ⟨X.admits, X.cas, X.clock, X.frames, X.room, X.hears, X.method, X.code, X.here, X.tail, X.warmed, X.limits, X.bytes, X.same.mono h1 h2⟩
theorem own_hide (X : Stand p l e R s m args below meth c T locs cells slots) {n0 : Nat} (N : Fr n0 locs) : ∃ L, Stand p l e R s m args below meth c T L cells slots ∧ Fr n0 L := ⟨_, X, N⟩
end Own
def Go (tb : Tables) (e : Env) (below : List Frame) (P : Outcome → State → Prop) (T : State) (f : JFrame) : Prop :=
  ∃ s₂ o, Steps tb e below (T.setTop f) s₂ ∧ s₂.status = .running ∧ Ended s₂ below o ∧ P o s₂
theorem Go.via {tb : Tables} {e : Env} {below : List Frame} {P : Outcome → State → Prop} {T T' : State} {f f' : JFrame} (st : ∀ t, Steps tb e below (T'.setTop f') t → Steps tb e below (T.setTop f) t) (k : Go tb e below P T' f') : Go tb e below P T f := by
  obtain ⟨s₂, o, h, r⟩ := k; exact ⟨s₂, o, st _ h, r⟩
theorem Go.hop {tb : Tables} {e : Env} {below : List Frame} {P : Outcome → State → Prop} {T T' : State} {f f' : JFrame} (st : Steps tb e below (T.setTop f) (T'.setTop f')) (k : Go tb e below P T' f') : Go tb e below P T f := by
  obtain ⟨s₂, o, h, r⟩ := k; exact ⟨s₂, o, st.trans h, r⟩
theorem own_nin0 {a : Addr} : a ∉ ([] : List Addr) := fun q => nomatch q
theorem own_ninC {a b : Addr} {l : List Addr} (h : a ≠ b) (h' : a ∉ l) : a ∉ b :: l := fun q => (List.mem_cons.mp q).elim h h'
theorem own_nb {x : Int32} (h : x = 0 ∨ x = 1) : nar .boolean x = x := by rcases h with rfl | rfl <;> rfl
theorem own_nnb {x : Int32} (h : x = 0 ∨ x = 1) : narrow .boolean (.int x) = .int x := by rcases h with rfl | rfl <;> rfl
theorem own_fb {x : Int32} (h : x = 0 ∨ x = 1) : fits .boolean (.int x) = true := by rcases h with rfl | rfl <;> rfl
theorem own_all0 {P : Addr → Prop} : ∀ x ∈ ([] : List Addr), P x := fun _ q => nomatch q
theorem own_allC {P : Addr → Prop} {a : Addr} {l : List Addr} (h : P a) (h' : ∀ x ∈ l, P x) : ∀ x ∈ a :: l, P x := fun x q => (List.mem_cons.mp q).elim (fun e => e ▸ h) (h' x)
theorem own_dc0 : FP.dconst0 = FP.l2d (0 : Int64) := by decide +kernel
theorem own_dc1 : FP.dconst1 = FP.l2d (1 : Int64) := by decide +kernel
theorem own_m0 {k : Int32} : ∀ p ∈ ([] : List (Int × Int)), p.1 ≠ k.toInt := fun _ q => nomatch q
theorem own_mC {k x : Int32} {a o : Int} {l : List (Int × Int)} (h : ¬ k = x) (hx : x.toInt = a) (t : ∀ p ∈ l, p.1 ≠ k.toInt) : ∀ p ∈ (a, o) :: l, p.1 ≠ k.toInt := fun p q => (List.mem_cons.mp q).elim (fun e r => h (Int32.toInt_inj.mp (by rw [hx, ← r, e]))) (t p)
theorem own_cat {v : Value} (h : v.isRef = true) : v.category = 1 := by rcases ref_cases h with rfl | ⟨a, rfl⟩ <;> rfl
theorem own_nat {n : Nat} (h : n < 2147483648) : n.toInt32.toInt = n := len_toInt h
theorem own_ltN {i n : Nat} (hi : i < 2147483648) (hn : n < 2147483648) : i.toInt32 < n.toInt32 ↔ i < n := by
  rw [Int32.lt_iff_toInt_lt, own_nat hi, own_nat hn]; omega
theorem own_succ (i : Nat) : i.toInt32 + 1 = (i + 1).toInt32 := (Int32.ofNat_add i 1).symm
theorem own_nneg {i : Nat} (hi : i < 2147483648) : ¬ i.toInt32 < 0 := by
  rw [Int32.lt_iff_toInt_lt, own_nat hi]; simp
theorem own_clamp {i : Nat} (hi : i < 2147483648) : i.toInt32.toNatClampNeg = i := by
  show i.toInt32.toInt.toNat = i
  rw [own_nat hi]; rfl
end Jvm.RoadKit
namespace Jvm.Pilot.@@N@@
open Jvm Jvm.ClassFile Sem Op Lib Jvm.Free Jvm.Stand Jvm.LawKit Jvm.RoadKit Bundle Jvm.Pilot.@@N@@.Jvm.D
theorem own_g {Z : State} {a0 : Array Value} {d : Jvm.Cond} (hw : ∀ d ∈ tables_1, d.before a0 Z = true) (i : Nat) (h : tables_1[i]? = some d) : d.before a0 Z = true := hw _ (List.mem_of_getElem? h)
theorem gv {tb : Tables} {e : Env} {below : List Frame} {P : Outcome → State → Prop} {T T' : State} {f f' : JFrame} (st : ∀ t, Steps tb e below (T'.setTop f') t → Steps tb e below (T.setTop f) t) (k : Go tb e below P T' f') : Go tb e below P T f := Go.via st k
abbrev vr (a : Addr) : Slot := .val (.ref a)
abbrev vi (x : Int32) : Slot := .val (.int x)
abbrev vj (x : Int64) : Slot := .val (.long x)
abbrev vu : Slot := .unset
abbrev v2 : Slot := .second
abbrev BLn : String := "com/example/criba/criba/index/BlockLayout"
abbrev LWn : String := "com/example/criba/criba/index/BlockLayoutKeyPinLaw"
abbrev D0 (n : Nat) (i : Instr) (k : Nat) : Prop := decode jdk_29_method_69_code n = .ok (i, k)
abbrev D1 (n : Nat) (i : Instr) (k : Nat) : Prop := decode method_3_code n = .ok (i, k)
abbrev D2 (n : Nat) (i : Instr) (k : Nat) : Prop := decode method_4_code n = .ok (i, k)
abbrev D3 (n : Nat) (i : Instr) (k : Nat) : Prop := decode method_5_code n = .ok (i, k)
abbrev D4 (n : Nat) (i : Instr) (k : Nat) : Prop := decode prog_1_method_18_code n = .ok (i, k)
abbrev D5 (n : Nat) (i : Instr) (k : Nat) : Prop := decode jdk_35_method_50_code n = .ok (i, k)
abbrev D6 (n : Nat) (i : Instr) (k : Nat) : Prop := decode jdk_33_method_48_code n = .ok (i, k)
abbrev D7 (n : Nat) (i : Instr) (k : Nat) : Prop := decode jdk_35_method_49_code n = .ok (i, k)
abbrev D8 (n : Nat) (i : Instr) (k : Nat) : Prop := decode jdk_33_method_47_code n = .ok (i, k)
abbrev D9 (n : Nat) (i : Instr) (k : Nat) : Prop := decode jdk_35_method_48_code n = .ok (i, k)
abbrev D10 (n : Nat) (i : Instr) (k : Nat) : Prop := decode jdk_35_method_46_code n = .ok (i, k)
abbrev D11 (n : Nat) (i : Instr) (k : Nat) : Prop := decode jdk_35_method_42_code n = .ok (i, k)
abbrev D12 (n : Nat) (i : Instr) (k : Nat) : Prop := decode jdk_35_method_43_code n = .ok (i, k)
abbrev D13 (n : Nat) (i : Instr) (k : Nat) : Prop := decode prog_1_method_19_code n = .ok (i, k)
abbrev D14 (n : Nat) (i : Instr) (k : Nat) : Prop := decode prog_1_method_16_code n = .ok (i, k)
abbrev D15 (n : Nat) (i : Instr) (k : Nat) : Prop := decode prog_1_method_17_code n = .ok (i, k)
abbrev D16 (n : Nat) (i : Instr) (k : Nat) : Prop := decode jdk_65_method_123_code n = .ok (i, k)
abbrev D17 (n : Nat) (i : Instr) (k : Nat) : Prop := decode prog_1_method_15_code n = .ok (i, k)
abbrev D18 (n : Nat) (i : Instr) (k : Nat) : Prop := decode prog_1_method_14_code n = .ok (i, k)
abbrev D19 (n : Nat) (i : Instr) (k : Nat) : Prop := decode prog_1_method_10_code n = .ok (i, k)
abbrev D20 (n : Nat) (i : Instr) (k : Nat) : Prop := decode prog_1_method_2_code n = .ok (i, k)
theorem own_stI {p : Program} {l : Launch} {e : Env} {R : Room} {s : State} {m : MethodId} {args : Array Value} {below : List Frame} {meth : Method} {c : Code} {T : State} {locs : List Loc} {cells slots : Nat} {Z : State} {h h0 : Heap} {ws : List Addr} {n0 : Nat} {a : Addr} {k : ClassId} {z : Int32} {vs : List Value} {dv : Value}
    (X : Stand p l e R s m args below meth c T locs cells slots) (hx : p.tables.exec = Jvm.exec) (hZ : Z.Warmed39 s.vm) (eT : T.heap = h) (F : Arv Z h a k .int z vs dv) (N : Fr n0 locs) (Zp : n0 ≤ h.size) (K : Keep h0 h ws) (ga : n0 ≤ a) (wq : a ∈ ws ∨ h0.size ≤ a)
    {j : Int32} {x : Int32} (bd : ¬ j < 0 ∧ j < z) {ji : Nat} (jp : j.toNatClampNeg = ji) (il : ji < vs.length) {g : JFrame} (hg : g.method = m) {rest : List Value} (hs : g.stack = .int x :: .int j :: .ref a :: rest) (hd : decode c.code g.pc = .ok (.iastore, 1)) :
    ∃ T' h' L', Stand p l e R s m args below meth c T' L' cells slots ∧ T'.heap = h' ∧ Fr n0 L' ∧ n0 ≤ h'.size ∧ Keep h0 h' ws ∧ Wr h h' a j.toNatClampNeg (.int x) ∧ Arv Z h' a k .int z (vs.set ji (.int x)) dv ∧ ∀ target, Steps p.tables e below (T'.setTop { g with pc := g.pc + 1, stack := rest }) target → Steps p.tables e below (T.setTop g) target := by
  obtain ⟨c1, A, q, S, Nn, H, G⟩ := F
  obtain ⟨T', h', X', e', W, st⟩ := stI X hx hZ eT A (inb_of S bd) hg hs hd
  exact ⟨T', h', _, X', e', Fr.snoc X' N ga, Nat.le_trans Zp (Nat.le_of_eq W.size.symm), K.wr W wq, W, Arv.set A q S Nn H G rfl W ji jp il, st⟩
theorem own_stJ {p : Program} {l : Launch} {e : Env} {R : Room} {s : State} {m : MethodId} {args : Array Value} {below : List Frame} {meth : Method} {c : Code} {T : State} {locs : List Loc} {cells slots : Nat} {Z : State} {h h0 : Heap} {ws : List Addr} {n0 : Nat} {a : Addr} {k : ClassId} {z : Int32} {vs : List Value} {dv : Value}
    (X : Stand p l e R s m args below meth c T locs cells slots) (hx : p.tables.exec = Jvm.exec) (hZ : Z.Warmed39 s.vm) (eT : T.heap = h) (F : Arv Z h a k .long z vs dv) (N : Fr n0 locs) (Zp : n0 ≤ h.size) (K : Keep h0 h ws) (ga : n0 ≤ a) (wq : a ∈ ws ∨ h0.size ≤ a)
    {j : Int32} {x : Int64} (bd : ¬ j < 0 ∧ j < z) {ji : Nat} (jp : j.toNatClampNeg = ji) (il : ji < vs.length) {g : JFrame} (hg : g.method = m) {rest : List Value} (hs : g.stack = .long x :: .int j :: .ref a :: rest) (hd : decode c.code g.pc = .ok (.lastore, 1)) :
    ∃ T' h' L', Stand p l e R s m args below meth c T' L' cells slots ∧ T'.heap = h' ∧ Fr n0 L' ∧ n0 ≤ h'.size ∧ Keep h0 h' ws ∧ Wr h h' a j.toNatClampNeg (.long x) ∧ Arv Z h' a k .long z (vs.set ji (.long x)) dv ∧ ∀ target, Steps p.tables e below (T'.setTop { g with pc := g.pc + 1, stack := rest }) target → Steps p.tables e below (T.setTop g) target := by
  obtain ⟨c1, A, q, S, Nn, H, G⟩ := F
  obtain ⟨T', h', X', e', W, st⟩ := stJ X hx hZ eT A (inb_of S bd) hg hs hd
  exact ⟨T', h', _, X', e', Fr.snoc X' N ga, Nat.le_trans Zp (Nat.le_of_eq W.size.symm), K.wr W wq, W, Arv.set A q S Nn H G rfl W ji jp il, st⟩
def own_mn (x y : Int32) : Int32 := if y < x then y else x
def own_w (B i : Int32) : Int32 := ((64 : Int32) / B) + (if i < ((64 : Int32) % B) then (1 : Int32) else (0 : Int32))
def own_sh (B i : Int32) : Int32 := (((64 : Int32) - ((i + (1 : Int32)) * ((64 : Int32) / B))) - (own_mn (i + (1 : Int32)) ((64 : Int32) % B)))
def own_us (x : Int64) (z : Int32) : Int64 := ((x.toUInt64 >>> (z &&& 0x3f).toInt64.toUInt64).toInt64)
def own_blk (fp : Int64) (B i : Int32) : Int64 := if own_w B i = (64 : Int32) then fp else ((own_us fp (own_sh B i)) &&& (((1 : Int64) <<< ((own_w B i) &&& 0x3f).toInt64) - (1 : Int64)))
def own_lb (w : Int32) : Int64 := own_us (-1 : Int64) ((64 : Int32) - w)
def own_sf (B : Int32) : Nat → Int32
  | 0 => 64
  | i + 1 => own_sf B i - own_w B i.toInt32
def own_wl (B : Int32) : Nat → List Int32
  | 0 => [0, 0, 0, 0, 0]
  | i + 1 => (own_wl B i).set i (own_w B i.toInt32)
def own_sl (B : Int32) : Nat → List Int32
  | 0 => [0, 0, 0, 0, 0]
  | i + 1 => (own_sl B i).set i (own_sf B (i + 1))
def own_ml (B : Int32) : Nat → List Int64
  | 0 => [0, 0, 0, 0, 0]
  | i + 1 => (own_ml B i).set i ((own_lb (own_w B i.toInt32)) <<< ((own_sf B (i + 1)) &&& 0x3f).toInt64)
def own_in : List Int64 → Nat → List Int64
  | r, 0 => r
  | r, j + 1 => own_in (r.set (j + 1) (r.getD (j + 1) 0 + r.getD j 0)) j
def own_row : Nat → List Int64
  | 0 => (List.replicate 65 (0 : Int64)).set 0 1
  | i + 1 => own_in (own_row i) (i + 1)
def own_bin (n j : Nat) : Int64 := (own_row n).getD j 0
def own_fi (cl : List Int32) (lim : Int32) (nc : Nat) : Nat → Nat
  | 0 => 0
  | j + 1 => if cl.getD j 0 = ((lim - (nc.toInt32)) + j.toInt32) then own_fi cl lim nc j else j + 1
def own_fl (l : List Int32) (s : Nat) : Nat → List Int32
  | 0 => l
  | i + 1 => (own_fl l s i).set (s + i) ((own_fl l s i).getD (s + i - 1) 0 + 1)
def own_next (cl : List Int32) (lim : Int32) (nc : Nat) : List Int32 :=
  if own_fi cl lim nc nc = 0 then cl else own_fl (cl.set (own_fi cl lim nc nc - 1) (cl.getD (own_fi cl lim nc nc - 1) 0 + 1)) (own_fi cl lim nc nc) (nc - own_fi cl lim nc nc)
def own_c0 : Nat → List Int32
  | 0 => [0, 0, 0]
  | i + 1 => (own_c0 i).set i i.toInt32
def own_ch (B : Int32) (nc : Nat) : Nat → List Int32
  | 0 => own_c0 nc
  | j + 1 => own_next (own_ch B nc j) B nc
def own_km (ms : List Int64) (cl : List Int32) : Nat → Int64
  | 0 => 0
  | i + 1 => own_km ms cl i ||| ms.getD (cl.getD i 0).toNatClampNeg 0
def own_b1 (x : Int64) : Int64 := x - (own_us x 1 &&& 6148914691236517205)
def own_b2 (x : Int64) : Int64 := (x &&& 3689348814741910323) + (own_us x 2 &&& 3689348814741910323)
def own_b3 (x : Int64) : Int64 := (x + own_us x 4) &&& 1085102592571150095
def own_bc (x : Int64) : Int32 :=
  let z3 := own_b3 (own_b2 (own_b1 x))
  let z4 := z3 + own_us z3 8
  let z5 := z4 + own_us z4 16
  ((z5 + own_us z5 32).toInt32) &&& (127 : Int32)
def own_rn1 (cl : List Int32) (i rn : Nat) : Nat := if i.toInt32 = (0 : Int32) then rn + 1 else (if cl.getD (i - 1) 0 = cl.getD i 0 - 1 then rn else rn + 1)
def own_stp (cl ls lw : List Int32) (i : Nat) (t : Nat × List Int32 × List Int32) : Nat × List Int32 × List Int32 :=
  (own_rn1 cl i t.1, t.2.1.set (own_rn1 cl i t.1 - 1) (ls.getD (cl.getD i 0).toNatClampNeg 0), t.2.2.set (own_rn1 cl i t.1 - 1) (t.2.2.getD (own_rn1 cl i t.1 - 1) 0 + lw.getD (cl.getD i 0).toNatClampNeg 0))
def own_rs (cl ls lw : List Int32) : Nat → Nat × List Int32 × List Int32
  | 0 => (0, [0, 0, 0], [0, 0, 0])
  | i + 1 => own_stp cl ls lw i (own_rs cl ls lw i)
def own_key (S W : List Int32) (fp : Int64) : Nat → Int64
  | 0 => 0
  | i + 1 => ((own_key S W fp i) <<< ((W.getD i 0) &&& 0x3f).toInt64) ||| ((own_us fp (S.getD i 0)) &&& (own_lb (W.getD i 0)))
theorem own_getDI (xs : List Int32) (i : Nat) : (xs.map Value.int).getD i (.int 0) = .int (xs.getD i 0) := by
  induction xs generalizing i with
  | nil => rfl
  | cons x t ih => cases i with
    | zero => rfl
    | succ i => simpa using ih i
theorem own_getDJ (xs : List Int64) (i : Nat) : (xs.map Value.long).getD i (.long 0) = .long (xs.getD i 0) := by
  induction xs generalizing i with
  | nil => rfl
  | cons x t ih => cases i with
    | zero => rfl
    | succ i => simpa using ih i
theorem own_wl_len (B : Int32) : ∀ i, (own_wl B i).length = 5
  | 0 => rfl
  | i + 1 => by rw [own_wl, List.length_set, own_wl_len B i]
theorem own_sl_len (B : Int32) : ∀ i, (own_sl B i).length = 5
  | 0 => rfl
  | i + 1 => by rw [own_sl, List.length_set, own_sl_len B i]
theorem own_ml_len (B : Int32) : ∀ i, (own_ml B i).length = 5
  | 0 => rfl
  | i + 1 => by rw [own_ml, List.length_set, own_ml_len B i]
theorem own_in_len : ∀ (j : Nat) (r : List Int64), (own_in r j).length = r.length
  | 0, r => rfl
  | j + 1, r => by rw [own_in, own_in_len j, List.length_set]
theorem own_row_len : ∀ i, (own_row i).length = 65
  | 0 => by rw [own_row, List.length_set, List.length_replicate]
  | i + 1 => by rw [own_row, own_in_len, own_row_len i]
theorem own_in0 : ∀ (j : Nat) (r : List Int64), (own_in r j).getD 0 0 = r.getD 0 0
  | 0, r => rfl
  | j + 1, r => by rw [own_in, own_in0 j]; cases r <;> simp
theorem own_row0g : ∀ i, (own_row i).getD 0 0 = 1
  | 0 => rfl
  | i + 1 => by rw [own_row, own_in0, own_row0g i]
theorem own_bin0 (n : Nat) : own_bin n 0 = 1 := own_row0g n
theorem own_in1 : ∀ (j : Nat) (r : List Int64), 1 < r.length → (own_in r j).getD 1 0 = if 0 < j then r.getD 1 0 + r.getD 0 0 else r.getD 1 0
  | 0, r, _ => rfl
  | j + 1, r, h => by
    rw [own_in, own_in1 j _ (by rw [List.length_set]; exact h), if_pos (Nat.succ_pos _)]
    by_cases hj : 0 < j
    · rw [if_pos hj]
      have e1 : ¬ j = 0 := by omega
      simp [List.getD_eq_getElem?_getD, List.getElem?_set, e1]
    · rw [if_neg hj]
      obtain rfl : j = 0 := by omega
      simp [List.getD_eq_getElem?_getD, List.getElem?_set, h]
theorem own_bin1 : ∀ n : Nat, own_bin n 1 = Int64.ofNat n
  | 0 => rfl
  | n + 1 => by
    show (own_in (own_row n) (n + 1)).getD 1 0 = _
    rw [own_in1 _ _ (by rw [own_row_len]; decide), if_pos (Nat.succ_pos _), own_row0g n, show (own_row n).getD 1 0 = Int64.ofNat n from own_bin1 n, Int64.ofNat_add]; rfl
theorem own_row0 : (own_row 0).map Value.long = ((List.replicate 65 (.long 0)).set 0 (.long 1)) := rfl
theorem own_in_pos (r : List Int64) {j : Nat} (h : 0 < j) : own_in r j = own_in (r.set j (r.getD j 0 + r.getD (j - 1) 0)) (j - 1) := by
  cases j with
  | zero => omega
  | succ j => rfl
theorem own_fi_eq {cl : List Int32} {lim : Int32} {nc j : Nat} (h : 0 < j) (q : cl.getD (j - 1) 0 = ((lim - (nc.toInt32)) + (j - 1).toInt32)) : own_fi cl lim nc j = own_fi cl lim nc (j - 1) := by
  cases j with
  | zero => omega
  | succ j => rw [own_fi, if_pos (by simpa using q)]; rfl
theorem own_fi_ne {cl : List Int32} {lim : Int32} {nc j : Nat} (h : 0 < j) (q : ¬ cl.getD (j - 1) 0 = ((lim - (nc.toInt32)) + (j - 1).toInt32)) : own_fi cl lim nc j = j := by
  cases j with
  | zero => omega
  | succ j => rw [own_fi, if_neg (by simpa using q)]
theorem own_fl_len (l : List Int32) (s : Nat) : ∀ i, (own_fl l s i).length = l.length
  | 0 => rfl
  | i + 1 => by rw [own_fl, List.length_set, own_fl_len l s i]
theorem own_next_len (cl : List Int32) (lim : Int32) (nc : Nat) : (own_next cl lim nc).length = cl.length := by
  unfold own_next
  split
  · rfl
  · rw [own_fl_len, List.length_set]
theorem own_c0_len : ∀ i, (own_c0 i).length = 3
  | 0 => rfl
  | i + 1 => by rw [own_c0, List.length_set, own_c0_len i]
theorem own_ch_len (B : Int32) (nc : Nat) : ∀ j, (own_ch B nc j).length = 3
  | 0 => own_c0_len nc
  | j + 1 => by rw [own_ch, own_next_len, own_ch_len B nc j]
theorem own_m1 {j : Nat} (h : 0 < j) : j.toInt32 - (1 : Int32) = (j - 1).toInt32 := by
  obtain ⟨q, rfl⟩ : ∃ q, j = q + 1 := ⟨j - 1, by omega⟩
  rw [← own_succ q, Nat.add_sub_cancel]; exact Int32.add_sub_cancel _ _
theorem own_subneg (x : Int32) : x + (-1 : Int32) = x - 1 := (Int32.sub_eq_add_neg x 1).symm
theorem own_m1' {j : Nat} (h : 0 < j) : j.toInt32 + (-1 : Int32) = (j - 1).toInt32 := by rw [own_subneg, own_m1 h]
theorem own_pos {j : Nat} (hj : j < 2147483648) : (0 : Int32) < j.toInt32 ↔ 0 < j := own_ltN (i := 0) (by omega) hj
theorem own_eq0 {j : Nat} (hj : j < 2147483648) : j.toInt32 = (0 : Int32) ↔ j = 0 := by
  constructor
  · intro q; have := congrArg Int32.toInt q; rw [own_nat hj] at this; have e : (0 : Int32).toInt = 0 := rfl; omega
  · intro q; subst q; rfl
theorem own_ltC {j : Nat} {x : Int32} (hj : j < 2147483648) (hx : ¬ x < 0) : j.toInt32 < x ↔ j < x.toNatClampNeg := by
  rw [Int32.lt_iff_toInt_lt, own_nat hj]; rw [Int32.lt_iff_toInt_lt] at hx; have e : (0 : Int32).toInt = 0 := rfl
  show _ ↔ j < x.toInt.toNat
  omega
theorem own_tn {n : Nat} {x : Int32} (hn : n < 2147483648) (hx : ¬ x < 0) (q : x < n.toInt32) : x.toNatClampNeg < n := by
  rw [Int32.lt_iff_toInt_lt, own_nat hn] at q; rw [Int32.lt_iff_toInt_lt] at hx; have e : (0 : Int32).toInt = 0 := rfl
  show x.toInt.toNat < n
  omega
theorem own_back {x : Int32} (hx : ¬ x < 0) : x = (x.toNatClampNeg).toInt32 := by
  rw [Int32.lt_iff_toInt_lt] at hx; have e : (0 : Int32).toInt = 0 := rfl; have r := x.toInt_lt
  rw [← Int32.toInt_inj, own_nat (by show x.toInt.toNat < _; omega)]; show _ = ((x.toInt.toNat : Nat) : Int); omega
theorem own_rs_b (cl ls lw : List Int32) : ∀ i, (own_rs cl ls lw i).1 ≤ i ∧ (0 < i → 0 < (own_rs cl ls lw i).1)
  | 0 => ⟨Nat.le_refl _, fun q => absurd q (Nat.lt_irrefl _)⟩
  | i + 1 => by
    have q := own_rs_b cl ls lw i
    show own_rn1 cl i (own_rs cl ls lw i).1 ≤ i + 1 ∧ (0 < i + 1 → 0 < own_rn1 cl i (own_rs cl ls lw i).1)
    unfold own_rn1
    split
    · omega
    · rename_i h0
      have hi : 0 < i := Nat.pos_of_ne_zero fun z => h0 (by subst z; rfl)
      split <;> omega
theorem own_rs_l (cl ls lw : List Int32) : ∀ i, (own_rs cl ls lw i).2.1.length = 3 ∧ (own_rs cl ls lw i).2.2.length = 3
  | 0 => ⟨rfl, rfl⟩
  | i + 1 => by
    have q := own_rs_l cl ls lw i
    exact ⟨by show (List.set _ _ _).length = 3; rw [List.length_set]; exact q.1, by show (List.set _ _ _).length = 3; rw [List.length_set]; exact q.2⟩
theorem own_cong {Z : State} {h : Heap} {a : Addr} {k : ClassId} {ty : FieldType} {z : Int32} {vs vs' : List Value} {dv : Value} (F : Arv Z h a k ty z vs dv) (q : ∀ i, i < z.toNatClampNeg → vs'.getD i dv = vs.getD i dv) : Arv Z h a k ty z vs' dv := by
  obtain ⟨c, A, r1, r2, r3, H, G⟩ := F
  exact ⟨c, A, r1, r2, r3, fun i hi => (H i hi).trans (congrArg some (q i (r2 ▸ hi)).symm), fun i hi => by rw [q i (r2 ▸ hi)]; exact G i hi⟩
theorem own_cp (vs vd : List Value) (dv : Value) (n r i : Nat) (hi : i < n) : vs.getD i dv = ((vd.take 0 ++ (List.range n).map (fun i => vs.getD (0 + i) dv)) ++ vd.drop r).getD i dv := by
  rw [List.take_zero, List.nil_append, List.getD_eq_getElem?_getD (l := (List.range n).map _ ++ _), List.getElem?_append_left (by simpa using hi)]
  simp [hi]
theorem own_mn_lt {x y : Int32} (h : y < x) : own_mn x y = y := if_pos h
theorem own_selp {Z : State} {a0 : Array Value} {y : MethodName} {n : Nat} (w1 : (Cond.privateMethod y).before a0 Z = true) (w2 : (Cond.instanceMethod y).before a0 Z = true) (w3 : (Cond.instantiable y.cls n).before a0 Z = true) (hy : y.cls ≠ "java/lang/invoke/MethodHandle" ∧ y.cls ≠ "java/lang/invoke/VarHandle") : (Cond.selects y.cls y y).before a0 Z = true := by
  obtain ⟨m, meth, hn, hm, -, -⟩ := Cond.instanceMethod_spec w2
  obtain ⟨c, k, hc, hk, -, hni, -⟩ := Cond.instantiable_spec w3
  have hf := State.methodFound?_of_named hn hy
  have hp := Cond.privateMethod_at w1 m meth hn hm
  cases hc.symm.trans (findClass_of_methodNamed hn)
  have hi : k.isInterface = false := by cases q : k.isInterface <;> simp_all
  simp [Cond.before, Cond.holds, Cond.value, hc, hf, hn, selectMethod_private hm hp, hk, hi]
theorem d17_0 : D0 0 (.iload_n 0) 1 := by decide +kernel
theorem d17_1 : D0 1 (.iload_n 1) 1 := by decide +kernel
theorem d17_2 : D0 2 (.if_icmp .gt 7) 3 := by decide +kernel
theorem d17_5 : D0 5 (.iload_n 0) 1 := by decide +kernel
theorem d17_6 : D0 6 (.goto 4) 3 := by decide +kernel
theorem d17_9 : D0 9 (.iload_n 1) 1 := by decide +kernel
theorem d17_10 : D0 10 (.ireturn) 1 := by decide +kernel
theorem ef_17 (m : MethodId) (x0 : Int32) (x1 : Int32) : entryFrame m #[(.int x0), (.int x1)] 2 = mkF m 0 #[.val (.int x0), .val (.int x1)] [] := by first | (simp [entryFrame, mkF, argsToLocals, Value.category]; done) | rfl
def Q17 (Z : State) (px : Int32) (py : Int32) (h0 : Heap) (n0 : Nat) (v : Option Value) (h : Heap) (L : List Loc) : Prop := v = some (.int (own_mn px py)) ∧ Fr n0 L ∧ h = h0
set_option maxRecDepth 65536 in
set_option maxHeartbeats 40000000 in
theorem rm17 (l : Launch) (Z : State) (a0 : Array Value) (hw : ∀ d ∈ tables_1, d.before a0 Z = true) (ws : List Jvm.Cond) (px : Int32) (py : Int32) (h0 : Heap) (n0 : Nat) (Z0 : n0 ≤ h0.size) :
    MetFree l (⟨"java/lang/Math", "min", "(II)I"⟩ : MethodName) (head1 (Jvm.Cond.code (⟨"java/lang/Math", "min", "(II)I"⟩ : MethodName) jdk_29_method_69_code 2 (some .int) :: ws) ({ frames := 0, cells := 0, slots := 0, locals := 0 } : Room)) (fun a U => a = #[(.int px), (.int py)] ∧ Z.Warmed39 U.vm ∧ U.heap = h0) (fun _ _ _ _ _ => True) (fun _ U o U' => ∃ v L, o = .returned v ∧ Q17 Z px py h0 n0 v U'.heap L ∧ FrameEnd U o U' L ({ frames := 0, cells := 0, slots := 0, locals := 0 } : Room).cells ({ frames := 0, cells := 0, slots := 0, locals := 0 } : Room).slots) := by
  refine MetFree.of_bodySF (Jvm.Free.JP.mathPlain rfl (by decide +kernel)) hisR ?_
  intro p e s m args below meth c s₁ Bd hml0 hP hK
  obtain ⟨rfl, hZ, hh⟩ := hP
  have hx := Bd.exec
  have hby := Bd.bytes
  have hml : c.maxLocals = 2 := hml0
  have hown : s.vm.findClass "java/lang/Math" = some m.cls := findClass_of_methodNamed Bd.named
  have hnm := (name_of_methodNamed Bd.named Bd.method).1
  have X0 : Stand p l e ({ frames := 0, cells := 0, slots := 0, locals := 0 } : Room) s m #[(.int px), (.int py)] below meth c s₁ [] 0 0 := Stand.of_body Bd
  have e0 : s₁.heap = h0 := by rw [← hh, Bd.state]; rfl
  have N0 := Fr.nil n0
  have K0 : Keep h0 h0 [] := Keep.refl _ _
  suffices GO : ∀ P : Outcome → State → Prop, (∀ o U', (∃ v L, o = .returned v ∧ Q17 Z px py h0 n0 v U'.heap L ∧ FrameEnd s o U' L ({ frames := 0, cells := 0, slots := 0, locals := 0 } : Room).cells ({ frames := 0, cells := 0, slots := 0, locals := 0 } : Room).slots) → P o U') → Go p.tables e below P s₁ (mkF m 0 #[.val (.int px), .val (.int py)] []) by
    obtain ⟨s2, o, st, r⟩ := GO _ (fun _ _ q => q)
    exact ⟨s2, o, castTop (ef_17 m px py) st, r⟩
  clear hh
  intro P hP
  show Go p.tables e below P s₁ (mkF m 0 #[vi px, vi py] [])
  refine gv (fun t k => XS.iloadN X0.here hx rfl (hb hby d17_0) rfl k) ?_
  refine gv (fun t k => XS.iloadN X0.here hx rfl (hb hby d17_1) rfl k) ?_
  show Go p.tables e below P s₁ (mkF m 2 #[vi px, vi py] [(.int py), (.int px)])
  have J2 : ∀ (T2 : State) (locs2 : List Loc) (v2_0 : Int32), Stand p l e ({ frames := 0, cells := 0, slots := 0, locals := 0 } : Room) s m #[(.int px), (.int py)] below meth c T2 locs2 0 0 → T2.heap = h0 → Fr n0 locs2 → v2_0 = (if py < px then py else px) → Go p.tables e below P T2 (mkF m 10 #[.val (.int px), .val (.int py)] [(.int v2_0)]) := by
    intro T2 locs2 v2_0 X2 e2 N2 hv2_0
    show Go p.tables e below P T2 (mkF m 10 #[vi px, vi py] [(.int v2_0)])
    obtain ⟨fs, hr, hrun, hended, hW, hsame⟩ := X2.leave (v := some (.int (own_mn px py))) (fun h => by rw [Bd.returns] at h; cases h)
    refine ⟨_, _, (by have q := retI X2 hx Bd.returns (hb hby d17_10) (z := v2_0) (rest := []) (pc := 10) (Ls := #[.val (.int px), .val (.int py)]) (by rw [(show v2_0 = own_mn px py from hv2_0)]; exact hr); exact q), hrun, hended, hP _ _ ⟨_, _, rfl, ?_, ⟨_, rfl⟩, hW, hsame.mono (by decide) (by decide)⟩⟩
    show Q17 Z px py h0 n0 _ T2.heap _
    rw [e2]
    exact ⟨rfl, N2, rfl⟩
  by_cases hc1 : py < px
  · refine gv (fun t k => XS.icmpYes X0.here hx rfl (pc0 := 2) (pc' := 9) rfl (hb hby d17_2) rfl (tlt hc1).2.2.1 (by decide) (by decide) k) ?_
    refine gv (fun t k => XS.iloadN X0.here hx rfl (hb hby d17_9) rfl k) ?_
    exact J2 s₁ _ py X0 e0 N0 (if_pos hc1).symm
  · refine gv (fun t k => XS.icmpNo X0.here hx rfl (hb hby d17_2) rfl (flt hc1).2.2.1 k) ?_
    refine gv (fun t k => XS.iloadN X0.here hx rfl (hb hby d17_5) rfl k) ?_
    refine gv (fun t k => XS.goto X0.here hx rfl (pc0 := 6) (pc' := 10) rfl (hb hby d17_6) (by decide) (by decide) k) ?_
    exact J2 s₁ _ px X0 e0 N0 (if_neg hc1).symm
theorem own_pn0 : plainName LWn = true := by first | (simp [plainName, overriddenIn]; done) | decide +kernel
theorem d2_0 : D1 0 (.bipush 64) 2 := by decide +kernel
theorem d2_2 : D1 2 (.iload_n 0) 1 := by decide +kernel
theorem d2_3 : D1 3 (.idiv) 1 := by decide +kernel
theorem d2_4 : D1 4 (.iload_n 1) 1 := by decide +kernel
theorem d2_5 : D1 5 (.bipush 64) 2 := by decide +kernel
theorem d2_7 : D1 7 (.iload_n 0) 1 := by decide +kernel
theorem d2_8 : D1 8 (.irem) 1 := by decide +kernel
theorem d2_9 : D1 9 (.if_icmp .ge 7) 3 := by decide +kernel
theorem d2_12 : D1 12 (.iconst 1) 1 := by decide +kernel
theorem d2_13 : D1 13 (.goto 4) 3 := by decide +kernel
theorem d2_16 : D1 16 (.iconst 0) 1 := by decide +kernel
theorem d2_17 : D1 17 (.iadd) 1 := by decide +kernel
theorem d2_18 : D1 18 (.ireturn) 1 := by decide +kernel
theorem ef_2 (m : MethodId) (x0 : Int32) (x1 : Int32) : entryFrame m #[(.int x0), (.int x1)] 2 = mkF m 0 #[.val (.int x0), .val (.int x1)] [] := by first | (simp [entryFrame, mkF, argsToLocals, Value.category]; done) | rfl
def Q2 (Z : State) (pb : Int32) (pi : Int32) (h0 : Heap) (n0 : Nat) (v : Option Value) (h : Heap) (L : List Loc) : Prop := v = some (.int (own_w pb pi)) ∧ Fr n0 L ∧ h = h0
set_option maxRecDepth 65536 in
set_option maxHeartbeats 40000000 in
theorem rm2 (l : Launch) (Z : State) (a0 : Array Value) (hw : ∀ d ∈ tables_1, d.before a0 Z = true) (ws : List Jvm.Cond) (pb : Int32) (pi : Int32) (h0 : Heap) (n0 : Nat) (Z0 : n0 ≤ h0.size) (hnz : ¬ pb = (0 : Int32)) :
    MetFree l (⟨LWn, "width", "(II)I"⟩ : MethodName) (head1 (Jvm.Cond.code (⟨LWn, "width", "(II)I"⟩ : MethodName) method_3_code 2 (some .int) :: ws) ({ frames := 0, cells := 0, slots := 0, locals := 0 } : Room)) (fun a U => a = #[(.int pb), (.int pi)] ∧ Z.Warmed39 U.vm ∧ U.heap = h0) (fun _ _ _ _ _ => True) (fun _ U o U' => ∃ v L, o = .returned v ∧ Q2 Z pb pi h0 n0 v U'.heap L ∧ FrameEnd U o U' L ({ frames := 0, cells := 0, slots := 0, locals := 0 } : Room).cells ({ frames := 0, cells := 0, slots := 0, locals := 0 } : Room).slots) := by
  refine MetFree.of_bodySF (plainFor_of_name own_pn0) hisR ?_
  intro p e s m args below meth c s₁ Bd hml0 hP hK
  obtain ⟨rfl, hZ, hh⟩ := hP
  have hx := Bd.exec
  have hby := Bd.bytes
  have hml : c.maxLocals = 2 := hml0
  have hown : s.vm.findClass LWn = some m.cls := findClass_of_methodNamed Bd.named
  have hnm := (name_of_methodNamed Bd.named Bd.method).1
  have X0 : Stand p l e ({ frames := 0, cells := 0, slots := 0, locals := 0 } : Room) s m #[(.int pb), (.int pi)] below meth c s₁ [] 0 0 := Stand.of_body Bd
  have e0 : s₁.heap = h0 := by rw [← hh, Bd.state]; rfl
  have N0 := Fr.nil n0
  have K0 : Keep h0 h0 [] := Keep.refl _ _
  suffices GO : ∀ P : Outcome → State → Prop, (∀ o U', (∃ v L, o = .returned v ∧ Q2 Z pb pi h0 n0 v U'.heap L ∧ FrameEnd s o U' L ({ frames := 0, cells := 0, slots := 0, locals := 0 } : Room).cells ({ frames := 0, cells := 0, slots := 0, locals := 0 } : Room).slots) → P o U') → Go p.tables e below P s₁ (mkF m 0 #[.val (.int pb), .val (.int pi)] []) by
    obtain ⟨s2, o, st, r⟩ := GO _ (fun _ _ q => q)
    exact ⟨s2, o, castTop (ef_2 m pb pi) st, r⟩
  clear hh
  intro P hP
  show Go p.tables e below P s₁ (mkF m 0 #[vi pb, vi pi] [])
  refine gv (fun t k => XS.bipush X0.here hx rfl (hb hby d2_0) k) ?_
  refine gv (fun t k => XS.iloadN X0.here hx rfl (hb hby d2_2) rfl k) ?_
  refine gv (fun t k => XS.idiv X0.here hx rfl (hb hby d2_3) rfl hnz k) ?_
  refine gv (fun t k => XS.iloadN X0.here hx rfl (hb hby d2_4) rfl k) ?_
  refine gv (fun t k => XS.bipush X0.here hx rfl (hb hby d2_5) k) ?_
  refine gv (fun t k => XS.iloadN X0.here hx rfl (hb hby d2_7) rfl k) ?_
  refine gv (fun t k => iremM X0 hx rfl (hb hby d2_8) rfl hnz k) ?_
  show Go p.tables e below P s₁ (mkF m 9 #[vi pb, vi pi] [(.int ((64 : Int32) % pb)), (.int pi), (.int ((64 : Int32) / pb))])
  have J2 : ∀ (T2 : State) (locs2 : List Loc) (v2_0 : Int32), Stand p l e ({ frames := 0, cells := 0, slots := 0, locals := 0 } : Room) s m #[(.int pb), (.int pi)] below meth c T2 locs2 0 0 → T2.heap = h0 → Fr n0 locs2 → v2_0 = (if pi < ((64 : Int32) % pb) then (1 : Int32) else (0 : Int32)) → Go p.tables e below P T2 (mkF m 17 #[.val (.int pb), .val (.int pi)] [(.int v2_0), (.int ((64 : Int32) / pb))]) := by
    intro T2 locs2 v2_0 X2 e2 N2 hv2_0
    have hbv2_0 : v2_0 = 0 ∨ v2_0 = 1 := by (subst hv2_0; (repeat' split) <;> first | (left; rfl) | (right; rfl))
    refine gv (fun t k => XS.iadd X2.here hx rfl (hb hby d2_17) rfl k) ?_
    show Go p.tables e below P T2 (mkF m 18 #[vi pb, vi pi] [(.int (((64 : Int32) / pb) + v2_0))])
    obtain ⟨fs, hr, hrun, hended, hW, hsame⟩ := X2.leave (v := some (.int (own_w pb pi))) (fun h => by rw [Bd.returns] at h; cases h)
    refine ⟨_, _, (by have q := retI X2 hx Bd.returns (hb hby d2_18) (z := (((64 : Int32) / pb) + v2_0)) (rest := []) (pc := 18) (Ls := #[.val (.int pb), .val (.int pi)]) (by rw [(show (((64 : Int32) / pb) + v2_0) = own_w pb pi from by rw [hv2_0]; rfl)]; exact hr); exact q), hrun, hended, hP _ _ ⟨_, _, rfl, ?_, ⟨_, rfl⟩, hW, hsame.mono (by decide) (by decide)⟩⟩
    show Q2 Z pb pi h0 n0 _ T2.heap _
    rw [e2]
    exact ⟨rfl, N2, rfl⟩
  by_cases hc1 : pi < ((64 : Int32) % pb)
  · refine gv (fun t k => XS.icmpNo X0.here hx rfl (hb hby d2_9) rfl (tlt hc1).2.1 k) ?_
    refine gv (fun t k => XS.iconst X0.here hx rfl (hb hby d2_12) k) ?_
    refine gv (fun t k => XS.goto X0.here hx rfl (pc0 := 13) (pc' := 17) rfl (hb hby d2_13) (by decide) (by decide) k) ?_
    exact J2 s₁ _ (1 : Int32) X0 e0 N0 (if_pos hc1).symm
  · refine gv (fun t k => XS.icmpYes X0.here hx rfl (pc0 := 9) (pc' := 16) rfl (hb hby d2_9) rfl (flt hc1).2.1 (by decide) (by decide) k) ?_
    refine gv (fun t k => XS.iconst X0.here hx rfl (hb hby d2_16) k) ?_
    exact J2 s₁ _ (0 : Int32) X0 e0 N0 (if_neg hc1).symm
theorem own_pd0 : parseMethodDescriptor "(II)I" = some ⟨[.int, .int], some .int⟩ := by decide +kernel
theorem d16_0 : D2 0 (.bipush 64) 2 := by decide +kernel
theorem d16_2 : D2 2 (.iload_n 1) 1 := by decide +kernel
theorem d16_3 : D2 3 (.iconst 1) 1 := by decide +kernel
theorem d16_4 : D2 4 (.iadd) 1 := by decide +kernel
theorem d16_5 : D2 5 (.bipush 64) 2 := by decide +kernel
theorem d16_7 : D2 7 (.iload_n 0) 1 := by decide +kernel
theorem d16_8 : D2 8 (.idiv) 1 := by decide +kernel
theorem d16_9 : D2 9 (.imul) 1 := by decide +kernel
theorem d16_10 : D2 10 (.isub) 1 := by decide +kernel
theorem d16_11 : D2 11 (.iload_n 1) 1 := by decide +kernel
theorem d16_12 : D2 12 (.iconst 1) 1 := by decide +kernel
theorem d16_13 : D2 13 (.iadd) 1 := by decide +kernel
theorem d16_14 : D2 14 (.bipush 64) 2 := by decide +kernel
theorem d16_16 : D2 16 (.iload_n 0) 1 := by decide +kernel
theorem d16_17 : D2 17 (.irem) 1 := by decide +kernel
theorem d16_18 : D2 18 (.invokestatic 27) 3 := by decide +kernel
theorem d16_21 : D2 21 (.isub) 1 := by decide +kernel
theorem d16_22 : D2 22 (.ireturn) 1 := by decide +kernel
theorem ef_16 (m : MethodId) (x0 : Int32) (x1 : Int32) : entryFrame m #[(.int x0), (.int x1)] 2 = mkF m 0 #[.val (.int x0), .val (.int x1)] [] := by first | (simp [entryFrame, mkF, argsToLocals, Value.category]; done) | rfl
def Q16 (Z : State) (pb : Int32) (pi : Int32) (h0 : Heap) (n0 : Nat) (v : Option Value) (h : Heap) (L : List Loc) : Prop := v = some (.int (own_sh pb pi)) ∧ Fr n0 L ∧ h = h0
set_option maxRecDepth 65536 in
set_option maxHeartbeats 40000000 in
theorem rm16 (l : Launch) (Z : State) (a0 : Array Value) (hw : ∀ d ∈ tables_1, d.before a0 Z = true) (ws : List Jvm.Cond) (pb : Int32) (pi : Int32) (h0 : Heap) (n0 : Nat) (Z0 : n0 ≤ h0.size) (hnz : ¬ pb = (0 : Int32)) :
    MetFree l (⟨LWn, "shift", "(II)I"⟩ : MethodName) (head1 (Jvm.Cond.code (⟨LWn, "shift", "(II)I"⟩ : MethodName) method_4_code 2 (some .int) :: ws) ({ frames := 1, cells := 0, slots := 0, locals := 14 } : Room)) (fun a U => a = #[(.int pb), (.int pi)] ∧ Z.Warmed39 U.vm ∧ U.heap = h0) (fun _ _ _ _ _ => True) (fun _ U o U' => ∃ v L, o = .returned v ∧ Q16 Z pb pi h0 n0 v U'.heap L ∧ FrameEnd U o U' L ({ frames := 1, cells := 0, slots := 0, locals := 14 } : Room).cells ({ frames := 1, cells := 0, slots := 0, locals := 14 } : Room).slots) := by
  refine MetFree.of_bodySF (plainFor_of_name own_pn0) hisR ?_
  intro p e s m args below meth c s₁ Bd hml0 hP hK
  obtain ⟨rfl, hZ, hh⟩ := hP
  have hx := Bd.exec
  have hby := Bd.bytes
  have hml : c.maxLocals = 2 := hml0
  have hown : s.vm.findClass LWn = some m.cls := findClass_of_methodNamed Bd.named
  have hnm := (name_of_methodNamed Bd.named Bd.method).1
  have X0 : Stand p l e ({ frames := 1, cells := 0, slots := 0, locals := 14 } : Room) s m #[(.int pb), (.int pi)] below meth c s₁ [] 0 0 := Stand.of_body Bd
  have e0 : s₁.heap = h0 := by rw [← hh, Bd.state]; rfl
  have N0 := Fr.nil n0
  have K0 : Keep h0 h0 [] := Keep.refl _ _
  suffices GO : ∀ P : Outcome → State → Prop, (∀ o U', (∃ v L, o = .returned v ∧ Q16 Z pb pi h0 n0 v U'.heap L ∧ FrameEnd s o U' L ({ frames := 1, cells := 0, slots := 0, locals := 14 } : Room).cells ({ frames := 1, cells := 0, slots := 0, locals := 14 } : Room).slots) → P o U') → Go p.tables e below P s₁ (mkF m 0 #[.val (.int pb), .val (.int pi)] []) by
    obtain ⟨s2, o, st, r⟩ := GO _ (fun _ _ q => q)
    exact ⟨s2, o, castTop (ef_16 m pb pi) st, r⟩
  clear hh
  intro P hP
  show Go p.tables e below P s₁ (mkF m 0 #[vi pb, vi pi] [])
  refine gv (fun t k => XS.bipush X0.here hx rfl (hb hby d16_0) k) ?_
  refine gv (fun t k => XS.iloadN X0.here hx rfl (hb hby d16_2) rfl k) ?_
  refine gv (fun t k => XS.iconst X0.here hx rfl (hb hby d16_3) k) ?_
  refine gv (fun t k => XS.iadd X0.here hx rfl (hb hby d16_4) rfl k) ?_
  refine gv (fun t k => XS.bipush X0.here hx rfl (hb hby d16_5) k) ?_
  refine gv (fun t k => XS.iloadN X0.here hx rfl (hb hby d16_7) rfl k) ?_
  refine gv (fun t k => XS.idiv X0.here hx rfl (hb hby d16_8) rfl hnz k) ?_
  refine gv (fun t k => XS.imul X0.here hx rfl (hb hby d16_9) rfl k) ?_
  refine gv (fun t k => XS.isub X0.here hx rfl (hb hby d16_10) rfl k) ?_
  show Go p.tables e below P s₁ (mkF m 11 #[vi pb, vi pi] [(.int ((64 : Int32) - ((pi + (1 : Int32)) * ((64 : Int32) / pb))))])
  refine gv (fun t k => XS.iloadN X0.here hx rfl (hb hby d16_11) rfl k) ?_
  refine gv (fun t k => XS.iconst X0.here hx rfl (hb hby d16_12) k) ?_
  refine gv (fun t k => XS.iadd X0.here hx rfl (hb hby d16_13) rfl k) ?_
  refine gv (fun t k => XS.bipush X0.here hx rfl (hb hby d16_14) k) ?_
  refine gv (fun t k => XS.iloadN X0.here hx rfl (hb hby d16_16) rfl k) ?_
  refine gv (fun t k => iremM X0 hx rfl (hb hby d16_17) rfl hnz k) ?_
  obtain ⟨_, _, ⟨T1, L1, k1, n1⟩, -, X1, ⟨Lc1, hQ1, l1, y1, z1⟩, st1⟩ := Jvm.LawKit.callS X0 hx (y := (⟨"java/lang/Math", "min", "(II)I"⟩ : MethodName)) hown (mvT hZ (own_g hw 100 rfl)) (mvT hZ (own_g hw 101 rfl)) (mvT hZ (own_g hw 102 rfl)) (mvT hZ (own_g hw 103 rfl)) (by decide) (backOf (W := 1) (rm17 l Z a0 hw [] (pi + (1 : Int32)) ((64 : Int32) % pb) h0 n0 Z0 ) hZ (own_g hw 103 rfl) (own_g hw 102 rfl) (by decide) (by decide)) (g := (mkF m 18 #[vi pb, vi pi] [(.int ((64 : Int32) % pb)), (.int (pi + (1 : Int32))), (.int ((64 : Int32) - ((pi + (1 : Int32)) * ((64 : Int32) / pb))))])) rfl (by rw [hml]; rfl) (argsL := [(.int (pi + (1 : Int32))), (.int ((64 : Int32) % pb))]) (rest := [(.int ((64 : Int32) - ((pi + (1 : Int32)) * ((64 : Int32) / pb))))]) (lenOf own_pd0 rfl) rfl (by show 2 * 0 + _ ≤ _; exact Nat.le_of_eq rfl) (hb hby d16_18) (fun _ _ => ⟨rfl, e0, (by decide : 0 + 0 ≤ _), (by decide : 0 + 0 ≤ _)⟩)
  dsimp only [Pt.U, Pt.locs, Pt.cells, Pt.slots] at X1 l1 y1 z1 st1 hQ1
  subst l1 y1 z1
  obtain ⟨rfl, Nq1, hh1⟩ := hQ1
  obtain ⟨lc1, Xh1, N1⟩ := own_hide X1 (Fr.app N0 Nq1)
  clear X1
  refine gv st1 ?_
  refine gv (fun t k => XS.isub Xh1.here hx rfl (hb hby d16_21) rfl k) ?_
  show Go p.tables e below P T1 (mkF m 22 #[vi pb, vi pi] [(.int (((64 : Int32) - ((pi + (1 : Int32)) * ((64 : Int32) / pb))) - (own_mn (pi + (1 : Int32)) ((64 : Int32) % pb))))])
  obtain ⟨fs, hr, hrun, hended, hW, hsame⟩ := Xh1.leave (v := some (.int (own_sh pb pi))) (fun h => by rw [Bd.returns] at h; cases h)
  refine ⟨_, _, retI Xh1 hx Bd.returns (hb hby d16_22) hr, hrun, hended, hP _ _ ⟨_, _, rfl, ?_, ⟨_, rfl⟩, hW, hsame.mono (by decide) (by decide)⟩⟩
  show Q16 Z pb pi h0 n0 _ T1.heap _
  rw [hh1]
  exact ⟨rfl, N1, rfl⟩
theorem d1_0 : D3 0 (.iload_n 2) 1 := by decide +kernel
theorem d1_1 : D3 1 (.iload_n 3) 1 := by decide +kernel
theorem d1_2 : D3 2 (.invokestatic 14) 3 := by decide +kernel
theorem d1_5 : D3 5 (.istore 4) 2 := by decide +kernel
theorem d1_7 : D3 7 (.iload 4) 2 := by decide +kernel
theorem d1_9 : D3 9 (.bipush 64) 2 := by decide +kernel
theorem d1_11 : D3 11 (.if_icmp .ne 5) 3 := by decide +kernel
theorem d1_14 : D3 14 (.lload_n 0) 1 := by decide +kernel
theorem d1_15 : D3 15 (.lreturn) 1 := by decide +kernel
theorem d1_16 : D3 16 (.lload_n 0) 1 := by decide +kernel
theorem d1_17 : D3 17 (.iload_n 2) 1 := by decide +kernel
theorem d1_18 : D3 18 (.iload_n 3) 1 := by decide +kernel
theorem d1_19 : D3 19 (.invokestatic 32) 3 := by decide +kernel
theorem d1_22 : D3 22 (.lushr) 1 := by decide +kernel
theorem d1_23 : D3 23 (.lconst 1) 1 := by decide +kernel
theorem d1_24 : D3 24 (.iload 4) 2 := by decide +kernel
theorem d1_26 : D3 26 (.lshl) 1 := by decide +kernel
theorem d1_27 : D3 27 (.lconst 1) 1 := by decide +kernel
theorem d1_28 : D3 28 (.lsub) 1 := by decide +kernel
theorem d1_29 : D3 29 (.land) 1 := by decide +kernel
theorem d1_30 : D3 30 (.lreturn) 1 := by decide +kernel
theorem ef_1 (m : MethodId) (x0 : Int64) (x1 : Int32) (x2 : Int32) : entryFrame m #[(.long x0), (.int x1), (.int x2)] 5 = mkF m 0 #[.val (.long x0), .second, .val (.int x1), .val (.int x2), .unset] [] := by first | (simp [entryFrame, mkF, argsToLocals, Value.category]; done) | rfl
def Q1 (Z : State) (qf : Int64) (pb : Int32) (pi : Int32) (h0 : Heap) (n0 : Nat) (v : Option Value) (h : Heap) (L : List Loc) : Prop := v = some (.long (own_blk qf pb pi)) ∧ Fr n0 L ∧ h = h0
set_option maxRecDepth 65536 in
set_option maxHeartbeats 40000000 in
theorem rm1 (l : Launch) (Z : State) (a0 : Array Value) (hw : ∀ d ∈ tables_1, d.before a0 Z = true) (ws : List Jvm.Cond) (qf : Int64) (pb : Int32) (pi : Int32) (h0 : Heap) (n0 : Nat) (Z0 : n0 ≤ h0.size) (hnz : ¬ pb = (0 : Int32)) :
    MetFree l (⟨LWn, "block", "(JII)J"⟩ : MethodName) (head1 (Jvm.Cond.code (⟨LWn, "block", "(JII)J"⟩ : MethodName) method_5_code 5 (some .long) :: ws) ({ frames := 2, cells := 0, slots := 0, locals := 29 } : Room)) (fun a U => a = #[(.long qf), (.int pb), (.int pi)] ∧ Z.Warmed39 U.vm ∧ U.heap = h0) (fun _ _ _ _ _ => True) (fun _ U o U' => ∃ v L, o = .returned v ∧ Q1 Z qf pb pi h0 n0 v U'.heap L ∧ FrameEnd U o U' L ({ frames := 2, cells := 0, slots := 0, locals := 29 } : Room).cells ({ frames := 2, cells := 0, slots := 0, locals := 29 } : Room).slots) := by
  refine MetFree.of_bodySF (plainFor_of_name own_pn0) hisR ?_
  intro p e s m args below meth c s₁ Bd hml0 hP hK
  obtain ⟨rfl, hZ, hh⟩ := hP
  have hx := Bd.exec
  have hby := Bd.bytes
  have hml : c.maxLocals = 5 := hml0
  have hown : s.vm.findClass LWn = some m.cls := findClass_of_methodNamed Bd.named
  have hnm := (name_of_methodNamed Bd.named Bd.method).1
  have X0 : Stand p l e ({ frames := 2, cells := 0, slots := 0, locals := 29 } : Room) s m #[(.long qf), (.int pb), (.int pi)] below meth c s₁ [] 0 0 := Stand.of_body Bd
  have e0 : s₁.heap = h0 := by rw [← hh, Bd.state]; rfl
  have N0 := Fr.nil n0
  have K0 : Keep h0 h0 [] := Keep.refl _ _
  suffices GO : ∀ P : Outcome → State → Prop, (∀ o U', (∃ v L, o = .returned v ∧ Q1 Z qf pb pi h0 n0 v U'.heap L ∧ FrameEnd s o U' L ({ frames := 2, cells := 0, slots := 0, locals := 29 } : Room).cells ({ frames := 2, cells := 0, slots := 0, locals := 29 } : Room).slots) → P o U') → Go p.tables e below P s₁ (mkF m 0 #[.val (.long qf), .second, .val (.int pb), .val (.int pi), .unset] []) by
    obtain ⟨s2, o, st, r⟩ := GO _ (fun _ _ q => q)
    exact ⟨s2, o, castTop (ef_1 m qf pb pi) st, r⟩
  clear hh
  intro P hP
  show Go p.tables e below P s₁ (mkF m 0 #[vj qf, v2, vi pb, vi pi, vu] [])
  refine gv (fun t k => XS.iloadN X0.here hx rfl (hb hby d1_0) rfl k) ?_
  refine gv (fun t k => XS.iloadN X0.here hx rfl (hb hby d1_1) rfl k) ?_
  obtain ⟨_, _, ⟨T1, L1, k1, n1⟩, -, X1, ⟨Lc1, hQ1, l1, y1, z1⟩, st1⟩ := Jvm.LawKit.callS X0 hx (y := (⟨LWn, "width", "(II)I"⟩ : MethodName)) hown (mvT hZ (own_g hw 6 rfl)) (mvT hZ (own_g hw 7 rfl)) (mvT hZ (own_g hw 4 rfl)) (mvT hZ (own_g hw 8 rfl)) (by decide) (backOf (W := 0) (rm2 l Z a0 hw [] pb pi h0 n0 Z0 (by first | assumption | decide | omega : ¬ pb = (0 : Int32))) hZ (own_g hw 8 rfl) (own_g hw 4 rfl) (by decide) (by decide)) (g := (mkF m 2 #[vj qf, v2, vi pb, vi pi, vu] [(.int pi), (.int pb)])) rfl (by rw [hml]; rfl) (argsL := [(.int pb), (.int pi)]) (rest := []) (lenOf own_pd0 rfl) rfl (by show 2 * 0 + _ ≤ _; exact Nat.le_of_eq rfl) (hb hby d1_2) (fun _ _ => ⟨rfl, e0, (by decide : 0 + 0 ≤ _), (by decide : 0 + 0 ≤ _)⟩)
  dsimp only [Pt.U, Pt.locs, Pt.cells, Pt.slots] at X1 l1 y1 z1 st1 hQ1
  subst l1 y1 z1
  obtain ⟨rfl, Nq1, hh1⟩ := hQ1
  obtain ⟨lc1, Xh1, N1⟩ := own_hide X1 (Fr.app N0 Nq1)
  clear X1
  refine gv st1 ?_
  refine gv (fun t k => XS.istore Xh1.here hx rfl (hb hby d1_5) rfl (l' := #[vj qf, v2, vi pb, vi pi, vi (own_w pb pi)]) rfl k) ?_
  refine gv (fun t k => XS.iload Xh1.here hx rfl (hb hby d1_7) rfl k) ?_
  refine gv (fun t k => XS.bipush Xh1.here hx rfl (hb hby d1_9) k) ?_
  by_cases hc2 : (own_w pb pi) = (64 : Int32)
  · refine gv (fun t k => XS.icmpNo Xh1.here hx rfl (hb hby d1_11) rfl (teq hc2).2 k) ?_
    refine gv (fun t k => XS.lloadN Xh1.here hx rfl (hb hby d1_14) rfl k) ?_
    show Go p.tables e below P T1 (mkF m 15 #[vj qf, v2, vi pb, vi pi, vi (own_w pb pi)] [(.long qf)])
    obtain ⟨fs, hr, hrun, hended, hW, hsame⟩ := Xh1.leave (v := some (.long (own_blk qf pb pi))) (fun h => by rw [Bd.returns] at h; cases h)
    refine ⟨_, _, (by have q := retJ Xh1 hx Bd.returns (hb hby d1_15) (z := qf) (rest := []) (pc := 15) (Ls := #[.val (.long qf), .second, .val (.int pb), .val (.int pi), .val (.int (own_w pb pi))]) (by rw [(show qf = own_blk qf pb pi from (if_pos hc2).symm)]; exact hr); exact q), hrun, hended, hP _ _ ⟨_, _, rfl, ?_, ⟨_, rfl⟩, hW, hsame.mono (by decide) (by decide)⟩⟩
    show Q1 Z qf pb pi h0 n0 _ T1.heap _
    rw [hh1]
    exact ⟨rfl, N1, rfl⟩
  · refine gv (fun t k => XS.icmpYes Xh1.here hx rfl (pc0 := 11) (pc' := 16) rfl (hb hby d1_11) rfl (feq hc2).2 (by decide) (by decide) k) ?_
    refine gv (fun t k => XS.lloadN Xh1.here hx rfl (hb hby d1_16) rfl k) ?_
    refine gv (fun t k => XS.iloadN Xh1.here hx rfl (hb hby d1_17) rfl k) ?_
    refine gv (fun t k => XS.iloadN Xh1.here hx rfl (hb hby d1_18) rfl k) ?_
    obtain ⟨_, _, ⟨T4, L4, k4, n4⟩, -, X4, ⟨Lc4, hQ4, l4, y4, z4⟩, st4⟩ := Jvm.LawKit.callS Xh1 hx (y := (⟨LWn, "shift", "(II)I"⟩ : MethodName)) hown (mvT hZ (own_g hw 97 rfl)) (mvT hZ (own_g hw 98 rfl)) (mvT hZ (own_g hw 4 rfl)) (mvT hZ (own_g hw 99 rfl)) (by decide) (backOf (W := 2) (rm16 l Z a0 hw [] pb pi h0 n0 Z0 (by first | assumption | decide | omega : ¬ pb = (0 : Int32))) hZ (own_g hw 99 rfl) (own_g hw 4 rfl) (by decide) (by decide)) (g := (mkF m 19 #[vj qf, v2, vi pb, vi pi, vi (own_w pb pi)] [(.int pi), (.int pb), (.long qf)])) rfl (by rw [hml]; rfl) (argsL := [(.int pb), (.int pi)]) (rest := [(.long qf)]) (lenOf own_pd0 rfl) rfl (by show 2 * 0 + _ ≤ _; exact Nat.le_of_eq rfl) (hb hby d1_19) (fun _ _ => ⟨rfl, hh1, (by decide : 0 + 0 ≤ _), (by decide : 0 + 0 ≤ _)⟩)
    dsimp only [Pt.U, Pt.locs, Pt.cells, Pt.slots] at X4 l4 y4 z4 st4 hQ4
    subst l4 y4 z4
    obtain ⟨rfl, Nq4, hh4⟩ := hQ4
    obtain ⟨lc4, Xh4, N4⟩ := own_hide X4 (Fr.app N1 Nq4)
    clear X4
    refine gv st4 ?_
    refine gv (fun t k => XS.lushr Xh4.here hx rfl (hb hby d1_22) rfl k) ?_
    refine gv (fun t k => XS.lconst Xh4.here hx rfl (hb hby d1_23) k) ?_
    refine gv (fun t k => XS.iload Xh4.here hx rfl (hb hby d1_24) rfl k) ?_
    refine gv (fun t k => XS.lshl Xh4.here hx rfl (hb hby d1_26) rfl k) ?_
    show Go p.tables e below P T4 (mkF m 27 #[vj qf, v2, vi pb, vi pi, vi (own_w pb pi)] [(.long ((1 : Int64) <<< ((own_w pb pi) &&& 0x3f).toInt64)), (.long ((qf.toUInt64 >>> ((own_sh pb pi) &&& 0x3f).toInt64.toUInt64).toInt64))])
    refine gv (fun t k => XS.lconst Xh4.here hx rfl (hb hby d1_27) k) ?_
    refine gv (fun t k => XS.lsub Xh4.here hx rfl (hb hby d1_28) rfl k) ?_
    refine gv (fun t k => XS.land Xh4.here hx rfl (hb hby d1_29) rfl k) ?_
    show Go p.tables e below P T4 (mkF m 30 #[vj qf, v2, vi pb, vi pi, vi (own_w pb pi)] [(.long (((qf.toUInt64 >>> ((own_sh pb pi) &&& 0x3f).toInt64.toUInt64).toInt64) &&& (((1 : Int64) <<< ((own_w pb pi) &&& 0x3f).toInt64) - (1 : Int64))))])
    obtain ⟨fs, hr, hrun, hended, hW, hsame⟩ := Xh4.leave (v := some (.long (own_blk qf pb pi))) (fun h => by rw [Bd.returns] at h; cases h)
    refine ⟨_, _, (by have q := retJ Xh4 hx Bd.returns (hb hby d1_30) (z := (((qf.toUInt64 >>> ((own_sh pb pi) &&& 0x3f).toInt64.toUInt64).toInt64) &&& (((1 : Int64) <<< ((own_w pb pi) &&& 0x3f).toInt64) - (1 : Int64)))) (rest := []) (pc := 30) (Ls := #[.val (.long qf), .second, .val (.int pb), .val (.int pi), .val (.int (own_w pb pi))]) (by rw [(show (((qf.toUInt64 >>> ((own_sh pb pi) &&& 0x3f).toInt64.toUInt64).toInt64) &&& (((1 : Int64) <<< ((own_w pb pi) &&& 0x3f).toInt64) - (1 : Int64))) = own_blk qf pb pi from (if_neg hc2).symm)]; exact hr); exact q), hrun, hended, hP _ _ ⟨_, _, rfl, ?_, ⟨_, rfl⟩, hW, hsame.mono (by decide) (by decide)⟩⟩
    show Q1 Z qf pb pi h0 n0 _ T4.heap _
    rw [hh4]
    exact ⟨rfl, N4, rfl⟩
theorem own_pn1 : plainName BLn = true := by first | (simp [plainName, overriddenIn]; done) | decide +kernel
theorem d6_0 : D4 0 (.ldc2_w 119) 3 := by decide +kernel
theorem d6_3 : D4 3 (.bipush 64) 2 := by decide +kernel
theorem d6_5 : D4 5 (.iload_n 0) 1 := by decide +kernel
theorem d6_6 : D4 6 (.isub) 1 := by decide +kernel
theorem d6_7 : D4 7 (.lushr) 1 := by decide +kernel
theorem d6_8 : D4 8 (.lreturn) 1 := by decide +kernel
theorem ef_6 (m : MethodId) (x0 : Int32) : entryFrame m #[(.int x0)] 1 = mkF m 0 #[.val (.int x0)] [] := by first | (simp [entryFrame, mkF, argsToLocals, Value.category]; done) | rfl
def Q6 (Z : State) (pw : Int32) (h0 : Heap) (n0 : Nat) (v : Option Value) (h : Heap) (L : List Loc) : Prop := v = some (.long (own_lb pw)) ∧ Fr n0 L ∧ h = h0
set_option maxRecDepth 65536 in
set_option maxHeartbeats 40000000 in
theorem rm6 (l : Launch) (Z : State) (a0 : Array Value) (hw : ∀ d ∈ tables_1, d.before a0 Z = true) (ws : List Jvm.Cond) (pw : Int32) (h0 : Heap) (n0 : Nat) (Z0 : n0 ≤ h0.size) :
    MetFree l (⟨BLn, "lowBits", "(I)J"⟩ : MethodName) (head1 (Jvm.Cond.code (⟨BLn, "lowBits", "(I)J"⟩ : MethodName) prog_1_method_18_code 1 (some .long) :: ws) ({ frames := 0, cells := 0, slots := 0, locals := 0 } : Room)) (fun a U => a = #[(.int pw)] ∧ Z.Warmed39 U.vm ∧ U.heap = h0) (fun _ _ _ _ _ => True) (fun _ U o U' => ∃ v L, o = .returned v ∧ Q6 Z pw h0 n0 v U'.heap L ∧ FrameEnd U o U' L ({ frames := 0, cells := 0, slots := 0, locals := 0 } : Room).cells ({ frames := 0, cells := 0, slots := 0, locals := 0 } : Room).slots) := by
  refine MetFree.of_bodySF (plainFor_of_name own_pn1) hisR ?_
  intro p e s m args below meth c s₁ Bd hml0 hP hK
  obtain ⟨rfl, hZ, hh⟩ := hP
  have hx := Bd.exec
  have hby := Bd.bytes
  have hml : c.maxLocals = 1 := hml0
  have hown : s.vm.findClass BLn = some m.cls := findClass_of_methodNamed Bd.named
  have hnm := (name_of_methodNamed Bd.named Bd.method).1
  have X0 : Stand p l e ({ frames := 0, cells := 0, slots := 0, locals := 0 } : Room) s m #[(.int pw)] below meth c s₁ [] 0 0 := Stand.of_body Bd
  have e0 : s₁.heap = h0 := by rw [← hh, Bd.state]; rfl
  have N0 := Fr.nil n0
  have K0 : Keep h0 h0 [] := Keep.refl _ _
  suffices GO : ∀ P : Outcome → State → Prop, (∀ o U', (∃ v L, o = .returned v ∧ Q6 Z pw h0 n0 v U'.heap L ∧ FrameEnd s o U' L ({ frames := 0, cells := 0, slots := 0, locals := 0 } : Room).cells ({ frames := 0, cells := 0, slots := 0, locals := 0 } : Room).slots) → P o U') → Go p.tables e below P s₁ (mkF m 0 #[.val (.int pw)] []) by
    obtain ⟨s2, o, st, r⟩ := GO _ (fun _ _ q => q)
    exact ⟨s2, o, castTop (ef_6 m pw) st, r⟩
  clear hh
  intro P hP
  show Go p.tables e below P s₁ (mkF m 0 #[vi pw] [])
  refine gv (fun t k => X0.ldc2Long hx hown (mvT hZ (own_g hw 30 rfl)) (g := (mkF m 0 #[vi pw] [])) rfl (hb hby d6_0) t k) ?_
  refine gv (fun t k => XS.bipush X0.here hx rfl (hb hby d6_3) k) ?_
  refine gv (fun t k => XS.iloadN X0.here hx rfl (hb hby d6_5) rfl k) ?_
  refine gv (fun t k => XS.isub X0.here hx rfl (hb hby d6_6) rfl k) ?_
  refine gv (fun t k => XS.lushr X0.here hx rfl (hb hby d6_7) rfl k) ?_
  show Go p.tables e below P s₁ (mkF m 8 #[vi pw] [(.long (((-1 : Int64).toUInt64 >>> (((64 : Int32) - pw) &&& 0x3f).toInt64.toUInt64).toInt64))])
  obtain ⟨fs, hr, hrun, hended, hW, hsame⟩ := X0.leave (v := some (.long (own_lb pw))) (fun h => by rw [Bd.returns] at h; cases h)
  refine ⟨_, _, retJ X0 hx Bd.returns (hb hby d6_8) hr, hrun, hended, hP _ _ ⟨_, _, rfl, ?_, ⟨_, rfl⟩, hW, hsame.mono (by decide) (by decide)⟩⟩
  show Q6 Z pw h0 n0 _ s₁.heap _
  rw [e0]
  exact ⟨rfl, N0, rfl⟩
theorem own_pn2 : plainName "java/lang/Long" = true := by first | (simp [plainName, overriddenIn]; done) | decide +kernel
theorem d10_0 : D5 0 (.lload_n 0) 1 := by decide +kernel
theorem d10_1 : D5 1 (.lload_n 0) 1 := by decide +kernel
theorem d10_2 : D5 2 (.iconst 1) 1 := by decide +kernel
theorem d10_3 : D5 3 (.lushr) 1 := by decide +kernel
theorem d10_4 : D5 4 (.ldc2_w 314) 3 := by decide +kernel
theorem d10_7 : D5 7 (.land) 1 := by decide +kernel
theorem d10_8 : D5 8 (.lsub) 1 := by decide +kernel
theorem d10_9 : D5 9 (.lstore_n 0) 1 := by decide +kernel
theorem d10_10 : D5 10 (.lload_n 0) 1 := by decide +kernel
theorem d10_11 : D5 11 (.ldc2_w 316) 3 := by decide +kernel
theorem d10_14 : D5 14 (.land) 1 := by decide +kernel
theorem d10_15 : D5 15 (.lload_n 0) 1 := by decide +kernel
theorem d10_16 : D5 16 (.iconst 2) 1 := by decide +kernel
theorem d10_17 : D5 17 (.lushr) 1 := by decide +kernel
theorem d10_18 : D5 18 (.ldc2_w 316) 3 := by decide +kernel
theorem d10_21 : D5 21 (.land) 1 := by decide +kernel
theorem d10_22 : D5 22 (.ladd) 1 := by decide +kernel
theorem d10_23 : D5 23 (.lstore_n 0) 1 := by decide +kernel
theorem d10_24 : D5 24 (.lload_n 0) 1 := by decide +kernel
theorem d10_25 : D5 25 (.lload_n 0) 1 := by decide +kernel
theorem d10_26 : D5 26 (.iconst 4) 1 := by decide +kernel
theorem d10_27 : D5 27 (.lushr) 1 := by decide +kernel
theorem d10_28 : D5 28 (.ladd) 1 := by decide +kernel
theorem d10_29 : D5 29 (.ldc2_w 318) 3 := by decide +kernel
theorem d10_32 : D5 32 (.land) 1 := by decide +kernel
theorem d10_33 : D5 33 (.lstore_n 0) 1 := by decide +kernel
theorem d10_34 : D5 34 (.lload_n 0) 1 := by decide +kernel
theorem d10_35 : D5 35 (.lload_n 0) 1 := by decide +kernel
theorem d10_36 : D5 36 (.bipush 8) 2 := by decide +kernel
theorem d10_38 : D5 38 (.lushr) 1 := by decide +kernel
theorem d10_39 : D5 39 (.ladd) 1 := by decide +kernel
theorem d10_40 : D5 40 (.lstore_n 0) 1 := by decide +kernel
theorem d10_41 : D5 41 (.lload_n 0) 1 := by decide +kernel
theorem d10_42 : D5 42 (.lload_n 0) 1 := by decide +kernel
theorem d10_43 : D5 43 (.bipush 16) 2 := by decide +kernel
theorem d10_45 : D5 45 (.lushr) 1 := by decide +kernel
theorem d10_46 : D5 46 (.ladd) 1 := by decide +kernel
theorem d10_47 : D5 47 (.lstore_n 0) 1 := by decide +kernel
theorem d10_48 : D5 48 (.lload_n 0) 1 := by decide +kernel
theorem d10_49 : D5 49 (.lload_n 0) 1 := by decide +kernel
theorem d10_50 : D5 50 (.bipush 32) 2 := by decide +kernel
theorem d10_52 : D5 52 (.lushr) 1 := by decide +kernel
theorem d10_53 : D5 53 (.ladd) 1 := by decide +kernel
theorem d10_54 : D5 54 (.lstore_n 0) 1 := by decide +kernel
theorem d10_55 : D5 55 (.lload_n 0) 1 := by decide +kernel
theorem d10_56 : D5 56 (.l2i) 1 := by decide +kernel
theorem d10_57 : D5 57 (.bipush 127) 2 := by decide +kernel
theorem d10_59 : D5 59 (.iand) 1 := by decide +kernel
theorem d10_60 : D5 60 (.ireturn) 1 := by decide +kernel
theorem ef_10 (m : MethodId) (x0 : Int64) : entryFrame m #[(.long x0)] 2 = mkF m 0 #[.val (.long x0), .second] [] := by first | (simp [entryFrame, mkF, argsToLocals, Value.category]; done) | rfl
def Q10 (Z : State) (qx : Int64) (h0 : Heap) (n0 : Nat) (v : Option Value) (h : Heap) (L : List Loc) : Prop := v = some (.int (own_bc qx)) ∧ Fr n0 L ∧ h = h0
set_option maxRecDepth 65536 in
set_option maxHeartbeats 40000000 in
theorem rm10 (l : Launch) (Z : State) (a0 : Array Value) (hw : ∀ d ∈ tables_1, d.before a0 Z = true) (ws : List Jvm.Cond) (qx : Int64) (h0 : Heap) (n0 : Nat) (Z0 : n0 ≤ h0.size) :
    MetFree l (⟨"java/lang/Long", "bitCount", "(J)I"⟩ : MethodName) (head1 (Jvm.Cond.code (⟨"java/lang/Long", "bitCount", "(J)I"⟩ : MethodName) jdk_35_method_50_code 2 (some .int) :: ws) ({ frames := 0, cells := 0, slots := 0, locals := 0 } : Room)) (fun a U => a = #[(.long qx)] ∧ Z.Warmed39 U.vm ∧ U.heap = h0) (fun _ _ _ _ _ => True) (fun _ U o U' => ∃ v L, o = .returned v ∧ Q10 Z qx h0 n0 v U'.heap L ∧ FrameEnd U o U' L ({ frames := 0, cells := 0, slots := 0, locals := 0 } : Room).cells ({ frames := 0, cells := 0, slots := 0, locals := 0 } : Room).slots) := by
  refine MetFree.of_bodySF (plainFor_of_name own_pn2) hisR ?_
  intro p e s m args below meth c s₁ Bd hml0 hP hK
  obtain ⟨rfl, hZ, hh⟩ := hP
  have hx := Bd.exec
  have hby := Bd.bytes
  have hml : c.maxLocals = 2 := hml0
  have hown : s.vm.findClass "java/lang/Long" = some m.cls := findClass_of_methodNamed Bd.named
  have hnm := (name_of_methodNamed Bd.named Bd.method).1
  have X0 : Stand p l e ({ frames := 0, cells := 0, slots := 0, locals := 0 } : Room) s m #[(.long qx)] below meth c s₁ [] 0 0 := Stand.of_body Bd
  have e0 : s₁.heap = h0 := by rw [← hh, Bd.state]; rfl
  have N0 := Fr.nil n0
  have K0 : Keep h0 h0 [] := Keep.refl _ _
  suffices GO : ∀ P : Outcome → State → Prop, (∀ o U', (∃ v L, o = .returned v ∧ Q10 Z qx h0 n0 v U'.heap L ∧ FrameEnd s o U' L ({ frames := 0, cells := 0, slots := 0, locals := 0 } : Room).cells ({ frames := 0, cells := 0, slots := 0, locals := 0 } : Room).slots) → P o U') → Go p.tables e below P s₁ (mkF m 0 #[.val (.long qx), .second] []) by
    obtain ⟨s2, o, st, r⟩ := GO _ (fun _ _ q => q)
    exact ⟨s2, o, castTop (ef_10 m qx) st, r⟩
  clear hh
  intro P hP
  show Go p.tables e below P s₁ (mkF m 0 #[vj qx, v2] [])
  refine gv (fun t k => XS.lloadN X0.here hx rfl (hb hby d10_0) rfl k) ?_
  refine gv (fun t k => XS.lloadN X0.here hx rfl (hb hby d10_1) rfl k) ?_
  refine gv (fun t k => XS.iconst X0.here hx rfl (hb hby d10_2) k) ?_
  refine gv (fun t k => XS.lushr X0.here hx rfl (hb hby d10_3) rfl k) ?_
  refine gv (fun t k => X0.ldc2Long hx hown (mvT hZ (own_g hw 75 rfl)) (g := (mkF m 4 #[vj qx, v2] [(.long ((qx.toUInt64 >>> ((1 : Int32) &&& 0x3f).toInt64.toUInt64).toInt64)), (.long qx)])) rfl (hb hby d10_4) t k) ?_
  refine gv (fun t k => XS.land X0.here hx rfl (hb hby d10_7) rfl k) ?_
  refine gv (fun t k => XS.lsub X0.here hx rfl (hb hby d10_8) rfl k) ?_
  refine gv (fun t k => XS.lstoreN X0.here hx rfl (hb hby d10_9) rfl (l' := #[vj (qx - (((qx.toUInt64 >>> ((1 : Int32) &&& 0x3f).toInt64.toUInt64).toInt64) &&& (6148914691236517205 : Int64))), v2]) rfl k) ?_
  show Go p.tables e below P s₁ (mkF m 10 #[vj (qx - (((qx.toUInt64 >>> ((1 : Int32) &&& 0x3f).toInt64.toUInt64).toInt64) &&& (6148914691236517205 : Int64))), v2] [])
  obtain ⟨zz0, hzz0⟩ : ∃ z, z = (qx - (((qx.toUInt64 >>> ((1 : Int32) &&& 0x3f).toInt64.toUInt64).toInt64) &&& (6148914691236517205 : Int64))) := ⟨_, rfl⟩
  rw [← hzz0]
  refine gv (fun t k => XS.lloadN X0.here hx rfl (hb hby d10_10) rfl k) ?_
  refine gv (fun t k => X0.ldc2Long hx hown (mvT hZ (own_g hw 76 rfl)) (g := (mkF m 11 #[vj zz0, v2] [(.long zz0)])) rfl (hb hby d10_11) t k) ?_
  refine gv (fun t k => XS.land X0.here hx rfl (hb hby d10_14) rfl k) ?_
  refine gv (fun t k => XS.lloadN X0.here hx rfl (hb hby d10_15) rfl k) ?_
  refine gv (fun t k => XS.iconst X0.here hx rfl (hb hby d10_16) k) ?_
  refine gv (fun t k => XS.lushr X0.here hx rfl (hb hby d10_17) rfl k) ?_
  refine gv (fun t k => X0.ldc2Long hx hown (mvT hZ (own_g hw 76 rfl)) (g := (mkF m 18 #[vj zz0, v2] [(.long ((zz0.toUInt64 >>> ((2 : Int32) &&& 0x3f).toInt64.toUInt64).toInt64)), (.long (zz0 &&& (3689348814741910323 : Int64)))])) rfl (hb hby d10_18) t k) ?_
  refine gv (fun t k => XS.land X0.here hx rfl (hb hby d10_21) rfl k) ?_
  refine gv (fun t k => XS.ladd X0.here hx rfl (hb hby d10_22) rfl k) ?_
  show Go p.tables e below P s₁ (mkF m 23 #[vj zz0, v2] [(.long ((zz0 &&& (3689348814741910323 : Int64)) + (((zz0.toUInt64 >>> ((2 : Int32) &&& 0x3f).toInt64.toUInt64).toInt64) &&& (3689348814741910323 : Int64))))])
  refine gv (fun t k => XS.lstoreN X0.here hx rfl (hb hby d10_23) rfl (l' := #[vj ((zz0 &&& (3689348814741910323 : Int64)) + (((zz0.toUInt64 >>> ((2 : Int32) &&& 0x3f).toInt64.toUInt64).toInt64) &&& (3689348814741910323 : Int64))), v2]) rfl k) ?_
  show Go p.tables e below P s₁ (mkF m 24 #[vj ((zz0 &&& (3689348814741910323 : Int64)) + (((zz0.toUInt64 >>> ((2 : Int32) &&& 0x3f).toInt64.toUInt64).toInt64) &&& (3689348814741910323 : Int64))), v2] [])
  obtain ⟨zz1, hzz1⟩ : ∃ z, z = ((zz0 &&& (3689348814741910323 : Int64)) + (((zz0.toUInt64 >>> ((2 : Int32) &&& 0x3f).toInt64.toUInt64).toInt64) &&& (3689348814741910323 : Int64))) := ⟨_, rfl⟩
  rw [← hzz1]
  refine gv (fun t k => XS.lloadN X0.here hx rfl (hb hby d10_24) rfl k) ?_
  refine gv (fun t k => XS.lloadN X0.here hx rfl (hb hby d10_25) rfl k) ?_
  refine gv (fun t k => XS.iconst X0.here hx rfl (hb hby d10_26) k) ?_
  refine gv (fun t k => XS.lushr X0.here hx rfl (hb hby d10_27) rfl k) ?_
  refine gv (fun t k => XS.ladd X0.here hx rfl (hb hby d10_28) rfl k) ?_
  refine gv (fun t k => X0.ldc2Long hx hown (mvT hZ (own_g hw 77 rfl)) (g := (mkF m 29 #[vj zz1, v2] [(.long (zz1 + ((zz1.toUInt64 >>> ((4 : Int32) &&& 0x3f).toInt64.toUInt64).toInt64)))])) rfl (hb hby d10_29) t k) ?_
  refine gv (fun t k => XS.land X0.here hx rfl (hb hby d10_32) rfl k) ?_
  refine gv (fun t k => XS.lstoreN X0.here hx rfl (hb hby d10_33) rfl (l' := #[vj ((zz1 + ((zz1.toUInt64 >>> ((4 : Int32) &&& 0x3f).toInt64.toUInt64).toInt64)) &&& (1085102592571150095 : Int64)), v2]) rfl k) ?_
  show Go p.tables e below P s₁ (mkF m 34 #[vj ((zz1 + ((zz1.toUInt64 >>> ((4 : Int32) &&& 0x3f).toInt64.toUInt64).toInt64)) &&& (1085102592571150095 : Int64)), v2] [])
  obtain ⟨zz2, hzz2⟩ : ∃ z, z = ((zz1 + ((zz1.toUInt64 >>> ((4 : Int32) &&& 0x3f).toInt64.toUInt64).toInt64)) &&& (1085102592571150095 : Int64)) := ⟨_, rfl⟩
  rw [← hzz2]
  refine gv (fun t k => XS.lloadN X0.here hx rfl (hb hby d10_34) rfl k) ?_
  refine gv (fun t k => XS.lloadN X0.here hx rfl (hb hby d10_35) rfl k) ?_
  refine gv (fun t k => XS.bipush X0.here hx rfl (hb hby d10_36) k) ?_
  refine gv (fun t k => XS.lushr X0.here hx rfl (hb hby d10_38) rfl k) ?_
  refine gv (fun t k => XS.ladd X0.here hx rfl (hb hby d10_39) rfl k) ?_
  refine gv (fun t k => XS.lstoreN X0.here hx rfl (hb hby d10_40) rfl (l' := #[vj (zz2 + ((zz2.toUInt64 >>> ((8 : Int32) &&& 0x3f).toInt64.toUInt64).toInt64)), v2]) rfl k) ?_
  show Go p.tables e below P s₁ (mkF m 41 #[vj (zz2 + ((zz2.toUInt64 >>> ((8 : Int32) &&& 0x3f).toInt64.toUInt64).toInt64)), v2] [])
  obtain ⟨zz3, hzz3⟩ : ∃ z, z = (zz2 + ((zz2.toUInt64 >>> ((8 : Int32) &&& 0x3f).toInt64.toUInt64).toInt64)) := ⟨_, rfl⟩
  rw [← hzz3]
  refine gv (fun t k => XS.lloadN X0.here hx rfl (hb hby d10_41) rfl k) ?_
  refine gv (fun t k => XS.lloadN X0.here hx rfl (hb hby d10_42) rfl k) ?_
  refine gv (fun t k => XS.bipush X0.here hx rfl (hb hby d10_43) k) ?_
  refine gv (fun t k => XS.lushr X0.here hx rfl (hb hby d10_45) rfl k) ?_
  refine gv (fun t k => XS.ladd X0.here hx rfl (hb hby d10_46) rfl k) ?_
  refine gv (fun t k => XS.lstoreN X0.here hx rfl (hb hby d10_47) rfl (l' := #[vj (zz3 + ((zz3.toUInt64 >>> ((16 : Int32) &&& 0x3f).toInt64.toUInt64).toInt64)), v2]) rfl k) ?_
  show Go p.tables e below P s₁ (mkF m 48 #[vj (zz3 + ((zz3.toUInt64 >>> ((16 : Int32) &&& 0x3f).toInt64.toUInt64).toInt64)), v2] [])
  obtain ⟨zz4, hzz4⟩ : ∃ z, z = (zz3 + ((zz3.toUInt64 >>> ((16 : Int32) &&& 0x3f).toInt64.toUInt64).toInt64)) := ⟨_, rfl⟩
  rw [← hzz4]
  refine gv (fun t k => XS.lloadN X0.here hx rfl (hb hby d10_48) rfl k) ?_
  refine gv (fun t k => XS.lloadN X0.here hx rfl (hb hby d10_49) rfl k) ?_
  refine gv (fun t k => XS.bipush X0.here hx rfl (hb hby d10_50) k) ?_
  refine gv (fun t k => XS.lushr X0.here hx rfl (hb hby d10_52) rfl k) ?_
  refine gv (fun t k => XS.ladd X0.here hx rfl (hb hby d10_53) rfl k) ?_
  refine gv (fun t k => XS.lstoreN X0.here hx rfl (hb hby d10_54) rfl (l' := #[vj (zz4 + ((zz4.toUInt64 >>> ((32 : Int32) &&& 0x3f).toInt64.toUInt64).toInt64)), v2]) rfl k) ?_
  show Go p.tables e below P s₁ (mkF m 55 #[vj (zz4 + ((zz4.toUInt64 >>> ((32 : Int32) &&& 0x3f).toInt64.toUInt64).toInt64)), v2] [])
  obtain ⟨zz5, hzz5⟩ : ∃ z, z = (zz4 + ((zz4.toUInt64 >>> ((32 : Int32) &&& 0x3f).toInt64.toUInt64).toInt64)) := ⟨_, rfl⟩
  rw [← hzz5]
  refine gv (fun t k => XS.lloadN X0.here hx rfl (hb hby d10_55) rfl k) ?_
  refine gv (fun t k => XS.l2i X0.here hx rfl (hb hby d10_56) rfl k) ?_
  refine gv (fun t k => XS.bipush X0.here hx rfl (hb hby d10_57) k) ?_
  refine gv (fun t k => XS.iand X0.here hx rfl (hb hby d10_59) rfl k) ?_
  show Go p.tables e below P s₁ (mkF m 60 #[vj zz5, v2] [(.int ((zz5.toInt32) &&& (127 : Int32)))])
  obtain ⟨fs, hr, hrun, hended, hW, hsame⟩ := X0.leave (v := some (.int (own_bc qx))) (fun h => by rw [Bd.returns] at h; cases h)
  refine ⟨_, _, (by have q := retI X0 hx Bd.returns (hb hby d10_60) (z := ((zz5.toInt32) &&& (127 : Int32))) (rest := []) (pc := 60) (Ls := #[.val (.long zz5), .second]) (by rw [(show ((zz5.toInt32) &&& (127 : Int32)) = own_bc qx from by subst hzz5 hzz4 hzz3 hzz2 hzz1 hzz0; rfl)]; exact hr); exact q), hrun, hended, hP _ _ ⟨_, _, rfl, ?_, ⟨_, rfl⟩, hW, hsame.mono (by decide) (by decide)⟩⟩
  show Q10 Z qx h0 n0 _ s₁.heap _
  rw [e0]
  exact ⟨rfl, N0, rfl⟩
theorem own_pn3 : plainName "java/lang/Integer" = true := by first | (simp [plainName, overriddenIn]; done) | decide +kernel
theorem d12_0 : D6 0 (.iload_n 0) 1 := by decide +kernel
theorem d12_1 : D6 1 (.iconst (-1)) 1 := by decide +kernel
theorem d12_2 : D6 2 (.ixor) 1 := by decide +kernel
theorem d12_3 : D6 3 (.iload_n 0) 1 := by decide +kernel
theorem d12_4 : D6 4 (.iconst 1) 1 := by decide +kernel
theorem d12_5 : D6 5 (.isub) 1 := by decide +kernel
theorem d12_6 : D6 6 (.iand) 1 := by decide +kernel
theorem d12_7 : D6 7 (.istore_n 0) 1 := by decide +kernel
theorem d12_8 : D6 8 (.iload_n 0) 1 := by decide +kernel
theorem d12_9 : D6 9 (.ifCond .gt 8) 3 := by decide +kernel
theorem d12_12 : D6 12 (.iload_n 0) 1 := by decide +kernel
theorem d12_13 : D6 13 (.bipush 32) 2 := by decide +kernel
theorem d12_15 : D6 15 (.iand) 1 := by decide +kernel
theorem d12_16 : D6 16 (.ireturn) 1 := by decide +kernel
theorem d12_17 : D6 17 (.iconst 1) 1 := by decide +kernel
theorem d12_18 : D6 18 (.istore_n 1) 1 := by decide +kernel
theorem d12_19 : D6 19 (.iload_n 0) 1 := by decide +kernel
theorem d12_20 : D6 20 (.ldc_w 264) 3 := by decide +kernel
theorem d12_23 : D6 23 (.if_icmp .le 11) 3 := by decide +kernel
theorem d12_26 : D6 26 (.iinc 1 16) 3 := by decide +kernel
theorem d12_29 : D6 29 (.iload_n 0) 1 := by decide +kernel
theorem d12_30 : D6 30 (.bipush 16) 2 := by decide +kernel
theorem d12_32 : D6 32 (.iushr) 1 := by decide +kernel
theorem d12_33 : D6 33 (.istore_n 0) 1 := by decide +kernel
theorem d12_34 : D6 34 (.iload_n 0) 1 := by decide +kernel
theorem d12_35 : D6 35 (.sipush 256) 3 := by decide +kernel
theorem d12_38 : D6 38 (.if_icmp .le 11) 3 := by decide +kernel
theorem d12_41 : D6 41 (.iinc 1 8) 3 := by decide +kernel
theorem d12_44 : D6 44 (.iload_n 0) 1 := by decide +kernel
theorem d12_45 : D6 45 (.bipush 8) 2 := by decide +kernel
theorem d12_47 : D6 47 (.iushr) 1 := by decide +kernel
theorem d12_48 : D6 48 (.istore_n 0) 1 := by decide +kernel
theorem d12_49 : D6 49 (.iload_n 0) 1 := by decide +kernel
theorem d12_50 : D6 50 (.bipush 16) 2 := by decide +kernel
theorem d12_52 : D6 52 (.if_icmp .le 10) 3 := by decide +kernel
theorem d12_55 : D6 55 (.iinc 1 4) 3 := by decide +kernel
theorem d12_58 : D6 58 (.iload_n 0) 1 := by decide +kernel
theorem d12_59 : D6 59 (.iconst 4) 1 := by decide +kernel
theorem d12_60 : D6 60 (.iushr) 1 := by decide +kernel
theorem d12_61 : D6 61 (.istore_n 0) 1 := by decide +kernel
theorem d12_62 : D6 62 (.iload_n 0) 1 := by decide +kernel
theorem d12_63 : D6 63 (.iconst 4) 1 := by decide +kernel
theorem d12_64 : D6 64 (.if_icmp .le 10) 3 := by decide +kernel
theorem d12_67 : D6 67 (.iinc 1 2) 3 := by decide +kernel
theorem d12_70 : D6 70 (.iload_n 0) 1 := by decide +kernel
theorem d12_71 : D6 71 (.iconst 2) 1 := by decide +kernel
theorem d12_72 : D6 72 (.iushr) 1 := by decide +kernel
theorem d12_73 : D6 73 (.istore_n 0) 1 := by decide +kernel
theorem d12_74 : D6 74 (.iload_n 1) 1 := by decide +kernel
theorem d12_75 : D6 75 (.iload_n 0) 1 := by decide +kernel
theorem d12_76 : D6 76 (.iconst 1) 1 := by decide +kernel
theorem d12_77 : D6 77 (.iushr) 1 := by decide +kernel
theorem d12_78 : D6 78 (.iadd) 1 := by decide +kernel
theorem d12_79 : D6 79 (.ireturn) 1 := by decide +kernel
theorem ef_12 (m : MethodId) (x0 : Int32) : entryFrame m #[(.int x0)] 2 = mkF m 0 #[.val (.int x0), .unset] [] := by first | (simp [entryFrame, mkF, argsToLocals, Value.category]; done) | rfl
def Q12 (Z : State) (qx : Int32) (h0 : Heap) (n0 : Nat) (v : Option Value) (h : Heap) (L : List Loc) : Prop := ∃ (qr : Int32), v = some (.int qr) ∧ Fr n0 L ∧ h = h0
set_option maxRecDepth 65536 in
set_option maxHeartbeats 40000000 in
theorem rm12 (l : Launch) (Z : State) (a0 : Array Value) (hw : ∀ d ∈ tables_1, d.before a0 Z = true) (ws : List Jvm.Cond) (qx : Int32) (h0 : Heap) (n0 : Nat) (Z0 : n0 ≤ h0.size) :
    MetFree l (⟨"java/lang/Integer", "numberOfTrailingZeros", "(I)I"⟩ : MethodName) (head1 (Jvm.Cond.code (⟨"java/lang/Integer", "numberOfTrailingZeros", "(I)I"⟩ : MethodName) jdk_33_method_48_code 2 (some .int) :: ws) ({ frames := 0, cells := 0, slots := 0, locals := 0 } : Room)) (fun a U => a = #[(.int qx)] ∧ Z.Warmed39 U.vm ∧ U.heap = h0) (fun _ _ _ _ _ => True) (fun _ U o U' => ∃ v L, o = .returned v ∧ Q12 Z qx h0 n0 v U'.heap L ∧ FrameEnd U o U' L ({ frames := 0, cells := 0, slots := 0, locals := 0 } : Room).cells ({ frames := 0, cells := 0, slots := 0, locals := 0 } : Room).slots) := by
  refine MetFree.of_bodySF (plainFor_of_name own_pn3) hisR ?_
  intro p e s m args below meth c s₁ Bd hml0 hP hK
  obtain ⟨rfl, hZ, hh⟩ := hP
  have hx := Bd.exec
  have hby := Bd.bytes
  have hml : c.maxLocals = 2 := hml0
  have hown : s.vm.findClass "java/lang/Integer" = some m.cls := findClass_of_methodNamed Bd.named
  have hnm := (name_of_methodNamed Bd.named Bd.method).1
  have X0 : Stand p l e ({ frames := 0, cells := 0, slots := 0, locals := 0 } : Room) s m #[(.int qx)] below meth c s₁ [] 0 0 := Stand.of_body Bd
  have e0 : s₁.heap = h0 := by rw [← hh, Bd.state]; rfl
  have N0 := Fr.nil n0
  have K0 : Keep h0 h0 [] := Keep.refl _ _
  suffices GO : ∀ P : Outcome → State → Prop, (∀ o U', (∃ v L, o = .returned v ∧ Q12 Z qx h0 n0 v U'.heap L ∧ FrameEnd s o U' L ({ frames := 0, cells := 0, slots := 0, locals := 0 } : Room).cells ({ frames := 0, cells := 0, slots := 0, locals := 0 } : Room).slots) → P o U') → Go p.tables e below P s₁ (mkF m 0 #[.val (.int qx), .unset] []) by
    obtain ⟨s2, o, st, r⟩ := GO _ (fun _ _ q => q)
    exact ⟨s2, o, castTop (ef_12 m qx) st, r⟩
  clear hh
  intro P hP
  show Go p.tables e below P s₁ (mkF m 0 #[vi qx, vu] [])
  refine gv (fun t k => XS.iloadN X0.here hx rfl (hb hby d12_0) rfl k) ?_
  refine gv (fun t k => XS.iconst X0.here hx rfl (hb hby d12_1) k) ?_
  refine gv (fun t k => XS.ixor X0.here hx rfl (hb hby d12_2) rfl k) ?_
  refine gv (fun t k => XS.iloadN X0.here hx rfl (hb hby d12_3) rfl k) ?_
  refine gv (fun t k => XS.iconst X0.here hx rfl (hb hby d12_4) k) ?_
  refine gv (fun t k => XS.isub X0.here hx rfl (hb hby d12_5) rfl k) ?_
  refine gv (fun t k => XS.iand X0.here hx rfl (hb hby d12_6) rfl k) ?_
  refine gv (fun t k => XS.istoreN X0.here hx rfl (hb hby d12_7) rfl (l' := #[vi ((qx ^^^ (-1 : Int32)) &&& (qx - (1 : Int32))), vu]) rfl k) ?_
  refine gv (fun t k => XS.iloadN X0.here hx rfl (hb hby d12_8) rfl k) ?_
  show Go p.tables e below P s₁ (mkF m 9 #[vi ((qx ^^^ (-1 : Int32)) &&& (qx - (1 : Int32))), vu] [(.int ((qx ^^^ (-1 : Int32)) &&& (qx - (1 : Int32))))])
  by_cases hc1 : (0 : Int32) < ((qx ^^^ (-1 : Int32)) &&& (qx - (1 : Int32)))
  · refine gv (fun t k => XS.ifYes X0.here hx rfl (pc0 := 9) (pc' := 17) rfl (hb hby d12_9) rfl ((if0 _ _).trans (tlt hc1).2.2.1) (by decide) (by decide) k) ?_
    refine gv (fun t k => XS.iconst X0.here hx rfl (hb hby d12_17) k) ?_
    refine gv (fun t k => XS.istoreN X0.here hx rfl (hb hby d12_18) rfl (l' := #[vi ((qx ^^^ (-1 : Int32)) &&& (qx - (1 : Int32))), vi 1]) rfl k) ?_
    refine gv (fun t k => XS.iloadN X0.here hx rfl (hb hby d12_19) rfl k) ?_
    refine gv (fun t k => X0.ldcwInt hx hown (mvT hZ (own_g hw 109 rfl)) (g := (mkF m 20 #[vi ((qx ^^^ (-1 : Int32)) &&& (qx - (1 : Int32))), vi 1] [(.int ((qx ^^^ (-1 : Int32)) &&& (qx - (1 : Int32))))])) rfl (hb hby d12_20) t k) ?_
    show Go p.tables e below P s₁ (mkF m 23 #[vi ((qx ^^^ (-1 : Int32)) &&& (qx - (1 : Int32))), vi 1] [(.int 65536), (.int ((qx ^^^ (-1 : Int32)) &&& (qx - (1 : Int32))))])
    have J3 : ∀ (T3 : State) (locs3 : List Loc) (v3_0 : Int32) (v3_1 : Int32), Stand p l e ({ frames := 0, cells := 0, slots := 0, locals := 0 } : Room) s m #[(.int qx)] below meth c T3 locs3 0 0 → T3.heap = h0 → Fr n0 locs3 → v3_0 = (if (65536 : Int32) < ((qx ^^^ (-1 : Int32)) &&& (qx - (1 : Int32))) then ((((qx ^^^ (-1 : Int32)) &&& (qx - (1 : Int32))).toUInt32 >>> ((16 : Int32) &&& 31).toUInt32).toInt32) else ((qx ^^^ (-1 : Int32)) &&& (qx - (1 : Int32)))) → v3_1 = (if (65536 : Int32) < ((qx ^^^ (-1 : Int32)) &&& (qx - (1 : Int32))) then ((1 : Int32) + (16 : Int32)) else (1 : Int32)) → Go p.tables e below P T3 (mkF m 34 #[.val (.int v3_0), .val (.int v3_1)] []) := by
      intro T3 locs3 v3_0 v3_1 X3 e3 N3 hv3_0 hv3_1
      show Go p.tables e below P T3 (mkF m 34 #[vi v3_0, vi v3_1] [])
      refine gv (fun t k => XS.iloadN X3.here hx rfl (hb hby d12_34) rfl k) ?_
      refine gv (fun t k => XS.sipush X3.here hx rfl (hb hby d12_35) k) ?_
      show Go p.tables e below P T3 (mkF m 38 #[vi v3_0, vi v3_1] [(.int 256), (.int v3_0)])
      have J5 : ∀ (T5 : State) (locs5 : List Loc) (v5_0 : Int32) (v5_1 : Int32), Stand p l e ({ frames := 0, cells := 0, slots := 0, locals := 0 } : Room) s m #[(.int qx)] below meth c T5 locs5 0 0 → T5.heap = h0 → Fr n0 locs5 → v5_0 = (if (256 : Int32) < v3_0 then ((v3_0.toUInt32 >>> ((8 : Int32) &&& 31).toUInt32).toInt32) else v3_0) → v5_1 = (if (256 : Int32) < v3_0 then (v3_1 + (8 : Int32)) else v3_1) → Go p.tables e below P T5 (mkF m 49 #[.val (.int v5_0), .val (.int v5_1)] []) := by
        intro T5 locs5 v5_0 v5_1 X5 e5 N5 hv5_0 hv5_1
        show Go p.tables e below P T5 (mkF m 49 #[vi v5_0, vi v5_1] [])
        refine gv (fun t k => XS.iloadN X5.here hx rfl (hb hby d12_49) rfl k) ?_
        refine gv (fun t k => XS.bipush X5.here hx rfl (hb hby d12_50) k) ?_
        show Go p.tables e below P T5 (mkF m 52 #[vi v5_0, vi v5_1] [(.int 16), (.int v5_0)])
        have J7 : ∀ (T7 : State) (locs7 : List Loc) (v7_0 : Int32) (v7_1 : Int32), Stand p l e ({ frames := 0, cells := 0, slots := 0, locals := 0 } : Room) s m #[(.int qx)] below meth c T7 locs7 0 0 → T7.heap = h0 → Fr n0 locs7 → v7_0 = (if (16 : Int32) < v5_0 then ((v5_0.toUInt32 >>> ((4 : Int32) &&& 31).toUInt32).toInt32) else v5_0) → v7_1 = (if (16 : Int32) < v5_0 then (v5_1 + (4 : Int32)) else v5_1) → Go p.tables e below P T7 (mkF m 62 #[.val (.int v7_0), .val (.int v7_1)] []) := by
          intro T7 locs7 v7_0 v7_1 X7 e7 N7 hv7_0 hv7_1
          show Go p.tables e below P T7 (mkF m 62 #[vi v7_0, vi v7_1] [])
          refine gv (fun t k => XS.iloadN X7.here hx rfl (hb hby d12_62) rfl k) ?_
          refine gv (fun t k => XS.iconst X7.here hx rfl (hb hby d12_63) k) ?_
          show Go p.tables e below P T7 (mkF m 64 #[vi v7_0, vi v7_1] [(.int 4), (.int v7_0)])
          have J9 : ∀ (T9 : State) (locs9 : List Loc) (v9_0 : Int32) (v9_1 : Int32), Stand p l e ({ frames := 0, cells := 0, slots := 0, locals := 0 } : Room) s m #[(.int qx)] below meth c T9 locs9 0 0 → T9.heap = h0 → Fr n0 locs9 → v9_0 = (if (4 : Int32) < v7_0 then ((v7_0.toUInt32 >>> ((2 : Int32) &&& 31).toUInt32).toInt32) else v7_0) → v9_1 = (if (4 : Int32) < v7_0 then (v7_1 + (2 : Int32)) else v7_1) → Go p.tables e below P T9 (mkF m 74 #[.val (.int v9_0), .val (.int v9_1)] []) := by
            intro T9 locs9 v9_0 v9_1 X9 e9 N9 hv9_0 hv9_1
            show Go p.tables e below P T9 (mkF m 74 #[vi v9_0, vi v9_1] [])
            refine gv (fun t k => XS.iloadN X9.here hx rfl (hb hby d12_74) rfl k) ?_
            refine gv (fun t k => XS.iloadN X9.here hx rfl (hb hby d12_75) rfl k) ?_
            refine gv (fun t k => XS.iconst X9.here hx rfl (hb hby d12_76) k) ?_
            refine gv (fun t k => XS.iushr X9.here hx rfl (hb hby d12_77) rfl k) ?_
            refine gv (fun t k => XS.iadd X9.here hx rfl (hb hby d12_78) rfl k) ?_
            show Go p.tables e below P T9 (mkF m 79 #[vi v9_0, vi v9_1] [(.int (v9_1 + ((v9_0.toUInt32 >>> ((1 : Int32) &&& 31).toUInt32).toInt32)))])
            obtain ⟨fs, hr, hrun, hended, hW, hsame⟩ := X9.leave (v := some (.int (v9_1 + ((v9_0.toUInt32 >>> ((1 : Int32) &&& 31).toUInt32).toInt32)))) (fun h => by rw [Bd.returns] at h; cases h)
            refine ⟨_, _, retI X9 hx Bd.returns (hb hby d12_79) hr, hrun, hended, hP _ _ ⟨_, _, rfl, ?_, ⟨_, rfl⟩, hW, hsame.mono (by decide) (by decide)⟩⟩
            show Q12 Z qx h0 n0 _ T9.heap _
            rw [e9]
            exact ⟨(v9_1 + ((v9_0.toUInt32 >>> ((1 : Int32) &&& 31).toUInt32).toInt32)), rfl, N9, rfl⟩
          by_cases hc8 : (4 : Int32) < v7_0
          · refine gv (fun t k => XS.icmpNo X7.here hx rfl (hb hby d12_64) rfl (tlt hc8).2.2.2 k) ?_
            refine gv (fun t k => XS.iinc X7.here hx rfl (hb hby d12_67) rfl (l' := #[vi v7_0, vi (v7_1 + (2 : Int32))]) rfl k) ?_
            refine gv (fun t k => XS.iloadN X7.here hx rfl (hb hby d12_70) rfl k) ?_
            refine gv (fun t k => XS.iconst X7.here hx rfl (hb hby d12_71) k) ?_
            refine gv (fun t k => XS.iushr X7.here hx rfl (hb hby d12_72) rfl k) ?_
            refine gv (fun t k => XS.istoreN X7.here hx rfl (hb hby d12_73) rfl (l' := #[vi ((v7_0.toUInt32 >>> ((2 : Int32) &&& 31).toUInt32).toInt32), vi (v7_1 + (2 : Int32))]) rfl k) ?_
            exact J9 T7 _ ((v7_0.toUInt32 >>> ((2 : Int32) &&& 31).toUInt32).toInt32) (v7_1 + (2 : Int32)) X7 e7 N7 (if_pos hc8).symm (if_pos hc8).symm
          · refine gv (fun t k => XS.icmpYes X7.here hx rfl (pc0 := 64) (pc' := 74) rfl (hb hby d12_64) rfl (flt hc8).2.2.2 (by decide) (by decide) k) ?_
            exact J9 T7 _ v7_0 v7_1 X7 e7 N7 (if_neg hc8).symm (if_neg hc8).symm
        by_cases hc6 : (16 : Int32) < v5_0
        · refine gv (fun t k => XS.icmpNo X5.here hx rfl (hb hby d12_52) rfl (tlt hc6).2.2.2 k) ?_
          refine gv (fun t k => XS.iinc X5.here hx rfl (hb hby d12_55) rfl (l' := #[vi v5_0, vi (v5_1 + (4 : Int32))]) rfl k) ?_
          refine gv (fun t k => XS.iloadN X5.here hx rfl (hb hby d12_58) rfl k) ?_
          refine gv (fun t k => XS.iconst X5.here hx rfl (hb hby d12_59) k) ?_
          show Go p.tables e below P T5 (mkF m 60 #[vi v5_0, vi (v5_1 + (4 : Int32))] [(.int 4), (.int v5_0)])
          refine gv (fun t k => XS.iushr X5.here hx rfl (hb hby d12_60) rfl k) ?_
          refine gv (fun t k => XS.istoreN X5.here hx rfl (hb hby d12_61) rfl (l' := #[vi ((v5_0.toUInt32 >>> ((4 : Int32) &&& 31).toUInt32).toInt32), vi (v5_1 + (4 : Int32))]) rfl k) ?_
          exact J7 T5 _ ((v5_0.toUInt32 >>> ((4 : Int32) &&& 31).toUInt32).toInt32) (v5_1 + (4 : Int32)) X5 e5 N5 (if_pos hc6).symm (if_pos hc6).symm
        · refine gv (fun t k => XS.icmpYes X5.here hx rfl (pc0 := 52) (pc' := 62) rfl (hb hby d12_52) rfl (flt hc6).2.2.2 (by decide) (by decide) k) ?_
          exact J7 T5 _ v5_0 v5_1 X5 e5 N5 (if_neg hc6).symm (if_neg hc6).symm
      by_cases hc4 : (256 : Int32) < v3_0
      · refine gv (fun t k => XS.icmpNo X3.here hx rfl (hb hby d12_38) rfl (tlt hc4).2.2.2 k) ?_
        refine gv (fun t k => XS.iinc X3.here hx rfl (hb hby d12_41) rfl (l' := #[vi v3_0, vi (v3_1 + (8 : Int32))]) rfl k) ?_
        refine gv (fun t k => XS.iloadN X3.here hx rfl (hb hby d12_44) rfl k) ?_
        refine gv (fun t k => XS.bipush X3.here hx rfl (hb hby d12_45) k) ?_
        refine gv (fun t k => XS.iushr X3.here hx rfl (hb hby d12_47) rfl k) ?_
        refine gv (fun t k => XS.istoreN X3.here hx rfl (hb hby d12_48) rfl (l' := #[vi ((v3_0.toUInt32 >>> ((8 : Int32) &&& 31).toUInt32).toInt32), vi (v3_1 + (8 : Int32))]) rfl k) ?_
        exact J5 T3 _ ((v3_0.toUInt32 >>> ((8 : Int32) &&& 31).toUInt32).toInt32) (v3_1 + (8 : Int32)) X3 e3 N3 (if_pos hc4).symm (if_pos hc4).symm
      · refine gv (fun t k => XS.icmpYes X3.here hx rfl (pc0 := 38) (pc' := 49) rfl (hb hby d12_38) rfl (flt hc4).2.2.2 (by decide) (by decide) k) ?_
        exact J5 T3 _ v3_0 v3_1 X3 e3 N3 (if_neg hc4).symm (if_neg hc4).symm
    by_cases hc2 : (65536 : Int32) < ((qx ^^^ (-1 : Int32)) &&& (qx - (1 : Int32)))
    · refine gv (fun t k => XS.icmpNo X0.here hx rfl (hb hby d12_23) rfl (tlt hc2).2.2.2 k) ?_
      refine gv (fun t k => XS.iinc X0.here hx rfl (hb hby d12_26) rfl (l' := #[vi ((qx ^^^ (-1 : Int32)) &&& (qx - (1 : Int32))), vi ((1 : Int32) + (16 : Int32))]) rfl k) ?_
      refine gv (fun t k => XS.iloadN X0.here hx rfl (hb hby d12_29) rfl k) ?_
      show Go p.tables e below P s₁ (mkF m 30 #[vi ((qx ^^^ (-1 : Int32)) &&& (qx - (1 : Int32))), vi ((1 : Int32) + (16 : Int32))] [(.int ((qx ^^^ (-1 : Int32)) &&& (qx - (1 : Int32))))])
      refine gv (fun t k => XS.bipush X0.here hx rfl (hb hby d12_30) k) ?_
      refine gv (fun t k => XS.iushr X0.here hx rfl (hb hby d12_32) rfl k) ?_
      refine gv (fun t k => XS.istoreN X0.here hx rfl (hb hby d12_33) rfl (l' := #[vi ((((qx ^^^ (-1 : Int32)) &&& (qx - (1 : Int32))).toUInt32 >>> ((16 : Int32) &&& 31).toUInt32).toInt32), vi ((1 : Int32) + (16 : Int32))]) rfl k) ?_
      exact J3 s₁ _ ((((qx ^^^ (-1 : Int32)) &&& (qx - (1 : Int32))).toUInt32 >>> ((16 : Int32) &&& 31).toUInt32).toInt32) ((1 : Int32) + (16 : Int32)) X0 e0 N0 (if_pos hc2).symm (if_pos hc2).symm
    · refine gv (fun t k => XS.icmpYes X0.here hx rfl (pc0 := 23) (pc' := 34) rfl (hb hby d12_23) rfl (flt hc2).2.2.2 (by decide) (by decide) k) ?_
      exact J3 s₁ _ ((qx ^^^ (-1 : Int32)) &&& (qx - (1 : Int32))) (1 : Int32) X0 e0 N0 (if_neg hc2).symm (if_neg hc2).symm
  · refine gv (fun t k => XS.ifNo X0.here hx rfl (hb hby d12_9) rfl ((if0 _ _).trans (flt hc1).2.2.1) k) ?_
    refine gv (fun t k => XS.iloadN X0.here hx rfl (hb hby d12_12) rfl k) ?_
    refine gv (fun t k => XS.bipush X0.here hx rfl (hb hby d12_13) k) ?_
    refine gv (fun t k => XS.iand X0.here hx rfl (hb hby d12_15) rfl k) ?_
    show Go p.tables e below P s₁ (mkF m 16 #[vi ((qx ^^^ (-1 : Int32)) &&& (qx - (1 : Int32))), vu] [(.int (((qx ^^^ (-1 : Int32)) &&& (qx - (1 : Int32))) &&& (32 : Int32)))])
    obtain ⟨fs, hr, hrun, hended, hW, hsame⟩ := X0.leave (v := some (.int (((qx ^^^ (-1 : Int32)) &&& (qx - (1 : Int32))) &&& (32 : Int32)))) (fun h => by rw [Bd.returns] at h; cases h)
    refine ⟨_, _, retI X0 hx Bd.returns (hb hby d12_16) hr, hrun, hended, hP _ _ ⟨_, _, rfl, ?_, ⟨_, rfl⟩, hW, hsame.mono (by decide) (by decide)⟩⟩
    show Q12 Z qx h0 n0 _ s₁.heap _
    rw [e0]
    exact ⟨(((qx ^^^ (-1 : Int32)) &&& (qx - (1 : Int32))) &&& (32 : Int32)), rfl, N0, rfl⟩
theorem own_pd1 : parseMethodDescriptor "(I)I" = some ⟨[.int], some .int⟩ := by decide +kernel
theorem d11_0 : D7 0 (.lload_n 0) 1 := by decide +kernel
theorem d11_1 : D7 1 (.l2i) 1 := by decide +kernel
theorem d11_2 : D7 2 (.istore_n 2) 1 := by decide +kernel
theorem d11_3 : D7 3 (.iload_n 2) 1 := by decide +kernel
theorem d11_4 : D7 4 (.ifCond .ne 17) 3 := by decide +kernel
theorem d11_7 : D7 7 (.bipush 32) 2 := by decide +kernel
theorem d11_9 : D7 9 (.lload_n 0) 1 := by decide +kernel
theorem d11_10 : D7 10 (.bipush 32) 2 := by decide +kernel
theorem d11_12 : D7 12 (.lushr) 1 := by decide +kernel
theorem d11_13 : D7 13 (.l2i) 1 := by decide +kernel
theorem d11_14 : D7 14 (.invokestatic 311) 3 := by decide +kernel
theorem d11_17 : D7 17 (.iadd) 1 := by decide +kernel
theorem d11_18 : D7 18 (.goto 7) 3 := by decide +kernel
theorem d11_21 : D7 21 (.iload_n 2) 1 := by decide +kernel
theorem d11_22 : D7 22 (.invokestatic 311) 3 := by decide +kernel
theorem d11_25 : D7 25 (.ireturn) 1 := by decide +kernel
theorem ef_11 (m : MethodId) (x0 : Int64) : entryFrame m #[(.long x0)] 3 = mkF m 0 #[.val (.long x0), .second, .unset] [] := by first | (simp [entryFrame, mkF, argsToLocals, Value.category]; done) | rfl
def Q11 (Z : State) (qx : Int64) (h0 : Heap) (n0 : Nat) (v : Option Value) (h : Heap) (L : List Loc) : Prop := ∃ (qr : Int32), v = some (.int qr) ∧ Fr n0 L ∧ h = h0
set_option maxRecDepth 65536 in
set_option maxHeartbeats 40000000 in
theorem rm11 (l : Launch) (Z : State) (a0 : Array Value) (hw : ∀ d ∈ tables_1, d.before a0 Z = true) (ws : List Jvm.Cond) (qx : Int64) (h0 : Heap) (n0 : Nat) (Z0 : n0 ≤ h0.size) :
    MetFree l (⟨"java/lang/Long", "numberOfTrailingZeros", "(J)I"⟩ : MethodName) (head1 (Jvm.Cond.code (⟨"java/lang/Long", "numberOfTrailingZeros", "(J)I"⟩ : MethodName) jdk_35_method_49_code 3 (some .int) :: ws) ({ frames := 1, cells := 0, slots := 0, locals := 14 } : Room)) (fun a U => a = #[(.long qx)] ∧ Z.Warmed39 U.vm ∧ U.heap = h0) (fun _ _ _ _ _ => True) (fun _ U o U' => ∃ v L, o = .returned v ∧ Q11 Z qx h0 n0 v U'.heap L ∧ FrameEnd U o U' L ({ frames := 1, cells := 0, slots := 0, locals := 14 } : Room).cells ({ frames := 1, cells := 0, slots := 0, locals := 14 } : Room).slots) := by
  refine MetFree.of_bodySF (plainFor_of_name own_pn2) hisR ?_
  intro p e s m args below meth c s₁ Bd hml0 hP hK
  obtain ⟨rfl, hZ, hh⟩ := hP
  have hx := Bd.exec
  have hby := Bd.bytes
  have hml : c.maxLocals = 3 := hml0
  have hown : s.vm.findClass "java/lang/Long" = some m.cls := findClass_of_methodNamed Bd.named
  have hnm := (name_of_methodNamed Bd.named Bd.method).1
  have X0 : Stand p l e ({ frames := 1, cells := 0, slots := 0, locals := 14 } : Room) s m #[(.long qx)] below meth c s₁ [] 0 0 := Stand.of_body Bd
  have e0 : s₁.heap = h0 := by rw [← hh, Bd.state]; rfl
  have N0 := Fr.nil n0
  have K0 : Keep h0 h0 [] := Keep.refl _ _
  suffices GO : ∀ P : Outcome → State → Prop, (∀ o U', (∃ v L, o = .returned v ∧ Q11 Z qx h0 n0 v U'.heap L ∧ FrameEnd s o U' L ({ frames := 1, cells := 0, slots := 0, locals := 14 } : Room).cells ({ frames := 1, cells := 0, slots := 0, locals := 14 } : Room).slots) → P o U') → Go p.tables e below P s₁ (mkF m 0 #[.val (.long qx), .second, .unset] []) by
    obtain ⟨s2, o, st, r⟩ := GO _ (fun _ _ q => q)
    exact ⟨s2, o, castTop (ef_11 m qx) st, r⟩
  clear hh
  intro P hP
  show Go p.tables e below P s₁ (mkF m 0 #[vj qx, v2, vu] [])
  refine gv (fun t k => XS.lloadN X0.here hx rfl (hb hby d11_0) rfl k) ?_
  refine gv (fun t k => XS.l2i X0.here hx rfl (hb hby d11_1) rfl k) ?_
  refine gv (fun t k => XS.istoreN X0.here hx rfl (hb hby d11_2) rfl (l' := #[vj qx, v2, vi (qx.toInt32)]) rfl k) ?_
  refine gv (fun t k => XS.iloadN X0.here hx rfl (hb hby d11_3) rfl k) ?_
  by_cases hc1 : (qx.toInt32) = (0 : Int32)
  · refine gv (fun t k => XS.ifNo X0.here hx rfl (hb hby d11_4) rfl ((if0 _ _).trans (teq hc1).2) k) ?_
    refine gv (fun t k => XS.bipush X0.here hx rfl (hb hby d11_7) k) ?_
    refine gv (fun t k => XS.lloadN X0.here hx rfl (hb hby d11_9) rfl k) ?_
    refine gv (fun t k => XS.bipush X0.here hx rfl (hb hby d11_10) k) ?_
    refine gv (fun t k => XS.lushr X0.here hx rfl (hb hby d11_12) rfl k) ?_
    show Go p.tables e below P s₁ (mkF m 13 #[vj qx, v2, vi (qx.toInt32)] [(.long ((qx.toUInt64 >>> ((32 : Int32) &&& 0x3f).toInt64.toUInt64).toInt64)), (.int 32)])
    refine gv (fun t k => XS.l2i X0.here hx rfl (hb hby d11_13) rfl k) ?_
    obtain ⟨_, _, ⟨T2, L2, k2, n2⟩, -, X2, ⟨Lc2, hQ2, l2, y2, z2⟩, st2⟩ := Jvm.LawKit.callS X0 hx (y := (⟨"java/lang/Integer", "numberOfTrailingZeros", "(I)I"⟩ : MethodName)) hown (mvT hZ (own_g hw 81 rfl)) (mvT hZ (own_g hw 82 rfl)) (mvT hZ (own_g hw 83 rfl)) (mvT hZ (own_g hw 84 rfl)) (by decide) (backOf (W := 1) (rm12 l Z a0 hw [] (((qx.toUInt64 >>> ((32 : Int32) &&& 0x3f).toInt64.toUInt64).toInt64).toInt32) h0 n0 Z0 ) hZ (own_g hw 84 rfl) (own_g hw 83 rfl) (by decide) (by decide)) (g := (mkF m 14 #[vj qx, v2, vi (qx.toInt32)] [(.int (((qx.toUInt64 >>> ((32 : Int32) &&& 0x3f).toInt64.toUInt64).toInt64).toInt32)), (.int 32)])) rfl (by rw [hml]; rfl) (argsL := [(.int (((qx.toUInt64 >>> ((32 : Int32) &&& 0x3f).toInt64.toUInt64).toInt64).toInt32))]) (rest := [(.int 32)]) (lenOf own_pd1 rfl) rfl (by show 2 * 0 + _ ≤ _; exact Nat.le_of_eq rfl) (hb hby d11_14) (fun _ _ => ⟨rfl, e0, (by decide : 0 + 0 ≤ _), (by decide : 0 + 0 ≤ _)⟩)
    dsimp only [Pt.U, Pt.locs, Pt.cells, Pt.slots] at X2 l2 y2 z2 st2 hQ2
    subst l2 y2 z2
    obtain ⟨qr_2, rfl, Nq2, hh2⟩ := hQ2
    obtain ⟨lc2, Xh2, N2⟩ := own_hide X2 (Fr.app N0 Nq2)
    clear X2
    refine gv st2 ?_
    refine gv (fun t k => XS.iadd Xh2.here hx rfl (hb hby d11_17) rfl k) ?_
    refine gv (fun t k => XS.goto Xh2.here hx rfl (pc0 := 18) (pc' := 25) rfl (hb hby d11_18) (by decide) (by decide) k) ?_
    show Go p.tables e below P T2 (mkF m 25 #[vj qx, v2, vi (qx.toInt32)] [(.int ((32 : Int32) + qr_2))])
    obtain ⟨fs, hr, hrun, hended, hW, hsame⟩ := Xh2.leave (v := some (.int ((32 : Int32) + qr_2))) (fun h => by rw [Bd.returns] at h; cases h)
    refine ⟨_, _, retI Xh2 hx Bd.returns (hb hby d11_25) hr, hrun, hended, hP _ _ ⟨_, _, rfl, ?_, ⟨_, rfl⟩, hW, hsame.mono (by decide) (by decide)⟩⟩
    show Q11 Z qx h0 n0 _ T2.heap _
    rw [hh2]
    exact ⟨((32 : Int32) + qr_2), rfl, N2, rfl⟩
  · refine gv (fun t k => XS.ifYes X0.here hx rfl (pc0 := 4) (pc' := 21) rfl (hb hby d11_4) rfl ((if0 _ _).trans (feq hc1).2) (by decide) (by decide) k) ?_
    refine gv (fun t k => XS.iloadN X0.here hx rfl (hb hby d11_21) rfl k) ?_
    obtain ⟨_, _, ⟨T4, L4, k4, n4⟩, -, X4, ⟨Lc4, hQ4, l4, y4, z4⟩, st4⟩ := Jvm.LawKit.callS X0 hx (y := (⟨"java/lang/Integer", "numberOfTrailingZeros", "(I)I"⟩ : MethodName)) hown (mvT hZ (own_g hw 81 rfl)) (mvT hZ (own_g hw 82 rfl)) (mvT hZ (own_g hw 83 rfl)) (mvT hZ (own_g hw 84 rfl)) (by decide) (backOf (W := 0) (rm12 l Z a0 hw [] (qx.toInt32) h0 n0 Z0 ) hZ (own_g hw 84 rfl) (own_g hw 83 rfl) (by decide) (by decide)) (g := (mkF m 22 #[vj qx, v2, vi (qx.toInt32)] [(.int (qx.toInt32))])) rfl (by rw [hml]; rfl) (argsL := [(.int (qx.toInt32))]) (rest := []) (lenOf own_pd1 rfl) rfl (by show 2 * 0 + _ ≤ _; exact Nat.le_of_eq rfl) (hb hby d11_22) (fun _ _ => ⟨rfl, e0, (by decide : 0 + 0 ≤ _), (by decide : 0 + 0 ≤ _)⟩)
    dsimp only [Pt.U, Pt.locs, Pt.cells, Pt.slots] at X4 l4 y4 z4 st4 hQ4
    subst l4 y4 z4
    obtain ⟨qr_4, rfl, Nq4, hh4⟩ := hQ4
    obtain ⟨lc4, Xh4, N4⟩ := own_hide X4 (Fr.app N0 Nq4)
    clear X4
    refine gv st4 ?_
    show Go p.tables e below P T4 (mkF m 25 #[vj qx, v2, vi (qx.toInt32)] [(.int qr_4)])
    obtain ⟨fs, hr, hrun, hended, hW, hsame⟩ := Xh4.leave (v := some (.int qr_4)) (fun h => by rw [Bd.returns] at h; cases h)
    refine ⟨_, _, retI Xh4 hx Bd.returns (hb hby d11_25) hr, hrun, hended, hP _ _ ⟨_, _, rfl, ?_, ⟨_, rfl⟩, hW, hsame.mono (by decide) (by decide)⟩⟩
    show Q11 Z qx h0 n0 _ T4.heap _
    rw [hh4]
    exact ⟨qr_4, rfl, N4, rfl⟩
theorem d20_0 : D8 0 (.iload_n 0) 1 := by decide +kernel
theorem d20_1 : D8 1 (.ifCond .gt 14) 3 := by decide +kernel
theorem d20_4 : D8 4 (.iload_n 0) 1 := by decide +kernel
theorem d20_5 : D8 5 (.ifCond .ne 8) 3 := by decide +kernel
theorem d20_8 : D8 8 (.bipush 32) 2 := by decide +kernel
theorem d20_10 : D8 10 (.goto 4) 3 := by decide +kernel
theorem d20_13 : D8 13 (.iconst 0) 1 := by decide +kernel
theorem d20_14 : D8 14 (.ireturn) 1 := by decide +kernel
theorem d20_15 : D8 15 (.bipush 31) 2 := by decide +kernel
theorem d20_17 : D8 17 (.istore_n 1) 1 := by decide +kernel
theorem d20_18 : D8 18 (.iload_n 0) 1 := by decide +kernel
theorem d20_19 : D8 19 (.ldc_w 264) 3 := by decide +kernel
theorem d20_22 : D8 22 (.if_icmp .lt 11) 3 := by decide +kernel
theorem d20_25 : D8 25 (.iinc 1 (-16)) 3 := by decide +kernel
theorem d20_28 : D8 28 (.iload_n 0) 1 := by decide +kernel
theorem d20_29 : D8 29 (.bipush 16) 2 := by decide +kernel
theorem d20_31 : D8 31 (.iushr) 1 := by decide +kernel
theorem d20_32 : D8 32 (.istore_n 0) 1 := by decide +kernel
theorem d20_33 : D8 33 (.iload_n 0) 1 := by decide +kernel
theorem d20_34 : D8 34 (.sipush 256) 3 := by decide +kernel
theorem d20_37 : D8 37 (.if_icmp .lt 11) 3 := by decide +kernel
theorem d20_40 : D8 40 (.iinc 1 (-8)) 3 := by decide +kernel
theorem d20_43 : D8 43 (.iload_n 0) 1 := by decide +kernel
theorem d20_44 : D8 44 (.bipush 8) 2 := by decide +kernel
theorem d20_46 : D8 46 (.iushr) 1 := by decide +kernel
theorem d20_47 : D8 47 (.istore_n 0) 1 := by decide +kernel
theorem d20_48 : D8 48 (.iload_n 0) 1 := by decide +kernel
theorem d20_49 : D8 49 (.bipush 16) 2 := by decide +kernel
theorem d20_51 : D8 51 (.if_icmp .lt 10) 3 := by decide +kernel
theorem d20_54 : D8 54 (.iinc 1 (-4)) 3 := by decide +kernel
theorem d20_57 : D8 57 (.iload_n 0) 1 := by decide +kernel
theorem d20_58 : D8 58 (.iconst 4) 1 := by decide +kernel
theorem d20_59 : D8 59 (.iushr) 1 := by decide +kernel
theorem d20_60 : D8 60 (.istore_n 0) 1 := by decide +kernel
theorem d20_61 : D8 61 (.iload_n 0) 1 := by decide +kernel
theorem d20_62 : D8 62 (.iconst 4) 1 := by decide +kernel
theorem d20_63 : D8 63 (.if_icmp .lt 10) 3 := by decide +kernel
theorem d20_66 : D8 66 (.iinc 1 (-2)) 3 := by decide +kernel
theorem d20_69 : D8 69 (.iload_n 0) 1 := by decide +kernel
theorem d20_70 : D8 70 (.iconst 2) 1 := by decide +kernel
theorem d20_71 : D8 71 (.iushr) 1 := by decide +kernel
theorem d20_72 : D8 72 (.istore_n 0) 1 := by decide +kernel
theorem d20_73 : D8 73 (.iload_n 1) 1 := by decide +kernel
theorem d20_74 : D8 74 (.iload_n 0) 1 := by decide +kernel
theorem d20_75 : D8 75 (.iconst 1) 1 := by decide +kernel
theorem d20_76 : D8 76 (.iushr) 1 := by decide +kernel
theorem d20_77 : D8 77 (.isub) 1 := by decide +kernel
theorem d20_78 : D8 78 (.ireturn) 1 := by decide +kernel
theorem ef_20 (m : MethodId) (x0 : Int32) : entryFrame m #[(.int x0)] 2 = mkF m 0 #[.val (.int x0), .unset] [] := by first | (simp [entryFrame, mkF, argsToLocals, Value.category]; done) | rfl
def Q20 (Z : State) (qx : Int32) (h0 : Heap) (n0 : Nat) (v : Option Value) (h : Heap) (L : List Loc) : Prop := ∃ (qr : Int32), v = some (.int qr) ∧ Fr n0 L ∧ h = h0
set_option maxRecDepth 65536 in
set_option maxHeartbeats 40000000 in
theorem rm20 (l : Launch) (Z : State) (a0 : Array Value) (hw : ∀ d ∈ tables_1, d.before a0 Z = true) (ws : List Jvm.Cond) (qx : Int32) (h0 : Heap) (n0 : Nat) (Z0 : n0 ≤ h0.size) :
    MetFree l (⟨"java/lang/Integer", "numberOfLeadingZeros", "(I)I"⟩ : MethodName) (head1 (Jvm.Cond.code (⟨"java/lang/Integer", "numberOfLeadingZeros", "(I)I"⟩ : MethodName) jdk_33_method_47_code 2 (some .int) :: ws) ({ frames := 0, cells := 0, slots := 0, locals := 0 } : Room)) (fun a U => a = #[(.int qx)] ∧ Z.Warmed39 U.vm ∧ U.heap = h0) (fun _ _ _ _ _ => True) (fun _ U o U' => ∃ v L, o = .returned v ∧ Q20 Z qx h0 n0 v U'.heap L ∧ FrameEnd U o U' L ({ frames := 0, cells := 0, slots := 0, locals := 0 } : Room).cells ({ frames := 0, cells := 0, slots := 0, locals := 0 } : Room).slots) := by
  refine MetFree.of_bodySF (plainFor_of_name own_pn3) hisR ?_
  intro p e s m args below meth c s₁ Bd hml0 hP hK
  obtain ⟨rfl, hZ, hh⟩ := hP
  have hx := Bd.exec
  have hby := Bd.bytes
  have hml : c.maxLocals = 2 := hml0
  have hown : s.vm.findClass "java/lang/Integer" = some m.cls := findClass_of_methodNamed Bd.named
  have hnm := (name_of_methodNamed Bd.named Bd.method).1
  have X0 : Stand p l e ({ frames := 0, cells := 0, slots := 0, locals := 0 } : Room) s m #[(.int qx)] below meth c s₁ [] 0 0 := Stand.of_body Bd
  have e0 : s₁.heap = h0 := by rw [← hh, Bd.state]; rfl
  have N0 := Fr.nil n0
  have K0 : Keep h0 h0 [] := Keep.refl _ _
  suffices GO : ∀ P : Outcome → State → Prop, (∀ o U', (∃ v L, o = .returned v ∧ Q20 Z qx h0 n0 v U'.heap L ∧ FrameEnd s o U' L ({ frames := 0, cells := 0, slots := 0, locals := 0 } : Room).cells ({ frames := 0, cells := 0, slots := 0, locals := 0 } : Room).slots) → P o U') → Go p.tables e below P s₁ (mkF m 0 #[.val (.int qx), .unset] []) by
    obtain ⟨s2, o, st, r⟩ := GO _ (fun _ _ q => q)
    exact ⟨s2, o, castTop (ef_20 m qx) st, r⟩
  clear hh
  intro P hP
  show Go p.tables e below P s₁ (mkF m 0 #[vi qx, vu] [])
  refine gv (fun t k => XS.iloadN X0.here hx rfl (hb hby d20_0) rfl k) ?_
  by_cases hc1 : (0 : Int32) < qx
  · refine gv (fun t k => XS.ifYes X0.here hx rfl (pc0 := 1) (pc' := 15) rfl (hb hby d20_1) rfl ((if0 _ _).trans (tlt hc1).2.2.1) (by decide) (by decide) k) ?_
    refine gv (fun t k => XS.bipush X0.here hx rfl (hb hby d20_15) k) ?_
    refine gv (fun t k => XS.istoreN X0.here hx rfl (hb hby d20_17) rfl (l' := #[vi qx, vi 31]) rfl k) ?_
    refine gv (fun t k => XS.iloadN X0.here hx rfl (hb hby d20_18) rfl k) ?_
    refine gv (fun t k => X0.ldcwInt hx hown (mvT hZ (own_g hw 109 rfl)) (g := (mkF m 19 #[vi qx, vi 31] [(.int qx)])) rfl (hb hby d20_19) t k) ?_
    show Go p.tables e below P s₁ (mkF m 22 #[vi qx, vi 31] [(.int 65536), (.int qx)])
    have J3 : ∀ (T3 : State) (locs3 : List Loc) (v3_0 : Int32) (v3_1 : Int32), Stand p l e ({ frames := 0, cells := 0, slots := 0, locals := 0 } : Room) s m #[(.int qx)] below meth c T3 locs3 0 0 → T3.heap = h0 → Fr n0 locs3 → v3_0 = (if qx < (65536 : Int32) then qx else ((qx.toUInt32 >>> ((16 : Int32) &&& 31).toUInt32).toInt32)) → v3_1 = (if qx < (65536 : Int32) then (31 : Int32) else ((31 : Int32) + (-16 : Int32))) → Go p.tables e below P T3 (mkF m 33 #[.val (.int v3_0), .val (.int v3_1)] []) := by
      intro T3 locs3 v3_0 v3_1 X3 e3 N3 hv3_0 hv3_1
      show Go p.tables e below P T3 (mkF m 33 #[vi v3_0, vi v3_1] [])
      refine gv (fun t k => XS.iloadN X3.here hx rfl (hb hby d20_33) rfl k) ?_
      refine gv (fun t k => XS.sipush X3.here hx rfl (hb hby d20_34) k) ?_
      show Go p.tables e below P T3 (mkF m 37 #[vi v3_0, vi v3_1] [(.int 256), (.int v3_0)])
      have J5 : ∀ (T5 : State) (locs5 : List Loc) (v5_0 : Int32) (v5_1 : Int32), Stand p l e ({ frames := 0, cells := 0, slots := 0, locals := 0 } : Room) s m #[(.int qx)] below meth c T5 locs5 0 0 → T5.heap = h0 → Fr n0 locs5 → v5_0 = (if v3_0 < (256 : Int32) then v3_0 else ((v3_0.toUInt32 >>> ((8 : Int32) &&& 31).toUInt32).toInt32)) → v5_1 = (if v3_0 < (256 : Int32) then v3_1 else (v3_1 + (-8 : Int32))) → Go p.tables e below P T5 (mkF m 48 #[.val (.int v5_0), .val (.int v5_1)] []) := by
        intro T5 locs5 v5_0 v5_1 X5 e5 N5 hv5_0 hv5_1
        show Go p.tables e below P T5 (mkF m 48 #[vi v5_0, vi v5_1] [])
        refine gv (fun t k => XS.iloadN X5.here hx rfl (hb hby d20_48) rfl k) ?_
        refine gv (fun t k => XS.bipush X5.here hx rfl (hb hby d20_49) k) ?_
        show Go p.tables e below P T5 (mkF m 51 #[vi v5_0, vi v5_1] [(.int 16), (.int v5_0)])
        have J7 : ∀ (T7 : State) (locs7 : List Loc) (v7_0 : Int32) (v7_1 : Int32), Stand p l e ({ frames := 0, cells := 0, slots := 0, locals := 0 } : Room) s m #[(.int qx)] below meth c T7 locs7 0 0 → T7.heap = h0 → Fr n0 locs7 → v7_0 = (if v5_0 < (16 : Int32) then v5_0 else ((v5_0.toUInt32 >>> ((4 : Int32) &&& 31).toUInt32).toInt32)) → v7_1 = (if v5_0 < (16 : Int32) then v5_1 else (v5_1 + (-4 : Int32))) → Go p.tables e below P T7 (mkF m 61 #[.val (.int v7_0), .val (.int v7_1)] []) := by
          intro T7 locs7 v7_0 v7_1 X7 e7 N7 hv7_0 hv7_1
          show Go p.tables e below P T7 (mkF m 61 #[vi v7_0, vi v7_1] [])
          refine gv (fun t k => XS.iloadN X7.here hx rfl (hb hby d20_61) rfl k) ?_
          refine gv (fun t k => XS.iconst X7.here hx rfl (hb hby d20_62) k) ?_
          show Go p.tables e below P T7 (mkF m 63 #[vi v7_0, vi v7_1] [(.int 4), (.int v7_0)])
          have J9 : ∀ (T9 : State) (locs9 : List Loc) (v9_0 : Int32) (v9_1 : Int32), Stand p l e ({ frames := 0, cells := 0, slots := 0, locals := 0 } : Room) s m #[(.int qx)] below meth c T9 locs9 0 0 → T9.heap = h0 → Fr n0 locs9 → v9_0 = (if v7_0 < (4 : Int32) then v7_0 else ((v7_0.toUInt32 >>> ((2 : Int32) &&& 31).toUInt32).toInt32)) → v9_1 = (if v7_0 < (4 : Int32) then v7_1 else (v7_1 + (-2 : Int32))) → Go p.tables e below P T9 (mkF m 73 #[.val (.int v9_0), .val (.int v9_1)] []) := by
            intro T9 locs9 v9_0 v9_1 X9 e9 N9 hv9_0 hv9_1
            show Go p.tables e below P T9 (mkF m 73 #[vi v9_0, vi v9_1] [])
            refine gv (fun t k => XS.iloadN X9.here hx rfl (hb hby d20_73) rfl k) ?_
            refine gv (fun t k => XS.iloadN X9.here hx rfl (hb hby d20_74) rfl k) ?_
            refine gv (fun t k => XS.iconst X9.here hx rfl (hb hby d20_75) k) ?_
            refine gv (fun t k => XS.iushr X9.here hx rfl (hb hby d20_76) rfl k) ?_
            refine gv (fun t k => XS.isub X9.here hx rfl (hb hby d20_77) rfl k) ?_
            show Go p.tables e below P T9 (mkF m 78 #[vi v9_0, vi v9_1] [(.int (v9_1 - ((v9_0.toUInt32 >>> ((1 : Int32) &&& 31).toUInt32).toInt32)))])
            obtain ⟨fs, hr, hrun, hended, hW, hsame⟩ := X9.leave (v := some (.int (v9_1 - ((v9_0.toUInt32 >>> ((1 : Int32) &&& 31).toUInt32).toInt32)))) (fun h => by rw [Bd.returns] at h; cases h)
            refine ⟨_, _, retI X9 hx Bd.returns (hb hby d20_78) hr, hrun, hended, hP _ _ ⟨_, _, rfl, ?_, ⟨_, rfl⟩, hW, hsame.mono (by decide) (by decide)⟩⟩
            show Q20 Z qx h0 n0 _ T9.heap _
            rw [e9]
            exact ⟨(v9_1 - ((v9_0.toUInt32 >>> ((1 : Int32) &&& 31).toUInt32).toInt32)), rfl, N9, rfl⟩
          by_cases hc8 : v7_0 < (4 : Int32)
          · refine gv (fun t k => XS.icmpYes X7.here hx rfl (pc0 := 63) (pc' := 73) rfl (hb hby d20_63) rfl (tlt hc8).1 (by decide) (by decide) k) ?_
            exact J9 T7 _ v7_0 v7_1 X7 e7 N7 (if_pos hc8).symm (if_pos hc8).symm
          · refine gv (fun t k => XS.icmpNo X7.here hx rfl (hb hby d20_63) rfl (flt hc8).1 k) ?_
            refine gv (fun t k => XS.iinc X7.here hx rfl (hb hby d20_66) rfl (l' := #[vi v7_0, vi (v7_1 + (-2 : Int32))]) rfl k) ?_
            refine gv (fun t k => XS.iloadN X7.here hx rfl (hb hby d20_69) rfl k) ?_
            refine gv (fun t k => XS.iconst X7.here hx rfl (hb hby d20_70) k) ?_
            refine gv (fun t k => XS.iushr X7.here hx rfl (hb hby d20_71) rfl k) ?_
            refine gv (fun t k => XS.istoreN X7.here hx rfl (hb hby d20_72) rfl (l' := #[vi ((v7_0.toUInt32 >>> ((2 : Int32) &&& 31).toUInt32).toInt32), vi (v7_1 + (-2 : Int32))]) rfl k) ?_
            exact J9 T7 _ ((v7_0.toUInt32 >>> ((2 : Int32) &&& 31).toUInt32).toInt32) (v7_1 + (-2 : Int32)) X7 e7 N7 (if_neg hc8).symm (if_neg hc8).symm
        by_cases hc6 : v5_0 < (16 : Int32)
        · refine gv (fun t k => XS.icmpYes X5.here hx rfl (pc0 := 51) (pc' := 61) rfl (hb hby d20_51) rfl (tlt hc6).1 (by decide) (by decide) k) ?_
          exact J7 T5 _ v5_0 v5_1 X5 e5 N5 (if_pos hc6).symm (if_pos hc6).symm
        · refine gv (fun t k => XS.icmpNo X5.here hx rfl (hb hby d20_51) rfl (flt hc6).1 k) ?_
          refine gv (fun t k => XS.iinc X5.here hx rfl (hb hby d20_54) rfl (l' := #[vi v5_0, vi (v5_1 + (-4 : Int32))]) rfl k) ?_
          refine gv (fun t k => XS.iloadN X5.here hx rfl (hb hby d20_57) rfl k) ?_
          refine gv (fun t k => XS.iconst X5.here hx rfl (hb hby d20_58) k) ?_
          show Go p.tables e below P T5 (mkF m 59 #[vi v5_0, vi (v5_1 + (-4 : Int32))] [(.int 4), (.int v5_0)])
          refine gv (fun t k => XS.iushr X5.here hx rfl (hb hby d20_59) rfl k) ?_
          refine gv (fun t k => XS.istoreN X5.here hx rfl (hb hby d20_60) rfl (l' := #[vi ((v5_0.toUInt32 >>> ((4 : Int32) &&& 31).toUInt32).toInt32), vi (v5_1 + (-4 : Int32))]) rfl k) ?_
          exact J7 T5 _ ((v5_0.toUInt32 >>> ((4 : Int32) &&& 31).toUInt32).toInt32) (v5_1 + (-4 : Int32)) X5 e5 N5 (if_neg hc6).symm (if_neg hc6).symm
      by_cases hc4 : v3_0 < (256 : Int32)
      · refine gv (fun t k => XS.icmpYes X3.here hx rfl (pc0 := 37) (pc' := 48) rfl (hb hby d20_37) rfl (tlt hc4).1 (by decide) (by decide) k) ?_
        exact J5 T3 _ v3_0 v3_1 X3 e3 N3 (if_pos hc4).symm (if_pos hc4).symm
      · refine gv (fun t k => XS.icmpNo X3.here hx rfl (hb hby d20_37) rfl (flt hc4).1 k) ?_
        refine gv (fun t k => XS.iinc X3.here hx rfl (hb hby d20_40) rfl (l' := #[vi v3_0, vi (v3_1 + (-8 : Int32))]) rfl k) ?_
        refine gv (fun t k => XS.iloadN X3.here hx rfl (hb hby d20_43) rfl k) ?_
        refine gv (fun t k => XS.bipush X3.here hx rfl (hb hby d20_44) k) ?_
        refine gv (fun t k => XS.iushr X3.here hx rfl (hb hby d20_46) rfl k) ?_
        refine gv (fun t k => XS.istoreN X3.here hx rfl (hb hby d20_47) rfl (l' := #[vi ((v3_0.toUInt32 >>> ((8 : Int32) &&& 31).toUInt32).toInt32), vi (v3_1 + (-8 : Int32))]) rfl k) ?_
        exact J5 T3 _ ((v3_0.toUInt32 >>> ((8 : Int32) &&& 31).toUInt32).toInt32) (v3_1 + (-8 : Int32)) X3 e3 N3 (if_neg hc4).symm (if_neg hc4).symm
    by_cases hc2 : qx < (65536 : Int32)
    · refine gv (fun t k => XS.icmpYes X0.here hx rfl (pc0 := 22) (pc' := 33) rfl (hb hby d20_22) rfl (tlt hc2).1 (by decide) (by decide) k) ?_
      exact J3 s₁ _ qx (31 : Int32) X0 e0 N0 (if_pos hc2).symm (if_pos hc2).symm
    · refine gv (fun t k => XS.icmpNo X0.here hx rfl (hb hby d20_22) rfl (flt hc2).1 k) ?_
      refine gv (fun t k => XS.iinc X0.here hx rfl (hb hby d20_25) rfl (l' := #[vi qx, vi ((31 : Int32) + (-16 : Int32))]) rfl k) ?_
      refine gv (fun t k => XS.iloadN X0.here hx rfl (hb hby d20_28) rfl k) ?_
      show Go p.tables e below P s₁ (mkF m 29 #[vi qx, vi ((31 : Int32) + (-16 : Int32))] [(.int qx)])
      refine gv (fun t k => XS.bipush X0.here hx rfl (hb hby d20_29) k) ?_
      refine gv (fun t k => XS.iushr X0.here hx rfl (hb hby d20_31) rfl k) ?_
      refine gv (fun t k => XS.istoreN X0.here hx rfl (hb hby d20_32) rfl (l' := #[vi ((qx.toUInt32 >>> ((16 : Int32) &&& 31).toUInt32).toInt32), vi ((31 : Int32) + (-16 : Int32))]) rfl k) ?_
      exact J3 s₁ _ ((qx.toUInt32 >>> ((16 : Int32) &&& 31).toUInt32).toInt32) ((31 : Int32) + (-16 : Int32)) X0 e0 N0 (if_neg hc2).symm (if_neg hc2).symm
  · refine gv (fun t k => XS.ifNo X0.here hx rfl (hb hby d20_1) rfl ((if0 _ _).trans (flt hc1).2.2.1) k) ?_
    refine gv (fun t k => XS.iloadN X0.here hx rfl (hb hby d20_4) rfl k) ?_
    show Go p.tables e below P s₁ (mkF m 5 #[vi qx, vu] [(.int qx)])
    have J12 : ∀ (T12 : State) (locs12 : List Loc) (v12_0 : Int32), Stand p l e ({ frames := 0, cells := 0, slots := 0, locals := 0 } : Room) s m #[(.int qx)] below meth c T12 locs12 0 0 → T12.heap = h0 → Fr n0 locs12 → v12_0 = (if qx = (0 : Int32) then (32 : Int32) else (0 : Int32)) → Go p.tables e below P T12 (mkF m 14 #[.val (.int qx), .unset] [(.int v12_0)]) := by
      intro T12 locs12 v12_0 X12 e12 N12 hv12_0
      show Go p.tables e below P T12 (mkF m 14 #[vi qx, vu] [(.int v12_0)])
      obtain ⟨fs, hr, hrun, hended, hW, hsame⟩ := X12.leave (v := some (.int v12_0)) (fun h => by rw [Bd.returns] at h; cases h)
      refine ⟨_, _, retI X12 hx Bd.returns (hb hby d20_14) hr, hrun, hended, hP _ _ ⟨_, _, rfl, ?_, ⟨_, rfl⟩, hW, hsame.mono (by decide) (by decide)⟩⟩
      show Q20 Z qx h0 n0 _ T12.heap _
      rw [e12]
      exact ⟨v12_0, rfl, N12, rfl⟩
    by_cases hc11 : qx = (0 : Int32)
    · refine gv (fun t k => XS.ifNo X0.here hx rfl (hb hby d20_5) rfl ((if0 _ _).trans (teq hc11).2) k) ?_
      refine gv (fun t k => XS.bipush X0.here hx rfl (hb hby d20_8) k) ?_
      refine gv (fun t k => XS.goto X0.here hx rfl (pc0 := 10) (pc' := 14) rfl (hb hby d20_10) (by decide) (by decide) k) ?_
      exact J12 s₁ _ (32 : Int32) X0 e0 N0 (if_pos hc11).symm
    · refine gv (fun t k => XS.ifYes X0.here hx rfl (pc0 := 5) (pc' := 13) rfl (hb hby d20_5) rfl ((if0 _ _).trans (feq hc11).2) (by decide) (by decide) k) ?_
      refine gv (fun t k => XS.iconst X0.here hx rfl (hb hby d20_13) k) ?_
      exact J12 s₁ _ (0 : Int32) X0 e0 N0 (if_neg hc11).symm
theorem d19_0 : D9 0 (.lload_n 0) 1 := by decide +kernel
theorem d19_1 : D9 1 (.bipush 32) 2 := by decide +kernel
theorem d19_3 : D9 3 (.lushr) 1 := by decide +kernel
theorem d19_4 : D9 4 (.l2i) 1 := by decide +kernel
theorem d19_5 : D9 5 (.istore_n 2) 1 := by decide +kernel
theorem d19_6 : D9 6 (.iload_n 2) 1 := by decide +kernel
theorem d19_7 : D9 7 (.ifCond .ne 14) 3 := by decide +kernel
theorem d19_10 : D9 10 (.bipush 32) 2 := by decide +kernel
theorem d19_12 : D9 12 (.lload_n 0) 1 := by decide +kernel
theorem d19_13 : D9 13 (.l2i) 1 := by decide +kernel
theorem d19_14 : D9 14 (.invokestatic 308) 3 := by decide +kernel
theorem d19_17 : D9 17 (.iadd) 1 := by decide +kernel
theorem d19_18 : D9 18 (.goto 7) 3 := by decide +kernel
theorem d19_21 : D9 21 (.iload_n 2) 1 := by decide +kernel
theorem d19_22 : D9 22 (.invokestatic 308) 3 := by decide +kernel
theorem d19_25 : D9 25 (.ireturn) 1 := by decide +kernel
theorem ef_19 (m : MethodId) (x0 : Int64) : entryFrame m #[(.long x0)] 3 = mkF m 0 #[.val (.long x0), .second, .unset] [] := by first | (simp [entryFrame, mkF, argsToLocals, Value.category]; done) | rfl
def Q19 (Z : State) (qx : Int64) (h0 : Heap) (n0 : Nat) (v : Option Value) (h : Heap) (L : List Loc) : Prop := ∃ (qr : Int32), v = some (.int qr) ∧ Fr n0 L ∧ h = h0
set_option maxRecDepth 65536 in
set_option maxHeartbeats 40000000 in
theorem rm19 (l : Launch) (Z : State) (a0 : Array Value) (hw : ∀ d ∈ tables_1, d.before a0 Z = true) (ws : List Jvm.Cond) (qx : Int64) (h0 : Heap) (n0 : Nat) (Z0 : n0 ≤ h0.size) :
    MetFree l (⟨"java/lang/Long", "numberOfLeadingZeros", "(J)I"⟩ : MethodName) (head1 (Jvm.Cond.code (⟨"java/lang/Long", "numberOfLeadingZeros", "(J)I"⟩ : MethodName) jdk_35_method_48_code 3 (some .int) :: ws) ({ frames := 1, cells := 0, slots := 0, locals := 14 } : Room)) (fun a U => a = #[(.long qx)] ∧ Z.Warmed39 U.vm ∧ U.heap = h0) (fun _ _ _ _ _ => True) (fun _ U o U' => ∃ v L, o = .returned v ∧ Q19 Z qx h0 n0 v U'.heap L ∧ FrameEnd U o U' L ({ frames := 1, cells := 0, slots := 0, locals := 14 } : Room).cells ({ frames := 1, cells := 0, slots := 0, locals := 14 } : Room).slots) := by
  refine MetFree.of_bodySF (plainFor_of_name own_pn2) hisR ?_
  intro p e s m args below meth c s₁ Bd hml0 hP hK
  obtain ⟨rfl, hZ, hh⟩ := hP
  have hx := Bd.exec
  have hby := Bd.bytes
  have hml : c.maxLocals = 3 := hml0
  have hown : s.vm.findClass "java/lang/Long" = some m.cls := findClass_of_methodNamed Bd.named
  have hnm := (name_of_methodNamed Bd.named Bd.method).1
  have X0 : Stand p l e ({ frames := 1, cells := 0, slots := 0, locals := 14 } : Room) s m #[(.long qx)] below meth c s₁ [] 0 0 := Stand.of_body Bd
  have e0 : s₁.heap = h0 := by rw [← hh, Bd.state]; rfl
  have N0 := Fr.nil n0
  have K0 : Keep h0 h0 [] := Keep.refl _ _
  suffices GO : ∀ P : Outcome → State → Prop, (∀ o U', (∃ v L, o = .returned v ∧ Q19 Z qx h0 n0 v U'.heap L ∧ FrameEnd s o U' L ({ frames := 1, cells := 0, slots := 0, locals := 14 } : Room).cells ({ frames := 1, cells := 0, slots := 0, locals := 14 } : Room).slots) → P o U') → Go p.tables e below P s₁ (mkF m 0 #[.val (.long qx), .second, .unset] []) by
    obtain ⟨s2, o, st, r⟩ := GO _ (fun _ _ q => q)
    exact ⟨s2, o, castTop (ef_19 m qx) st, r⟩
  clear hh
  intro P hP
  show Go p.tables e below P s₁ (mkF m 0 #[vj qx, v2, vu] [])
  refine gv (fun t k => XS.lloadN X0.here hx rfl (hb hby d19_0) rfl k) ?_
  refine gv (fun t k => XS.bipush X0.here hx rfl (hb hby d19_1) k) ?_
  refine gv (fun t k => XS.lushr X0.here hx rfl (hb hby d19_3) rfl k) ?_
  refine gv (fun t k => XS.l2i X0.here hx rfl (hb hby d19_4) rfl k) ?_
  refine gv (fun t k => XS.istoreN X0.here hx rfl (hb hby d19_5) rfl (l' := #[vj qx, v2, vi (((qx.toUInt64 >>> ((32 : Int32) &&& 0x3f).toInt64.toUInt64).toInt64).toInt32)]) rfl k) ?_
  refine gv (fun t k => XS.iloadN X0.here hx rfl (hb hby d19_6) rfl k) ?_
  by_cases hc1 : (((qx.toUInt64 >>> ((32 : Int32) &&& 0x3f).toInt64.toUInt64).toInt64).toInt32) = (0 : Int32)
  · refine gv (fun t k => XS.ifNo X0.here hx rfl (hb hby d19_7) rfl ((if0 _ _).trans (teq hc1).2) k) ?_
    refine gv (fun t k => XS.bipush X0.here hx rfl (hb hby d19_10) k) ?_
    refine gv (fun t k => XS.lloadN X0.here hx rfl (hb hby d19_12) rfl k) ?_
    show Go p.tables e below P s₁ (mkF m 13 #[vj qx, v2, vi (((qx.toUInt64 >>> ((32 : Int32) &&& 0x3f).toInt64.toUInt64).toInt64).toInt32)] [(.long qx), (.int 32)])
    refine gv (fun t k => XS.l2i X0.here hx rfl (hb hby d19_13) rfl k) ?_
    obtain ⟨_, _, ⟨T2, L2, k2, n2⟩, -, X2, ⟨Lc2, hQ2, l2, y2, z2⟩, st2⟩ := Jvm.LawKit.callS X0 hx (y := (⟨"java/lang/Integer", "numberOfLeadingZeros", "(I)I"⟩ : MethodName)) hown (mvT hZ (own_g hw 117 rfl)) (mvT hZ (own_g hw 118 rfl)) (mvT hZ (own_g hw 83 rfl)) (mvT hZ (own_g hw 119 rfl)) (by decide) (backOf (W := 1) (rm20 l Z a0 hw [] (qx.toInt32) h0 n0 Z0 ) hZ (own_g hw 119 rfl) (own_g hw 83 rfl) (by decide) (by decide)) (g := (mkF m 14 #[vj qx, v2, vi (((qx.toUInt64 >>> ((32 : Int32) &&& 0x3f).toInt64.toUInt64).toInt64).toInt32)] [(.int (qx.toInt32)), (.int 32)])) rfl (by rw [hml]; rfl) (argsL := [(.int (qx.toInt32))]) (rest := [(.int 32)]) (lenOf own_pd1 rfl) rfl (by show 2 * 0 + _ ≤ _; exact Nat.le_of_eq rfl) (hb hby d19_14) (fun _ _ => ⟨rfl, e0, (by decide : 0 + 0 ≤ _), (by decide : 0 + 0 ≤ _)⟩)
    dsimp only [Pt.U, Pt.locs, Pt.cells, Pt.slots] at X2 l2 y2 z2 st2 hQ2
    subst l2 y2 z2
    obtain ⟨qr_2, rfl, Nq2, hh2⟩ := hQ2
    obtain ⟨lc2, Xh2, N2⟩ := own_hide X2 (Fr.app N0 Nq2)
    clear X2
    refine gv st2 ?_
    refine gv (fun t k => XS.iadd Xh2.here hx rfl (hb hby d19_17) rfl k) ?_
    refine gv (fun t k => XS.goto Xh2.here hx rfl (pc0 := 18) (pc' := 25) rfl (hb hby d19_18) (by decide) (by decide) k) ?_
    show Go p.tables e below P T2 (mkF m 25 #[vj qx, v2, vi (((qx.toUInt64 >>> ((32 : Int32) &&& 0x3f).toInt64.toUInt64).toInt64).toInt32)] [(.int ((32 : Int32) + qr_2))])
    obtain ⟨fs, hr, hrun, hended, hW, hsame⟩ := Xh2.leave (v := some (.int ((32 : Int32) + qr_2))) (fun h => by rw [Bd.returns] at h; cases h)
    refine ⟨_, _, retI Xh2 hx Bd.returns (hb hby d19_25) hr, hrun, hended, hP _ _ ⟨_, _, rfl, ?_, ⟨_, rfl⟩, hW, hsame.mono (by decide) (by decide)⟩⟩
    show Q19 Z qx h0 n0 _ T2.heap _
    rw [hh2]
    exact ⟨((32 : Int32) + qr_2), rfl, N2, rfl⟩
  · refine gv (fun t k => XS.ifYes X0.here hx rfl (pc0 := 7) (pc' := 21) rfl (hb hby d19_7) rfl ((if0 _ _).trans (feq hc1).2) (by decide) (by decide) k) ?_
    refine gv (fun t k => XS.iloadN X0.here hx rfl (hb hby d19_21) rfl k) ?_
    obtain ⟨_, _, ⟨T4, L4, k4, n4⟩, -, X4, ⟨Lc4, hQ4, l4, y4, z4⟩, st4⟩ := Jvm.LawKit.callS X0 hx (y := (⟨"java/lang/Integer", "numberOfLeadingZeros", "(I)I"⟩ : MethodName)) hown (mvT hZ (own_g hw 117 rfl)) (mvT hZ (own_g hw 118 rfl)) (mvT hZ (own_g hw 83 rfl)) (mvT hZ (own_g hw 119 rfl)) (by decide) (backOf (W := 0) (rm20 l Z a0 hw [] (((qx.toUInt64 >>> ((32 : Int32) &&& 0x3f).toInt64.toUInt64).toInt64).toInt32) h0 n0 Z0 ) hZ (own_g hw 119 rfl) (own_g hw 83 rfl) (by decide) (by decide)) (g := (mkF m 22 #[vj qx, v2, vi (((qx.toUInt64 >>> ((32 : Int32) &&& 0x3f).toInt64.toUInt64).toInt64).toInt32)] [(.int (((qx.toUInt64 >>> ((32 : Int32) &&& 0x3f).toInt64.toUInt64).toInt64).toInt32))])) rfl (by rw [hml]; rfl) (argsL := [(.int (((qx.toUInt64 >>> ((32 : Int32) &&& 0x3f).toInt64.toUInt64).toInt64).toInt32))]) (rest := []) (lenOf own_pd1 rfl) rfl (by show 2 * 0 + _ ≤ _; exact Nat.le_of_eq rfl) (hb hby d19_22) (fun _ _ => ⟨rfl, e0, (by decide : 0 + 0 ≤ _), (by decide : 0 + 0 ≤ _)⟩)
    dsimp only [Pt.U, Pt.locs, Pt.cells, Pt.slots] at X4 l4 y4 z4 st4 hQ4
    subst l4 y4 z4
    obtain ⟨qr_4, rfl, Nq4, hh4⟩ := hQ4
    obtain ⟨lc4, Xh4, N4⟩ := own_hide X4 (Fr.app N0 Nq4)
    clear X4
    refine gv st4 ?_
    show Go p.tables e below P T4 (mkF m 25 #[vj qx, v2, vi (((qx.toUInt64 >>> ((32 : Int32) &&& 0x3f).toInt64.toUInt64).toInt64).toInt32)] [(.int qr_4)])
    obtain ⟨fs, hr, hrun, hended, hW, hsame⟩ := Xh4.leave (v := some (.int qr_4)) (fun h => by rw [Bd.returns] at h; cases h)
    refine ⟨_, _, retI Xh4 hx Bd.returns (hb hby d19_25) hr, hrun, hended, hP _ _ ⟨_, _, rfl, ?_, ⟨_, rfl⟩, hW, hsame.mono (by decide) (by decide)⟩⟩
    show Q19 Z qx h0 n0 _ T4.heap _
    rw [hh4]
    exact ⟨qr_4, rfl, N4, rfl⟩
theorem own_pd2 : parseMethodDescriptor "(J)I" = some ⟨[.long], some .int⟩ := by decide +kernel
theorem d18_0 : D10 0 (.lload_n 0) 1 := by decide +kernel
theorem d18_1 : D10 1 (.ldc2_w 168) 3 := by decide +kernel
theorem d18_4 : D10 4 (.lload_n 0) 1 := by decide +kernel
theorem d18_5 : D10 5 (.invokestatic 98) 3 := by decide +kernel
theorem d18_8 : D10 8 (.lushr) 1 := by decide +kernel
theorem d18_9 : D10 9 (.land) 1 := by decide +kernel
theorem d18_10 : D10 10 (.lreturn) 1 := by decide +kernel
theorem ef_18 (m : MethodId) (x0 : Int64) : entryFrame m #[(.long x0)] 2 = mkF m 0 #[.val (.long x0), .second] [] := by first | (simp [entryFrame, mkF, argsToLocals, Value.category]; done) | rfl
def Q18 (Z : State) (qx : Int64) (h0 : Heap) (n0 : Nat) (v : Option Value) (h : Heap) (L : List Loc) : Prop := ∃ (qr : Int64), v = some (.long qr) ∧ Fr n0 L ∧ h = h0
set_option maxRecDepth 65536 in
set_option maxHeartbeats 40000000 in
theorem rm18 (l : Launch) (Z : State) (a0 : Array Value) (hw : ∀ d ∈ tables_1, d.before a0 Z = true) (ws : List Jvm.Cond) (qx : Int64) (h0 : Heap) (n0 : Nat) (Z0 : n0 ≤ h0.size) :
    MetFree l (⟨"java/lang/Long", "highestOneBit", "(J)J"⟩ : MethodName) (head1 (Jvm.Cond.code (⟨"java/lang/Long", "highestOneBit", "(J)J"⟩ : MethodName) jdk_35_method_46_code 2 (some .long) :: ws) ({ frames := 2, cells := 0, slots := 0, locals := 32 } : Room)) (fun a U => a = #[(.long qx)] ∧ Z.Warmed39 U.vm ∧ U.heap = h0) (fun _ _ _ _ _ => True) (fun _ U o U' => ∃ v L, o = .returned v ∧ Q18 Z qx h0 n0 v U'.heap L ∧ FrameEnd U o U' L ({ frames := 2, cells := 0, slots := 0, locals := 32 } : Room).cells ({ frames := 2, cells := 0, slots := 0, locals := 32 } : Room).slots) := by
  refine MetFree.of_bodySF (plainFor_of_name own_pn2) hisR ?_
  intro p e s m args below meth c s₁ Bd hml0 hP hK
  obtain ⟨rfl, hZ, hh⟩ := hP
  have hx := Bd.exec
  have hby := Bd.bytes
  have hml : c.maxLocals = 2 := hml0
  have hown : s.vm.findClass "java/lang/Long" = some m.cls := findClass_of_methodNamed Bd.named
  have hnm := (name_of_methodNamed Bd.named Bd.method).1
  have X0 : Stand p l e ({ frames := 2, cells := 0, slots := 0, locals := 32 } : Room) s m #[(.long qx)] below meth c s₁ [] 0 0 := Stand.of_body Bd
  have e0 : s₁.heap = h0 := by rw [← hh, Bd.state]; rfl
  have N0 := Fr.nil n0
  have K0 : Keep h0 h0 [] := Keep.refl _ _
  suffices GO : ∀ P : Outcome → State → Prop, (∀ o U', (∃ v L, o = .returned v ∧ Q18 Z qx h0 n0 v U'.heap L ∧ FrameEnd s o U' L ({ frames := 2, cells := 0, slots := 0, locals := 32 } : Room).cells ({ frames := 2, cells := 0, slots := 0, locals := 32 } : Room).slots) → P o U') → Go p.tables e below P s₁ (mkF m 0 #[.val (.long qx), .second] []) by
    obtain ⟨s2, o, st, r⟩ := GO _ (fun _ _ q => q)
    exact ⟨s2, o, castTop (ef_18 m qx) st, r⟩
  clear hh
  intro P hP
  show Go p.tables e below P s₁ (mkF m 0 #[vj qx, v2] [])
  refine gv (fun t k => XS.lloadN X0.here hx rfl (hb hby d18_0) rfl k) ?_
  refine gv (fun t k => X0.ldc2Long hx hown (mvT hZ (own_g hw 113 rfl)) (g := (mkF m 1 #[vj qx, v2] [(.long qx)])) rfl (hb hby d18_1) t k) ?_
  refine gv (fun t k => XS.lloadN X0.here hx rfl (hb hby d18_4) rfl k) ?_
  obtain ⟨_, _, ⟨T1, L1, k1, n1⟩, -, X1, ⟨Lc1, hQ1, l1, y1, z1⟩, st1⟩ := Jvm.LawKit.callS X0 hx (y := (⟨"java/lang/Long", "numberOfLeadingZeros", "(J)I"⟩ : MethodName)) hown (mvT hZ (own_g hw 114 rfl)) (mvT hZ (own_g hw 115 rfl)) (mvT hZ (own_g hw 73 rfl)) (mvT hZ (own_g hw 116 rfl)) (by decide) (backOf (W := 4) (rm19 l Z a0 hw [] qx h0 n0 Z0 ) hZ (own_g hw 116 rfl) (own_g hw 73 rfl) (by decide) (by decide)) (g := (mkF m 5 #[vj qx, v2] [(.long qx), (.long (-9223372036854775808)), (.long qx)])) rfl (by rw [hml]; rfl) (argsL := [(.long qx)]) (rest := [(.long (-9223372036854775808)), (.long qx)]) (lenOf own_pd2 rfl) rfl (by show 2 * 0 + _ ≤ _; exact Nat.le_of_eq rfl) (hb hby d18_5) (fun _ _ => ⟨rfl, e0, (by decide : 0 + 0 ≤ _), (by decide : 0 + 0 ≤ _)⟩)
  dsimp only [Pt.U, Pt.locs, Pt.cells, Pt.slots] at X1 l1 y1 z1 st1 hQ1
  subst l1 y1 z1
  obtain ⟨qr_1, rfl, Nq1, hh1⟩ := hQ1
  obtain ⟨lc1, Xh1, N1⟩ := own_hide X1 (Fr.app N0 Nq1)
  clear X1
  refine gv st1 ?_
  refine gv (fun t k => XS.lushr Xh1.here hx rfl (hb hby d18_8) rfl k) ?_
  refine gv (fun t k => XS.land Xh1.here hx rfl (hb hby d18_9) rfl k) ?_
  show Go p.tables e below P T1 (mkF m 10 #[vj qx, v2] [(.long (qx &&& (((-9223372036854775808 : Int64).toUInt64 >>> (qr_1 &&& 0x3f).toInt64.toUInt64).toInt64)))])
  obtain ⟨fs, hr, hrun, hended, hW, hsame⟩ := Xh1.leave (v := some (.long (qx &&& (((-9223372036854775808 : Int64).toUInt64 >>> (qr_1 &&& 0x3f).toInt64.toUInt64).toInt64)))) (fun h => by rw [Bd.returns] at h; cases h)
  refine ⟨_, _, retJ Xh1 hx Bd.returns (hb hby d18_10) hr, hrun, hended, hP _ _ ⟨_, _, rfl, ?_, ⟨_, rfl⟩, hW, hsame.mono (by decide) (by decide)⟩⟩
  show Q18 Z qx h0 n0 _ T1.heap _
  rw [hh1]
  exact ⟨(qx &&& (((-9223372036854775808 : Int64).toUInt64 >>> (qr_1 &&& 0x3f).toInt64.toUInt64).toInt64)), rfl, N1, rfl⟩
def own_cmp (x y : Int64) : Int32 := if lcmpW x y < (0 : Int32) then (-1 : Int32) else (if lcmpW x y = (0 : Int32) then (0 : Int32) else (1 : Int32))
def own_cu (x y : Int64) : Int32 := own_cmp (x + (-9223372036854775808 : Int64)) (y + (-9223372036854775808 : Int64))
theorem d22_0 : D11 0 (.lload_n 0) 1 := by decide +kernel
theorem d22_1 : D11 1 (.lload_n 2) 1 := by decide +kernel
theorem d22_2 : D11 2 (.lcmp) 1 := by decide +kernel
theorem d22_3 : D11 3 (.ifCond .ge 7) 3 := by decide +kernel
theorem d22_6 : D11 6 (.iconst (-1)) 1 := by decide +kernel
theorem d22_7 : D11 7 (.goto 14) 3 := by decide +kernel
theorem d22_10 : D11 10 (.lload_n 0) 1 := by decide +kernel
theorem d22_11 : D11 11 (.lload_n 2) 1 := by decide +kernel
theorem d22_12 : D11 12 (.lcmp) 1 := by decide +kernel
theorem d22_13 : D11 13 (.ifCond .ne 7) 3 := by decide +kernel
theorem d22_16 : D11 16 (.iconst 0) 1 := by decide +kernel
theorem d22_17 : D11 17 (.goto 4) 3 := by decide +kernel
theorem d22_20 : D11 20 (.iconst 1) 1 := by decide +kernel
theorem d22_21 : D11 21 (.ireturn) 1 := by decide +kernel
theorem ef_22 (m : MethodId) (x0 : Int64) (x1 : Int64) : entryFrame m #[(.long x0), (.long x1)] 4 = mkF m 0 #[.val (.long x0), .second, .val (.long x1), .second] [] := by first | (simp [entryFrame, mkF, argsToLocals, Value.category]; done) | rfl
def Q22 (Z : State) (qx : Int64) (qy : Int64) (h0 : Heap) (n0 : Nat) (v : Option Value) (h : Heap) (L : List Loc) : Prop := v = some (.int (own_cmp qx qy)) ∧ Fr n0 L ∧ h = h0
set_option maxRecDepth 65536 in
set_option maxHeartbeats 40000000 in
theorem rm22 (l : Launch) (Z : State) (a0 : Array Value) (hw : ∀ d ∈ tables_1, d.before a0 Z = true) (ws : List Jvm.Cond) (qx : Int64) (qy : Int64) (h0 : Heap) (n0 : Nat) (Z0 : n0 ≤ h0.size) :
    MetFree l (⟨"java/lang/Long", "compare", "(JJ)I"⟩ : MethodName) (head1 (Jvm.Cond.code (⟨"java/lang/Long", "compare", "(JJ)I"⟩ : MethodName) jdk_35_method_42_code 4 (some .int) :: ws) ({ frames := 0, cells := 0, slots := 0, locals := 0 } : Room)) (fun a U => a = #[(.long qx), (.long qy)] ∧ Z.Warmed39 U.vm ∧ U.heap = h0) (fun _ _ _ _ _ => True) (fun _ U o U' => ∃ v L, o = .returned v ∧ Q22 Z qx qy h0 n0 v U'.heap L ∧ FrameEnd U o U' L ({ frames := 0, cells := 0, slots := 0, locals := 0 } : Room).cells ({ frames := 0, cells := 0, slots := 0, locals := 0 } : Room).slots) := by
  refine MetFree.of_bodySF (plainFor_of_name own_pn2) hisR ?_
  intro p e s m args below meth c s₁ Bd hml0 hP hK
  obtain ⟨rfl, hZ, hh⟩ := hP
  have hx := Bd.exec
  have hby := Bd.bytes
  have hml : c.maxLocals = 4 := hml0
  have hown : s.vm.findClass "java/lang/Long" = some m.cls := findClass_of_methodNamed Bd.named
  have hnm := (name_of_methodNamed Bd.named Bd.method).1
  have X0 : Stand p l e ({ frames := 0, cells := 0, slots := 0, locals := 0 } : Room) s m #[(.long qx), (.long qy)] below meth c s₁ [] 0 0 := Stand.of_body Bd
  have e0 : s₁.heap = h0 := by rw [← hh, Bd.state]; rfl
  have N0 := Fr.nil n0
  have K0 : Keep h0 h0 [] := Keep.refl _ _
  suffices GO : ∀ P : Outcome → State → Prop, (∀ o U', (∃ v L, o = .returned v ∧ Q22 Z qx qy h0 n0 v U'.heap L ∧ FrameEnd s o U' L ({ frames := 0, cells := 0, slots := 0, locals := 0 } : Room).cells ({ frames := 0, cells := 0, slots := 0, locals := 0 } : Room).slots) → P o U') → Go p.tables e below P s₁ (mkF m 0 #[.val (.long qx), .second, .val (.long qy), .second] []) by
    obtain ⟨s2, o, st, r⟩ := GO _ (fun _ _ q => q)
    exact ⟨s2, o, castTop (ef_22 m qx qy) st, r⟩
  clear hh
  intro P hP
  show Go p.tables e below P s₁ (mkF m 0 #[vj qx, v2, vj qy, v2] [])
  refine gv (fun t k => XS.lloadN X0.here hx rfl (hb hby d22_0) rfl k) ?_
  refine gv (fun t k => XS.lloadN X0.here hx rfl (hb hby d22_1) rfl k) ?_
  refine gv (fun t k => XS.lcmp X0.here hx rfl (hb hby d22_2) rfl k) ?_
  show Go p.tables e below P s₁ (mkF m 3 #[vj qx, v2, vj qy, v2] [(.int (lcmpW qx qy))])
  have J2 : ∀ (T2 : State) (locs2 : List Loc) (v2_0 : Int32), Stand p l e ({ frames := 0, cells := 0, slots := 0, locals := 0 } : Room) s m #[(.long qx), (.long qy)] below meth c T2 locs2 0 0 → T2.heap = h0 → Fr n0 locs2 → v2_0 = (if (lcmpW qx qy) < (0 : Int32) then (-1 : Int32) else (if (lcmpW qx qy) = (0 : Int32) then (0 : Int32) else (1 : Int32))) → Go p.tables e below P T2 (mkF m 21 #[.val (.long qx), .second, .val (.long qy), .second] [(.int v2_0)]) := by
    intro T2 locs2 v2_0 X2 e2 N2 hv2_0
    show Go p.tables e below P T2 (mkF m 21 #[vj qx, v2, vj qy, v2] [(.int v2_0)])
    obtain ⟨fs, hr, hrun, hended, hW, hsame⟩ := X2.leave (v := some (.int (own_cmp qx qy))) (fun h => by rw [Bd.returns] at h; cases h)
    refine ⟨_, _, (by have q := retI X2 hx Bd.returns (hb hby d22_21) (z := v2_0) (rest := []) (pc := 21) (Ls := #[.val (.long qx), .second, .val (.long qy), .second]) (by rw [(show v2_0 = own_cmp qx qy from hv2_0)]; exact hr); exact q), hrun, hended, hP _ _ ⟨_, _, rfl, ?_, ⟨_, rfl⟩, hW, hsame.mono (by decide) (by decide)⟩⟩
    show Q22 Z qx qy h0 n0 _ T2.heap _
    rw [e2]
    exact ⟨rfl, N2, rfl⟩
  by_cases hc1 : (lcmpW qx qy) < (0 : Int32)
  · refine gv (fun t k => XS.ifNo X0.here hx rfl (hb hby d22_3) rfl ((if0 _ _).trans (tlt hc1).2.1) k) ?_
    refine gv (fun t k => XS.iconst X0.here hx rfl (hb hby d22_6) k) ?_
    refine gv (fun t k => XS.goto X0.here hx rfl (pc0 := 7) (pc' := 21) rfl (hb hby d22_7) (by decide) (by decide) k) ?_
    exact J2 s₁ _ (-1 : Int32) X0 e0 N0 (if_pos hc1).symm
  · refine gv (fun t k => XS.ifYes X0.here hx rfl (pc0 := 3) (pc' := 10) rfl (hb hby d22_3) rfl ((if0 _ _).trans (flt hc1).2.1) (by decide) (by decide) k) ?_
    refine gv (fun t k => XS.lloadN X0.here hx rfl (hb hby d22_10) rfl k) ?_
    refine gv (fun t k => XS.lloadN X0.here hx rfl (hb hby d22_11) rfl k) ?_
    refine gv (fun t k => XS.lcmp X0.here hx rfl (hb hby d22_12) rfl k) ?_
    by_cases hc4 : (lcmpW qx qy) = (0 : Int32)
    · refine gv (fun t k => XS.ifNo X0.here hx rfl (hb hby d22_13) rfl ((if0 _ _).trans (teq hc4).2) k) ?_
      refine gv (fun t k => XS.iconst X0.here hx rfl (hb hby d22_16) k) ?_
      refine gv (fun t k => XS.goto X0.here hx rfl (pc0 := 17) (pc' := 21) rfl (hb hby d22_17) (by decide) (by decide) k) ?_
      exact J2 s₁ _ (0 : Int32) X0 e0 N0 (Eq.trans (if_neg hc1) (if_pos hc4)).symm
    · refine gv (fun t k => XS.ifYes X0.here hx rfl (pc0 := 13) (pc' := 20) rfl (hb hby d22_13) rfl ((if0 _ _).trans (feq hc4).2) (by decide) (by decide) k) ?_
      show Go p.tables e below P s₁ (mkF m 20 #[vj qx, v2, vj qy, v2] [])
      refine gv (fun t k => XS.iconst X0.here hx rfl (hb hby d22_20) k) ?_
      exact J2 s₁ _ (1 : Int32) X0 e0 N0 (Eq.trans (if_neg hc1) (if_neg hc4)).symm
theorem own_pd3 : parseMethodDescriptor "(JJ)I" = some ⟨[.long, .long], some .int⟩ := by decide +kernel
theorem d21_0 : D12 0 (.lload_n 0) 1 := by decide +kernel
theorem d21_1 : D12 1 (.ldc2_w 168) 3 := by decide +kernel
theorem d21_4 : D12 4 (.ladd) 1 := by decide +kernel
theorem d21_5 : D12 5 (.lload_n 2) 1 := by decide +kernel
theorem d21_6 : D12 6 (.ldc2_w 168) 3 := by decide +kernel
theorem d21_9 : D12 9 (.ladd) 1 := by decide +kernel
theorem d21_10 : D12 10 (.invokestatic 302) 3 := by decide +kernel
theorem d21_13 : D12 13 (.ireturn) 1 := by decide +kernel
theorem ef_21 (m : MethodId) (x0 : Int64) (x1 : Int64) : entryFrame m #[(.long x0), (.long x1)] 4 = mkF m 0 #[.val (.long x0), .second, .val (.long x1), .second] [] := by first | (simp [entryFrame, mkF, argsToLocals, Value.category]; done) | rfl
def Q21 (Z : State) (qx : Int64) (qy : Int64) (h0 : Heap) (n0 : Nat) (v : Option Value) (h : Heap) (L : List Loc) : Prop := v = some (.int (own_cu qx qy)) ∧ Fr n0 L ∧ h = h0
set_option maxRecDepth 65536 in
set_option maxHeartbeats 40000000 in
theorem rm21 (l : Launch) (Z : State) (a0 : Array Value) (hw : ∀ d ∈ tables_1, d.before a0 Z = true) (ws : List Jvm.Cond) (qx : Int64) (qy : Int64) (h0 : Heap) (n0 : Nat) (Z0 : n0 ≤ h0.size) :
    MetFree l (⟨"java/lang/Long", "compareUnsigned", "(JJ)I"⟩ : MethodName) (head1 (Jvm.Cond.code (⟨"java/lang/Long", "compareUnsigned", "(JJ)I"⟩ : MethodName) jdk_35_method_43_code 4 (some .int) :: ws) ({ frames := 1, cells := 0, slots := 0, locals := 15 } : Room)) (fun a U => a = #[(.long qx), (.long qy)] ∧ Z.Warmed39 U.vm ∧ U.heap = h0) (fun _ _ _ _ _ => True) (fun _ U o U' => ∃ v L, o = .returned v ∧ Q21 Z qx qy h0 n0 v U'.heap L ∧ FrameEnd U o U' L ({ frames := 1, cells := 0, slots := 0, locals := 15 } : Room).cells ({ frames := 1, cells := 0, slots := 0, locals := 15 } : Room).slots) := by
  refine MetFree.of_bodySF (plainFor_of_name own_pn2) hisR ?_
  intro p e s m args below meth c s₁ Bd hml0 hP hK
  obtain ⟨rfl, hZ, hh⟩ := hP
  have hx := Bd.exec
  have hby := Bd.bytes
  have hml : c.maxLocals = 4 := hml0
  have hown : s.vm.findClass "java/lang/Long" = some m.cls := findClass_of_methodNamed Bd.named
  have hnm := (name_of_methodNamed Bd.named Bd.method).1
  have X0 : Stand p l e ({ frames := 1, cells := 0, slots := 0, locals := 15 } : Room) s m #[(.long qx), (.long qy)] below meth c s₁ [] 0 0 := Stand.of_body Bd
  have e0 : s₁.heap = h0 := by rw [← hh, Bd.state]; rfl
  have N0 := Fr.nil n0
  have K0 : Keep h0 h0 [] := Keep.refl _ _
  suffices GO : ∀ P : Outcome → State → Prop, (∀ o U', (∃ v L, o = .returned v ∧ Q21 Z qx qy h0 n0 v U'.heap L ∧ FrameEnd s o U' L ({ frames := 1, cells := 0, slots := 0, locals := 15 } : Room).cells ({ frames := 1, cells := 0, slots := 0, locals := 15 } : Room).slots) → P o U') → Go p.tables e below P s₁ (mkF m 0 #[.val (.long qx), .second, .val (.long qy), .second] []) by
    obtain ⟨s2, o, st, r⟩ := GO _ (fun _ _ q => q)
    exact ⟨s2, o, castTop (ef_21 m qx qy) st, r⟩
  clear hh
  intro P hP
  show Go p.tables e below P s₁ (mkF m 0 #[vj qx, v2, vj qy, v2] [])
  refine gv (fun t k => XS.lloadN X0.here hx rfl (hb hby d21_0) rfl k) ?_
  refine gv (fun t k => X0.ldc2Long hx hown (mvT hZ (own_g hw 113 rfl)) (g := (mkF m 1 #[vj qx, v2, vj qy, v2] [(.long qx)])) rfl (hb hby d21_1) t k) ?_
  refine gv (fun t k => XS.ladd X0.here hx rfl (hb hby d21_4) rfl k) ?_
  refine gv (fun t k => XS.lloadN X0.here hx rfl (hb hby d21_5) rfl k) ?_
  refine gv (fun t k => X0.ldc2Long hx hown (mvT hZ (own_g hw 113 rfl)) (g := (mkF m 6 #[vj qx, v2, vj qy, v2] [(.long qy), (.long (qx + (-9223372036854775808 : Int64)))])) rfl (hb hby d21_6) t k) ?_
  refine gv (fun t k => XS.ladd X0.here hx rfl (hb hby d21_9) rfl k) ?_
  obtain ⟨_, _, ⟨T1, L1, k1, n1⟩, -, X1, ⟨Lc1, hQ1, l1, y1, z1⟩, st1⟩ := Jvm.LawKit.callS X0 hx (y := (⟨"java/lang/Long", "compare", "(JJ)I"⟩ : MethodName)) hown (mvT hZ (own_g hw 124 rfl)) (mvT hZ (own_g hw 125 rfl)) (mvT hZ (own_g hw 73 rfl)) (mvT hZ (own_g hw 126 rfl)) (by decide) (backOf (W := 0) (rm22 l Z a0 hw [] (qx + (-9223372036854775808 : Int64)) (qy + (-9223372036854775808 : Int64)) h0 n0 Z0 ) hZ (own_g hw 126 rfl) (own_g hw 73 rfl) (by decide) (by decide)) (g := (mkF m 10 #[vj qx, v2, vj qy, v2] [(.long (qy + (-9223372036854775808 : Int64))), (.long (qx + (-9223372036854775808 : Int64)))])) rfl (by rw [hml]; rfl) (argsL := [(.long (qx + (-9223372036854775808 : Int64))), (.long (qy + (-9223372036854775808 : Int64)))]) (rest := []) (lenOf own_pd3 rfl) rfl (by show 2 * 0 + _ ≤ _; exact Nat.le_of_eq rfl) (hb hby d21_10) (fun _ _ => ⟨rfl, e0, (by decide : 0 + 0 ≤ _), (by decide : 0 + 0 ≤ _)⟩)
  dsimp only [Pt.U, Pt.locs, Pt.cells, Pt.slots] at X1 l1 y1 z1 st1 hQ1
  subst l1 y1 z1
  obtain ⟨rfl, Nq1, hh1⟩ := hQ1
  obtain ⟨lc1, Xh1, N1⟩ := own_hide X1 (Fr.app N0 Nq1)
  clear X1
  refine gv st1 ?_
  show Go p.tables e below P T1 (mkF m 13 #[vj qx, v2, vj qy, v2] [(.int (own_cmp (qx + (-9223372036854775808 : Int64)) (qy + (-9223372036854775808 : Int64))))])
  obtain ⟨fs, hr, hrun, hended, hW, hsame⟩ := Xh1.leave (v := some (.int (own_cu qx qy))) (fun h => by rw [Bd.returns] at h; cases h)
  refine ⟨_, _, retI Xh1 hx Bd.returns (hb hby d21_13) hr, hrun, hended, hP _ _ ⟨_, _, rfl, ?_, ⟨_, rfl⟩, hW, hsame.mono (by decide) (by decide)⟩⟩
  show Q21 Z qx qy h0 n0 _ T1.heap _
  rw [hh1]
  exact ⟨rfl, N1, rfl⟩
theorem d5_0 : D13 0 (.iload_n 0) 1 := by decide +kernel
theorem d5_1 : D13 1 (.iconst 1) 1 := by decide +kernel
theorem d5_2 : D13 2 (.iadd) 1 := by decide +kernel
theorem d5_3 : D13 3 (.newarray .long) 2 := by decide +kernel
theorem d5_5 : D13 5 (.astore_n 2) 1 := by decide +kernel
theorem d5_6 : D13 6 (.aload_n 2) 1 := by decide +kernel
theorem d5_7 : D13 7 (.iconst 0) 1 := by decide +kernel
theorem d5_8 : D13 8 (.lconst 1) 1 := by decide +kernel
theorem d5_9 : D13 9 (.lastore) 1 := by decide +kernel
theorem d5_10 : D13 10 (.iconst 1) 1 := by decide +kernel
theorem d5_11 : D13 11 (.istore_n 3) 1 := by decide +kernel
theorem d5_12 : D13 12 (.iload_n 3) 1 := by decide +kernel
theorem d5_13 : D13 13 (.iload_n 0) 1 := by decide +kernel
theorem d5_14 : D13 14 (.if_icmp .gt 36) 3 := by decide +kernel
theorem d5_17 : D13 17 (.iload_n 3) 1 := by decide +kernel
theorem d5_18 : D13 18 (.istore 4) 2 := by decide +kernel
theorem d5_20 : D13 20 (.iload 4) 2 := by decide +kernel
theorem d5_22 : D13 22 (.ifCond .le 22) 3 := by decide +kernel
theorem d5_25 : D13 25 (.aload_n 2) 1 := by decide +kernel
theorem d5_26 : D13 26 (.iload 4) 2 := by decide +kernel
theorem d5_28 : D13 28 (.dup2) 1 := by decide +kernel
theorem d5_29 : D13 29 (.laload) 1 := by decide +kernel
theorem d5_30 : D13 30 (.aload_n 2) 1 := by decide +kernel
theorem d5_31 : D13 31 (.iload 4) 2 := by decide +kernel
theorem d5_33 : D13 33 (.iconst 1) 1 := by decide +kernel
theorem d5_34 : D13 34 (.isub) 1 := by decide +kernel
theorem d5_35 : D13 35 (.laload) 1 := by decide +kernel
theorem d5_36 : D13 36 (.ladd) 1 := by decide +kernel
theorem d5_37 : D13 37 (.lastore) 1 := by decide +kernel
theorem d5_38 : D13 38 (.iinc 4 (-1)) 3 := by decide +kernel
theorem d5_41 : D13 41 (.goto (-21)) 3 := by decide +kernel
theorem d5_44 : D13 44 (.iinc 3 1) 3 := by decide +kernel
theorem d5_47 : D13 47 (.goto (-35)) 3 := by decide +kernel
theorem d5_50 : D13 50 (.aload_n 2) 1 := by decide +kernel
theorem d5_51 : D13 51 (.iload_n 1) 1 := by decide +kernel
theorem d5_52 : D13 52 (.laload) 1 := by decide +kernel
theorem d5_53 : D13 53 (.lreturn) 1 := by decide +kernel
theorem ef_5 (m : MethodId) (x0 : Int32) (x1 : Int32) : entryFrame m #[(.int x0), (.int x1)] 5 = mkF m 0 #[.val (.int x0), .val (.int x1), .unset, .unset, .unset] [] := by first | (simp [entryFrame, mkF, argsToLocals, Value.category]; done) | rfl
def Q5 (Z : State) (pn : Int32) (pk : Int32) (nN : Nat) (nK : Nat) (h0 : Heap) (n0 : Nat) (v : Option Value) (h : Heap) (L : List Loc) : Prop := v = some (.long (own_bin nN nK)) ∧ Fr n0 L ∧ Keep h0 h []
set_option maxRecDepth 65536 in
set_option maxHeartbeats 40000000 in
theorem rm5 (l : Launch) (Z : State) (a0 : Array Value) (hw : ∀ d ∈ tables_1, d.before a0 Z = true) (ws : List Jvm.Cond) (pn : Int32) (pk : Int32) (nN : Nat) (nK : Nat) (h0 : Heap) (n0 : Nat) (Z0 : n0 ≤ h0.size) (hpn : pn = nN.toInt32) (hpk : pk = nK.toInt32) (hn64 : nN ≤ 64) (hkn : nK ≤ nN) :
    MetFree l (⟨BLn, "binomial", "(II)J"⟩ : MethodName) (head1 (Jvm.Cond.code (⟨BLn, "binomial", "(II)J"⟩ : MethodName) prog_1_method_19_code 5 (some .long) :: ws) ({ frames := 0, cells := 1, slots := 65, locals := 0 } : Room)) (fun a U => a = #[(.int pn), (.int pk)] ∧ Z.Warmed39 U.vm ∧ U.heap = h0) (fun _ _ _ _ _ => True) (fun _ U o U' => ∃ v L, o = .returned v ∧ Q5 Z pn pk nN nK h0 n0 v U'.heap L ∧ FrameEnd U o U' L ({ frames := 0, cells := 1, slots := 65, locals := 0 } : Room).cells ({ frames := 0, cells := 1, slots := 65, locals := 0 } : Room).slots) := by
  refine MetFree.of_bodySF (plainFor_of_name own_pn1) hisR ?_
  intro p e s m args below meth c s₁ Bd hml0 hP hK
  obtain ⟨rfl, hZ, hh⟩ := hP
  have hx := Bd.exec
  have hby := Bd.bytes
  have hml : c.maxLocals = 5 := hml0
  have hown : s.vm.findClass BLn = some m.cls := findClass_of_methodNamed Bd.named
  have hnm := (name_of_methodNamed Bd.named Bd.method).1
  have X0 : Stand p l e ({ frames := 0, cells := 1, slots := 65, locals := 0 } : Room) s m #[(.int pn), (.int pk)] below meth c s₁ [] 0 0 := Stand.of_body Bd
  have e0 : s₁.heap = h0 := by rw [← hh, Bd.state]; rfl
  have N0 := Fr.nil n0
  have K0 : Keep h0 h0 [] := Keep.refl _ _
  suffices GO : ∀ P : Outcome → State → Prop, (∀ o U', (∃ v L, o = .returned v ∧ Q5 Z pn pk nN nK h0 n0 v U'.heap L ∧ FrameEnd s o U' L ({ frames := 0, cells := 1, slots := 65, locals := 0 } : Room).cells ({ frames := 0, cells := 1, slots := 65, locals := 0 } : Room).slots) → P o U') → Go p.tables e below P s₁ (mkF m 0 #[.val (.int pn), .val (.int pk), .unset, .unset, .unset] []) by
    obtain ⟨s2, o, st, r⟩ := GO _ (fun _ _ q => q)
    exact ⟨s2, o, castTop (ef_5 m pn pk) st, r⟩
  clear hh
  intro P hP
  show Go p.tables e below P s₁ (mkF m 0 #[vi pn, vi pk, vu, vu, vu] [])
  refine gv (fun t k => XS.iloadN X0.here hx rfl (hb hby d5_0) rfl k) ?_
  refine gv (fun t k => XS.iconst X0.here hx rfl (hb hby d5_1) k) ?_
  refine gv (fun t k => XS.iadd X0.here hx rfl (hb hby d5_2) rfl k) ?_
  show Go p.tables e below P s₁ (mkF m 3 #[vi pn, vi pk, vu, vu, vu] [(.int (pn + (1 : Int32)))])
  rw [show pn + (1 : Int32) = (nN + 1).toInt32 from by rw [hpn]; exact own_succ nN]
  obtain ⟨T1, h1, k1, X1, e1, E1, A1, st1⟩ := newP X0 hx hZ (own_g hw 21 rfl) e0 (g := (mkF m 3 #[vi pn, vi pk, vu, vu, vu] [(.int ((nN + 1).toInt32))])) rfl (hb hby d5_3) rfl (own_nneg (by omega)) (cap := 65) (by rw [own_clamp (by omega)]; omega) (by decide) (by decide) (by decide)
  obtain ⟨b1, g1⟩ : ∃ z, z = h0.size := ⟨_, rfl⟩
  rw [← g1] at A1 st1
  refine gv st1 ?_
  have g2 := Nat.le_trans Z0 (Nat.le_of_eq g1.symm)
  have sz3 := Nat.le_trans K0.1 (Nat.le_of_eq g1.symm)
  have Z4 := Nat.le_trans Z0 E1.1
  have K5 := K0.ext E1
  have V1 : Arv Z h1 b1 k1 .long ((nN + 1).toInt32) (List.replicate 65 (.long 0)) (.long 0) := (Arv.new A1 (own_nneg (by omega))).pad (pad_rep [] (.long 0) 65)
  refine gv (fun t k => XS.astoreN X1.here hx rfl (hb hby d5_5) rfl rfl (l' := #[vi pn, vi pk, vr b1, vu, vu]) rfl k) ?_
  refine gv (fun t k => XS.aloadN X1.here hx rfl (hb hby d5_6) rfl rfl k) ?_
  refine gv (fun t k => XS.iconst X1.here hx rfl (hb hby d5_7) k) ?_
  refine gv (fun t k => XS.lconst X1.here hx rfl (hb hby d5_8) k) ?_
  obtain ⟨T6, h6, lc6, X6, e6, N6, Z6, K6, W6, V6, st6⟩ := own_stJ X1 hx hZ e1 V1 N0 Z4 K5 g2 (Or.inr sz3) (j := (0 : Int32)) ⟨by decide, (own_pos (by omega)).mpr (by omega)⟩ (ji := 0) rfl (by simp) (g := (mkF m 9 #[vi pn, vi pk, vr b1, vu, vu] [(.long 1), (.int 0), (.ref b1)])) rfl rfl (hb hby d5_9)
  refine gv st6 ?_
  refine gv (fun t k => XS.iconst X6.here hx rfl (hb hby d5_10) k) ?_
  refine gv (fun t k => XS.istoreN X6.here hx rfl (hb hby d5_11) rfl (l' := #[vi pn, vi pk, vr b1, vi 1, vu]) rfl k) ?_
  have LP7 : ∀ (k7 : Nat) (T7 : State) (locs7 : List Loc) (hp7 : Heap) (i : Nat) (x3 : Int32) (s7_4 : Slot), Stand p l e ({ frames := 0, cells := 1, slots := 65, locals := 0 } : Room) s m #[(.int pn), (.int pk)] below meth c T7 locs7 1 65 → T7.heap = hp7 → Fr n0 locs7 → n0 ≤ hp7.size → Keep h0 hp7 [] → Arv Z hp7 b1 k1 .long ((nN + 1).toInt32) ((own_row i).map Value.long) (.long 0) → i ≤ nN → x3 = (i + 1).toInt32 → (s7_4 = .unset ∨ ∃ w, s7_4 = .val w ∧ w.category = 1) → nN - i < k7 → Go p.tables e below P T7 (mkF m 12 #[.val (.int pn), .val (.int pk), .val (.ref b1), .val (.int x3), s7_4] []) := by
    intro k7
    induction k7 with
    | zero => intros; rename_i hk; exact absurd hk (Nat.not_lt_zero _)
    | succ k7 ih7 =>
      intro T7 locs7 hp7 i x3 s7_4 X7 e7 N7 Z7 K7 F7_0 hi hx3 hos7_4 hk
      show Go p.tables e below P T7 (mkF m 12 #[vi pn, vi pk, vr b1, vi x3, s7_4] [])
      refine gv (fun t k => XS.iloadN X7.here hx rfl (hb hby d5_12) rfl k) ?_
      refine gv (fun t k => XS.iloadN X7.here hx rfl (hb hby d5_13) rfl k) ?_
      by_cases hc8 : pn < x3
      · refine gv (fun t k => XS.icmpYes X7.here hx rfl (pc0 := 14) (pc' := 50) rfl (hb hby d5_14) rfl (tlt hc8).2.2.1 (by decide) (by decide) k) ?_
        have hge : i = nN := by have q := hc8; rw [hpn, hx3, own_ltN (by omega) (by omega)] at q; omega
        refine gv (fun t k => XS.aloadN X7.here hx rfl (hb hby d5_50) rfl rfl k) ?_
        refine gv (fun t k => XS.iloadN X7.here hx rfl (hb hby d5_51) rfl k) ?_
        obtain ⟨c9, A9, q9, S9, N9, H9, G9⟩ := id F7_0
        have hin9 : ¬ (pk < 0 ∨ c9.slots.size ≤ (pk).toNatClampNeg) := inb_of S9 ⟨by rw [hpk]; exact own_nneg (by omega), by rw [hpk]; exact (own_ltN (by omega) (by omega)).mpr (by omega)⟩
        have hat9 : c9.slots[(pk).toNatClampNeg]? = some (.long (own_bin nN nK)) := (H9 _ (Nat.lt_of_not_le fun q => hin9 (Or.inr q))).trans (congrArg some (by rw [hpk, own_clamp (by omega), hge]; exact own_getDJ _ _))
        refine gv (fun t k => X7.laload hx (j := pk) (v := (.long (own_bin nN nK))) (by rw [e7]; exact A9.1) (State.isArrayOf_alike hZ.alike A9.2.1) A9.2.2 hin9 hat9 (g := (mkF m 52 #[vi pn, vi pk, vr b1, vi x3, s7_4] [(.int pk), (.ref b1)])) rfl rfl (hb hby d5_52) t k) ?_
        show Go p.tables e below P T7 (mkF m 53 #[vi pn, vi pk, vr b1, vi x3, s7_4] [(.long (own_bin nN nK))])
        obtain ⟨fs, hr, hrun, hended, hW, hsame⟩ := X7.leave (v := some (.long (own_bin nN nK))) (fun h => by rw [Bd.returns] at h; cases h)
        refine ⟨_, _, retJ X7 hx Bd.returns (hb hby d5_53) hr, hrun, hended, hP _ _ ⟨_, _, rfl, ?_, ⟨_, rfl⟩, hW, hsame.mono (by decide) (by decide)⟩⟩
        show Q5 Z pn pk nN nK h0 n0 _ T7.heap _
        rw [e7]
        exact ⟨rfl, N7, K7⟩
      · refine gv (fun t k => XS.icmpNo X7.here hx rfl (hb hby d5_14) rfl (flt hc8).2.2.1 k) ?_
        have hlt : i < nN := by have q := hc8; rw [hpn, hx3, own_ltN (by omega) (by omega)] at q; omega
        refine gv (fun t k => XS.iloadN X7.here hx rfl (hb hby d5_17) rfl k) ?_
        refine gv (fun t k => XS.istore X7.here hx rfl (hb hby d5_18) rfl (l' := #[vi pn, vi pk, vr b1, vi x3, vi x3]) (XS.store1 rfl hos7_4 rfl) k) ?_
        have LP11 : ∀ (k11 : Nat) (T11 : State) (locs11 : List Loc) (hp11 : Heap) (jj : Nat) (rr : List Int64) (x4 : Int32), Stand p l e ({ frames := 0, cells := 1, slots := 65, locals := 0 } : Room) s m #[(.int pn), (.int pk)] below meth c T11 locs11 1 65 → T11.heap = hp11 → Fr n0 locs11 → n0 ≤ hp11.size → Keep h0 hp11 [] → Arv Z hp11 b1 k1 .long ((nN + 1).toInt32) (rr.map Value.long) (.long 0) → jj ≤ i + 1 → x4 = jj.toInt32 → own_in rr jj = own_row (i + 1) → rr.length = 65 → jj < k11 → Go p.tables e below P T11 (mkF m 20 #[.val (.int pn), .val (.int pk), .val (.ref b1), .val (.int x3), .val (.int x4)] []) := by
          intro k11
          induction k11 with
          | zero => intros; rename_i hk; exact absurd hk (Nat.not_lt_zero _)
          | succ k11 ih11 =>
            intro T11 locs11 hp11 jj rr x4 X11 e11 N11 Z11 K11 F11_0 hj hx4 hin hrl hk
            show Go p.tables e below P T11 (mkF m 20 #[vi pn, vi pk, vr b1, vi x3, vi x4] [])
            refine gv (fun t k => XS.iload X11.here hx rfl (hb hby d5_20) rfl k) ?_
            by_cases hc12 : (0 : Int32) < x4
            · refine gv (fun t k => XS.ifNo X11.here hx rfl (hb hby d5_22) rfl ((if0 _ _).trans (tlt hc12).2.2.2) k) ?_
              have hj0 : 0 < jj := (own_pos (by omega)).mp (by rw [← hx4]; exact hc12)
              refine gv (fun t k => XS.aloadN X11.here hx rfl (hb hby d5_25) rfl rfl k) ?_
              refine gv (fun t k => XS.iload X11.here hx rfl (hb hby d5_26) rfl k) ?_
              refine gv (fun t k => Jvm.Free.XT.dup2 X11.here hx rfl (hb hby d5_28) rfl rfl rfl k) ?_
              obtain ⟨c13, A13, q13, S13, N13, H13, G13⟩ := id F11_0
              have hin13 : ¬ (x4 < 0 ∨ c13.slots.size ≤ (x4).toNatClampNeg) := inb_of S13 ⟨by rw [hx4]; exact own_nneg (by omega), by rw [hx4]; exact (own_ltN (by omega) (by omega)).mpr (by omega)⟩
              have hat13 : c13.slots[(x4).toNatClampNeg]? = some (.long (rr.getD jj 0)) := (H13 _ (Nat.lt_of_not_le fun q => hin13 (Or.inr q))).trans (congrArg some (by rw [hx4, own_clamp (by omega)]; exact own_getDJ _ jj))
              refine gv (fun t k => X11.laload hx (j := x4) (v := (.long (rr.getD jj 0))) (by rw [e11]; exact A13.1) (State.isArrayOf_alike hZ.alike A13.2.1) A13.2.2 hin13 hat13 (g := (mkF m 29 #[vi pn, vi pk, vr b1, vi x3, vi x4] [(.int x4), (.ref b1), (.int x4), (.ref b1)])) rfl rfl (hb hby d5_29) t k) ?_
              refine gv (fun t k => XS.aloadN X11.here hx rfl (hb hby d5_30) rfl rfl k) ?_
              refine gv (fun t k => XS.iload X11.here hx rfl (hb hby d5_31) rfl k) ?_
              refine gv (fun t k => XS.iconst X11.here hx rfl (hb hby d5_33) k) ?_
              show Go p.tables e below P T11 (mkF m 34 #[vi pn, vi pk, vr b1, vi x3, vi x4] [(.int 1), (.int x4), (.ref b1), (.long (rr.getD jj 0)), (.int x4), (.ref b1)])
              refine gv (fun t k => XS.isub X11.here hx rfl (hb hby d5_34) rfl k) ?_
              obtain ⟨c14, A14, q14, S14, N14, H14, G14⟩ := id F11_0
              have hin14 : ¬ ((x4 - (1 : Int32)) < 0 ∨ c14.slots.size ≤ ((x4 - (1 : Int32))).toNatClampNeg) := inb_of S14 ⟨by rw [hx4, own_m1 hj0]; exact own_nneg (by omega), by rw [hx4, own_m1 hj0]; exact (own_ltN (by omega) (by omega)).mpr (by omega)⟩
              have hat14 : c14.slots[((x4 - (1 : Int32))).toNatClampNeg]? = some (.long (rr.getD (jj - 1) 0)) := (H14 _ (Nat.lt_of_not_le fun q => hin14 (Or.inr q))).trans (congrArg some (by rw [hx4, own_m1 hj0, own_clamp (by omega)]; exact own_getDJ _ _))
              refine gv (fun t k => X11.laload hx (j := (x4 - (1 : Int32))) (v := (.long (rr.getD (jj - 1) 0))) (by rw [e11]; exact A14.1) (State.isArrayOf_alike hZ.alike A14.2.1) A14.2.2 hin14 hat14 (g := (mkF m 35 #[vi pn, vi pk, vr b1, vi x3, vi x4] [(.int (x4 - (1 : Int32))), (.ref b1), (.long (rr.getD jj 0)), (.int x4), (.ref b1)])) rfl rfl (hb hby d5_35) t k) ?_
              refine gv (fun t k => XS.ladd X11.here hx rfl (hb hby d5_36) rfl k) ?_
              obtain ⟨T15, h15, lc15, X15, e15, N15, Z15, K15, W15, V15, st15⟩ := own_stJ X11 hx hZ e11 F11_0 N11 Z11 K11 g2 (Or.inr sz3) (j := x4) ⟨by rw [hx4]; exact own_nneg (by omega), by rw [hx4]; exact (own_ltN (by omega) (by omega)).mpr (by omega)⟩ (ji := jj) (by rw [hx4, own_clamp (by omega)]) (by rw [List.length_map, hrl]; omega) (g := (mkF m 37 #[vi pn, vi pk, vr b1, vi x3, vi x4] [(.long ((rr.getD jj 0) + (rr.getD (jj - 1) 0))), (.int x4), (.ref b1)])) rfl rfl (hb hby d5_37)
              refine gv st15 ?_
              refine gv (fun t k => XS.iinc X15.here hx rfl (hb hby d5_38) rfl (l' := #[vi pn, vi pk, vr b1, vi x3, vi (x4 + (-1 : Int32))]) rfl k) ?_
              refine gv (fun t k => XS.goto X15.here hx rfl (pc0 := 41) (pc' := 20) rfl (hb hby d5_41) (by decide) (by decide) k) ?_
              exact ih11 T15 _ h15 (jj - 1) (rr.set jj (rr.getD jj 0 + rr.getD (jj - 1) 0)) (x4 + (-1 : Int32)) X15 e15 N15 Z15 K15 (by rw [List.map_set]; exact V15) (by omega) (by rw [hx4]; exact own_m1' hj0) ((own_in_pos rr hj0).symm.trans hin) (by rw [List.length_set]; exact hrl) (by omega)
            · refine gv (fun t k => XS.ifYes X11.here hx rfl (pc0 := 22) (pc' := 44) rfl (hb hby d5_22) rfl ((if0 _ _).trans (flt hc12).2.2.2) (by decide) (by decide) k) ?_
              have hj0 : jj = 0 := by have q := hc12; rw [hx4, own_pos (by omega)] at q; omega
              have hr : rr = own_row (i + 1) := by have q := hin; rw [hj0] at q; exact q
              refine gv (fun t k => XS.iinc X11.here hx rfl (hb hby d5_44) rfl (l' := #[vi pn, vi pk, vr b1, vi (x3 + (1 : Int32)), vi x4]) rfl k) ?_
              refine gv (fun t k => XS.goto X11.here hx rfl (pc0 := 47) (pc' := 12) rfl (hb hby d5_47) (by decide) (by decide) k) ?_
              exact ih7 T11 _ hp11 (i + 1) (x3 + (1 : Int32)) (.val (.int x4)) X11 e11 N11 Z11 K11 (by rw [← hr]; exact F11_0) hlt (by rw [hx3]; exact own_succ (i + 1)) (Or.inr ⟨_, rfl, rfl⟩) (by omega)
        exact LP11 _ T7 _ hp7 (i + 1) (own_row i) x3 X7 e7 N7 Z7 K7 F7_0 (Nat.le_refl _) hx3 rfl (own_row_len i) (Nat.lt_succ_self _)
  exact LP7 _ T6 _ h6 0 (1 : Int32) .unset X6 e6 N6 Z6 K6 (by rw [own_row0]; exact V6) (Nat.zero_le _) rfl (Or.inl rfl) (Nat.lt_succ_self _)
theorem own_pd4 : parseMethodDescriptor "(II)J" = some ⟨[.int, .int], some .long⟩ := by decide +kernel
theorem d13_0 : D14 0 (.lconst 0) 1 := by decide +kernel
theorem d13_1 : D14 1 (.lstore_n 2) 1 := by decide +kernel
theorem d13_2 : D14 2 (.iconst 0) 1 := by decide +kernel
theorem d13_3 : D14 3 (.istore 4) 2 := by decide +kernel
theorem d13_5 : D14 5 (.iload 4) 2 := by decide +kernel
theorem d13_7 : D14 7 (.iload_n 1) 1 := by decide +kernel
theorem d13_8 : D14 8 (.if_icmp .gt 18) 3 := by decide +kernel
theorem d13_11 : D14 11 (.lload_n 2) 1 := by decide +kernel
theorem d13_12 : D14 12 (.iload_n 0) 1 := by decide +kernel
theorem d13_13 : D14 13 (.iload 4) 2 := by decide +kernel
theorem d13_15 : D14 15 (.invokestatic 29) 3 := by decide +kernel
theorem d13_18 : D14 18 (.ladd) 1 := by decide +kernel
theorem d13_19 : D14 19 (.lstore_n 2) 1 := by decide +kernel
theorem d13_20 : D14 20 (.iinc 4 1) 3 := by decide +kernel
theorem d13_23 : D14 23 (.goto (-18)) 3 := by decide +kernel
theorem d13_26 : D14 26 (.lload_n 2) 1 := by decide +kernel
theorem d13_27 : D14 27 (.lreturn) 1 := by decide +kernel
theorem ef_13 (m : MethodId) (x0 : Int32) : entryFrame m #[(.int x0), (.int 0)] 5 = mkF m 0 #[.val (.int x0), .val (.int 0), .unset, .unset, .unset] [] := by first | (simp [entryFrame, mkF, argsToLocals, Value.category]; done) | rfl
def Q13 (Z : State) (pn : Int32) (nN : Nat) (h0 : Heap) (n0 : Nat) (v : Option Value) (h : Heap) (L : List Loc) : Prop := v = some (.long 1) ∧ Fr n0 L ∧ Keep h0 h []
set_option maxRecDepth 65536 in
set_option maxHeartbeats 40000000 in
theorem rm13 (l : Launch) (Z : State) (a0 : Array Value) (hw : ∀ d ∈ tables_1, d.before a0 Z = true) (ws : List Jvm.Cond) (pn : Int32) (nN : Nat) (h0 : Heap) (n0 : Nat) (Z0 : n0 ≤ h0.size) (hpn : pn = nN.toInt32) (hn64 : nN ≤ 64) :
    MetFree l (⟨BLn, "keysWithin", "(II)J"⟩ : MethodName) (head1 (Jvm.Cond.code (⟨BLn, "keysWithin", "(II)J"⟩ : MethodName) prog_1_method_16_code 5 (some .long) :: ws) ({ frames := 1, cells := 1, slots := 65, locals := 18 } : Room)) (fun a U => a = #[(.int pn), (.int 0)] ∧ Z.Warmed39 U.vm ∧ U.heap = h0) (fun _ _ _ _ _ => True) (fun _ U o U' => ∃ v L, o = .returned v ∧ Q13 Z pn nN h0 n0 v U'.heap L ∧ FrameEnd U o U' L ({ frames := 1, cells := 1, slots := 65, locals := 18 } : Room).cells ({ frames := 1, cells := 1, slots := 65, locals := 18 } : Room).slots) := by
  refine MetFree.of_bodySF (plainFor_of_name own_pn1) hisR ?_
  intro p e s m args below meth c s₁ Bd hml0 hP hK
  obtain ⟨rfl, hZ, hh⟩ := hP
  have hx := Bd.exec
  have hby := Bd.bytes
  have hml : c.maxLocals = 5 := hml0
  have hown : s.vm.findClass BLn = some m.cls := findClass_of_methodNamed Bd.named
  have hnm := (name_of_methodNamed Bd.named Bd.method).1
  have X0 : Stand p l e ({ frames := 1, cells := 1, slots := 65, locals := 18 } : Room) s m #[(.int pn), (.int 0)] below meth c s₁ [] 0 0 := Stand.of_body Bd
  have e0 : s₁.heap = h0 := by rw [← hh, Bd.state]; rfl
  have N0 := Fr.nil n0
  have K0 : Keep h0 h0 [] := Keep.refl _ _
  suffices GO : ∀ P : Outcome → State → Prop, (∀ o U', (∃ v L, o = .returned v ∧ Q13 Z pn nN h0 n0 v U'.heap L ∧ FrameEnd s o U' L ({ frames := 1, cells := 1, slots := 65, locals := 18 } : Room).cells ({ frames := 1, cells := 1, slots := 65, locals := 18 } : Room).slots) → P o U') → Go p.tables e below P s₁ (mkF m 0 #[.val (.int pn), .val (.int 0), .unset, .unset, .unset] []) by
    obtain ⟨s2, o, st, r⟩ := GO _ (fun _ _ q => q)
    exact ⟨s2, o, castTop (ef_13 m pn) st, r⟩
  clear hh
  intro P hP
  show Go p.tables e below P s₁ (mkF m 0 #[vi pn, vi 0, vu, vu, vu] [])
  refine gv (fun t k => XS.lconst X0.here hx rfl (hb hby d13_0) k) ?_
  refine gv (fun t k => XS.lstoreN X0.here hx rfl (hb hby d13_1) rfl (l' := #[vi pn, vi 0, vj 0, v2, vu]) rfl k) ?_
  refine gv (fun t k => XS.iconst X0.here hx rfl (hb hby d13_2) k) ?_
  refine gv (fun t k => XS.istore X0.here hx rfl (hb hby d13_3) rfl (l' := #[vi pn, vi 0, vj 0, v2, vi 0]) rfl k) ?_
  refine gv (fun t k => XS.iload X0.here hx rfl (hb hby d13_5) rfl k) ?_
  refine gv (fun t k => XS.iloadN X0.here hx rfl (hb hby d13_7) rfl k) ?_
  refine gv (fun t k => XS.icmpNo X0.here hx rfl (hb hby d13_8) rfl (flt (by decide : ¬ ((0 : Int32) < (0 : Int32)))).2.2.1 k) ?_
  refine gv (fun t k => XS.lloadN X0.here hx rfl (hb hby d13_11) rfl k) ?_
  refine gv (fun t k => XS.iloadN X0.here hx rfl (hb hby d13_12) rfl k) ?_
  show Go p.tables e below P s₁ (mkF m 13 #[vi pn, vi 0, vj 0, v2, vi 0] [(.int pn), (.long 0)])
  refine gv (fun t k => XS.iload X0.here hx rfl (hb hby d13_13) rfl k) ?_
  obtain ⟨_, _, ⟨T1, L1, k1, n1⟩, -, X1, ⟨Lc1, hQ1, l1, y1, z1⟩, st1⟩ := Jvm.LawKit.callS X0 hx (y := (⟨BLn, "binomial", "(II)J"⟩ : MethodName)) hown (mvT hZ (own_g hw 18 rfl)) (mvT hZ (own_g hw 19 rfl)) (mvT hZ (own_g hw 11 rfl)) (mvT hZ (own_g hw 20 rfl)) (by decide) (backOf (W := 2) (rm5 l Z a0 hw [] pn (0 : Int32) nN 0 h0 n0 Z0 (by first | assumption | decide | omega) rfl (by first | assumption | decide | omega) (Nat.zero_le _)) hZ (own_g hw 20 rfl) (own_g hw 11 rfl) (by decide) (by decide)) (g := (mkF m 15 #[vi pn, vi 0, vj 0, v2, vi 0] [(.int 0), (.int pn), (.long 0)])) rfl (by rw [hml]; rfl) (argsL := [(.int pn), (.int 0)]) (rest := [(.long 0)]) (lenOf own_pd4 rfl) rfl (by show 2 * 0 + _ ≤ _; exact Nat.le_of_eq rfl) (hb hby d13_15) (fun _ _ => ⟨rfl, e0, (by decide : 0 + 1 ≤ _), (by decide : 0 + 65 ≤ _)⟩)
  dsimp only [Pt.U, Pt.locs, Pt.cells, Pt.slots] at X1 l1 y1 z1 st1 hQ1
  subst l1 y1 z1
  obtain ⟨rfl, Nq1, K1⟩ := hQ1
  obtain ⟨lc1, Xh1, N1⟩ := own_hide X1 (Fr.app N0 Nq1)
  clear X1
  refine gv st1 ?_
  have Z2 := Nat.le_trans Z0 K1.1
  have K3 := K0.trans K1 own_all0
  refine gv (fun t k => XS.ladd Xh1.here hx rfl (hb hby d13_18) rfl k) ?_
  refine gv (fun t k => XS.lstoreN Xh1.here hx rfl (hb hby d13_19) rfl (l' := #[vi pn, vi 0, vj ((0 : Int64) + (own_bin nN 0)), v2, vi 0]) rfl k) ?_
  refine gv (fun t k => XS.iinc Xh1.here hx rfl (hb hby d13_20) rfl (l' := #[vi pn, vi 0, vj ((0 : Int64) + (own_bin nN 0)), v2, vi ((0 : Int32) + (1 : Int32))]) rfl k) ?_
  refine gv (fun t k => XS.goto Xh1.here hx rfl (pc0 := 23) (pc' := 5) rfl (hb hby d13_23) (by decide) (by decide) k) ?_
  refine gv (fun t k => XS.iload Xh1.here hx rfl (hb hby d13_5) rfl k) ?_
  refine gv (fun t k => XS.iloadN Xh1.here hx rfl (hb hby d13_7) rfl k) ?_
  refine gv (fun t k => XS.icmpYes Xh1.here hx rfl (pc0 := 8) (pc' := 26) rfl (hb hby d13_8) rfl (tlt (by decide : (0 : Int32) < ((0 : Int32) + (1 : Int32)))).2.2.1 (by decide) (by decide) k) ?_
  show Go p.tables e below P T1 (mkF m 26 #[vi pn, vi 0, vj ((0 : Int64) + (own_bin nN 0)), v2, vi ((0 : Int32) + (1 : Int32))] [])
  refine gv (fun t k => XS.lloadN Xh1.here hx rfl (hb hby d13_26) rfl k) ?_
  show Go p.tables e below P T1 (mkF m 27 #[vi pn, vi 0, vj ((0 : Int64) + (own_bin nN 0)), v2, vi ((0 : Int32) + (1 : Int32))] [(.long ((0 : Int64) + (own_bin nN 0)))])
  obtain ⟨fs, hr, hrun, hended, hW, hsame⟩ := Xh1.leave (v := some (.long 1)) (fun h => by rw [Bd.returns] at h; cases h)
  refine ⟨_, _, (by have q := retJ Xh1 hx Bd.returns (hb hby d13_27) (z := ((0 : Int64) + (own_bin nN 0))) (rest := []) (pc := 27) (Ls := #[.val (.int pn), .val (.int 0), .val (.long ((0 : Int64) + (own_bin nN 0))), .second, .val (.int ((0 : Int32) + (1 : Int32)))]) (by rw [(show ((0 : Int64) + (own_bin nN 0)) = (1 : Int64) from by rw [own_bin0]; rfl)]; exact hr); exact q), hrun, hended, hP _ _ ⟨_, _, rfl, ?_, ⟨_, rfl⟩, hW, hsame.mono (by decide) (by decide)⟩⟩
  show Q13 Z pn nN h0 n0 _ T1.heap _
  exact ⟨rfl, N1, K3⟩
theorem ef_13o (m : MethodId)  : entryFrame m #[(.int 32), (.int 1)] 5 = mkF m 0 #[.val (.int 32), .val (.int 1), .unset, .unset, .unset] [] := by first | (simp [entryFrame, mkF, argsToLocals, Value.category]; done) | rfl
def Q13o (Z : State)  (h0 : Heap) (n0 : Nat) (v : Option Value) (h : Heap) (L : List Loc) : Prop := v = some (.long 33) ∧ Fr n0 L ∧ Keep h0 h []
set_option maxRecDepth 65536 in
set_option maxHeartbeats 40000000 in
theorem rm13o (l : Launch) (Z : State) (a0 : Array Value) (hw : ∀ d ∈ tables_1, d.before a0 Z = true) (ws : List Jvm.Cond)  (h0 : Heap) (n0 : Nat) (Z0 : n0 ≤ h0.size) :
    MetFree l (⟨BLn, "keysWithin", "(II)J"⟩ : MethodName) (head1 (Jvm.Cond.code (⟨BLn, "keysWithin", "(II)J"⟩ : MethodName) prog_1_method_16_code 5 (some .long) :: ws) ({ frames := 1, cells := 2, slots := 130, locals := 18 } : Room)) (fun a U => a = #[(.int 32), (.int 1)] ∧ Z.Warmed39 U.vm ∧ U.heap = h0) (fun _ _ _ _ _ => True) (fun _ U o U' => ∃ v L, o = .returned v ∧ Q13o Z  h0 n0 v U'.heap L ∧ FrameEnd U o U' L ({ frames := 1, cells := 2, slots := 130, locals := 18 } : Room).cells ({ frames := 1, cells := 2, slots := 130, locals := 18 } : Room).slots) := by
  refine MetFree.of_bodySF (plainFor_of_name own_pn1) hisR ?_
  intro p e s m args below meth c s₁ Bd hml0 hP hK
  obtain ⟨rfl, hZ, hh⟩ := hP
  have hx := Bd.exec
  have hby := Bd.bytes
  have hml : c.maxLocals = 5 := hml0
  have hown : s.vm.findClass BLn = some m.cls := findClass_of_methodNamed Bd.named
  have hnm := (name_of_methodNamed Bd.named Bd.method).1
  have X0 : Stand p l e ({ frames := 1, cells := 2, slots := 130, locals := 18 } : Room) s m #[(.int 32), (.int 1)] below meth c s₁ [] 0 0 := Stand.of_body Bd
  have e0 : s₁.heap = h0 := by rw [← hh, Bd.state]; rfl
  have N0 := Fr.nil n0
  have K0 : Keep h0 h0 [] := Keep.refl _ _
  suffices GO : ∀ P : Outcome → State → Prop, (∀ o U', (∃ v L, o = .returned v ∧ Q13o Z  h0 n0 v U'.heap L ∧ FrameEnd s o U' L ({ frames := 1, cells := 2, slots := 130, locals := 18 } : Room).cells ({ frames := 1, cells := 2, slots := 130, locals := 18 } : Room).slots) → P o U') → Go p.tables e below P s₁ (mkF m 0 #[.val (.int 32), .val (.int 1), .unset, .unset, .unset] []) by
    obtain ⟨s2, o, st, r⟩ := GO _ (fun _ _ q => q)
    exact ⟨s2, o, castTop (ef_13o m ) st, r⟩
  clear hh
  intro P hP
  show Go p.tables e below P s₁ (mkF m 0 #[vi 32, vi 1, vu, vu, vu] [])
  refine gv (fun t k => XS.lconst X0.here hx rfl (hb hby d13_0) k) ?_
  refine gv (fun t k => XS.lstoreN X0.here hx rfl (hb hby d13_1) rfl (l' := #[vi 32, vi 1, vj 0, v2, vu]) rfl k) ?_
  refine gv (fun t k => XS.iconst X0.here hx rfl (hb hby d13_2) k) ?_
  refine gv (fun t k => XS.istore X0.here hx rfl (hb hby d13_3) rfl (l' := #[vi 32, vi 1, vj 0, v2, vi 0]) rfl k) ?_
  refine gv (fun t k => XS.iload X0.here hx rfl (hb hby d13_5) rfl k) ?_
  refine gv (fun t k => XS.iloadN X0.here hx rfl (hb hby d13_7) rfl k) ?_
  refine gv (fun t k => XS.icmpNo X0.here hx rfl (hb hby d13_8) rfl (flt (by decide : ¬ ((1 : Int32) < (0 : Int32)))).2.2.1 k) ?_
  refine gv (fun t k => XS.lloadN X0.here hx rfl (hb hby d13_11) rfl k) ?_
  refine gv (fun t k => XS.iloadN X0.here hx rfl (hb hby d13_12) rfl k) ?_
  show Go p.tables e below P s₁ (mkF m 13 #[vi 32, vi 1, vj 0, v2, vi 0] [(.int 32), (.long 0)])
  refine gv (fun t k => XS.iload X0.here hx rfl (hb hby d13_13) rfl k) ?_
  obtain ⟨_, _, ⟨T1, L1, k1, n1⟩, -, X1, ⟨Lc1, hQ1, l1, y1, z1⟩, st1⟩ := Jvm.LawKit.callS X0 hx (y := (⟨BLn, "binomial", "(II)J"⟩ : MethodName)) hown (mvT hZ (own_g hw 18 rfl)) (mvT hZ (own_g hw 19 rfl)) (mvT hZ (own_g hw 11 rfl)) (mvT hZ (own_g hw 20 rfl)) (by decide) (backOf (W := 2) (rm5 l Z a0 hw [] (32 : Int32) (0 : Int32) 32 0 h0 n0 Z0 (by decide) (by decide) (by first | assumption | decide | omega) (by first | assumption | decide | omega)) hZ (own_g hw 20 rfl) (own_g hw 11 rfl) (by decide) (by decide)) (g := (mkF m 15 #[vi 32, vi 1, vj 0, v2, vi 0] [(.int 0), (.int 32), (.long 0)])) rfl (by rw [hml]; rfl) (argsL := [(.int 32), (.int 0)]) (rest := [(.long 0)]) (lenOf own_pd4 rfl) rfl (by show 2 * 0 + _ ≤ _; exact Nat.le_of_eq rfl) (hb hby d13_15) (fun _ _ => ⟨rfl, e0, (by decide : 0 + 1 ≤ _), (by decide : 0 + 65 ≤ _)⟩)
  dsimp only [Pt.U, Pt.locs, Pt.cells, Pt.slots] at X1 l1 y1 z1 st1 hQ1
  subst l1 y1 z1
  obtain ⟨rfl, Nq1, K1⟩ := hQ1
  obtain ⟨lc1, Xh1, N1⟩ := own_hide X1 (Fr.app N0 Nq1)
  clear X1
  refine gv st1 ?_
  have Z2 := Nat.le_trans Z0 K1.1
  have K3 := K0.trans K1 own_all0
  refine gv (fun t k => XS.ladd Xh1.here hx rfl (hb hby d13_18) rfl k) ?_
  refine gv (fun t k => XS.lstoreN Xh1.here hx rfl (hb hby d13_19) rfl (l' := #[vi 32, vi 1, vj ((0 : Int64) + (own_bin 32 0)), v2, vi 0]) rfl k) ?_
  refine gv (fun t k => XS.iinc Xh1.here hx rfl (hb hby d13_20) rfl (l' := #[vi 32, vi 1, vj ((0 : Int64) + (own_bin 32 0)), v2, vi ((0 : Int32) + (1 : Int32))]) rfl k) ?_
  refine gv (fun t k => XS.goto Xh1.here hx rfl (pc0 := 23) (pc' := 5) rfl (hb hby d13_23) (by decide) (by decide) k) ?_
  refine gv (fun t k => XS.iload Xh1.here hx rfl (hb hby d13_5) rfl k) ?_
  refine gv (fun t k => XS.iloadN Xh1.here hx rfl (hb hby d13_7) rfl k) ?_
  refine gv (fun t k => XS.icmpNo Xh1.here hx rfl (hb hby d13_8) rfl (flt (by decide : ¬ ((1 : Int32) < ((0 : Int32) + (1 : Int32))))).2.2.1 k) ?_
  show Go p.tables e below P T1 (mkF m 11 #[vi 32, vi 1, vj ((0 : Int64) + (own_bin 32 0)), v2, vi ((0 : Int32) + (1 : Int32))] [])
  refine gv (fun t k => XS.lloadN Xh1.here hx rfl (hb hby d13_11) rfl k) ?_
  refine gv (fun t k => XS.iloadN Xh1.here hx rfl (hb hby d13_12) rfl k) ?_
  refine gv (fun t k => XS.iload Xh1.here hx rfl (hb hby d13_13) rfl k) ?_
  obtain ⟨_, _, ⟨T4, L4, k4, n4⟩, -, X4, ⟨Lc4, hQ4, l4, y4, z4⟩, st4⟩ := Jvm.LawKit.callS Xh1 hx (y := (⟨BLn, "binomial", "(II)J"⟩ : MethodName)) hown (mvT hZ (own_g hw 18 rfl)) (mvT hZ (own_g hw 19 rfl)) (mvT hZ (own_g hw 11 rfl)) (mvT hZ (own_g hw 20 rfl)) (by decide) (backOf (W := 2) (rm5 l Z a0 hw [] (32 : Int32) ((0 : Int32) + (1 : Int32)) 32 1 T1.heap n0 Z2 (by decide) (by decide) (by first | assumption | decide | omega) (by first | assumption | decide | omega)) hZ (own_g hw 20 rfl) (own_g hw 11 rfl) (by decide) (by decide)) (g := (mkF m 15 #[vi 32, vi 1, vj ((0 : Int64) + (own_bin 32 0)), v2, vi ((0 : Int32) + (1 : Int32))] [(.int ((0 : Int32) + (1 : Int32))), (.int 32), (.long ((0 : Int64) + (own_bin 32 0)))])) rfl (by rw [hml]; rfl) (argsL := [(.int 32), (.int ((0 : Int32) + (1 : Int32)))]) (rest := [(.long ((0 : Int64) + (own_bin 32 0)))]) (lenOf own_pd4 rfl) rfl (by show 2 * 0 + _ ≤ _; exact Nat.le_of_eq rfl) (hb hby d13_15) (fun _ _ => ⟨rfl, rfl, (by decide : 1 + 1 ≤ _), (by decide : 65 + 65 ≤ _)⟩)
  dsimp only [Pt.U, Pt.locs, Pt.cells, Pt.slots] at X4 l4 y4 z4 st4 hQ4
  subst l4 y4 z4
  obtain ⟨rfl, Nq4, K4⟩ := hQ4
  obtain ⟨lc4, Xh4, N4⟩ := own_hide X4 (Fr.app N1 Nq4)
  clear X4
  refine gv st4 ?_
  have Z5 := Nat.le_trans Z2 K4.1
  have K6 := K3.trans K4 own_all0
  refine gv (fun t k => XS.ladd Xh4.here hx rfl (hb hby d13_18) rfl k) ?_
  refine gv (fun t k => XS.lstoreN Xh4.here hx rfl (hb hby d13_19) rfl (l' := #[vi 32, vi 1, vj (((0 : Int64) + (own_bin 32 0)) + (own_bin 32 1)), v2, vi ((0 : Int32) + (1 : Int32))]) rfl k) ?_
  refine gv (fun t k => XS.iinc Xh4.here hx rfl (hb hby d13_20) rfl (l' := #[vi 32, vi 1, vj (((0 : Int64) + (own_bin 32 0)) + (own_bin 32 1)), v2, vi (((0 : Int32) + (1 : Int32)) + (1 : Int32))]) rfl k) ?_
  refine gv (fun t k => XS.goto Xh4.here hx rfl (pc0 := 23) (pc' := 5) rfl (hb hby d13_23) (by decide) (by decide) k) ?_
  refine gv (fun t k => XS.iload Xh4.here hx rfl (hb hby d13_5) rfl k) ?_
  show Go p.tables e below P T4 (mkF m 7 #[vi 32, vi 1, vj (((0 : Int64) + (own_bin 32 0)) + (own_bin 32 1)), v2, vi (((0 : Int32) + (1 : Int32)) + (1 : Int32))] [(.int (((0 : Int32) + (1 : Int32)) + (1 : Int32)))])
  refine gv (fun t k => XS.iloadN Xh4.here hx rfl (hb hby d13_7) rfl k) ?_
  refine gv (fun t k => XS.icmpYes Xh4.here hx rfl (pc0 := 8) (pc' := 26) rfl (hb hby d13_8) rfl (tlt (by decide : (1 : Int32) < (((0 : Int32) + (1 : Int32)) + (1 : Int32)))).2.2.1 (by decide) (by decide) k) ?_
  refine gv (fun t k => XS.lloadN Xh4.here hx rfl (hb hby d13_26) rfl k) ?_
  show Go p.tables e below P T4 (mkF m 27 #[vi 32, vi 1, vj (((0 : Int64) + (own_bin 32 0)) + (own_bin 32 1)), v2, vi (((0 : Int32) + (1 : Int32)) + (1 : Int32))] [(.long (((0 : Int64) + (own_bin 32 0)) + (own_bin 32 1)))])
  obtain ⟨fs, hr, hrun, hended, hW, hsame⟩ := Xh4.leave (v := some (.long 33)) (fun h => by rw [Bd.returns] at h; cases h)
  refine ⟨_, _, (by have q := retJ Xh4 hx Bd.returns (hb hby d13_27) (z := (((0 : Int64) + (own_bin 32 0)) + (own_bin 32 1))) (rest := []) (pc := 27) (Ls := #[.val (.int 32), .val (.int 1), .val (.long (((0 : Int64) + (own_bin 32 0)) + (own_bin 32 1))), .second, .val (.int (((0 : Int32) + (1 : Int32)) + (1 : Int32)))]) (by rw [(show (((0 : Int64) + (own_bin 32 0)) + (own_bin 32 1)) = (33 : Int64) from by rw [own_bin0, own_bin1]; rfl)]; exact hr); exact q), hrun, hended, hP _ _ ⟨_, _, rfl, ?_, ⟨_, rfl⟩, hW, hsame.mono (by decide) (by decide)⟩⟩
  show Q13o Z  h0 n0 _ T4.heap _
  exact ⟨rfl, N4, K6⟩
theorem d14_0 : D15 0 (.aload_n 0) 1 := by decide +kernel
theorem d14_1 : D15 1 (.arraylength) 1 := by decide +kernel
theorem d14_2 : D15 2 (.iconst 1) 1 := by decide +kernel
theorem d14_3 : D15 3 (.isub) 1 := by decide +kernel
theorem d14_4 : D15 4 (.istore_n 2) 1 := by decide +kernel
theorem d14_5 : D15 5 (.iload_n 2) 1 := by decide +kernel
theorem d14_6 : D15 6 (.ifCond .lt 21) 3 := by decide +kernel
theorem d14_9 : D15 9 (.aload_n 0) 1 := by decide +kernel
theorem d14_10 : D15 10 (.iload_n 2) 1 := by decide +kernel
theorem d14_11 : D15 11 (.iaload) 1 := by decide +kernel
theorem d14_12 : D15 12 (.iload_n 1) 1 := by decide +kernel
theorem d14_13 : D15 13 (.aload_n 0) 1 := by decide +kernel
theorem d14_14 : D15 14 (.arraylength) 1 := by decide +kernel
theorem d14_15 : D15 15 (.isub) 1 := by decide +kernel
theorem d14_16 : D15 16 (.iload_n 2) 1 := by decide +kernel
theorem d14_17 : D15 17 (.iadd) 1 := by decide +kernel
theorem d14_18 : D15 18 (.if_icmp .ne 9) 3 := by decide +kernel
theorem d14_21 : D15 21 (.iinc 2 (-1)) 3 := by decide +kernel
theorem d14_24 : D15 24 (.goto (-19)) 3 := by decide +kernel
theorem d14_27 : D15 27 (.iload_n 2) 1 := by decide +kernel
theorem d14_28 : D15 28 (.ifCond .lt 36) 3 := by decide +kernel
theorem d14_31 : D15 31 (.aload_n 0) 1 := by decide +kernel
theorem d14_32 : D15 32 (.iload_n 2) 1 := by decide +kernel
theorem d14_33 : D15 33 (.dup2) 1 := by decide +kernel
theorem d14_34 : D15 34 (.iaload) 1 := by decide +kernel
theorem d14_35 : D15 35 (.iconst 1) 1 := by decide +kernel
theorem d14_36 : D15 36 (.iadd) 1 := by decide +kernel
theorem d14_37 : D15 37 (.iastore) 1 := by decide +kernel
theorem d14_38 : D15 38 (.iload_n 2) 1 := by decide +kernel
theorem d14_39 : D15 39 (.iconst 1) 1 := by decide +kernel
theorem d14_40 : D15 40 (.iadd) 1 := by decide +kernel
theorem d14_41 : D15 41 (.istore_n 3) 1 := by decide +kernel
theorem d14_42 : D15 42 (.iload_n 3) 1 := by decide +kernel
theorem d14_43 : D15 43 (.aload_n 0) 1 := by decide +kernel
theorem d14_44 : D15 44 (.arraylength) 1 := by decide +kernel
theorem d14_45 : D15 45 (.if_icmp .ge 19) 3 := by decide +kernel
theorem d14_48 : D15 48 (.aload_n 0) 1 := by decide +kernel
theorem d14_49 : D15 49 (.iload_n 3) 1 := by decide +kernel
theorem d14_50 : D15 50 (.aload_n 0) 1 := by decide +kernel
theorem d14_51 : D15 51 (.iload_n 3) 1 := by decide +kernel
theorem d14_52 : D15 52 (.iconst 1) 1 := by decide +kernel
theorem d14_53 : D15 53 (.isub) 1 := by decide +kernel
theorem d14_54 : D15 54 (.iaload) 1 := by decide +kernel
theorem d14_55 : D15 55 (.iconst 1) 1 := by decide +kernel
theorem d14_56 : D15 56 (.iadd) 1 := by decide +kernel
theorem d14_57 : D15 57 (.iastore) 1 := by decide +kernel
theorem d14_58 : D15 58 (.iinc 3 1) 3 := by decide +kernel
theorem d14_61 : D15 61 (.goto (-19)) 3 := by decide +kernel
theorem d14_64 : D15 64 (.return_) 1 := by decide +kernel
theorem ef_14 (m : MethodId) (x0 : Addr) (x1 : Int32) : entryFrame m #[(.ref x0), (.int x1)] 4 = mkF m 0 #[.val (.ref x0), .val (.int x1), .unset, .unset] [] := by first | (simp [entryFrame, mkF, argsToLocals, Value.category]; done) | rfl
def Q14 (Z : State) (ob : Addr) (pl : Int32) (kk : ClassId) (nc : Nat) (cl : List Int32) (h0 : Heap) (n0 : Nat) (v : Option Value) (h : Heap) (L : List Loc) : Prop := v = none ∧ Fr n0 L ∧ Keep h0 h [ob] ∧ Arv Z h ob kk .int (nc.toInt32) ((own_next cl pl nc).map Value.int) (.int 0)
set_option maxRecDepth 65536 in
set_option maxHeartbeats 40000000 in
theorem rm14 (l : Launch) (Z : State) (a0 : Array Value) (hw : ∀ d ∈ tables_1, d.before a0 Z = true) (ws : List Jvm.Cond) (ob : Addr) (pl : Int32) (kk : ClassId) (nc : Nat) (cl : List Int32) (h0 : Heap) (n0 : Nat) (Z0 : n0 ≤ h0.size) (P0 : Arv Z h0 ob kk .int (nc.toInt32) (cl.map Value.int) (.int 0)) (hnc1 : 1 ≤ nc) (hnc3 : nc ≤ 3) (hcll : nc ≤ cl.length) (gb : n0 ≤ ob) :
    MetFree l (⟨BLn, "nextChoice", "([II)V"⟩ : MethodName) (head1 (Jvm.Cond.code (⟨BLn, "nextChoice", "([II)V"⟩ : MethodName) prog_1_method_17_code 4 none :: ws) ({ frames := 0, cells := 0, slots := 0, locals := 0 } : Room)) (fun a U => a = #[(.ref ob), (.int pl)] ∧ Z.Warmed39 U.vm ∧ U.heap = h0) (fun _ _ _ _ _ => True) (fun _ U o U' => ∃ v L, o = .returned v ∧ Q14 Z ob pl kk nc cl h0 n0 v U'.heap L ∧ FrameEnd U o U' L ({ frames := 0, cells := 0, slots := 0, locals := 0 } : Room).cells ({ frames := 0, cells := 0, slots := 0, locals := 0 } : Room).slots) := by
  refine MetFree.of_bodySF (plainFor_of_name own_pn1) hisR ?_
  intro p e s m args below meth c s₁ Bd hml0 hP hK
  obtain ⟨rfl, hZ, hh⟩ := hP
  have hx := Bd.exec
  have hby := Bd.bytes
  have hml : c.maxLocals = 4 := hml0
  have hown : s.vm.findClass BLn = some m.cls := findClass_of_methodNamed Bd.named
  have hnm := (name_of_methodNamed Bd.named Bd.method).1
  have X0 : Stand p l e ({ frames := 0, cells := 0, slots := 0, locals := 0 } : Room) s m #[(.ref ob), (.int pl)] below meth c s₁ [] 0 0 := Stand.of_body Bd
  have e0 : s₁.heap = h0 := by rw [← hh, Bd.state]; rfl
  have N0 := Fr.nil n0
  have K0 : Keep h0 h0 [ob] := Keep.refl _ _
  suffices GO : ∀ P : Outcome → State → Prop, (∀ o U', (∃ v L, o = .returned v ∧ Q14 Z ob pl kk nc cl h0 n0 v U'.heap L ∧ FrameEnd s o U' L ({ frames := 0, cells := 0, slots := 0, locals := 0 } : Room).cells ({ frames := 0, cells := 0, slots := 0, locals := 0 } : Room).slots) → P o U') → Go p.tables e below P s₁ (mkF m 0 #[.val (.ref ob), .val (.int pl), .unset, .unset] []) by
    obtain ⟨s2, o, st, r⟩ := GO _ (fun _ _ q => q)
    exact ⟨s2, o, castTop (ef_14 m ob pl) st, r⟩
  clear hh
  intro P hP
  show Go p.tables e below P s₁ (mkF m 0 #[vr ob, vi pl, vu, vu] [])
  refine gv (fun t k => XS.aloadN X0.here hx rfl (hb hby d14_0) rfl rfl k) ?_
  obtain ⟨c1, A1, -, S1, N1, -, -⟩ := id P0
  refine gv (fun t k => X0.arraylength hx (by rw [e0]; exact A1.1) (State.isArrayOf_alike hZ.alike A1.2.1) (g := (mkF m 1 #[vr ob, vi pl, vu, vu] [(.ref ob)])) rfl rfl (hb hby d14_1) t (by rw [len_of S1 N1]; exact k)) ?_
  refine gv (fun t k => XS.iconst X0.here hx rfl (hb hby d14_2) k) ?_
  refine gv (fun t k => XS.isub X0.here hx rfl (hb hby d14_3) rfl k) ?_
  refine gv (fun t k => XS.istoreN X0.here hx rfl (hb hby d14_4) rfl (l' := #[vr ob, vi pl, vi ((nc.toInt32) - (1 : Int32)), vu]) rfl k) ?_
  have LP2 : ∀ (k2 : Nat) (T2 : State) (locs2 : List Loc) (kq : Nat) (x2 : Int32), Stand p l e ({ frames := 0, cells := 0, slots := 0, locals := 0 } : Room) s m #[(.ref ob), (.int pl)] below meth c T2 locs2 0 0 → T2.heap = h0 → Fr n0 locs2 → kq ≤ nc → x2 = kq.toInt32 - (1 : Int32) → own_fi cl pl nc nc = own_fi cl pl nc kq → kq < k2 → Go p.tables e below P T2 (mkF m 5 #[.val (.ref ob), .val (.int pl), .val (.int x2), .unset] []) := by
    intro k2
    induction k2 with
    | zero => intros; rename_i hk; exact absurd hk (Nat.not_lt_zero _)
    | succ k2 ih2 =>
      intro T2 locs2 kq x2 X2 e2 N2 hkq hx2 hfi hk
      show Go p.tables e below P T2 (mkF m 5 #[vr ob, vi pl, vi x2, vu] [])
      refine gv (fun t k => XS.iloadN X2.here hx rfl (hb hby d14_5) rfl k) ?_
      by_cases hc3 : x2 < (0 : Int32)
      · refine gv (fun t k => XS.ifYes X2.here hx rfl (pc0 := 6) (pc' := 27) rfl (hb hby d14_6) rfl ((if0 _ _).trans (tlt hc3).1) (by decide) (by decide) k) ?_
        refine gv (fun t k => XS.iloadN X2.here hx rfl (hb hby d14_27) rfl k) ?_
        refine gv (fun t k => XS.ifYes X2.here hx rfl (pc0 := 28) (pc' := 64) rfl (hb hby d14_28) rfl ((if0 _ _).trans (tlt hc3).1) (by decide) (by decide) k) ?_
        show Go p.tables e below P T2 (mkF m 64 #[vr ob, vi pl, vi x2, vu] [])
        have hkz : kq = 0 := Classical.byContradiction fun q => absurd hc3 (by rw [hx2, own_m1 (by omega)]; exact own_nneg (by omega))
        obtain ⟨fs, hr, hrun, hended, hW, hsame⟩ := X2.leave (v := none) (fun _ => rfl)
        refine ⟨_, _, X2.returnOut hx Bd.returns (hb hby d14_64) hr, hrun, hended, hP _ _ ⟨_, _, rfl, ?_, ⟨_, rfl⟩, hW, hsame.mono (by decide) (by decide)⟩⟩
        show Q14 Z ob pl kk nc cl h0 n0 _ T2.heap _
        rw [e2]
        exact ⟨rfl, N2, K0, (by rw [own_next, if_pos (by rw [hfi, hkz]; rfl)]; exact P0)⟩
      · refine gv (fun t k => XS.ifNo X2.here hx rfl (hb hby d14_6) rfl ((if0 _ _).trans (flt hc3).1) k) ?_
        have hk0 : 0 < kq := Nat.pos_of_ne_zero (fun q => hc3 (by rw [hx2, q]; decide))
        have hx2' : x2 = (kq - 1).toInt32 := by rw [hx2, own_m1 hk0]
        refine gv (fun t k => XS.aloadN X2.here hx rfl (hb hby d14_9) rfl rfl k) ?_
        refine gv (fun t k => XS.iloadN X2.here hx rfl (hb hby d14_10) rfl k) ?_
        obtain ⟨c5, A5, q5, S5, N5, H5, G5⟩ := id P0
        have hin5 : ¬ (x2 < 0 ∨ c5.slots.size ≤ (x2).toNatClampNeg) := inb_of S5 ⟨by rw [hx2']; exact own_nneg (by omega), by rw [hx2']; exact (own_ltN (by omega) (by omega)).mpr (by omega)⟩
        have hat5 : c5.slots[(x2).toNatClampNeg]? = some (.int (cl.getD (kq - 1) 0)) := (H5 _ (Nat.lt_of_not_le fun q => hin5 (Or.inr q))).trans (congrArg some (by rw [hx2', own_clamp (by omega)]; exact own_getDI _ _))
        refine gv (fun t k => X2.iaload hx (j := x2) (v := (.int (cl.getD (kq - 1) 0))) (by rw [e2]; exact A5.1) (State.isArrayOf_alike hZ.alike A5.2.1) A5.2.2 hin5 hat5 (g := (mkF m 11 #[vr ob, vi pl, vi x2, vu] [(.int x2), (.ref ob)])) rfl rfl (hb hby d14_11) t k) ?_
        refine gv (fun t k => XS.iloadN X2.here hx rfl (hb hby d14_12) rfl k) ?_
        refine gv (fun t k => XS.aloadN X2.here hx rfl (hb hby d14_13) rfl rfl k) ?_
        obtain ⟨c6, A6, -, S6, N6, -, -⟩ := id P0
        refine gv (fun t k => X2.arraylength hx (by rw [e2]; exact A6.1) (State.isArrayOf_alike hZ.alike A6.2.1) (g := (mkF m 14 #[vr ob, vi pl, vi x2, vu] [(.ref ob), (.int pl), (.int (cl.getD (kq - 1) 0))])) rfl rfl (hb hby d14_14) t (by rw [len_of S6 N6]; exact k)) ?_
        refine gv (fun t k => XS.isub X2.here hx rfl (hb hby d14_15) rfl k) ?_
        refine gv (fun t k => XS.iloadN X2.here hx rfl (hb hby d14_16) rfl k) ?_
        show Go p.tables e below P T2 (mkF m 17 #[vr ob, vi pl, vi x2, vu] [(.int x2), (.int (pl - (nc.toInt32))), (.int (cl.getD (kq - 1) 0))])
        refine gv (fun t k => XS.iadd X2.here hx rfl (hb hby d14_17) rfl k) ?_
        by_cases hc7 : (cl.getD (kq - 1) 0) = ((pl - (nc.toInt32)) + x2)
        · refine gv (fun t k => XS.icmpNo X2.here hx rfl (hb hby d14_18) rfl (teq hc7).2 k) ?_
          refine gv (fun t k => XS.iinc X2.here hx rfl (hb hby d14_21) rfl (l' := #[vr ob, vi pl, vi (x2 + (-1 : Int32)), vu]) rfl k) ?_
          refine gv (fun t k => XS.goto X2.here hx rfl (pc0 := 24) (pc' := 5) rfl (hb hby d14_24) (by decide) (by decide) k) ?_
          exact ih2 T2 _ (kq - 1) (x2 + (-1 : Int32)) X2 e2 N2 (by omega) (by rw [hx2', own_subneg]) (hfi.trans (own_fi_eq hk0 (by rw [← hx2']; exact hc7))) (by omega)
        · refine gv (fun t k => XS.icmpYes X2.here hx rfl (pc0 := 18) (pc' := 27) rfl (hb hby d14_18) rfl (feq hc7).2 (by decide) (by decide) k) ?_
          refine gv (fun t k => XS.iloadN X2.here hx rfl (hb hby d14_27) rfl k) ?_
          refine gv (fun t k => XS.ifNo X2.here hx rfl (hb hby d14_28) rfl ((if0 _ _).trans (flt hc3).1) k) ?_
          have hfk : own_fi cl pl nc nc = kq := hfi.trans (own_fi_ne hk0 (by rw [← hx2']; exact hc7))
          refine gv (fun t k => XS.aloadN X2.here hx rfl (hb hby d14_31) rfl rfl k) ?_
          refine gv (fun t k => XS.iloadN X2.here hx rfl (hb hby d14_32) rfl k) ?_
          refine gv (fun t k => Jvm.Free.XT.dup2 X2.here hx rfl (hb hby d14_33) rfl rfl rfl k) ?_
          show Go p.tables e below P T2 (mkF m 34 #[vr ob, vi pl, vi x2, vu] [(.int x2), (.ref ob), (.int x2), (.ref ob)])
          obtain ⟨c8, A8, q8, S8, N8, H8, G8⟩ := id P0
          have hin8 : ¬ (x2 < 0 ∨ c8.slots.size ≤ (x2).toNatClampNeg) := inb_of S8 ⟨by rw [hx2']; exact own_nneg (by omega), by rw [hx2']; exact (own_ltN (by omega) (by omega)).mpr (by omega)⟩
          have hat8 : c8.slots[(x2).toNatClampNeg]? = some (.int (cl.getD (kq - 1) 0)) := (H8 _ (Nat.lt_of_not_le fun q => hin8 (Or.inr q))).trans (congrArg some (by rw [hx2', own_clamp (by omega)]; exact own_getDI _ _))
          refine gv (fun t k => X2.iaload hx (j := x2) (v := (.int (cl.getD (kq - 1) 0))) (by rw [e2]; exact A8.1) (State.isArrayOf_alike hZ.alike A8.2.1) A8.2.2 hin8 hat8 (g := (mkF m 34 #[vr ob, vi pl, vi x2, vu] [(.int x2), (.ref ob), (.int x2), (.ref ob)])) rfl rfl (hb hby d14_34) t k) ?_
          refine gv (fun t k => XS.iconst X2.here hx rfl (hb hby d14_35) k) ?_
          refine gv (fun t k => XS.iadd X2.here hx rfl (hb hby d14_36) rfl k) ?_
          obtain ⟨T9, h9, lc9, X9, e9, N9, Z9, K9, W9, V9, st9⟩ := own_stI X2 hx hZ e2 P0 N2 Z0 K0 gb (Or.inl (List.mem_of_getElem? (i := 0) rfl)) (j := x2) ⟨by rw [hx2']; exact own_nneg (by omega), by rw [hx2']; exact (own_ltN (by omega) (by omega)).mpr (by omega)⟩ (ji := (kq - 1)) (by rw [hx2', own_clamp (by omega)]) (by rw [List.length_map]; omega) (g := (mkF m 37 #[vr ob, vi pl, vi x2, vu] [(.int ((cl.getD (kq - 1) 0) + (1 : Int32))), (.int x2), (.ref ob)])) rfl rfl (hb hby d14_37)
          refine gv st9 ?_
          refine gv (fun t k => XS.iloadN X9.here hx rfl (hb hby d14_38) rfl k) ?_
          refine gv (fun t k => XS.iconst X9.here hx rfl (hb hby d14_39) k) ?_
          refine gv (fun t k => XS.iadd X9.here hx rfl (hb hby d14_40) rfl k) ?_
          refine gv (fun t k => XS.istoreN X9.here hx rfl (hb hby d14_41) rfl (l' := #[vr ob, vi pl, vi x2, vi (x2 + (1 : Int32))]) rfl k) ?_
          have LP10 : ∀ (k10 : Nat) (T10 : State) (locs10 : List Loc) (hp10 : Heap) (i : Nat) (x3 : Int32), Stand p l e ({ frames := 0, cells := 0, slots := 0, locals := 0 } : Room) s m #[(.ref ob), (.int pl)] below meth c T10 locs10 0 0 → T10.heap = hp10 → Fr n0 locs10 → n0 ≤ hp10.size → Keep h0 hp10 [ob] → Arv Z hp10 ob kk .int (nc.toInt32) ((own_fl (cl.set (kq - 1) (cl.getD (kq - 1) 0 + 1)) kq i).map Value.int) (.int 0) → kq + i ≤ nc → x3 = (kq + i).toInt32 → nc - (kq + i) < k10 → Go p.tables e below P T10 (mkF m 42 #[.val (.ref ob), .val (.int pl), .val (.int x2), .val (.int x3)] []) := by
            intro k10
            induction k10 with
            | zero => intros; rename_i hk; exact absurd hk (Nat.not_lt_zero _)
            | succ k10 ih10 =>
              intro T10 locs10 hp10 i x3 X10 e10 N10 Z10 K10 F10_0 hi2 hx3 hk
              show Go p.tables e below P T10 (mkF m 42 #[vr ob, vi pl, vi x2, vi x3] [])
              refine gv (fun t k => XS.iloadN X10.here hx rfl (hb hby d14_42) rfl k) ?_
              refine gv (fun t k => XS.aloadN X10.here hx rfl (hb hby d14_43) rfl rfl k) ?_
              obtain ⟨c11, A11, -, S11, N11, -, -⟩ := id F10_0
              refine gv (fun t k => X10.arraylength hx (by rw [e10]; exact A11.1) (State.isArrayOf_alike hZ.alike A11.2.1) (g := (mkF m 44 #[vr ob, vi pl, vi x2, vi x3] [(.ref ob), (.int x3)])) rfl rfl (hb hby d14_44) t (by rw [len_of S11 N11]; exact k)) ?_
              by_cases hc12 : x3 < (nc.toInt32)
              · refine gv (fun t k => XS.icmpNo X10.here hx rfl (hb hby d14_45) rfl (tlt hc12).2.1 k) ?_
                have hlt2 : kq + i < nc := (own_ltN (by omega) (by omega)).mp (by rw [← hx3]; exact hc12)
                refine gv (fun t k => XS.aloadN X10.here hx rfl (hb hby d14_48) rfl rfl k) ?_
                refine gv (fun t k => XS.iloadN X10.here hx rfl (hb hby d14_49) rfl k) ?_
                refine gv (fun t k => XS.aloadN X10.here hx rfl (hb hby d14_50) rfl rfl k) ?_
                refine gv (fun t k => XS.iloadN X10.here hx rfl (hb hby d14_51) rfl k) ?_
                refine gv (fun t k => XS.iconst X10.here hx rfl (hb hby d14_52) k) ?_
                show Go p.tables e below P T10 (mkF m 53 #[vr ob, vi pl, vi x2, vi x3] [(.int 1), (.int x3), (.ref ob), (.int x3), (.ref ob)])
                refine gv (fun t k => XS.isub X10.here hx rfl (hb hby d14_53) rfl k) ?_
                obtain ⟨c13, A13, q13, S13, N13, H13, G13⟩ := id F10_0
                have hin13 : ¬ ((x3 - (1 : Int32)) < 0 ∨ c13.slots.size ≤ ((x3 - (1 : Int32))).toNatClampNeg) := inb_of S13 ⟨by rw [hx3, own_m1 (by omega)]; exact own_nneg (by omega), by rw [hx3, own_m1 (by omega)]; exact (own_ltN (by omega) (by omega)).mpr (by omega)⟩
                have hat13 : c13.slots[((x3 - (1 : Int32))).toNatClampNeg]? = some (.int ((own_fl (cl.set (kq - 1) (cl.getD (kq - 1) 0 + 1)) kq i).getD (kq + i - 1) 0)) := (H13 _ (Nat.lt_of_not_le fun q => hin13 (Or.inr q))).trans (congrArg some (by rw [hx3, own_m1 (by omega), own_clamp (by omega)]; exact own_getDI _ _))
                refine gv (fun t k => X10.iaload hx (j := (x3 - (1 : Int32))) (v := (.int ((own_fl (cl.set (kq - 1) (cl.getD (kq - 1) 0 + 1)) kq i).getD (kq + i - 1) 0))) (by rw [e10]; exact A13.1) (State.isArrayOf_alike hZ.alike A13.2.1) A13.2.2 hin13 hat13 (g := (mkF m 54 #[vr ob, vi pl, vi x2, vi x3] [(.int (x3 - (1 : Int32))), (.ref ob), (.int x3), (.ref ob)])) rfl rfl (hb hby d14_54) t k) ?_
                refine gv (fun t k => XS.iconst X10.here hx rfl (hb hby d14_55) k) ?_
                refine gv (fun t k => XS.iadd X10.here hx rfl (hb hby d14_56) rfl k) ?_
                obtain ⟨T14, h14, lc14, X14, e14, N14, Z14, K14, W14, V14, st14⟩ := own_stI X10 hx hZ e10 F10_0 N10 Z10 K10 gb (Or.inl (List.mem_of_getElem? (i := 0) rfl)) (j := x3) ⟨by rw [hx3]; exact own_nneg (by omega), by rw [hx3]; exact (own_ltN (by omega) (by omega)).mpr (by omega)⟩ (ji := (kq + i)) (by rw [hx3, own_clamp (by omega)]) (by rw [List.length_map, own_fl_len, List.length_set]; omega) (g := (mkF m 57 #[vr ob, vi pl, vi x2, vi x3] [(.int (((own_fl (cl.set (kq - 1) (cl.getD (kq - 1) 0 + 1)) kq i).getD (kq + i - 1) 0) + (1 : Int32))), (.int x3), (.ref ob)])) rfl rfl (hb hby d14_57)
                refine gv st14 ?_
                refine gv (fun t k => XS.iinc X14.here hx rfl (hb hby d14_58) rfl (l' := #[vr ob, vi pl, vi x2, vi (x3 + (1 : Int32))]) rfl k) ?_
                refine gv (fun t k => XS.goto X14.here hx rfl (pc0 := 61) (pc' := 42) rfl (hb hby d14_61) (by decide) (by decide) k) ?_
                exact ih10 T14 _ h14 (i + 1) (x3 + (1 : Int32)) X14 e14 N14 Z14 K14 (by rw [own_fl, List.map_set]; exact V14) hlt2 (by rw [hx3]; exact own_succ (kq + i)) (by omega)
              · refine gv (fun t k => XS.icmpYes X10.here hx rfl (pc0 := 45) (pc' := 64) rfl (hb hby d14_45) rfl (flt hc12).2.1 (by decide) (by decide) k) ?_
                show Go p.tables e below P T10 (mkF m 64 #[vr ob, vi pl, vi x2, vi x3] [])
                have hge : nc - kq = i := by have q := hc12; rw [hx3, own_ltN (by omega) (by omega)] at q; omega
                obtain ⟨fs, hr, hrun, hended, hW, hsame⟩ := X10.leave (v := none) (fun _ => rfl)
                refine ⟨_, _, X10.returnOut hx Bd.returns (hb hby d14_64) hr, hrun, hended, hP _ _ ⟨_, _, rfl, ?_, ⟨_, rfl⟩, hW, hsame.mono (by decide) (by decide)⟩⟩
                show Q14 Z ob pl kk nc cl h0 n0 _ T10.heap _
                rw [e10]
                exact ⟨rfl, N10, K10, (by rw [own_next, hfk, if_neg (by omega), hge]; exact F10_0)⟩
          exact LP10 _ T9 _ h9 0 (x2 + (1 : Int32)) X9 e9 N9 Z9 K9 (by rw [own_fl, List.map_set]; exact V9) (by omega) (by rw [hx2]; exact Int32.sub_add_cancel _ _) (Nat.lt_succ_self _)
  exact LP2 _ s₁ _ nc ((nc.toInt32) - (1 : Int32)) X0 e0 N0 (Nat.le_refl _) rfl rfl (Nat.lt_succ_self _)
theorem own_pn4 : plainName "java/util/Arrays" = true := by first | (simp [plainName, overriddenIn]; done) | decide +kernel
theorem d8_0 : D16 0 (.iload_n 1) 1 := by decide +kernel
theorem d8_1 : D16 1 (.aload_n 0) 1 := by decide +kernel
theorem d8_2 : D16 2 (.arraylength) 1 := by decide +kernel
theorem d8_3 : D16 3 (.if_icmp .ne 11) 3 := by decide +kernel
theorem d8_6 : D16 6 (.aload_n 0) 1 := by decide +kernel
theorem d8_7 : D16 7 (.invokevirtual 316) 3 := by decide +kernel
theorem d8_10 : D16 10 (.checkcast 317) 3 := by decide +kernel
theorem d8_13 : D16 13 (.areturn) 1 := by decide +kernel
theorem d8_14 : D16 14 (.iload_n 1) 1 := by decide +kernel
theorem d8_15 : D16 15 (.newarray .int) 2 := by decide +kernel
theorem d8_17 : D16 17 (.astore_n 2) 1 := by decide +kernel
theorem d8_18 : D16 18 (.aload_n 0) 1 := by decide +kernel
theorem d8_19 : D16 19 (.iconst 0) 1 := by decide +kernel
theorem d8_20 : D16 20 (.aload_n 2) 1 := by decide +kernel
theorem d8_21 : D16 21 (.iconst 0) 1 := by decide +kernel
theorem d8_22 : D16 22 (.aload_n 0) 1 := by decide +kernel
theorem d8_23 : D16 23 (.arraylength) 1 := by decide +kernel
theorem d8_24 : D16 24 (.iload_n 1) 1 := by decide +kernel
theorem d8_25 : D16 25 (.invokestatic 304) 3 := by decide +kernel
theorem d8_28 : D16 28 (.invokestatic 150) 3 := by decide +kernel
theorem d8_31 : D16 31 (.aload_n 2) 1 := by decide +kernel
theorem d8_32 : D16 32 (.areturn) 1 := by decide +kernel
theorem ef_8 (m : MethodId) (x0 : Addr) (x1 : Int32) : entryFrame m #[(.ref x0), (.int x1)] 3 = mkF m 0 #[.val (.ref x0), .val (.int x1), .unset] [] := by first | (simp [entryFrame, mkF, argsToLocals, Value.category]; done) | rfl
def Q8 (Z : State) (ob : Addr) (pm : Int32) (kk : ClassId) (nl : Nat) (nm : Nat) (bl : List Int32) (h0 : Heap) (n0 : Nat) (v : Option Value) (h : Heap) (L : List Loc) : Prop := ∃ (oc : Addr) (kc : ClassId), v = some (.ref oc) ∧ Fr n0 L ∧ Keep h0 h [] ∧ h0.size ≤ oc ∧ Arv Z h oc kc .int (nm.toInt32) (bl.map Value.int) (.int 0) ∧ Exa Z h oc "[I"
set_option maxRecDepth 65536 in
set_option maxHeartbeats 40000000 in
theorem rm8 (l : Launch) (Z : State) (a0 : Array Value) (hw : ∀ d ∈ tables_1, d.before a0 Z = true) (ws : List Jvm.Cond) (ob : Addr) (pm : Int32) (kk : ClassId) (nl : Nat) (nm : Nat) (bl : List Int32) (h0 : Heap) (n0 : Nat) (Z0 : n0 ≤ h0.size) (P0 : Arv Z h0 ob kk .int (nl.toInt32) (bl.map Value.int) (.int 0)) (P1 : Exa Z h0 ob "[I") (hpm : pm = nm.toInt32) (hmn : nm ≤ nl) (hnl : nl ≤ 4) :
    MetFree l (⟨"java/util/Arrays", "copyOf", "([II)[I"⟩ : MethodName) (head1 (Jvm.Cond.code (⟨"java/util/Arrays", "copyOf", "([II)[I"⟩ : MethodName) jdk_65_method_123_code 3 (some (.array .int)) :: ws) ({ frames := 1, cells := 1, slots := 4, locals := 18 } : Room)) (fun a U => a = #[(.ref ob), (.int pm)] ∧ Z.Warmed39 U.vm ∧ U.heap = h0) (fun _ _ _ _ _ => True) (fun _ U o U' => ∃ v L, o = .returned v ∧ Q8 Z ob pm kk nl nm bl h0 n0 v U'.heap L ∧ FrameEnd U o U' L ({ frames := 1, cells := 1, slots := 4, locals := 18 } : Room).cells ({ frames := 1, cells := 1, slots := 4, locals := 18 } : Room).slots) := by
  refine MetFree.of_bodySF (plainFor_of_name own_pn4) hisR ?_
  intro p e s m args below meth c s₁ Bd hml0 hP hK
  obtain ⟨rfl, hZ, hh⟩ := hP
  have hx := Bd.exec
  have hby := Bd.bytes
  have hml : c.maxLocals = 3 := hml0
  have hown : s.vm.findClass "java/util/Arrays" = some m.cls := findClass_of_methodNamed Bd.named
  have hnm := (name_of_methodNamed Bd.named Bd.method).1
  have X0 : Stand p l e ({ frames := 1, cells := 1, slots := 4, locals := 18 } : Room) s m #[(.ref ob), (.int pm)] below meth c s₁ [] 0 0 := Stand.of_body Bd
  have e0 : s₁.heap = h0 := by rw [← hh, Bd.state]; rfl
  have N0 := Fr.nil n0
  have K0 : Keep h0 h0 [] := Keep.refl _ _
  suffices GO : ∀ P : Outcome → State → Prop, (∀ o U', (∃ v L, o = .returned v ∧ Q8 Z ob pm kk nl nm bl h0 n0 v U'.heap L ∧ FrameEnd s o U' L ({ frames := 1, cells := 1, slots := 4, locals := 18 } : Room).cells ({ frames := 1, cells := 1, slots := 4, locals := 18 } : Room).slots) → P o U') → Go p.tables e below P s₁ (mkF m 0 #[.val (.ref ob), .val (.int pm), .unset] []) by
    obtain ⟨s2, o, st, r⟩ := GO _ (fun _ _ q => q)
    exact ⟨s2, o, castTop (ef_8 m ob pm) st, r⟩
  clear hh
  intro P hP
  show Go p.tables e below P s₁ (mkF m 0 #[vr ob, vi pm, vu] [])
  refine gv (fun t k => XS.iloadN X0.here hx rfl (hb hby d8_0) rfl k) ?_
  refine gv (fun t k => XS.aloadN X0.here hx rfl (hb hby d8_1) rfl rfl k) ?_
  obtain ⟨c1, A1, -, S1, N1, -, -⟩ := id P0
  refine gv (fun t k => X0.arraylength hx (by rw [e0]; exact A1.1) (State.isArrayOf_alike hZ.alike A1.2.1) (g := (mkF m 2 #[vr ob, vi pm, vu] [(.ref ob), (.int pm)])) rfl rfl (hb hby d8_2) t (by rw [len_of S1 N1]; exact k)) ?_
  by_cases hc2 : pm = (nl.toInt32)
  · refine gv (fun t k => XS.icmpNo X0.here hx rfl (hb hby d8_3) rfl (teq hc2).2 k) ?_
    refine gv (fun t k => XS.aloadN X0.here hx rfl (hb hby d8_6) rfl rfl k) ?_
    obtain ⟨T3, h3, X3, e3, E3, V3, B3, st3⟩ := cloneH X0 hx hZ hown (own_g hw 59 rfl) (own_g hw 60 rfl) (own_g hw 64 rfl) (own_g hw 62 rfl) (own_g hw 63 rfl) (own_g hw 65 rfl) e0 (Arv.arh P0) P1 (g := (mkF m 7 #[vr ob, vi pm, vu] [(.ref ob)])) rfl (by rw [hml]; rfl) rfl (hb hby d8_7) (by decide) (W := 0) (by show 2 * 0 + _ ≤ _; exact Nat.le_of_eq rfl) (by decide) (cap := 4) (by rw [own_clamp (by omega)]; exact hnl) (by decide) (by decide)
    obtain ⟨b3, g3⟩ : ∃ z, z = h0.size := ⟨_, rfl⟩
    rw [← g3] at V3 B3 st3
    refine gv st3 ?_
    have g4 := Nat.le_trans Z0 (Nat.le_of_eq g3.symm)
    have sz5 := Nat.le_trans K0.1 (Nat.le_of_eq g3.symm)
    have Z6 := Nat.le_trans Z0 E3.1
    have K7 := K0.ext E3
    have Vc3 : Arv Z h3 b3 kk .int (nl.toInt32) (bl.map Value.int) (.int 0) := V3
    obtain ⟨T8, X8, e8, st8⟩ := castY X3 hx hZ hown (own_g hw 66 rfl) e3 (Ins.self B3) (g := (mkF m 10 #[vr ob, vi pm, vu] [(.ref b3)])) rfl rfl (hb hby d8_10)
    refine gv st8 ?_
    show Go p.tables e below P T8 (mkF m 13 #[vr ob, vi pm, vu] [(.ref b3)])
    obtain ⟨fs, hr, hrun, hended, hW, hsame⟩ := X8.leave (v := some (.ref b3)) (fun h => by rw [Bd.returns] at h; cases h)
    refine ⟨_, _, retA X8 hx Bd.returns rfl rfl rfl (hb hby d8_13) hr, hrun, hended, hP _ _ ⟨_, _, rfl, ?_, ⟨_, rfl⟩, hW, hsame.mono (by decide) (by decide)⟩⟩
    show Q8 Z ob pm kk nl nm bl h0 n0 _ T8.heap _
    rw [e8]
    exact ⟨b3, kk, rfl, N0, K7, sz5, (by rw [← hpm, hc2]; exact Vc3), B3⟩
  · refine gv (fun t k => XS.icmpYes X0.here hx rfl (pc0 := 3) (pc' := 14) rfl (hb hby d8_3) rfl (feq hc2).2 (by decide) (by decide) k) ?_
    refine gv (fun t k => XS.iloadN X0.here hx rfl (hb hby d8_14) rfl k) ?_
    obtain ⟨T10, h10, k10, X10, e10, E10, A10, B10, st10⟩ := newPE X0 hx hZ (own_g hw 1 rfl) e0 (g := (mkF m 15 #[vr ob, vi pm, vu] [(.int pm)])) rfl (hb hby d8_15) rfl (by rw [hpm]; exact own_nneg (by omega)) (cap := 4) (by rw [hpm, own_clamp (by omega)]; omega) (by decide) (by decide) (by decide) (ad := "[I") (by decide)
    obtain ⟨b10, g10⟩ : ∃ z, z = h0.size := ⟨_, rfl⟩
    rw [← g10] at A10 B10 st10
    refine gv st10 ?_
    have g11 := Nat.le_trans Z0 (Nat.le_of_eq g10.symm)
    have sz12 := Nat.le_trans K0.1 (Nat.le_of_eq g10.symm)
    have Z13 := Nat.le_trans Z0 E10.1
    have K14 := K0.ext E10
    have V10 : Arv Z h10 b10 k10 .int pm [(.int 0), (.int 0), (.int 0), (.int 0)] (.int 0) := (Arv.new A10 (by rw [hpm]; exact own_nneg (by omega))).pad (pad_rep [] (.int 0) 4)
    refine gv (fun t k => XS.astoreN X10.here hx rfl (hb hby d8_17) rfl rfl (l' := #[vr ob, vi pm, vr b10]) rfl k) ?_
    refine gv (fun t k => XS.aloadN X10.here hx rfl (hb hby d8_18) rfl rfl k) ?_
    refine gv (fun t k => XS.iconst X10.here hx rfl (hb hby d8_19) k) ?_
    refine gv (fun t k => XS.aloadN X10.here hx rfl (hb hby d8_20) rfl rfl k) ?_
    refine gv (fun t k => XS.iconst X10.here hx rfl (hb hby d8_21) k) ?_
    refine gv (fun t k => XS.aloadN X10.here hx rfl (hb hby d8_22) rfl rfl k) ?_
    show Go p.tables e below P T10 (mkF m 23 #[vr ob, vi pm, vr b10] [(.ref ob), (.int 0), (.ref b10), (.int 0), (.ref ob)])
    have F15 := (P0.ext E10)
    obtain ⟨c16, A16, -, S16, N16, -, -⟩ := id F15
    refine gv (fun t k => X10.arraylength hx (by rw [e10]; exact A16.1) (State.isArrayOf_alike hZ.alike A16.2.1) (g := (mkF m 23 #[vr ob, vi pm, vr b10] [(.ref ob), (.int 0), (.ref b10), (.int 0), (.ref ob)])) rfl rfl (hb hby d8_23) t (by rw [len_of S16 N16]; exact k)) ?_
    refine gv (fun t k => XS.iloadN X10.here hx rfl (hb hby d8_24) rfl k) ?_
    obtain ⟨_, _, ⟨T17, L17, k17, n17⟩, -, X17, ⟨Lc17, hQ17, l17, y17, z17⟩, st17⟩ := Jvm.LawKit.callS X10 hx (y := (⟨"java/lang/Math", "min", "(II)I"⟩ : MethodName)) hown (mvT hZ (own_g hw 104 rfl)) (mvT hZ (own_g hw 101 rfl)) (mvT hZ (own_g hw 102 rfl)) (mvT hZ (own_g hw 103 rfl)) (by decide) (backOf (W := 4) (rm17 l Z a0 hw [] (nl.toInt32) pm h10 n0 Z13 ) hZ (own_g hw 103 rfl) (own_g hw 102 rfl) (by decide) (by decide)) (g := (mkF m 25 #[vr ob, vi pm, vr b10] [(.int pm), (.int (nl.toInt32)), (.int 0), (.ref b10), (.int 0), (.ref ob)])) rfl (by rw [hml]; rfl) (argsL := [(.int (nl.toInt32)), (.int pm)]) (rest := [(.int 0), (.ref b10), (.int 0), (.ref ob)]) (lenOf own_pd0 rfl) rfl (by show 2 * 0 + _ ≤ _; exact Nat.le_of_eq rfl) (hb hby d8_25) (fun _ _ => ⟨rfl, e10, (by decide : 1 + 0 ≤ _), (by decide : 4 + 0 ≤ _)⟩)
    dsimp only [Pt.U, Pt.locs, Pt.cells, Pt.slots] at X17 l17 y17 z17 st17 hQ17
    subst l17 y17 z17
    obtain ⟨rfl, Nq17, hh17⟩ := hQ17
    obtain ⟨lc17, Xh17, N17⟩ := own_hide X17 (Fr.app N0 Nq17)
    clear X17
    refine gv st17 ?_
    show Go p.tables e below P T17 (mkF m 28 #[vr ob, vi pm, vr b10] [(.int (own_mn (nl.toInt32) pm)), (.int 0), (.ref b10), (.int 0), (.ref ob)])
    have hlt : nm < nl := Nat.lt_of_le_of_ne hmn (fun q => hc2 (by rw [hpm, q]))
    have hpl : pm < nl.toInt32 := by rw [hpm]; exact (own_ltN (by omega) (by omega)).mpr hlt
    rw [own_mn_lt hpl]
    obtain ⟨T18, h18, L18, X18, e18, N18, K18, V18, st18⟩ := cpA Xh17 hx hZ hown (own_g hw 105 rfl) (own_g hw 108 rfl) (own_g hw 106 rfl) (own_g hw 107 rfl) hh17 F15 V10 (Or.inl ⟨rfl, rfl⟩) (sp := (0 : Int32)) (dp := (0 : Int32)) (nn := pm) (by decide) (by decide) (by rw [hpm]; exact own_nneg (by omega)) (by rw [hpm, own_clamp (by omega), own_clamp (by omega)]; show 0 + nm ≤ nl; omega) (by rw [hpm, own_clamp (by omega)]; show 0 + nm ≤ nm; omega) rfl (by rw [hpm, own_clamp (by omega)]; show 0 + nm ≤ 4; omega) N17 g11 (g := (mkF m 28 #[vr ob, vi pm, vr b10] [(.int pm), (.int 0), (.ref b10), (.int 0), (.ref ob)])) rfl (by rw [hml]; rfl) rfl (hb hby d8_28) (by decide) (W := 0) (by show 2 * 0 + _ ≤ _; exact Nat.le_of_eq rfl) (by decide)
    subst e18
    refine gv st18 ?_
    have Vc18 : Arv Z T18.heap b10 k10 .int pm (bl.map Value.int) (.int 0) := own_cong V18 (fun i hi => own_cp _ _ _ _ _ i hi)
    have Z19 := Nat.le_trans Z13 K18.1
    have K20 := K14.trans K18 (own_allC (Or.inr sz12) own_all0)
    refine gv (fun t k => XS.aloadN X18.here hx rfl (hb hby d8_31) rfl rfl k) ?_
    show Go p.tables e below P T18 (mkF m 32 #[vr ob, vi pm, vr b10] [(.ref b10)])
    obtain ⟨fs, hr, hrun, hended, hW, hsame⟩ := X18.leave (v := some (.ref b10)) (fun h => by rw [Bd.returns] at h; cases h)
    have F22 := (B10.keep K18)
    refine ⟨_, _, retA X18 hx Bd.returns rfl rfl rfl (hb hby d8_32) hr, hrun, hended, hP _ _ ⟨_, _, rfl, ?_, ⟨_, rfl⟩, hW, hsame.mono (by decide) (by decide)⟩⟩
    show Q8 Z ob pm kk nl nm bl h0 n0 _ T18.heap _
    exact ⟨b10, k10, rfl, N18, K20, sz12, (by rw [← hpm]; exact Vc18), F22⟩
theorem d9_0 : D17 0 (.lload_n 0) 1 := by decide +kernel
theorem d9_1 : D17 1 (.invokestatic 111) 3 := by decide +kernel
theorem d9_4 : D17 4 (.istore_n 3) 1 := by decide +kernel
theorem d9_5 : D17 5 (.lload_n 0) 1 := by decide +kernel
theorem d9_6 : D17 6 (.invokestatic 131) 3 := by decide +kernel
theorem d9_9 : D17 9 (.istore 4) 2 := by decide +kernel
theorem d9_11 : D17 11 (.iload_n 3) 1 := by decide +kernel
theorem d9_12 : D17 12 (.iload_n 2) 1 := by decide +kernel
theorem d9_13 : D17 13 (.invokestatic 51) 3 := by decide +kernel
theorem d9_16 : D17 16 (.l2i) 1 := by decide +kernel
theorem d9_17 : D17 17 (.newarray .long) 2 := by decide +kernel
theorem d9_19 : D17 19 (.astore 5) 2 := by decide +kernel
theorem d9_21 : D17 21 (.iconst 1) 1 := by decide +kernel
theorem d9_22 : D17 22 (.istore 6) 2 := by decide +kernel
theorem d9_24 : D17 24 (.iconst 1) 1 := by decide +kernel
theorem d9_25 : D17 25 (.istore 7) 2 := by decide +kernel
theorem d9_27 : D17 27 (.iload 7) 2 := by decide +kernel
theorem d9_29 : D17 29 (.iload_n 2) 1 := by decide +kernel
theorem d9_30 : D17 30 (.if_icmp .gt 125) 3 := by decide +kernel
theorem d9_155 : D17 155 (.aload 5) 2 := by decide +kernel
theorem d9_157 : D17 157 (.areturn) 1 := by decide +kernel
theorem ef_9 (m : MethodId) (x0 : Int64) : entryFrame m #[(.long x0), (.int 0)] 17 = mkF m 0 #[.val (.long x0), .second, .val (.int 0), .unset, .unset, .unset, .unset, .unset, .unset, .unset, .unset, .unset, .unset, .unset, .unset, .unset, .unset] [] := by first | (simp [entryFrame, mkF, argsToLocals, Value.category]; done) | rfl
def Q9 (Z : State) (qm : Int64) (nN : Nat) (h0 : Heap) (n0 : Nat) (v : Option Value) (h : Heap) (L : List Loc) : Prop := ∃ (od : Addr), v = some (.ref od) ∧ Fr n0 L ∧ Keep h0 h [] ∧ h0.size ≤ od ∧ Exa Z h od "[J"
set_option maxRecDepth 65536 in
set_option maxHeartbeats 40000000 in
theorem rm9 (l : Launch) (Z : State) (a0 : Array Value) (hw : ∀ d ∈ tables_1, d.before a0 Z = true) (ws : List Jvm.Cond) (qm : Int64) (nN : Nat) (h0 : Heap) (n0 : Nat) (Z0 : n0 ≤ h0.size) (hbc : own_bc qm = nN.toInt32) (hn64 : nN ≤ 64) :
    MetFree l (⟨BLn, "differencesWithin", "(JI)[J"⟩ : MethodName) (head1 (Jvm.Cond.code (⟨BLn, "differencesWithin", "(JI)[J"⟩ : MethodName) prog_1_method_15_code 17 (some (.array .long)) :: ws) ({ frames := 2, cells := 2, slots := 66, locals := 34 } : Room)) (fun a U => a = #[(.long qm), (.int 0)] ∧ Z.Warmed39 U.vm ∧ U.heap = h0) (fun _ _ _ _ _ => True) (fun _ U o U' => ∃ v L, o = .returned v ∧ Q9 Z qm nN h0 n0 v U'.heap L ∧ FrameEnd U o U' L ({ frames := 2, cells := 2, slots := 66, locals := 34 } : Room).cells ({ frames := 2, cells := 2, slots := 66, locals := 34 } : Room).slots) := by
  refine MetFree.of_bodySF (plainFor_of_name own_pn1) hisR ?_
  intro p e s m args below meth c s₁ Bd hml0 hP hK
  obtain ⟨rfl, hZ, hh⟩ := hP
  have hx := Bd.exec
  have hby := Bd.bytes
  have hml : c.maxLocals = 17 := hml0
  have hown : s.vm.findClass BLn = some m.cls := findClass_of_methodNamed Bd.named
  have hnm := (name_of_methodNamed Bd.named Bd.method).1
  have X0 : Stand p l e ({ frames := 2, cells := 2, slots := 66, locals := 34 } : Room) s m #[(.long qm), (.int 0)] below meth c s₁ [] 0 0 := Stand.of_body Bd
  have e0 : s₁.heap = h0 := by rw [← hh, Bd.state]; rfl
  have N0 := Fr.nil n0
  have K0 : Keep h0 h0 [] := Keep.refl _ _
  suffices GO : ∀ P : Outcome → State → Prop, (∀ o U', (∃ v L, o = .returned v ∧ Q9 Z qm nN h0 n0 v U'.heap L ∧ FrameEnd s o U' L ({ frames := 2, cells := 2, slots := 66, locals := 34 } : Room).cells ({ frames := 2, cells := 2, slots := 66, locals := 34 } : Room).slots) → P o U') → Go p.tables e below P s₁ (mkF m 0 #[.val (.long qm), .second, .val (.int 0), .unset, .unset, .unset, .unset, .unset, .unset, .unset, .unset, .unset, .unset, .unset, .unset, .unset, .unset] []) by
    obtain ⟨s2, o, st, r⟩ := GO _ (fun _ _ q => q)
    exact ⟨s2, o, castTop (ef_9 m qm) st, r⟩
  clear hh
  intro P hP
  show Go p.tables e below P s₁ (mkF m 0 #[vj qm, v2, vi 0, vu, vu, vu, vu, vu, vu, vu, vu, vu, vu, vu, vu, vu, vu] [])
  refine gv (fun t k => XS.lloadN X0.here hx rfl (hb hby d9_0) rfl k) ?_
  obtain ⟨_, _, ⟨T1, L1, k1, n1⟩, -, X1, ⟨Lc1, hQ1, l1, y1, z1⟩, st1⟩ := Jvm.LawKit.callS X0 hx (y := (⟨"java/lang/Long", "bitCount", "(J)I"⟩ : MethodName)) hown (mvT hZ (own_g hw 71 rfl)) (mvT hZ (own_g hw 72 rfl)) (mvT hZ (own_g hw 73 rfl)) (mvT hZ (own_g hw 74 rfl)) (by decide) (backOf (W := 0) (rm10 l Z a0 hw [] qm h0 n0 Z0 ) hZ (own_g hw 74 rfl) (own_g hw 73 rfl) (by decide) (by decide)) (g := (mkF m 1 #[vj qm, v2, vi 0, vu, vu, vu, vu, vu, vu, vu, vu, vu, vu, vu, vu, vu, vu] [(.long qm)])) rfl (by rw [hml]; rfl) (argsL := [(.long qm)]) (rest := []) (lenOf own_pd2 rfl) rfl (by show 2 * 0 + _ ≤ _; exact Nat.le_of_eq rfl) (hb hby d9_1) (fun _ _ => ⟨rfl, e0, (by decide : 0 + 0 ≤ _), (by decide : 0 + 0 ≤ _)⟩)
  dsimp only [Pt.U, Pt.locs, Pt.cells, Pt.slots] at X1 l1 y1 z1 st1 hQ1
  subst l1 y1 z1
  obtain ⟨rfl, Nq1, hh1⟩ := hQ1
  obtain ⟨lc1, Xh1, N1⟩ := own_hide X1 (Fr.app N0 Nq1)
  clear X1
  refine gv st1 ?_
  refine gv (fun t k => XS.istoreN Xh1.here hx rfl (hb hby d9_4) rfl (l' := #[vj qm, v2, vi 0, vi (own_bc qm), vu, vu, vu, vu, vu, vu, vu, vu, vu, vu, vu, vu, vu]) rfl k) ?_
  refine gv (fun t k => XS.lloadN Xh1.here hx rfl (hb hby d9_5) rfl k) ?_
  obtain ⟨_, _, ⟨T2, L2, k2, n2⟩, -, X2, ⟨Lc2, hQ2, l2, y2, z2⟩, st2⟩ := Jvm.LawKit.callS Xh1 hx (y := (⟨"java/lang/Long", "numberOfTrailingZeros", "(J)I"⟩ : MethodName)) hown (mvT hZ (own_g hw 78 rfl)) (mvT hZ (own_g hw 79 rfl)) (mvT hZ (own_g hw 73 rfl)) (mvT hZ (own_g hw 80 rfl)) (by decide) (backOf (W := 0) (rm11 l Z a0 hw [] qm h0 n0 Z0 ) hZ (own_g hw 80 rfl) (own_g hw 73 rfl) (by decide) (by decide)) (g := (mkF m 6 #[vj qm, v2, vi 0, vi (own_bc qm), vu, vu, vu, vu, vu, vu, vu, vu, vu, vu, vu, vu, vu] [(.long qm)])) rfl (by rw [hml]; rfl) (argsL := [(.long qm)]) (rest := []) (lenOf own_pd2 rfl) rfl (by show 2 * 0 + _ ≤ _; exact Nat.le_of_eq rfl) (hb hby d9_6) (fun _ _ => ⟨rfl, hh1, (by decide : 0 + 0 ≤ _), (by decide : 0 + 0 ≤ _)⟩)
  dsimp only [Pt.U, Pt.locs, Pt.cells, Pt.slots] at X2 l2 y2 z2 st2 hQ2
  subst l2 y2 z2
  obtain ⟨qr_2, rfl, Nq2, hh2⟩ := hQ2
  obtain ⟨lc2, Xh2, N2⟩ := own_hide X2 (Fr.app N1 Nq2)
  clear X2
  refine gv st2 ?_
  refine gv (fun t k => XS.istore Xh2.here hx rfl (hb hby d9_9) rfl (l' := #[vj qm, v2, vi 0, vi (own_bc qm), vi qr_2, vu, vu, vu, vu, vu, vu, vu, vu, vu, vu, vu, vu]) rfl k) ?_
  refine gv (fun t k => XS.iloadN Xh2.here hx rfl (hb hby d9_11) rfl k) ?_
  refine gv (fun t k => XS.iloadN Xh2.here hx rfl (hb hby d9_12) rfl k) ?_
  obtain ⟨_, _, ⟨T3, L3, k3, n3⟩, -, X3, ⟨Lc3, hQ3, l3, y3, z3⟩, st3⟩ := Jvm.LawKit.callS Xh2 hx (y := (⟨BLn, "keysWithin", "(II)J"⟩ : MethodName)) hown (mvT hZ (own_g hw 85 rfl)) (mvT hZ (own_g hw 86 rfl)) (mvT hZ (own_g hw 11 rfl)) (mvT hZ (own_g hw 87 rfl)) (by decide) (backOf (W := 0) (rm13 l Z a0 hw [] (own_bc qm) nN h0 n0 Z0 hbc (by first | assumption | decide | omega)) hZ (own_g hw 87 rfl) (own_g hw 11 rfl) (by decide) (by decide)) (g := (mkF m 13 #[vj qm, v2, vi 0, vi (own_bc qm), vi qr_2, vu, vu, vu, vu, vu, vu, vu, vu, vu, vu, vu, vu] [(.int 0), (.int (own_bc qm))])) rfl (by rw [hml]; rfl) (argsL := [(.int (own_bc qm)), (.int 0)]) (rest := []) (lenOf own_pd4 rfl) rfl (by show 2 * 0 + _ ≤ _; exact Nat.le_of_eq rfl) (hb hby d9_13) (fun _ _ => ⟨rfl, hh2, (by decide : 0 + 1 ≤ _), (by decide : 0 + 65 ≤ _)⟩)
  dsimp only [Pt.U, Pt.locs, Pt.cells, Pt.slots] at X3 l3 y3 z3 st3 hQ3
  subst l3 y3 z3
  obtain ⟨rfl, Nq3, K3⟩ := hQ3
  obtain ⟨lc3, Xh3, N3⟩ := own_hide X3 (Fr.app N2 Nq3)
  clear X3
  refine gv st3 ?_
  have Z4 := Nat.le_trans Z0 K3.1
  have K5 := K0.trans K3 own_all0
  show Go p.tables e below P T3 (mkF m 16 #[vj qm, v2, vi 0, vi (own_bc qm), vi qr_2, vu, vu, vu, vu, vu, vu, vu, vu, vu, vu, vu, vu] [(.long 1)])
  refine gv (fun t k => XS.l2i Xh3.here hx rfl (hb hby d9_16) rfl k) ?_
  show Go p.tables e below P T3 (mkF m 17 #[vj qm, v2, vi 0, vi (own_bc qm), vi qr_2, vu, vu, vu, vu, vu, vu, vu, vu, vu, vu, vu, vu] [(.int ((1 : Int64).toInt32))])
  rw [show (1 : Int64).toInt32 = (1 : Int32) from rfl]
  obtain ⟨T6, h6, k6, X6, e6, E6, A6, B6, st6⟩ := newPE Xh3 hx hZ (own_g hw 21 rfl) rfl (g := (mkF m 17 #[vj qm, v2, vi 0, vi (own_bc qm), vi qr_2, vu, vu, vu, vu, vu, vu, vu, vu, vu, vu, vu, vu] [(.int 1)])) rfl (hb hby d9_17) rfl (by decide) (cap := 1) (by decide) (by decide) (by decide) (by decide) (ad := "[J") (by decide)
  obtain ⟨b6, g6⟩ : ∃ z, z = T3.heap.size := ⟨_, rfl⟩
  rw [← g6] at A6 B6 st6
  refine gv st6 ?_
  have g7 := Nat.le_trans Z4 (Nat.le_of_eq g6.symm)
  have sz8 := Nat.le_trans K5.1 (Nat.le_of_eq g6.symm)
  have Z9 := Nat.le_trans Z4 E6.1
  have K10 := K5.ext E6
  have V6 : Arv Z h6 b6 k6 .long (1 : Int32) [(.long 0)] (.long 0) := (Arv.new A6 (by decide)).pad (pad_rep [] (.long 0) 1)
  refine gv (fun t k => XS.astore X6.here hx rfl (hb hby d9_19) rfl rfl (l' := #[vj qm, v2, vi 0, vi (own_bc qm), vi qr_2, vr b6, vu, vu, vu, vu, vu, vu, vu, vu, vu, vu, vu]) rfl k) ?_
  refine gv (fun t k => XS.iconst X6.here hx rfl (hb hby d9_21) k) ?_
  refine gv (fun t k => XS.istore X6.here hx rfl (hb hby d9_22) rfl (l' := #[vj qm, v2, vi 0, vi (own_bc qm), vi qr_2, vr b6, vi 1, vu, vu, vu, vu, vu, vu, vu, vu, vu, vu]) rfl k) ?_
  refine gv (fun t k => XS.iconst X6.here hx rfl (hb hby d9_24) k) ?_
  refine gv (fun t k => XS.istore X6.here hx rfl (hb hby d9_25) rfl (l' := #[vj qm, v2, vi 0, vi (own_bc qm), vi qr_2, vr b6, vi 1, vi 1, vu, vu, vu, vu, vu, vu, vu, vu, vu]) rfl k) ?_
  refine gv (fun t k => XS.iload X6.here hx rfl (hb hby d9_27) rfl k) ?_
  refine gv (fun t k => XS.iloadN X6.here hx rfl (hb hby d9_29) rfl k) ?_
  refine gv (fun t k => XS.icmpYes X6.here hx rfl (pc0 := 30) (pc' := 155) rfl (hb hby d9_30) rfl (tlt (by decide : (0 : Int32) < (1 : Int32))).2.2.1 (by decide) (by decide) k) ?_
  show Go p.tables e below P T6 (mkF m 155 #[vj qm, v2, vi 0, vi (own_bc qm), vi qr_2, vr b6, vi 1, vi 1, vu, vu, vu, vu, vu, vu, vu, vu, vu] [])
  refine gv (fun t k => XS.aload X6.here hx rfl (hb hby d9_155) rfl rfl k) ?_
  show Go p.tables e below P T6 (mkF m 157 #[vj qm, v2, vi 0, vi (own_bc qm), vi qr_2, vr b6, vi 1, vi 1, vu, vu, vu, vu, vu, vu, vu, vu, vu] [(.ref b6)])
  obtain ⟨fs, hr, hrun, hended, hW, hsame⟩ := X6.leave (v := some (.ref b6)) (fun h => by rw [Bd.returns] at h; cases h)
  refine ⟨_, _, retA X6 hx Bd.returns rfl rfl rfl (hb hby d9_157) hr, hrun, hended, hP _ _ ⟨_, _, rfl, ?_, ⟨_, rfl⟩, hW, hsame.mono (by decide) (by decide)⟩⟩
  show Q9 Z qm nN h0 n0 _ T6.heap _
  rw [e6]
  exact ⟨b6, rfl, N3, K10, sz8, B6⟩
theorem own_dec {x : Int64} {i : Nat} (h : x.toInt = 32 - (i : Int)) (hi : i ≤ 32 := by omega) : (x - 1).toInt = 32 - ((i + 1 : Nat) : Int) := by
  have q := c_lsub x 1; have e1 : (1 : Int64).toInt = 1 := rfl; have r := rng64 (x - 1); rw [e1, h] at q; omega
theorem own_pd5 : parseMethodDescriptor "([II)V" = some ⟨[(.array .int), .int], none⟩ := by decide +kernel
theorem d9_33 : D17 33 (.iload 7) 2 := by decide +kernel
theorem d9_35 : D17 35 (.newarray .int) 2 := by decide +kernel
theorem d9_37 : D17 37 (.astore 8) 2 := by decide +kernel
theorem d9_39 : D17 39 (.iconst 0) 1 := by decide +kernel
theorem d9_40 : D17 40 (.istore 9) 2 := by decide +kernel
theorem d9_42 : D17 42 (.iload 9) 2 := by decide +kernel
theorem d9_44 : D17 44 (.iload 7) 2 := by decide +kernel
theorem d9_46 : D17 46 (.if_icmp .ge 16) 3 := by decide +kernel
theorem d9_49 : D17 49 (.aload 8) 2 := by decide +kernel
theorem d9_51 : D17 51 (.iload 9) 2 := by decide +kernel
theorem d9_53 : D17 53 (.iload 9) 2 := by decide +kernel
theorem d9_55 : D17 55 (.iastore) 1 := by decide +kernel
theorem d9_56 : D17 56 (.iinc 9 1) 3 := by decide +kernel
theorem d9_59 : D17 59 (.goto (-17)) 3 := by decide +kernel
theorem d9_62 : D17 62 (.iload_n 3) 1 := by decide +kernel
theorem d9_63 : D17 63 (.iload 7) 2 := by decide +kernel
theorem d9_65 : D17 65 (.invokestatic 29) 3 := by decide +kernel
theorem d9_68 : D17 68 (.lstore 9) 2 := by decide +kernel
theorem d9_70 : D17 70 (.lload 9) 2 := by decide +kernel
theorem d9_72 : D17 72 (.lconst 0) 1 := by decide +kernel
theorem d9_73 : D17 73 (.lcmp) 1 := by decide +kernel
theorem d9_74 : D17 74 (.ifCond .le 75) 3 := by decide +kernel
theorem d9_77 : D17 77 (.lconst 0) 1 := by decide +kernel
theorem d9_78 : D17 78 (.lstore 11) 2 := by decide +kernel
theorem d9_80 : D17 80 (.aload 8) 2 := by decide +kernel
theorem d9_82 : D17 82 (.astore 13) 2 := by decide +kernel
theorem d9_84 : D17 84 (.aload 13) 2 := by decide +kernel
theorem d9_86 : D17 86 (.arraylength) 1 := by decide +kernel
theorem d9_87 : D17 87 (.istore 14) 2 := by decide +kernel
theorem d9_89 : D17 89 (.iconst 0) 1 := by decide +kernel
theorem d9_90 : D17 90 (.istore 15) 2 := by decide +kernel
theorem d9_92 : D17 92 (.iload 15) 2 := by decide +kernel
theorem d9_94 : D17 94 (.iload 14) 2 := by decide +kernel
theorem d9_96 : D17 96 (.if_icmp .ge 28) 3 := by decide +kernel
theorem d9_99 : D17 99 (.aload 13) 2 := by decide +kernel
theorem d9_101 : D17 101 (.iload 15) 2 := by decide +kernel
theorem d9_103 : D17 103 (.iaload) 1 := by decide +kernel
theorem d9_104 : D17 104 (.istore 16) 2 := by decide +kernel
theorem d9_106 : D17 106 (.lload 11) 2 := by decide +kernel
theorem d9_108 : D17 108 (.lconst 1) 1 := by decide +kernel
theorem d9_109 : D17 109 (.iload 4) 2 := by decide +kernel
theorem d9_111 : D17 111 (.iload 16) 2 := by decide +kernel
theorem d9_113 : D17 113 (.iadd) 1 := by decide +kernel
theorem d9_114 : D17 114 (.lshl) 1 := by decide +kernel
theorem d9_115 : D17 115 (.lor) 1 := by decide +kernel
theorem d9_116 : D17 116 (.lstore 11) 2 := by decide +kernel
theorem d9_118 : D17 118 (.iinc 15 1) 3 := by decide +kernel
theorem d9_121 : D17 121 (.goto (-29)) 3 := by decide +kernel
theorem d9_124 : D17 124 (.aload 5) 2 := by decide +kernel
theorem d9_126 : D17 126 (.iload 6) 2 := by decide +kernel
theorem d9_128 : D17 128 (.lload 11) 2 := by decide +kernel
theorem d9_130 : D17 130 (.lastore) 1 := by decide +kernel
theorem d9_131 : D17 131 (.iinc 6 1) 3 := by decide +kernel
theorem d9_134 : D17 134 (.aload 8) 2 := by decide +kernel
theorem d9_136 : D17 136 (.iload_n 3) 1 := by decide +kernel
theorem d9_137 : D17 137 (.invokestatic 100) 3 := by decide +kernel
theorem d9_140 : D17 140 (.lload 9) 2 := by decide +kernel
theorem d9_142 : D17 142 (.lconst 1) 1 := by decide +kernel
theorem d9_143 : D17 143 (.lsub) 1 := by decide +kernel
theorem d9_144 : D17 144 (.lstore 9) 2 := by decide +kernel
theorem d9_146 : D17 146 (.goto (-76)) 3 := by decide +kernel
theorem d9_149 : D17 149 (.iinc 7 1) 3 := by decide +kernel
theorem d9_152 : D17 152 (.goto (-125)) 3 := by decide +kernel
theorem ef_9o (m : MethodId) (x0 : Int64) : entryFrame m #[(.long x0), (.int 1)] 17 = mkF m 0 #[.val (.long x0), .second, .val (.int 1), .unset, .unset, .unset, .unset, .unset, .unset, .unset, .unset, .unset, .unset, .unset, .unset, .unset, .unset] [] := by first | (simp [entryFrame, mkF, argsToLocals, Value.category]; done) | rfl
def Q9o (Z : State) (qm : Int64) (h0 : Heap) (n0 : Nat) (v : Option Value) (h : Heap) (L : List Loc) : Prop := ∃ (od : Addr), v = some (.ref od) ∧ Fr n0 L ∧ Keep h0 h [] ∧ h0.size ≤ od ∧ Exa Z h od "[J"
set_option maxRecDepth 65536 in
set_option maxHeartbeats 40000000 in
theorem rm9o (l : Launch) (Z : State) (a0 : Array Value) (hw : ∀ d ∈ tables_1, d.before a0 Z = true) (ws : List Jvm.Cond) (qm : Int64) (h0 : Heap) (n0 : Nat) (Z0 : n0 ≤ h0.size) (hbc : own_bc qm = (32 : Int32)) :
    MetFree l (⟨BLn, "differencesWithin", "(JI)[J"⟩ : MethodName) (head1 (Jvm.Cond.code (⟨BLn, "differencesWithin", "(JI)[J"⟩ : MethodName) prog_1_method_15_code 17 (some (.array .long)) :: ws) ({ frames := 2, cells := 5, slots := 229, locals := 34 } : Room)) (fun a U => a = #[(.long qm), (.int 1)] ∧ Z.Warmed39 U.vm ∧ U.heap = h0) (fun _ _ _ _ _ => True) (fun _ U o U' => ∃ v L, o = .returned v ∧ Q9o Z qm h0 n0 v U'.heap L ∧ FrameEnd U o U' L ({ frames := 2, cells := 5, slots := 229, locals := 34 } : Room).cells ({ frames := 2, cells := 5, slots := 229, locals := 34 } : Room).slots) := by
  refine MetFree.of_bodySF (plainFor_of_name own_pn1) hisR ?_
  intro p e s m args below meth c s₁ Bd hml0 hP hK
  obtain ⟨rfl, hZ, hh⟩ := hP
  have hx := Bd.exec
  have hby := Bd.bytes
  have hml : c.maxLocals = 17 := hml0
  have hown : s.vm.findClass BLn = some m.cls := findClass_of_methodNamed Bd.named
  have hnm := (name_of_methodNamed Bd.named Bd.method).1
  have X0 : Stand p l e ({ frames := 2, cells := 5, slots := 229, locals := 34 } : Room) s m #[(.long qm), (.int 1)] below meth c s₁ [] 0 0 := Stand.of_body Bd
  have e0 : s₁.heap = h0 := by rw [← hh, Bd.state]; rfl
  have N0 := Fr.nil n0
  have K0 : Keep h0 h0 [] := Keep.refl _ _
  suffices GO : ∀ P : Outcome → State → Prop, (∀ o U', (∃ v L, o = .returned v ∧ Q9o Z qm h0 n0 v U'.heap L ∧ FrameEnd s o U' L ({ frames := 2, cells := 5, slots := 229, locals := 34 } : Room).cells ({ frames := 2, cells := 5, slots := 229, locals := 34 } : Room).slots) → P o U') → Go p.tables e below P s₁ (mkF m 0 #[.val (.long qm), .second, .val (.int 1), .unset, .unset, .unset, .unset, .unset, .unset, .unset, .unset, .unset, .unset, .unset, .unset, .unset, .unset] []) by
    obtain ⟨s2, o, st, r⟩ := GO _ (fun _ _ q => q)
    exact ⟨s2, o, castTop (ef_9o m qm) st, r⟩
  clear hh
  intro P hP
  show Go p.tables e below P s₁ (mkF m 0 #[vj qm, v2, vi 1, vu, vu, vu, vu, vu, vu, vu, vu, vu, vu, vu, vu, vu, vu] [])
  refine gv (fun t k => XS.lloadN X0.here hx rfl (hb hby d9_0) rfl k) ?_
  obtain ⟨_, _, ⟨T1, L1, k1, n1⟩, -, X1, ⟨Lc1, hQ1, l1, y1, z1⟩, st1⟩ := Jvm.LawKit.callS X0 hx (y := (⟨"java/lang/Long", "bitCount", "(J)I"⟩ : MethodName)) hown (mvT hZ (own_g hw 71 rfl)) (mvT hZ (own_g hw 72 rfl)) (mvT hZ (own_g hw 73 rfl)) (mvT hZ (own_g hw 74 rfl)) (by decide) (backOf (W := 0) (rm10 l Z a0 hw [] qm h0 n0 Z0 ) hZ (own_g hw 74 rfl) (own_g hw 73 rfl) (by decide) (by decide)) (g := (mkF m 1 #[vj qm, v2, vi 1, vu, vu, vu, vu, vu, vu, vu, vu, vu, vu, vu, vu, vu, vu] [(.long qm)])) rfl (by rw [hml]; rfl) (argsL := [(.long qm)]) (rest := []) (lenOf own_pd2 rfl) rfl (by show 2 * 0 + _ ≤ _; exact Nat.le_of_eq rfl) (hb hby d9_1) (fun _ _ => ⟨rfl, e0, (by decide : 0 + 0 ≤ _), (by decide : 0 + 0 ≤ _)⟩)
  dsimp only [Pt.U, Pt.locs, Pt.cells, Pt.slots] at X1 l1 y1 z1 st1 hQ1
  subst l1 y1 z1
  obtain ⟨rfl, Nq1, hh1⟩ := hQ1
  obtain ⟨lc1, Xh1, N1⟩ := own_hide X1 (Fr.app N0 Nq1)
  clear X1
  refine gv st1 ?_
  show Go p.tables e below P T1 (mkF m 4 #[vj qm, v2, vi 1, vu, vu, vu, vu, vu, vu, vu, vu, vu, vu, vu, vu, vu, vu] [(.int (own_bc qm))])
  rw [hbc]
  refine gv (fun t k => XS.istoreN Xh1.here hx rfl (hb hby d9_4) rfl (l' := #[vj qm, v2, vi 1, vi 32, vu, vu, vu, vu, vu, vu, vu, vu, vu, vu, vu, vu, vu]) rfl k) ?_
  refine gv (fun t k => XS.lloadN Xh1.here hx rfl (hb hby d9_5) rfl k) ?_
  obtain ⟨_, _, ⟨T2, L2, k2, n2⟩, -, X2, ⟨Lc2, hQ2, l2, y2, z2⟩, st2⟩ := Jvm.LawKit.callS Xh1 hx (y := (⟨"java/lang/Long", "numberOfTrailingZeros", "(J)I"⟩ : MethodName)) hown (mvT hZ (own_g hw 78 rfl)) (mvT hZ (own_g hw 79 rfl)) (mvT hZ (own_g hw 73 rfl)) (mvT hZ (own_g hw 80 rfl)) (by decide) (backOf (W := 0) (rm11 l Z a0 hw [] qm h0 n0 Z0 ) hZ (own_g hw 80 rfl) (own_g hw 73 rfl) (by decide) (by decide)) (g := (mkF m 6 #[vj qm, v2, vi 1, vi 32, vu, vu, vu, vu, vu, vu, vu, vu, vu, vu, vu, vu, vu] [(.long qm)])) rfl (by rw [hml]; rfl) (argsL := [(.long qm)]) (rest := []) (lenOf own_pd2 rfl) rfl (by show 2 * 0 + _ ≤ _; exact Nat.le_of_eq rfl) (hb hby d9_6) (fun _ _ => ⟨rfl, hh1, (by decide : 0 + 0 ≤ _), (by decide : 0 + 0 ≤ _)⟩)
  dsimp only [Pt.U, Pt.locs, Pt.cells, Pt.slots] at X2 l2 y2 z2 st2 hQ2
  subst l2 y2 z2
  obtain ⟨qr_2, rfl, Nq2, hh2⟩ := hQ2
  obtain ⟨lc2, Xh2, N2⟩ := own_hide X2 (Fr.app N1 Nq2)
  clear X2
  refine gv st2 ?_
  refine gv (fun t k => XS.istore Xh2.here hx rfl (hb hby d9_9) rfl (l' := #[vj qm, v2, vi 1, vi 32, vi qr_2, vu, vu, vu, vu, vu, vu, vu, vu, vu, vu, vu, vu]) rfl k) ?_
  refine gv (fun t k => XS.iloadN Xh2.here hx rfl (hb hby d9_11) rfl k) ?_
  refine gv (fun t k => XS.iloadN Xh2.here hx rfl (hb hby d9_12) rfl k) ?_
  obtain ⟨_, _, ⟨T3, L3, k3, n3⟩, -, X3, ⟨Lc3, hQ3, l3, y3, z3⟩, st3⟩ := Jvm.LawKit.callS Xh2 hx (y := (⟨BLn, "keysWithin", "(II)J"⟩ : MethodName)) hown (mvT hZ (own_g hw 85 rfl)) (mvT hZ (own_g hw 86 rfl)) (mvT hZ (own_g hw 11 rfl)) (mvT hZ (own_g hw 87 rfl)) (by decide) (backOf (W := 0) (rm13o l Z a0 hw []  h0 n0 Z0 ) hZ (own_g hw 87 rfl) (own_g hw 11 rfl) (by decide) (by decide)) (g := (mkF m 13 #[vj qm, v2, vi 1, vi 32, vi qr_2, vu, vu, vu, vu, vu, vu, vu, vu, vu, vu, vu, vu] [(.int 1), (.int 32)])) rfl (by rw [hml]; rfl) (argsL := [(.int 32), (.int 1)]) (rest := []) (lenOf own_pd4 rfl) rfl (by show 2 * 0 + _ ≤ _; exact Nat.le_of_eq rfl) (hb hby d9_13) (fun _ _ => ⟨rfl, hh2, (by decide : 0 + 2 ≤ _), (by decide : 0 + 130 ≤ _)⟩)
  dsimp only [Pt.U, Pt.locs, Pt.cells, Pt.slots] at X3 l3 y3 z3 st3 hQ3
  subst l3 y3 z3
  obtain ⟨rfl, Nq3, K3⟩ := hQ3
  obtain ⟨lc3, Xh3, N3⟩ := own_hide X3 (Fr.app N2 Nq3)
  clear X3
  refine gv st3 ?_
  have Z4 := Nat.le_trans Z0 K3.1
  have K5 := K0.trans K3 own_all0
  refine gv (fun t k => XS.l2i Xh3.here hx rfl (hb hby d9_16) rfl k) ?_
  show Go p.tables e below P T3 (mkF m 17 #[vj qm, v2, vi 1, vi 32, vi qr_2, vu, vu, vu, vu, vu, vu, vu, vu, vu, vu, vu, vu] [(.int ((33 : Int64).toInt32))])
  rw [show (33 : Int64).toInt32 = (33 : Int32) from rfl]
  obtain ⟨T6, h6, k6, X6, e6, E6, A6, B6, st6⟩ := newPE Xh3 hx hZ (own_g hw 21 rfl) rfl (g := (mkF m 17 #[vj qm, v2, vi 1, vi 32, vi qr_2, vu, vu, vu, vu, vu, vu, vu, vu, vu, vu, vu, vu] [(.int 33)])) rfl (hb hby d9_17) rfl (by decide) (cap := 33) (by decide) (by decide) (by decide) (by decide) (ad := "[J") (by decide)
  obtain ⟨b6, g6⟩ : ∃ z, z = T3.heap.size := ⟨_, rfl⟩
  rw [← g6] at A6 B6 st6
  refine gv st6 ?_
  have g7 := Nat.le_trans Z4 (Nat.le_of_eq g6.symm)
  have sz8 := Nat.le_trans K5.1 (Nat.le_of_eq g6.symm)
  have Z9 := Nat.le_trans Z4 E6.1
  have K10 := K5.ext E6
  have V6 : Arv Z h6 b6 k6 .long (33 : Int32) (List.replicate 33 (.long 0)) (.long 0) := (Arv.new A6 (by decide)).pad (pad_rep [] (.long 0) 33)
  refine gv (fun t k => XS.astore X6.here hx rfl (hb hby d9_19) rfl rfl (l' := #[vj qm, v2, vi 1, vi 32, vi qr_2, vr b6, vu, vu, vu, vu, vu, vu, vu, vu, vu, vu, vu]) rfl k) ?_
  refine gv (fun t k => XS.iconst X6.here hx rfl (hb hby d9_21) k) ?_
  refine gv (fun t k => XS.istore X6.here hx rfl (hb hby d9_22) rfl (l' := #[vj qm, v2, vi 1, vi 32, vi qr_2, vr b6, vi 1, vu, vu, vu, vu, vu, vu, vu, vu, vu, vu]) rfl k) ?_
  refine gv (fun t k => XS.iconst X6.here hx rfl (hb hby d9_24) k) ?_
  refine gv (fun t k => XS.istore X6.here hx rfl (hb hby d9_25) rfl (l' := #[vj qm, v2, vi 1, vi 32, vi qr_2, vr b6, vi 1, vi 1, vu, vu, vu, vu, vu, vu, vu, vu, vu]) rfl k) ?_
  refine gv (fun t k => XS.iload X6.here hx rfl (hb hby d9_27) rfl k) ?_
  refine gv (fun t k => XS.iloadN X6.here hx rfl (hb hby d9_29) rfl k) ?_
  refine gv (fun t k => XS.icmpNo X6.here hx rfl (hb hby d9_30) rfl (flt (by decide : ¬ ((1 : Int32) < (1 : Int32)))).2.2.1 k) ?_
  show Go p.tables e below P T6 (mkF m 33 #[vj qm, v2, vi 1, vi 32, vi qr_2, vr b6, vi 1, vi 1, vu, vu, vu, vu, vu, vu, vu, vu, vu] [])
  refine gv (fun t k => XS.iload X6.here hx rfl (hb hby d9_33) rfl k) ?_
  obtain ⟨T11, h11, k11, X11, e11, E11, A11, B11, st11⟩ := newPE X6 hx hZ (own_g hw 1 rfl) e6 (g := (mkF m 35 #[vj qm, v2, vi 1, vi 32, vi qr_2, vr b6, vi 1, vi 1, vu, vu, vu, vu, vu, vu, vu, vu, vu] [(.int 1)])) rfl (hb hby d9_35) rfl (by decide) (cap := 1) (by decide) (by decide) (by decide) (by decide) (ad := "[I") (by decide)
  obtain ⟨b11, g11⟩ : ∃ z, z = h6.size := ⟨_, rfl⟩
  rw [← g11] at A11 B11 st11
  refine gv st11 ?_
  have ne12 := Nat.ne_of_lt (Nat.lt_of_lt_of_le B6.lt (Nat.le_of_eq g11.symm))
  have g13 := Nat.le_trans Z9 (Nat.le_of_eq g11.symm)
  have sz14 := Nat.le_trans K10.1 (Nat.le_of_eq g11.symm)
  have Z15 := Nat.le_trans Z9 E11.1
  have K16 := K10.ext E11
  have V11 : Arv Z h11 b11 k11 .int (1 : Int32) [(.int 0)] (.int 0) := (Arv.new A11 (by decide)).pad (pad_rep [] (.int 0) 1)
  refine gv (fun t k => XS.astore X11.here hx rfl (hb hby d9_37) rfl rfl (l' := #[vj qm, v2, vi 1, vi 32, vi qr_2, vr b6, vi 1, vi 1, vr b11, vu, vu, vu, vu, vu, vu, vu, vu]) rfl k) ?_
  refine gv (fun t k => XS.iconst X11.here hx rfl (hb hby d9_39) k) ?_
  refine gv (fun t k => XS.istore X11.here hx rfl (hb hby d9_40) rfl (l' := #[vj qm, v2, vi 1, vi 32, vi qr_2, vr b6, vi 1, vi 1, vr b11, vi 0, vu, vu, vu, vu, vu, vu, vu]) rfl k) ?_
  refine gv (fun t k => XS.iload X11.here hx rfl (hb hby d9_42) rfl k) ?_
  refine gv (fun t k => XS.iload X11.here hx rfl (hb hby d9_44) rfl k) ?_
  refine gv (fun t k => XS.icmpNo X11.here hx rfl (hb hby d9_46) rfl (tlt (by decide : (0 : Int32) < (1 : Int32))).2.1 k) ?_
  refine gv (fun t k => XS.aload X11.here hx rfl (hb hby d9_49) rfl rfl k) ?_
  show Go p.tables e below P T11 (mkF m 51 #[vj qm, v2, vi 1, vi 32, vi qr_2, vr b6, vi 1, vi 1, vr b11, vi 0, vu, vu, vu, vu, vu, vu, vu] [(.ref b11)])
  refine gv (fun t k => XS.iload X11.here hx rfl (hb hby d9_51) rfl k) ?_
  refine gv (fun t k => XS.iload X11.here hx rfl (hb hby d9_53) rfl k) ?_
  obtain ⟨T17, h17, lc17, X17, e17, N17, Z17, K17, W17, V17, st17⟩ := own_stI X11 hx hZ e11 V11 N3 Z15 K16 g13 (Or.inr sz14) (j := (0 : Int32)) ⟨by decide, by decide⟩ (ji := 0) rfl (Nat.le_of_ble_eq_true rfl) (g := (mkF m 55 #[vj qm, v2, vi 1, vi 32, vi qr_2, vr b6, vi 1, vi 1, vr b11, vi 0, vu, vu, vu, vu, vu, vu, vu] [(.int 0), (.int 0), (.ref b11)])) rfl rfl (hb hby d9_55)
  refine gv st17 ?_
  refine gv (fun t k => XS.iinc X17.here hx rfl (hb hby d9_56) rfl (l' := #[vj qm, v2, vi 1, vi 32, vi qr_2, vr b6, vi 1, vi 1, vr b11, vi ((0 : Int32) + (1 : Int32)), vu, vu, vu, vu, vu, vu, vu]) rfl k) ?_
  refine gv (fun t k => XS.goto X17.here hx rfl (pc0 := 59) (pc' := 42) rfl (hb hby d9_59) (by decide) (by decide) k) ?_
  refine gv (fun t k => XS.iload X17.here hx rfl (hb hby d9_42) rfl k) ?_
  refine gv (fun t k => XS.iload X17.here hx rfl (hb hby d9_44) rfl k) ?_
  refine gv (fun t k => XS.icmpYes X17.here hx rfl (pc0 := 46) (pc' := 62) rfl (hb hby d9_46) rfl (flt (by decide : ¬ (((0 : Int32) + (1 : Int32)) < (1 : Int32)))).2.1 (by decide) (by decide) k) ?_
  refine gv (fun t k => XS.iloadN X17.here hx rfl (hb hby d9_62) rfl k) ?_
  show Go p.tables e below P T17 (mkF m 63 #[vj qm, v2, vi 1, vi 32, vi qr_2, vr b6, vi 1, vi 1, vr b11, vi ((0 : Int32) + (1 : Int32)), vu, vu, vu, vu, vu, vu, vu] [(.int 32)])
  refine gv (fun t k => XS.iload X17.here hx rfl (hb hby d9_63) rfl k) ?_
  obtain ⟨_, _, ⟨T18, L18, k18, n18⟩, -, X18, ⟨Lc18, hQ18, l18, y18, z18⟩, st18⟩ := Jvm.LawKit.callS X17 hx (y := (⟨BLn, "binomial", "(II)J"⟩ : MethodName)) hown (mvT hZ (own_g hw 18 rfl)) (mvT hZ (own_g hw 19 rfl)) (mvT hZ (own_g hw 11 rfl)) (mvT hZ (own_g hw 20 rfl)) (by decide) (backOf (W := 0) (rm5 l Z a0 hw [] (32 : Int32) (1 : Int32) 32 1 h17 n0 Z17 (by decide) (by decide) (by first | assumption | decide | omega) (by first | assumption | decide | omega)) hZ (own_g hw 20 rfl) (own_g hw 11 rfl) (by decide) (by decide)) (g := (mkF m 65 #[vj qm, v2, vi 1, vi 32, vi qr_2, vr b6, vi 1, vi 1, vr b11, vi ((0 : Int32) + (1 : Int32)), vu, vu, vu, vu, vu, vu, vu] [(.int 1), (.int 32)])) rfl (by rw [hml]; rfl) (argsL := [(.int 32), (.int 1)]) (rest := []) (lenOf own_pd4 rfl) rfl (by show 2 * 0 + _ ≤ _; exact Nat.le_of_eq rfl) (hb hby d9_65) (fun _ _ => ⟨rfl, e17, (by decide : 4 + 1 ≤ _), (by decide : 164 + 65 ≤ _)⟩)
  dsimp only [Pt.U, Pt.locs, Pt.cells, Pt.slots] at X18 l18 y18 z18 st18 hQ18
  subst l18 y18 z18
  obtain ⟨rfl, Nq18, K18⟩ := hQ18
  obtain ⟨lc18, Xh18, N18⟩ := own_hide X18 (Fr.app N17 Nq18)
  clear X18
  refine gv st18 ?_
  have Z19 := Nat.le_trans Z17 K18.1
  have K20 := K17.trans K18 own_all0
  show Go p.tables e below P T18 (mkF m 68 #[vj qm, v2, vi 1, vi 32, vi qr_2, vr b6, vi 1, vi 1, vr b11, vi ((0 : Int32) + (1 : Int32)), vu, vu, vu, vu, vu, vu, vu] [(.long (own_bin 32 1))])
  rw [show own_bin 32 1 = (32 : Int64) from own_bin1 32]
  refine gv (fun t k => XS.lstore Xh18.here hx rfl (hb hby d9_68) rfl (l' := #[vj qm, v2, vi 1, vi 32, vi qr_2, vr b6, vi 1, vi 1, vr b11, vj 32, v2, vu, vu, vu, vu, vu, vu]) rfl k) ?_
  have LP21 : ∀ (k21 : Nat) (T21 : State) (locs21 : List Loc) (hp21 : Heap) (i : Nat) (x9 : Int64) (x6 : Int32) (dl : List Value) (cl : List Int32) (s21_13 : Slot) (s21_14 : Slot) (s21_15 : Slot) (s21_16 : Slot) (s21_11 : Slot) (s21_12 : Slot), Stand p l e ({ frames := 2, cells := 5, slots := 229, locals := 34 } : Room) s m #[(.long qm), (.int 1)] below meth c T21 locs21 5 229 → T21.heap = hp21 → Fr n0 locs21 → n0 ≤ hp21.size → Keep h0 hp21 [] → Arv Z hp21 b6 k6 .long (33 : Int32) dl (.long 0) → Arv Z hp21 b11 k11 .int (1 : Int32) (cl.map Value.int) (.int 0) → Exa Z hp21 b6 "[J" → i ≤ 32 → x9.toInt = 32 - (i : Int) → x6 = (1 + i).toInt32 → dl.length = 33 → cl.length = 1 → (s21_13 = .unset ∨ ∃ w, s21_13 = .val w ∧ w.category = 1) → (s21_14 = .unset ∨ ∃ w, s21_14 = .val w ∧ w.category = 1) → (s21_15 = .unset ∨ ∃ w, s21_15 = .val w ∧ w.category = 1) → (s21_16 = .unset ∨ ∃ w, s21_16 = .val w ∧ w.category = 1) → ((s21_11 = .unset ∧ s21_12 = .unset) ∨ ∃ w, s21_11 = .val (.long w) ∧ s21_12 = .second) → 32 - i < k21 → Go p.tables e below P T21 (mkF m 70 #[.val (.long qm), .second, .val (.int 1), .val (.int 32), .val (.int qr_2), .val (.ref b6), .val (.int x6), .val (.int 1), .val (.ref b11), .val (.long x9), .second, s21_11, s21_12, s21_13, s21_14, s21_15, s21_16] []) := by
    intro k21
    induction k21 with
    | zero => intros; rename_i hk; exact absurd hk (Nat.not_lt_zero _)
    | succ k21 ih21 =>
      intro T21 locs21 hp21 i x9 x6 dl cl s21_13 s21_14 s21_15 s21_16 s21_11 s21_12 X21 e21 N21 Z21 K21 F21_0 F21_1 F21_2 hi hx9 hx6 hdl hcl1 hos21_13 hos21_14 hos21_15 hos21_16 hos21_11 hk
      show Go p.tables e below P T21 (mkF m 70 #[vj qm, v2, vi 1, vi 32, vi qr_2, vr b6, vi x6, vi 1, vr b11, vj x9, v2, s21_11, s21_12, s21_13, s21_14, s21_15, s21_16] [])
      refine gv (fun t k => XS.lload X21.here hx rfl (hb hby d9_70) rfl k) ?_
      refine gv (fun t k => XS.lconst X21.here hx rfl (hb hby d9_72) k) ?_
      refine gv (fun t k => XS.lcmp X21.here hx rfl (hb hby d9_73) rfl k) ?_
      by_cases hc22 : (0 : Int32) < (lcmpW x9 (0 : Int64))
      · refine gv (fun t k => XS.ifNo X21.here hx rfl (hb hby d9_74) rfl ((if0 _ _).trans (tlt hc22).2.2.2) k) ?_
        have hlt : i < 32 := by have q := hc22; rw [lw_gt, Int64.lt_iff_toInt_lt, hx9] at q; have e1 : (0 : Int64).toInt = 0 := rfl; omega
        refine gv (fun t k => XS.lconst X21.here hx rfl (hb hby d9_77) k) ?_
        refine gv (fun t k => XS.lstore X21.here hx rfl (hb hby d9_78) rfl (l' := #[vj qm, v2, vi 1, vi 32, vi qr_2, vr b6, vi x6, vi 1, vr b11, vj x9, v2, vj 0, v2, s21_13, s21_14, s21_15, s21_16]) (by rcases hos21_11 with ⟨q6, q7⟩ | ⟨w, q6, q7⟩ <;> subst q6 q7 <;> rfl) k) ?_
        refine gv (fun t k => XS.aload X21.here hx rfl (hb hby d9_80) rfl rfl k) ?_
        refine gv (fun t k => XS.astore X21.here hx rfl (hb hby d9_82) rfl rfl (l' := #[vj qm, v2, vi 1, vi 32, vi qr_2, vr b6, vi x6, vi 1, vr b11, vj x9, v2, vj 0, v2, vr b11, s21_14, s21_15, s21_16]) (XS.store1 rfl hos21_13 rfl) k) ?_
        refine gv (fun t k => XS.aload X21.here hx rfl (hb hby d9_84) rfl rfl k) ?_
        show Go p.tables e below P T21 (mkF m 86 #[vj qm, v2, vi 1, vi 32, vi qr_2, vr b6, vi x6, vi 1, vr b11, vj x9, v2, vj 0, v2, vr b11, s21_14, s21_15, s21_16] [(.ref b11)])
        obtain ⟨c23, A23, -, S23, N23, -, -⟩ := id F21_1
        refine gv (fun t k => X21.arraylength hx (by rw [e21]; exact A23.1) (State.isArrayOf_alike hZ.alike A23.2.1) (g := (mkF m 86 #[vj qm, v2, vi 1, vi 32, vi qr_2, vr b6, vi x6, vi 1, vr b11, vj x9, v2, vj 0, v2, vr b11, s21_14, s21_15, s21_16] [(.ref b11)])) rfl rfl (hb hby d9_86) t (by rw [len_of S23 N23]; exact k)) ?_
        refine gv (fun t k => XS.istore X21.here hx rfl (hb hby d9_87) rfl (l' := #[vj qm, v2, vi 1, vi 32, vi qr_2, vr b6, vi x6, vi 1, vr b11, vj x9, v2, vj 0, v2, vr b11, vi 1, s21_15, s21_16]) (XS.store1 rfl hos21_14 rfl) k) ?_
        refine gv (fun t k => XS.iconst X21.here hx rfl (hb hby d9_89) k) ?_
        refine gv (fun t k => XS.istore X21.here hx rfl (hb hby d9_90) rfl (l' := #[vj qm, v2, vi 1, vi 32, vi qr_2, vr b6, vi x6, vi 1, vr b11, vj x9, v2, vj 0, v2, vr b11, vi 1, vi 0, s21_16]) (XS.store1 rfl hos21_15 rfl) k) ?_
        refine gv (fun t k => XS.iload X21.here hx rfl (hb hby d9_92) rfl k) ?_
        refine gv (fun t k => XS.iload X21.here hx rfl (hb hby d9_94) rfl k) ?_
        refine gv (fun t k => XS.icmpNo X21.here hx rfl (hb hby d9_96) rfl (tlt (by decide : (0 : Int32) < (1 : Int32))).2.1 k) ?_
        refine gv (fun t k => XS.aload X21.here hx rfl (hb hby d9_99) rfl rfl k) ?_
        refine gv (fun t k => XS.iload X21.here hx rfl (hb hby d9_101) rfl k) ?_
        show Go p.tables e below P T21 (mkF m 103 #[vj qm, v2, vi 1, vi 32, vi qr_2, vr b6, vi x6, vi 1, vr b11, vj x9, v2, vj 0, v2, vr b11, vi 1, vi 0, s21_16] [(.int 0), (.ref b11)])
        obtain ⟨c24, A24, q24, S24, N24, H24, G24⟩ := id F21_1
        have hin24 : ¬ ((0 : Int32) < 0 ∨ c24.slots.size ≤ ((0 : Int32)).toNatClampNeg) := inb_of S24 ⟨by decide, by decide⟩
        have hat24 : c24.slots[((0 : Int32)).toNatClampNeg]? = some (.int (cl.getD 0 0)) := (H24 _ (Nat.lt_of_not_le fun q => hin24 (Or.inr q))).trans (congrArg some (own_getDI cl 0))
        refine gv (fun t k => X21.iaload hx (j := (0 : Int32)) (v := (.int (cl.getD 0 0))) (by rw [e21]; exact A24.1) (State.isArrayOf_alike hZ.alike A24.2.1) A24.2.2 hin24 hat24 (g := (mkF m 103 #[vj qm, v2, vi 1, vi 32, vi qr_2, vr b6, vi x6, vi 1, vr b11, vj x9, v2, vj 0, v2, vr b11, vi 1, vi 0, s21_16] [(.int 0), (.ref b11)])) rfl rfl (hb hby d9_103) t k) ?_
        refine gv (fun t k => XS.istore X21.here hx rfl (hb hby d9_104) rfl (l' := #[vj qm, v2, vi 1, vi 32, vi qr_2, vr b6, vi x6, vi 1, vr b11, vj x9, v2, vj 0, v2, vr b11, vi 1, vi 0, vi (cl.getD 0 0)]) (XS.store1 rfl hos21_16 rfl) k) ?_
        refine gv (fun t k => XS.lload X21.here hx rfl (hb hby d9_106) rfl k) ?_
        refine gv (fun t k => XS.lconst X21.here hx rfl (hb hby d9_108) k) ?_
        refine gv (fun t k => XS.iload X21.here hx rfl (hb hby d9_109) rfl k) ?_
        refine gv (fun t k => XS.iload X21.here hx rfl (hb hby d9_111) rfl k) ?_
        refine gv (fun t k => XS.iadd X21.here hx rfl (hb hby d9_113) rfl k) ?_
        refine gv (fun t k => XS.lshl X21.here hx rfl (hb hby d9_114) rfl k) ?_
        refine gv (fun t k => XS.lor X21.here hx rfl (hb hby d9_115) rfl k) ?_
        show Go p.tables e below P T21 (mkF m 116 #[vj qm, v2, vi 1, vi 32, vi qr_2, vr b6, vi x6, vi 1, vr b11, vj x9, v2, vj 0, v2, vr b11, vi 1, vi 0, vi (cl.getD 0 0)] [(.long ((0 : Int64) ||| ((1 : Int64) <<< ((qr_2 + (cl.getD 0 0)) &&& 0x3f).toInt64)))])
        refine gv (fun t k => XS.lstore X21.here hx rfl (hb hby d9_116) rfl (l' := #[vj qm, v2, vi 1, vi 32, vi qr_2, vr b6, vi x6, vi 1, vr b11, vj x9, v2, vj ((0 : Int64) ||| ((1 : Int64) <<< ((qr_2 + (cl.getD 0 0)) &&& 0x3f).toInt64)), v2, vr b11, vi 1, vi 0, vi (cl.getD 0 0)]) rfl k) ?_
        refine gv (fun t k => XS.iinc X21.here hx rfl (hb hby d9_118) rfl (l' := #[vj qm, v2, vi 1, vi 32, vi qr_2, vr b6, vi x6, vi 1, vr b11, vj x9, v2, vj ((0 : Int64) ||| ((1 : Int64) <<< ((qr_2 + (cl.getD 0 0)) &&& 0x3f).toInt64)), v2, vr b11, vi 1, vi ((0 : Int32) + (1 : Int32)), vi (cl.getD 0 0)]) rfl k) ?_
        refine gv (fun t k => XS.goto X21.here hx rfl (pc0 := 121) (pc' := 92) rfl (hb hby d9_121) (by decide) (by decide) k) ?_
        refine gv (fun t k => XS.iload X21.here hx rfl (hb hby d9_92) rfl k) ?_
        refine gv (fun t k => XS.iload X21.here hx rfl (hb hby d9_94) rfl k) ?_
        refine gv (fun t k => XS.icmpYes X21.here hx rfl (pc0 := 96) (pc' := 124) rfl (hb hby d9_96) rfl (flt (by decide : ¬ (((0 : Int32) + (1 : Int32)) < (1 : Int32)))).2.1 (by decide) (by decide) k) ?_
        refine gv (fun t k => XS.aload X21.here hx rfl (hb hby d9_124) rfl rfl k) ?_
        refine gv (fun t k => XS.iload X21.here hx rfl (hb hby d9_126) rfl k) ?_
        refine gv (fun t k => XS.lload X21.here hx rfl (hb hby d9_128) rfl k) ?_
        show Go p.tables e below P T21 (mkF m 130 #[vj qm, v2, vi 1, vi 32, vi qr_2, vr b6, vi x6, vi 1, vr b11, vj x9, v2, vj ((0 : Int64) ||| ((1 : Int64) <<< ((qr_2 + (cl.getD 0 0)) &&& 0x3f).toInt64)), v2, vr b11, vi 1, vi ((0 : Int32) + (1 : Int32)), vi (cl.getD 0 0)] [(.long ((0 : Int64) ||| ((1 : Int64) <<< ((qr_2 + (cl.getD 0 0)) &&& 0x3f).toInt64))), (.int x6), (.ref b6)])
        obtain ⟨T25, h25, lc25, X25, e25, N25, Z25, K25, W25, V25, st25⟩ := own_stJ X21 hx hZ e21 F21_0 N21 Z21 K21 g7 (Or.inr sz8) (j := x6) ⟨by rw [hx6]; exact own_nneg (by omega), by rw [hx6]; exact (own_ltN (n := 33) (by omega) (by omega)).mpr (by omega)⟩ (ji := (1 + i)) (by rw [hx6, own_clamp (by omega)]) (by rw [hdl]; omega) (g := (mkF m 130 #[vj qm, v2, vi 1, vi 32, vi qr_2, vr b6, vi x6, vi 1, vr b11, vj x9, v2, vj ((0 : Int64) ||| ((1 : Int64) <<< ((qr_2 + (cl.getD 0 0)) &&& 0x3f).toInt64)), v2, vr b11, vi 1, vi ((0 : Int32) + (1 : Int32)), vi (cl.getD 0 0)] [(.long ((0 : Int64) ||| ((1 : Int64) <<< ((qr_2 + (cl.getD 0 0)) &&& 0x3f).toInt64))), (.int x6), (.ref b6)])) rfl rfl (hb hby d9_130)
        refine gv st25 ?_
        refine gv (fun t k => XS.iinc X25.here hx rfl (hb hby d9_131) rfl (l' := #[vj qm, v2, vi 1, vi 32, vi qr_2, vr b6, vi (x6 + (1 : Int32)), vi 1, vr b11, vj x9, v2, vj ((0 : Int64) ||| ((1 : Int64) <<< ((qr_2 + (cl.getD 0 0)) &&& 0x3f).toInt64)), v2, vr b11, vi 1, vi ((0 : Int32) + (1 : Int32)), vi (cl.getD 0 0)]) rfl k) ?_
        refine gv (fun t k => XS.aload X25.here hx rfl (hb hby d9_134) rfl rfl k) ?_
        refine gv (fun t k => XS.iloadN X25.here hx rfl (hb hby d9_136) rfl k) ?_
        have F26 := (F21_1.other W25 (Ne.symm ne12))
        obtain ⟨_, _, ⟨T27, L27, k27, n27⟩, -, X27, ⟨Lc27, hQ27, l27, y27, z27⟩, st27⟩ := Jvm.LawKit.callS X25 hx (y := (⟨BLn, "nextChoice", "([II)V"⟩ : MethodName)) hown (mvT hZ (own_g hw 89 rfl)) (mvT hZ (own_g hw 90 rfl)) (mvT hZ (own_g hw 11 rfl)) (mvT hZ (own_g hw 91 rfl)) (by decide) (backOf (W := 0) (rm14 l Z a0 hw [] b11 (32 : Int32) k11 1 cl h25 n0 Z25 F26 (by first | assumption | decide | omega) (by first | assumption | decide | omega) (by rw [hcl1]; exact Nat.le_refl _) g13) hZ (own_g hw 91 rfl) (own_g hw 11 rfl) (by decide) (by decide)) (g := (mkF m 137 #[vj qm, v2, vi 1, vi 32, vi qr_2, vr b6, vi (x6 + (1 : Int32)), vi 1, vr b11, vj x9, v2, vj ((0 : Int64) ||| ((1 : Int64) <<< ((qr_2 + (cl.getD 0 0)) &&& 0x3f).toInt64)), v2, vr b11, vi 1, vi ((0 : Int32) + (1 : Int32)), vi (cl.getD 0 0)] [(.int 32), (.ref b11)])) rfl (by rw [hml]; rfl) (argsL := [(.ref b11), (.int 32)]) (rest := []) (lenOf own_pd5 rfl) rfl (by show 2 * 0 + _ ≤ _; exact Nat.le_of_eq rfl) (hb hby d9_137) (fun _ _ => ⟨rfl, e25, (by decide : 5 + 0 ≤ _), (by decide : 229 + 0 ≤ _)⟩)
        dsimp only [Pt.U, Pt.locs, Pt.cells, Pt.slots] at X27 l27 y27 z27 st27 hQ27
        subst l27 y27 z27
        obtain ⟨rfl, Nq27, K27, u27_0⟩ := hQ27
        obtain ⟨lc27, Xh27, N27⟩ := own_hide X27 (Fr.app N25 Nq27)
        clear X27
        refine gv st27 ?_
        have Z28 := Nat.le_trans Z25 K27.1
        have K29 := K25.trans K27 (own_allC (Or.inr sz14) own_all0)
        refine gv (fun t k => XS.lload Xh27.here hx rfl (hb hby d9_140) rfl k) ?_
        refine gv (fun t k => XS.lconst Xh27.here hx rfl (hb hby d9_142) k) ?_
        refine gv (fun t k => XS.lsub Xh27.here hx rfl (hb hby d9_143) rfl k) ?_
        refine gv (fun t k => XS.lstore Xh27.here hx rfl (hb hby d9_144) rfl (l' := #[vj qm, v2, vi 1, vi 32, vi qr_2, vr b6, vi (x6 + (1 : Int32)), vi 1, vr b11, vj (x9 - (1 : Int64)), v2, vj ((0 : Int64) ||| ((1 : Int64) <<< ((qr_2 + (cl.getD 0 0)) &&& 0x3f).toInt64)), v2, vr b11, vi 1, vi ((0 : Int32) + (1 : Int32)), vi (cl.getD 0 0)]) rfl k) ?_
        show Go p.tables e below P T27 (mkF m 146 #[vj qm, v2, vi 1, vi 32, vi qr_2, vr b6, vi (x6 + (1 : Int32)), vi 1, vr b11, vj (x9 - (1 : Int64)), v2, vj ((0 : Int64) ||| ((1 : Int64) <<< ((qr_2 + (cl.getD 0 0)) &&& 0x3f).toInt64)), v2, vr b11, vi 1, vi ((0 : Int32) + (1 : Int32)), vi (cl.getD 0 0)] [])
        refine gv (fun t k => XS.goto Xh27.here hx rfl (pc0 := 146) (pc' := 70) rfl (hb hby d9_146) (by decide) (by decide) k) ?_
        have F30 := (V25.keep K27 (own_ninC ne12 own_nin0))
        have F31 := ((F21_2.wr W25).keep K27)
        exact ih21 T27 _ T27.heap (i + 1) (x9 - (1 : Int64)) (x6 + (1 : Int32)) (dl.set (1 + i) (.long ((0 : Int64) ||| ((1 : Int64) <<< ((qr_2 + (cl.getD 0 0)) &&& 0x3f).toInt64)))) (own_next cl (32 : Int32) 1) (.val (.ref b11)) (.val (.int 1)) (.val (.int ((0 : Int32) + (1 : Int32)))) (.val (.int (cl.getD 0 0))) (.val (.long ((0 : Int64) ||| ((1 : Int64) <<< ((qr_2 + (cl.getD 0 0)) &&& 0x3f).toInt64)))) .second Xh27 rfl N27 Z28 K29 F30 u27_0 F31 hlt (own_dec hx9) (by rw [hx6]; exact own_succ (1 + i)) (by rw [List.length_set]; exact hdl) (by rw [own_next_len]; exact hcl1) (Or.inr ⟨_, rfl, rfl⟩) (Or.inr ⟨_, rfl, rfl⟩) (Or.inr ⟨_, rfl, rfl⟩) (Or.inr ⟨_, rfl, rfl⟩) (Or.inr ⟨_, rfl, rfl⟩) (by omega)
      · refine gv (fun t k => XS.ifYes X21.here hx rfl (pc0 := 74) (pc' := 149) rfl (hb hby d9_74) rfl ((if0 _ _).trans (flt hc22).2.2.2) (by decide) (by decide) k) ?_
        refine gv (fun t k => XS.iinc X21.here hx rfl (hb hby d9_149) rfl (l' := #[vj qm, v2, vi 1, vi 32, vi qr_2, vr b6, vi x6, vi ((1 : Int32) + (1 : Int32)), vr b11, vj x9, v2, s21_11, s21_12, s21_13, s21_14, s21_15, s21_16]) rfl k) ?_
        refine gv (fun t k => XS.goto X21.here hx rfl (pc0 := 152) (pc' := 27) rfl (hb hby d9_152) (by decide) (by decide) k) ?_
        refine gv (fun t k => XS.iload X21.here hx rfl (hb hby d9_27) rfl k) ?_
        refine gv (fun t k => XS.iloadN X21.here hx rfl (hb hby d9_29) rfl k) ?_
        refine gv (fun t k => XS.icmpYes X21.here hx rfl (pc0 := 30) (pc' := 155) rfl (hb hby d9_30) rfl (tlt (by decide : (1 : Int32) < ((1 : Int32) + (1 : Int32)))).2.2.1 (by decide) (by decide) k) ?_
        refine gv (fun t k => XS.aload X21.here hx rfl (hb hby d9_155) rfl rfl k) ?_
        show Go p.tables e below P T21 (mkF m 157 #[vj qm, v2, vi 1, vi 32, vi qr_2, vr b6, vi x6, vi ((1 : Int32) + (1 : Int32)), vr b11, vj x9, v2, s21_11, s21_12, s21_13, s21_14, s21_15, s21_16] [(.ref b6)])
        obtain ⟨fs, hr, hrun, hended, hW, hsame⟩ := X21.leave (v := some (.ref b6)) (fun h => by rw [Bd.returns] at h; cases h)
        refine ⟨_, _, retA X21 hx Bd.returns rfl rfl rfl (hb hby d9_157) hr, hrun, hended, hP _ _ ⟨_, _, rfl, ?_, ⟨_, rfl⟩, hW, hsame.mono (by decide) (by decide)⟩⟩
        show Q9o Z qm h0 n0 _ T21.heap _
        rw [e21]
        exact ⟨b6, rfl, N21, K21, sz8, F21_2⟩
  have F33 := (((V6.ext E11).other W17 ne12).keep K18 own_nin0)
  have F34 := (V17.keep K18 own_nin0)
  have F35 := (((B6.ext E11).wr W17).keep K18)
  exact LP21 _ T18 _ T18.heap 0 (32 : Int64) (1 : Int32) (List.replicate 33 (.long 0)) [(0 : Int32)] .unset .unset .unset .unset .unset .unset Xh18 rfl N18 Z19 K20 F33 F34 F35 (Nat.zero_le _) (by decide) rfl (by first | rfl | simp) rfl (Or.inl rfl) (Or.inl rfl) (Or.inl rfl) (Or.inl rfl) (Or.inl ⟨rfl, rfl⟩) (Nat.lt_succ_self _)
theorem own_rn1_eq (cl : List Int32) (i rn : Nat) : (if i.toInt32 = (0 : Int32) then (rn.toInt32 + (1 : Int32)) else (if (cl.getD (i - 1) 0) = ((cl.getD i 0) - (1 : Int32)) then rn.toInt32 else (rn.toInt32 + (1 : Int32)))) = (own_rn1 cl i rn).toInt32 := by
  unfold own_rn1
  by_cases z0 : i.toInt32 = (0 : Int32)
  · rw [if_pos z0, if_pos z0]; exact own_succ rn
  · rw [if_neg z0, if_neg z0]
    by_cases z1 : cl.getD (i - 1) 0 = cl.getD i 0 - 1
    · rw [if_pos z1, if_pos z1]
    · rw [if_neg z1, if_neg z1]; exact own_succ rn
theorem own_gset {l : List Value} {i : Nat} {v d : Value} (h : i < l.length) : (l.set i v).getD i d = v := by
  simp [List.getD_eq_getElem?_getD, List.getElem?_set, h]
theorem own_gset_ne {l : List Value} {i j : Nat} {v d : Value} (h : ¬ i = j) : (l.set i v).getD j d = l.getD j d := by
  simp [List.getD_eq_getElem?_getD, List.getElem?_set, h]
theorem own_rep0 (n i : Nat) : (List.replicate n (0 : Int32)).getD i 0 = 0 := by
  rw [List.getD_eq_getElem?_getD, List.getElem?_replicate]; split <;> rfl
theorem own_l2i (x : Int32) : x.toInt64.toInt32 = x := by simp
theorem own_subN {a b d : Nat} (h : a = b + d) : a.toInt32 - b.toInt32 = d.toInt32 := by
  subst h; rw [show (b + d).toInt32 = b.toInt32 + d.toInt32 from Int32.ofNat_add b d, Int32.add_comm]; exact Int32.add_sub_cancel _ _
theorem own_pd6 : parseMethodDescriptor "(J)J" = some ⟨[.long], some .long⟩ := by decide +kernel
theorem own_pd7 : parseMethodDescriptor "([II)[I" = some ⟨[(.array .int), .int], some (.array .int)⟩ := by decide +kernel
theorem own_pd8 : parseMethodDescriptor "(JI)[J" = some ⟨[.long, .int], some (.array .long)⟩ := by decide +kernel
theorem d7_0 : D18 0 (.lconst 0) 1 := by decide +kernel
theorem d7_1 : D18 1 (.lstore 6) 2 := by decide +kernel
theorem d7_3 : D18 3 (.aload_n 2) 1 := by decide +kernel
theorem d7_4 : D18 4 (.astore 8) 2 := by decide +kernel
theorem d7_6 : D18 6 (.aload 8) 2 := by decide +kernel
theorem d7_8 : D18 8 (.arraylength) 1 := by decide +kernel
theorem d7_9 : D18 9 (.istore 9) 2 := by decide +kernel
theorem d7_11 : D18 11 (.iconst 0) 1 := by decide +kernel
theorem d7_12 : D18 12 (.istore 10) 2 := by decide +kernel
theorem d7_14 : D18 14 (.iload 10) 2 := by decide +kernel
theorem d7_16 : D18 16 (.iload 9) 2 := by decide +kernel
theorem d7_18 : D18 18 (.if_icmp .ge 25) 3 := by decide +kernel
theorem d7_21 : D18 21 (.aload 8) 2 := by decide +kernel
theorem d7_23 : D18 23 (.iload 10) 2 := by decide +kernel
theorem d7_25 : D18 25 (.iaload) 1 := by decide +kernel
theorem d7_26 : D18 26 (.istore 11) 2 := by decide +kernel
theorem d7_28 : D18 28 (.lload 6) 2 := by decide +kernel
theorem d7_30 : D18 30 (.aload_n 3) 1 := by decide +kernel
theorem d7_31 : D18 31 (.iload 11) 2 := by decide +kernel
theorem d7_33 : D18 33 (.laload) 1 := by decide +kernel
theorem d7_34 : D18 34 (.lor) 1 := by decide +kernel
theorem d7_35 : D18 35 (.lstore 6) 2 := by decide +kernel
theorem d7_37 : D18 37 (.iinc 10 1) 3 := by decide +kernel
theorem d7_40 : D18 40 (.goto (-26)) 3 := by decide +kernel
theorem d7_43 : D18 43 (.iconst 0) 1 := by decide +kernel
theorem d7_44 : D18 44 (.istore 8) 2 := by decide +kernel
theorem d7_46 : D18 46 (.aload_n 2) 1 := by decide +kernel
theorem d7_47 : D18 47 (.arraylength) 1 := by decide +kernel
theorem d7_48 : D18 48 (.newarray .int) 2 := by decide +kernel
theorem d7_50 : D18 50 (.astore 9) 2 := by decide +kernel
theorem d7_52 : D18 52 (.aload_n 2) 1 := by decide +kernel
theorem d7_53 : D18 53 (.arraylength) 1 := by decide +kernel
theorem d7_54 : D18 54 (.newarray .int) 2 := by decide +kernel
theorem d7_56 : D18 56 (.astore 10) 2 := by decide +kernel
theorem d7_58 : D18 58 (.iconst 0) 1 := by decide +kernel
theorem d7_59 : D18 59 (.istore 11) 2 := by decide +kernel
theorem d7_61 : D18 61 (.iload 11) 2 := by decide +kernel
theorem d7_63 : D18 63 (.aload_n 2) 1 := by decide +kernel
theorem d7_64 : D18 64 (.arraylength) 1 := by decide +kernel
theorem d7_65 : D18 65 (.if_icmp .ge 65) 3 := by decide +kernel
theorem d7_68 : D18 68 (.aload_n 2) 1 := by decide +kernel
theorem d7_69 : D18 69 (.iload 11) 2 := by decide +kernel
theorem d7_71 : D18 71 (.iaload) 1 := by decide +kernel
theorem d7_72 : D18 72 (.istore 12) 2 := by decide +kernel
theorem d7_74 : D18 74 (.iload 11) 2 := by decide +kernel
theorem d7_76 : D18 76 (.ifCond .eq 16) 3 := by decide +kernel
theorem d7_79 : D18 79 (.aload_n 2) 1 := by decide +kernel
theorem d7_80 : D18 80 (.iload 11) 2 := by decide +kernel
theorem d7_82 : D18 82 (.iconst 1) 1 := by decide +kernel
theorem d7_83 : D18 83 (.isub) 1 := by decide +kernel
theorem d7_84 : D18 84 (.iaload) 1 := by decide +kernel
theorem d7_85 : D18 85 (.iload 12) 2 := by decide +kernel
theorem d7_87 : D18 87 (.iconst 1) 1 := by decide +kernel
theorem d7_88 : D18 88 (.isub) 1 := by decide +kernel
theorem d7_89 : D18 89 (.if_icmp .eq 6) 3 := by decide +kernel
theorem d7_92 : D18 92 (.iinc 8 1) 3 := by decide +kernel
theorem d7_95 : D18 95 (.aload 9) 2 := by decide +kernel
theorem d7_97 : D18 97 (.iload 8) 2 := by decide +kernel
theorem d7_99 : D18 99 (.iconst 1) 1 := by decide +kernel
theorem d7_100 : D18 100 (.isub) 1 := by decide +kernel
theorem d7_101 : D18 101 (.aload 4) 2 := by decide +kernel
theorem d7_103 : D18 103 (.iload 12) 2 := by decide +kernel
theorem d7_105 : D18 105 (.iaload) 1 := by decide +kernel
theorem d7_106 : D18 106 (.iastore) 1 := by decide +kernel
theorem d7_107 : D18 107 (.aload 10) 2 := by decide +kernel
theorem d7_109 : D18 109 (.iload 8) 2 := by decide +kernel
theorem d7_111 : D18 111 (.iconst 1) 1 := by decide +kernel
theorem d7_112 : D18 112 (.isub) 1 := by decide +kernel
theorem d7_113 : D18 113 (.dup2) 1 := by decide +kernel
theorem d7_114 : D18 114 (.iaload) 1 := by decide +kernel
theorem d7_115 : D18 115 (.aload_n 0) 1 := by decide +kernel
theorem d7_116 : D18 116 (.getfield 43) 3 := by decide +kernel
theorem d7_119 : D18 119 (.iload 12) 2 := by decide +kernel
theorem d7_121 : D18 121 (.iaload) 1 := by decide +kernel
theorem d7_122 : D18 122 (.iadd) 1 := by decide +kernel
theorem d7_123 : D18 123 (.iastore) 1 := by decide +kernel
theorem d7_124 : D18 124 (.iinc 11 1) 3 := by decide +kernel
theorem d7_127 : D18 127 (.goto (-66)) 3 := by decide +kernel
theorem d7_130 : D18 130 (.aload_n 2) 1 := by decide +kernel
theorem d7_131 : D18 131 (.aload_n 2) 1 := by decide +kernel
theorem d7_132 : D18 132 (.arraylength) 1 := by decide +kernel
theorem d7_133 : D18 133 (.iconst 1) 1 := by decide +kernel
theorem d7_134 : D18 134 (.isub) 1 := by decide +kernel
theorem d7_135 : D18 135 (.iaload) 1 := by decide +kernel
theorem d7_136 : D18 136 (.istore 11) 2 := by decide +kernel
theorem d7_138 : D18 138 (.lconst 0) 1 := by decide +kernel
theorem d7_139 : D18 139 (.lstore 12) 2 := by decide +kernel
theorem d7_141 : D18 141 (.lconst 0) 1 := by decide +kernel
theorem d7_142 : D18 142 (.lstore 14) 2 := by decide +kernel
theorem d7_144 : D18 144 (.iload 11) 2 := by decide +kernel
theorem d7_146 : D18 146 (.newarray .int) 2 := by decide +kernel
theorem d7_148 : D18 148 (.astore 16) 2 := by decide +kernel
theorem d7_150 : D18 150 (.iconst 0) 1 := by decide +kernel
theorem d7_151 : D18 151 (.istore 17) 2 := by decide +kernel
theorem d7_153 : D18 153 (.iconst 0) 1 := by decide +kernel
theorem d7_154 : D18 154 (.istore 18) 2 := by decide +kernel
theorem d7_156 : D18 156 (.iload 18) 2 := by decide +kernel
theorem d7_158 : D18 158 (.iload 11) 2 := by decide +kernel
theorem d7_160 : D18 160 (.if_icmp .ge 91) 3 := by decide +kernel
theorem d7_163 : D18 163 (.lload 6) 2 := by decide +kernel
theorem d7_165 : D18 165 (.aload_n 3) 1 := by decide +kernel
theorem d7_166 : D18 166 (.iload 18) 2 := by decide +kernel
theorem d7_168 : D18 168 (.laload) 1 := by decide +kernel
theorem d7_169 : D18 169 (.land) 1 := by decide +kernel
theorem d7_170 : D18 170 (.lconst 0) 1 := by decide +kernel
theorem d7_171 : D18 171 (.lcmp) 1 := by decide +kernel
theorem d7_172 : D18 172 (.ifCond .ne 7) 3 := by decide +kernel
theorem d7_175 : D18 175 (.iconst 1) 1 := by decide +kernel
theorem d7_176 : D18 176 (.goto 4) 3 := by decide +kernel
theorem d7_179 : D18 179 (.iconst 0) 1 := by decide +kernel
theorem d7_180 : D18 180 (.istore 19) 2 := by decide +kernel
theorem d7_182 : D18 182 (.iload 19) 2 := by decide +kernel
theorem d7_184 : D18 184 (.ifCond .eq 24) 3 := by decide +kernel
theorem d7_187 : D18 187 (.aload 5) 2 := by decide +kernel
theorem d7_189 : D18 189 (.iload 18) 2 := by decide +kernel
theorem d7_191 : D18 191 (.iaload) 1 := by decide +kernel
theorem d7_192 : D18 192 (.ifCond .le 16) 3 := by decide +kernel
theorem d7_195 : D18 195 (.aload 16) 2 := by decide +kernel
theorem d7_197 : D18 197 (.iload 17) 2 := by decide +kernel
theorem d7_199 : D18 199 (.iload 18) 2 := by decide +kernel
theorem d7_201 : D18 201 (.iastore) 1 := by decide +kernel
theorem d7_202 : D18 202 (.iinc 17 1) 3 := by decide +kernel
theorem d7_205 : D18 205 (.goto 40) 3 := by decide +kernel
theorem d7_208 : D18 208 (.iload 19) 2 := by decide +kernel
theorem d7_210 : D18 210 (.ifCond .eq 35) 3 := by decide +kernel
theorem d7_213 : D18 213 (.aload_n 3) 1 := by decide +kernel
theorem d7_214 : D18 214 (.iload 18) 2 := by decide +kernel
theorem d7_216 : D18 216 (.laload) 1 := by decide +kernel
theorem d7_217 : D18 217 (.invokestatic 115) 3 := by decide +kernel
theorem d7_220 : D18 220 (.lstore 20) 2 := by decide +kernel
theorem d7_222 : D18 222 (.lload 12) 2 := by decide +kernel
theorem d7_224 : D18 224 (.lload 20) 2 := by decide +kernel
theorem d7_226 : D18 226 (.lor) 1 := by decide +kernel
theorem d7_227 : D18 227 (.lstore 12) 2 := by decide +kernel
theorem d7_229 : D18 229 (.lload 14) 2 := by decide +kernel
theorem d7_231 : D18 231 (.aload_n 3) 1 := by decide +kernel
theorem d7_232 : D18 232 (.iload 18) 2 := by decide +kernel
theorem d7_234 : D18 234 (.laload) 1 := by decide +kernel
theorem d7_235 : D18 235 (.lload 20) 2 := by decide +kernel
theorem d7_237 : D18 237 (.ldc2_w 119) 3 := by decide +kernel
theorem d7_240 : D18 240 (.lxor) 1 := by decide +kernel
theorem d7_241 : D18 241 (.land) 1 := by decide +kernel
theorem d7_242 : D18 242 (.lor) 1 := by decide +kernel
theorem d7_243 : D18 243 (.lstore 14) 2 := by decide +kernel
theorem d7_245 : D18 245 (.iinc 18 1) 3 := by decide +kernel
theorem d7_248 : D18 248 (.goto (-92)) 3 := by decide +kernel
theorem d7_251 : D18 251 (.aload_n 0) 1 := by decide +kernel
theorem d7_252 : D18 252 (.getfield 70) 3 := by decide +kernel
theorem d7_255 : D18 255 (.iload_n 1) 1 := by decide +kernel
theorem d7_256 : D18 256 (.lload 6) 2 := by decide +kernel
theorem d7_258 : D18 258 (.lastore) 1 := by decide +kernel
theorem d7_259 : D18 259 (.aload_n 0) 1 := by decide +kernel
theorem d7_260 : D18 260 (.getfield 75) 3 := by decide +kernel
theorem d7_263 : D18 263 (.iload_n 1) 1 := by decide +kernel
theorem d7_264 : D18 264 (.aload 9) 2 := by decide +kernel
theorem d7_266 : D18 266 (.iload 8) 2 := by decide +kernel
theorem d7_268 : D18 268 (.invokestatic 121) 3 := by decide +kernel
theorem d7_271 : D18 271 (.aastore) 1 := by decide +kernel
theorem d7_272 : D18 272 (.aload_n 0) 1 := by decide +kernel
theorem d7_273 : D18 273 (.getfield 79) 3 := by decide +kernel
theorem d7_276 : D18 276 (.iload_n 1) 1 := by decide +kernel
theorem d7_277 : D18 277 (.aload 10) 2 := by decide +kernel
theorem d7_279 : D18 279 (.iload 8) 2 := by decide +kernel
theorem d7_281 : D18 281 (.invokestatic 121) 3 := by decide +kernel
theorem d7_284 : D18 284 (.aastore) 1 := by decide +kernel
theorem d7_285 : D18 285 (.aload_n 0) 1 := by decide +kernel
theorem d7_286 : D18 286 (.getfield 83) 3 := by decide +kernel
theorem d7_289 : D18 289 (.iload_n 1) 1 := by decide +kernel
theorem d7_290 : D18 290 (.lload 6) 2 := by decide +kernel
theorem d7_292 : D18 292 (.aload_n 0) 1 := by decide +kernel
theorem d7_293 : D18 293 (.getfield 67) 3 := by decide +kernel
theorem d7_296 : D18 296 (.iload_n 1) 1 := by decide +kernel
theorem d7_297 : D18 297 (.iaload) 1 := by decide +kernel
theorem d7_298 : D18 298 (.invokestatic 127) 3 := by decide +kernel
theorem d7_301 : D18 301 (.aastore) 1 := by decide +kernel
theorem d7_302 : D18 302 (.aload_n 0) 1 := by decide +kernel
theorem d7_303 : D18 303 (.getfield 87) 3 := by decide +kernel
theorem d7_306 : D18 306 (.iload_n 1) 1 := by decide +kernel
theorem d7_307 : D18 307 (.lload 12) 2 := by decide +kernel
theorem d7_309 : D18 309 (.lastore) 1 := by decide +kernel
theorem d7_310 : D18 310 (.aload_n 0) 1 := by decide +kernel
theorem d7_311 : D18 311 (.getfield 90) 3 := by decide +kernel
theorem d7_314 : D18 314 (.iload_n 1) 1 := by decide +kernel
theorem d7_315 : D18 315 (.lload 14) 2 := by decide +kernel
theorem d7_317 : D18 317 (.lastore) 1 := by decide +kernel
theorem d7_318 : D18 318 (.aload_n 0) 1 := by decide +kernel
theorem d7_319 : D18 319 (.getfield 93) 3 := by decide +kernel
theorem d7_322 : D18 322 (.iload_n 1) 1 := by decide +kernel
theorem d7_323 : D18 323 (.aload 16) 2 := by decide +kernel
theorem d7_325 : D18 325 (.iload 17) 2 := by decide +kernel
theorem d7_327 : D18 327 (.invokestatic 121) 3 := by decide +kernel
theorem d7_330 : D18 330 (.aastore) 1 := by decide +kernel
theorem d7_331 : D18 331 (.return_) 1 := by decide +kernel
theorem ef_7 (m : MethodId) (x0 : Addr) (x1 : Int32) (x2 : Addr) (x3 : Addr) (x4 : Addr) (x5 : Addr) : entryFrame m #[(.ref x0), (.int x1), (.ref x2), (.ref x3), (.ref x4), (.ref x5)] 22 = mkF m 0 #[.val (.ref x0), .val (.int x1), .val (.ref x2), .val (.ref x3), .val (.ref x4), .val (.ref x5), .unset, .unset, .unset, .unset, .unset, .unset, .unset, .unset, .unset, .unset, .unset, .unset, .unset, .unset, .unset, .unset] [] := by first | (simp [entryFrame, mkF, argsToLocals, Value.category]; done) | rfl
def Q7 (Z : State) (oa : Addr) (ptb : Int32) (oc : Addr) (om : Addr) (os : Addr) (oR : Addr) (ow : Addr) (oq : Addr) (or1 : Addr) (or2 : Addr) (or3 : Addr) (or4 : Addr) (or5 : Addr) (or6 : Addr) (or7 : Addr) (kc : ClassId) (km : ClassId) (ks : ClassId) (kR : ClassId) (kw : ClassId) (kq : ClassId) (ck1 : ClassId) (ck2 : ClassId) (ck3 : ClassId) (ck4 : ClassId) (ck5 : ClassId) (ck6 : ClassId) (ck7 : ClassId) (cl : List Int32) (lm : List Int64) (ls : List Int32) (lR : List Int32) (lw : List Int32) (lr : List Int32) (vl1 : List Value) (vl2 : List Value) (vl3 : List Value) (vl4 : List Value) (vl5 : List Value) (vl6 : List Value) (vl7 : List Value) (tb : Nat) (nB : Nat) (nC : Nat) (nc : Nat) (nN : Nat) (ra : Nat) (h0 : Heap) (n0 : Nat) (v : Option Value) (h : Heap) (L : List Loc) : Prop := ∃ (p2 : Addr) (kp2 : ClassId) (p3 : Addr) (kp3 : ClassId) (p4 : Addr) (p7 : Addr) (e5 : Int64) (e6 : Int64), v = none ∧ Fr n0 L ∧ Keep h0 h [or1, or2, or3, or4, or5, or6, or7] ∧ h0.size ≤ p2 ∧ h0.size ≤ p3 ∧ Arv Z h or1 ck1 .long (nC.toInt32) (vl1.set tb (.long (own_km lm cl nc))) (.long 0) ∧ Arv Z h or2 ck2 (.array .int) (nC.toInt32) (vl2.set tb (.ref p2)) .null ∧ Arv Z h or3 ck3 (.array .int) (nC.toInt32) (vl3.set tb (.ref p3)) .null ∧ Arv Z h or4 ck4 (.array .long) (nC.toInt32) (vl4.set tb (.ref p4)) .null ∧ Arv Z h or5 ck5 .long (nC.toInt32) (vl5.set tb (.long e5)) (.long 0) ∧ Arv Z h or6 ck6 .long (nC.toInt32) (vl6.set tb (.long e6)) (.long 0) ∧ Arv Z h or7 ck7 (.array .int) (nC.toInt32) (vl7.set tb (.ref p7)) .null ∧ Arv Z h p2 kp2 .int ((own_rs cl ls lw nc).1.toInt32) ((own_rs cl ls lw nc).2.1.map Value.int) (.int 0) ∧ Arv Z h p3 kp3 .int ((own_rs cl ls lw nc).1.toInt32) ((own_rs cl ls lw nc).2.2.map Value.int) (.int 0)
set_option maxRecDepth 65536 in
set_option maxHeartbeats 40000000 in
theorem rm7 (l : Launch) (Z : State) (a0 : Array Value) (hw : ∀ d ∈ tables_1, d.before a0 Z = true) (ws : List Jvm.Cond) (oa : Addr) (ptb : Int32) (oc : Addr) (om : Addr) (os : Addr) (oR : Addr) (ow : Addr) (oq : Addr) (or1 : Addr) (or2 : Addr) (or3 : Addr) (or4 : Addr) (or5 : Addr) (or6 : Addr) (or7 : Addr) (kc : ClassId) (km : ClassId) (ks : ClassId) (kR : ClassId) (kw : ClassId) (kq : ClassId) (ck1 : ClassId) (ck2 : ClassId) (ck3 : ClassId) (ck4 : ClassId) (ck5 : ClassId) (ck6 : ClassId) (ck7 : ClassId) (cl : List Int32) (lm : List Int64) (ls : List Int32) (lR : List Int32) (lw : List Int32) (lr : List Int32) (vl1 : List Value) (vl2 : List Value) (vl3 : List Value) (vl4 : List Value) (vl5 : List Value) (vl6 : List Value) (vl7 : List Value) (tb : Nat) (nB : Nat) (nC : Nat) (nc : Nat) (nN : Nat) (ra : Nat) (h0 : Heap) (n0 : Nat) (Z0 : n0 ≤ h0.size) (P0 : Fld Z h0 oa BLn "widths" "[I" (.ref ow)) (P1 : Fld Z h0 oa BLn "radii" "[I" (.ref oq)) (P2 : Fld Z h0 oa BLn "keyMasks" "[J" (.ref or1)) (P3 : Fld Z h0 oa BLn "runShifts" "[[I" (.ref or2)) (P4 : Fld Z h0 oa BLn "runWidths" "[[I" (.ref or3)) (P5 : Fld Z h0 oa BLn "keyDifferences" "[[J" (.ref or4)) (P6 : Fld Z h0 oa BLn "skippedTops" "[J" (.ref or5)) (P7 : Fld Z h0 oa BLn "skippedLows" "[J" (.ref or6)) (P8 : Fld Z h0 oa BLn "earlierWithRadius" "[[I" (.ref or7)) (P9 : Arv Z h0 oc kc .int (nc.toInt32) (cl.map Value.int) (.int 0)) (P10 : Arv Z h0 om km .long (nB.toInt32) (lm.map Value.long) (.long 0)) (P11 : Arv Z h0 os ks .int (nB.toInt32) (ls.map Value.int) (.int 0)) (P12 : Arv Z h0 oR kR .int (nB.toInt32) (lR.map Value.int) (.int 0)) (P13 : Arv Z h0 ow kw .int (nB.toInt32) (lw.map Value.int) (.int 0)) (P14 : Arv Z h0 oq kq .int (nC.toInt32) (lr.map Value.int) (.int 0)) (P15 : Arv Z h0 or1 ck1 .long (nC.toInt32) vl1 (.long 0)) (P16 : Arv Z h0 or2 ck2 (.array .int) (nC.toInt32) vl2 .null) (P17 : Arv Z h0 or3 ck3 (.array .int) (nC.toInt32) vl3 .null) (P18 : Arv Z h0 or4 ck4 (.array .long) (nC.toInt32) vl4 .null) (P19 : Arv Z h0 or5 ck5 .long (nC.toInt32) vl5 (.long 0)) (P20 : Arv Z h0 or6 ck6 .long (nC.toInt32) vl6 (.long 0)) (P21 : Arv Z h0 or7 ck7 (.array .int) (nC.toInt32) vl7 .null) (hptb : ptb = tb.toInt32) (htb : tb < nC) (hC10 : nC ≤ 10) (hB5 : nB ≤ 5) (hnc1 : 1 ≤ nc) (hnc3 : nc ≤ 3) (hcp : ∀ i, i < nc → ¬ cl.getD i 0 < (0 : Int32) ∧ cl.getD i 0 < nB.toInt32) (hvl1 : nC ≤ vl1.length) (hvl2 : nC ≤ vl2.length) (hvl3 : nC ≤ vl3.length) (hvl4 : nC ≤ vl4.length) (hvl5 : nC ≤ vl5.length) (hvl6 : nC ≤ vl6.length) (hvl7 : nC ≤ vl7.length) (ho2 : OvrA Z ck2 .int "[I") (ho3 : OvrA Z ck3 .int "[I") (ho4 : OvrA Z ck4 .long "[J") (ho7 : OvrA Z ck7 .int "[I") (gr1 : n0 ≤ or1) (gr2 : n0 ≤ or2) (gr3 : n0 ≤ or3) (gr4 : n0 ≤ or4) (gr5 : n0 ≤ or5) (gr6 : n0 ≤ or6) (gr7 : n0 ≤ or7) (na0 : or1 ≠ or2) (na1 : or1 ≠ or3) (na2 : or1 ≠ or4) (na3 : or1 ≠ or5) (na4 : or1 ≠ or6) (na5 : or1 ≠ or7) (na6 : or2 ≠ or3) (na7 : or2 ≠ or4) (na8 : or2 ≠ or5) (na9 : or2 ≠ or6) (na10 : or2 ≠ or7) (na11 : or3 ≠ or4) (na12 : or3 ≠ or5) (na13 : or3 ≠ or6) (na14 : or3 ≠ or7) (na15 : or4 ≠ or5) (na16 : or4 ≠ or6) (na17 : or4 ≠ or7) (na18 : or5 ≠ or6) (na19 : or5 ≠ or7) (na20 : or6 ≠ or7) (nb1 : oa ≠ or1) (nb2 : oa ≠ or2) (nb3 : oa ≠ or3) (nb4 : oa ≠ or4) (nb5 : oa ≠ or5) (nb6 : oa ≠ or6) (nb7 : oa ≠ or7) (nd1 : oq ≠ or1) (nd2 : oq ≠ or2) (nd3 : oq ≠ or3) (hrad : (lr.getD tb 0 = (0 : Int32) ∧ own_bc (own_km lm cl nc) = nN.toInt32 ∧ nN ≤ 64) ∨ (ra = 1 ∧ lr.getD tb 0 = (1 : Int32) ∧ own_bc (own_km lm cl nc) = (32 : Int32))) :
    MetFree l (⟨BLn, "describe", "(I[I[J[I[I)V"⟩ : MethodName) (head1 (Jvm.Cond.code (⟨BLn, "describe", "(I[I[J[I[I)V"⟩ : MethodName) prog_1_method_14_code 22 none :: ws) ({ frames := 3, cells := 8 + 3 * ra, slots := 88 + 163 * ra, locals := 64 } : Room)) (fun a U => a = #[(.ref oa), (.int ptb), (.ref oc), (.ref om), (.ref os), (.ref oR)] ∧ Z.Warmed39 U.vm ∧ U.heap = h0) (fun _ _ _ _ _ => True) (fun _ U o U' => ∃ v L, o = .returned v ∧ Q7 Z oa ptb oc om os oR ow oq or1 or2 or3 or4 or5 or6 or7 kc km ks kR kw kq ck1 ck2 ck3 ck4 ck5 ck6 ck7 cl lm ls lR lw lr vl1 vl2 vl3 vl4 vl5 vl6 vl7 tb nB nC nc nN ra h0 n0 v U'.heap L ∧ FrameEnd U o U' L ({ frames := 3, cells := 8 + 3 * ra, slots := 88 + 163 * ra, locals := 64 } : Room).cells ({ frames := 3, cells := 8 + 3 * ra, slots := 88 + 163 * ra, locals := 64 } : Room).slots) := by
  refine MetFree.of_bodySF (plainFor_of_name own_pn1) hisR ?_
  intro p e s m args below meth c s₁ Bd hml0 hP hK
  obtain ⟨rfl, hZ, hh⟩ := hP
  have hx := Bd.exec
  have hby := Bd.bytes
  have hml : c.maxLocals = 22 := hml0
  have hown : s.vm.findClass BLn = some m.cls := findClass_of_methodNamed Bd.named
  have hnm := (name_of_methodNamed Bd.named Bd.method).1
  have X0 : Stand p l e ({ frames := 3, cells := 8 + 3 * ra, slots := 88 + 163 * ra, locals := 64 } : Room) s m #[(.ref oa), (.int ptb), (.ref oc), (.ref om), (.ref os), (.ref oR)] below meth c s₁ [] 0 0 := Stand.of_body Bd
  have e0 : s₁.heap = h0 := by rw [← hh, Bd.state]; rfl
  have N0 := Fr.nil n0
  have K0 : Keep h0 h0 [or1, or2, or3, or4, or5, or6, or7] := Keep.refl _ _
  suffices GO : ∀ P : Outcome → State → Prop, (∀ o U', (∃ v L, o = .returned v ∧ Q7 Z oa ptb oc om os oR ow oq or1 or2 or3 or4 or5 or6 or7 kc km ks kR kw kq ck1 ck2 ck3 ck4 ck5 ck6 ck7 cl lm ls lR lw lr vl1 vl2 vl3 vl4 vl5 vl6 vl7 tb nB nC nc nN ra h0 n0 v U'.heap L ∧ FrameEnd s o U' L ({ frames := 3, cells := 8 + 3 * ra, slots := 88 + 163 * ra, locals := 64 } : Room).cells ({ frames := 3, cells := 8 + 3 * ra, slots := 88 + 163 * ra, locals := 64 } : Room).slots) → P o U') → Go p.tables e below P s₁ (mkF m 0 #[.val (.ref oa), .val (.int ptb), .val (.ref oc), .val (.ref om), .val (.ref os), .val (.ref oR), .unset, .unset, .unset, .unset, .unset, .unset, .unset, .unset, .unset, .unset, .unset, .unset, .unset, .unset, .unset, .unset] []) by
    obtain ⟨s2, o, st, r⟩ := GO _ (fun _ _ q => q)
    exact ⟨s2, o, castTop (ef_7 m oa ptb oc om os oR) st, r⟩
  clear hh
  intro P hP
  show Go p.tables e below P s₁ (mkF m 0 #[vr oa, vi ptb, vr oc, vr om, vr os, vr oR, vu, vu, vu, vu, vu, vu, vu, vu, vu, vu, vu, vu, vu, vu, vu, vu] [])
  refine gv (fun t k => XS.lconst X0.here hx rfl (hb hby d7_0) k) ?_
  refine gv (fun t k => XS.lstore X0.here hx rfl (hb hby d7_1) rfl (l' := #[vr oa, vi ptb, vr oc, vr om, vr os, vr oR, vj 0, v2, vu, vu, vu, vu, vu, vu, vu, vu, vu, vu, vu, vu, vu, vu]) rfl k) ?_
  refine gv (fun t k => XS.aloadN X0.here hx rfl (hb hby d7_3) rfl rfl k) ?_
  refine gv (fun t k => XS.astore X0.here hx rfl (hb hby d7_4) rfl rfl (l' := #[vr oa, vi ptb, vr oc, vr om, vr os, vr oR, vj 0, v2, vr oc, vu, vu, vu, vu, vu, vu, vu, vu, vu, vu, vu, vu, vu]) rfl k) ?_
  refine gv (fun t k => XS.aload X0.here hx rfl (hb hby d7_6) rfl rfl k) ?_
  obtain ⟨c1, A1, -, S1, N1, -, -⟩ := id P9
  refine gv (fun t k => X0.arraylength hx (by rw [e0]; exact A1.1) (State.isArrayOf_alike hZ.alike A1.2.1) (g := (mkF m 8 #[vr oa, vi ptb, vr oc, vr om, vr os, vr oR, vj 0, v2, vr oc, vu, vu, vu, vu, vu, vu, vu, vu, vu, vu, vu, vu, vu] [(.ref oc)])) rfl rfl (hb hby d7_8) t (by rw [len_of S1 N1]; exact k)) ?_
  refine gv (fun t k => XS.istore X0.here hx rfl (hb hby d7_9) rfl (l' := #[vr oa, vi ptb, vr oc, vr om, vr os, vr oR, vj 0, v2, vr oc, vi (nc.toInt32), vu, vu, vu, vu, vu, vu, vu, vu, vu, vu, vu, vu]) rfl k) ?_
  refine gv (fun t k => XS.iconst X0.here hx rfl (hb hby d7_11) k) ?_
  refine gv (fun t k => XS.istore X0.here hx rfl (hb hby d7_12) rfl (l' := #[vr oa, vi ptb, vr oc, vr om, vr os, vr oR, vj 0, v2, vr oc, vi (nc.toInt32), vi 0, vu, vu, vu, vu, vu, vu, vu, vu, vu, vu, vu]) rfl k) ?_
  have LP2 : ∀ (k2 : Nat) (T2 : State) (locs2 : List Loc) (i : Nat) (x10 : Int32) (ky : Int64) (s2_11 : Slot), Stand p l e ({ frames := 3, cells := 8 + 3 * ra, slots := 88 + 163 * ra, locals := 64 } : Room) s m #[(.ref oa), (.int ptb), (.ref oc), (.ref om), (.ref os), (.ref oR)] below meth c T2 locs2 0 0 → T2.heap = h0 → Fr n0 locs2 → i ≤ nc → x10 = i.toInt32 → ky = own_km lm cl i → (s2_11 = .unset ∨ ∃ w, s2_11 = .val w ∧ w.category = 1) → nc - i < k2 → Go p.tables e below P T2 (mkF m 14 #[.val (.ref oa), .val (.int ptb), .val (.ref oc), .val (.ref om), .val (.ref os), .val (.ref oR), .val (.long ky), .second, .val (.ref oc), .val (.int (nc.toInt32)), .val (.int x10), s2_11, .unset, .unset, .unset, .unset, .unset, .unset, .unset, .unset, .unset, .unset] []) := by
    intro k2
    induction k2 with
    | zero => intros; rename_i hk; exact absurd hk (Nat.not_lt_zero _)
    | succ k2 ih2 =>
      intro T2 locs2 i x10 ky s2_11 X2 e2 N2 hi hx10 hky hos2_11 hk
      show Go p.tables e below P T2 (mkF m 14 #[vr oa, vi ptb, vr oc, vr om, vr os, vr oR, vj ky, v2, vr oc, vi (nc.toInt32), vi x10, s2_11, vu, vu, vu, vu, vu, vu, vu, vu, vu, vu] [])
      refine gv (fun t k => XS.iload X2.here hx rfl (hb hby d7_14) rfl k) ?_
      refine gv (fun t k => XS.iload X2.here hx rfl (hb hby d7_16) rfl k) ?_
      by_cases hc3 : x10 < (nc.toInt32)
      · refine gv (fun t k => XS.icmpNo X2.here hx rfl (hb hby d7_18) rfl (tlt hc3).2.1 k) ?_
        have hlt : i < nc := (own_ltN (by omega) (by omega)).mp (by rw [← hx10]; exact hc3)
        refine gv (fun t k => XS.aload X2.here hx rfl (hb hby d7_21) rfl rfl k) ?_
        refine gv (fun t k => XS.iload X2.here hx rfl (hb hby d7_23) rfl k) ?_
        obtain ⟨c4, A4, q4, S4, N4, H4, G4⟩ := id P9
        have hin4 : ¬ (x10 < 0 ∨ c4.slots.size ≤ (x10).toNatClampNeg) := inb_of S4 ⟨by rw [hx10]; exact own_nneg (by omega), by rw [hx10]; exact (own_ltN (by omega) (by omega)).mpr (by omega)⟩
        have hat4 : c4.slots[(x10).toNatClampNeg]? = some (.int (cl.getD i 0)) := (H4 _ (Nat.lt_of_not_le fun q => hin4 (Or.inr q))).trans (congrArg some (by rw [hx10, own_clamp (by omega)]; exact own_getDI _ _))
        refine gv (fun t k => X2.iaload hx (j := x10) (v := (.int (cl.getD i 0))) (by rw [e2]; exact A4.1) (State.isArrayOf_alike hZ.alike A4.2.1) A4.2.2 hin4 hat4 (g := (mkF m 25 #[vr oa, vi ptb, vr oc, vr om, vr os, vr oR, vj ky, v2, vr oc, vi (nc.toInt32), vi x10, s2_11, vu, vu, vu, vu, vu, vu, vu, vu, vu, vu] [(.int x10), (.ref oc)])) rfl rfl (hb hby d7_25) t k) ?_
        refine gv (fun t k => XS.istore X2.here hx rfl (hb hby d7_26) rfl (l' := #[vr oa, vi ptb, vr oc, vr om, vr os, vr oR, vj ky, v2, vr oc, vi (nc.toInt32), vi x10, vi (cl.getD i 0), vu, vu, vu, vu, vu, vu, vu, vu, vu, vu]) (XS.store1 rfl hos2_11 rfl) k) ?_
        refine gv (fun t k => XS.lload X2.here hx rfl (hb hby d7_28) rfl k) ?_
        refine gv (fun t k => XS.aloadN X2.here hx rfl (hb hby d7_30) rfl rfl k) ?_
        show Go p.tables e below P T2 (mkF m 31 #[vr oa, vi ptb, vr oc, vr om, vr os, vr oR, vj ky, v2, vr oc, vi (nc.toInt32), vi x10, vi (cl.getD i 0), vu, vu, vu, vu, vu, vu, vu, vu, vu, vu] [(.ref om), (.long ky)])
        refine gv (fun t k => XS.iload X2.here hx rfl (hb hby d7_31) rfl k) ?_
        obtain ⟨c5, A5, q5, S5, N5, H5, G5⟩ := id P10
        have hin5 : ¬ ((cl.getD i 0) < 0 ∨ c5.slots.size ≤ ((cl.getD i 0)).toNatClampNeg) := inb_of S5 (hcp i hlt)
        have hat5 : c5.slots[((cl.getD i 0)).toNatClampNeg]? = some (.long (lm.getD (cl.getD i 0).toNatClampNeg 0)) := (H5 _ (Nat.lt_of_not_le fun q => hin5 (Or.inr q))).trans (congrArg some (own_getDJ _ _))
        refine gv (fun t k => X2.laload hx (j := (cl.getD i 0)) (v := (.long (lm.getD (cl.getD i 0).toNatClampNeg 0))) (by rw [e2]; exact A5.1) (State.isArrayOf_alike hZ.alike A5.2.1) A5.2.2 hin5 hat5 (g := (mkF m 33 #[vr oa, vi ptb, vr oc, vr om, vr os, vr oR, vj ky, v2, vr oc, vi (nc.toInt32), vi x10, vi (cl.getD i 0), vu, vu, vu, vu, vu, vu, vu, vu, vu, vu] [(.int (cl.getD i 0)), (.ref om), (.long ky)])) rfl rfl (hb hby d7_33) t k) ?_
        refine gv (fun t k => XS.lor X2.here hx rfl (hb hby d7_34) rfl k) ?_
        refine gv (fun t k => XS.lstore X2.here hx rfl (hb hby d7_35) rfl (l' := #[vr oa, vi ptb, vr oc, vr om, vr os, vr oR, vj (ky ||| (lm.getD (cl.getD i 0).toNatClampNeg 0)), v2, vr oc, vi (nc.toInt32), vi x10, vi (cl.getD i 0), vu, vu, vu, vu, vu, vu, vu, vu, vu, vu]) rfl k) ?_
        refine gv (fun t k => XS.iinc X2.here hx rfl (hb hby d7_37) rfl (l' := #[vr oa, vi ptb, vr oc, vr om, vr os, vr oR, vj (ky ||| (lm.getD (cl.getD i 0).toNatClampNeg 0)), v2, vr oc, vi (nc.toInt32), vi (x10 + (1 : Int32)), vi (cl.getD i 0), vu, vu, vu, vu, vu, vu, vu, vu, vu, vu]) rfl k) ?_
        refine gv (fun t k => XS.goto X2.here hx rfl (pc0 := 40) (pc' := 14) rfl (hb hby d7_40) (by decide) (by decide) k) ?_
        exact ih2 T2 _ (i + 1) (x10 + (1 : Int32)) (ky ||| (lm.getD (cl.getD i 0).toNatClampNeg 0)) (.val (.int (cl.getD i 0))) X2 e2 N2 hlt (by rw [hx10]; exact own_succ i) (by rw [hky]; rfl) (Or.inr ⟨_, rfl, rfl⟩) (by omega)
      · refine gv (fun t k => XS.icmpYes X2.here hx rfl (pc0 := 18) (pc' := 43) rfl (hb hby d7_18) rfl (flt hc3).2.1 (by decide) (by decide) k) ?_
        have hkm : ky = own_km lm cl nc := by rw [hky]; congr 1; have q := hc3; rw [hx10, own_ltN (by omega) (by omega)] at q; omega
        refine gv (fun t k => XS.iconst X2.here hx rfl (hb hby d7_43) k) ?_
        refine gv (fun t k => XS.istore X2.here hx rfl (hb hby d7_44) rfl (l' := #[vr oa, vi ptb, vr oc, vr om, vr os, vr oR, vj ky, v2, vi 0, vi (nc.toInt32), vi x10, s2_11, vu, vu, vu, vu, vu, vu, vu, vu, vu, vu]) rfl k) ?_
        refine gv (fun t k => XS.aloadN X2.here hx rfl (hb hby d7_46) rfl rfl k) ?_
        show Go p.tables e below P T2 (mkF m 47 #[vr oa, vi ptb, vr oc, vr om, vr os, vr oR, vj ky, v2, vi 0, vi (nc.toInt32), vi x10, s2_11, vu, vu, vu, vu, vu, vu, vu, vu, vu, vu] [(.ref oc)])
        obtain ⟨c6, A6, -, S6, N6, -, -⟩ := id P9
        refine gv (fun t k => X2.arraylength hx (by rw [e2]; exact A6.1) (State.isArrayOf_alike hZ.alike A6.2.1) (g := (mkF m 47 #[vr oa, vi ptb, vr oc, vr om, vr os, vr oR, vj ky, v2, vi 0, vi (nc.toInt32), vi x10, s2_11, vu, vu, vu, vu, vu, vu, vu, vu, vu, vu] [(.ref oc)])) rfl rfl (hb hby d7_47) t (by rw [len_of S6 N6]; exact k)) ?_
        obtain ⟨T7, h7, k7, X7, e7, E7, A7, B7, st7⟩ := newPE X2 hx hZ (own_g hw 1 rfl) e2 (g := (mkF m 48 #[vr oa, vi ptb, vr oc, vr om, vr os, vr oR, vj ky, v2, vi 0, vi (nc.toInt32), vi x10, s2_11, vu, vu, vu, vu, vu, vu, vu, vu, vu, vu] [(.int (nc.toInt32))])) rfl (hb hby d7_48) rfl (own_nneg (by omega)) (cap := 3) (by rw [own_clamp (by omega)]; exact hnc3) (by first | decide | (dsimp only; omega)) (by first | decide | (dsimp only; omega)) (by first | decide | (dsimp only; omega)) (ad := "[I") (by first | decide | (dsimp only; omega))
        obtain ⟨b7, g7⟩ : ∃ z, z = h0.size := ⟨_, rfl⟩
        rw [← g7] at A7 B7 st7
        refine gv st7 ?_
        have g8 := Nat.le_trans Z0 (Nat.le_of_eq g7.symm)
        have sz9 := Nat.le_trans K0.1 (Nat.le_of_eq g7.symm)
        have Z10 := Nat.le_trans Z0 E7.1
        have K11 := K0.ext E7
        have V7 : Arv Z h7 b7 k7 .int (nc.toInt32) [(.int 0), (.int 0), (.int 0)] (.int 0) := (Arv.new A7 (own_nneg (by omega))).pad (pad_rep [] (.int 0) 3)
        refine gv (fun t k => XS.astore X7.here hx rfl (hb hby d7_50) rfl rfl (l' := #[vr oa, vi ptb, vr oc, vr om, vr os, vr oR, vj ky, v2, vi 0, vr b7, vi x10, s2_11, vu, vu, vu, vu, vu, vu, vu, vu, vu, vu]) rfl k) ?_
        refine gv (fun t k => XS.aloadN X7.here hx rfl (hb hby d7_52) rfl rfl k) ?_
        have F12 := (P9.ext E7)
        obtain ⟨c13, A13, -, S13, N13, -, -⟩ := id F12
        refine gv (fun t k => X7.arraylength hx (by rw [e7]; exact A13.1) (State.isArrayOf_alike hZ.alike A13.2.1) (g := (mkF m 53 #[vr oa, vi ptb, vr oc, vr om, vr os, vr oR, vj ky, v2, vi 0, vr b7, vi x10, s2_11, vu, vu, vu, vu, vu, vu, vu, vu, vu, vu] [(.ref oc)])) rfl rfl (hb hby d7_53) t (by rw [len_of S13 N13]; exact k)) ?_
        obtain ⟨T14, h14, k14, X14, e14, E14, A14, B14, st14⟩ := newPE X7 hx hZ (own_g hw 1 rfl) e7 (g := (mkF m 54 #[vr oa, vi ptb, vr oc, vr om, vr os, vr oR, vj ky, v2, vi 0, vr b7, vi x10, s2_11, vu, vu, vu, vu, vu, vu, vu, vu, vu, vu] [(.int (nc.toInt32))])) rfl (hb hby d7_54) rfl (own_nneg (by omega)) (cap := 3) (by rw [own_clamp (by omega)]; exact hnc3) (by first | decide | (dsimp only; omega)) (by first | decide | (dsimp only; omega)) (by first | decide | (dsimp only; omega)) (ad := "[I") (by first | decide | (dsimp only; omega))
        obtain ⟨b14, g14⟩ : ∃ z, z = h7.size := ⟨_, rfl⟩
        rw [← g14] at A14 B14 st14
        refine gv st14 ?_
        have ne15 := Nat.ne_of_lt (Nat.lt_of_lt_of_le B7.lt (Nat.le_of_eq g14.symm))
        have g16 := Nat.le_trans Z10 (Nat.le_of_eq g14.symm)
        have sz17 := Nat.le_trans K11.1 (Nat.le_of_eq g14.symm)
        have Z18 := Nat.le_trans Z10 E14.1
        have K19 := K11.ext E14
        have V14 : Arv Z h14 b14 k14 .int (nc.toInt32) [(.int 0), (.int 0), (.int 0)] (.int 0) := (Arv.new A14 (own_nneg (by omega))).pad (pad_rep [] (.int 0) 3)
        refine gv (fun t k => XS.astore X14.here hx rfl (hb hby d7_56) rfl rfl (l' := #[vr oa, vi ptb, vr oc, vr om, vr os, vr oR, vj ky, v2, vi 0, vr b7, vr b14, s2_11, vu, vu, vu, vu, vu, vu, vu, vu, vu, vu]) rfl k) ?_
        refine gv (fun t k => XS.iconst X14.here hx rfl (hb hby d7_58) k) ?_
        refine gv (fun t k => XS.istore X14.here hx rfl (hb hby d7_59) rfl (l' := #[vr oa, vi ptb, vr oc, vr om, vr os, vr oR, vj ky, v2, vi 0, vr b7, vr b14, vi 0, vu, vu, vu, vu, vu, vu, vu, vu, vu, vu]) (XS.store1 rfl hos2_11 rfl) k) ?_
        have LP20 : ∀ (k20 : Nat) (T20 : State) (locs20 : List Loc) (hp20 : Heap) (i : Nat) (x11 : Int32) (x8 : Int32) (rn : Nat) (sh : List Int32) (bt : List Int32) (s20_12 : Slot), Stand p l e ({ frames := 3, cells := 8 + 3 * ra, slots := 88 + 163 * ra, locals := 64 } : Room) s m #[(.ref oa), (.int ptb), (.ref oc), (.ref om), (.ref os), (.ref oR)] below meth c T20 locs20 2 6 → T20.heap = hp20 → Fr n0 locs20 → n0 ≤ hp20.size → Keep h0 hp20 [or1, or2, or3, or4, or5, or6, or7] → Fld Z hp20 oa BLn "widths" "[I" (.ref ow) → Fld Z hp20 oa BLn "radii" "[I" (.ref oq) → Fld Z hp20 oa BLn "keyMasks" "[J" (.ref or1) → Fld Z hp20 oa BLn "runShifts" "[[I" (.ref or2) → Fld Z hp20 oa BLn "runWidths" "[[I" (.ref or3) → Fld Z hp20 oa BLn "keyDifferences" "[[J" (.ref or4) → Fld Z hp20 oa BLn "skippedTops" "[J" (.ref or5) → Fld Z hp20 oa BLn "skippedLows" "[J" (.ref or6) → Fld Z hp20 oa BLn "earlierWithRadius" "[[I" (.ref or7) → Arv Z hp20 oc kc .int (nc.toInt32) (cl.map Value.int) (.int 0) → Arv Z hp20 om km .long (nB.toInt32) (lm.map Value.long) (.long 0) → Arv Z hp20 os ks .int (nB.toInt32) (ls.map Value.int) (.int 0) → Arv Z hp20 oR kR .int (nB.toInt32) (lR.map Value.int) (.int 0) → Arv Z hp20 ow kw .int (nB.toInt32) (lw.map Value.int) (.int 0) → Arv Z hp20 oq kq .int (nC.toInt32) (lr.map Value.int) (.int 0) → Arv Z hp20 or1 ck1 .long (nC.toInt32) vl1 (.long 0) → Arv Z hp20 or2 ck2 (.array .int) (nC.toInt32) vl2 .null → Arv Z hp20 or3 ck3 (.array .int) (nC.toInt32) vl3 .null → Arv Z hp20 or4 ck4 (.array .long) (nC.toInt32) vl4 .null → Arv Z hp20 or5 ck5 .long (nC.toInt32) vl5 (.long 0) → Arv Z hp20 or6 ck6 .long (nC.toInt32) vl6 (.long 0) → Arv Z hp20 or7 ck7 (.array .int) (nC.toInt32) vl7 .null → Exa Z hp20 b7 "[I" → Arv Z hp20 b7 k7 .int (nc.toInt32) (sh.map Value.int) (.int 0) → Exa Z hp20 b14 "[I" → Arv Z hp20 b14 k14 .int (nc.toInt32) (bt.map Value.int) (.int 0) → i ≤ nc → x11 = i.toInt32 → x8 = rn.toInt32 → own_rs cl ls lw i = (rn, sh, bt) → (s20_12 = .unset ∨ ∃ w, s20_12 = .val w ∧ w.category = 1) → nc - i < k20 → Go p.tables e below P T20 (mkF m 61 #[.val (.ref oa), .val (.int ptb), .val (.ref oc), .val (.ref om), .val (.ref os), .val (.ref oR), .val (.long ky), .second, .val (.int x8), .val (.ref b7), .val (.ref b14), .val (.int x11), s20_12, .unset, .unset, .unset, .unset, .unset, .unset, .unset, .unset, .unset] []) := by
          intro k20
          induction k20 with
          | zero => intros; rename_i hk; exact absurd hk (Nat.not_lt_zero _)
          | succ k20 ih20 =>
            intro T20 locs20 hp20 i x11 x8 rn sh bt s20_12 X20 e20 N20 Z20 K20 F20_0 F20_1 F20_2 F20_3 F20_4 F20_5 F20_6 F20_7 F20_8 F20_9 F20_10 F20_11 F20_12 F20_13 F20_14 F20_15 F20_16 F20_17 F20_18 F20_19 F20_20 F20_21 F20_22 F20_23 F20_24 F20_25 hi hx11 hx8 hrs hos20_12 hk
            show Go p.tables e below P T20 (mkF m 61 #[vr oa, vi ptb, vr oc, vr om, vr os, vr oR, vj ky, v2, vi x8, vr b7, vr b14, vi x11, s20_12, vu, vu, vu, vu, vu, vu, vu, vu, vu] [])
            refine gv (fun t k => XS.iload X20.here hx rfl (hb hby d7_61) rfl k) ?_
            refine gv (fun t k => XS.aloadN X20.here hx rfl (hb hby d7_63) rfl rfl k) ?_
            obtain ⟨c21, A21, -, S21, N21, -, -⟩ := id F20_9
            refine gv (fun t k => X20.arraylength hx (by rw [e20]; exact A21.1) (State.isArrayOf_alike hZ.alike A21.2.1) (g := (mkF m 64 #[vr oa, vi ptb, vr oc, vr om, vr os, vr oR, vj ky, v2, vi x8, vr b7, vr b14, vi x11, s20_12, vu, vu, vu, vu, vu, vu, vu, vu, vu] [(.ref oc), (.int x11)])) rfl rfl (hb hby d7_64) t (by rw [len_of S21 N21]; exact k)) ?_
            by_cases hc22 : x11 < (nc.toInt32)
            · refine gv (fun t k => XS.icmpNo X20.here hx rfl (hb hby d7_65) rfl (tlt hc22).2.1 k) ?_
              have hlt : i < nc := (own_ltN (by omega) (by omega)).mp (by rw [← hx11]; exact hc22)
              have hl3 : sh.length = 3 ∧ bt.length = 3 := by have q := own_rs_l cl ls lw i; rw [hrs] at q; exact q
              refine gv (fun t k => XS.aloadN X20.here hx rfl (hb hby d7_68) rfl rfl k) ?_
              refine gv (fun t k => XS.iload X20.here hx rfl (hb hby d7_69) rfl k) ?_
              obtain ⟨c23, A23, q23, S23, N23, H23, G23⟩ := id F20_9
              have hin23 : ¬ (x11 < 0 ∨ c23.slots.size ≤ (x11).toNatClampNeg) := inb_of S23 ⟨by rw [hx11]; exact own_nneg (by omega), by rw [hx11]; exact (own_ltN (by omega) (by omega)).mpr (by omega)⟩
              have hat23 : c23.slots[(x11).toNatClampNeg]? = some (.int (cl.getD i 0)) := (H23 _ (Nat.lt_of_not_le fun q => hin23 (Or.inr q))).trans (congrArg some (by rw [hx11, own_clamp (by omega)]; exact own_getDI _ _))
              refine gv (fun t k => X20.iaload hx (j := x11) (v := (.int (cl.getD i 0))) (by rw [e20]; exact A23.1) (State.isArrayOf_alike hZ.alike A23.2.1) A23.2.2 hin23 hat23 (g := (mkF m 71 #[vr oa, vi ptb, vr oc, vr om, vr os, vr oR, vj ky, v2, vi x8, vr b7, vr b14, vi x11, s20_12, vu, vu, vu, vu, vu, vu, vu, vu, vu] [(.int x11), (.ref oc)])) rfl rfl (hb hby d7_71) t k) ?_
              refine gv (fun t k => XS.istore X20.here hx rfl (hb hby d7_72) rfl (l' := #[vr oa, vi ptb, vr oc, vr om, vr os, vr oR, vj ky, v2, vi x8, vr b7, vr b14, vi x11, vi (cl.getD i 0), vu, vu, vu, vu, vu, vu, vu, vu, vu]) (XS.store1 rfl hos20_12 rfl) k) ?_
              refine gv (fun t k => XS.iload X20.here hx rfl (hb hby d7_74) rfl k) ?_
              show Go p.tables e below P T20 (mkF m 76 #[vr oa, vi ptb, vr oc, vr om, vr os, vr oR, vj ky, v2, vi x8, vr b7, vr b14, vi x11, vi (cl.getD i 0), vu, vu, vu, vu, vu, vu, vu, vu, vu] [(.int x11)])
              have J25 : ∀ (T25 : State) (locs25 : List Loc) (v25_0 : Int32), Stand p l e ({ frames := 3, cells := 8 + 3 * ra, slots := 88 + 163 * ra, locals := 64 } : Room) s m #[(.ref oa), (.int ptb), (.ref oc), (.ref om), (.ref os), (.ref oR)] below meth c T25 locs25 2 6 → T25.heap = hp20 → Fr n0 locs25 → v25_0 = (if x11 = (0 : Int32) then (x8 + (1 : Int32)) else (if (cl.getD (i - 1) 0) = ((cl.getD i 0) - (1 : Int32)) then x8 else (x8 + (1 : Int32)))) → Go p.tables e below P T25 (mkF m 95 #[.val (.ref oa), .val (.int ptb), .val (.ref oc), .val (.ref om), .val (.ref os), .val (.ref oR), .val (.long ky), .second, .val (.int v25_0), .val (.ref b7), .val (.ref b14), .val (.int x11), .val (.int (cl.getD i 0)), .unset, .unset, .unset, .unset, .unset, .unset, .unset, .unset, .unset] []) := by
                intro T25 locs25 v25_0 X25 e25 N25 hv25_0
                obtain ⟨r1, hr1, hv1⟩ : ∃ z, z = own_rn1 cl i rn ∧ v25_0 = z.toInt32 := ⟨_, rfl, by rw [hv25_0, hx11, hx8]; exact own_rn1_eq cl i rn⟩
                rw [hv1]
                have hb1 : r1 ≤ i + 1 ∧ 0 < r1 := by have q := own_rs_b cl ls lw (i + 1); rw [own_rs, hrs] at q; rw [hr1]; exact ⟨q.1, q.2 (Nat.succ_pos _)⟩
                refine gv (fun t k => XS.aload X25.here hx rfl (hb hby d7_95) rfl rfl k) ?_
                refine gv (fun t k => XS.iload X25.here hx rfl (hb hby d7_97) rfl k) ?_
                refine gv (fun t k => XS.iconst X25.here hx rfl (hb hby d7_99) k) ?_
                refine gv (fun t k => XS.isub X25.here hx rfl (hb hby d7_100) rfl k) ?_
                refine gv (fun t k => XS.aload X25.here hx rfl (hb hby d7_101) rfl rfl k) ?_
                refine gv (fun t k => XS.iload X25.here hx rfl (hb hby d7_103) rfl k) ?_
                obtain ⟨c26, A26, q26, S26, N26, H26, G26⟩ := id F20_11
                have hin26 : ¬ ((cl.getD i 0) < 0 ∨ c26.slots.size ≤ ((cl.getD i 0)).toNatClampNeg) := inb_of S26 (hcp i hlt)
                have hat26 : c26.slots[((cl.getD i 0)).toNatClampNeg]? = some (.int (ls.getD (cl.getD i 0).toNatClampNeg 0)) := (H26 _ (Nat.lt_of_not_le fun q => hin26 (Or.inr q))).trans (congrArg some (own_getDI _ _))
                refine gv (fun t k => X25.iaload hx (j := (cl.getD i 0)) (v := (.int (ls.getD (cl.getD i 0).toNatClampNeg 0))) (by rw [e25]; exact A26.1) (State.isArrayOf_alike hZ.alike A26.2.1) A26.2.2 hin26 hat26 (g := (mkF m 105 #[vr oa, vi ptb, vr oc, vr om, vr os, vr oR, vj ky, v2, vi (r1.toInt32), vr b7, vr b14, vi x11, vi (cl.getD i 0), vu, vu, vu, vu, vu, vu, vu, vu, vu] [(.int (cl.getD i 0)), (.ref os), (.int ((r1.toInt32) - (1 : Int32))), (.ref b7)])) rfl rfl (hb hby d7_105) t k) ?_
                obtain ⟨T27, h27, lc27, X27, e27, N27, Z27, K27, W27, V27, st27⟩ := own_stI X25 hx hZ e25 F20_23 N25 Z20 K20 g8 (Or.inr sz9) (j := ((r1.toInt32) - (1 : Int32))) ⟨by rw [own_m1 hb1.2]; exact own_nneg (by omega), by rw [own_m1 hb1.2]; exact (own_ltN (by omega) (by omega)).mpr (by omega)⟩ (ji := (r1 - 1)) (by rw [own_m1 hb1.2, own_clamp (by omega)]) (by rw [List.length_map, hl3.1]; omega) (g := (mkF m 106 #[vr oa, vi ptb, vr oc, vr om, vr os, vr oR, vj ky, v2, vi (r1.toInt32), vr b7, vr b14, vi x11, vi (cl.getD i 0), vu, vu, vu, vu, vu, vu, vu, vu, vu] [(.int (ls.getD (cl.getD i 0).toNatClampNeg 0)), (.int ((r1.toInt32) - (1 : Int32))), (.ref b7)])) rfl rfl (hb hby d7_106)
                refine gv st27 ?_
                show Go p.tables e below P T27 (mkF m 107 #[vr oa, vi ptb, vr oc, vr om, vr os, vr oR, vj ky, v2, vi (r1.toInt32), vr b7, vr b14, vi x11, vi (cl.getD i 0), vu, vu, vu, vu, vu, vu, vu, vu, vu] [])
                refine gv (fun t k => XS.aload X27.here hx rfl (hb hby d7_107) rfl rfl k) ?_
                refine gv (fun t k => XS.iload X27.here hx rfl (hb hby d7_109) rfl k) ?_
                refine gv (fun t k => XS.iconst X27.here hx rfl (hb hby d7_111) k) ?_
                refine gv (fun t k => XS.isub X27.here hx rfl (hb hby d7_112) rfl k) ?_
                refine gv (fun t k => Jvm.Free.XT.dup2 X27.here hx rfl (hb hby d7_113) rfl rfl rfl k) ?_
                have F28 := (F20_25.other W27 (Ne.symm ne15))
                obtain ⟨c29, A29, q29, S29, N29, H29, G29⟩ := id F28
                have hin29 : ¬ (((r1.toInt32) - (1 : Int32)) < 0 ∨ c29.slots.size ≤ (((r1.toInt32) - (1 : Int32))).toNatClampNeg) := inb_of S29 ⟨by rw [own_m1 hb1.2]; exact own_nneg (by omega), by rw [own_m1 hb1.2]; exact (own_ltN (by omega) (by omega)).mpr (by omega)⟩
                have hat29 : c29.slots[(((r1.toInt32) - (1 : Int32))).toNatClampNeg]? = some (.int (bt.getD (r1 - 1) 0)) := (H29 _ (Nat.lt_of_not_le fun q => hin29 (Or.inr q))).trans (congrArg some (by rw [own_m1 hb1.2, own_clamp (by omega)]; exact own_getDI _ _))
                refine gv (fun t k => X27.iaload hx (j := ((r1.toInt32) - (1 : Int32))) (v := (.int (bt.getD (r1 - 1) 0))) (by rw [e27]; exact A29.1) (State.isArrayOf_alike hZ.alike A29.2.1) A29.2.2 hin29 hat29 (g := (mkF m 114 #[vr oa, vi ptb, vr oc, vr om, vr os, vr oR, vj ky, v2, vi (r1.toInt32), vr b7, vr b14, vi x11, vi (cl.getD i 0), vu, vu, vu, vu, vu, vu, vu, vu, vu] [(.int ((r1.toInt32) - (1 : Int32))), (.ref b14), (.int ((r1.toInt32) - (1 : Int32))), (.ref b14)])) rfl rfl (hb hby d7_114) t k) ?_
                refine gv (fun t k => XS.aloadN X27.here hx rfl (hb hby d7_115) rfl rfl k) ?_
                have F30 := (F20_0.other W27 (Or.inl (Nat.ne_of_lt (Nat.lt_of_lt_of_le P0.lt sz9))))
                obtain ⟨T31, X31, e31, st31⟩ := getF X27 hx hZ hown (host := "") (Or.inl (own_g hw 25 rfl)) Via.refl e27 F30 (g := (mkF m 116 #[vr oa, vi ptb, vr oc, vr om, vr os, vr oR, vj ky, v2, vi (r1.toInt32), vr b7, vr b14, vi x11, vi (cl.getD i 0), vu, vu, vu, vu, vu, vu, vu, vu, vu] [(.ref oa), (.int (bt.getD (r1 - 1) 0)), (.int ((r1.toInt32) - (1 : Int32))), (.ref b14)])) rfl rfl (hb hby d7_116)
                refine gv st31 ?_
                refine gv (fun t k => XS.iload X31.here hx rfl (hb hby d7_119) rfl k) ?_
                show Go p.tables e below P T31 (mkF m 121 #[vr oa, vi ptb, vr oc, vr om, vr os, vr oR, vj ky, v2, vi (r1.toInt32), vr b7, vr b14, vi x11, vi (cl.getD i 0), vu, vu, vu, vu, vu, vu, vu, vu, vu] [(.int (cl.getD i 0)), (.ref ow), (.int (bt.getD (r1 - 1) 0)), (.int ((r1.toInt32) - (1 : Int32))), (.ref b14)])
                have F32 := (F20_13.other W27 (Nat.ne_of_lt (Nat.lt_of_lt_of_le P13.lt sz9)))
                obtain ⟨c33, A33, q33, S33, N33, H33, G33⟩ := id F32
                have hin33 : ¬ ((cl.getD i 0) < 0 ∨ c33.slots.size ≤ ((cl.getD i 0)).toNatClampNeg) := inb_of S33 (hcp i hlt)
                have hat33 : c33.slots[((cl.getD i 0)).toNatClampNeg]? = some (.int (lw.getD (cl.getD i 0).toNatClampNeg 0)) := (H33 _ (Nat.lt_of_not_le fun q => hin33 (Or.inr q))).trans (congrArg some (own_getDI _ _))
                refine gv (fun t k => X31.iaload hx (j := (cl.getD i 0)) (v := (.int (lw.getD (cl.getD i 0).toNatClampNeg 0))) (by rw [e31]; exact A33.1) (State.isArrayOf_alike hZ.alike A33.2.1) A33.2.2 hin33 hat33 (g := (mkF m 121 #[vr oa, vi ptb, vr oc, vr om, vr os, vr oR, vj ky, v2, vi (r1.toInt32), vr b7, vr b14, vi x11, vi (cl.getD i 0), vu, vu, vu, vu, vu, vu, vu, vu, vu] [(.int (cl.getD i 0)), (.ref ow), (.int (bt.getD (r1 - 1) 0)), (.int ((r1.toInt32) - (1 : Int32))), (.ref b14)])) rfl rfl (hb hby d7_121) t k) ?_
                refine gv (fun t k => XS.iadd X31.here hx rfl (hb hby d7_122) rfl k) ?_
                obtain ⟨T34, h34, lc34, X34, e34, N34, Z34, K34, W34, V34, st34⟩ := own_stI X31 hx hZ e31 F28 N27 Z27 K27 g16 (Or.inr sz17) (j := ((r1.toInt32) - (1 : Int32))) ⟨by rw [own_m1 hb1.2]; exact own_nneg (by omega), by rw [own_m1 hb1.2]; exact (own_ltN (by omega) (by omega)).mpr (by omega)⟩ (ji := (r1 - 1)) (by rw [own_m1 hb1.2, own_clamp (by omega)]) (by rw [List.length_map, hl3.2]; omega) (g := (mkF m 123 #[vr oa, vi ptb, vr oc, vr om, vr os, vr oR, vj ky, v2, vi (r1.toInt32), vr b7, vr b14, vi x11, vi (cl.getD i 0), vu, vu, vu, vu, vu, vu, vu, vu, vu] [(.int ((bt.getD (r1 - 1) 0) + (lw.getD (cl.getD i 0).toNatClampNeg 0))), (.int ((r1.toInt32) - (1 : Int32))), (.ref b14)])) rfl rfl (hb hby d7_123)
                refine gv st34 ?_
                refine gv (fun t k => XS.iinc X34.here hx rfl (hb hby d7_124) rfl (l' := #[vr oa, vi ptb, vr oc, vr om, vr os, vr oR, vj ky, v2, vi (r1.toInt32), vr b7, vr b14, vi (x11 + (1 : Int32)), vi (cl.getD i 0), vu, vu, vu, vu, vu, vu, vu, vu, vu]) rfl k) ?_
                refine gv (fun t k => XS.goto X34.here hx rfl (pc0 := 127) (pc' := 61) rfl (hb hby d7_127) (by decide) (by decide) k) ?_
                have F35 := (V27.other W34 ne15)
                have F36 := (F30.other W34 (Or.inl (Nat.ne_of_lt (Nat.lt_of_lt_of_le P0.lt sz17))))
                have F37 := ((F20_1.other W27 (Or.inl (Nat.ne_of_lt (Nat.lt_of_lt_of_le P0.lt sz9)))).other W34 (Or.inl (Nat.ne_of_lt (Nat.lt_of_lt_of_le P0.lt sz17))))
                have F38 := ((F20_2.other W27 (Or.inl (Nat.ne_of_lt (Nat.lt_of_lt_of_le P0.lt sz9)))).other W34 (Or.inl (Nat.ne_of_lt (Nat.lt_of_lt_of_le P0.lt sz17))))
                have F39 := ((F20_3.other W27 (Or.inl (Nat.ne_of_lt (Nat.lt_of_lt_of_le P0.lt sz9)))).other W34 (Or.inl (Nat.ne_of_lt (Nat.lt_of_lt_of_le P0.lt sz17))))
                have F40 := ((F20_4.other W27 (Or.inl (Nat.ne_of_lt (Nat.lt_of_lt_of_le P0.lt sz9)))).other W34 (Or.inl (Nat.ne_of_lt (Nat.lt_of_lt_of_le P0.lt sz17))))
                have F41 := ((F20_5.other W27 (Or.inl (Nat.ne_of_lt (Nat.lt_of_lt_of_le P0.lt sz9)))).other W34 (Or.inl (Nat.ne_of_lt (Nat.lt_of_lt_of_le P0.lt sz17))))
                have F42 := ((F20_6.other W27 (Or.inl (Nat.ne_of_lt (Nat.lt_of_lt_of_le P0.lt sz9)))).other W34 (Or.inl (Nat.ne_of_lt (Nat.lt_of_lt_of_le P0.lt sz17))))
                have F43 := ((F20_7.other W27 (Or.inl (Nat.ne_of_lt (Nat.lt_of_lt_of_le P0.lt sz9)))).other W34 (Or.inl (Nat.ne_of_lt (Nat.lt_of_lt_of_le P0.lt sz17))))
                have F44 := ((F20_8.other W27 (Or.inl (Nat.ne_of_lt (Nat.lt_of_lt_of_le P0.lt sz9)))).other W34 (Or.inl (Nat.ne_of_lt (Nat.lt_of_lt_of_le P0.lt sz17))))
                have F45 := ((F20_9.other W27 (Nat.ne_of_lt (Nat.lt_of_lt_of_le P9.lt sz9))).other W34 (Nat.ne_of_lt (Nat.lt_of_lt_of_le P9.lt sz17)))
                have F46 := ((F20_10.other W27 (Nat.ne_of_lt (Nat.lt_of_lt_of_le P10.lt sz9))).other W34 (Nat.ne_of_lt (Nat.lt_of_lt_of_le P10.lt sz17)))
                have F47 := ((F20_11.other W27 (Nat.ne_of_lt (Nat.lt_of_lt_of_le P11.lt sz9))).other W34 (Nat.ne_of_lt (Nat.lt_of_lt_of_le P11.lt sz17)))
                have F48 := ((F20_12.other W27 (Nat.ne_of_lt (Nat.lt_of_lt_of_le P12.lt sz9))).other W34 (Nat.ne_of_lt (Nat.lt_of_lt_of_le P12.lt sz17)))
                have F49 := (F32.other W34 (Nat.ne_of_lt (Nat.lt_of_lt_of_le P13.lt sz17)))
                have F50 := ((F20_14.other W27 (Nat.ne_of_lt (Nat.lt_of_lt_of_le P14.lt sz9))).other W34 (Nat.ne_of_lt (Nat.lt_of_lt_of_le P14.lt sz17)))
                have F51 := ((F20_15.other W27 (Nat.ne_of_lt (Nat.lt_of_lt_of_le P15.lt sz9))).other W34 (Nat.ne_of_lt (Nat.lt_of_lt_of_le P15.lt sz17)))
                have F52 := ((F20_16.other W27 (Nat.ne_of_lt (Nat.lt_of_lt_of_le P16.lt sz9))).other W34 (Nat.ne_of_lt (Nat.lt_of_lt_of_le P16.lt sz17)))
                have F53 := ((F20_17.other W27 (Nat.ne_of_lt (Nat.lt_of_lt_of_le P17.lt sz9))).other W34 (Nat.ne_of_lt (Nat.lt_of_lt_of_le P17.lt sz17)))
                have F54 := ((F20_18.other W27 (Nat.ne_of_lt (Nat.lt_of_lt_of_le P18.lt sz9))).other W34 (Nat.ne_of_lt (Nat.lt_of_lt_of_le P18.lt sz17)))
                have F55 := ((F20_19.other W27 (Nat.ne_of_lt (Nat.lt_of_lt_of_le P19.lt sz9))).other W34 (Nat.ne_of_lt (Nat.lt_of_lt_of_le P19.lt sz17)))
                have F56 := ((F20_20.other W27 (Nat.ne_of_lt (Nat.lt_of_lt_of_le P20.lt sz9))).other W34 (Nat.ne_of_lt (Nat.lt_of_lt_of_le P20.lt sz17)))
                have F57 := ((F20_21.other W27 (Nat.ne_of_lt (Nat.lt_of_lt_of_le P21.lt sz9))).other W34 (Nat.ne_of_lt (Nat.lt_of_lt_of_le P21.lt sz17)))
                have F58 := ((F20_22.wr W27).wr W34)
                have F59 := ((F20_24.wr W27).wr W34)
                exact ih20 T34 _ h34 (i + 1) (x11 + (1 : Int32)) (r1.toInt32) r1 (sh.set (r1 - 1) (ls.getD (cl.getD i 0).toNatClampNeg 0)) (bt.set (r1 - 1) (bt.getD (r1 - 1) 0 + lw.getD (cl.getD i 0).toNatClampNeg 0)) (.val (.int (cl.getD i 0))) X34 e34 N34 Z34 K34 F36 F37 F38 F39 F40 F41 F42 F43 F44 F45 F46 F47 F48 F49 F50 F51 F52 F53 F54 F55 F56 F57 F58 (by rw [List.map_set]; exact F35) F59 (by rw [List.map_set]; exact V34) hlt (by rw [hx11]; exact own_succ i) rfl (by rw [own_rs, hrs, hr1]; rfl) (Or.inr ⟨_, rfl, rfl⟩) (by omega)
              by_cases hc24 : x11 = (0 : Int32)
              · refine gv (fun t k => XS.ifYes X20.here hx rfl (pc0 := 76) (pc' := 92) rfl (hb hby d7_76) rfl ((if0 _ _).trans (teq hc24).1) (by decide) (by decide) k) ?_
                refine gv (fun t k => XS.iinc X20.here hx rfl (hb hby d7_92) rfl (l' := #[vr oa, vi ptb, vr oc, vr om, vr os, vr oR, vj ky, v2, vi (x8 + (1 : Int32)), vr b7, vr b14, vi x11, vi (cl.getD i 0), vu, vu, vu, vu, vu, vu, vu, vu, vu]) rfl k) ?_
                exact J25 T20 _ (x8 + (1 : Int32)) X20 e20 N20 (if_pos hc24).symm
              · refine gv (fun t k => XS.ifNo X20.here hx rfl (hb hby d7_76) rfl ((if0 _ _).trans (feq hc24).1) k) ?_
                have hi0 : 0 < i := Nat.pos_of_ne_zero (fun q => hc24 (by rw [hx11, q]; rfl))
                refine gv (fun t k => XS.aloadN X20.here hx rfl (hb hby d7_79) rfl rfl k) ?_
                refine gv (fun t k => XS.iload X20.here hx rfl (hb hby d7_80) rfl k) ?_
                refine gv (fun t k => XS.iconst X20.here hx rfl (hb hby d7_82) k) ?_
                show Go p.tables e below P T20 (mkF m 83 #[vr oa, vi ptb, vr oc, vr om, vr os, vr oR, vj ky, v2, vi x8, vr b7, vr b14, vi x11, vi (cl.getD i 0), vu, vu, vu, vu, vu, vu, vu, vu, vu] [(.int 1), (.int x11), (.ref oc)])
                refine gv (fun t k => XS.isub X20.here hx rfl (hb hby d7_83) rfl k) ?_
                obtain ⟨c60, A60, q60, S60, N60, H60, G60⟩ := id F20_9
                have hin60 : ¬ ((x11 - (1 : Int32)) < 0 ∨ c60.slots.size ≤ ((x11 - (1 : Int32))).toNatClampNeg) := inb_of S60 ⟨by rw [hx11, own_m1 hi0]; exact own_nneg (by omega), by rw [hx11, own_m1 hi0]; exact (own_ltN (by omega) (by omega)).mpr (by omega)⟩
                have hat60 : c60.slots[((x11 - (1 : Int32))).toNatClampNeg]? = some (.int (cl.getD (i - 1) 0)) := (H60 _ (Nat.lt_of_not_le fun q => hin60 (Or.inr q))).trans (congrArg some (by rw [hx11, own_m1 hi0, own_clamp (by omega)]; exact own_getDI _ _))
                refine gv (fun t k => X20.iaload hx (j := (x11 - (1 : Int32))) (v := (.int (cl.getD (i - 1) 0))) (by rw [e20]; exact A60.1) (State.isArrayOf_alike hZ.alike A60.2.1) A60.2.2 hin60 hat60 (g := (mkF m 84 #[vr oa, vi ptb, vr oc, vr om, vr os, vr oR, vj ky, v2, vi x8, vr b7, vr b14, vi x11, vi (cl.getD i 0), vu, vu, vu, vu, vu, vu, vu, vu, vu] [(.int (x11 - (1 : Int32))), (.ref oc)])) rfl rfl (hb hby d7_84) t k) ?_
                refine gv (fun t k => XS.iload X20.here hx rfl (hb hby d7_85) rfl k) ?_
                refine gv (fun t k => XS.iconst X20.here hx rfl (hb hby d7_87) k) ?_
                refine gv (fun t k => XS.isub X20.here hx rfl (hb hby d7_88) rfl k) ?_
                by_cases hc61 : (cl.getD (i - 1) 0) = ((cl.getD i 0) - (1 : Int32))
                · refine gv (fun t k => XS.icmpYes X20.here hx rfl (pc0 := 89) (pc' := 95) rfl (hb hby d7_89) rfl (teq hc61).1 (by decide) (by decide) k) ?_
                  exact J25 T20 _ x8 X20 e20 N20 (Eq.trans (if_neg hc24) (if_pos hc61)).symm
                · refine gv (fun t k => XS.icmpNo X20.here hx rfl (hb hby d7_89) rfl (feq hc61).1 k) ?_
                  refine gv (fun t k => XS.iinc X20.here hx rfl (hb hby d7_92) rfl (l' := #[vr oa, vi ptb, vr oc, vr om, vr os, vr oR, vj ky, v2, vi (x8 + (1 : Int32)), vr b7, vr b14, vi x11, vi (cl.getD i 0), vu, vu, vu, vu, vu, vu, vu, vu, vu]) rfl k) ?_
                  exact J25 T20 _ (x8 + (1 : Int32)) X20 e20 N20 (Eq.trans (if_neg hc24) (if_neg hc61)).symm
            · refine gv (fun t k => XS.icmpYes X20.here hx rfl (pc0 := 65) (pc' := 130) rfl (hb hby d7_65) rfl (flt hc22).2.1 (by decide) (by decide) k) ?_
              have hge : nc = i := by have q := hc22; rw [hx11, own_ltN (by omega) (by omega)] at q; omega
              have hrs' : own_rs cl ls lw nc = (rn, sh, bt) := by rw [hge]; exact hrs
              have hb2 : rn ≤ nc ∧ 0 < rn := by have q := own_rs_b cl ls lw nc; rw [hrs'] at q; exact ⟨q.1, q.2 (by omega)⟩
              refine gv (fun t k => XS.aloadN X20.here hx rfl (hb hby d7_130) rfl rfl k) ?_
              refine gv (fun t k => XS.aloadN X20.here hx rfl (hb hby d7_131) rfl rfl k) ?_
              show Go p.tables e below P T20 (mkF m 132 #[vr oa, vi ptb, vr oc, vr om, vr os, vr oR, vj ky, v2, vi x8, vr b7, vr b14, vi x11, s20_12, vu, vu, vu, vu, vu, vu, vu, vu, vu] [(.ref oc), (.ref oc)])
              obtain ⟨c62, A62, -, S62, N62, -, -⟩ := id F20_9
              refine gv (fun t k => X20.arraylength hx (by rw [e20]; exact A62.1) (State.isArrayOf_alike hZ.alike A62.2.1) (g := (mkF m 132 #[vr oa, vi ptb, vr oc, vr om, vr os, vr oR, vj ky, v2, vi x8, vr b7, vr b14, vi x11, s20_12, vu, vu, vu, vu, vu, vu, vu, vu, vu] [(.ref oc), (.ref oc)])) rfl rfl (hb hby d7_132) t (by rw [len_of S62 N62]; exact k)) ?_
              refine gv (fun t k => XS.iconst X20.here hx rfl (hb hby d7_133) k) ?_
              refine gv (fun t k => XS.isub X20.here hx rfl (hb hby d7_134) rfl k) ?_
              obtain ⟨c63, A63, q63, S63, N63, H63, G63⟩ := id F20_9
              have hin63 : ¬ (((nc.toInt32) - (1 : Int32)) < 0 ∨ c63.slots.size ≤ (((nc.toInt32) - (1 : Int32))).toNatClampNeg) := inb_of S63 ⟨by rw [own_m1 (by omega)]; exact own_nneg (by omega), by rw [own_m1 (by omega)]; exact (own_ltN (by omega) (by omega)).mpr (by omega)⟩
              have hat63 : c63.slots[(((nc.toInt32) - (1 : Int32))).toNatClampNeg]? = some (.int (cl.getD (nc - 1) 0)) := (H63 _ (Nat.lt_of_not_le fun q => hin63 (Or.inr q))).trans (congrArg some (by rw [own_m1 (by omega), own_clamp (by omega)]; exact own_getDI _ _))
              refine gv (fun t k => X20.iaload hx (j := ((nc.toInt32) - (1 : Int32))) (v := (.int (cl.getD (nc - 1) 0))) (by rw [e20]; exact A63.1) (State.isArrayOf_alike hZ.alike A63.2.1) A63.2.2 hin63 hat63 (g := (mkF m 135 #[vr oa, vi ptb, vr oc, vr om, vr os, vr oR, vj ky, v2, vi x8, vr b7, vr b14, vi x11, s20_12, vu, vu, vu, vu, vu, vu, vu, vu, vu] [(.int ((nc.toInt32) - (1 : Int32))), (.ref oc)])) rfl rfl (hb hby d7_135) t k) ?_
              refine gv (fun t k => XS.istore X20.here hx rfl (hb hby d7_136) rfl (l' := #[vr oa, vi ptb, vr oc, vr om, vr os, vr oR, vj ky, v2, vi x8, vr b7, vr b14, vi (cl.getD (nc - 1) 0), s20_12, vu, vu, vu, vu, vu, vu, vu, vu, vu]) rfl k) ?_
              show Go p.tables e below P T20 (mkF m 138 #[vr oa, vi ptb, vr oc, vr om, vr os, vr oR, vj ky, v2, vi x8, vr b7, vr b14, vi (cl.getD (nc - 1) 0), s20_12, vu, vu, vu, vu, vu, vu, vu, vu, vu] [])
              obtain ⟨la, hla⟩ : ∃ z, z = (cl.getD (nc - 1) 0) := ⟨_, rfl⟩
              rw [← hla]
              have hlb : ¬ la < (0 : Int32) ∧ la < nB.toInt32 := by rw [hla]; exact hcp (nc - 1) (by omega)
              have hl5 : la.toNatClampNeg < nB := own_tn (by omega) hlb.1 hlb.2
              refine gv (fun t k => XS.lconst X20.here hx rfl (hb hby d7_138) k) ?_
              refine gv (fun t k => XS.lstore X20.here hx rfl (hb hby d7_139) rfl (l' := #[vr oa, vi ptb, vr oc, vr om, vr os, vr oR, vj ky, v2, vi x8, vr b7, vr b14, vi la, vj 0, v2, vu, vu, vu, vu, vu, vu, vu, vu]) (by rcases hos20_12 with q6 | ⟨w, q6, q7⟩ <;> subst q6 <;> first | rfl | (simp [storeLocals, storeSelf, setAt, q7]; rfl)) k) ?_
              refine gv (fun t k => XS.lconst X20.here hx rfl (hb hby d7_141) k) ?_
              refine gv (fun t k => XS.lstore X20.here hx rfl (hb hby d7_142) rfl (l' := #[vr oa, vi ptb, vr oc, vr om, vr os, vr oR, vj ky, v2, vi x8, vr b7, vr b14, vi la, vj 0, v2, vj 0, v2, vu, vu, vu, vu, vu, vu]) rfl k) ?_
              refine gv (fun t k => XS.iload X20.here hx rfl (hb hby d7_144) rfl k) ?_
              obtain ⟨T64, h64, k64, X64, e64, E64, A64, B64, st64⟩ := newPE X20 hx hZ (own_g hw 1 rfl) e20 (g := (mkF m 146 #[vr oa, vi ptb, vr oc, vr om, vr os, vr oR, vj ky, v2, vi x8, vr b7, vr b14, vi la, vj 0, v2, vj 0, v2, vu, vu, vu, vu, vu, vu] [(.int la)])) rfl (hb hby d7_146) rfl hlb.1 (cap := 4) (by omega) (by first | decide | (dsimp only; omega)) (by first | decide | (dsimp only; omega)) (by first | decide | (dsimp only; omega)) (ad := "[I") (by first | decide | (dsimp only; omega))
              obtain ⟨b64, g64⟩ : ∃ z, z = hp20.size := ⟨_, rfl⟩
              rw [← g64] at A64 B64 st64
              refine gv st64 ?_
              have ne65 := Nat.ne_of_lt (Nat.lt_of_lt_of_le F20_22.lt (Nat.le_of_eq g64.symm))
              have ne66 := Nat.ne_of_lt (Nat.lt_of_lt_of_le F20_24.lt (Nat.le_of_eq g64.symm))
              have g67 := Nat.le_trans Z20 (Nat.le_of_eq g64.symm)
              have sz68 := Nat.le_trans K20.1 (Nat.le_of_eq g64.symm)
              have Z69 := Nat.le_trans Z20 E64.1
              have K70 := K20.ext E64
              have V64 : Arv Z h64 b64 k64 .int la [(.int 0), (.int 0), (.int 0), (.int 0)] (.int 0) := (Arv.new A64 hlb.1).pad (pad_rep [] (.int 0) 4)
              refine gv (fun t k => XS.astore X64.here hx rfl (hb hby d7_148) rfl rfl (l' := #[vr oa, vi ptb, vr oc, vr om, vr os, vr oR, vj ky, v2, vi x8, vr b7, vr b14, vi la, vj 0, v2, vj 0, v2, vr b64, vu, vu, vu, vu, vu]) rfl k) ?_
              refine gv (fun t k => XS.iconst X64.here hx rfl (hb hby d7_150) k) ?_
              refine gv (fun t k => XS.istore X64.here hx rfl (hb hby d7_151) rfl (l' := #[vr oa, vi ptb, vr oc, vr om, vr os, vr oR, vj ky, v2, vi x8, vr b7, vr b14, vi la, vj 0, v2, vj 0, v2, vr b64, vi 0, vu, vu, vu, vu]) rfl k) ?_
              show Go p.tables e below P T64 (mkF m 153 #[vr oa, vi ptb, vr oc, vr om, vr os, vr oR, vj ky, v2, vi x8, vr b7, vr b14, vi la, vj 0, v2, vj 0, v2, vr b64, vi 0, vu, vu, vu, vu] [])
              refine gv (fun t k => XS.iconst X64.here hx rfl (hb hby d7_153) k) ?_
              refine gv (fun t k => XS.istore X64.here hx rfl (hb hby d7_154) rfl (l' := #[vr oa, vi ptb, vr oc, vr om, vr os, vr oR, vj ky, v2, vi x8, vr b7, vr b14, vi la, vj 0, v2, vj 0, v2, vr b64, vi 0, vi 0, vu, vu, vu]) rfl k) ?_
              have LP71 : ∀ (k71 : Nat) (T71 : State) (locs71 : List Loc) (hp71 : Heap) (jj : Nat) (x18 : Int32) (wc : Nat) (x17 : Int32) (ta : Int64) (tl : Int64) (wl : List Int32) (s71_19 : Slot) (s71_20 : Slot) (s71_21 : Slot), Stand p l e ({ frames := 3, cells := 8 + 3 * ra, slots := 88 + 163 * ra, locals := 64 } : Room) s m #[(.ref oa), (.int ptb), (.ref oc), (.ref om), (.ref os), (.ref oR)] below meth c T71 locs71 3 10 → T71.heap = hp71 → Fr n0 locs71 → n0 ≤ hp71.size → Keep h0 hp71 [or1, or2, or3, or4, or5, or6, or7] → Fld Z hp71 oa BLn "widths" "[I" (.ref ow) → Fld Z hp71 oa BLn "radii" "[I" (.ref oq) → Fld Z hp71 oa BLn "keyMasks" "[J" (.ref or1) → Fld Z hp71 oa BLn "runShifts" "[[I" (.ref or2) → Fld Z hp71 oa BLn "runWidths" "[[I" (.ref or3) → Fld Z hp71 oa BLn "keyDifferences" "[[J" (.ref or4) → Fld Z hp71 oa BLn "skippedTops" "[J" (.ref or5) → Fld Z hp71 oa BLn "skippedLows" "[J" (.ref or6) → Fld Z hp71 oa BLn "earlierWithRadius" "[[I" (.ref or7) → Arv Z hp71 oc kc .int (nc.toInt32) (cl.map Value.int) (.int 0) → Arv Z hp71 om km .long (nB.toInt32) (lm.map Value.long) (.long 0) → Arv Z hp71 os ks .int (nB.toInt32) (ls.map Value.int) (.int 0) → Arv Z hp71 oR kR .int (nB.toInt32) (lR.map Value.int) (.int 0) → Arv Z hp71 ow kw .int (nB.toInt32) (lw.map Value.int) (.int 0) → Arv Z hp71 oq kq .int (nC.toInt32) (lr.map Value.int) (.int 0) → Arv Z hp71 or1 ck1 .long (nC.toInt32) vl1 (.long 0) → Arv Z hp71 or2 ck2 (.array .int) (nC.toInt32) vl2 .null → Arv Z hp71 or3 ck3 (.array .int) (nC.toInt32) vl3 .null → Arv Z hp71 or4 ck4 (.array .long) (nC.toInt32) vl4 .null → Arv Z hp71 or5 ck5 .long (nC.toInt32) vl5 (.long 0) → Arv Z hp71 or6 ck6 .long (nC.toInt32) vl6 (.long 0) → Arv Z hp71 or7 ck7 (.array .int) (nC.toInt32) vl7 .null → Exa Z hp71 b7 "[I" → Arv Z hp71 b7 k7 .int (nc.toInt32) (sh.map Value.int) (.int 0) → Exa Z hp71 b14 "[I" → Arv Z hp71 b14 k14 .int (nc.toInt32) (bt.map Value.int) (.int 0) → Exa Z hp71 b64 "[I" → Arv Z hp71 b64 k64 .int la (wl.map Value.int) (.int 0) → jj ≤ la.toNatClampNeg → x18 = jj.toInt32 → wc ≤ jj → x17 = wc.toInt32 → wl.length = 4 → (s71_19 = .unset ∨ ∃ w, s71_19 = .val w ∧ w.category = 1) → ((s71_20 = .unset ∧ s71_21 = .unset) ∨ ∃ w, s71_20 = .val (.long w) ∧ s71_21 = .second) → la.toNatClampNeg - jj < k71 → Go p.tables e below P T71 (mkF m 156 #[.val (.ref oa), .val (.int ptb), .val (.ref oc), .val (.ref om), .val (.ref os), .val (.ref oR), .val (.long ky), .second, .val (.int x8), .val (.ref b7), .val (.ref b14), .val (.int la), .val (.long ta), .second, .val (.long tl), .second, .val (.ref b64), .val (.int x17), .val (.int x18), s71_19, s71_20, s71_21] []) := by
                intro k71
                induction k71 with
                | zero => intros; rename_i hk; exact absurd hk (Nat.not_lt_zero _)
                | succ k71 ih71 =>
                  intro T71 locs71 hp71 jj x18 wc x17 ta tl wl s71_19 s71_20 s71_21 X71 e71 N71 Z71 K71 F71_0 F71_1 F71_2 F71_3 F71_4 F71_5 F71_6 F71_7 F71_8 F71_9 F71_10 F71_11 F71_12 F71_13 F71_14 F71_15 F71_16 F71_17 F71_18 F71_19 F71_20 F71_21 F71_22 F71_23 F71_24 F71_25 F71_26 F71_27 hjj hx18 hwc hx17 hwl hos71_19 hos71_20 hk
                  show Go p.tables e below P T71 (mkF m 156 #[vr oa, vi ptb, vr oc, vr om, vr os, vr oR, vj ky, v2, vi x8, vr b7, vr b14, vi la, vj ta, v2, vj tl, v2, vr b64, vi x17, vi x18, s71_19, s71_20, s71_21] [])
                  refine gv (fun t k => XS.iload X71.here hx rfl (hb hby d7_156) rfl k) ?_
                  refine gv (fun t k => XS.iload X71.here hx rfl (hb hby d7_158) rfl k) ?_
                  by_cases hc72 : x18 < la
                  · refine gv (fun t k => XS.icmpNo X71.here hx rfl (hb hby d7_160) rfl (tlt hc72).2.1 k) ?_
                    have hlt3 : jj < la.toNatClampNeg := (own_ltC (by omega) hlb.1).mp (by rw [← hx18]; exact hc72)
                    refine gv (fun t k => XS.lload X71.here hx rfl (hb hby d7_163) rfl k) ?_
                    refine gv (fun t k => XS.aloadN X71.here hx rfl (hb hby d7_165) rfl rfl k) ?_
                    refine gv (fun t k => XS.iload X71.here hx rfl (hb hby d7_166) rfl k) ?_
                    obtain ⟨c73, A73, q73, S73, N73, H73, G73⟩ := id F71_10
                    have hin73 : ¬ (x18 < 0 ∨ c73.slots.size ≤ (x18).toNatClampNeg) := inb_of S73 ⟨by rw [hx18]; exact own_nneg (by omega), by rw [hx18]; exact (own_ltN (by omega) (by omega)).mpr (by omega)⟩
                    have hat73 : c73.slots[(x18).toNatClampNeg]? = some (.long (lm.getD jj 0)) := (H73 _ (Nat.lt_of_not_le fun q => hin73 (Or.inr q))).trans (congrArg some (by rw [hx18, own_clamp (by omega)]; exact own_getDJ _ _))
                    refine gv (fun t k => X71.laload hx (j := x18) (v := (.long (lm.getD jj 0))) (by rw [e71]; exact A73.1) (State.isArrayOf_alike hZ.alike A73.2.1) A73.2.2 hin73 hat73 (g := (mkF m 168 #[vr oa, vi ptb, vr oc, vr om, vr os, vr oR, vj ky, v2, vi x8, vr b7, vr b14, vi la, vj ta, v2, vj tl, v2, vr b64, vi x17, vi x18, s71_19, s71_20, s71_21] [(.int x18), (.ref om), (.long ky)])) rfl rfl (hb hby d7_168) t k) ?_
                    refine gv (fun t k => XS.land X71.here hx rfl (hb hby d7_169) rfl k) ?_
                    refine gv (fun t k => XS.lconst X71.here hx rfl (hb hby d7_170) k) ?_
                    show Go p.tables e below P T71 (mkF m 171 #[vr oa, vi ptb, vr oc, vr om, vr os, vr oR, vj ky, v2, vi x8, vr b7, vr b14, vi la, vj ta, v2, vj tl, v2, vr b64, vi x17, vi x18, s71_19, s71_20, s71_21] [(.long 0), (.long (ky &&& (lm.getD jj 0)))])
                    refine gv (fun t k => XS.lcmp X71.here hx rfl (hb hby d7_171) rfl k) ?_
                    show Go p.tables e below P T71 (mkF m 172 #[vr oa, vi ptb, vr oc, vr om, vr os, vr oR, vj ky, v2, vi x8, vr b7, vr b14, vi la, vj ta, v2, vj tl, v2, vr b64, vi x17, vi x18, s71_19, s71_20, s71_21] [(.int (lcmpW (ky &&& (lm.getD jj 0)) (0 : Int64)))])
                    have J75 : ∀ (T75 : State) (locs75 : List Loc) (v75_0 : Int32), Stand p l e ({ frames := 3, cells := 8 + 3 * ra, slots := 88 + 163 * ra, locals := 64 } : Room) s m #[(.ref oa), (.int ptb), (.ref oc), (.ref om), (.ref os), (.ref oR)] below meth c T75 locs75 3 10 → T75.heap = hp71 → Fr n0 locs75 → v75_0 = (if (lcmpW (ky &&& (lm.getD jj 0)) (0 : Int64)) = (0 : Int32) then (1 : Int32) else (0 : Int32)) → Go p.tables e below P T75 (mkF m 180 #[.val (.ref oa), .val (.int ptb), .val (.ref oc), .val (.ref om), .val (.ref os), .val (.ref oR), .val (.long ky), .second, .val (.int x8), .val (.ref b7), .val (.ref b14), .val (.int la), .val (.long ta), .second, .val (.long tl), .second, .val (.ref b64), .val (.int x17), .val (.int x18), s71_19, s71_20, s71_21] [(.int v75_0)]) := by
                      intro T75 locs75 v75_0 X75 e75 N75 hv75_0
                      have hbv75_0 : v75_0 = 0 ∨ v75_0 = 1 := by (subst hv75_0; (repeat' split) <;> first | (left; rfl) | (right; rfl))
                      refine gv (fun t k => XS.istore X75.here hx rfl (hb hby d7_180) rfl (l' := #[vr oa, vi ptb, vr oc, vr om, vr os, vr oR, vj ky, v2, vi x8, vr b7, vr b14, vi la, vj ta, v2, vj tl, v2, vr b64, vi x17, vi x18, vi v75_0, s71_20, s71_21]) (XS.store1 rfl hos71_19 rfl) k) ?_
                      refine gv (fun t k => XS.iload X75.here hx rfl (hb hby d7_182) rfl k) ?_
                      by_cases hc76 : v75_0 = (0 : Int32)
                      · refine gv (fun t k => XS.ifYes X75.here hx rfl (pc0 := 184) (pc' := 208) rfl (hb hby d7_184) rfl ((if0 _ _).trans (teq hc76).1) (by decide) (by decide) k) ?_
                        refine gv (fun t k => XS.iload X75.here hx rfl (hb hby d7_208) rfl k) ?_
                        refine gv (fun t k => XS.ifYes X75.here hx rfl (pc0 := 210) (pc' := 245) rfl (hb hby d7_210) rfl ((if0 _ _).trans (teq hc76).1) (by decide) (by decide) k) ?_
                        refine gv (fun t k => XS.iinc X75.here hx rfl (hb hby d7_245) rfl (l' := #[vr oa, vi ptb, vr oc, vr om, vr os, vr oR, vj ky, v2, vi x8, vr b7, vr b14, vi la, vj ta, v2, vj tl, v2, vr b64, vi x17, vi (x18 + (1 : Int32)), vi v75_0, s71_20, s71_21]) rfl k) ?_
                        refine gv (fun t k => XS.goto X75.here hx rfl (pc0 := 248) (pc' := 156) rfl (hb hby d7_248) (by decide) (by decide) k) ?_
                        exact ih71 T75 _ hp71 (jj + 1) (x18 + (1 : Int32)) wc x17 ta tl wl (.val (.int v75_0)) s71_20 s71_21 X75 e75 N75 Z71 K71 F71_0 F71_1 F71_2 F71_3 F71_4 F71_5 F71_6 F71_7 F71_8 F71_9 F71_10 F71_11 F71_12 F71_13 F71_14 F71_15 F71_16 F71_17 F71_18 F71_19 F71_20 F71_21 F71_22 F71_23 F71_24 F71_25 F71_26 F71_27 hlt3 (by rw [hx18]; exact own_succ jj) (by omega) hx17 hwl (Or.inr ⟨_, rfl, rfl⟩) hos71_20 (by omega)
                      · refine gv (fun t k => XS.ifNo X75.here hx rfl (hb hby d7_184) rfl ((if0 _ _).trans (feq hc76).1) k) ?_
                        refine gv (fun t k => XS.aload X75.here hx rfl (hb hby d7_187) rfl rfl k) ?_
                        show Go p.tables e below P T75 (mkF m 189 #[vr oa, vi ptb, vr oc, vr om, vr os, vr oR, vj ky, v2, vi x8, vr b7, vr b14, vi la, vj ta, v2, vj tl, v2, vr b64, vi x17, vi x18, vi v75_0, s71_20, s71_21] [(.ref oR)])
                        refine gv (fun t k => XS.iload X75.here hx rfl (hb hby d7_189) rfl k) ?_
                        obtain ⟨c77, A77, q77, S77, N77, H77, G77⟩ := id F71_12
                        have hin77 : ¬ (x18 < 0 ∨ c77.slots.size ≤ (x18).toNatClampNeg) := inb_of S77 ⟨by rw [hx18]; exact own_nneg (by omega), by rw [hx18]; exact (own_ltN (by omega) (by omega)).mpr (by omega)⟩
                        have hat77 : c77.slots[(x18).toNatClampNeg]? = some (.int (lR.getD jj 0)) := (H77 _ (Nat.lt_of_not_le fun q => hin77 (Or.inr q))).trans (congrArg some (by rw [hx18, own_clamp (by omega)]; exact own_getDI _ _))
                        refine gv (fun t k => X75.iaload hx (j := x18) (v := (.int (lR.getD jj 0))) (by rw [e75]; exact A77.1) (State.isArrayOf_alike hZ.alike A77.2.1) A77.2.2 hin77 hat77 (g := (mkF m 191 #[vr oa, vi ptb, vr oc, vr om, vr os, vr oR, vj ky, v2, vi x8, vr b7, vr b14, vi la, vj ta, v2, vj tl, v2, vr b64, vi x17, vi x18, vi v75_0, s71_20, s71_21] [(.int x18), (.ref oR)])) rfl rfl (hb hby d7_191) t k) ?_
                        by_cases hc78 : (0 : Int32) < (lR.getD jj 0)
                        · refine gv (fun t k => XS.ifNo X75.here hx rfl (hb hby d7_192) rfl ((if0 _ _).trans (tlt hc78).2.2.2) k) ?_
                          refine gv (fun t k => XS.aload X75.here hx rfl (hb hby d7_195) rfl rfl k) ?_
                          refine gv (fun t k => XS.iload X75.here hx rfl (hb hby d7_197) rfl k) ?_
                          refine gv (fun t k => XS.iload X75.here hx rfl (hb hby d7_199) rfl k) ?_
                          obtain ⟨T79, h79, lc79, X79, e79, N79, Z79, K79, W79, V79, st79⟩ := own_stI X75 hx hZ e75 F71_27 N75 Z71 K71 g67 (Or.inr sz68) (j := x17) ⟨by rw [hx17]; exact own_nneg (by omega), by rw [hx17]; exact (own_ltC (by omega) hlb.1).mpr (by omega)⟩ (ji := wc) (by rw [hx17, own_clamp (by omega)]) (by rw [List.length_map, hwl]; omega) (g := (mkF m 201 #[vr oa, vi ptb, vr oc, vr om, vr os, vr oR, vj ky, v2, vi x8, vr b7, vr b14, vi la, vj ta, v2, vj tl, v2, vr b64, vi x17, vi x18, vi v75_0, s71_20, s71_21] [(.int x18), (.int x17), (.ref b64)])) rfl rfl (hb hby d7_201)
                          refine gv st79 ?_
                          refine gv (fun t k => XS.iinc X79.here hx rfl (hb hby d7_202) rfl (l' := #[vr oa, vi ptb, vr oc, vr om, vr os, vr oR, vj ky, v2, vi x8, vr b7, vr b14, vi la, vj ta, v2, vj tl, v2, vr b64, vi (x17 + (1 : Int32)), vi x18, vi v75_0, s71_20, s71_21]) rfl k) ?_
                          refine gv (fun t k => XS.goto X79.here hx rfl (pc0 := 205) (pc' := 245) rfl (hb hby d7_205) (by decide) (by decide) k) ?_
                          show Go p.tables e below P T79 (mkF m 245 #[vr oa, vi ptb, vr oc, vr om, vr os, vr oR, vj ky, v2, vi x8, vr b7, vr b14, vi la, vj ta, v2, vj tl, v2, vr b64, vi (x17 + (1 : Int32)), vi x18, vi v75_0, s71_20, s71_21] [])
                          refine gv (fun t k => XS.iinc X79.here hx rfl (hb hby d7_245) rfl (l' := #[vr oa, vi ptb, vr oc, vr om, vr os, vr oR, vj ky, v2, vi x8, vr b7, vr b14, vi la, vj ta, v2, vj tl, v2, vr b64, vi (x17 + (1 : Int32)), vi (x18 + (1 : Int32)), vi v75_0, s71_20, s71_21]) rfl k) ?_
                          refine gv (fun t k => XS.goto X79.here hx rfl (pc0 := 248) (pc' := 156) rfl (hb hby d7_248) (by decide) (by decide) k) ?_
                          have F80 := (F71_0.other W79 (Or.inl (Nat.ne_of_lt (Nat.lt_of_lt_of_le P0.lt sz68))))
                          have F81 := (F71_1.other W79 (Or.inl (Nat.ne_of_lt (Nat.lt_of_lt_of_le P0.lt sz68))))
                          have F82 := (F71_2.other W79 (Or.inl (Nat.ne_of_lt (Nat.lt_of_lt_of_le P0.lt sz68))))
                          have F83 := (F71_3.other W79 (Or.inl (Nat.ne_of_lt (Nat.lt_of_lt_of_le P0.lt sz68))))
                          have F84 := (F71_4.other W79 (Or.inl (Nat.ne_of_lt (Nat.lt_of_lt_of_le P0.lt sz68))))
                          have F85 := (F71_5.other W79 (Or.inl (Nat.ne_of_lt (Nat.lt_of_lt_of_le P0.lt sz68))))
                          have F86 := (F71_6.other W79 (Or.inl (Nat.ne_of_lt (Nat.lt_of_lt_of_le P0.lt sz68))))
                          have F87 := (F71_7.other W79 (Or.inl (Nat.ne_of_lt (Nat.lt_of_lt_of_le P0.lt sz68))))
                          have F88 := (F71_8.other W79 (Or.inl (Nat.ne_of_lt (Nat.lt_of_lt_of_le P0.lt sz68))))
                          have F89 := (F71_9.other W79 (Nat.ne_of_lt (Nat.lt_of_lt_of_le P9.lt sz68)))
                          have F90 := (F71_10.other W79 (Nat.ne_of_lt (Nat.lt_of_lt_of_le P10.lt sz68)))
                          have F91 := (F71_11.other W79 (Nat.ne_of_lt (Nat.lt_of_lt_of_le P11.lt sz68)))
                          have F92 := (F71_12.other W79 (Nat.ne_of_lt (Nat.lt_of_lt_of_le P12.lt sz68)))
                          have F93 := (F71_13.other W79 (Nat.ne_of_lt (Nat.lt_of_lt_of_le P13.lt sz68)))
                          have F94 := (F71_14.other W79 (Nat.ne_of_lt (Nat.lt_of_lt_of_le P14.lt sz68)))
                          have F95 := (F71_15.other W79 (Nat.ne_of_lt (Nat.lt_of_lt_of_le P15.lt sz68)))
                          have F96 := (F71_16.other W79 (Nat.ne_of_lt (Nat.lt_of_lt_of_le P16.lt sz68)))
                          have F97 := (F71_17.other W79 (Nat.ne_of_lt (Nat.lt_of_lt_of_le P17.lt sz68)))
                          have F98 := (F71_18.other W79 (Nat.ne_of_lt (Nat.lt_of_lt_of_le P18.lt sz68)))
                          have F99 := (F71_19.other W79 (Nat.ne_of_lt (Nat.lt_of_lt_of_le P19.lt sz68)))
                          have F100 := (F71_20.other W79 (Nat.ne_of_lt (Nat.lt_of_lt_of_le P20.lt sz68)))
                          have F101 := (F71_21.other W79 (Nat.ne_of_lt (Nat.lt_of_lt_of_le P21.lt sz68)))
                          have F102 := (F71_22.wr W79)
                          have F103 := (F71_23.other W79 ne65)
                          have F104 := (F71_24.wr W79)
                          have F105 := (F71_25.other W79 ne66)
                          have F106 := (F71_26.wr W79)
                          exact ih71 T79 _ h79 (jj + 1) (x18 + (1 : Int32)) (wc + 1) (x17 + (1 : Int32)) ta tl (wl.set wc x18) (.val (.int v75_0)) s71_20 s71_21 X79 e79 N79 Z79 K79 F80 F81 F82 F83 F84 F85 F86 F87 F88 F89 F90 F91 F92 F93 F94 F95 F96 F97 F98 F99 F100 F101 F102 F103 F104 F105 F106 (by rw [List.map_set]; exact V79) hlt3 (by rw [hx18]; exact own_succ jj) (by omega) (by rw [hx17]; exact own_succ wc) (by rw [List.length_set]; exact hwl) (Or.inr ⟨_, rfl, rfl⟩) hos71_20 (by omega)
                        · refine gv (fun t k => XS.ifYes X75.here hx rfl (pc0 := 192) (pc' := 208) rfl (hb hby d7_192) rfl ((if0 _ _).trans (flt hc78).2.2.2) (by decide) (by decide) k) ?_
                          refine gv (fun t k => XS.iload X75.here hx rfl (hb hby d7_208) rfl k) ?_
                          refine gv (fun t k => XS.ifNo X75.here hx rfl (hb hby d7_210) rfl ((if0 _ _).trans (feq hc76).1) k) ?_
                          refine gv (fun t k => XS.aloadN X75.here hx rfl (hb hby d7_213) rfl rfl k) ?_
                          refine gv (fun t k => XS.iload X75.here hx rfl (hb hby d7_214) rfl k) ?_
                          obtain ⟨c107, A107, q107, S107, N107, H107, G107⟩ := id F71_10
                          have hin107 : ¬ (x18 < 0 ∨ c107.slots.size ≤ (x18).toNatClampNeg) := inb_of S107 ⟨by rw [hx18]; exact own_nneg (by omega), by rw [hx18]; exact (own_ltN (by omega) (by omega)).mpr (by omega)⟩
                          have hat107 : c107.slots[(x18).toNatClampNeg]? = some (.long (lm.getD jj 0)) := (H107 _ (Nat.lt_of_not_le fun q => hin107 (Or.inr q))).trans (congrArg some (by rw [hx18, own_clamp (by omega)]; exact own_getDJ _ _))
                          refine gv (fun t k => X75.laload hx (j := x18) (v := (.long (lm.getD jj 0))) (by rw [e75]; exact A107.1) (State.isArrayOf_alike hZ.alike A107.2.1) A107.2.2 hin107 hat107 (g := (mkF m 216 #[vr oa, vi ptb, vr oc, vr om, vr os, vr oR, vj ky, v2, vi x8, vr b7, vr b14, vi la, vj ta, v2, vj tl, v2, vr b64, vi x17, vi x18, vi v75_0, s71_20, s71_21] [(.int x18), (.ref om)])) rfl rfl (hb hby d7_216) t k) ?_
                          obtain ⟨_, _, ⟨T108, L108, k108, n108⟩, -, X108, ⟨Lc108, hQ108, l108, y108, z108⟩, st108⟩ := Jvm.LawKit.callS X75 hx (y := (⟨"java/lang/Long", "highestOneBit", "(J)J"⟩ : MethodName)) hown (mvT hZ (own_g hw 110 rfl)) (mvT hZ (own_g hw 111 rfl)) (mvT hZ (own_g hw 73 rfl)) (mvT hZ (own_g hw 112 rfl)) (by first | decide | (dsimp only; omega)) (backOf (W := 0) (rm18 l Z a0 hw [] (lm.getD jj 0) hp71 n0 Z71 ) hZ (own_g hw 112 rfl) (own_g hw 73 rfl) (by first | decide | (dsimp only; omega)) (by first | decide | (dsimp only; omega))) (g := (mkF m 217 #[vr oa, vi ptb, vr oc, vr om, vr os, vr oR, vj ky, v2, vi x8, vr b7, vr b14, vi la, vj ta, v2, vj tl, v2, vr b64, vi x17, vi x18, vi v75_0, s71_20, s71_21] [(.long (lm.getD jj 0))])) rfl (by rw [hml]; rfl) (argsL := [(.long (lm.getD jj 0))]) (rest := []) (lenOf own_pd6 rfl) rfl (by show 2 * 0 + _ ≤ _; exact Nat.le_of_eq rfl) (hb hby d7_217) (fun _ _ => ⟨rfl, e75, (by dsimp only; omega : 3 + 0 ≤ _), (by dsimp only; omega : 10 + 0 ≤ _)⟩)
                          dsimp only [Pt.U, Pt.locs, Pt.cells, Pt.slots] at X108 l108 y108 z108 st108 hQ108
                          subst l108 y108 z108
                          obtain ⟨qr_108, rfl, Nq108, hh108⟩ := hQ108
                          obtain ⟨lc108, Xh108, N108⟩ := own_hide X108 (Fr.app N75 Nq108)
                          clear X108
                          refine gv st108 ?_
                          refine gv (fun t k => XS.lstore Xh108.here hx rfl (hb hby d7_220) rfl (l' := #[vr oa, vi ptb, vr oc, vr om, vr os, vr oR, vj ky, v2, vi x8, vr b7, vr b14, vi la, vj ta, v2, vj tl, v2, vr b64, vi x17, vi x18, vi v75_0, vj qr_108, v2]) (by rcases hos71_20 with ⟨q6, q7⟩ | ⟨w, q6, q7⟩ <;> subst q6 q7 <;> rfl) k) ?_
                          show Go p.tables e below P T108 (mkF m 222 #[vr oa, vi ptb, vr oc, vr om, vr os, vr oR, vj ky, v2, vi x8, vr b7, vr b14, vi la, vj ta, v2, vj tl, v2, vr b64, vi x17, vi x18, vi v75_0, vj qr_108, v2] [])
                          refine gv (fun t k => XS.lload Xh108.here hx rfl (hb hby d7_222) rfl k) ?_
                          refine gv (fun t k => XS.lload Xh108.here hx rfl (hb hby d7_224) rfl k) ?_
                          refine gv (fun t k => XS.lor Xh108.here hx rfl (hb hby d7_226) rfl k) ?_
                          refine gv (fun t k => XS.lstore Xh108.here hx rfl (hb hby d7_227) rfl (l' := #[vr oa, vi ptb, vr oc, vr om, vr os, vr oR, vj ky, v2, vi x8, vr b7, vr b14, vi la, vj (ta ||| qr_108), v2, vj tl, v2, vr b64, vi x17, vi x18, vi v75_0, vj qr_108, v2]) rfl k) ?_
                          refine gv (fun t k => XS.lload Xh108.here hx rfl (hb hby d7_229) rfl k) ?_
                          refine gv (fun t k => XS.aloadN Xh108.here hx rfl (hb hby d7_231) rfl rfl k) ?_
                          refine gv (fun t k => XS.iload Xh108.here hx rfl (hb hby d7_232) rfl k) ?_
                          obtain ⟨c109, A109, q109, S109, N109, H109, G109⟩ := id F71_10
                          have hin109 : ¬ (x18 < 0 ∨ c109.slots.size ≤ (x18).toNatClampNeg) := inb_of S109 ⟨by rw [hx18]; exact own_nneg (by omega), by rw [hx18]; exact (own_ltN (by omega) (by omega)).mpr (by omega)⟩
                          have hat109 : c109.slots[(x18).toNatClampNeg]? = some (.long (lm.getD jj 0)) := (H109 _ (Nat.lt_of_not_le fun q => hin109 (Or.inr q))).trans (congrArg some (by rw [hx18, own_clamp (by omega)]; exact own_getDJ _ _))
                          refine gv (fun t k => Xh108.laload hx (j := x18) (v := (.long (lm.getD jj 0))) (by rw [hh108]; exact A109.1) (State.isArrayOf_alike hZ.alike A109.2.1) A109.2.2 hin109 hat109 (g := (mkF m 234 #[vr oa, vi ptb, vr oc, vr om, vr os, vr oR, vj ky, v2, vi x8, vr b7, vr b14, vi la, vj (ta ||| qr_108), v2, vj tl, v2, vr b64, vi x17, vi x18, vi v75_0, vj qr_108, v2] [(.int x18), (.ref om), (.long tl)])) rfl rfl (hb hby d7_234) t k) ?_
                          refine gv (fun t k => XS.lload Xh108.here hx rfl (hb hby d7_235) rfl k) ?_
                          show Go p.tables e below P T108 (mkF m 237 #[vr oa, vi ptb, vr oc, vr om, vr os, vr oR, vj ky, v2, vi x8, vr b7, vr b14, vi la, vj (ta ||| qr_108), v2, vj tl, v2, vr b64, vi x17, vi x18, vi v75_0, vj qr_108, v2] [(.long qr_108), (.long (lm.getD jj 0)), (.long tl)])
                          refine gv (fun t k => Xh108.ldc2Long hx hown (mvT hZ (own_g hw 30 rfl)) (g := (mkF m 237 #[vr oa, vi ptb, vr oc, vr om, vr os, vr oR, vj ky, v2, vi x8, vr b7, vr b14, vi la, vj (ta ||| qr_108), v2, vj tl, v2, vr b64, vi x17, vi x18, vi v75_0, vj qr_108, v2] [(.long qr_108), (.long (lm.getD jj 0)), (.long tl)])) rfl (hb hby d7_237) t k) ?_
                          refine gv (fun t k => XS.lxor Xh108.here hx rfl (hb hby d7_240) rfl k) ?_
                          refine gv (fun t k => XS.land Xh108.here hx rfl (hb hby d7_241) rfl k) ?_
                          refine gv (fun t k => XS.lor Xh108.here hx rfl (hb hby d7_242) rfl k) ?_
                          refine gv (fun t k => XS.lstore Xh108.here hx rfl (hb hby d7_243) rfl (l' := #[vr oa, vi ptb, vr oc, vr om, vr os, vr oR, vj ky, v2, vi x8, vr b7, vr b14, vi la, vj (ta ||| qr_108), v2, vj (tl ||| ((lm.getD jj 0) &&& (qr_108 ^^^ (-1 : Int64)))), v2, vr b64, vi x17, vi x18, vi v75_0, vj qr_108, v2]) rfl k) ?_
                          refine gv (fun t k => XS.iinc Xh108.here hx rfl (hb hby d7_245) rfl (l' := #[vr oa, vi ptb, vr oc, vr om, vr os, vr oR, vj ky, v2, vi x8, vr b7, vr b14, vi la, vj (ta ||| qr_108), v2, vj (tl ||| ((lm.getD jj 0) &&& (qr_108 ^^^ (-1 : Int64)))), v2, vr b64, vi x17, vi (x18 + (1 : Int32)), vi v75_0, vj qr_108, v2]) rfl k) ?_
                          refine gv (fun t k => XS.goto Xh108.here hx rfl (pc0 := 248) (pc' := 156) rfl (hb hby d7_248) (by decide) (by decide) k) ?_
                          exact ih71 T108 _ hp71 (jj + 1) (x18 + (1 : Int32)) wc x17 (ta ||| qr_108) (tl ||| ((lm.getD jj 0) &&& (qr_108 ^^^ (-1 : Int64)))) wl (.val (.int v75_0)) (.val (.long qr_108)) .second Xh108 hh108 N108 Z71 K71 F71_0 F71_1 F71_2 F71_3 F71_4 F71_5 F71_6 F71_7 F71_8 F71_9 F71_10 F71_11 F71_12 F71_13 F71_14 F71_15 F71_16 F71_17 F71_18 F71_19 F71_20 F71_21 F71_22 F71_23 F71_24 F71_25 F71_26 F71_27 hlt3 (by rw [hx18]; exact own_succ jj) (by omega) hx17 hwl (Or.inr ⟨_, rfl, rfl⟩) (Or.inr ⟨_, rfl, rfl⟩) (by omega)
                    by_cases hc74 : (lcmpW (ky &&& (lm.getD jj 0)) (0 : Int64)) = (0 : Int32)
                    · refine gv (fun t k => XS.ifNo X71.here hx rfl (hb hby d7_172) rfl ((if0 _ _).trans (teq hc74).2) k) ?_
                      refine gv (fun t k => XS.iconst X71.here hx rfl (hb hby d7_175) k) ?_
                      refine gv (fun t k => XS.goto X71.here hx rfl (pc0 := 176) (pc' := 180) rfl (hb hby d7_176) (by decide) (by decide) k) ?_
                      exact J75 T71 _ (1 : Int32) X71 e71 N71 (if_pos hc74).symm
                    · refine gv (fun t k => XS.ifYes X71.here hx rfl (pc0 := 172) (pc' := 179) rfl (hb hby d7_172) rfl ((if0 _ _).trans (feq hc74).2) (by decide) (by decide) k) ?_
                      show Go p.tables e below P T71 (mkF m 179 #[vr oa, vi ptb, vr oc, vr om, vr os, vr oR, vj ky, v2, vi x8, vr b7, vr b14, vi la, vj ta, v2, vj tl, v2, vr b64, vi x17, vi x18, s71_19, s71_20, s71_21] [])
                      refine gv (fun t k => XS.iconst X71.here hx rfl (hb hby d7_179) k) ?_
                      exact J75 T71 _ (0 : Int32) X71 e71 N71 (if_neg hc74).symm
                  · refine gv (fun t k => XS.icmpYes X71.here hx rfl (pc0 := 160) (pc' := 251) rfl (hb hby d7_160) rfl (flt hc72).2.1 (by decide) (by decide) k) ?_
                    refine gv (fun t k => XS.aloadN X71.here hx rfl (hb hby d7_251) rfl rfl k) ?_
                    obtain ⟨T110, X110, e110, st110⟩ := getF X71 hx hZ hown (host := "") (Or.inl (own_g hw 33 rfl)) Via.refl e71 F71_2 (g := (mkF m 252 #[vr oa, vi ptb, vr oc, vr om, vr os, vr oR, vj ky, v2, vi x8, vr b7, vr b14, vi la, vj ta, v2, vj tl, v2, vr b64, vi x17, vi x18, s71_19, s71_20, s71_21] [(.ref oa)])) rfl rfl (hb hby d7_252)
                    refine gv st110 ?_
                    refine gv (fun t k => XS.iloadN X110.here hx rfl (hb hby d7_255) rfl k) ?_
                    refine gv (fun t k => XS.lload X110.here hx rfl (hb hby d7_256) rfl k) ?_
                    obtain ⟨T111, h111, lc111, X111, e111, N111, Z111, K111, W111, V111, st111⟩ := own_stJ X110 hx hZ e110 F71_15 N71 Z71 K71 gr1 (Or.inl (List.mem_of_getElem? (i := 0) rfl)) (j := ptb) ⟨by rw [hptb]; exact own_nneg (by omega), by rw [hptb]; exact (own_ltN (by omega) (by omega)).mpr (by omega)⟩ (ji := tb) (by rw [hptb, own_clamp (by omega)]) (Nat.lt_of_lt_of_le htb hvl1) (g := (mkF m 258 #[vr oa, vi ptb, vr oc, vr om, vr os, vr oR, vj ky, v2, vi x8, vr b7, vr b14, vi la, vj ta, v2, vj tl, v2, vr b64, vi x17, vi x18, s71_19, s71_20, s71_21] [(.long ky), (.int ptb), (.ref or1)])) rfl rfl (hb hby d7_258)
                    refine gv st111 ?_
                    refine gv (fun t k => XS.aloadN X111.here hx rfl (hb hby d7_259) rfl rfl k) ?_
                    have F112 := (F71_3.other W111 (Or.inl nb1))
                    obtain ⟨T113, X113, e113, st113⟩ := getF X111 hx hZ hown (host := "") (Or.inl (own_g hw 37 rfl)) Via.refl e111 F112 (g := (mkF m 260 #[vr oa, vi ptb, vr oc, vr om, vr os, vr oR, vj ky, v2, vi x8, vr b7, vr b14, vi la, vj ta, v2, vj tl, v2, vr b64, vi x17, vi x18, s71_19, s71_20, s71_21] [(.ref oa)])) rfl rfl (hb hby d7_260)
                    refine gv st113 ?_
                    refine gv (fun t k => XS.iloadN X113.here hx rfl (hb hby d7_263) rfl k) ?_
                    show Go p.tables e below P T113 (mkF m 264 #[vr oa, vi ptb, vr oc, vr om, vr os, vr oR, vj ky, v2, vi x8, vr b7, vr b14, vi la, vj ta, v2, vj tl, v2, vr b64, vi x17, vi x18, s71_19, s71_20, s71_21] [(.int ptb), (.ref or2)])
                    refine gv (fun t k => XS.aload X113.here hx rfl (hb hby d7_264) rfl rfl k) ?_
                    refine gv (fun t k => XS.iload X113.here hx rfl (hb hby d7_266) rfl k) ?_
                    have F114 := (F71_23.other W111 (Ne.symm (Nat.ne_of_lt (Nat.lt_of_lt_of_le P15.lt sz9))))
                    have F115 := (F71_22.wr W111)
                    obtain ⟨_, _, ⟨T116, L116, k116, n116⟩, -, X116, ⟨Lc116, hQ116, l116, y116, z116⟩, st116⟩ := Jvm.LawKit.callS X113 hx (y := (⟨"java/util/Arrays", "copyOf", "([II)[I"⟩ : MethodName)) hown (mvT hZ (own_g hw 55 rfl)) (mvT hZ (own_g hw 56 rfl)) (mvT hZ (own_g hw 57 rfl)) (mvT hZ (own_g hw 58 rfl)) (by first | decide | (dsimp only; omega)) (backOf (W := 2) (rm8 l Z a0 hw [] b7 x8 k7 nc rn sh h111 n0 Z111 F114 F115 hx8 hb2.1 (by omega)) hZ (own_g hw 58 rfl) (own_g hw 57 rfl) (by first | decide | (dsimp only; omega)) (by first | decide | (dsimp only; omega))) (g := (mkF m 268 #[vr oa, vi ptb, vr oc, vr om, vr os, vr oR, vj ky, v2, vi x8, vr b7, vr b14, vi la, vj ta, v2, vj tl, v2, vr b64, vi x17, vi x18, s71_19, s71_20, s71_21] [(.int x8), (.ref b7), (.int ptb), (.ref or2)])) rfl (by rw [hml]; rfl) (argsL := [(.ref b7), (.int x8)]) (rest := [(.int ptb), (.ref or2)]) (lenOf own_pd7 rfl) rfl (by show 2 * 0 + _ ≤ _; exact Nat.le_of_eq rfl) (hb hby d7_268) (fun _ _ => ⟨rfl, e113, (by dsimp only; omega : 3 + 1 ≤ _), (by dsimp only; omega : 10 + 4 ≤ _)⟩)
                    dsimp only [Pt.U, Pt.locs, Pt.cells, Pt.slots] at X116 l116 y116 z116 st116 hQ116
                    subst l116 y116 z116
                    obtain ⟨oc_116, kc_116, rfl, Nq116, K116, fr116_oc, u116_0, u116_1⟩ := hQ116
                    obtain ⟨lc116, Xh116, N116⟩ := own_hide X116 (Fr.app N111 Nq116)
                    clear X116
                    refine gv st116 ?_
                    have ne117 := Nat.ne_of_lt (Nat.lt_of_lt_of_le F115.lt fr116_oc)
                    have F119 := (F71_24.wr W111)
                    have ne118 := Nat.ne_of_lt (Nat.lt_of_lt_of_le F119.lt fr116_oc)
                    have F121 := (F71_26.wr W111)
                    have ne120 := Nat.ne_of_lt (Nat.lt_of_lt_of_le F121.lt fr116_oc)
                    have g122 := Nat.le_trans Z111 fr116_oc
                    have sz123 := Nat.le_trans K111.1 fr116_oc
                    have Z124 := Nat.le_trans Z111 K116.1
                    have K125 := K111.trans K116 own_all0
                    have F126 := ((F71_16.other W111 (Ne.symm na0)).keep K116 own_nin0)
                    obtain ⟨c127, A127, q127, S127, N127, H127, G127⟩ := id F126
                    have hin127 : ¬ (ptb < 0 ∨ c127.slots.size ≤ (ptb).toNatClampNeg) := inb_of S127 ⟨by rw [hptb]; exact own_nneg (by omega), by rw [hptb]; exact (own_ltN (by omega) (by omega)).mpr (by omega)⟩
                    obtain ⟨T127, h127, X127, e127, W127, st127⟩ := stR Xh116 hx hZ rfl A127 (j := ptb) hin127 rfl (Sto.ofVA A127 q127 ho2 (Ins.self u116_1)) (g := (mkF m 271 #[vr oa, vi ptb, vr oc, vr om, vr os, vr oR, vj ky, v2, vi x8, vr b7, vr b14, vi la, vj ta, v2, vj tl, v2, vr b64, vi x17, vi x18, s71_19, s71_20, s71_21] [(.ref oc_116), (.int ptb), (.ref or2)])) rfl rfl (hb hby d7_271)
                    refine gv st127 ?_
                    have Z128 := Nat.le_trans Z124 (Nat.le_of_eq W127.size.symm)
                    have K129 := K125.wr W127 (Or.inl (List.mem_of_getElem? (i := 1) rfl))
                    obtain ⟨lc127, Xh127, N130⟩ := own_hide X127 (Fr.snoc X127 N116 gr2)
                    clear X127
                    have V127 : Arv Z h127 or2 ck2 (.array .int) (nC.toInt32) (vl2.set tb (.ref oc_116)) .null := Arv.set A127 q127 S127 N127 H127 G127 rfl W127 tb (by rw [hptb, own_clamp (by omega)]) (Nat.lt_of_lt_of_le htb hvl2)
                    refine gv (fun t k => XS.aloadN Xh127.here hx rfl (hb hby d7_272) rfl rfl k) ?_
                    have F131 := (((F71_4.other W111 (Or.inl nb1)).keep K116 own_nin0).other W127 (Or.inl nb2))
                    obtain ⟨T132, X132, e132, st132⟩ := getF Xh127 hx hZ hown (host := "") (Or.inl (own_g hw 39 rfl)) Via.refl e127 F131 (g := (mkF m 273 #[vr oa, vi ptb, vr oc, vr om, vr os, vr oR, vj ky, v2, vi x8, vr b7, vr b14, vi la, vj ta, v2, vj tl, v2, vr b64, vi x17, vi x18, s71_19, s71_20, s71_21] [(.ref oa)])) rfl rfl (hb hby d7_273)
                    refine gv st132 ?_
                    refine gv (fun t k => XS.iloadN X132.here hx rfl (hb hby d7_276) rfl k) ?_
                    refine gv (fun t k => XS.aload X132.here hx rfl (hb hby d7_277) rfl rfl k) ?_
                    refine gv (fun t k => XS.iload X132.here hx rfl (hb hby d7_279) rfl k) ?_
                    show Go p.tables e below P T132 (mkF m 281 #[vr oa, vi ptb, vr oc, vr om, vr os, vr oR, vj ky, v2, vi x8, vr b7, vr b14, vi la, vj ta, v2, vj tl, v2, vr b64, vi x17, vi x18, s71_19, s71_20, s71_21] [(.int x8), (.ref b14), (.int ptb), (.ref or3)])
                    have F133 := (((F71_25.other W111 (Ne.symm (Nat.ne_of_lt (Nat.lt_of_lt_of_le P15.lt sz17)))).keep K116 own_nin0).other W127 (Ne.symm (Nat.ne_of_lt (Nat.lt_of_lt_of_le P16.lt sz17))))
                    have F134 := ((F119.keep K116).wr W127)
                    obtain ⟨_, _, ⟨T135, L135, k135, n135⟩, -, X135, ⟨Lc135, hQ135, l135, y135, z135⟩, st135⟩ := Jvm.LawKit.callS X132 hx (y := (⟨"java/util/Arrays", "copyOf", "([II)[I"⟩ : MethodName)) hown (mvT hZ (own_g hw 55 rfl)) (mvT hZ (own_g hw 56 rfl)) (mvT hZ (own_g hw 57 rfl)) (mvT hZ (own_g hw 58 rfl)) (by first | decide | (dsimp only; omega)) (backOf (W := 2) (rm8 l Z a0 hw [] b14 x8 k14 nc rn bt h127 n0 Z128 F133 F134 hx8 hb2.1 (by omega)) hZ (own_g hw 58 rfl) (own_g hw 57 rfl) (by first | decide | (dsimp only; omega)) (by first | decide | (dsimp only; omega))) (g := (mkF m 281 #[vr oa, vi ptb, vr oc, vr om, vr os, vr oR, vj ky, v2, vi x8, vr b7, vr b14, vi la, vj ta, v2, vj tl, v2, vr b64, vi x17, vi x18, s71_19, s71_20, s71_21] [(.int x8), (.ref b14), (.int ptb), (.ref or3)])) rfl (by rw [hml]; rfl) (argsL := [(.ref b14), (.int x8)]) (rest := [(.int ptb), (.ref or3)]) (lenOf own_pd7 rfl) rfl (by show 2 * 0 + _ ≤ _; exact Nat.le_of_eq rfl) (hb hby d7_281) (fun _ _ => ⟨rfl, e132, (by dsimp only; omega : 4 + 1 ≤ _), (by dsimp only; omega : 14 + 4 ≤ _)⟩)
                    dsimp only [Pt.U, Pt.locs, Pt.cells, Pt.slots] at X135 l135 y135 z135 st135 hQ135
                    subst l135 y135 z135
                    obtain ⟨oc_135, kc_135, rfl, Nq135, K135, fr135_oc, u135_0, u135_1⟩ := hQ135
                    obtain ⟨lc135, Xh135, N135⟩ := own_hide X135 (Fr.app N130 Nq135)
                    clear X135
                    refine gv st135 ?_
                    have F137 := ((F115.keep K116).wr W127)
                    have ne136 := Nat.ne_of_lt (Nat.lt_of_lt_of_le F137.lt fr135_oc)
                    have ne138 := Nat.ne_of_lt (Nat.lt_of_lt_of_le F134.lt fr135_oc)
                    have F140 := ((F121.keep K116).wr W127)
                    have ne139 := Nat.ne_of_lt (Nat.lt_of_lt_of_le F140.lt fr135_oc)
                    have F142 := (u116_0.other W127 (Ne.symm (Nat.ne_of_lt (Nat.lt_of_lt_of_le P16.lt sz123))))
                    have ne141 := Nat.ne_of_lt (Nat.lt_of_lt_of_le F142.lt fr135_oc)
                    have g143 := Nat.le_trans Z128 fr135_oc
                    have sz144 := Nat.le_trans K129.1 fr135_oc
                    have Z145 := Nat.le_trans Z128 K135.1
                    have K146 := K129.trans K135 own_all0
                    have F147 := ((((F71_17.other W111 (Ne.symm na1)).keep K116 own_nin0).other W127 (Ne.symm na6)).keep K135 own_nin0)
                    obtain ⟨c148, A148, q148, S148, N148, H148, G148⟩ := id F147
                    have hin148 : ¬ (ptb < 0 ∨ c148.slots.size ≤ (ptb).toNatClampNeg) := inb_of S148 ⟨by rw [hptb]; exact own_nneg (by omega), by rw [hptb]; exact (own_ltN (by omega) (by omega)).mpr (by omega)⟩
                    obtain ⟨T148, h148, X148, e148, W148, st148⟩ := stR Xh135 hx hZ rfl A148 (j := ptb) hin148 rfl (Sto.ofVA A148 q148 ho3 (Ins.self u135_1)) (g := (mkF m 284 #[vr oa, vi ptb, vr oc, vr om, vr os, vr oR, vj ky, v2, vi x8, vr b7, vr b14, vi la, vj ta, v2, vj tl, v2, vr b64, vi x17, vi x18, s71_19, s71_20, s71_21] [(.ref oc_135), (.int ptb), (.ref or3)])) rfl rfl (hb hby d7_284)
                    refine gv st148 ?_
                    have Z149 := Nat.le_trans Z145 (Nat.le_of_eq W148.size.symm)
                    have K150 := K146.wr W148 (Or.inl (List.mem_of_getElem? (i := 2) rfl))
                    obtain ⟨lc148, Xh148, N151⟩ := own_hide X148 (Fr.snoc X148 N135 gr3)
                    clear X148
                    have V148 : Arv Z h148 or3 ck3 (.array .int) (nC.toInt32) (vl3.set tb (.ref oc_135)) .null := Arv.set A148 q148 S148 N148 H148 G148 rfl W148 tb (by rw [hptb, own_clamp (by omega)]) (Nat.lt_of_lt_of_le htb hvl3)
                    show Go p.tables e below P T148 (mkF m 285 #[vr oa, vi ptb, vr oc, vr om, vr os, vr oR, vj ky, v2, vi x8, vr b7, vr b14, vi la, vj ta, v2, vj tl, v2, vr b64, vi x17, vi x18, s71_19, s71_20, s71_21] [])
                    rcases hrad with ⟨hrr, hbc, hn64⟩ | ⟨hra, hrr, hbc⟩
                    · show Go p.tables e below P T148 (mkF m 285 #[vr oa, vi ptb, vr oc, vr om, vr os, vr oR, vj ky, v2, vi x8, vr b7, vr b14, vi la, vj ta, v2, vj tl, v2, vr b64, vi x17, vi x18, s71_19, s71_20, s71_21] [])
                      refine gv (fun t k => XS.aloadN Xh148.here hx rfl (hb hby d7_285) rfl rfl k) ?_
                      have F152 := (((((F71_5.other W111 (Or.inl nb1)).keep K116 own_nin0).other W127 (Or.inl nb2)).keep K135 own_nin0).other W148 (Or.inl nb3))
                      obtain ⟨T153, X153, e153, st153⟩ := getF Xh148 hx hZ hown (host := "") (Or.inl (own_g hw 43 rfl)) Via.refl e148 F152 (g := (mkF m 286 #[vr oa, vi ptb, vr oc, vr om, vr os, vr oR, vj ky, v2, vi x8, vr b7, vr b14, vi la, vj ta, v2, vj tl, v2, vr b64, vi x17, vi x18, s71_19, s71_20, s71_21] [(.ref oa)])) rfl rfl (hb hby d7_286)
                      refine gv st153 ?_
                      refine gv (fun t k => XS.iloadN X153.here hx rfl (hb hby d7_289) rfl k) ?_
                      refine gv (fun t k => XS.lload X153.here hx rfl (hb hby d7_290) rfl k) ?_
                      refine gv (fun t k => XS.aloadN X153.here hx rfl (hb hby d7_292) rfl rfl k) ?_
                      have F154 := (((((F71_1.other W111 (Or.inl nb1)).keep K116 own_nin0).other W127 (Or.inl nb2)).keep K135 own_nin0).other W148 (Or.inl nb3))
                      obtain ⟨T155, X155, e155, st155⟩ := getF X153 hx hZ hown (host := "") (Or.inl (own_g hw 31 rfl)) Via.refl e153 F154 (g := (mkF m 293 #[vr oa, vi ptb, vr oc, vr om, vr os, vr oR, vj ky, v2, vi x8, vr b7, vr b14, vi la, vj ta, v2, vj tl, v2, vr b64, vi x17, vi x18, s71_19, s71_20, s71_21] [(.ref oa), (.long ky), (.int ptb), (.ref or4)])) rfl rfl (hb hby d7_293)
                      refine gv st155 ?_
                      refine gv (fun t k => XS.iloadN X155.here hx rfl (hb hby d7_296) rfl k) ?_
                      have F156 := (((((F71_14.other W111 nd1).keep K116 own_nin0).other W127 nd2).keep K135 own_nin0).other W148 nd3)
                      obtain ⟨c157, A157, q157, S157, N157, H157, G157⟩ := id F156
                      have hin157 : ¬ (ptb < 0 ∨ c157.slots.size ≤ (ptb).toNatClampNeg) := inb_of S157 ⟨by rw [hptb]; exact own_nneg (by omega), by rw [hptb]; exact (own_ltN (by omega) (by omega)).mpr (by omega)⟩
                      have hat157 : c157.slots[(ptb).toNatClampNeg]? = some (.int 0) := (H157 _ (Nat.lt_of_not_le fun q => hin157 (Or.inr q))).trans (congrArg some (by rw [hptb, own_clamp (by omega)]; exact (own_getDI _ _).trans (by rw [hrr])))
                      refine gv (fun t k => X155.iaload hx (j := ptb) (v := (.int 0)) (by rw [e155]; exact A157.1) (State.isArrayOf_alike hZ.alike A157.2.1) A157.2.2 hin157 hat157 (g := (mkF m 297 #[vr oa, vi ptb, vr oc, vr om, vr os, vr oR, vj ky, v2, vi x8, vr b7, vr b14, vi la, vj ta, v2, vj tl, v2, vr b64, vi x17, vi x18, s71_19, s71_20, s71_21] [(.int ptb), (.ref oq), (.long ky), (.int ptb), (.ref or4)])) rfl rfl (hb hby d7_297) t k) ?_
                      obtain ⟨_, _, ⟨T158, L158, k158, n158⟩, -, X158, ⟨Lc158, hQ158, l158, y158, z158⟩, st158⟩ := Jvm.LawKit.callS X155 hx (y := (⟨BLn, "differencesWithin", "(JI)[J"⟩ : MethodName)) hown (mvT hZ (own_g hw 68 rfl)) (mvT hZ (own_g hw 69 rfl)) (mvT hZ (own_g hw 11 rfl)) (mvT hZ (own_g hw 70 rfl)) (by first | decide | (dsimp only; omega)) (backOf (W := 2) (rm9 l Z a0 hw [] ky nN h148 n0 Z149 (by rw [hkm]; exact hbc) hn64) hZ (own_g hw 70 rfl) (own_g hw 11 rfl) (by first | decide | (dsimp only; omega)) (by first | decide | (dsimp only; omega))) (g := (mkF m 298 #[vr oa, vi ptb, vr oc, vr om, vr os, vr oR, vj ky, v2, vi x8, vr b7, vr b14, vi la, vj ta, v2, vj tl, v2, vr b64, vi x17, vi x18, s71_19, s71_20, s71_21] [(.int 0), (.long ky), (.int ptb), (.ref or4)])) rfl (by rw [hml]; rfl) (argsL := [(.long ky), (.int 0)]) (rest := [(.int ptb), (.ref or4)]) (lenOf own_pd8 rfl) rfl (by show 2 * 0 + _ ≤ _; exact Nat.le_of_eq rfl) (hb hby d7_298) (fun _ _ => ⟨rfl, e155, (by dsimp only; omega : 5 + 2 ≤ _), (by dsimp only; omega : 18 + 66 ≤ _)⟩)
                      dsimp only [Pt.U, Pt.locs, Pt.cells, Pt.slots] at X158 l158 y158 z158 st158 hQ158
                      subst l158 y158 z158
                      obtain ⟨od_158, rfl, Nq158, K158, fr158_od, u158_0⟩ := hQ158
                      obtain ⟨lc158, Xh158, N158⟩ := own_hide X158 (Fr.app N151 Nq158)
                      clear X158
                      refine gv st158 ?_
                      have F160 := ((F137.keep K135).wr W148)
                      have ne159 := Nat.ne_of_lt (Nat.lt_of_lt_of_le F160.lt fr158_od)
                      have F162 := ((F134.keep K135).wr W148)
                      have ne161 := Nat.ne_of_lt (Nat.lt_of_lt_of_le F162.lt fr158_od)
                      have F164 := ((F140.keep K135).wr W148)
                      have ne163 := Nat.ne_of_lt (Nat.lt_of_lt_of_le F164.lt fr158_od)
                      have F166 := ((F142.keep K135 own_nin0).other W148 (Ne.symm (Nat.ne_of_lt (Nat.lt_of_lt_of_le P17.lt sz123))))
                      have ne165 := Nat.ne_of_lt (Nat.lt_of_lt_of_le F166.lt fr158_od)
                      have F168 := (u135_0.other W148 (Ne.symm (Nat.ne_of_lt (Nat.lt_of_lt_of_le P17.lt sz144))))
                      have ne167 := Nat.ne_of_lt (Nat.lt_of_lt_of_le F168.lt fr158_od)
                      have g169 := Nat.le_trans Z149 fr158_od
                      have sz170 := Nat.le_trans K150.1 fr158_od
                      have Z171 := Nat.le_trans Z149 K158.1
                      have K172 := K150.trans K158 own_all0
                      show Go p.tables e below P T158 (mkF m 301 #[vr oa, vi ptb, vr oc, vr om, vr os, vr oR, vj ky, v2, vi x8, vr b7, vr b14, vi la, vj ta, v2, vj tl, v2, vr b64, vi x17, vi x18, s71_19, s71_20, s71_21] [(.ref od_158), (.int ptb), (.ref or4)])
                      have F173 := ((((((F71_18.other W111 (Ne.symm na2)).keep K116 own_nin0).other W127 (Ne.symm na7)).keep K135 own_nin0).other W148 (Ne.symm na11)).keep K158 own_nin0)
                      obtain ⟨c174, A174, q174, S174, N174, H174, G174⟩ := id F173
                      have hin174 : ¬ (ptb < 0 ∨ c174.slots.size ≤ (ptb).toNatClampNeg) := inb_of S174 ⟨by rw [hptb]; exact own_nneg (by omega), by rw [hptb]; exact (own_ltN (by omega) (by omega)).mpr (by omega)⟩
                      obtain ⟨T174, h174, X174, e174, W174, st174⟩ := stR Xh158 hx hZ rfl A174 (j := ptb) hin174 rfl (Sto.ofVA A174 q174 ho4 (Ins.self u158_0)) (g := (mkF m 301 #[vr oa, vi ptb, vr oc, vr om, vr os, vr oR, vj ky, v2, vi x8, vr b7, vr b14, vi la, vj ta, v2, vj tl, v2, vr b64, vi x17, vi x18, s71_19, s71_20, s71_21] [(.ref od_158), (.int ptb), (.ref or4)])) rfl rfl (hb hby d7_301)
                      refine gv st174 ?_
                      have Z175 := Nat.le_trans Z171 (Nat.le_of_eq W174.size.symm)
                      have K176 := K172.wr W174 (Or.inl (List.mem_of_getElem? (i := 3) rfl))
                      obtain ⟨lc174, Xh174, N177⟩ := own_hide X174 (Fr.snoc X174 N158 gr4)
                      clear X174
                      have V174 : Arv Z h174 or4 ck4 (.array .long) (nC.toInt32) (vl4.set tb (.ref od_158)) .null := Arv.set A174 q174 S174 N174 H174 G174 rfl W174 tb (by rw [hptb, own_clamp (by omega)]) (Nat.lt_of_lt_of_le htb hvl4)
                      refine gv (fun t k => XS.aloadN Xh174.here hx rfl (hb hby d7_302) rfl rfl k) ?_
                      have F178 := (((((((F71_6.other W111 (Or.inl nb1)).keep K116 own_nin0).other W127 (Or.inl nb2)).keep K135 own_nin0).other W148 (Or.inl nb3)).keep K158 own_nin0).other W174 (Or.inl nb4))
                      obtain ⟨T179, X179, e179, st179⟩ := getF Xh174 hx hZ hown (host := "") (Or.inl (own_g hw 45 rfl)) Via.refl e174 F178 (g := (mkF m 303 #[vr oa, vi ptb, vr oc, vr om, vr os, vr oR, vj ky, v2, vi x8, vr b7, vr b14, vi la, vj ta, v2, vj tl, v2, vr b64, vi x17, vi x18, s71_19, s71_20, s71_21] [(.ref oa)])) rfl rfl (hb hby d7_303)
                      refine gv st179 ?_
                      refine gv (fun t k => XS.iloadN X179.here hx rfl (hb hby d7_306) rfl k) ?_
                      refine gv (fun t k => XS.lload X179.here hx rfl (hb hby d7_307) rfl k) ?_
                      have F180 := (((((((F71_19.other W111 (Ne.symm na3)).keep K116 own_nin0).other W127 (Ne.symm na8)).keep K135 own_nin0).other W148 (Ne.symm na12)).keep K158 own_nin0).other W174 (Ne.symm na15))
                      obtain ⟨T181, h181, lc181, X181, e181, N181, Z181, K181, W181, V181, st181⟩ := own_stJ X179 hx hZ e179 F180 N177 Z175 K176 gr5 (Or.inl (List.mem_of_getElem? (i := 4) rfl)) (j := ptb) ⟨by rw [hptb]; exact own_nneg (by omega), by rw [hptb]; exact (own_ltN (by omega) (by omega)).mpr (by omega)⟩ (ji := tb) (by rw [hptb, own_clamp (by omega)]) (Nat.lt_of_lt_of_le htb hvl5) (g := (mkF m 309 #[vr oa, vi ptb, vr oc, vr om, vr os, vr oR, vj ky, v2, vi x8, vr b7, vr b14, vi la, vj ta, v2, vj tl, v2, vr b64, vi x17, vi x18, s71_19, s71_20, s71_21] [(.long ta), (.int ptb), (.ref or5)])) rfl rfl (hb hby d7_309)
                      refine gv st181 ?_
                      refine gv (fun t k => XS.aloadN X181.here hx rfl (hb hby d7_310) rfl rfl k) ?_
                      have F182 := ((((((((F71_7.other W111 (Or.inl nb1)).keep K116 own_nin0).other W127 (Or.inl nb2)).keep K135 own_nin0).other W148 (Or.inl nb3)).keep K158 own_nin0).other W174 (Or.inl nb4)).other W181 (Or.inl nb5))
                      obtain ⟨T183, X183, e183, st183⟩ := getF X181 hx hZ hown (host := "") (Or.inl (own_g hw 47 rfl)) Via.refl e181 F182 (g := (mkF m 311 #[vr oa, vi ptb, vr oc, vr om, vr os, vr oR, vj ky, v2, vi x8, vr b7, vr b14, vi la, vj ta, v2, vj tl, v2, vr b64, vi x17, vi x18, s71_19, s71_20, s71_21] [(.ref oa)])) rfl rfl (hb hby d7_311)
                      refine gv st183 ?_
                      refine gv (fun t k => XS.iloadN X183.here hx rfl (hb hby d7_314) rfl k) ?_
                      show Go p.tables e below P T183 (mkF m 315 #[vr oa, vi ptb, vr oc, vr om, vr os, vr oR, vj ky, v2, vi x8, vr b7, vr b14, vi la, vj ta, v2, vj tl, v2, vr b64, vi x17, vi x18, s71_19, s71_20, s71_21] [(.int ptb), (.ref or6)])
                      refine gv (fun t k => XS.lload X183.here hx rfl (hb hby d7_315) rfl k) ?_
                      have F184 := ((((((((F71_20.other W111 (Ne.symm na4)).keep K116 own_nin0).other W127 (Ne.symm na9)).keep K135 own_nin0).other W148 (Ne.symm na13)).keep K158 own_nin0).other W174 (Ne.symm na16)).other W181 (Ne.symm na18))
                      obtain ⟨T185, h185, lc185, X185, e185, N185, Z185, K185, W185, V185, st185⟩ := own_stJ X183 hx hZ e183 F184 N181 Z181 K181 gr6 (Or.inl (List.mem_of_getElem? (i := 5) rfl)) (j := ptb) ⟨by rw [hptb]; exact own_nneg (by omega), by rw [hptb]; exact (own_ltN (by omega) (by omega)).mpr (by omega)⟩ (ji := tb) (by rw [hptb, own_clamp (by omega)]) (Nat.lt_of_lt_of_le htb hvl6) (g := (mkF m 317 #[vr oa, vi ptb, vr oc, vr om, vr os, vr oR, vj ky, v2, vi x8, vr b7, vr b14, vi la, vj ta, v2, vj tl, v2, vr b64, vi x17, vi x18, s71_19, s71_20, s71_21] [(.long tl), (.int ptb), (.ref or6)])) rfl rfl (hb hby d7_317)
                      refine gv st185 ?_
                      refine gv (fun t k => XS.aloadN X185.here hx rfl (hb hby d7_318) rfl rfl k) ?_
                      have F186 := (((((((((F71_8.other W111 (Or.inl nb1)).keep K116 own_nin0).other W127 (Or.inl nb2)).keep K135 own_nin0).other W148 (Or.inl nb3)).keep K158 own_nin0).other W174 (Or.inl nb4)).other W181 (Or.inl nb5)).other W185 (Or.inl nb6))
                      obtain ⟨T187, X187, e187, st187⟩ := getF X185 hx hZ hown (host := "") (Or.inl (own_g hw 49 rfl)) Via.refl e185 F186 (g := (mkF m 319 #[vr oa, vi ptb, vr oc, vr om, vr os, vr oR, vj ky, v2, vi x8, vr b7, vr b14, vi la, vj ta, v2, vj tl, v2, vr b64, vi x17, vi x18, s71_19, s71_20, s71_21] [(.ref oa)])) rfl rfl (hb hby d7_319)
                      refine gv st187 ?_
                      refine gv (fun t k => XS.iloadN X187.here hx rfl (hb hby d7_322) rfl k) ?_
                      refine gv (fun t k => XS.aload X187.here hx rfl (hb hby d7_323) rfl rfl k) ?_
                      refine gv (fun t k => XS.iload X187.here hx rfl (hb hby d7_325) rfl k) ?_
                      have F188 := ((((F164.keep K158).wr W174).wr W181).wr W185)
                      obtain ⟨_, _, ⟨T189, L189, k189, n189⟩, -, X189, ⟨Lc189, hQ189, l189, y189, z189⟩, st189⟩ := Jvm.LawKit.callS X187 hx (y := (⟨"java/util/Arrays", "copyOf", "([II)[I"⟩ : MethodName)) hown (mvT hZ (own_g hw 55 rfl)) (mvT hZ (own_g hw 56 rfl)) (mvT hZ (own_g hw 57 rfl)) (mvT hZ (own_g hw 58 rfl)) (by first | decide | (dsimp only; omega)) (backOf (W := 2) (rm8 l Z a0 hw [] b64 x17 k64 la.toNatClampNeg wc wl h185 n0 Z185 (by rw [← own_back (x := la) hlb.1]; exact (((((((((F71_27.other W111 (Ne.symm (Nat.ne_of_lt (Nat.lt_of_lt_of_le P15.lt sz68)))).keep K116 own_nin0).other W127 (Ne.symm (Nat.ne_of_lt (Nat.lt_of_lt_of_le P16.lt sz68)))).keep K135 own_nin0).other W148 (Ne.symm (Nat.ne_of_lt (Nat.lt_of_lt_of_le P17.lt sz68)))).keep K158 own_nin0).other W174 (Ne.symm (Nat.ne_of_lt (Nat.lt_of_lt_of_le P18.lt sz68)))).other W181 (Ne.symm (Nat.ne_of_lt (Nat.lt_of_lt_of_le P19.lt sz68)))).other W185 (Ne.symm (Nat.ne_of_lt (Nat.lt_of_lt_of_le P20.lt sz68))))) F188 hx17 (by omega) (by omega)) hZ (own_g hw 58 rfl) (own_g hw 57 rfl) (by first | decide | (dsimp only; omega)) (by first | decide | (dsimp only; omega))) (g := (mkF m 327 #[vr oa, vi ptb, vr oc, vr om, vr os, vr oR, vj ky, v2, vi x8, vr b7, vr b14, vi la, vj ta, v2, vj tl, v2, vr b64, vi x17, vi x18, s71_19, s71_20, s71_21] [(.int x17), (.ref b64), (.int ptb), (.ref or7)])) rfl (by rw [hml]; rfl) (argsL := [(.ref b64), (.int x17)]) (rest := [(.int ptb), (.ref or7)]) (lenOf own_pd7 rfl) rfl (by show 2 * 0 + _ ≤ _; exact Nat.le_of_eq rfl) (hb hby d7_327) (fun _ _ => ⟨rfl, e187, (by dsimp only; omega : 7 + 1 ≤ _), (by dsimp only; omega : 84 + 4 ≤ _)⟩)
                      dsimp only [Pt.U, Pt.locs, Pt.cells, Pt.slots] at X189 l189 y189 z189 st189 hQ189
                      subst l189 y189 z189
                      obtain ⟨oc_189, kc_189, rfl, Nq189, K189, fr189_oc, u189_0, u189_1⟩ := hQ189
                      obtain ⟨lc189, Xh189, N189⟩ := own_hide X189 (Fr.app N185 Nq189)
                      clear X189
                      refine gv st189 ?_
                      have F191 := ((((F160.keep K158).wr W174).wr W181).wr W185)
                      have ne190 := Nat.ne_of_lt (Nat.lt_of_lt_of_le F191.lt fr189_oc)
                      have F193 := ((((F162.keep K158).wr W174).wr W181).wr W185)
                      have ne192 := Nat.ne_of_lt (Nat.lt_of_lt_of_le F193.lt fr189_oc)
                      have ne194 := Nat.ne_of_lt (Nat.lt_of_lt_of_le F188.lt fr189_oc)
                      have F196 := ((((F166.keep K158 own_nin0).other W174 (Ne.symm (Nat.ne_of_lt (Nat.lt_of_lt_of_le P18.lt sz123)))).other W181 (Ne.symm (Nat.ne_of_lt (Nat.lt_of_lt_of_le P19.lt sz123)))).other W185 (Ne.symm (Nat.ne_of_lt (Nat.lt_of_lt_of_le P20.lt sz123))))
                      have ne195 := Nat.ne_of_lt (Nat.lt_of_lt_of_le F196.lt fr189_oc)
                      have F198 := ((((F168.keep K158 own_nin0).other W174 (Ne.symm (Nat.ne_of_lt (Nat.lt_of_lt_of_le P18.lt sz144)))).other W181 (Ne.symm (Nat.ne_of_lt (Nat.lt_of_lt_of_le P19.lt sz144)))).other W185 (Ne.symm (Nat.ne_of_lt (Nat.lt_of_lt_of_le P20.lt sz144))))
                      have ne197 := Nat.ne_of_lt (Nat.lt_of_lt_of_le F198.lt fr189_oc)
                      have F200 := (((u158_0.wr W174).wr W181).wr W185)
                      have ne199 := Nat.ne_of_lt (Nat.lt_of_lt_of_le F200.lt fr189_oc)
                      have g201 := Nat.le_trans Z185 fr189_oc
                      have sz202 := Nat.le_trans K185.1 fr189_oc
                      have Z203 := Nat.le_trans Z185 K189.1
                      have K204 := K185.trans K189 own_all0
                      have F205 := ((((((((((F71_21.other W111 (Ne.symm na5)).keep K116 own_nin0).other W127 (Ne.symm na10)).keep K135 own_nin0).other W148 (Ne.symm na14)).keep K158 own_nin0).other W174 (Ne.symm na17)).other W181 (Ne.symm na19)).other W185 (Ne.symm na20)).keep K189 own_nin0)
                      obtain ⟨c206, A206, q206, S206, N206, H206, G206⟩ := id F205
                      have hin206 : ¬ (ptb < 0 ∨ c206.slots.size ≤ (ptb).toNatClampNeg) := inb_of S206 ⟨by rw [hptb]; exact own_nneg (by omega), by rw [hptb]; exact (own_ltN (by omega) (by omega)).mpr (by omega)⟩
                      obtain ⟨T206, h206, X206, e206, W206, st206⟩ := stR Xh189 hx hZ rfl A206 (j := ptb) hin206 rfl (Sto.ofVA A206 q206 ho7 (Ins.self u189_1)) (g := (mkF m 330 #[vr oa, vi ptb, vr oc, vr om, vr os, vr oR, vj ky, v2, vi x8, vr b7, vr b14, vi la, vj ta, v2, vj tl, v2, vr b64, vi x17, vi x18, s71_19, s71_20, s71_21] [(.ref oc_189), (.int ptb), (.ref or7)])) rfl rfl (hb hby d7_330)
                      refine gv st206 ?_
                      have Z207 := Nat.le_trans Z203 (Nat.le_of_eq W206.size.symm)
                      have K208 := K204.wr W206 (Or.inl (List.mem_of_getElem? (i := 6) rfl))
                      obtain ⟨lc206, Xh206, N209⟩ := own_hide X206 (Fr.snoc X206 N189 gr7)
                      clear X206
                      have V206 : Arv Z h206 or7 ck7 (.array .int) (nC.toInt32) (vl7.set tb (.ref oc_189)) .null := Arv.set A206 q206 S206 N206 H206 G206 rfl W206 tb (by rw [hptb, own_clamp (by omega)]) (Nat.lt_of_lt_of_le htb hvl7)
                      show Go p.tables e below P T206 (mkF m 331 #[vr oa, vi ptb, vr oc, vr om, vr os, vr oR, vj ky, v2, vi x8, vr b7, vr b14, vi la, vj ta, v2, vj tl, v2, vr b64, vi x17, vi x18, s71_19, s71_20, s71_21] [])
                      have F211 := ((((((((((V111.keep K116 own_nin0).other W127 na0).keep K135 own_nin0).other W148 na1).keep K158 own_nin0).other W174 na2).other W181 na3).other W185 na4).keep K189 own_nin0).other W206 na5)
                      have F212 := ((F196.keep K189 own_nin0).other W206 (Ne.symm (Nat.ne_of_lt (Nat.lt_of_lt_of_le P21.lt sz123))))
                      have F213 := ((F198.keep K189 own_nin0).other W206 (Ne.symm (Nat.ne_of_lt (Nat.lt_of_lt_of_le P21.lt sz144))))
                      obtain ⟨fs, hr, hrun, hended, hW, hsame⟩ := Xh206.leave (v := none) (fun _ => rfl)
                      have F214 := ((((((((V127.keep K135 own_nin0).other W148 na6).keep K158 own_nin0).other W174 na7).other W181 na8).other W185 na9).keep K189 own_nin0).other W206 na10)
                      have F215 := ((((((V148.keep K158 own_nin0).other W174 na11).other W181 na12).other W185 na13).keep K189 own_nin0).other W206 na14)
                      have F216 := ((((V174.other W181 na15).other W185 na16).keep K189 own_nin0).other W206 na17)
                      have F217 := (((V181.other W185 na18).keep K189 own_nin0).other W206 na19)
                      have F218 := ((V185.keep K189 own_nin0).other W206 na20)
                      refine ⟨_, _, Xh206.returnOut hx Bd.returns (hb hby d7_331) hr, hrun, hended, hP _ _ ⟨_, _, rfl, ?_, ⟨_, rfl⟩, hW, hsame.mono (by first | decide | (dsimp only; omega)) (by first | decide | (dsimp only; omega))⟩⟩
                      show Q7 Z oa ptb oc om os oR ow oq or1 or2 or3 or4 or5 or6 or7 kc km ks kR kw kq ck1 ck2 ck3 ck4 ck5 ck6 ck7 cl lm ls lR lw lr vl1 vl2 vl3 vl4 vl5 vl6 vl7 tb nB nC nc nN ra h0 n0 _ T206.heap _
                      rw [e206]
                      exact ⟨oc_116, kc_116, oc_135, kc_135, od_158, oc_189, ta, tl, rfl, N209, K208, sz123, sz144, (by rw [← hkm]; exact F211), F214, F215, F216, F217, F218, V206, (by rw [hrs']; exact F212), (by rw [hrs']; exact F213)⟩
                    · show Go p.tables e below P T148 (mkF m 285 #[vr oa, vi ptb, vr oc, vr om, vr os, vr oR, vj ky, v2, vi x8, vr b7, vr b14, vi la, vj ta, v2, vj tl, v2, vr b64, vi x17, vi x18, s71_19, s71_20, s71_21] [])
                      refine gv (fun t k => XS.aloadN Xh148.here hx rfl (hb hby d7_285) rfl rfl k) ?_
                      have F219 := (((((F71_5.other W111 (Or.inl nb1)).keep K116 own_nin0).other W127 (Or.inl nb2)).keep K135 own_nin0).other W148 (Or.inl nb3))
                      obtain ⟨T220, X220, e220, st220⟩ := getF Xh148 hx hZ hown (host := "") (Or.inl (own_g hw 43 rfl)) Via.refl e148 F219 (g := (mkF m 286 #[vr oa, vi ptb, vr oc, vr om, vr os, vr oR, vj ky, v2, vi x8, vr b7, vr b14, vi la, vj ta, v2, vj tl, v2, vr b64, vi x17, vi x18, s71_19, s71_20, s71_21] [(.ref oa)])) rfl rfl (hb hby d7_286)
                      refine gv st220 ?_
                      refine gv (fun t k => XS.iloadN X220.here hx rfl (hb hby d7_289) rfl k) ?_
                      refine gv (fun t k => XS.lload X220.here hx rfl (hb hby d7_290) rfl k) ?_
                      refine gv (fun t k => XS.aloadN X220.here hx rfl (hb hby d7_292) rfl rfl k) ?_
                      have F221 := (((((F71_1.other W111 (Or.inl nb1)).keep K116 own_nin0).other W127 (Or.inl nb2)).keep K135 own_nin0).other W148 (Or.inl nb3))
                      obtain ⟨T222, X222, e222, st222⟩ := getF X220 hx hZ hown (host := "") (Or.inl (own_g hw 31 rfl)) Via.refl e220 F221 (g := (mkF m 293 #[vr oa, vi ptb, vr oc, vr om, vr os, vr oR, vj ky, v2, vi x8, vr b7, vr b14, vi la, vj ta, v2, vj tl, v2, vr b64, vi x17, vi x18, s71_19, s71_20, s71_21] [(.ref oa), (.long ky), (.int ptb), (.ref or4)])) rfl rfl (hb hby d7_293)
                      refine gv st222 ?_
                      refine gv (fun t k => XS.iloadN X222.here hx rfl (hb hby d7_296) rfl k) ?_
                      have F223 := (((((F71_14.other W111 nd1).keep K116 own_nin0).other W127 nd2).keep K135 own_nin0).other W148 nd3)
                      obtain ⟨c224, A224, q224, S224, N224, H224, G224⟩ := id F223
                      have hin224 : ¬ (ptb < 0 ∨ c224.slots.size ≤ (ptb).toNatClampNeg) := inb_of S224 ⟨by rw [hptb]; exact own_nneg (by omega), by rw [hptb]; exact (own_ltN (by omega) (by omega)).mpr (by omega)⟩
                      have hat224 : c224.slots[(ptb).toNatClampNeg]? = some (.int 1) := (H224 _ (Nat.lt_of_not_le fun q => hin224 (Or.inr q))).trans (congrArg some (by rw [hptb, own_clamp (by omega)]; exact (own_getDI _ _).trans (by rw [hrr])))
                      refine gv (fun t k => X222.iaload hx (j := ptb) (v := (.int 1)) (by rw [e222]; exact A224.1) (State.isArrayOf_alike hZ.alike A224.2.1) A224.2.2 hin224 hat224 (g := (mkF m 297 #[vr oa, vi ptb, vr oc, vr om, vr os, vr oR, vj ky, v2, vi x8, vr b7, vr b14, vi la, vj ta, v2, vj tl, v2, vr b64, vi x17, vi x18, s71_19, s71_20, s71_21] [(.int ptb), (.ref oq), (.long ky), (.int ptb), (.ref or4)])) rfl rfl (hb hby d7_297) t k) ?_
                      obtain ⟨_, _, ⟨T225, L225, k225, n225⟩, -, X225, ⟨Lc225, hQ225, l225, y225, z225⟩, st225⟩ := Jvm.LawKit.callS X222 hx (y := (⟨BLn, "differencesWithin", "(JI)[J"⟩ : MethodName)) hown (mvT hZ (own_g hw 68 rfl)) (mvT hZ (own_g hw 69 rfl)) (mvT hZ (own_g hw 11 rfl)) (mvT hZ (own_g hw 70 rfl)) (by first | decide | (dsimp only; omega)) (backOf (W := 2) (rm9o l Z a0 hw [] ky h148 n0 Z149 (by rw [hkm]; exact hbc)) hZ (own_g hw 70 rfl) (own_g hw 11 rfl) (by first | decide | (dsimp only; omega)) (by first | decide | (dsimp only; omega))) (g := (mkF m 298 #[vr oa, vi ptb, vr oc, vr om, vr os, vr oR, vj ky, v2, vi x8, vr b7, vr b14, vi la, vj ta, v2, vj tl, v2, vr b64, vi x17, vi x18, s71_19, s71_20, s71_21] [(.int 1), (.long ky), (.int ptb), (.ref or4)])) rfl (by rw [hml]; rfl) (argsL := [(.long ky), (.int 1)]) (rest := [(.int ptb), (.ref or4)]) (lenOf own_pd8 rfl) rfl (by show 2 * 0 + _ ≤ _; exact Nat.le_of_eq rfl) (hb hby d7_298) (fun _ _ => ⟨rfl, e222, (by dsimp only; omega : 5 + 5 ≤ _), (by dsimp only; omega : 18 + 229 ≤ _)⟩)
                      dsimp only [Pt.U, Pt.locs, Pt.cells, Pt.slots] at X225 l225 y225 z225 st225 hQ225
                      subst l225 y225 z225
                      obtain ⟨od_225, rfl, Nq225, K225, fr225_od, u225_0⟩ := hQ225
                      obtain ⟨lc225, Xh225, N225⟩ := own_hide X225 (Fr.app N151 Nq225)
                      clear X225
                      refine gv st225 ?_
                      have F227 := ((F137.keep K135).wr W148)
                      have ne226 := Nat.ne_of_lt (Nat.lt_of_lt_of_le F227.lt fr225_od)
                      have F229 := ((F134.keep K135).wr W148)
                      have ne228 := Nat.ne_of_lt (Nat.lt_of_lt_of_le F229.lt fr225_od)
                      have F231 := ((F140.keep K135).wr W148)
                      have ne230 := Nat.ne_of_lt (Nat.lt_of_lt_of_le F231.lt fr225_od)
                      have F233 := ((F142.keep K135 own_nin0).other W148 (Ne.symm (Nat.ne_of_lt (Nat.lt_of_lt_of_le P17.lt sz123))))
                      have ne232 := Nat.ne_of_lt (Nat.lt_of_lt_of_le F233.lt fr225_od)
                      have F235 := (u135_0.other W148 (Ne.symm (Nat.ne_of_lt (Nat.lt_of_lt_of_le P17.lt sz144))))
                      have ne234 := Nat.ne_of_lt (Nat.lt_of_lt_of_le F235.lt fr225_od)
                      have g236 := Nat.le_trans Z149 fr225_od
                      have sz237 := Nat.le_trans K150.1 fr225_od
                      have Z238 := Nat.le_trans Z149 K225.1
                      have K239 := K150.trans K225 own_all0
                      show Go p.tables e below P T225 (mkF m 301 #[vr oa, vi ptb, vr oc, vr om, vr os, vr oR, vj ky, v2, vi x8, vr b7, vr b14, vi la, vj ta, v2, vj tl, v2, vr b64, vi x17, vi x18, s71_19, s71_20, s71_21] [(.ref od_225), (.int ptb), (.ref or4)])
                      have F240 := ((((((F71_18.other W111 (Ne.symm na2)).keep K116 own_nin0).other W127 (Ne.symm na7)).keep K135 own_nin0).other W148 (Ne.symm na11)).keep K225 own_nin0)
                      obtain ⟨c241, A241, q241, S241, N241, H241, G241⟩ := id F240
                      have hin241 : ¬ (ptb < 0 ∨ c241.slots.size ≤ (ptb).toNatClampNeg) := inb_of S241 ⟨by rw [hptb]; exact own_nneg (by omega), by rw [hptb]; exact (own_ltN (by omega) (by omega)).mpr (by omega)⟩
                      obtain ⟨T241, h241, X241, e241, W241, st241⟩ := stR Xh225 hx hZ rfl A241 (j := ptb) hin241 rfl (Sto.ofVA A241 q241 ho4 (Ins.self u225_0)) (g := (mkF m 301 #[vr oa, vi ptb, vr oc, vr om, vr os, vr oR, vj ky, v2, vi x8, vr b7, vr b14, vi la, vj ta, v2, vj tl, v2, vr b64, vi x17, vi x18, s71_19, s71_20, s71_21] [(.ref od_225), (.int ptb), (.ref or4)])) rfl rfl (hb hby d7_301)
                      refine gv st241 ?_
                      have Z242 := Nat.le_trans Z238 (Nat.le_of_eq W241.size.symm)
                      have K243 := K239.wr W241 (Or.inl (List.mem_of_getElem? (i := 3) rfl))
                      obtain ⟨lc241, Xh241, N244⟩ := own_hide X241 (Fr.snoc X241 N225 gr4)
                      clear X241
                      have V241 : Arv Z h241 or4 ck4 (.array .long) (nC.toInt32) (vl4.set tb (.ref od_225)) .null := Arv.set A241 q241 S241 N241 H241 G241 rfl W241 tb (by rw [hptb, own_clamp (by omega)]) (Nat.lt_of_lt_of_le htb hvl4)
                      refine gv (fun t k => XS.aloadN Xh241.here hx rfl (hb hby d7_302) rfl rfl k) ?_
                      have F245 := (((((((F71_6.other W111 (Or.inl nb1)).keep K116 own_nin0).other W127 (Or.inl nb2)).keep K135 own_nin0).other W148 (Or.inl nb3)).keep K225 own_nin0).other W241 (Or.inl nb4))
                      obtain ⟨T246, X246, e246, st246⟩ := getF Xh241 hx hZ hown (host := "") (Or.inl (own_g hw 45 rfl)) Via.refl e241 F245 (g := (mkF m 303 #[vr oa, vi ptb, vr oc, vr om, vr os, vr oR, vj ky, v2, vi x8, vr b7, vr b14, vi la, vj ta, v2, vj tl, v2, vr b64, vi x17, vi x18, s71_19, s71_20, s71_21] [(.ref oa)])) rfl rfl (hb hby d7_303)
                      refine gv st246 ?_
                      refine gv (fun t k => XS.iloadN X246.here hx rfl (hb hby d7_306) rfl k) ?_
                      refine gv (fun t k => XS.lload X246.here hx rfl (hb hby d7_307) rfl k) ?_
                      have F247 := (((((((F71_19.other W111 (Ne.symm na3)).keep K116 own_nin0).other W127 (Ne.symm na8)).keep K135 own_nin0).other W148 (Ne.symm na12)).keep K225 own_nin0).other W241 (Ne.symm na15))
                      obtain ⟨T248, h248, lc248, X248, e248, N248, Z248, K248, W248, V248, st248⟩ := own_stJ X246 hx hZ e246 F247 N244 Z242 K243 gr5 (Or.inl (List.mem_of_getElem? (i := 4) rfl)) (j := ptb) ⟨by rw [hptb]; exact own_nneg (by omega), by rw [hptb]; exact (own_ltN (by omega) (by omega)).mpr (by omega)⟩ (ji := tb) (by rw [hptb, own_clamp (by omega)]) (Nat.lt_of_lt_of_le htb hvl5) (g := (mkF m 309 #[vr oa, vi ptb, vr oc, vr om, vr os, vr oR, vj ky, v2, vi x8, vr b7, vr b14, vi la, vj ta, v2, vj tl, v2, vr b64, vi x17, vi x18, s71_19, s71_20, s71_21] [(.long ta), (.int ptb), (.ref or5)])) rfl rfl (hb hby d7_309)
                      refine gv st248 ?_
                      refine gv (fun t k => XS.aloadN X248.here hx rfl (hb hby d7_310) rfl rfl k) ?_
                      have F249 := ((((((((F71_7.other W111 (Or.inl nb1)).keep K116 own_nin0).other W127 (Or.inl nb2)).keep K135 own_nin0).other W148 (Or.inl nb3)).keep K225 own_nin0).other W241 (Or.inl nb4)).other W248 (Or.inl nb5))
                      obtain ⟨T250, X250, e250, st250⟩ := getF X248 hx hZ hown (host := "") (Or.inl (own_g hw 47 rfl)) Via.refl e248 F249 (g := (mkF m 311 #[vr oa, vi ptb, vr oc, vr om, vr os, vr oR, vj ky, v2, vi x8, vr b7, vr b14, vi la, vj ta, v2, vj tl, v2, vr b64, vi x17, vi x18, s71_19, s71_20, s71_21] [(.ref oa)])) rfl rfl (hb hby d7_311)
                      refine gv st250 ?_
                      refine gv (fun t k => XS.iloadN X250.here hx rfl (hb hby d7_314) rfl k) ?_
                      show Go p.tables e below P T250 (mkF m 315 #[vr oa, vi ptb, vr oc, vr om, vr os, vr oR, vj ky, v2, vi x8, vr b7, vr b14, vi la, vj ta, v2, vj tl, v2, vr b64, vi x17, vi x18, s71_19, s71_20, s71_21] [(.int ptb), (.ref or6)])
                      refine gv (fun t k => XS.lload X250.here hx rfl (hb hby d7_315) rfl k) ?_
                      have F251 := ((((((((F71_20.other W111 (Ne.symm na4)).keep K116 own_nin0).other W127 (Ne.symm na9)).keep K135 own_nin0).other W148 (Ne.symm na13)).keep K225 own_nin0).other W241 (Ne.symm na16)).other W248 (Ne.symm na18))
                      obtain ⟨T252, h252, lc252, X252, e252, N252, Z252, K252, W252, V252, st252⟩ := own_stJ X250 hx hZ e250 F251 N248 Z248 K248 gr6 (Or.inl (List.mem_of_getElem? (i := 5) rfl)) (j := ptb) ⟨by rw [hptb]; exact own_nneg (by omega), by rw [hptb]; exact (own_ltN (by omega) (by omega)).mpr (by omega)⟩ (ji := tb) (by rw [hptb, own_clamp (by omega)]) (Nat.lt_of_lt_of_le htb hvl6) (g := (mkF m 317 #[vr oa, vi ptb, vr oc, vr om, vr os, vr oR, vj ky, v2, vi x8, vr b7, vr b14, vi la, vj ta, v2, vj tl, v2, vr b64, vi x17, vi x18, s71_19, s71_20, s71_21] [(.long tl), (.int ptb), (.ref or6)])) rfl rfl (hb hby d7_317)
                      refine gv st252 ?_
                      refine gv (fun t k => XS.aloadN X252.here hx rfl (hb hby d7_318) rfl rfl k) ?_
                      have F253 := (((((((((F71_8.other W111 (Or.inl nb1)).keep K116 own_nin0).other W127 (Or.inl nb2)).keep K135 own_nin0).other W148 (Or.inl nb3)).keep K225 own_nin0).other W241 (Or.inl nb4)).other W248 (Or.inl nb5)).other W252 (Or.inl nb6))
                      obtain ⟨T254, X254, e254, st254⟩ := getF X252 hx hZ hown (host := "") (Or.inl (own_g hw 49 rfl)) Via.refl e252 F253 (g := (mkF m 319 #[vr oa, vi ptb, vr oc, vr om, vr os, vr oR, vj ky, v2, vi x8, vr b7, vr b14, vi la, vj ta, v2, vj tl, v2, vr b64, vi x17, vi x18, s71_19, s71_20, s71_21] [(.ref oa)])) rfl rfl (hb hby d7_319)
                      refine gv st254 ?_
                      refine gv (fun t k => XS.iloadN X254.here hx rfl (hb hby d7_322) rfl k) ?_
                      refine gv (fun t k => XS.aload X254.here hx rfl (hb hby d7_323) rfl rfl k) ?_
                      refine gv (fun t k => XS.iload X254.here hx rfl (hb hby d7_325) rfl k) ?_
                      have F255 := ((((F231.keep K225).wr W241).wr W248).wr W252)
                      obtain ⟨_, _, ⟨T256, L256, k256, n256⟩, -, X256, ⟨Lc256, hQ256, l256, y256, z256⟩, st256⟩ := Jvm.LawKit.callS X254 hx (y := (⟨"java/util/Arrays", "copyOf", "([II)[I"⟩ : MethodName)) hown (mvT hZ (own_g hw 55 rfl)) (mvT hZ (own_g hw 56 rfl)) (mvT hZ (own_g hw 57 rfl)) (mvT hZ (own_g hw 58 rfl)) (by first | decide | (dsimp only; omega)) (backOf (W := 2) (rm8 l Z a0 hw [] b64 x17 k64 la.toNatClampNeg wc wl h252 n0 Z252 (by rw [← own_back (x := la) hlb.1]; exact (((((((((F71_27.other W111 (Ne.symm (Nat.ne_of_lt (Nat.lt_of_lt_of_le P15.lt sz68)))).keep K116 own_nin0).other W127 (Ne.symm (Nat.ne_of_lt (Nat.lt_of_lt_of_le P16.lt sz68)))).keep K135 own_nin0).other W148 (Ne.symm (Nat.ne_of_lt (Nat.lt_of_lt_of_le P17.lt sz68)))).keep K225 own_nin0).other W241 (Ne.symm (Nat.ne_of_lt (Nat.lt_of_lt_of_le P18.lt sz68)))).other W248 (Ne.symm (Nat.ne_of_lt (Nat.lt_of_lt_of_le P19.lt sz68)))).other W252 (Ne.symm (Nat.ne_of_lt (Nat.lt_of_lt_of_le P20.lt sz68))))) F255 hx17 (by omega) (by omega)) hZ (own_g hw 58 rfl) (own_g hw 57 rfl) (by first | decide | (dsimp only; omega)) (by first | decide | (dsimp only; omega))) (g := (mkF m 327 #[vr oa, vi ptb, vr oc, vr om, vr os, vr oR, vj ky, v2, vi x8, vr b7, vr b14, vi la, vj ta, v2, vj tl, v2, vr b64, vi x17, vi x18, s71_19, s71_20, s71_21] [(.int x17), (.ref b64), (.int ptb), (.ref or7)])) rfl (by rw [hml]; rfl) (argsL := [(.ref b64), (.int x17)]) (rest := [(.int ptb), (.ref or7)]) (lenOf own_pd7 rfl) rfl (by show 2 * 0 + _ ≤ _; exact Nat.le_of_eq rfl) (hb hby d7_327) (fun _ _ => ⟨rfl, e254, (by dsimp only; omega : 10 + 1 ≤ _), (by dsimp only; omega : 247 + 4 ≤ _)⟩)
                      dsimp only [Pt.U, Pt.locs, Pt.cells, Pt.slots] at X256 l256 y256 z256 st256 hQ256
                      subst l256 y256 z256
                      obtain ⟨oc_256, kc_256, rfl, Nq256, K256, fr256_oc, u256_0, u256_1⟩ := hQ256
                      obtain ⟨lc256, Xh256, N256⟩ := own_hide X256 (Fr.app N252 Nq256)
                      clear X256
                      refine gv st256 ?_
                      have F258 := ((((F227.keep K225).wr W241).wr W248).wr W252)
                      have ne257 := Nat.ne_of_lt (Nat.lt_of_lt_of_le F258.lt fr256_oc)
                      have F260 := ((((F229.keep K225).wr W241).wr W248).wr W252)
                      have ne259 := Nat.ne_of_lt (Nat.lt_of_lt_of_le F260.lt fr256_oc)
                      have ne261 := Nat.ne_of_lt (Nat.lt_of_lt_of_le F255.lt fr256_oc)
                      have F263 := ((((F233.keep K225 own_nin0).other W241 (Ne.symm (Nat.ne_of_lt (Nat.lt_of_lt_of_le P18.lt sz123)))).other W248 (Ne.symm (Nat.ne_of_lt (Nat.lt_of_lt_of_le P19.lt sz123)))).other W252 (Ne.symm (Nat.ne_of_lt (Nat.lt_of_lt_of_le P20.lt sz123))))
                      have ne262 := Nat.ne_of_lt (Nat.lt_of_lt_of_le F263.lt fr256_oc)
                      have F265 := ((((F235.keep K225 own_nin0).other W241 (Ne.symm (Nat.ne_of_lt (Nat.lt_of_lt_of_le P18.lt sz144)))).other W248 (Ne.symm (Nat.ne_of_lt (Nat.lt_of_lt_of_le P19.lt sz144)))).other W252 (Ne.symm (Nat.ne_of_lt (Nat.lt_of_lt_of_le P20.lt sz144))))
                      have ne264 := Nat.ne_of_lt (Nat.lt_of_lt_of_le F265.lt fr256_oc)
                      have F267 := (((u225_0.wr W241).wr W248).wr W252)
                      have ne266 := Nat.ne_of_lt (Nat.lt_of_lt_of_le F267.lt fr256_oc)
                      have g268 := Nat.le_trans Z252 fr256_oc
                      have sz269 := Nat.le_trans K252.1 fr256_oc
                      have Z270 := Nat.le_trans Z252 K256.1
                      have K271 := K252.trans K256 own_all0
                      have F272 := ((((((((((F71_21.other W111 (Ne.symm na5)).keep K116 own_nin0).other W127 (Ne.symm na10)).keep K135 own_nin0).other W148 (Ne.symm na14)).keep K225 own_nin0).other W241 (Ne.symm na17)).other W248 (Ne.symm na19)).other W252 (Ne.symm na20)).keep K256 own_nin0)
                      obtain ⟨c273, A273, q273, S273, N273, H273, G273⟩ := id F272
                      have hin273 : ¬ (ptb < 0 ∨ c273.slots.size ≤ (ptb).toNatClampNeg) := inb_of S273 ⟨by rw [hptb]; exact own_nneg (by omega), by rw [hptb]; exact (own_ltN (by omega) (by omega)).mpr (by omega)⟩
                      obtain ⟨T273, h273, X273, e273, W273, st273⟩ := stR Xh256 hx hZ rfl A273 (j := ptb) hin273 rfl (Sto.ofVA A273 q273 ho7 (Ins.self u256_1)) (g := (mkF m 330 #[vr oa, vi ptb, vr oc, vr om, vr os, vr oR, vj ky, v2, vi x8, vr b7, vr b14, vi la, vj ta, v2, vj tl, v2, vr b64, vi x17, vi x18, s71_19, s71_20, s71_21] [(.ref oc_256), (.int ptb), (.ref or7)])) rfl rfl (hb hby d7_330)
                      refine gv st273 ?_
                      have Z274 := Nat.le_trans Z270 (Nat.le_of_eq W273.size.symm)
                      have K275 := K271.wr W273 (Or.inl (List.mem_of_getElem? (i := 6) rfl))
                      obtain ⟨lc273, Xh273, N276⟩ := own_hide X273 (Fr.snoc X273 N256 gr7)
                      clear X273
                      have V273 : Arv Z h273 or7 ck7 (.array .int) (nC.toInt32) (vl7.set tb (.ref oc_256)) .null := Arv.set A273 q273 S273 N273 H273 G273 rfl W273 tb (by rw [hptb, own_clamp (by omega)]) (Nat.lt_of_lt_of_le htb hvl7)
                      show Go p.tables e below P T273 (mkF m 331 #[vr oa, vi ptb, vr oc, vr om, vr os, vr oR, vj ky, v2, vi x8, vr b7, vr b14, vi la, vj ta, v2, vj tl, v2, vr b64, vi x17, vi x18, s71_19, s71_20, s71_21] [])
                      have F278 := ((((((((((V111.keep K116 own_nin0).other W127 na0).keep K135 own_nin0).other W148 na1).keep K225 own_nin0).other W241 na2).other W248 na3).other W252 na4).keep K256 own_nin0).other W273 na5)
                      have F279 := ((F263.keep K256 own_nin0).other W273 (Ne.symm (Nat.ne_of_lt (Nat.lt_of_lt_of_le P21.lt sz123))))
                      have F280 := ((F265.keep K256 own_nin0).other W273 (Ne.symm (Nat.ne_of_lt (Nat.lt_of_lt_of_le P21.lt sz144))))
                      obtain ⟨fs, hr, hrun, hended, hW, hsame⟩ := Xh273.leave (v := none) (fun _ => rfl)
                      have F281 := ((((((((V127.keep K135 own_nin0).other W148 na6).keep K225 own_nin0).other W241 na7).other W248 na8).other W252 na9).keep K256 own_nin0).other W273 na10)
                      have F282 := ((((((V148.keep K225 own_nin0).other W241 na11).other W248 na12).other W252 na13).keep K256 own_nin0).other W273 na14)
                      have F283 := ((((V241.other W248 na15).other W252 na16).keep K256 own_nin0).other W273 na17)
                      have F284 := (((V248.other W252 na18).keep K256 own_nin0).other W273 na19)
                      have F285 := ((V252.keep K256 own_nin0).other W273 na20)
                      refine ⟨_, _, Xh273.returnOut hx Bd.returns (hb hby d7_331) hr, hrun, hended, hP _ _ ⟨_, _, rfl, ?_, ⟨_, rfl⟩, hW, hsame.mono (by first | decide | (dsimp only; omega)) (by first | decide | (dsimp only; omega))⟩⟩
                      show Q7 Z oa ptb oc om os oR ow oq or1 or2 or3 or4 or5 or6 or7 kc km ks kR kw kq ck1 ck2 ck3 ck4 ck5 ck6 ck7 cl lm ls lR lw lr vl1 vl2 vl3 vl4 vl5 vl6 vl7 tb nB nC nc nN ra h0 n0 _ T273.heap _
                      rw [e273]
                      exact ⟨oc_116, kc_116, oc_135, kc_135, od_225, oc_256, ta, tl, rfl, N276, K275, sz123, sz144, (by rw [← hkm]; exact F278), F281, F282, F283, F284, F285, V273, (by rw [hrs']; exact F279), (by rw [hrs']; exact F280)⟩
              have F286 := (F20_0.ext E64)
              have F287 := (F20_1.ext E64)
              have F288 := (F20_2.ext E64)
              have F289 := (F20_3.ext E64)
              have F290 := (F20_4.ext E64)
              have F291 := (F20_5.ext E64)
              have F292 := (F20_6.ext E64)
              have F293 := (F20_7.ext E64)
              have F294 := (F20_8.ext E64)
              have F295 := (F20_9.ext E64)
              have F296 := (F20_10.ext E64)
              have F297 := (F20_11.ext E64)
              have F298 := (F20_12.ext E64)
              have F299 := (F20_13.ext E64)
              have F300 := (F20_14.ext E64)
              have F301 := (F20_15.ext E64)
              have F302 := (F20_16.ext E64)
              have F303 := (F20_17.ext E64)
              have F304 := (F20_18.ext E64)
              have F305 := (F20_19.ext E64)
              have F306 := (F20_20.ext E64)
              have F307 := (F20_21.ext E64)
              have F308 := (F20_22.ext E64)
              have F309 := (F20_23.ext E64)
              have F310 := (F20_24.ext E64)
              have F311 := (F20_25.ext E64)
              exact LP71 _ T64 _ h64 0 (0 : Int32) 0 (0 : Int32) (0 : Int64) (0 : Int64) [(0 : Int32), (0 : Int32), (0 : Int32), (0 : Int32)] .unset .unset .unset X64 e64 N20 Z69 K70 F286 F287 F288 F289 F290 F291 F292 F293 F294 F295 F296 F297 F298 F299 F300 F301 F302 F303 F304 F305 F306 F307 F308 F309 F310 F311 B64 V64 (Nat.zero_le _) rfl (Nat.le_refl _) rfl rfl (Or.inl rfl) (Or.inl ⟨rfl, rfl⟩) (Nat.lt_succ_self _)
        have F312 := ((P0.ext E7).ext E14)
        have F313 := ((P1.ext E7).ext E14)
        have F314 := ((P2.ext E7).ext E14)
        have F315 := ((P3.ext E7).ext E14)
        have F316 := ((P4.ext E7).ext E14)
        have F317 := ((P5.ext E7).ext E14)
        have F318 := ((P6.ext E7).ext E14)
        have F319 := ((P7.ext E7).ext E14)
        have F320 := ((P8.ext E7).ext E14)
        have F321 := (F12.ext E14)
        have F322 := ((P10.ext E7).ext E14)
        have F323 := ((P11.ext E7).ext E14)
        have F324 := ((P12.ext E7).ext E14)
        have F325 := ((P13.ext E7).ext E14)
        have F326 := ((P14.ext E7).ext E14)
        have F327 := ((P15.ext E7).ext E14)
        have F328 := ((P16.ext E7).ext E14)
        have F329 := ((P17.ext E7).ext E14)
        have F330 := ((P18.ext E7).ext E14)
        have F331 := ((P19.ext E7).ext E14)
        have F332 := ((P20.ext E7).ext E14)
        have F333 := ((P21.ext E7).ext E14)
        have F334 := (B7.ext E14)
        have F335 := (V7.ext E14)
        exact LP20 _ T14 _ h14 0 (0 : Int32) (0 : Int32) 0 [(0 : Int32), (0 : Int32), (0 : Int32)] [(0 : Int32), (0 : Int32), (0 : Int32)] .unset X14 e14 N2 Z18 K19 F312 F313 F314 F315 F316 F317 F318 F319 F320 F321 F322 F323 F324 F325 F326 F327 F328 F329 F330 F331 F332 F333 F334 F335 B14 V14 (Nat.zero_le _) rfl rfl rfl (Or.inl rfl) (Nat.lt_succ_self _)
  exact LP2 _ s₁ _ 0 (0 : Int32) (0 : Int64) .unset X0 e0 N0 (Nat.zero_le _) rfl rfl (Or.inl rfl) (Nat.lt_succ_self _)
theorem own_pd9 : parseMethodDescriptor "(I)J" = some ⟨[.int], some .long⟩ := by decide +kernel
theorem d15_0 : D19 0 (.lconst 0) 1 := by decide +kernel
theorem d15_1 : D19 1 (.lstore 4) 2 := by decide +kernel
theorem d15_3 : D19 3 (.iconst 0) 1 := by decide +kernel
theorem d15_4 : D19 4 (.istore 6) 2 := by decide +kernel
theorem d15_6 : D19 6 (.iload 6) 2 := by decide +kernel
theorem d15_8 : D19 8 (.aload_n 0) 1 := by decide +kernel
theorem d15_9 : D19 9 (.getfield 75) 3 := by decide +kernel
theorem d15_12 : D19 12 (.iload_n 1) 1 := by decide +kernel
theorem d15_13 : D19 13 (.aaload) 1 := by decide +kernel
theorem d15_14 : D19 14 (.arraylength) 1 := by decide +kernel
theorem d15_15 : D19 15 (.if_icmp .ge 45) 3 := by decide +kernel
theorem d15_18 : D19 18 (.aload_n 0) 1 := by decide +kernel
theorem d15_19 : D19 19 (.getfield 79) 3 := by decide +kernel
theorem d15_22 : D19 22 (.iload_n 1) 1 := by decide +kernel
theorem d15_23 : D19 23 (.aaload) 1 := by decide +kernel
theorem d15_24 : D19 24 (.iload 6) 2 := by decide +kernel
theorem d15_26 : D19 26 (.iaload) 1 := by decide +kernel
theorem d15_27 : D19 27 (.istore 7) 2 := by decide +kernel
theorem d15_29 : D19 29 (.lload 4) 2 := by decide +kernel
theorem d15_31 : D19 31 (.iload 7) 2 := by decide +kernel
theorem d15_33 : D19 33 (.lshl) 1 := by decide +kernel
theorem d15_34 : D19 34 (.lload_n 2) 1 := by decide +kernel
theorem d15_35 : D19 35 (.aload_n 0) 1 := by decide +kernel
theorem d15_36 : D19 36 (.getfield 75) 3 := by decide +kernel
theorem d15_39 : D19 39 (.iload_n 1) 1 := by decide +kernel
theorem d15_40 : D19 40 (.aaload) 1 := by decide +kernel
theorem d15_41 : D19 41 (.iload 6) 2 := by decide +kernel
theorem d15_43 : D19 43 (.iaload) 1 := by decide +kernel
theorem d15_44 : D19 44 (.lushr) 1 := by decide +kernel
theorem d15_45 : D19 45 (.iload 7) 2 := by decide +kernel
theorem d15_47 : D19 47 (.invokestatic 47) 3 := by decide +kernel
theorem d15_50 : D19 50 (.land) 1 := by decide +kernel
theorem d15_51 : D19 51 (.lor) 1 := by decide +kernel
theorem d15_52 : D19 52 (.lstore 4) 2 := by decide +kernel
theorem d15_54 : D19 54 (.iinc 6 1) 3 := by decide +kernel
theorem d15_57 : D19 57 (.goto (-51)) 3 := by decide +kernel
theorem d15_60 : D19 60 (.lload 4) 2 := by decide +kernel
theorem d15_62 : D19 62 (.lreturn) 1 := by decide +kernel
theorem ef_15 (m : MethodId) (x0 : Addr) (x1 : Int32) (x2 : Int64) : entryFrame m #[(.ref x0), (.int x1), (.long x2)] 8 = mkF m 0 #[.val (.ref x0), .val (.int x1), .val (.long x2), .second, .unset, .unset, .unset, .unset] [] := by first | (simp [entryFrame, mkF, argsToLocals, Value.category]; done) | rfl
def Q15 (Z : State) (oa : Addr) (ptt : Int32) (qf : Int64) (or2 : Addr) (or3 : Addr) (ck2 : ClassId) (ck3 : ClassId) (vl2 : List Value) (vl3 : List Value) (s1 : Addr) (s2 : Addr) (ks1 : ClassId) (ks2 : ClassId) (nC : Nat) (tt : Nat) (nr : Nat) (sl : List Int32) (wl : List Int32) (h0 : Heap) (n0 : Nat) (v : Option Value) (h : Heap) (L : List Loc) : Prop := v = some (.long (own_key sl wl qf nr)) ∧ Fr n0 L ∧ h = h0
set_option maxRecDepth 65536 in
set_option maxHeartbeats 40000000 in
theorem rm15 (l : Launch) (Z : State) (a0 : Array Value) (hw : ∀ d ∈ tables_1, d.before a0 Z = true) (ws : List Jvm.Cond) (oa : Addr) (ptt : Int32) (qf : Int64) (or2 : Addr) (or3 : Addr) (ck2 : ClassId) (ck3 : ClassId) (vl2 : List Value) (vl3 : List Value) (s1 : Addr) (s2 : Addr) (ks1 : ClassId) (ks2 : ClassId) (nC : Nat) (tt : Nat) (nr : Nat) (sl : List Int32) (wl : List Int32) (h0 : Heap) (n0 : Nat) (Z0 : n0 ≤ h0.size) (P0 : Fld Z h0 oa BLn "runShifts" "[[I" (.ref or2)) (P1 : Fld Z h0 oa BLn "runWidths" "[[I" (.ref or3)) (P2 : Arv Z h0 or2 ck2 (.array .int) (nC.toInt32) vl2 .null) (P3 : Arv Z h0 or3 ck3 (.array .int) (nC.toInt32) vl3 .null) (P4 : Arv Z h0 s1 ks1 .int (nr.toInt32) (sl.map Value.int) (.int 0)) (P5 : Arv Z h0 s2 ks2 .int (nr.toInt32) (wl.map Value.int) (.int 0)) (hptt : ptt = tt.toInt32) (htt : tt < nC) (hC10 : nC ≤ 10) (hnr : nr ≤ 3) (hs1 : vl2.getD tt .null = .ref s1) (hs2 : vl3.getD tt .null = .ref s2) :
    MetFree l (⟨BLn, "key", "(IJ)J"⟩ : MethodName) (head1 (Jvm.Cond.code (⟨BLn, "key", "(IJ)J"⟩ : MethodName) prog_1_method_10_code 8 (some .long) :: ws) ({ frames := 1, cells := 0, slots := 0, locals := 16 } : Room)) (fun a U => a = #[(.ref oa), (.int ptt), (.long qf)] ∧ Z.Warmed39 U.vm ∧ U.heap = h0) (fun _ _ _ _ _ => True) (fun _ U o U' => ∃ v L, o = .returned v ∧ Q15 Z oa ptt qf or2 or3 ck2 ck3 vl2 vl3 s1 s2 ks1 ks2 nC tt nr sl wl h0 n0 v U'.heap L ∧ FrameEnd U o U' L ({ frames := 1, cells := 0, slots := 0, locals := 16 } : Room).cells ({ frames := 1, cells := 0, slots := 0, locals := 16 } : Room).slots) := by
  refine MetFree.of_bodySF (plainFor_of_name own_pn1) hisR ?_
  intro p e s m args below meth c s₁ Bd hml0 hP hK
  obtain ⟨rfl, hZ, hh⟩ := hP
  have hx := Bd.exec
  have hby := Bd.bytes
  have hml : c.maxLocals = 8 := hml0
  have hown : s.vm.findClass BLn = some m.cls := findClass_of_methodNamed Bd.named
  have hnm := (name_of_methodNamed Bd.named Bd.method).1
  have X0 : Stand p l e ({ frames := 1, cells := 0, slots := 0, locals := 16 } : Room) s m #[(.ref oa), (.int ptt), (.long qf)] below meth c s₁ [] 0 0 := Stand.of_body Bd
  have e0 : s₁.heap = h0 := by rw [← hh, Bd.state]; rfl
  have N0 := Fr.nil n0
  have K0 : Keep h0 h0 [] := Keep.refl _ _
  suffices GO : ∀ P : Outcome → State → Prop, (∀ o U', (∃ v L, o = .returned v ∧ Q15 Z oa ptt qf or2 or3 ck2 ck3 vl2 vl3 s1 s2 ks1 ks2 nC tt nr sl wl h0 n0 v U'.heap L ∧ FrameEnd s o U' L ({ frames := 1, cells := 0, slots := 0, locals := 16 } : Room).cells ({ frames := 1, cells := 0, slots := 0, locals := 16 } : Room).slots) → P o U') → Go p.tables e below P s₁ (mkF m 0 #[.val (.ref oa), .val (.int ptt), .val (.long qf), .second, .unset, .unset, .unset, .unset] []) by
    obtain ⟨s2, o, st, r⟩ := GO _ (fun _ _ q => q)
    exact ⟨s2, o, castTop (ef_15 m oa ptt qf) st, r⟩
  clear hh
  intro P hP
  show Go p.tables e below P s₁ (mkF m 0 #[vr oa, vi ptt, vj qf, v2, vu, vu, vu, vu] [])
  refine gv (fun t k => XS.lconst X0.here hx rfl (hb hby d15_0) k) ?_
  refine gv (fun t k => XS.lstore X0.here hx rfl (hb hby d15_1) rfl (l' := #[vr oa, vi ptt, vj qf, v2, vj 0, v2, vu, vu]) rfl k) ?_
  refine gv (fun t k => XS.iconst X0.here hx rfl (hb hby d15_3) k) ?_
  refine gv (fun t k => XS.istore X0.here hx rfl (hb hby d15_4) rfl (l' := #[vr oa, vi ptt, vj qf, v2, vj 0, v2, vi 0, vu]) rfl k) ?_
  have LP1 : ∀ (k1 : Nat) (T1 : State) (locs1 : List Loc) (i : Nat) (x6 : Int32) (ac : Int64) (s1_7 : Slot), Stand p l e ({ frames := 1, cells := 0, slots := 0, locals := 16 } : Room) s m #[(.ref oa), (.int ptt), (.long qf)] below meth c T1 locs1 0 0 → T1.heap = h0 → Fr n0 locs1 → i ≤ nr → x6 = i.toInt32 → ac = own_key sl wl qf i → (s1_7 = .unset ∨ ∃ w, s1_7 = .val w ∧ w.category = 1) → nr - i < k1 → Go p.tables e below P T1 (mkF m 6 #[.val (.ref oa), .val (.int ptt), .val (.long qf), .second, .val (.long ac), .second, .val (.int x6), s1_7] []) := by
    intro k1
    induction k1 with
    | zero => intros; rename_i hk; exact absurd hk (Nat.not_lt_zero _)
    | succ k1 ih1 =>
      intro T1 locs1 i x6 ac s1_7 X1 e1 N1 hi hx6 hac hos1_7 hk
      show Go p.tables e below P T1 (mkF m 6 #[vr oa, vi ptt, vj qf, v2, vj ac, v2, vi x6, s1_7] [])
      refine gv (fun t k => XS.iload X1.here hx rfl (hb hby d15_6) rfl k) ?_
      refine gv (fun t k => XS.aloadN X1.here hx rfl (hb hby d15_8) rfl rfl k) ?_
      obtain ⟨T2, X2, e2, st2⟩ := getF X1 hx hZ hown (host := "") (Or.inl (own_g hw 37 rfl)) Via.refl e1 P0 (g := (mkF m 9 #[vr oa, vi ptt, vj qf, v2, vj ac, v2, vi x6, s1_7] [(.ref oa), (.int x6)])) rfl rfl (hb hby d15_9)
      refine gv st2 ?_
      refine gv (fun t k => XS.iloadN X2.here hx rfl (hb hby d15_12) rfl k) ?_
      obtain ⟨c3, A3, q3, S3, N3, H3, G3⟩ := id P2
      have hin3 : ¬ (ptt < 0 ∨ c3.slots.size ≤ (ptt).toNatClampNeg) := inb_of S3 ⟨by rw [hptt]; exact own_nneg (by omega), by rw [hptt]; exact (own_ltN (by omega) (by omega)).mpr (by omega)⟩
      have hat3 : c3.slots[(ptt).toNatClampNeg]? = some (.ref s1) := (H3 _ (Nat.lt_of_not_le fun q => hin3 (Or.inr q))).trans (congrArg some (by rw [hptt, own_clamp (by omega)]; exact hs1))
      refine gv (fun t k => X2.aaload hx (j := ptt) (v := (.ref s1)) (by rw [e2]; exact A3.1) (State.isArrayOf_alike hZ.alike A3.2.1) rfl A3.2.2 hin3 hat3 (g := (mkF m 13 #[vr oa, vi ptt, vj qf, v2, vj ac, v2, vi x6, s1_7] [(.int ptt), (.ref or2), (.int x6)])) rfl rfl (hb hby d15_13) t k) ?_
      obtain ⟨c4, A4, -, S4, N4, -, -⟩ := id P4
      refine gv (fun t k => X2.arraylength hx (by rw [e2]; exact A4.1) (State.isArrayOf_alike hZ.alike A4.2.1) (g := (mkF m 14 #[vr oa, vi ptt, vj qf, v2, vj ac, v2, vi x6, s1_7] [(.ref s1), (.int x6)])) rfl rfl (hb hby d15_14) t (by rw [len_of S4 N4]; exact k)) ?_
      by_cases hc5 : x6 < (nr.toInt32)
      · refine gv (fun t k => XS.icmpNo X2.here hx rfl (hb hby d15_15) rfl (tlt hc5).2.1 k) ?_
        have hlt : i < nr := (own_ltN (by omega) (by omega)).mp (by rw [← hx6]; exact hc5)
        refine gv (fun t k => XS.aloadN X2.here hx rfl (hb hby d15_18) rfl rfl k) ?_
        obtain ⟨T6, X6, e6, st6⟩ := getF X2 hx hZ hown (host := "") (Or.inl (own_g hw 39 rfl)) Via.refl e2 P1 (g := (mkF m 19 #[vr oa, vi ptt, vj qf, v2, vj ac, v2, vi x6, s1_7] [(.ref oa)])) rfl rfl (hb hby d15_19)
        refine gv st6 ?_
        show Go p.tables e below P T6 (mkF m 22 #[vr oa, vi ptt, vj qf, v2, vj ac, v2, vi x6, s1_7] [(.ref or3)])
        refine gv (fun t k => XS.iloadN X6.here hx rfl (hb hby d15_22) rfl k) ?_
        obtain ⟨c7, A7, q7, S7, N7, H7, G7⟩ := id P3
        have hin7 : ¬ (ptt < 0 ∨ c7.slots.size ≤ (ptt).toNatClampNeg) := inb_of S7 ⟨by rw [hptt]; exact own_nneg (by omega), by rw [hptt]; exact (own_ltN (by omega) (by omega)).mpr (by omega)⟩
        have hat7 : c7.slots[(ptt).toNatClampNeg]? = some (.ref s2) := (H7 _ (Nat.lt_of_not_le fun q => hin7 (Or.inr q))).trans (congrArg some (by rw [hptt, own_clamp (by omega)]; exact hs2))
        refine gv (fun t k => X6.aaload hx (j := ptt) (v := (.ref s2)) (by rw [e6]; exact A7.1) (State.isArrayOf_alike hZ.alike A7.2.1) rfl A7.2.2 hin7 hat7 (g := (mkF m 23 #[vr oa, vi ptt, vj qf, v2, vj ac, v2, vi x6, s1_7] [(.int ptt), (.ref or3)])) rfl rfl (hb hby d15_23) t k) ?_
        refine gv (fun t k => XS.iload X6.here hx rfl (hb hby d15_24) rfl k) ?_
        obtain ⟨c8, A8, q8, S8, N8, H8, G8⟩ := id P5
        have hin8 : ¬ (x6 < 0 ∨ c8.slots.size ≤ (x6).toNatClampNeg) := inb_of S8 ⟨by rw [hx6]; exact own_nneg (by omega), by rw [hx6]; exact (own_ltN (by omega) (by omega)).mpr (by omega)⟩
        have hat8 : c8.slots[(x6).toNatClampNeg]? = some (.int (wl.getD i 0)) := (H8 _ (Nat.lt_of_not_le fun q => hin8 (Or.inr q))).trans (congrArg some (by rw [hx6, own_clamp (by omega)]; exact own_getDI _ _))
        refine gv (fun t k => X6.iaload hx (j := x6) (v := (.int (wl.getD i 0))) (by rw [e6]; exact A8.1) (State.isArrayOf_alike hZ.alike A8.2.1) A8.2.2 hin8 hat8 (g := (mkF m 26 #[vr oa, vi ptt, vj qf, v2, vj ac, v2, vi x6, s1_7] [(.int x6), (.ref s2)])) rfl rfl (hb hby d15_26) t k) ?_
        refine gv (fun t k => XS.istore X6.here hx rfl (hb hby d15_27) rfl (l' := #[vr oa, vi ptt, vj qf, v2, vj ac, v2, vi x6, vi (wl.getD i 0)]) (XS.store1 rfl hos1_7 rfl) k) ?_
        refine gv (fun t k => XS.lload X6.here hx rfl (hb hby d15_29) rfl k) ?_
        refine gv (fun t k => XS.iload X6.here hx rfl (hb hby d15_31) rfl k) ?_
        refine gv (fun t k => XS.lshl X6.here hx rfl (hb hby d15_33) rfl k) ?_
        refine gv (fun t k => XS.lloadN X6.here hx rfl (hb hby d15_34) rfl k) ?_
        show Go p.tables e below P T6 (mkF m 35 #[vr oa, vi ptt, vj qf, v2, vj ac, v2, vi x6, vi (wl.getD i 0)] [(.long qf), (.long (ac <<< ((wl.getD i 0) &&& 0x3f).toInt64))])
        refine gv (fun t k => XS.aloadN X6.here hx rfl (hb hby d15_35) rfl rfl k) ?_
        obtain ⟨T9, X9, e9, st9⟩ := getF X6 hx hZ hown (host := "") (Or.inl (own_g hw 37 rfl)) Via.refl e6 P0 (g := (mkF m 36 #[vr oa, vi ptt, vj qf, v2, vj ac, v2, vi x6, vi (wl.getD i 0)] [(.ref oa), (.long qf), (.long (ac <<< ((wl.getD i 0) &&& 0x3f).toInt64))])) rfl rfl (hb hby d15_36)
        refine gv st9 ?_
        refine gv (fun t k => XS.iloadN X9.here hx rfl (hb hby d15_39) rfl k) ?_
        obtain ⟨c10, A10, q10, S10, N10, H10, G10⟩ := id P2
        have hin10 : ¬ (ptt < 0 ∨ c10.slots.size ≤ (ptt).toNatClampNeg) := inb_of S10 ⟨by rw [hptt]; exact own_nneg (by omega), by rw [hptt]; exact (own_ltN (by omega) (by omega)).mpr (by omega)⟩
        have hat10 : c10.slots[(ptt).toNatClampNeg]? = some (.ref s1) := (H10 _ (Nat.lt_of_not_le fun q => hin10 (Or.inr q))).trans (congrArg some (by rw [hptt, own_clamp (by omega)]; exact hs1))
        refine gv (fun t k => X9.aaload hx (j := ptt) (v := (.ref s1)) (by rw [e9]; exact A10.1) (State.isArrayOf_alike hZ.alike A10.2.1) rfl A10.2.2 hin10 hat10 (g := (mkF m 40 #[vr oa, vi ptt, vj qf, v2, vj ac, v2, vi x6, vi (wl.getD i 0)] [(.int ptt), (.ref or2), (.long qf), (.long (ac <<< ((wl.getD i 0) &&& 0x3f).toInt64))])) rfl rfl (hb hby d15_40) t k) ?_
        refine gv (fun t k => XS.iload X9.here hx rfl (hb hby d15_41) rfl k) ?_
        obtain ⟨c11, A11, q11, S11, N11, H11, G11⟩ := id P4
        have hin11 : ¬ (x6 < 0 ∨ c11.slots.size ≤ (x6).toNatClampNeg) := inb_of S11 ⟨by rw [hx6]; exact own_nneg (by omega), by rw [hx6]; exact (own_ltN (by omega) (by omega)).mpr (by omega)⟩
        have hat11 : c11.slots[(x6).toNatClampNeg]? = some (.int (sl.getD i 0)) := (H11 _ (Nat.lt_of_not_le fun q => hin11 (Or.inr q))).trans (congrArg some (by rw [hx6, own_clamp (by omega)]; exact own_getDI _ _))
        refine gv (fun t k => X9.iaload hx (j := x6) (v := (.int (sl.getD i 0))) (by rw [e9]; exact A11.1) (State.isArrayOf_alike hZ.alike A11.2.1) A11.2.2 hin11 hat11 (g := (mkF m 43 #[vr oa, vi ptt, vj qf, v2, vj ac, v2, vi x6, vi (wl.getD i 0)] [(.int x6), (.ref s1), (.long qf), (.long (ac <<< ((wl.getD i 0) &&& 0x3f).toInt64))])) rfl rfl (hb hby d15_43) t k) ?_
        refine gv (fun t k => XS.lushr X9.here hx rfl (hb hby d15_44) rfl k) ?_
        refine gv (fun t k => XS.iload X9.here hx rfl (hb hby d15_45) rfl k) ?_
        obtain ⟨_, _, ⟨T12, L12, k12, n12⟩, -, X12, ⟨Lc12, hQ12, l12, y12, z12⟩, st12⟩ := Jvm.LawKit.callS X9 hx (y := (⟨BLn, "lowBits", "(I)J"⟩ : MethodName)) hown (mvT hZ (own_g hw 27 rfl)) (mvT hZ (own_g hw 28 rfl)) (mvT hZ (own_g hw 11 rfl)) (mvT hZ (own_g hw 29 rfl)) (by decide) (backOf (W := 4) (rm6 l Z a0 hw [] (wl.getD i 0) h0 n0 Z0 ) hZ (own_g hw 29 rfl) (own_g hw 11 rfl) (by decide) (by decide)) (g := (mkF m 47 #[vr oa, vi ptt, vj qf, v2, vj ac, v2, vi x6, vi (wl.getD i 0)] [(.int (wl.getD i 0)), (.long ((qf.toUInt64 >>> ((sl.getD i 0) &&& 0x3f).toInt64.toUInt64).toInt64)), (.long (ac <<< ((wl.getD i 0) &&& 0x3f).toInt64))])) rfl (by rw [hml]; rfl) (argsL := [(.int (wl.getD i 0))]) (rest := [(.long ((qf.toUInt64 >>> ((sl.getD i 0) &&& 0x3f).toInt64.toUInt64).toInt64)), (.long (ac <<< ((wl.getD i 0) &&& 0x3f).toInt64))]) (lenOf own_pd9 rfl) rfl (by show 2 * 0 + _ ≤ _; exact Nat.le_of_eq rfl) (hb hby d15_47) (fun _ _ => ⟨rfl, e9, (by decide : 0 + 0 ≤ _), (by decide : 0 + 0 ≤ _)⟩)
        dsimp only [Pt.U, Pt.locs, Pt.cells, Pt.slots] at X12 l12 y12 z12 st12 hQ12
        subst l12 y12 z12
        obtain ⟨rfl, Nq12, hh12⟩ := hQ12
        obtain ⟨lc12, Xh12, N12⟩ := own_hide X12 (Fr.app N1 Nq12)
        clear X12
        refine gv st12 ?_
        show Go p.tables e below P T12 (mkF m 50 #[vr oa, vi ptt, vj qf, v2, vj ac, v2, vi x6, vi (wl.getD i 0)] [(.long (own_lb (wl.getD i 0))), (.long ((qf.toUInt64 >>> ((sl.getD i 0) &&& 0x3f).toInt64.toUInt64).toInt64)), (.long (ac <<< ((wl.getD i 0) &&& 0x3f).toInt64))])
        refine gv (fun t k => XS.land Xh12.here hx rfl (hb hby d15_50) rfl k) ?_
        refine gv (fun t k => XS.lor Xh12.here hx rfl (hb hby d15_51) rfl k) ?_
        refine gv (fun t k => XS.lstore Xh12.here hx rfl (hb hby d15_52) rfl (l' := #[vr oa, vi ptt, vj qf, v2, vj ((ac <<< ((wl.getD i 0) &&& 0x3f).toInt64) ||| (((qf.toUInt64 >>> ((sl.getD i 0) &&& 0x3f).toInt64.toUInt64).toInt64) &&& (own_lb (wl.getD i 0)))), v2, vi x6, vi (wl.getD i 0)]) rfl k) ?_
        refine gv (fun t k => XS.iinc Xh12.here hx rfl (hb hby d15_54) rfl (l' := #[vr oa, vi ptt, vj qf, v2, vj ((ac <<< ((wl.getD i 0) &&& 0x3f).toInt64) ||| (((qf.toUInt64 >>> ((sl.getD i 0) &&& 0x3f).toInt64.toUInt64).toInt64) &&& (own_lb (wl.getD i 0)))), v2, vi (x6 + (1 : Int32)), vi (wl.getD i 0)]) rfl k) ?_
        refine gv (fun t k => XS.goto Xh12.here hx rfl (pc0 := 57) (pc' := 6) rfl (hb hby d15_57) (by decide) (by decide) k) ?_
        exact ih1 T12 _ (i + 1) (x6 + (1 : Int32)) ((ac <<< ((wl.getD i 0) &&& 0x3f).toInt64) ||| (((qf.toUInt64 >>> ((sl.getD i 0) &&& 0x3f).toInt64.toUInt64).toInt64) &&& (own_lb (wl.getD i 0)))) (.val (.int (wl.getD i 0))) Xh12 hh12 N12 hlt (by rw [hx6]; exact own_succ i) (by rw [hac]; rfl) (Or.inr ⟨_, rfl, rfl⟩) (by omega)
      · refine gv (fun t k => XS.icmpYes X2.here hx rfl (pc0 := 15) (pc' := 60) rfl (hb hby d15_15) rfl (flt hc5).2.1 (by decide) (by decide) k) ?_
        refine gv (fun t k => XS.lload X2.here hx rfl (hb hby d15_60) rfl k) ?_
        show Go p.tables e below P T2 (mkF m 62 #[vr oa, vi ptt, vj qf, v2, vj ac, v2, vi x6, s1_7] [(.long ac)])
        obtain ⟨fs, hr, hrun, hended, hW, hsame⟩ := X2.leave (v := some (.long (own_key sl wl qf nr))) (fun h => by rw [Bd.returns] at h; cases h)
        refine ⟨_, _, (by have q := retJ X2 hx Bd.returns (hb hby d15_62) (z := ac) (rest := []) (pc := 62) (Ls := #[.val (.ref oa), .val (.int ptt), .val (.long qf), .second, .val (.long ac), .second, .val (.int x6), s1_7]) (by rw [(show ac = own_key sl wl qf nr from by rw [hac]; congr 1; have q := hc5; rw [hx6, own_ltN (by omega) (by omega)] at q; omega)]; exact hr); exact q), hrun, hended, hP _ _ ⟨_, _, rfl, ?_, ⟨_, rfl⟩, hW, hsame.mono (by decide) (by decide)⟩⟩
        show Q15 Z oa ptt qf or2 or3 ck2 ck3 vl2 vl3 s1 s2 ks1 ks2 nC tt nr sl wl h0 n0 _ T2.heap _
        rw [e2]
        exact ⟨rfl, N1, rfl⟩
  exact LP1 _ s₁ _ 0 (0 : Int32) (0 : Int64) .unset X0 e0 N0 (Nat.zero_le _) rfl rfl (Or.inl rfl) (Nat.lt_succ_self _)
theorem own_dm {n i k : Nat} (h : i < n) (hk : n - i < k + 1) : n - (i + 1) < k := by omega
theorem own_lt1 {t b : Nat} (q : t < b + 1) (h : ¬ b = t) : t < b := by omega
theorem own_cb {c d n M t : Nat} (h : t < n) (hM : c + d * n ≤ M) : (c + d * t) + d ≤ M := by
  have q : d * (t + 1) ≤ d * n := Nat.mul_le_mul_left d h
  rw [Nat.mul_succ] at q; omega
theorem own_cv {c d t : Nat} : (c + d * t) + d + 0 ≤ c + d * (t + 1) := by rw [Nat.mul_succ]; omega
theorem own_cw {c d n M t : Nat} (h : t ≤ n) (hM : c + d * n ≤ M) : c + d * t ≤ M := by
  have q : d * t ≤ d * n := Nat.mul_le_mul_left d h
  omega
theorem own_sn0 {Z : State} {a0 : Array Value} (hw : ∀ d ∈ tables_1, d.before a0 Z = true) : Jvm.RoadKit.slotOf Z BLn "widths" "[I" ≠ Jvm.RoadKit.slotOf Z BLn "distance" "I" := slot_ne (Or.inr (own_g hw 26 rfl)) (Or.inr (own_g hw 24 rfl)) (by decide) (t := (.array .int)) (t' := .int) (by decide) (by decide)
theorem own_sn1 {Z : State} {a0 : Array Value} (hw : ∀ d ∈ tables_1, d.before a0 Z = true) : Jvm.RoadKit.slotOf Z BLn "keyMasks" "[J" ≠ Jvm.RoadKit.slotOf Z BLn "radii" "[I" := slot_ne (Or.inr (own_g hw 34 rfl)) (Or.inr (own_g hw 32 rfl)) (by decide) (t := (.array .long)) (t' := (.array .int)) (by decide) (by decide)
theorem own_sn2 {Z : State} {a0 : Array Value} (hw : ∀ d ∈ tables_1, d.before a0 Z = true) : Jvm.RoadKit.slotOf Z BLn "runShifts" "[[I" ≠ Jvm.RoadKit.slotOf Z BLn "radii" "[I" := slot_ne (Or.inr (own_g hw 38 rfl)) (Or.inr (own_g hw 32 rfl)) (by decide) (t := (.array (.array .int))) (t' := (.array .int)) (by decide) (by decide)
theorem own_sn3 {Z : State} {a0 : Array Value} (hw : ∀ d ∈ tables_1, d.before a0 Z = true) : Jvm.RoadKit.slotOf Z BLn "runShifts" "[[I" ≠ Jvm.RoadKit.slotOf Z BLn "keyMasks" "[J" := slot_ne (Or.inr (own_g hw 38 rfl)) (Or.inr (own_g hw 34 rfl)) (by decide) (t := (.array (.array .int))) (t' := (.array .long)) (by decide) (by decide)
theorem own_sn4 {Z : State} {a0 : Array Value} (hw : ∀ d ∈ tables_1, d.before a0 Z = true) : Jvm.RoadKit.slotOf Z BLn "runWidths" "[[I" ≠ Jvm.RoadKit.slotOf Z BLn "radii" "[I" := slot_ne (Or.inr (own_g hw 40 rfl)) (Or.inr (own_g hw 32 rfl)) (by decide) (t := (.array (.array .int))) (t' := (.array .int)) (by decide) (by decide)
theorem own_sn5 {Z : State} {a0 : Array Value} (hw : ∀ d ∈ tables_1, d.before a0 Z = true) : Jvm.RoadKit.slotOf Z BLn "runWidths" "[[I" ≠ Jvm.RoadKit.slotOf Z BLn "keyMasks" "[J" := slot_ne (Or.inr (own_g hw 40 rfl)) (Or.inr (own_g hw 34 rfl)) (by decide) (t := (.array (.array .int))) (t' := (.array .long)) (by decide) (by decide)
theorem own_sn6 {Z : State} {a0 : Array Value} (hw : ∀ d ∈ tables_1, d.before a0 Z = true) : Jvm.RoadKit.slotOf Z BLn "runWidths" "[[I" ≠ Jvm.RoadKit.slotOf Z BLn "runShifts" "[[I" := slot_ne (Or.inr (own_g hw 40 rfl)) (Or.inr (own_g hw 38 rfl)) (by decide) (t := (.array (.array .int))) (t' := (.array (.array .int))) (by decide) (by decide)
theorem own_sn7 {Z : State} {a0 : Array Value} (hw : ∀ d ∈ tables_1, d.before a0 Z = true) : Jvm.RoadKit.slotOf Z BLn "keyDifferences" "[[J" ≠ Jvm.RoadKit.slotOf Z BLn "radii" "[I" := slot_ne (Or.inr (own_g hw 44 rfl)) (Or.inr (own_g hw 32 rfl)) (by decide) (t := (.array (.array .long))) (t' := (.array .int)) (by decide) (by decide)
theorem own_sn8 {Z : State} {a0 : Array Value} (hw : ∀ d ∈ tables_1, d.before a0 Z = true) : Jvm.RoadKit.slotOf Z BLn "keyDifferences" "[[J" ≠ Jvm.RoadKit.slotOf Z BLn "keyMasks" "[J" := slot_ne (Or.inr (own_g hw 44 rfl)) (Or.inr (own_g hw 34 rfl)) (by decide) (t := (.array (.array .long))) (t' := (.array .long)) (by decide) (by decide)
theorem own_sn9 {Z : State} {a0 : Array Value} (hw : ∀ d ∈ tables_1, d.before a0 Z = true) : Jvm.RoadKit.slotOf Z BLn "keyDifferences" "[[J" ≠ Jvm.RoadKit.slotOf Z BLn "runShifts" "[[I" := slot_ne (Or.inr (own_g hw 44 rfl)) (Or.inr (own_g hw 38 rfl)) (by decide) (t := (.array (.array .long))) (t' := (.array (.array .int))) (by decide) (by decide)
theorem own_sn10 {Z : State} {a0 : Array Value} (hw : ∀ d ∈ tables_1, d.before a0 Z = true) : Jvm.RoadKit.slotOf Z BLn "keyDifferences" "[[J" ≠ Jvm.RoadKit.slotOf Z BLn "runWidths" "[[I" := slot_ne (Or.inr (own_g hw 44 rfl)) (Or.inr (own_g hw 40 rfl)) (by decide) (t := (.array (.array .long))) (t' := (.array (.array .int))) (by decide) (by decide)
theorem own_sn11 {Z : State} {a0 : Array Value} (hw : ∀ d ∈ tables_1, d.before a0 Z = true) : Jvm.RoadKit.slotOf Z BLn "skippedTops" "[J" ≠ Jvm.RoadKit.slotOf Z BLn "radii" "[I" := slot_ne (Or.inr (own_g hw 46 rfl)) (Or.inr (own_g hw 32 rfl)) (by decide) (t := (.array .long)) (t' := (.array .int)) (by decide) (by decide)
theorem own_sn12 {Z : State} {a0 : Array Value} (hw : ∀ d ∈ tables_1, d.before a0 Z = true) : Jvm.RoadKit.slotOf Z BLn "skippedTops" "[J" ≠ Jvm.RoadKit.slotOf Z BLn "keyMasks" "[J" := slot_ne (Or.inr (own_g hw 46 rfl)) (Or.inr (own_g hw 34 rfl)) (by decide) (t := (.array .long)) (t' := (.array .long)) (by decide) (by decide)
theorem own_sn13 {Z : State} {a0 : Array Value} (hw : ∀ d ∈ tables_1, d.before a0 Z = true) : Jvm.RoadKit.slotOf Z BLn "skippedTops" "[J" ≠ Jvm.RoadKit.slotOf Z BLn "runShifts" "[[I" := slot_ne (Or.inr (own_g hw 46 rfl)) (Or.inr (own_g hw 38 rfl)) (by decide) (t := (.array .long)) (t' := (.array (.array .int))) (by decide) (by decide)
theorem own_sn14 {Z : State} {a0 : Array Value} (hw : ∀ d ∈ tables_1, d.before a0 Z = true) : Jvm.RoadKit.slotOf Z BLn "skippedTops" "[J" ≠ Jvm.RoadKit.slotOf Z BLn "runWidths" "[[I" := slot_ne (Or.inr (own_g hw 46 rfl)) (Or.inr (own_g hw 40 rfl)) (by decide) (t := (.array .long)) (t' := (.array (.array .int))) (by decide) (by decide)
theorem own_sn15 {Z : State} {a0 : Array Value} (hw : ∀ d ∈ tables_1, d.before a0 Z = true) : Jvm.RoadKit.slotOf Z BLn "skippedTops" "[J" ≠ Jvm.RoadKit.slotOf Z BLn "keyDifferences" "[[J" := slot_ne (Or.inr (own_g hw 46 rfl)) (Or.inr (own_g hw 44 rfl)) (by decide) (t := (.array .long)) (t' := (.array (.array .long))) (by decide) (by decide)
theorem own_sn16 {Z : State} {a0 : Array Value} (hw : ∀ d ∈ tables_1, d.before a0 Z = true) : Jvm.RoadKit.slotOf Z BLn "skippedLows" "[J" ≠ Jvm.RoadKit.slotOf Z BLn "radii" "[I" := slot_ne (Or.inr (own_g hw 48 rfl)) (Or.inr (own_g hw 32 rfl)) (by decide) (t := (.array .long)) (t' := (.array .int)) (by decide) (by decide)
theorem own_sn17 {Z : State} {a0 : Array Value} (hw : ∀ d ∈ tables_1, d.before a0 Z = true) : Jvm.RoadKit.slotOf Z BLn "skippedLows" "[J" ≠ Jvm.RoadKit.slotOf Z BLn "keyMasks" "[J" := slot_ne (Or.inr (own_g hw 48 rfl)) (Or.inr (own_g hw 34 rfl)) (by decide) (t := (.array .long)) (t' := (.array .long)) (by decide) (by decide)
theorem own_sn18 {Z : State} {a0 : Array Value} (hw : ∀ d ∈ tables_1, d.before a0 Z = true) : Jvm.RoadKit.slotOf Z BLn "skippedLows" "[J" ≠ Jvm.RoadKit.slotOf Z BLn "runShifts" "[[I" := slot_ne (Or.inr (own_g hw 48 rfl)) (Or.inr (own_g hw 38 rfl)) (by decide) (t := (.array .long)) (t' := (.array (.array .int))) (by decide) (by decide)
theorem own_sn19 {Z : State} {a0 : Array Value} (hw : ∀ d ∈ tables_1, d.before a0 Z = true) : Jvm.RoadKit.slotOf Z BLn "skippedLows" "[J" ≠ Jvm.RoadKit.slotOf Z BLn "runWidths" "[[I" := slot_ne (Or.inr (own_g hw 48 rfl)) (Or.inr (own_g hw 40 rfl)) (by decide) (t := (.array .long)) (t' := (.array (.array .int))) (by decide) (by decide)
theorem own_sn20 {Z : State} {a0 : Array Value} (hw : ∀ d ∈ tables_1, d.before a0 Z = true) : Jvm.RoadKit.slotOf Z BLn "skippedLows" "[J" ≠ Jvm.RoadKit.slotOf Z BLn "keyDifferences" "[[J" := slot_ne (Or.inr (own_g hw 48 rfl)) (Or.inr (own_g hw 44 rfl)) (by decide) (t := (.array .long)) (t' := (.array (.array .long))) (by decide) (by decide)
theorem own_sn21 {Z : State} {a0 : Array Value} (hw : ∀ d ∈ tables_1, d.before a0 Z = true) : Jvm.RoadKit.slotOf Z BLn "skippedLows" "[J" ≠ Jvm.RoadKit.slotOf Z BLn "skippedTops" "[J" := slot_ne (Or.inr (own_g hw 48 rfl)) (Or.inr (own_g hw 46 rfl)) (by decide) (t := (.array .long)) (t' := (.array .long)) (by decide) (by decide)
theorem own_sn22 {Z : State} {a0 : Array Value} (hw : ∀ d ∈ tables_1, d.before a0 Z = true) : Jvm.RoadKit.slotOf Z BLn "earlierWithRadius" "[[I" ≠ Jvm.RoadKit.slotOf Z BLn "radii" "[I" := slot_ne (Or.inr (own_g hw 50 rfl)) (Or.inr (own_g hw 32 rfl)) (by decide) (t := (.array (.array .int))) (t' := (.array .int)) (by decide) (by decide)
theorem own_sn23 {Z : State} {a0 : Array Value} (hw : ∀ d ∈ tables_1, d.before a0 Z = true) : Jvm.RoadKit.slotOf Z BLn "earlierWithRadius" "[[I" ≠ Jvm.RoadKit.slotOf Z BLn "keyMasks" "[J" := slot_ne (Or.inr (own_g hw 50 rfl)) (Or.inr (own_g hw 34 rfl)) (by decide) (t := (.array (.array .int))) (t' := (.array .long)) (by decide) (by decide)
theorem own_sn24 {Z : State} {a0 : Array Value} (hw : ∀ d ∈ tables_1, d.before a0 Z = true) : Jvm.RoadKit.slotOf Z BLn "earlierWithRadius" "[[I" ≠ Jvm.RoadKit.slotOf Z BLn "runShifts" "[[I" := slot_ne (Or.inr (own_g hw 50 rfl)) (Or.inr (own_g hw 38 rfl)) (by decide) (t := (.array (.array .int))) (t' := (.array (.array .int))) (by decide) (by decide)
theorem own_sn25 {Z : State} {a0 : Array Value} (hw : ∀ d ∈ tables_1, d.before a0 Z = true) : Jvm.RoadKit.slotOf Z BLn "earlierWithRadius" "[[I" ≠ Jvm.RoadKit.slotOf Z BLn "runWidths" "[[I" := slot_ne (Or.inr (own_g hw 50 rfl)) (Or.inr (own_g hw 40 rfl)) (by decide) (t := (.array (.array .int))) (t' := (.array (.array .int))) (by decide) (by decide)
theorem own_sn26 {Z : State} {a0 : Array Value} (hw : ∀ d ∈ tables_1, d.before a0 Z = true) : Jvm.RoadKit.slotOf Z BLn "earlierWithRadius" "[[I" ≠ Jvm.RoadKit.slotOf Z BLn "keyDifferences" "[[J" := slot_ne (Or.inr (own_g hw 50 rfl)) (Or.inr (own_g hw 44 rfl)) (by decide) (t := (.array (.array .int))) (t' := (.array (.array .long))) (by decide) (by decide)
theorem own_sn27 {Z : State} {a0 : Array Value} (hw : ∀ d ∈ tables_1, d.before a0 Z = true) : Jvm.RoadKit.slotOf Z BLn "earlierWithRadius" "[[I" ≠ Jvm.RoadKit.slotOf Z BLn "skippedTops" "[J" := slot_ne (Or.inr (own_g hw 50 rfl)) (Or.inr (own_g hw 46 rfl)) (by decide) (t := (.array (.array .int))) (t' := (.array .long)) (by decide) (by decide)
theorem own_sn28 {Z : State} {a0 : Array Value} (hw : ∀ d ∈ tables_1, d.before a0 Z = true) : Jvm.RoadKit.slotOf Z BLn "earlierWithRadius" "[[I" ≠ Jvm.RoadKit.slotOf Z BLn "skippedLows" "[J" := slot_ne (Or.inr (own_g hw 50 rfl)) (Or.inr (own_g hw 48 rfl)) (by decide) (t := (.array (.array .int))) (t' := (.array .long)) (by decide) (by decide)
theorem own_pd10 : parseMethodDescriptor "(I[I[J[I[I)V" = some ⟨[.int, (.array .int), (.array .long), (.array .int), (.array .int)], none⟩ := by decide +kernel
theorem own_sn29 {Z : State} {a0 : Array Value} (hw : ∀ d ∈ tables_1, d.before a0 Z = true) : Jvm.RoadKit.slotOf Z BLn "distance" "I" ≠ Jvm.RoadKit.slotOf Z BLn "radii" "[I" := slot_ne (Or.inr (own_g hw 24 rfl)) (Or.inr (own_g hw 32 rfl)) (by decide) (t := .int) (t' := (.array .int)) (by decide) (by decide)
theorem own_sn30 {Z : State} {a0 : Array Value} (hw : ∀ d ∈ tables_1, d.before a0 Z = true) : Jvm.RoadKit.slotOf Z BLn "distance" "I" ≠ Jvm.RoadKit.slotOf Z BLn "keyMasks" "[J" := slot_ne (Or.inr (own_g hw 24 rfl)) (Or.inr (own_g hw 34 rfl)) (by decide) (t := .int) (t' := (.array .long)) (by decide) (by decide)
theorem own_sn31 {Z : State} {a0 : Array Value} (hw : ∀ d ∈ tables_1, d.before a0 Z = true) : Jvm.RoadKit.slotOf Z BLn "distance" "I" ≠ Jvm.RoadKit.slotOf Z BLn "runShifts" "[[I" := slot_ne (Or.inr (own_g hw 24 rfl)) (Or.inr (own_g hw 38 rfl)) (by decide) (t := .int) (t' := (.array (.array .int))) (by decide) (by decide)
theorem own_sn32 {Z : State} {a0 : Array Value} (hw : ∀ d ∈ tables_1, d.before a0 Z = true) : Jvm.RoadKit.slotOf Z BLn "distance" "I" ≠ Jvm.RoadKit.slotOf Z BLn "runWidths" "[[I" := slot_ne (Or.inr (own_g hw 24 rfl)) (Or.inr (own_g hw 40 rfl)) (by decide) (t := .int) (t' := (.array (.array .int))) (by decide) (by decide)
theorem own_sn33 {Z : State} {a0 : Array Value} (hw : ∀ d ∈ tables_1, d.before a0 Z = true) : Jvm.RoadKit.slotOf Z BLn "distance" "I" ≠ Jvm.RoadKit.slotOf Z BLn "keyDifferences" "[[J" := slot_ne (Or.inr (own_g hw 24 rfl)) (Or.inr (own_g hw 44 rfl)) (by decide) (t := .int) (t' := (.array (.array .long))) (by decide) (by decide)
theorem own_sn34 {Z : State} {a0 : Array Value} (hw : ∀ d ∈ tables_1, d.before a0 Z = true) : Jvm.RoadKit.slotOf Z BLn "distance" "I" ≠ Jvm.RoadKit.slotOf Z BLn "skippedTops" "[J" := slot_ne (Or.inr (own_g hw 24 rfl)) (Or.inr (own_g hw 46 rfl)) (by decide) (t := .int) (t' := (.array .long)) (by decide) (by decide)
theorem own_sn35 {Z : State} {a0 : Array Value} (hw : ∀ d ∈ tables_1, d.before a0 Z = true) : Jvm.RoadKit.slotOf Z BLn "distance" "I" ≠ Jvm.RoadKit.slotOf Z BLn "skippedLows" "[J" := slot_ne (Or.inr (own_g hw 24 rfl)) (Or.inr (own_g hw 48 rfl)) (by decide) (t := .int) (t' := (.array .long)) (by decide) (by decide)
theorem own_sn36 {Z : State} {a0 : Array Value} (hw : ∀ d ∈ tables_1, d.before a0 Z = true) : Jvm.RoadKit.slotOf Z BLn "distance" "I" ≠ Jvm.RoadKit.slotOf Z BLn "earlierWithRadius" "[[I" := slot_ne (Or.inr (own_g hw 24 rfl)) (Or.inr (own_g hw 50 rfl)) (by decide) (t := .int) (t' := (.array (.array .int))) (by decide) (by decide)
theorem own_sn37 {Z : State} {a0 : Array Value} (hw : ∀ d ∈ tables_1, d.before a0 Z = true) : Jvm.RoadKit.slotOf Z BLn "widths" "[I" ≠ Jvm.RoadKit.slotOf Z BLn "radii" "[I" := slot_ne (Or.inr (own_g hw 26 rfl)) (Or.inr (own_g hw 32 rfl)) (by decide) (t := (.array .int)) (t' := (.array .int)) (by decide) (by decide)
theorem own_sn38 {Z : State} {a0 : Array Value} (hw : ∀ d ∈ tables_1, d.before a0 Z = true) : Jvm.RoadKit.slotOf Z BLn "widths" "[I" ≠ Jvm.RoadKit.slotOf Z BLn "keyMasks" "[J" := slot_ne (Or.inr (own_g hw 26 rfl)) (Or.inr (own_g hw 34 rfl)) (by decide) (t := (.array .int)) (t' := (.array .long)) (by decide) (by decide)
theorem own_sn39 {Z : State} {a0 : Array Value} (hw : ∀ d ∈ tables_1, d.before a0 Z = true) : Jvm.RoadKit.slotOf Z BLn "widths" "[I" ≠ Jvm.RoadKit.slotOf Z BLn "runShifts" "[[I" := slot_ne (Or.inr (own_g hw 26 rfl)) (Or.inr (own_g hw 38 rfl)) (by decide) (t := (.array .int)) (t' := (.array (.array .int))) (by decide) (by decide)
theorem own_sn40 {Z : State} {a0 : Array Value} (hw : ∀ d ∈ tables_1, d.before a0 Z = true) : Jvm.RoadKit.slotOf Z BLn "widths" "[I" ≠ Jvm.RoadKit.slotOf Z BLn "runWidths" "[[I" := slot_ne (Or.inr (own_g hw 26 rfl)) (Or.inr (own_g hw 40 rfl)) (by decide) (t := (.array .int)) (t' := (.array (.array .int))) (by decide) (by decide)
theorem own_sn41 {Z : State} {a0 : Array Value} (hw : ∀ d ∈ tables_1, d.before a0 Z = true) : Jvm.RoadKit.slotOf Z BLn "widths" "[I" ≠ Jvm.RoadKit.slotOf Z BLn "keyDifferences" "[[J" := slot_ne (Or.inr (own_g hw 26 rfl)) (Or.inr (own_g hw 44 rfl)) (by decide) (t := (.array .int)) (t' := (.array (.array .long))) (by decide) (by decide)
theorem own_sn42 {Z : State} {a0 : Array Value} (hw : ∀ d ∈ tables_1, d.before a0 Z = true) : Jvm.RoadKit.slotOf Z BLn "widths" "[I" ≠ Jvm.RoadKit.slotOf Z BLn "skippedTops" "[J" := slot_ne (Or.inr (own_g hw 26 rfl)) (Or.inr (own_g hw 46 rfl)) (by decide) (t := (.array .int)) (t' := (.array .long)) (by decide) (by decide)
theorem own_sn43 {Z : State} {a0 : Array Value} (hw : ∀ d ∈ tables_1, d.before a0 Z = true) : Jvm.RoadKit.slotOf Z BLn "widths" "[I" ≠ Jvm.RoadKit.slotOf Z BLn "skippedLows" "[J" := slot_ne (Or.inr (own_g hw 26 rfl)) (Or.inr (own_g hw 48 rfl)) (by decide) (t := (.array .int)) (t' := (.array .long)) (by decide) (by decide)
theorem own_sn44 {Z : State} {a0 : Array Value} (hw : ∀ d ∈ tables_1, d.before a0 Z = true) : Jvm.RoadKit.slotOf Z BLn "widths" "[I" ≠ Jvm.RoadKit.slotOf Z BLn "earlierWithRadius" "[[I" := slot_ne (Or.inr (own_g hw 26 rfl)) (Or.inr (own_g hw 50 rfl)) (by decide) (t := (.array .int)) (t' := (.array (.array .int))) (by decide) (by decide)
theorem own_sn45 {Z : State} {a0 : Array Value} (hw : ∀ d ∈ tables_1, d.before a0 Z = true) : Jvm.RoadKit.slotOf Z BLn "keyMasks" "[J" ≠ Jvm.RoadKit.slotOf Z BLn "runShifts" "[[I" := slot_ne (Or.inr (own_g hw 34 rfl)) (Or.inr (own_g hw 38 rfl)) (by decide) (t := (.array .long)) (t' := (.array (.array .int))) (by decide) (by decide)
theorem own_sn46 {Z : State} {a0 : Array Value} (hw : ∀ d ∈ tables_1, d.before a0 Z = true) : Jvm.RoadKit.slotOf Z BLn "keyMasks" "[J" ≠ Jvm.RoadKit.slotOf Z BLn "runWidths" "[[I" := slot_ne (Or.inr (own_g hw 34 rfl)) (Or.inr (own_g hw 40 rfl)) (by decide) (t := (.array .long)) (t' := (.array (.array .int))) (by decide) (by decide)
theorem own_sn47 {Z : State} {a0 : Array Value} (hw : ∀ d ∈ tables_1, d.before a0 Z = true) : Jvm.RoadKit.slotOf Z BLn "keyMasks" "[J" ≠ Jvm.RoadKit.slotOf Z BLn "keyDifferences" "[[J" := slot_ne (Or.inr (own_g hw 34 rfl)) (Or.inr (own_g hw 44 rfl)) (by decide) (t := (.array .long)) (t' := (.array (.array .long))) (by decide) (by decide)
theorem own_sn48 {Z : State} {a0 : Array Value} (hw : ∀ d ∈ tables_1, d.before a0 Z = true) : Jvm.RoadKit.slotOf Z BLn "keyMasks" "[J" ≠ Jvm.RoadKit.slotOf Z BLn "skippedTops" "[J" := slot_ne (Or.inr (own_g hw 34 rfl)) (Or.inr (own_g hw 46 rfl)) (by decide) (t := (.array .long)) (t' := (.array .long)) (by decide) (by decide)
theorem own_sn49 {Z : State} {a0 : Array Value} (hw : ∀ d ∈ tables_1, d.before a0 Z = true) : Jvm.RoadKit.slotOf Z BLn "keyMasks" "[J" ≠ Jvm.RoadKit.slotOf Z BLn "skippedLows" "[J" := slot_ne (Or.inr (own_g hw 34 rfl)) (Or.inr (own_g hw 48 rfl)) (by decide) (t := (.array .long)) (t' := (.array .long)) (by decide) (by decide)
theorem own_sn50 {Z : State} {a0 : Array Value} (hw : ∀ d ∈ tables_1, d.before a0 Z = true) : Jvm.RoadKit.slotOf Z BLn "keyMasks" "[J" ≠ Jvm.RoadKit.slotOf Z BLn "earlierWithRadius" "[[I" := slot_ne (Or.inr (own_g hw 34 rfl)) (Or.inr (own_g hw 50 rfl)) (by decide) (t := (.array .long)) (t' := (.array (.array .int))) (by decide) (by decide)
theorem own_sn51 {Z : State} {a0 : Array Value} (hw : ∀ d ∈ tables_1, d.before a0 Z = true) : Jvm.RoadKit.slotOf Z BLn "runShifts" "[[I" ≠ Jvm.RoadKit.slotOf Z BLn "runWidths" "[[I" := slot_ne (Or.inr (own_g hw 38 rfl)) (Or.inr (own_g hw 40 rfl)) (by decide) (t := (.array (.array .int))) (t' := (.array (.array .int))) (by decide) (by decide)
theorem own_sn52 {Z : State} {a0 : Array Value} (hw : ∀ d ∈ tables_1, d.before a0 Z = true) : Jvm.RoadKit.slotOf Z BLn "runShifts" "[[I" ≠ Jvm.RoadKit.slotOf Z BLn "keyDifferences" "[[J" := slot_ne (Or.inr (own_g hw 38 rfl)) (Or.inr (own_g hw 44 rfl)) (by decide) (t := (.array (.array .int))) (t' := (.array (.array .long))) (by decide) (by decide)
theorem own_sn53 {Z : State} {a0 : Array Value} (hw : ∀ d ∈ tables_1, d.before a0 Z = true) : Jvm.RoadKit.slotOf Z BLn "runShifts" "[[I" ≠ Jvm.RoadKit.slotOf Z BLn "skippedTops" "[J" := slot_ne (Or.inr (own_g hw 38 rfl)) (Or.inr (own_g hw 46 rfl)) (by decide) (t := (.array (.array .int))) (t' := (.array .long)) (by decide) (by decide)
theorem own_sn54 {Z : State} {a0 : Array Value} (hw : ∀ d ∈ tables_1, d.before a0 Z = true) : Jvm.RoadKit.slotOf Z BLn "runShifts" "[[I" ≠ Jvm.RoadKit.slotOf Z BLn "skippedLows" "[J" := slot_ne (Or.inr (own_g hw 38 rfl)) (Or.inr (own_g hw 48 rfl)) (by decide) (t := (.array (.array .int))) (t' := (.array .long)) (by decide) (by decide)
theorem own_sn55 {Z : State} {a0 : Array Value} (hw : ∀ d ∈ tables_1, d.before a0 Z = true) : Jvm.RoadKit.slotOf Z BLn "runShifts" "[[I" ≠ Jvm.RoadKit.slotOf Z BLn "earlierWithRadius" "[[I" := slot_ne (Or.inr (own_g hw 38 rfl)) (Or.inr (own_g hw 50 rfl)) (by decide) (t := (.array (.array .int))) (t' := (.array (.array .int))) (by decide) (by decide)
theorem own_sn56 {Z : State} {a0 : Array Value} (hw : ∀ d ∈ tables_1, d.before a0 Z = true) : Jvm.RoadKit.slotOf Z BLn "runWidths" "[[I" ≠ Jvm.RoadKit.slotOf Z BLn "keyDifferences" "[[J" := slot_ne (Or.inr (own_g hw 40 rfl)) (Or.inr (own_g hw 44 rfl)) (by decide) (t := (.array (.array .int))) (t' := (.array (.array .long))) (by decide) (by decide)
theorem own_sn57 {Z : State} {a0 : Array Value} (hw : ∀ d ∈ tables_1, d.before a0 Z = true) : Jvm.RoadKit.slotOf Z BLn "runWidths" "[[I" ≠ Jvm.RoadKit.slotOf Z BLn "skippedTops" "[J" := slot_ne (Or.inr (own_g hw 40 rfl)) (Or.inr (own_g hw 46 rfl)) (by decide) (t := (.array (.array .int))) (t' := (.array .long)) (by decide) (by decide)
theorem own_sn58 {Z : State} {a0 : Array Value} (hw : ∀ d ∈ tables_1, d.before a0 Z = true) : Jvm.RoadKit.slotOf Z BLn "runWidths" "[[I" ≠ Jvm.RoadKit.slotOf Z BLn "skippedLows" "[J" := slot_ne (Or.inr (own_g hw 40 rfl)) (Or.inr (own_g hw 48 rfl)) (by decide) (t := (.array (.array .int))) (t' := (.array .long)) (by decide) (by decide)
theorem own_sn59 {Z : State} {a0 : Array Value} (hw : ∀ d ∈ tables_1, d.before a0 Z = true) : Jvm.RoadKit.slotOf Z BLn "runWidths" "[[I" ≠ Jvm.RoadKit.slotOf Z BLn "earlierWithRadius" "[[I" := slot_ne (Or.inr (own_g hw 40 rfl)) (Or.inr (own_g hw 50 rfl)) (by decide) (t := (.array (.array .int))) (t' := (.array (.array .int))) (by decide) (by decide)
theorem own_sn60 {Z : State} {a0 : Array Value} (hw : ∀ d ∈ tables_1, d.before a0 Z = true) : Jvm.RoadKit.slotOf Z BLn "radii" "[I" ≠ Jvm.RoadKit.slotOf Z BLn "keyMasks" "[J" := slot_ne (Or.inr (own_g hw 32 rfl)) (Or.inr (own_g hw 34 rfl)) (by decide) (t := (.array .int)) (t' := (.array .long)) (by decide) (by decide)
theorem own_sn61 {Z : State} {a0 : Array Value} (hw : ∀ d ∈ tables_1, d.before a0 Z = true) : Jvm.RoadKit.slotOf Z BLn "radii" "[I" ≠ Jvm.RoadKit.slotOf Z BLn "runShifts" "[[I" := slot_ne (Or.inr (own_g hw 32 rfl)) (Or.inr (own_g hw 38 rfl)) (by decide) (t := (.array .int)) (t' := (.array (.array .int))) (by decide) (by decide)
theorem own_sn62 {Z : State} {a0 : Array Value} (hw : ∀ d ∈ tables_1, d.before a0 Z = true) : Jvm.RoadKit.slotOf Z BLn "radii" "[I" ≠ Jvm.RoadKit.slotOf Z BLn "runWidths" "[[I" := slot_ne (Or.inr (own_g hw 32 rfl)) (Or.inr (own_g hw 40 rfl)) (by decide) (t := (.array .int)) (t' := (.array (.array .int))) (by decide) (by decide)
theorem own_sn63 {Z : State} {a0 : Array Value} (hw : ∀ d ∈ tables_1, d.before a0 Z = true) : Jvm.RoadKit.slotOf Z BLn "radii" "[I" ≠ Jvm.RoadKit.slotOf Z BLn "keyDifferences" "[[J" := slot_ne (Or.inr (own_g hw 32 rfl)) (Or.inr (own_g hw 44 rfl)) (by decide) (t := (.array .int)) (t' := (.array (.array .long))) (by decide) (by decide)
theorem own_sn64 {Z : State} {a0 : Array Value} (hw : ∀ d ∈ tables_1, d.before a0 Z = true) : Jvm.RoadKit.slotOf Z BLn "radii" "[I" ≠ Jvm.RoadKit.slotOf Z BLn "skippedTops" "[J" := slot_ne (Or.inr (own_g hw 32 rfl)) (Or.inr (own_g hw 46 rfl)) (by decide) (t := (.array .int)) (t' := (.array .long)) (by decide) (by decide)
theorem own_sn65 {Z : State} {a0 : Array Value} (hw : ∀ d ∈ tables_1, d.before a0 Z = true) : Jvm.RoadKit.slotOf Z BLn "radii" "[I" ≠ Jvm.RoadKit.slotOf Z BLn "skippedLows" "[J" := slot_ne (Or.inr (own_g hw 32 rfl)) (Or.inr (own_g hw 48 rfl)) (by decide) (t := (.array .int)) (t' := (.array .long)) (by decide) (by decide)
theorem own_sn66 {Z : State} {a0 : Array Value} (hw : ∀ d ∈ tables_1, d.before a0 Z = true) : Jvm.RoadKit.slotOf Z BLn "radii" "[I" ≠ Jvm.RoadKit.slotOf Z BLn "earlierWithRadius" "[[I" := slot_ne (Or.inr (own_g hw 32 rfl)) (Or.inr (own_g hw 50 rfl)) (by decide) (t := (.array .int)) (t' := (.array (.array .int))) (by decide) (by decide)
theorem own_sn67 {Z : State} {a0 : Array Value} (hw : ∀ d ∈ tables_1, d.before a0 Z = true) : Jvm.RoadKit.slotOf Z BLn "keyDifferences" "[[J" ≠ Jvm.RoadKit.slotOf Z BLn "skippedTops" "[J" := slot_ne (Or.inr (own_g hw 44 rfl)) (Or.inr (own_g hw 46 rfl)) (by decide) (t := (.array (.array .long))) (t' := (.array .long)) (by decide) (by decide)
theorem own_sn68 {Z : State} {a0 : Array Value} (hw : ∀ d ∈ tables_1, d.before a0 Z = true) : Jvm.RoadKit.slotOf Z BLn "keyDifferences" "[[J" ≠ Jvm.RoadKit.slotOf Z BLn "skippedLows" "[J" := slot_ne (Or.inr (own_g hw 44 rfl)) (Or.inr (own_g hw 48 rfl)) (by decide) (t := (.array (.array .long))) (t' := (.array .long)) (by decide) (by decide)
theorem own_sn69 {Z : State} {a0 : Array Value} (hw : ∀ d ∈ tables_1, d.before a0 Z = true) : Jvm.RoadKit.slotOf Z BLn "keyDifferences" "[[J" ≠ Jvm.RoadKit.slotOf Z BLn "earlierWithRadius" "[[I" := slot_ne (Or.inr (own_g hw 44 rfl)) (Or.inr (own_g hw 50 rfl)) (by decide) (t := (.array (.array .long))) (t' := (.array (.array .int))) (by decide) (by decide)
theorem own_sn70 {Z : State} {a0 : Array Value} (hw : ∀ d ∈ tables_1, d.before a0 Z = true) : Jvm.RoadKit.slotOf Z BLn "skippedTops" "[J" ≠ Jvm.RoadKit.slotOf Z BLn "skippedLows" "[J" := slot_ne (Or.inr (own_g hw 46 rfl)) (Or.inr (own_g hw 48 rfl)) (by decide) (t := (.array .long)) (t' := (.array .long)) (by decide) (by decide)
theorem own_sn71 {Z : State} {a0 : Array Value} (hw : ∀ d ∈ tables_1, d.before a0 Z = true) : Jvm.RoadKit.slotOf Z BLn "skippedTops" "[J" ≠ Jvm.RoadKit.slotOf Z BLn "earlierWithRadius" "[[I" := slot_ne (Or.inr (own_g hw 46 rfl)) (Or.inr (own_g hw 50 rfl)) (by decide) (t := (.array .long)) (t' := (.array (.array .int))) (by decide) (by decide)
theorem own_sn72 {Z : State} {a0 : Array Value} (hw : ∀ d ∈ tables_1, d.before a0 Z = true) : Jvm.RoadKit.slotOf Z BLn "skippedLows" "[J" ≠ Jvm.RoadKit.slotOf Z BLn "earlierWithRadius" "[[I" := slot_ne (Or.inr (own_g hw 48 rfl)) (Or.inr (own_g hw 50 rfl)) (by decide) (t := (.array .long)) (t' := (.array (.array .int))) (by decide) (by decide)
theorem own_sn73 {Z : State} {a0 : Array Value} (hw : ∀ d ∈ tables_1, d.before a0 Z = true) : Jvm.RoadKit.slotOf Z BLn "distance" "I" ≠ Jvm.RoadKit.slotOf Z BLn "widths" "[I" := slot_ne (Or.inr (own_g hw 24 rfl)) (Or.inr (own_g hw 26 rfl)) (by decide) (t := .int) (t' := (.array .int)) (by decide) (by decide)
theorem own_sn74 {Z : State} {a0 : Array Value} (hw : ∀ d ∈ tables_1, d.before a0 Z = true) : Jvm.RoadKit.slotOf Z BLn "keyMasks" "[J" ≠ Jvm.RoadKit.slotOf Z BLn "distance" "I" := slot_ne (Or.inr (own_g hw 34 rfl)) (Or.inr (own_g hw 24 rfl)) (by decide) (t := (.array .long)) (t' := .int) (by decide) (by decide)
theorem own_sn75 {Z : State} {a0 : Array Value} (hw : ∀ d ∈ tables_1, d.before a0 Z = true) : Jvm.RoadKit.slotOf Z BLn "keyMasks" "[J" ≠ Jvm.RoadKit.slotOf Z BLn "widths" "[I" := slot_ne (Or.inr (own_g hw 34 rfl)) (Or.inr (own_g hw 26 rfl)) (by decide) (t := (.array .long)) (t' := (.array .int)) (by decide) (by decide)
theorem own_sn76 {Z : State} {a0 : Array Value} (hw : ∀ d ∈ tables_1, d.before a0 Z = true) : Jvm.RoadKit.slotOf Z BLn "runShifts" "[[I" ≠ Jvm.RoadKit.slotOf Z BLn "distance" "I" := slot_ne (Or.inr (own_g hw 38 rfl)) (Or.inr (own_g hw 24 rfl)) (by decide) (t := (.array (.array .int))) (t' := .int) (by decide) (by decide)
theorem own_sn77 {Z : State} {a0 : Array Value} (hw : ∀ d ∈ tables_1, d.before a0 Z = true) : Jvm.RoadKit.slotOf Z BLn "runShifts" "[[I" ≠ Jvm.RoadKit.slotOf Z BLn "widths" "[I" := slot_ne (Or.inr (own_g hw 38 rfl)) (Or.inr (own_g hw 26 rfl)) (by decide) (t := (.array (.array .int))) (t' := (.array .int)) (by decide) (by decide)
theorem own_sn78 {Z : State} {a0 : Array Value} (hw : ∀ d ∈ tables_1, d.before a0 Z = true) : Jvm.RoadKit.slotOf Z BLn "runWidths" "[[I" ≠ Jvm.RoadKit.slotOf Z BLn "distance" "I" := slot_ne (Or.inr (own_g hw 40 rfl)) (Or.inr (own_g hw 24 rfl)) (by decide) (t := (.array (.array .int))) (t' := .int) (by decide) (by decide)
theorem own_sn79 {Z : State} {a0 : Array Value} (hw : ∀ d ∈ tables_1, d.before a0 Z = true) : Jvm.RoadKit.slotOf Z BLn "runWidths" "[[I" ≠ Jvm.RoadKit.slotOf Z BLn "widths" "[I" := slot_ne (Or.inr (own_g hw 40 rfl)) (Or.inr (own_g hw 26 rfl)) (by decide) (t := (.array (.array .int))) (t' := (.array .int)) (by decide) (by decide)
theorem own_sn80 {Z : State} {a0 : Array Value} (hw : ∀ d ∈ tables_1, d.before a0 Z = true) : Jvm.RoadKit.slotOf Z BLn "radii" "[I" ≠ Jvm.RoadKit.slotOf Z BLn "distance" "I" := slot_ne (Or.inr (own_g hw 32 rfl)) (Or.inr (own_g hw 24 rfl)) (by decide) (t := (.array .int)) (t' := .int) (by decide) (by decide)
theorem own_sn81 {Z : State} {a0 : Array Value} (hw : ∀ d ∈ tables_1, d.before a0 Z = true) : Jvm.RoadKit.slotOf Z BLn "radii" "[I" ≠ Jvm.RoadKit.slotOf Z BLn "widths" "[I" := slot_ne (Or.inr (own_g hw 32 rfl)) (Or.inr (own_g hw 26 rfl)) (by decide) (t := (.array .int)) (t' := (.array .int)) (by decide) (by decide)
theorem own_sn82 {Z : State} {a0 : Array Value} (hw : ∀ d ∈ tables_1, d.before a0 Z = true) : Jvm.RoadKit.slotOf Z BLn "keyDifferences" "[[J" ≠ Jvm.RoadKit.slotOf Z BLn "distance" "I" := slot_ne (Or.inr (own_g hw 44 rfl)) (Or.inr (own_g hw 24 rfl)) (by decide) (t := (.array (.array .long))) (t' := .int) (by decide) (by decide)
theorem own_sn83 {Z : State} {a0 : Array Value} (hw : ∀ d ∈ tables_1, d.before a0 Z = true) : Jvm.RoadKit.slotOf Z BLn "keyDifferences" "[[J" ≠ Jvm.RoadKit.slotOf Z BLn "widths" "[I" := slot_ne (Or.inr (own_g hw 44 rfl)) (Or.inr (own_g hw 26 rfl)) (by decide) (t := (.array (.array .long))) (t' := (.array .int)) (by decide) (by decide)
theorem own_sn84 {Z : State} {a0 : Array Value} (hw : ∀ d ∈ tables_1, d.before a0 Z = true) : Jvm.RoadKit.slotOf Z BLn "skippedTops" "[J" ≠ Jvm.RoadKit.slotOf Z BLn "distance" "I" := slot_ne (Or.inr (own_g hw 46 rfl)) (Or.inr (own_g hw 24 rfl)) (by decide) (t := (.array .long)) (t' := .int) (by decide) (by decide)
theorem own_sn85 {Z : State} {a0 : Array Value} (hw : ∀ d ∈ tables_1, d.before a0 Z = true) : Jvm.RoadKit.slotOf Z BLn "skippedTops" "[J" ≠ Jvm.RoadKit.slotOf Z BLn "widths" "[I" := slot_ne (Or.inr (own_g hw 46 rfl)) (Or.inr (own_g hw 26 rfl)) (by decide) (t := (.array .long)) (t' := (.array .int)) (by decide) (by decide)
theorem own_sn86 {Z : State} {a0 : Array Value} (hw : ∀ d ∈ tables_1, d.before a0 Z = true) : Jvm.RoadKit.slotOf Z BLn "skippedLows" "[J" ≠ Jvm.RoadKit.slotOf Z BLn "distance" "I" := slot_ne (Or.inr (own_g hw 48 rfl)) (Or.inr (own_g hw 24 rfl)) (by decide) (t := (.array .long)) (t' := .int) (by decide) (by decide)
theorem own_sn87 {Z : State} {a0 : Array Value} (hw : ∀ d ∈ tables_1, d.before a0 Z = true) : Jvm.RoadKit.slotOf Z BLn "skippedLows" "[J" ≠ Jvm.RoadKit.slotOf Z BLn "widths" "[I" := slot_ne (Or.inr (own_g hw 48 rfl)) (Or.inr (own_g hw 26 rfl)) (by decide) (t := (.array .long)) (t' := (.array .int)) (by decide) (by decide)
theorem own_sn88 {Z : State} {a0 : Array Value} (hw : ∀ d ∈ tables_1, d.before a0 Z = true) : Jvm.RoadKit.slotOf Z BLn "earlierWithRadius" "[[I" ≠ Jvm.RoadKit.slotOf Z BLn "distance" "I" := slot_ne (Or.inr (own_g hw 50 rfl)) (Or.inr (own_g hw 24 rfl)) (by decide) (t := (.array (.array .int))) (t' := .int) (by decide) (by decide)
theorem own_sn89 {Z : State} {a0 : Array Value} (hw : ∀ d ∈ tables_1, d.before a0 Z = true) : Jvm.RoadKit.slotOf Z BLn "earlierWithRadius" "[[I" ≠ Jvm.RoadKit.slotOf Z BLn "widths" "[I" := slot_ne (Or.inr (own_g hw 50 rfl)) (Or.inr (own_g hw 26 rfl)) (by decide) (t := (.array (.array .int))) (t' := (.array .int)) (by decide) (by decide)
theorem d3_0 : D20 0 (.aload_n 0) 1 := by decide +kernel
theorem d3_1 : D20 1 (.invokespecial 15) 3 := by decide +kernel
theorem d3_4 : D20 4 (.iload_n 1) 1 := by decide +kernel
theorem d3_5 : D20 5 (.ifCond .lt 9) 3 := by decide +kernel
theorem d3_8 : D20 8 (.iload_n 1) 1 := by decide +kernel
theorem d3_9 : D20 9 (.bipush 63) 2 := by decide +kernel
theorem d3_11 : D20 11 (.if_icmp .le 13) 3 := by decide +kernel
theorem d3_24 : D20 24 (.iload_n 2) 1 := by decide +kernel
theorem d3_25 : D20 25 (.iconst 1) 1 := by decide +kernel
theorem d3_26 : D20 26 (.if_icmp .lt 9) 3 := by decide +kernel
theorem d3_29 : D20 29 (.iload_n 2) 1 := by decide +kernel
theorem d3_30 : D20 30 (.bipush 64) 2 := by decide +kernel
theorem d3_32 : D20 32 (.if_icmp .le 13) 3 := by decide +kernel
theorem d3_45 : D20 45 (.iload_n 2) 1 := by decide +kernel
theorem d3_46 : D20 46 (.iload_n 1) 1 := by decide +kernel
theorem d3_47 : D20 47 (.if_icmp .le 7) 3 := by decide +kernel
theorem d3_50 : D20 50 (.iconst 1) 1 := by decide +kernel
theorem d3_51 : D20 51 (.goto 4) 3 := by decide +kernel
theorem d3_55 : D20 55 (.istore_n 3) 1 := by decide +kernel
theorem d3_56 : D20 56 (.iload_n 3) 1 := by decide +kernel
theorem d3_57 : D20 57 (.ifCond .eq 11) 3 := by decide +kernel
theorem d3_60 : D20 60 (.iload_n 2) 1 := by decide +kernel
theorem d3_61 : D20 61 (.iload_n 1) 1 := by decide +kernel
theorem d3_62 : D20 62 (.invokestatic 29) 3 := by decide +kernel
theorem d3_65 : D20 65 (.goto 5) 3 := by decide +kernel
theorem d3_70 : D20 70 (.lstore 4) 2 := by decide +kernel
theorem d3_72 : D20 72 (.lload 4) 2 := by decide +kernel
theorem d3_74 : D20 74 (.ldc2_w 33) 3 := by decide +kernel
theorem d3_77 : D20 77 (.lcmp) 1 := by decide +kernel
theorem d3_78 : D20 78 (.ifCond .le 20) 3 := by decide +kernel
theorem d3_98 : D20 98 (.aload_n 0) 1 := by decide +kernel
theorem d3_99 : D20 99 (.iload_n 1) 1 := by decide +kernel
theorem d3_100 : D20 100 (.putfield 39) 3 := by decide +kernel
theorem d3_103 : D20 103 (.aload_n 0) 1 := by decide +kernel
theorem d3_104 : D20 104 (.iload_n 2) 1 := by decide +kernel
theorem d3_105 : D20 105 (.newarray .int) 2 := by decide +kernel
theorem d3_107 : D20 107 (.putfield 43) 3 := by decide +kernel
theorem d3_110 : D20 110 (.iload_n 2) 1 := by decide +kernel
theorem d3_111 : D20 111 (.newarray .long) 2 := by decide +kernel
theorem d3_113 : D20 113 (.astore 6) 2 := by decide +kernel
theorem d3_115 : D20 115 (.iload_n 2) 1 := by decide +kernel
theorem d3_116 : D20 116 (.newarray .int) 2 := by decide +kernel
theorem d3_118 : D20 118 (.astore 7) 2 := by decide +kernel
theorem d3_120 : D20 120 (.bipush 64) 2 := by decide +kernel
theorem d3_122 : D20 122 (.istore 8) 2 := by decide +kernel
theorem d3_124 : D20 124 (.iconst 0) 1 := by decide +kernel
theorem d3_125 : D20 125 (.istore 9) 2 := by decide +kernel
theorem d3_127 : D20 127 (.iload 9) 2 := by decide +kernel
theorem d3_129 : D20 129 (.iload_n 2) 1 := by decide +kernel
theorem d3_130 : D20 130 (.if_icmp .ge 72) 3 := by decide +kernel
theorem d3_133 : D20 133 (.aload_n 0) 1 := by decide +kernel
theorem d3_134 : D20 134 (.getfield 43) 3 := by decide +kernel
theorem d3_137 : D20 137 (.iload 9) 2 := by decide +kernel
theorem d3_139 : D20 139 (.bipush 64) 2 := by decide +kernel
theorem d3_141 : D20 141 (.iload_n 2) 1 := by decide +kernel
theorem d3_142 : D20 142 (.idiv) 1 := by decide +kernel
theorem d3_143 : D20 143 (.iload 9) 2 := by decide +kernel
theorem d3_145 : D20 145 (.bipush 64) 2 := by decide +kernel
theorem d3_147 : D20 147 (.iload_n 2) 1 := by decide +kernel
theorem d3_148 : D20 148 (.irem) 1 := by decide +kernel
theorem d3_149 : D20 149 (.if_icmp .ge 7) 3 := by decide +kernel
theorem d3_152 : D20 152 (.iconst 1) 1 := by decide +kernel
theorem d3_153 : D20 153 (.goto 4) 3 := by decide +kernel
theorem d3_156 : D20 156 (.iconst 0) 1 := by decide +kernel
theorem d3_157 : D20 157 (.iadd) 1 := by decide +kernel
theorem d3_158 : D20 158 (.iastore) 1 := by decide +kernel
theorem d3_159 : D20 159 (.iload 8) 2 := by decide +kernel
theorem d3_161 : D20 161 (.aload_n 0) 1 := by decide +kernel
theorem d3_162 : D20 162 (.getfield 43) 3 := by decide +kernel
theorem d3_165 : D20 165 (.iload 9) 2 := by decide +kernel
theorem d3_167 : D20 167 (.iaload) 1 := by decide +kernel
theorem d3_168 : D20 168 (.isub) 1 := by decide +kernel
theorem d3_169 : D20 169 (.istore 8) 2 := by decide +kernel
theorem d3_171 : D20 171 (.aload 7) 2 := by decide +kernel
theorem d3_173 : D20 173 (.iload 9) 2 := by decide +kernel
theorem d3_175 : D20 175 (.iload 8) 2 := by decide +kernel
theorem d3_177 : D20 177 (.iastore) 1 := by decide +kernel
theorem d3_178 : D20 178 (.aload 6) 2 := by decide +kernel
theorem d3_180 : D20 180 (.iload 9) 2 := by decide +kernel
theorem d3_182 : D20 182 (.aload_n 0) 1 := by decide +kernel
theorem d3_183 : D20 183 (.getfield 43) 3 := by decide +kernel
theorem d3_186 : D20 186 (.iload 9) 2 := by decide +kernel
theorem d3_188 : D20 188 (.iaload) 1 := by decide +kernel
theorem d3_189 : D20 189 (.invokestatic 47) 3 := by decide +kernel
theorem d3_192 : D20 192 (.iload 8) 2 := by decide +kernel
theorem d3_194 : D20 194 (.lshl) 1 := by decide +kernel
theorem d3_195 : D20 195 (.lastore) 1 := by decide +kernel
theorem d3_196 : D20 196 (.iinc 9 1) 3 := by decide +kernel
theorem d3_199 : D20 199 (.goto (-72)) 3 := by decide +kernel
theorem d3_202 : D20 202 (.iload_n 2) 1 := by decide +kernel
theorem d3_203 : D20 203 (.newarray .int) 2 := by decide +kernel
theorem d3_205 : D20 205 (.astore 9) 2 := by decide +kernel
theorem d3_207 : D20 207 (.iload_n 3) 1 := by decide +kernel
theorem d3_208 : D20 208 (.ifCond .ne 97) 3 := by decide +kernel
theorem d3_305 : D20 305 (.lload 4) 2 := by decide +kernel
theorem d3_307 : D20 307 (.l2i) 1 := by decide +kernel
theorem d3_308 : D20 308 (.istore 10) 2 := by decide +kernel
theorem d3_310 : D20 310 (.aload_n 0) 1 := by decide +kernel
theorem d3_311 : D20 311 (.iload_n 3) 1 := by decide +kernel
theorem d3_312 : D20 312 (.ifCond .eq 10) 3 := by decide +kernel
theorem d3_315 : D20 315 (.iload 10) 2 := by decide +kernel
theorem d3_317 : D20 317 (.newarray .int) 2 := by decide +kernel
theorem d3_319 : D20 319 (.goto 5) 3 := by decide +kernel
theorem d3_324 : D20 324 (.putfield 67) 3 := by decide +kernel
theorem d3_327 : D20 327 (.aload_n 0) 1 := by decide +kernel
theorem d3_328 : D20 328 (.iload 10) 2 := by decide +kernel
theorem d3_330 : D20 330 (.newarray .long) 2 := by decide +kernel
theorem d3_332 : D20 332 (.putfield 70) 3 := by decide +kernel
theorem d3_335 : D20 335 (.aload_n 0) 1 := by decide +kernel
theorem d3_336 : D20 336 (.iload 10) 2 := by decide +kernel
theorem d3_338 : D20 338 (.anewarray 74) 3 := by decide +kernel
theorem d3_341 : D20 341 (.putfield 75) 3 := by decide +kernel
theorem d3_344 : D20 344 (.aload_n 0) 1 := by decide +kernel
theorem d3_345 : D20 345 (.iload 10) 2 := by decide +kernel
theorem d3_347 : D20 347 (.anewarray 74) 3 := by decide +kernel
theorem d3_350 : D20 350 (.putfield 79) 3 := by decide +kernel
theorem d3_353 : D20 353 (.aload_n 0) 1 := by decide +kernel
theorem d3_354 : D20 354 (.iload 10) 2 := by decide +kernel
theorem d3_356 : D20 356 (.anewarray 82) 3 := by decide +kernel
theorem d3_359 : D20 359 (.putfield 83) 3 := by decide +kernel
theorem d3_362 : D20 362 (.aload_n 0) 1 := by decide +kernel
theorem d3_363 : D20 363 (.iload 10) 2 := by decide +kernel
theorem d3_365 : D20 365 (.newarray .long) 2 := by decide +kernel
theorem d3_367 : D20 367 (.putfield 87) 3 := by decide +kernel
theorem d3_370 : D20 370 (.aload_n 0) 1 := by decide +kernel
theorem d3_371 : D20 371 (.iload 10) 2 := by decide +kernel
theorem d3_373 : D20 373 (.newarray .long) 2 := by decide +kernel
theorem d3_375 : D20 375 (.putfield 90) 3 := by decide +kernel
theorem d3_378 : D20 378 (.aload_n 0) 1 := by decide +kernel
theorem d3_379 : D20 379 (.iload 10) 2 := by decide +kernel
theorem d3_381 : D20 381 (.anewarray 74) 3 := by decide +kernel
theorem d3_384 : D20 384 (.putfield 93) 3 := by decide +kernel
theorem d3_387 : D20 387 (.iload_n 3) 1 := by decide +kernel
theorem d3_388 : D20 388 (.ifCond .eq 9) 3 := by decide +kernel
theorem d3_391 : D20 391 (.iload_n 2) 1 := by decide +kernel
theorem d3_392 : D20 392 (.iload_n 1) 1 := by decide +kernel
theorem d3_393 : D20 393 (.isub) 1 := by decide +kernel
theorem d3_394 : D20 394 (.goto 4) 3 := by decide +kernel
theorem d3_398 : D20 398 (.newarray .int) 2 := by decide +kernel
theorem d3_400 : D20 400 (.astore 11) 2 := by decide +kernel
theorem d3_402 : D20 402 (.iconst 0) 1 := by decide +kernel
theorem d3_403 : D20 403 (.istore 12) 2 := by decide +kernel
theorem d3_405 : D20 405 (.iload 12) 2 := by decide +kernel
theorem d3_407 : D20 407 (.aload 11) 2 := by decide +kernel
theorem d3_409 : D20 409 (.arraylength) 1 := by decide +kernel
theorem d3_410 : D20 410 (.if_icmp .ge 16) 3 := by decide +kernel
theorem d3_413 : D20 413 (.aload 11) 2 := by decide +kernel
theorem d3_415 : D20 415 (.iload 12) 2 := by decide +kernel
theorem d3_417 : D20 417 (.iload 12) 2 := by decide +kernel
theorem d3_419 : D20 419 (.iastore) 1 := by decide +kernel
theorem d3_420 : D20 420 (.iinc 12 1) 3 := by decide +kernel
theorem d3_423 : D20 423 (.goto (-18)) 3 := by decide +kernel
theorem d3_426 : D20 426 (.iconst 0) 1 := by decide +kernel
theorem d3_427 : D20 427 (.istore 12) 2 := by decide +kernel
theorem d3_429 : D20 429 (.iload 12) 2 := by decide +kernel
theorem d3_431 : D20 431 (.iload 10) 2 := by decide +kernel
theorem d3_433 : D20 433 (.if_icmp .ge 29) 3 := by decide +kernel
theorem d3_436 : D20 436 (.aload_n 0) 1 := by decide +kernel
theorem d3_437 : D20 437 (.iload 12) 2 := by decide +kernel
theorem d3_439 : D20 439 (.aload 11) 2 := by decide +kernel
theorem d3_441 : D20 441 (.aload 6) 2 := by decide +kernel
theorem d3_443 : D20 443 (.aload 7) 2 := by decide +kernel
theorem d3_445 : D20 445 (.aload 9) 2 := by decide +kernel
theorem d3_447 : D20 447 (.invokevirtual 96) 3 := by decide +kernel
theorem d3_450 : D20 450 (.aload 11) 2 := by decide +kernel
theorem d3_452 : D20 452 (.iload_n 2) 1 := by decide +kernel
theorem d3_453 : D20 453 (.invokestatic 100) 3 := by decide +kernel
theorem d3_456 : D20 456 (.iinc 12 1) 3 := by decide +kernel
theorem d3_459 : D20 459 (.goto (-30)) 3 := by decide +kernel
theorem d3_462 : D20 462 (.return_) 1 := by decide +kernel
theorem ef_3 (m : MethodId) (x0 : Addr) (x1 : Int32) (x2 : Int32) : entryFrame m #[(.ref x0), (.int x1), (.int x2)] 14 = mkF m 0 #[.val (.ref x0), .val (.int x1), .val (.int x2), .unset, .unset, .unset, .unset, .unset, .unset, .unset, .unset, .unset, .unset, .unset] [] := by first | (simp [entryFrame, mkF, argsToLocals, Value.category]; done) | rfl
def Q3 (Z : State) (oa : Addr) (nB : Nat) (nD : Nat) (nC : Nat) (nc : Nat) (tt : Nat) (h0 : Heap) (n0 : Nat) (v : Option Value) (h : Heap) (L : List Loc) : Prop := ∃ (or2 : Addr) (or3 : Addr) (ck2 : ClassId) (ck3 : ClassId) (vl2 : List Value) (vl3 : List Value) (s1 : Addr) (s2 : Addr) (ks1 : ClassId) (ks2 : ClassId), v = none ∧ Fr n0 L ∧ Keep h0 h [oa] ∧ Exa Z h oa BLn ∧ Fld Z h oa BLn "runShifts" "[[I" (.ref or2) ∧ Fld Z h oa BLn "runWidths" "[[I" (.ref or3) ∧ Arv Z h or2 ck2 (.array .int) (nC.toInt32) vl2 .null ∧ Arv Z h or3 ck3 (.array .int) (nC.toInt32) vl3 .null ∧ Arv Z h s1 ks1 .int ((own_rs (own_ch (nB.toInt32) nc tt) (own_sl (nB.toInt32) nB) (own_wl (nB.toInt32) nB) nc).1.toInt32) ((own_rs (own_ch (nB.toInt32) nc tt) (own_sl (nB.toInt32) nB) (own_wl (nB.toInt32) nB) nc).2.1.map Value.int) (.int 0) ∧ Arv Z h s2 ks2 .int ((own_rs (own_ch (nB.toInt32) nc tt) (own_sl (nB.toInt32) nB) (own_wl (nB.toInt32) nB) nc).1.toInt32) ((own_rs (own_ch (nB.toInt32) nc tt) (own_sl (nB.toInt32) nB) (own_wl (nB.toInt32) nB) nc).2.2.map Value.int) (.int 0) ∧ (vl2.getD tt .null = .ref s1) ∧ (vl3.getD tt .null = .ref s2)
set_option maxRecDepth 65536 in
set_option maxHeartbeats 40000000 in
theorem rm3 (l : Launch) (Z : State) (a0 : Array Value) (hw : ∀ d ∈ tables_1, d.before a0 Z = true) (ws : List Jvm.Cond) (oa : Addr) (nB : Nat) (nD : Nat) (nC : Nat) (nc : Nat) (tt : Nat) (h0 : Heap) (n0 : Nat) (Z0 : n0 ≤ h0.size) (P0 : Exa Z h0 oa BLn) (P1 : Fld Z h0 oa BLn "distance" "I" (.int 0)) (P2 : Fld Z h0 oa BLn "widths" "[I" .null) (P3 : Fld Z h0 oa BLn "keyMasks" "[J" .null) (P4 : Fld Z h0 oa BLn "runShifts" "[[I" .null) (P5 : Fld Z h0 oa BLn "runWidths" "[[I" .null) (P6 : Fld Z h0 oa BLn "radii" "[I" .null) (P7 : Fld Z h0 oa BLn "keyDifferences" "[[J" .null) (P8 : Fld Z h0 oa BLn "skippedTops" "[J" .null) (P9 : Fld Z h0 oa BLn "skippedLows" "[J" .null) (P10 : Fld Z h0 oa BLn "earlierWithRadius" "[[I" .null) (ga : n0 ≤ oa) (hB5 : nB ≤ 5) (hD : nD < nB) (hncD : nB = nD + nc) (hnc3 : nc ≤ 3) (hC10 : nC ≤ 10) (htt : tt < nC) (hbn : own_bin nB nD = (nC.toInt32).toInt64) (hgood : ∀ z, z < nC → (∀ i, i < nc → ¬ (own_ch nB.toInt32 nc z).getD i 0 < (0 : Int32) ∧ (own_ch nB.toInt32 nc z).getD i 0 < nB.toInt32) ∧ ¬ own_bc (own_km (own_ml nB.toInt32 nB) (own_ch nB.toInt32 nc z) nc) < (0 : Int32) ∧ (own_bc (own_km (own_ml nB.toInt32 nB) (own_ch nB.toInt32 nc z) nc)).toNatClampNeg ≤ 64) :
    MetFree l (⟨BLn, "<init>", "(II)V"⟩ : MethodName) (head1 (Jvm.Cond.code (⟨BLn, "<init>", "(II)V"⟩ : MethodName) prog_1_method_2_code 14 none :: ws) ({ frames := 4, cells := 102, slots := 1136, locals := 97 } : Room)) (fun a U => a = #[(.ref oa), (.int (nD.toInt32)), (.int (nB.toInt32))] ∧ Z.Warmed39 U.vm ∧ U.heap = h0) (fun _ _ _ _ _ => True) (fun _ U o U' => ∃ v L, o = .returned v ∧ Q3 Z oa nB nD nC nc tt h0 n0 v U'.heap L ∧ FrameEnd U o U' L ({ frames := 4, cells := 102, slots := 1136, locals := 97 } : Room).cells ({ frames := 4, cells := 102, slots := 1136, locals := 97 } : Room).slots) := by
  refine MetFree.of_bodySF (plainFor_of_name own_pn1) hisR ?_
  intro p e s m args below meth c s₁ Bd hml0 hP hK
  obtain ⟨rfl, hZ, hh⟩ := hP
  have hx := Bd.exec
  have hby := Bd.bytes
  have hml : c.maxLocals = 14 := hml0
  have hown : s.vm.findClass BLn = some m.cls := findClass_of_methodNamed Bd.named
  have hnm := (name_of_methodNamed Bd.named Bd.method).1
  have X0 : Stand p l e ({ frames := 4, cells := 102, slots := 1136, locals := 97 } : Room) s m #[(.ref oa), (.int (nD.toInt32)), (.int (nB.toInt32))] below meth c s₁ [] 0 0 := Stand.of_body Bd
  have e0 : s₁.heap = h0 := by rw [← hh, Bd.state]; rfl
  have N0 := Fr.nil n0
  have K0 : Keep h0 h0 [oa] := Keep.refl _ _
  suffices GO : ∀ P : Outcome → State → Prop, (∀ o U', (∃ v L, o = .returned v ∧ Q3 Z oa nB nD nC nc tt h0 n0 v U'.heap L ∧ FrameEnd s o U' L ({ frames := 4, cells := 102, slots := 1136, locals := 97 } : Room).cells ({ frames := 4, cells := 102, slots := 1136, locals := 97 } : Room).slots) → P o U') → Go p.tables e below P s₁ (mkF m 0 #[.val (.ref oa), .val (.int (nD.toInt32)), .val (.int (nB.toInt32)), .unset, .unset, .unset, .unset, .unset, .unset, .unset, .unset, .unset, .unset, .unset] []) by
    obtain ⟨s2, o, st, r⟩ := GO _ (fun _ _ q => q)
    exact ⟨s2, o, castTop (ef_3 m oa (nD.toInt32) (nB.toInt32)) st, r⟩
  clear hh
  intro P hP
  have sB : nB < 2147483648 := by omega
  have sC : nC < 2147483648 := by omega
  have sc : nc < 2147483648 := by omega
  have sD : nD < 2147483648 := by omega
  have hnz : ¬ nB.toInt32 = (0 : Int32) := fun q => absurd ((own_eq0 sB).mp q) (by omega)
  have hnc1 : 1 ≤ nc := by omega
  refine gv (fun t k => XS.aloadN X0.here hx rfl (hb hby d3_0) rfl rfl k) ?_
  obtain ⟨T1, X1, e1, st1⟩ := initO X0 hx hZ hown (own_g hw 15 rfl) (own_g hw 16 rfl) (own_g hw 17 rfl) e0 (g := (mkF m 1 #[vr oa, vi (nD.toInt32), vi (nB.toInt32), vu, vu, vu, vu, vu, vu, vu, vu, vu, vu, vu] [(.ref oa)])) rfl (by rw [hml]; rfl) rfl (hb hby d3_1) (by decide) (W := 0) (by show 2 * 0 + _ ≤ _; exact Nat.le_of_eq rfl) (by decide)
  refine gv st1 ?_
  refine gv (fun t k => XS.iloadN X1.here hx rfl (hb hby d3_4) rfl k) ?_
  refine gv (fun t k => XS.ifNo X1.here hx rfl (hb hby d3_5) rfl ((if0 _ _).trans (flt (own_nneg (by omega))).1) k) ?_
  refine gv (fun t k => XS.iloadN X1.here hx rfl (hb hby d3_8) rfl k) ?_
  refine gv (fun t k => XS.bipush X1.here hx rfl (hb hby d3_9) k) ?_
  refine gv (fun t k => XS.icmpYes X1.here hx rfl (pc0 := 11) (pc' := 24) rfl (hb hby d3_11) rfl (flt (fun q => absurd ((own_ltN (i := 63) (by omega) (by omega)).mp q) (by omega))).2.2.2 (by decide) (by decide) k) ?_
  refine gv (fun t k => XS.iloadN X1.here hx rfl (hb hby d3_24) rfl k) ?_
  show Go p.tables e below P T1 (mkF m 25 #[vr oa, vi (nD.toInt32), vi (nB.toInt32), vu, vu, vu, vu, vu, vu, vu, vu, vu, vu, vu] [(.int (nB.toInt32))])
  refine gv (fun t k => XS.iconst X1.here hx rfl (hb hby d3_25) k) ?_
  refine gv (fun t k => XS.icmpNo X1.here hx rfl (hb hby d3_26) rfl (flt (fun q => absurd ((own_ltN (n := 1) (by omega) (by omega)).mp q) (by omega))).1 k) ?_
  refine gv (fun t k => XS.iloadN X1.here hx rfl (hb hby d3_29) rfl k) ?_
  refine gv (fun t k => XS.bipush X1.here hx rfl (hb hby d3_30) k) ?_
  refine gv (fun t k => XS.icmpYes X1.here hx rfl (pc0 := 32) (pc' := 45) rfl (hb hby d3_32) rfl (flt (fun q => absurd ((own_ltN (i := 64) (by omega) (by omega)).mp q) (by omega))).2.2.2 (by decide) (by decide) k) ?_
  refine gv (fun t k => XS.iloadN X1.here hx rfl (hb hby d3_45) rfl k) ?_
  refine gv (fun t k => XS.iloadN X1.here hx rfl (hb hby d3_46) rfl k) ?_
  refine gv (fun t k => XS.icmpNo X1.here hx rfl (hb hby d3_47) rfl (tlt ((own_ltN (by omega) (by omega)).mpr hD)).2.2.2 k) ?_
  refine gv (fun t k => XS.iconst X1.here hx rfl (hb hby d3_50) k) ?_
  show Go p.tables e below P T1 (mkF m 51 #[vr oa, vi (nD.toInt32), vi (nB.toInt32), vu, vu, vu, vu, vu, vu, vu, vu, vu, vu, vu] [(.int 1)])
  refine gv (fun t k => XS.goto X1.here hx rfl (pc0 := 51) (pc' := 55) rfl (hb hby d3_51) (by decide) (by decide) k) ?_
  refine gv (fun t k => XS.istoreN X1.here hx rfl (hb hby d3_55) rfl (l' := #[vr oa, vi (nD.toInt32), vi (nB.toInt32), vi 1, vu, vu, vu, vu, vu, vu, vu, vu, vu, vu]) rfl k) ?_
  refine gv (fun t k => XS.iloadN X1.here hx rfl (hb hby d3_56) rfl k) ?_
  refine gv (fun t k => XS.ifNo X1.here hx rfl (hb hby d3_57) rfl ((if0 _ _).trans (feq (by decide : ¬ ((1 : Int32) = (0 : Int32)))).1) k) ?_
  refine gv (fun t k => XS.iloadN X1.here hx rfl (hb hby d3_60) rfl k) ?_
  refine gv (fun t k => XS.iloadN X1.here hx rfl (hb hby d3_61) rfl k) ?_
  obtain ⟨_, _, ⟨T2, L2, k2, n2⟩, -, X2, ⟨Lc2, hQ2, l2, y2, z2⟩, st2⟩ := Jvm.LawKit.callS X1 hx (y := (⟨BLn, "binomial", "(II)J"⟩ : MethodName)) hown (mvT hZ (own_g hw 18 rfl)) (mvT hZ (own_g hw 19 rfl)) (mvT hZ (own_g hw 11 rfl)) (mvT hZ (own_g hw 20 rfl)) (by decide) (backOf (W := 0) (rm5 l Z a0 hw [] (nB.toInt32) (nD.toInt32) nB nD h0 n0 Z0 rfl rfl (by omega) (by omega)) hZ (own_g hw 20 rfl) (own_g hw 11 rfl) (by decide) (by decide)) (g := (mkF m 62 #[vr oa, vi (nD.toInt32), vi (nB.toInt32), vi 1, vu, vu, vu, vu, vu, vu, vu, vu, vu, vu] [(.int (nD.toInt32)), (.int (nB.toInt32))])) rfl (by rw [hml]; rfl) (argsL := [(.int (nB.toInt32)), (.int (nD.toInt32))]) (rest := []) (lenOf own_pd4 rfl) rfl (by show 2 * 0 + _ ≤ _; exact Nat.le_of_eq rfl) (hb hby d3_62) (fun _ _ => ⟨rfl, e1, (by decide : 0 + 1 ≤ _), (by decide : 0 + 65 ≤ _)⟩)
  dsimp only [Pt.U, Pt.locs, Pt.cells, Pt.slots] at X2 l2 y2 z2 st2 hQ2
  subst l2 y2 z2
  obtain ⟨rfl, Nq2, K2⟩ := hQ2
  obtain ⟨lc2, Xh2, N2⟩ := own_hide X2 (Fr.app N0 Nq2)
  clear X2
  refine gv st2 ?_
  have Z3 := Nat.le_trans Z0 K2.1
  have K4 := K0.trans K2 own_all0
  show Go p.tables e below P T2 (mkF m 65 #[vr oa, vi (nD.toInt32), vi (nB.toInt32), vi 1, vu, vu, vu, vu, vu, vu, vu, vu, vu, vu] [(.long (own_bin nB nD))])
  rw [hbn]
  refine gv (fun t k => XS.goto Xh2.here hx rfl (pc0 := 65) (pc' := 70) rfl (hb hby d3_65) (by decide) (by decide) k) ?_
  refine gv (fun t k => XS.lstore Xh2.here hx rfl (hb hby d3_70) rfl (l' := #[vr oa, vi (nD.toInt32), vi (nB.toInt32), vi 1, vj ((nC.toInt32).toInt64), v2, vu, vu, vu, vu, vu, vu, vu, vu]) rfl k) ?_
  refine gv (fun t k => XS.lload Xh2.here hx rfl (hb hby d3_72) rfl k) ?_
  refine gv (fun t k => Xh2.ldc2Long hx hown (mvT hZ (own_g hw 22 rfl)) (g := (mkF m 74 #[vr oa, vi (nD.toInt32), vi (nB.toInt32), vi 1, vj ((nC.toInt32).toInt64), v2, vu, vu, vu, vu, vu, vu, vu, vu] [(.long ((nC.toInt32).toInt64))])) rfl (hb hby d3_74) t k) ?_
  refine gv (fun t k => XS.lcmp Xh2.here hx rfl (hb hby d3_77) rfl k) ?_
  refine gv (fun t k => XS.ifYes Xh2.here hx rfl (pc0 := 78) (pc' := 98) rfl (hb hby d3_78) rfl ((if0 _ _).trans (flt (fun q => by rw [lw_gt, Int64.lt_iff_toInt_lt, Int32.toInt_toInt64, own_nat (by omega)] at q; have e1 : (1024 : Int64).toInt = 1024 := rfl; omega)).2.2.2) (by decide) (by decide) k) ?_
  refine gv (fun t k => XS.aloadN Xh2.here hx rfl (hb hby d3_98) rfl rfl k) ?_
  refine gv (fun t k => XS.iloadN Xh2.here hx rfl (hb hby d3_99) rfl k) ?_
  have F5 := (P0.keep K2)
  have F6 := (P1.keep K2 own_nin0)
  obtain ⟨T7, h7, X7, e7, W7, st7⟩ := putF Xh2 hx hZ hown (host := "") (Or.inl (own_g hw 23 rfl)) Via.refl rfl F6 F5 (Or.inr ⟨(own_g hw 24 rfl), rfl, hnm⟩) (own_g hw 10 rfl) (ty := .int) (by decide) rfl rfl (g := (mkF m 100 #[vr oa, vi (nD.toInt32), vi (nB.toInt32), vi 1, vj ((nC.toInt32).toInt64), v2, vu, vu, vu, vu, vu, vu, vu, vu] [(.int (nD.toInt32)), (.ref oa)])) rfl rfl (hb hby d3_100)
  refine gv st7 ?_
  have Z8 := Nat.le_trans Z3 (Nat.le_of_eq W7.size.symm)
  have K9 := K4.wr W7 (Or.inl (List.mem_of_getElem? (i := 0) rfl))
  obtain ⟨lc7, Xh7, N10⟩ := own_hide X7 (Fr.snoc X7 N2 ga)
  clear X7
  have Fw7 := F6.same W7
  show Go p.tables e below P T7 (mkF m 103 #[vr oa, vi (nD.toInt32), vi (nB.toInt32), vi 1, vj ((nC.toInt32).toInt64), v2, vu, vu, vu, vu, vu, vu, vu, vu] [])
  refine gv (fun t k => XS.aloadN Xh7.here hx rfl (hb hby d3_103) rfl rfl k) ?_
  refine gv (fun t k => XS.iloadN Xh7.here hx rfl (hb hby d3_104) rfl k) ?_
  obtain ⟨T11, h11, k11, X11, e11, E11, A11, st11⟩ := newP Xh7 hx hZ (own_g hw 1 rfl) e7 (g := (mkF m 105 #[vr oa, vi (nD.toInt32), vi (nB.toInt32), vi 1, vj ((nC.toInt32).toInt64), v2, vu, vu, vu, vu, vu, vu, vu, vu] [(.int (nB.toInt32)), (.ref oa)])) rfl (hb hby d3_105) rfl (own_nneg sB) (cap := 5) (by rw [own_clamp sB]; exact hB5) (by decide) (by decide) (by decide)
  obtain ⟨b11, g11⟩ : ∃ z, z = h7.size := ⟨_, rfl⟩
  rw [← g11] at A11 st11
  refine gv st11 ?_
  have g12 := Nat.le_trans Z8 (Nat.le_of_eq g11.symm)
  have sz13 := Nat.le_trans K9.1 (Nat.le_of_eq g11.symm)
  have Z14 := Nat.le_trans Z8 E11.1
  have K15 := K9.ext E11
  have V11 : Arv Z h11 b11 k11 .int (nB.toInt32) (List.replicate 5 (.int 0)) (.int 0) := (Arv.new A11 (own_nneg sB)).pad (pad_rep [] (.int 0) 5)
  have F16 := ((F5.wr W7).ext E11)
  have F17 := (((P2.keep K2 own_nin0).other W7 (Or.inr (own_sn0 hw))).ext E11)
  obtain ⟨T18, h18, X18, e18, W18, st18⟩ := putF X11 hx hZ hown (host := "") (Or.inl (own_g hw 25 rfl)) Via.refl e11 F17 F16 (Or.inr ⟨(own_g hw 26 rfl), rfl, hnm⟩) (own_g hw 10 rfl) (ty := (.array .int)) (by decide) rfl rfl (g := (mkF m 107 #[vr oa, vi (nD.toInt32), vi (nB.toInt32), vi 1, vj ((nC.toInt32).toInt64), v2, vu, vu, vu, vu, vu, vu, vu, vu] [(.ref b11), (.ref oa)])) rfl rfl (hb hby d3_107)
  refine gv st18 ?_
  have Z19 := Nat.le_trans Z14 (Nat.le_of_eq W18.size.symm)
  have K20 := K15.wr W18 (Or.inl (List.mem_of_getElem? (i := 0) rfl))
  obtain ⟨lc18, Xh18, N21⟩ := own_hide X18 (Fr.snoc X18 N10 ga)
  clear X18
  have Fw18 := F17.same W18
  refine gv (fun t k => XS.iloadN Xh18.here hx rfl (hb hby d3_110) rfl k) ?_
  obtain ⟨T22, h22, k22, X22, e22, E22, A22, st22⟩ := newP Xh18 hx hZ (own_g hw 21 rfl) e18 (g := (mkF m 111 #[vr oa, vi (nD.toInt32), vi (nB.toInt32), vi 1, vj ((nC.toInt32).toInt64), v2, vu, vu, vu, vu, vu, vu, vu, vu] [(.int (nB.toInt32))])) rfl (hb hby d3_111) rfl (own_nneg sB) (cap := 5) (by rw [own_clamp sB]; exact hB5) (by decide) (by decide) (by decide)
  obtain ⟨b22, g22⟩ : ∃ z, z = h18.size := ⟨_, rfl⟩
  rw [← g22] at A22 st22
  refine gv st22 ?_
  have F24 := (V11.other W18 (Ne.symm (Nat.ne_of_lt (Nat.lt_of_lt_of_le P0.lt sz13))))
  have ne23 := Nat.ne_of_lt (Nat.lt_of_lt_of_le F24.lt (Nat.le_of_eq g22.symm))
  have g25 := Nat.le_trans Z19 (Nat.le_of_eq g22.symm)
  have sz26 := Nat.le_trans K20.1 (Nat.le_of_eq g22.symm)
  have Z27 := Nat.le_trans Z19 E22.1
  have K28 := K20.ext E22
  have V22 : Arv Z h22 b22 k22 .long (nB.toInt32) (List.replicate 5 (.long 0)) (.long 0) := (Arv.new A22 (own_nneg sB)).pad (pad_rep [] (.long 0) 5)
  refine gv (fun t k => XS.astore X22.here hx rfl (hb hby d3_113) rfl rfl (l' := #[vr oa, vi (nD.toInt32), vi (nB.toInt32), vi 1, vj ((nC.toInt32).toInt64), v2, vr b22, vu, vu, vu, vu, vu, vu, vu]) rfl k) ?_
  refine gv (fun t k => XS.iloadN X22.here hx rfl (hb hby d3_115) rfl k) ?_
  obtain ⟨T29, h29, k29, X29, e29, E29, A29, st29⟩ := newP X22 hx hZ (own_g hw 1 rfl) e22 (g := (mkF m 116 #[vr oa, vi (nD.toInt32), vi (nB.toInt32), vi 1, vj ((nC.toInt32).toInt64), v2, vr b22, vu, vu, vu, vu, vu, vu, vu] [(.int (nB.toInt32))])) rfl (hb hby d3_116) rfl (own_nneg sB) (cap := 5) (by rw [own_clamp sB]; exact hB5) (by decide) (by decide) (by decide)
  obtain ⟨b29, g29⟩ : ∃ z, z = h22.size := ⟨_, rfl⟩
  rw [← g29] at A29 st29
  refine gv st29 ?_
  have F31 := (F24.ext E22)
  have ne30 := Nat.ne_of_lt (Nat.lt_of_lt_of_le F31.lt (Nat.le_of_eq g29.symm))
  have ne32 := Nat.ne_of_lt (Nat.lt_of_lt_of_le V22.lt (Nat.le_of_eq g29.symm))
  have g33 := Nat.le_trans Z27 (Nat.le_of_eq g29.symm)
  have sz34 := Nat.le_trans K28.1 (Nat.le_of_eq g29.symm)
  have Z35 := Nat.le_trans Z27 E29.1
  have K36 := K28.ext E29
  have V29 : Arv Z h29 b29 k29 .int (nB.toInt32) (List.replicate 5 (.int 0)) (.int 0) := (Arv.new A29 (own_nneg sB)).pad (pad_rep [] (.int 0) 5)
  show Go p.tables e below P T29 (mkF m 118 #[vr oa, vi (nD.toInt32), vi (nB.toInt32), vi 1, vj ((nC.toInt32).toInt64), v2, vr b22, vu, vu, vu, vu, vu, vu, vu] [(.ref b29)])
  refine gv (fun t k => XS.astore X29.here hx rfl (hb hby d3_118) rfl rfl (l' := #[vr oa, vi (nD.toInt32), vi (nB.toInt32), vi 1, vj ((nC.toInt32).toInt64), v2, vr b22, vr b29, vu, vu, vu, vu, vu, vu]) rfl k) ?_
  refine gv (fun t k => XS.bipush X29.here hx rfl (hb hby d3_120) k) ?_
  refine gv (fun t k => XS.istore X29.here hx rfl (hb hby d3_122) rfl (l' := #[vr oa, vi (nD.toInt32), vi (nB.toInt32), vi 1, vj ((nC.toInt32).toInt64), v2, vr b22, vr b29, vi 64, vu, vu, vu, vu, vu]) rfl k) ?_
  refine gv (fun t k => XS.iconst X29.here hx rfl (hb hby d3_124) k) ?_
  refine gv (fun t k => XS.istore X29.here hx rfl (hb hby d3_125) rfl (l' := #[vr oa, vi (nD.toInt32), vi (nB.toInt32), vi 1, vj ((nC.toInt32).toInt64), v2, vr b22, vr b29, vi 64, vi 0, vu, vu, vu, vu]) rfl k) ?_
  have LP37 : ∀ (k37 : Nat) (T37 : State) (locs37 : List Loc) (hp37 : Heap) (i : Nat) (x9 : Int32) (x8 : Int32), Stand p l e ({ frames := 4, cells := 102, slots := 1136, locals := 97 } : Room) s m #[(.ref oa), (.int (nD.toInt32)), (.int (nB.toInt32))] below meth c T37 locs37 4 80 → T37.heap = hp37 → Fr n0 locs37 → n0 ≤ hp37.size → Keep h0 hp37 [oa] → Exa Z hp37 oa BLn → Fld Z hp37 oa BLn "distance" "I" (.int (nD.toInt32)) → Fld Z hp37 oa BLn "widths" "[I" (.ref b11) → Fld Z hp37 oa BLn "keyMasks" "[J" .null → Fld Z hp37 oa BLn "runShifts" "[[I" .null → Fld Z hp37 oa BLn "runWidths" "[[I" .null → Fld Z hp37 oa BLn "radii" "[I" .null → Fld Z hp37 oa BLn "keyDifferences" "[[J" .null → Fld Z hp37 oa BLn "skippedTops" "[J" .null → Fld Z hp37 oa BLn "skippedLows" "[J" .null → Fld Z hp37 oa BLn "earlierWithRadius" "[[I" .null → Arv Z hp37 b11 k11 .int (nB.toInt32) ((own_wl (nB.toInt32) i).map Value.int) (.int 0) → Arv Z hp37 b22 k22 .long (nB.toInt32) ((own_ml (nB.toInt32) i).map Value.long) (.long 0) → Arv Z hp37 b29 k29 .int (nB.toInt32) ((own_sl (nB.toInt32) i).map Value.int) (.int 0) → i ≤ nB → x9 = i.toInt32 → x8 = own_sf (nB.toInt32) i → nB - i < k37 → Go p.tables e below P T37 (mkF m 127 #[.val (.ref oa), .val (.int (nD.toInt32)), .val (.int (nB.toInt32)), .val (.int 1), .val (.long ((nC.toInt32).toInt64)), .second, .val (.ref b22), .val (.ref b29), .val (.int x8), .val (.int x9), .unset, .unset, .unset, .unset] []) := by
    intro k37
    induction k37 with
    | zero => intros; rename_i hk; exact absurd hk (Nat.not_lt_zero _)
    | succ k37 ih37 =>
      intro T37 locs37 hp37 i x9 x8 X37 e37 N37 Z37 K37 F37_0 F37_1 F37_2 F37_3 F37_4 F37_5 F37_6 F37_7 F37_8 F37_9 F37_10 F37_11 F37_12 F37_13 hi hx9 hx8 hk
      show Go p.tables e below P T37 (mkF m 127 #[vr oa, vi (nD.toInt32), vi (nB.toInt32), vi 1, vj ((nC.toInt32).toInt64), v2, vr b22, vr b29, vi x8, vi x9, vu, vu, vu, vu] [])
      refine gv (fun t k => XS.iload X37.here hx rfl (hb hby d3_127) rfl k) ?_
      refine gv (fun t k => XS.iloadN X37.here hx rfl (hb hby d3_129) rfl k) ?_
      by_cases hc38 : x9 < (nB.toInt32)
      · refine gv (fun t k => XS.icmpNo X37.here hx rfl (hb hby d3_130) rfl (tlt hc38).2.1 k) ?_
        have hlt : i < nB := (own_ltN (Nat.lt_of_le_of_lt hi sB) sB).mp (by rw [← hx9]; exact hc38)
        have si : i < 2147483648 := Nat.lt_trans hlt sB
        refine gv (fun t k => XS.aloadN X37.here hx rfl (hb hby d3_133) rfl rfl k) ?_
        obtain ⟨T39, X39, e39, st39⟩ := getF X37 hx hZ hown (host := "") (Or.inl (own_g hw 25 rfl)) Via.refl e37 F37_2 (g := (mkF m 134 #[vr oa, vi (nD.toInt32), vi (nB.toInt32), vi 1, vj ((nC.toInt32).toInt64), v2, vr b22, vr b29, vi x8, vi x9, vu, vu, vu, vu] [(.ref oa)])) rfl rfl (hb hby d3_134)
        refine gv st39 ?_
        refine gv (fun t k => XS.iload X39.here hx rfl (hb hby d3_137) rfl k) ?_
        refine gv (fun t k => XS.bipush X39.here hx rfl (hb hby d3_139) k) ?_
        refine gv (fun t k => XS.iloadN X39.here hx rfl (hb hby d3_141) rfl k) ?_
        refine gv (fun t k => XS.idiv X39.here hx rfl (hb hby d3_142) rfl hnz k) ?_
        show Go p.tables e below P T39 (mkF m 143 #[vr oa, vi (nD.toInt32), vi (nB.toInt32), vi 1, vj ((nC.toInt32).toInt64), v2, vr b22, vr b29, vi x8, vi x9, vu, vu, vu, vu] [(.int ((64 : Int32) / (nB.toInt32))), (.int x9), (.ref b11)])
        refine gv (fun t k => XS.iload X39.here hx rfl (hb hby d3_143) rfl k) ?_
        refine gv (fun t k => XS.bipush X39.here hx rfl (hb hby d3_145) k) ?_
        refine gv (fun t k => XS.iloadN X39.here hx rfl (hb hby d3_147) rfl k) ?_
        refine gv (fun t k => iremM X39 hx rfl (hb hby d3_148) rfl hnz k) ?_
        show Go p.tables e below P T39 (mkF m 149 #[vr oa, vi (nD.toInt32), vi (nB.toInt32), vi 1, vj ((nC.toInt32).toInt64), v2, vr b22, vr b29, vi x8, vi x9, vu, vu, vu, vu] [(.int ((64 : Int32) % (nB.toInt32))), (.int x9), (.int ((64 : Int32) / (nB.toInt32))), (.int x9), (.ref b11)])
        have J41 : ∀ (T41 : State) (locs41 : List Loc) (v41_0 : Int32), Stand p l e ({ frames := 4, cells := 102, slots := 1136, locals := 97 } : Room) s m #[(.ref oa), (.int (nD.toInt32)), (.int (nB.toInt32))] below meth c T41 locs41 4 80 → T41.heap = hp37 → Fr n0 locs41 → v41_0 = (if x9 < ((64 : Int32) % (nB.toInt32)) then (1 : Int32) else (0 : Int32)) → Go p.tables e below P T41 (mkF m 157 #[.val (.ref oa), .val (.int (nD.toInt32)), .val (.int (nB.toInt32)), .val (.int 1), .val (.long ((nC.toInt32).toInt64)), .second, .val (.ref b22), .val (.ref b29), .val (.int x8), .val (.int x9), .unset, .unset, .unset, .unset] [(.int v41_0), (.int ((64 : Int32) / (nB.toInt32))), (.int x9), (.ref b11)]) := by
          intro T41 locs41 v41_0 X41 e41 N41 hv41_0
          have hbv41_0 : v41_0 = 0 ∨ v41_0 = 1 := by (subst hv41_0; (repeat' split) <;> first | (left; rfl) | (right; rfl))
          refine gv (fun t k => XS.iadd X41.here hx rfl (hb hby d3_157) rfl k) ?_
          show Go p.tables e below P T41 (mkF m 158 #[vr oa, vi (nD.toInt32), vi (nB.toInt32), vi 1, vj ((nC.toInt32).toInt64), v2, vr b22, vr b29, vi x8, vi x9, vu, vu, vu, vu] [(.int (((64 : Int32) / (nB.toInt32)) + v41_0)), (.int x9), (.ref b11)])
          rw [show (((64 : Int32) / (nB.toInt32)) + v41_0) = (own_w (nB.toInt32) (i.toInt32)) from by rw [hv41_0, hx9]; rfl]
          obtain ⟨T42, h42, lc42, X42, e42, N42, Z42, K42, W42, V42, st42⟩ := own_stI X41 hx hZ e41 F37_11 N41 Z37 K37 g12 (Or.inr sz13) (j := x9) ⟨by rw [hx9]; exact own_nneg si, by rw [hx9]; exact (own_ltN si sB).mpr hlt⟩ (ji := i) (by rw [hx9, own_clamp si]) (by rw [List.length_map, own_wl_len]; exact Nat.lt_of_lt_of_le hlt hB5) (g := (mkF m 158 #[vr oa, vi (nD.toInt32), vi (nB.toInt32), vi 1, vj ((nC.toInt32).toInt64), v2, vr b22, vr b29, vi x8, vi x9, vu, vu, vu, vu] [(.int (own_w (nB.toInt32) (i.toInt32))), (.int x9), (.ref b11)])) rfl rfl (hb hby d3_158)
          refine gv st42 ?_
          refine gv (fun t k => XS.iload X42.here hx rfl (hb hby d3_159) rfl k) ?_
          refine gv (fun t k => XS.aloadN X42.here hx rfl (hb hby d3_161) rfl rfl k) ?_
          have F43 := (F37_2.other W42 (Or.inl (Nat.ne_of_lt (Nat.lt_of_lt_of_le P0.lt sz13))))
          obtain ⟨T44, X44, e44, st44⟩ := getF X42 hx hZ hown (host := "") (Or.inl (own_g hw 25 rfl)) Via.refl e42 F43 (g := (mkF m 162 #[vr oa, vi (nD.toInt32), vi (nB.toInt32), vi 1, vj ((nC.toInt32).toInt64), v2, vr b22, vr b29, vi x8, vi x9, vu, vu, vu, vu] [(.ref oa), (.int x8)])) rfl rfl (hb hby d3_162)
          refine gv st44 ?_
          refine gv (fun t k => XS.iload X44.here hx rfl (hb hby d3_165) rfl k) ?_
          obtain ⟨c45, A45, q45, S45, N45, H45, G45⟩ := id V42
          have hin45 : ¬ (x9 < 0 ∨ c45.slots.size ≤ (x9).toNatClampNeg) := inb_of S45 ⟨by rw [hx9]; exact own_nneg si, by rw [hx9]; exact (own_ltN si sB).mpr hlt⟩
          have hat45 : c45.slots[(x9).toNatClampNeg]? = some (.int (own_w (nB.toInt32) (i.toInt32))) := (H45 _ (Nat.lt_of_not_le fun q => hin45 (Or.inr q))).trans (congrArg some (by rw [hx9, own_clamp si]; exact own_gset (by rw [List.length_map, own_wl_len]; exact Nat.lt_of_lt_of_le hlt hB5)))
          refine gv (fun t k => X44.iaload hx (j := x9) (v := (.int (own_w (nB.toInt32) (i.toInt32)))) (by rw [e44]; exact A45.1) (State.isArrayOf_alike hZ.alike A45.2.1) A45.2.2 hin45 hat45 (g := (mkF m 167 #[vr oa, vi (nD.toInt32), vi (nB.toInt32), vi 1, vj ((nC.toInt32).toInt64), v2, vr b22, vr b29, vi x8, vi x9, vu, vu, vu, vu] [(.int x9), (.ref b11), (.int x8)])) rfl rfl (hb hby d3_167) t k) ?_
          refine gv (fun t k => XS.isub X44.here hx rfl (hb hby d3_168) rfl k) ?_
          refine gv (fun t k => XS.istore X44.here hx rfl (hb hby d3_169) rfl (l' := #[vr oa, vi (nD.toInt32), vi (nB.toInt32), vi 1, vj ((nC.toInt32).toInt64), v2, vr b22, vr b29, vi (x8 - (own_w (nB.toInt32) (i.toInt32))), vi x9, vu, vu, vu, vu]) rfl k) ?_
          show Go p.tables e below P T44 (mkF m 171 #[vr oa, vi (nD.toInt32), vi (nB.toInt32), vi 1, vj ((nC.toInt32).toInt64), v2, vr b22, vr b29, vi (x8 - (own_w (nB.toInt32) (i.toInt32))), vi x9, vu, vu, vu, vu] [])
          rw [show x8 - (own_w (nB.toInt32) (i.toInt32)) = own_sf (nB.toInt32) (i + 1) from by rw [hx8]; rfl]
          refine gv (fun t k => XS.aload X44.here hx rfl (hb hby d3_171) rfl rfl k) ?_
          refine gv (fun t k => XS.iload X44.here hx rfl (hb hby d3_173) rfl k) ?_
          refine gv (fun t k => XS.iload X44.here hx rfl (hb hby d3_175) rfl k) ?_
          have F46 := (F37_13.other W42 (Ne.symm ne30))
          obtain ⟨T47, h47, lc47, X47, e47, N47, Z47, K47, W47, V47, st47⟩ := own_stI X44 hx hZ e44 F46 N42 Z42 K42 g33 (Or.inr sz34) (j := x9) ⟨by rw [hx9]; exact own_nneg si, by rw [hx9]; exact (own_ltN si sB).mpr hlt⟩ (ji := i) (by rw [hx9, own_clamp si]) (by rw [List.length_map, own_sl_len]; exact Nat.lt_of_lt_of_le hlt hB5) (g := (mkF m 177 #[vr oa, vi (nD.toInt32), vi (nB.toInt32), vi 1, vj ((nC.toInt32).toInt64), v2, vr b22, vr b29, vi (own_sf (nB.toInt32) (i + 1)), vi x9, vu, vu, vu, vu] [(.int (own_sf (nB.toInt32) (i + 1))), (.int x9), (.ref b29)])) rfl rfl (hb hby d3_177)
          refine gv st47 ?_
          refine gv (fun t k => XS.aload X47.here hx rfl (hb hby d3_178) rfl rfl k) ?_
          refine gv (fun t k => XS.iload X47.here hx rfl (hb hby d3_180) rfl k) ?_
          refine gv (fun t k => XS.aloadN X47.here hx rfl (hb hby d3_182) rfl rfl k) ?_
          have F48 := (F43.other W47 (Or.inl (Nat.ne_of_lt (Nat.lt_of_lt_of_le P0.lt sz34))))
          obtain ⟨T49, X49, e49, st49⟩ := getF X47 hx hZ hown (host := "") (Or.inl (own_g hw 25 rfl)) Via.refl e47 F48 (g := (mkF m 183 #[vr oa, vi (nD.toInt32), vi (nB.toInt32), vi 1, vj ((nC.toInt32).toInt64), v2, vr b22, vr b29, vi (own_sf (nB.toInt32) (i + 1)), vi x9, vu, vu, vu, vu] [(.ref oa), (.int x9), (.ref b22)])) rfl rfl (hb hby d3_183)
          refine gv st49 ?_
          refine gv (fun t k => XS.iload X49.here hx rfl (hb hby d3_186) rfl k) ?_
          show Go p.tables e below P T49 (mkF m 188 #[vr oa, vi (nD.toInt32), vi (nB.toInt32), vi 1, vj ((nC.toInt32).toInt64), v2, vr b22, vr b29, vi (own_sf (nB.toInt32) (i + 1)), vi x9, vu, vu, vu, vu] [(.int x9), (.ref b11), (.int x9), (.ref b22)])
          have F50 := (V42.other W47 ne30)
          obtain ⟨c51, A51, q51, S51, N51, H51, G51⟩ := id F50
          have hin51 : ¬ (x9 < 0 ∨ c51.slots.size ≤ (x9).toNatClampNeg) := inb_of S51 ⟨by rw [hx9]; exact own_nneg si, by rw [hx9]; exact (own_ltN si sB).mpr hlt⟩
          have hat51 : c51.slots[(x9).toNatClampNeg]? = some (.int (own_w (nB.toInt32) (i.toInt32))) := (H51 _ (Nat.lt_of_not_le fun q => hin51 (Or.inr q))).trans (congrArg some (by rw [hx9, own_clamp si]; exact own_gset (by rw [List.length_map, own_wl_len]; exact Nat.lt_of_lt_of_le hlt hB5)))
          refine gv (fun t k => X49.iaload hx (j := x9) (v := (.int (own_w (nB.toInt32) (i.toInt32)))) (by rw [e49]; exact A51.1) (State.isArrayOf_alike hZ.alike A51.2.1) A51.2.2 hin51 hat51 (g := (mkF m 188 #[vr oa, vi (nD.toInt32), vi (nB.toInt32), vi 1, vj ((nC.toInt32).toInt64), v2, vr b22, vr b29, vi (own_sf (nB.toInt32) (i + 1)), vi x9, vu, vu, vu, vu] [(.int x9), (.ref b11), (.int x9), (.ref b22)])) rfl rfl (hb hby d3_188) t k) ?_
          obtain ⟨_, _, ⟨T52, L52, k52, n52⟩, -, X52, ⟨Lc52, hQ52, l52, y52, z52⟩, st52⟩ := Jvm.LawKit.callS X49 hx (y := (⟨BLn, "lowBits", "(I)J"⟩ : MethodName)) hown (mvT hZ (own_g hw 27 rfl)) (mvT hZ (own_g hw 28 rfl)) (mvT hZ (own_g hw 11 rfl)) (mvT hZ (own_g hw 29 rfl)) (by decide) (backOf (W := 2) (rm6 l Z a0 hw [] (own_w (nB.toInt32) (i.toInt32)) h47 n0 Z47 ) hZ (own_g hw 29 rfl) (own_g hw 11 rfl) (by decide) (by decide)) (g := (mkF m 189 #[vr oa, vi (nD.toInt32), vi (nB.toInt32), vi 1, vj ((nC.toInt32).toInt64), v2, vr b22, vr b29, vi (own_sf (nB.toInt32) (i + 1)), vi x9, vu, vu, vu, vu] [(.int (own_w (nB.toInt32) (i.toInt32))), (.int x9), (.ref b22)])) rfl (by rw [hml]; rfl) (argsL := [(.int (own_w (nB.toInt32) (i.toInt32)))]) (rest := [(.int x9), (.ref b22)]) (lenOf own_pd9 rfl) rfl (by show 2 * 0 + _ ≤ _; exact Nat.le_of_eq rfl) (hb hby d3_189) (fun _ _ => ⟨rfl, e49, (by decide : 4 + 0 ≤ _), (by decide : 80 + 0 ≤ _)⟩)
          dsimp only [Pt.U, Pt.locs, Pt.cells, Pt.slots] at X52 l52 y52 z52 st52 hQ52
          subst l52 y52 z52
          obtain ⟨rfl, Nq52, hh52⟩ := hQ52
          obtain ⟨lc52, Xh52, N52⟩ := own_hide X52 (Fr.app N47 Nq52)
          clear X52
          refine gv st52 ?_
          refine gv (fun t k => XS.iload Xh52.here hx rfl (hb hby d3_192) rfl k) ?_
          refine gv (fun t k => XS.lshl Xh52.here hx rfl (hb hby d3_194) rfl k) ?_
          have F53 := ((F37_12.other W42 (Ne.symm ne23)).other W47 ne32)
          obtain ⟨T54, h54, lc54, X54, e54, N54, Z54, K54, W54, V54, st54⟩ := own_stJ Xh52 hx hZ hh52 F53 N52 Z47 K47 g25 (Or.inr sz26) (j := x9) ⟨by rw [hx9]; exact own_nneg si, by rw [hx9]; exact (own_ltN si sB).mpr hlt⟩ (ji := i) (by rw [hx9, own_clamp si]) (by rw [List.length_map, own_ml_len]; exact Nat.lt_of_lt_of_le hlt hB5) (g := (mkF m 195 #[vr oa, vi (nD.toInt32), vi (nB.toInt32), vi 1, vj ((nC.toInt32).toInt64), v2, vr b22, vr b29, vi (own_sf (nB.toInt32) (i + 1)), vi x9, vu, vu, vu, vu] [(.long ((own_lb (own_w (nB.toInt32) (i.toInt32))) <<< ((own_sf (nB.toInt32) (i + 1)) &&& 0x3f).toInt64)), (.int x9), (.ref b22)])) rfl rfl (hb hby d3_195)
          refine gv st54 ?_
          refine gv (fun t k => XS.iinc X54.here hx rfl (hb hby d3_196) rfl (l' := #[vr oa, vi (nD.toInt32), vi (nB.toInt32), vi 1, vj ((nC.toInt32).toInt64), v2, vr b22, vr b29, vi (own_sf (nB.toInt32) (i + 1)), vi (x9 + (1 : Int32)), vu, vu, vu, vu]) rfl k) ?_
          refine gv (fun t k => XS.goto X54.here hx rfl (pc0 := 199) (pc' := 127) rfl (hb hby d3_199) (by decide) (by decide) k) ?_
          have F55 := (F50.other W54 ne23)
          have F56 := (V47.other W54 (Ne.symm ne32))
          have F57 := (((F37_0.wr W42).wr W47).wr W54)
          have F58 := (((F37_1.other W42 (Or.inl (Nat.ne_of_lt (Nat.lt_of_lt_of_le P0.lt sz13)))).other W47 (Or.inl (Nat.ne_of_lt (Nat.lt_of_lt_of_le P0.lt sz34)))).other W54 (Or.inl (Nat.ne_of_lt (Nat.lt_of_lt_of_le P0.lt sz26))))
          have F59 := (F48.other W54 (Or.inl (Nat.ne_of_lt (Nat.lt_of_lt_of_le P0.lt sz26))))
          have F60 := (((F37_3.other W42 (Or.inl (Nat.ne_of_lt (Nat.lt_of_lt_of_le P0.lt sz13)))).other W47 (Or.inl (Nat.ne_of_lt (Nat.lt_of_lt_of_le P0.lt sz34)))).other W54 (Or.inl (Nat.ne_of_lt (Nat.lt_of_lt_of_le P0.lt sz26))))
          have F61 := (((F37_4.other W42 (Or.inl (Nat.ne_of_lt (Nat.lt_of_lt_of_le P0.lt sz13)))).other W47 (Or.inl (Nat.ne_of_lt (Nat.lt_of_lt_of_le P0.lt sz34)))).other W54 (Or.inl (Nat.ne_of_lt (Nat.lt_of_lt_of_le P0.lt sz26))))
          have F62 := (((F37_5.other W42 (Or.inl (Nat.ne_of_lt (Nat.lt_of_lt_of_le P0.lt sz13)))).other W47 (Or.inl (Nat.ne_of_lt (Nat.lt_of_lt_of_le P0.lt sz34)))).other W54 (Or.inl (Nat.ne_of_lt (Nat.lt_of_lt_of_le P0.lt sz26))))
          have F63 := (((F37_6.other W42 (Or.inl (Nat.ne_of_lt (Nat.lt_of_lt_of_le P0.lt sz13)))).other W47 (Or.inl (Nat.ne_of_lt (Nat.lt_of_lt_of_le P0.lt sz34)))).other W54 (Or.inl (Nat.ne_of_lt (Nat.lt_of_lt_of_le P0.lt sz26))))
          have F64 := (((F37_7.other W42 (Or.inl (Nat.ne_of_lt (Nat.lt_of_lt_of_le P0.lt sz13)))).other W47 (Or.inl (Nat.ne_of_lt (Nat.lt_of_lt_of_le P0.lt sz34)))).other W54 (Or.inl (Nat.ne_of_lt (Nat.lt_of_lt_of_le P0.lt sz26))))
          have F65 := (((F37_8.other W42 (Or.inl (Nat.ne_of_lt (Nat.lt_of_lt_of_le P0.lt sz13)))).other W47 (Or.inl (Nat.ne_of_lt (Nat.lt_of_lt_of_le P0.lt sz34)))).other W54 (Or.inl (Nat.ne_of_lt (Nat.lt_of_lt_of_le P0.lt sz26))))
          have F66 := (((F37_9.other W42 (Or.inl (Nat.ne_of_lt (Nat.lt_of_lt_of_le P0.lt sz13)))).other W47 (Or.inl (Nat.ne_of_lt (Nat.lt_of_lt_of_le P0.lt sz34)))).other W54 (Or.inl (Nat.ne_of_lt (Nat.lt_of_lt_of_le P0.lt sz26))))
          have F67 := (((F37_10.other W42 (Or.inl (Nat.ne_of_lt (Nat.lt_of_lt_of_le P0.lt sz13)))).other W47 (Or.inl (Nat.ne_of_lt (Nat.lt_of_lt_of_le P0.lt sz34)))).other W54 (Or.inl (Nat.ne_of_lt (Nat.lt_of_lt_of_le P0.lt sz26))))
          exact ih37 T54 _ h54 (i + 1) (x9 + (1 : Int32)) (own_sf (nB.toInt32) (i + 1)) X54 e54 N54 Z54 K54 F57 F58 F59 F60 F61 F62 F63 F64 F65 F66 F67 (by rw [own_wl, List.map_set]; exact F55) (by rw [own_ml, List.map_set]; exact V54) (by rw [own_sl, List.map_set]; exact F56) hlt (by rw [hx9]; exact own_succ i) rfl (own_dm hlt hk)
        by_cases hc40 : x9 < ((64 : Int32) % (nB.toInt32))
        · refine gv (fun t k => XS.icmpNo X39.here hx rfl (hb hby d3_149) rfl (tlt hc40).2.1 k) ?_
          refine gv (fun t k => XS.iconst X39.here hx rfl (hb hby d3_152) k) ?_
          refine gv (fun t k => XS.goto X39.here hx rfl (pc0 := 153) (pc' := 157) rfl (hb hby d3_153) (by decide) (by decide) k) ?_
          exact J41 T39 _ (1 : Int32) X39 e39 N37 (if_pos hc40).symm
        · refine gv (fun t k => XS.icmpYes X39.here hx rfl (pc0 := 149) (pc' := 156) rfl (hb hby d3_149) rfl (flt hc40).2.1 (by decide) (by decide) k) ?_
          show Go p.tables e below P T39 (mkF m 156 #[vr oa, vi (nD.toInt32), vi (nB.toInt32), vi 1, vj ((nC.toInt32).toInt64), v2, vr b22, vr b29, vi x8, vi x9, vu, vu, vu, vu] [(.int ((64 : Int32) / (nB.toInt32))), (.int x9), (.ref b11)])
          refine gv (fun t k => XS.iconst X39.here hx rfl (hb hby d3_156) k) ?_
          exact J41 T39 _ (0 : Int32) X39 e39 N37 (if_neg hc40).symm
      · refine gv (fun t k => XS.icmpYes X37.here hx rfl (pc0 := 130) (pc' := 202) rfl (hb hby d3_130) rfl (flt hc38).2.1 (by decide) (by decide) k) ?_
        show Go p.tables e below P T37 (mkF m 202 #[vr oa, vi (nD.toInt32), vi (nB.toInt32), vi 1, vj ((nC.toInt32).toInt64), v2, vr b22, vr b29, vi x8, vi x9, vu, vu, vu, vu] [])
        have hge : nB = i := by have q := hc38; rw [hx9, own_ltN (Nat.lt_of_le_of_lt hi sB) sB] at q; exact Nat.le_antisymm (Nat.le_of_not_lt q) hi
        subst hge
        refine gv (fun t k => XS.iloadN X37.here hx rfl (hb hby d3_202) rfl k) ?_
        obtain ⟨T68, h68, k68, X68, e68, E68, A68, st68⟩ := newP X37 hx hZ (own_g hw 1 rfl) e37 (g := (mkF m 203 #[vr oa, vi (nD.toInt32), vi (nB.toInt32), vi 1, vj ((nC.toInt32).toInt64), v2, vr b22, vr b29, vi x8, vi x9, vu, vu, vu, vu] [(.int (nB.toInt32))])) rfl (hb hby d3_203) rfl (own_nneg sB) (cap := 5) (by rw [own_clamp sB]; exact hB5) (by decide) (by decide) (by decide)
        obtain ⟨b68, g68⟩ : ∃ z, z = hp37.size := ⟨_, rfl⟩
        rw [← g68] at A68 st68
        refine gv st68 ?_
        have ne69 := Nat.ne_of_lt (Nat.lt_of_lt_of_le F37_11.lt (Nat.le_of_eq g68.symm))
        have ne70 := Nat.ne_of_lt (Nat.lt_of_lt_of_le F37_12.lt (Nat.le_of_eq g68.symm))
        have ne71 := Nat.ne_of_lt (Nat.lt_of_lt_of_le F37_13.lt (Nat.le_of_eq g68.symm))
        have g72 := Nat.le_trans Z37 (Nat.le_of_eq g68.symm)
        have sz73 := Nat.le_trans K37.1 (Nat.le_of_eq g68.symm)
        have Z74 := Nat.le_trans Z37 E68.1
        have K75 := K37.ext E68
        have V68 : Arv Z h68 b68 k68 .int (nB.toInt32) (List.replicate 5 (.int 0)) (.int 0) := (Arv.new A68 (own_nneg sB)).pad (pad_rep [] (.int 0) 5)
        refine gv (fun t k => XS.astore X68.here hx rfl (hb hby d3_205) rfl rfl (l' := #[vr oa, vi (nD.toInt32), vi (nB.toInt32), vi 1, vj ((nC.toInt32).toInt64), v2, vr b22, vr b29, vi x8, vr b68, vu, vu, vu, vu]) rfl k) ?_
        refine gv (fun t k => XS.iloadN X68.here hx rfl (hb hby d3_207) rfl k) ?_
        refine gv (fun t k => XS.ifYes X68.here hx rfl (pc0 := 208) (pc' := 305) rfl (hb hby d3_208) rfl ((if0 _ _).trans (feq (by decide : ¬ ((1 : Int32) = (0 : Int32)))).2) (by decide) (by decide) k) ?_
        refine gv (fun t k => XS.lload X68.here hx rfl (hb hby d3_305) rfl k) ?_
        refine gv (fun t k => XS.l2i X68.here hx rfl (hb hby d3_307) rfl k) ?_
        show Go p.tables e below P T68 (mkF m 308 #[vr oa, vi (nD.toInt32), vi (nB.toInt32), vi 1, vj ((nC.toInt32).toInt64), v2, vr b22, vr b29, vi x8, vr b68, vu, vu, vu, vu] [(.int (((nC.toInt32).toInt64).toInt32))])
        rw [own_l2i]
        refine gv (fun t k => XS.istore X68.here hx rfl (hb hby d3_308) rfl (l' := #[vr oa, vi (nD.toInt32), vi (nB.toInt32), vi 1, vj ((nC.toInt32).toInt64), v2, vr b22, vr b29, vi x8, vr b68, vi (nC.toInt32), vu, vu, vu]) rfl k) ?_
        refine gv (fun t k => XS.aloadN X68.here hx rfl (hb hby d3_310) rfl rfl k) ?_
        refine gv (fun t k => XS.iloadN X68.here hx rfl (hb hby d3_311) rfl k) ?_
        refine gv (fun t k => XS.ifNo X68.here hx rfl (hb hby d3_312) rfl ((if0 _ _).trans (feq (by decide : ¬ ((1 : Int32) = (0 : Int32)))).1) k) ?_
        refine gv (fun t k => XS.iload X68.here hx rfl (hb hby d3_315) rfl k) ?_
        obtain ⟨T76, h76, k76, X76, e76, E76, A76, st76⟩ := newP X68 hx hZ (own_g hw 1 rfl) e68 (g := (mkF m 317 #[vr oa, vi (nD.toInt32), vi (nB.toInt32), vi 1, vj ((nC.toInt32).toInt64), v2, vr b22, vr b29, vi x8, vr b68, vi (nC.toInt32), vu, vu, vu] [(.int (nC.toInt32)), (.ref oa)])) rfl (hb hby d3_317) rfl (own_nneg sC) (cap := 10) (by rw [own_clamp sC]; exact hC10) (by decide) (by decide) (by decide)
        obtain ⟨b76, g76⟩ : ∃ z, z = h68.size := ⟨_, rfl⟩
        rw [← g76] at A76 st76
        refine gv st76 ?_
        have F78 := (F37_11.ext E68)
        have ne77 := Nat.ne_of_lt (Nat.lt_of_lt_of_le F78.lt (Nat.le_of_eq g76.symm))
        have F80 := (F37_12.ext E68)
        have ne79 := Nat.ne_of_lt (Nat.lt_of_lt_of_le F80.lt (Nat.le_of_eq g76.symm))
        have F82 := (F37_13.ext E68)
        have ne81 := Nat.ne_of_lt (Nat.lt_of_lt_of_le F82.lt (Nat.le_of_eq g76.symm))
        have ne83 := Nat.ne_of_lt (Nat.lt_of_lt_of_le V68.lt (Nat.le_of_eq g76.symm))
        have g84 := Nat.le_trans Z74 (Nat.le_of_eq g76.symm)
        have sz85 := Nat.le_trans K75.1 (Nat.le_of_eq g76.symm)
        have Z86 := Nat.le_trans Z74 E76.1
        have K87 := K75.ext E76
        have V76 : Arv Z h76 b76 k76 .int (nC.toInt32) (List.replicate 10 (.int 0)) (.int 0) := (Arv.new A76 (own_nneg sC)).pad (pad_rep [] (.int 0) 10)
        refine gv (fun t k => XS.goto X76.here hx rfl (pc0 := 319) (pc' := 324) rfl (hb hby d3_319) (by decide) (by decide) k) ?_
        have F88 := ((F37_0.ext E68).ext E76)
        have F89 := ((F37_6.ext E68).ext E76)
        obtain ⟨T90, h90, X90, e90, W90, st90⟩ := putF X76 hx hZ hown (host := "") (Or.inl (own_g hw 31 rfl)) Via.refl e76 F89 F88 (Or.inr ⟨(own_g hw 32 rfl), rfl, hnm⟩) (own_g hw 10 rfl) (ty := (.array .int)) (by decide) rfl rfl (g := (mkF m 324 #[vr oa, vi (nD.toInt32), vi (nB.toInt32), vi 1, vj ((nC.toInt32).toInt64), v2, vr b22, vr b29, vi x8, vr b68, vi (nC.toInt32), vu, vu, vu] [(.ref b76), (.ref oa)])) rfl rfl (hb hby d3_324)
        refine gv st90 ?_
        have Z91 := Nat.le_trans Z86 (Nat.le_of_eq W90.size.symm)
        have K92 := K87.wr W90 (Or.inl (List.mem_of_getElem? (i := 0) rfl))
        obtain ⟨lc90, Xh90, N93⟩ := own_hide X90 (Fr.snoc X90 N37 ga)
        clear X90
        have Fw90 := F89.same W90
        refine gv (fun t k => XS.aloadN Xh90.here hx rfl (hb hby d3_327) rfl rfl k) ?_
        show Go p.tables e below P T90 (mkF m 328 #[vr oa, vi (nD.toInt32), vi (nB.toInt32), vi 1, vj ((nC.toInt32).toInt64), v2, vr b22, vr b29, vi x8, vr b68, vi (nC.toInt32), vu, vu, vu] [(.ref oa)])
        refine gv (fun t k => XS.iload Xh90.here hx rfl (hb hby d3_328) rfl k) ?_
        obtain ⟨T94, h94, k94, X94, e94, E94, A94, st94⟩ := newP Xh90 hx hZ (own_g hw 21 rfl) e90 (g := (mkF m 330 #[vr oa, vi (nD.toInt32), vi (nB.toInt32), vi 1, vj ((nC.toInt32).toInt64), v2, vr b22, vr b29, vi x8, vr b68, vi (nC.toInt32), vu, vu, vu] [(.int (nC.toInt32)), (.ref oa)])) rfl (hb hby d3_330) rfl (own_nneg sC) (cap := 10) (by rw [own_clamp sC]; exact hC10) (by decide) (by decide) (by decide)
        obtain ⟨b94, g94⟩ : ∃ z, z = h90.size := ⟨_, rfl⟩
        rw [← g94] at A94 st94
        refine gv st94 ?_
        have F96 := ((F78.ext E76).other W90 (Ne.symm (Nat.ne_of_lt (Nat.lt_of_lt_of_le P0.lt sz13))))
        have ne95 := Nat.ne_of_lt (Nat.lt_of_lt_of_le F96.lt (Nat.le_of_eq g94.symm))
        have F98 := ((F80.ext E76).other W90 (Ne.symm (Nat.ne_of_lt (Nat.lt_of_lt_of_le P0.lt sz26))))
        have ne97 := Nat.ne_of_lt (Nat.lt_of_lt_of_le F98.lt (Nat.le_of_eq g94.symm))
        have F100 := ((F82.ext E76).other W90 (Ne.symm (Nat.ne_of_lt (Nat.lt_of_lt_of_le P0.lt sz34))))
        have ne99 := Nat.ne_of_lt (Nat.lt_of_lt_of_le F100.lt (Nat.le_of_eq g94.symm))
        have F102 := ((V68.ext E76).other W90 (Ne.symm (Nat.ne_of_lt (Nat.lt_of_lt_of_le P0.lt sz73))))
        have ne101 := Nat.ne_of_lt (Nat.lt_of_lt_of_le F102.lt (Nat.le_of_eq g94.symm))
        have F104 := (V76.other W90 (Ne.symm (Nat.ne_of_lt (Nat.lt_of_lt_of_le P0.lt sz85))))
        have ne103 := Nat.ne_of_lt (Nat.lt_of_lt_of_le F104.lt (Nat.le_of_eq g94.symm))
        have g105 := Nat.le_trans Z91 (Nat.le_of_eq g94.symm)
        have sz106 := Nat.le_trans K92.1 (Nat.le_of_eq g94.symm)
        have Z107 := Nat.le_trans Z91 E94.1
        have K108 := K92.ext E94
        have V94 : Arv Z h94 b94 k94 .long (nC.toInt32) (List.replicate 10 (.long 0)) (.long 0) := (Arv.new A94 (own_nneg sC)).pad (pad_rep [] (.long 0) 10)
        have F109 := ((F88.wr W90).ext E94)
        have F110 := ((((F37_3.ext E68).ext E76).other W90 (Or.inr (own_sn1 hw))).ext E94)
        obtain ⟨T111, h111, X111, e111, W111, st111⟩ := putF X94 hx hZ hown (host := "") (Or.inl (own_g hw 33 rfl)) Via.refl e94 F110 F109 (Or.inr ⟨(own_g hw 34 rfl), rfl, hnm⟩) (own_g hw 10 rfl) (ty := (.array .long)) (by decide) rfl rfl (g := (mkF m 332 #[vr oa, vi (nD.toInt32), vi (nB.toInt32), vi 1, vj ((nC.toInt32).toInt64), v2, vr b22, vr b29, vi x8, vr b68, vi (nC.toInt32), vu, vu, vu] [(.ref b94), (.ref oa)])) rfl rfl (hb hby d3_332)
        refine gv st111 ?_
        have Z112 := Nat.le_trans Z107 (Nat.le_of_eq W111.size.symm)
        have K113 := K108.wr W111 (Or.inl (List.mem_of_getElem? (i := 0) rfl))
        obtain ⟨lc111, Xh111, N114⟩ := own_hide X111 (Fr.snoc X111 N93 ga)
        clear X111
        have Fw111 := F110.same W111
        refine gv (fun t k => XS.aloadN Xh111.here hx rfl (hb hby d3_335) rfl rfl k) ?_
        refine gv (fun t k => XS.iload Xh111.here hx rfl (hb hby d3_336) rfl k) ?_
        obtain ⟨T115, h115, k115, X115, e115, E115, A115, B115, O115, st115⟩ := newRA Xh111 hx hZ hown (ty := .int) (by decide) (own_g hw 35 rfl) (own_g hw 36 rfl) e111 (g := (mkF m 338 #[vr oa, vi (nD.toInt32), vi (nB.toInt32), vi 1, vj ((nC.toInt32).toInt64), v2, vr b22, vr b29, vi x8, vr b68, vi (nC.toInt32), vu, vu, vu] [(.int (nC.toInt32)), (.ref oa)])) rfl (hb hby d3_338) rfl (own_nneg sC) (cap := 10) (by rw [own_clamp sC]; exact hC10) (by decide) (by decide) (by decide) (ad := "[[I") (by decide)
        obtain ⟨b115, g115⟩ : ∃ z, z = h111.size := ⟨_, rfl⟩
        rw [← g115] at A115 B115 st115
        refine gv st115 ?_
        have F117 := ((F96.ext E94).other W111 (Ne.symm (Nat.ne_of_lt (Nat.lt_of_lt_of_le P0.lt sz13))))
        have ne116 := Nat.ne_of_lt (Nat.lt_of_lt_of_le F117.lt (Nat.le_of_eq g115.symm))
        have F119 := ((F98.ext E94).other W111 (Ne.symm (Nat.ne_of_lt (Nat.lt_of_lt_of_le P0.lt sz26))))
        have ne118 := Nat.ne_of_lt (Nat.lt_of_lt_of_le F119.lt (Nat.le_of_eq g115.symm))
        have F121 := ((F100.ext E94).other W111 (Ne.symm (Nat.ne_of_lt (Nat.lt_of_lt_of_le P0.lt sz34))))
        have ne120 := Nat.ne_of_lt (Nat.lt_of_lt_of_le F121.lt (Nat.le_of_eq g115.symm))
        have F123 := ((F102.ext E94).other W111 (Ne.symm (Nat.ne_of_lt (Nat.lt_of_lt_of_le P0.lt sz73))))
        have ne122 := Nat.ne_of_lt (Nat.lt_of_lt_of_le F123.lt (Nat.le_of_eq g115.symm))
        have F125 := ((F104.ext E94).other W111 (Ne.symm (Nat.ne_of_lt (Nat.lt_of_lt_of_le P0.lt sz85))))
        have ne124 := Nat.ne_of_lt (Nat.lt_of_lt_of_le F125.lt (Nat.le_of_eq g115.symm))
        have F127 := (V94.other W111 (Ne.symm (Nat.ne_of_lt (Nat.lt_of_lt_of_le P0.lt sz106))))
        have ne126 := Nat.ne_of_lt (Nat.lt_of_lt_of_le F127.lt (Nat.le_of_eq g115.symm))
        have g128 := Nat.le_trans Z112 (Nat.le_of_eq g115.symm)
        have sz129 := Nat.le_trans K113.1 (Nat.le_of_eq g115.symm)
        have Z130 := Nat.le_trans Z112 E115.1
        have K131 := K113.ext E115
        have V115 : Arv Z h115 b115 k115 (.array .int) (nC.toInt32) (List.replicate 10 .null) .null := (Arv.new A115 (own_nneg sC)).pad (pad_rep [] .null 10)
        have F132 := ((F109.wr W111).ext E115)
        have F133 := ((((((F37_4.ext E68).ext E76).other W90 (Or.inr (own_sn2 hw))).ext E94).other W111 (Or.inr (own_sn3 hw))).ext E115)
        obtain ⟨T134, h134, X134, e134, W134, st134⟩ := putF X115 hx hZ hown (host := "") (Or.inl (own_g hw 37 rfl)) Via.refl e115 F133 F132 (Or.inr ⟨(own_g hw 38 rfl), rfl, hnm⟩) (own_g hw 10 rfl) (ty := (.array (.array .int))) (by decide) rfl rfl (g := (mkF m 341 #[vr oa, vi (nD.toInt32), vi (nB.toInt32), vi 1, vj ((nC.toInt32).toInt64), v2, vr b22, vr b29, vi x8, vr b68, vi (nC.toInt32), vu, vu, vu] [(.ref b115), (.ref oa)])) rfl rfl (hb hby d3_341)
        refine gv st134 ?_
        have Z135 := Nat.le_trans Z130 (Nat.le_of_eq W134.size.symm)
        have K136 := K131.wr W134 (Or.inl (List.mem_of_getElem? (i := 0) rfl))
        obtain ⟨lc134, Xh134, N137⟩ := own_hide X134 (Fr.snoc X134 N114 ga)
        clear X134
        have Fw134 := F133.same W134
        refine gv (fun t k => XS.aloadN Xh134.here hx rfl (hb hby d3_344) rfl rfl k) ?_
        refine gv (fun t k => XS.iload Xh134.here hx rfl (hb hby d3_345) rfl k) ?_
        show Go p.tables e below P T134 (mkF m 347 #[vr oa, vi (nD.toInt32), vi (nB.toInt32), vi 1, vj ((nC.toInt32).toInt64), v2, vr b22, vr b29, vi x8, vr b68, vi (nC.toInt32), vu, vu, vu] [(.int (nC.toInt32)), (.ref oa)])
        obtain ⟨T138, h138, k138, X138, e138, E138, A138, B138, O138, st138⟩ := newRA Xh134 hx hZ hown (ty := .int) (by decide) (own_g hw 35 rfl) (own_g hw 36 rfl) e134 (g := (mkF m 347 #[vr oa, vi (nD.toInt32), vi (nB.toInt32), vi 1, vj ((nC.toInt32).toInt64), v2, vr b22, vr b29, vi x8, vr b68, vi (nC.toInt32), vu, vu, vu] [(.int (nC.toInt32)), (.ref oa)])) rfl (hb hby d3_347) rfl (own_nneg sC) (cap := 10) (by rw [own_clamp sC]; exact hC10) (by decide) (by decide) (by decide) (ad := "[[I") (by decide)
        obtain ⟨b138, g138⟩ : ∃ z, z = h134.size := ⟨_, rfl⟩
        rw [← g138] at A138 B138 st138
        refine gv st138 ?_
        have F140 := ((F117.ext E115).other W134 (Ne.symm (Nat.ne_of_lt (Nat.lt_of_lt_of_le P0.lt sz13))))
        have ne139 := Nat.ne_of_lt (Nat.lt_of_lt_of_le F140.lt (Nat.le_of_eq g138.symm))
        have F142 := ((F119.ext E115).other W134 (Ne.symm (Nat.ne_of_lt (Nat.lt_of_lt_of_le P0.lt sz26))))
        have ne141 := Nat.ne_of_lt (Nat.lt_of_lt_of_le F142.lt (Nat.le_of_eq g138.symm))
        have F144 := ((F121.ext E115).other W134 (Ne.symm (Nat.ne_of_lt (Nat.lt_of_lt_of_le P0.lt sz34))))
        have ne143 := Nat.ne_of_lt (Nat.lt_of_lt_of_le F144.lt (Nat.le_of_eq g138.symm))
        have F146 := ((F123.ext E115).other W134 (Ne.symm (Nat.ne_of_lt (Nat.lt_of_lt_of_le P0.lt sz73))))
        have ne145 := Nat.ne_of_lt (Nat.lt_of_lt_of_le F146.lt (Nat.le_of_eq g138.symm))
        have F148 := ((F125.ext E115).other W134 (Ne.symm (Nat.ne_of_lt (Nat.lt_of_lt_of_le P0.lt sz85))))
        have ne147 := Nat.ne_of_lt (Nat.lt_of_lt_of_le F148.lt (Nat.le_of_eq g138.symm))
        have F150 := ((F127.ext E115).other W134 (Ne.symm (Nat.ne_of_lt (Nat.lt_of_lt_of_le P0.lt sz106))))
        have ne149 := Nat.ne_of_lt (Nat.lt_of_lt_of_le F150.lt (Nat.le_of_eq g138.symm))
        have F152 := (V115.other W134 (Ne.symm (Nat.ne_of_lt (Nat.lt_of_lt_of_le P0.lt sz129))))
        have ne151 := Nat.ne_of_lt (Nat.lt_of_lt_of_le F152.lt (Nat.le_of_eq g138.symm))
        have g153 := Nat.le_trans Z135 (Nat.le_of_eq g138.symm)
        have sz154 := Nat.le_trans K136.1 (Nat.le_of_eq g138.symm)
        have Z155 := Nat.le_trans Z135 E138.1
        have K156 := K136.ext E138
        have V138 : Arv Z h138 b138 k138 (.array .int) (nC.toInt32) (List.replicate 10 .null) .null := (Arv.new A138 (own_nneg sC)).pad (pad_rep [] .null 10)
        have F157 := ((F132.wr W134).ext E138)
        have F158 := ((((((((F37_5.ext E68).ext E76).other W90 (Or.inr (own_sn4 hw))).ext E94).other W111 (Or.inr (own_sn5 hw))).ext E115).other W134 (Or.inr (own_sn6 hw))).ext E138)
        obtain ⟨T159, h159, X159, e159, W159, st159⟩ := putF X138 hx hZ hown (host := "") (Or.inl (own_g hw 39 rfl)) Via.refl e138 F158 F157 (Or.inr ⟨(own_g hw 40 rfl), rfl, hnm⟩) (own_g hw 10 rfl) (ty := (.array (.array .int))) (by decide) rfl rfl (g := (mkF m 350 #[vr oa, vi (nD.toInt32), vi (nB.toInt32), vi 1, vj ((nC.toInt32).toInt64), v2, vr b22, vr b29, vi x8, vr b68, vi (nC.toInt32), vu, vu, vu] [(.ref b138), (.ref oa)])) rfl rfl (hb hby d3_350)
        refine gv st159 ?_
        have Z160 := Nat.le_trans Z155 (Nat.le_of_eq W159.size.symm)
        have K161 := K156.wr W159 (Or.inl (List.mem_of_getElem? (i := 0) rfl))
        obtain ⟨lc159, Xh159, N162⟩ := own_hide X159 (Fr.snoc X159 N137 ga)
        clear X159
        have Fw159 := F158.same W159
        refine gv (fun t k => XS.aloadN Xh159.here hx rfl (hb hby d3_353) rfl rfl k) ?_
        refine gv (fun t k => XS.iload Xh159.here hx rfl (hb hby d3_354) rfl k) ?_
        obtain ⟨T163, h163, k163, X163, e163, E163, A163, B163, O163, st163⟩ := newRA Xh159 hx hZ hown (ty := .long) (by decide) (own_g hw 41 rfl) (own_g hw 42 rfl) e159 (g := (mkF m 356 #[vr oa, vi (nD.toInt32), vi (nB.toInt32), vi 1, vj ((nC.toInt32).toInt64), v2, vr b22, vr b29, vi x8, vr b68, vi (nC.toInt32), vu, vu, vu] [(.int (nC.toInt32)), (.ref oa)])) rfl (hb hby d3_356) rfl (own_nneg sC) (cap := 10) (by rw [own_clamp sC]; exact hC10) (by decide) (by decide) (by decide) (ad := "[[J") (by decide)
        obtain ⟨b163, g163⟩ : ∃ z, z = h159.size := ⟨_, rfl⟩
        rw [← g163] at A163 B163 st163
        refine gv st163 ?_
        have F165 := ((F140.ext E138).other W159 (Ne.symm (Nat.ne_of_lt (Nat.lt_of_lt_of_le P0.lt sz13))))
        have ne164 := Nat.ne_of_lt (Nat.lt_of_lt_of_le F165.lt (Nat.le_of_eq g163.symm))
        have F167 := ((F142.ext E138).other W159 (Ne.symm (Nat.ne_of_lt (Nat.lt_of_lt_of_le P0.lt sz26))))
        have ne166 := Nat.ne_of_lt (Nat.lt_of_lt_of_le F167.lt (Nat.le_of_eq g163.symm))
        have F169 := ((F144.ext E138).other W159 (Ne.symm (Nat.ne_of_lt (Nat.lt_of_lt_of_le P0.lt sz34))))
        have ne168 := Nat.ne_of_lt (Nat.lt_of_lt_of_le F169.lt (Nat.le_of_eq g163.symm))
        have F171 := ((F146.ext E138).other W159 (Ne.symm (Nat.ne_of_lt (Nat.lt_of_lt_of_le P0.lt sz73))))
        have ne170 := Nat.ne_of_lt (Nat.lt_of_lt_of_le F171.lt (Nat.le_of_eq g163.symm))
        have F173 := ((F148.ext E138).other W159 (Ne.symm (Nat.ne_of_lt (Nat.lt_of_lt_of_le P0.lt sz85))))
        have ne172 := Nat.ne_of_lt (Nat.lt_of_lt_of_le F173.lt (Nat.le_of_eq g163.symm))
        have F175 := ((F150.ext E138).other W159 (Ne.symm (Nat.ne_of_lt (Nat.lt_of_lt_of_le P0.lt sz106))))
        have ne174 := Nat.ne_of_lt (Nat.lt_of_lt_of_le F175.lt (Nat.le_of_eq g163.symm))
        have F177 := ((F152.ext E138).other W159 (Ne.symm (Nat.ne_of_lt (Nat.lt_of_lt_of_le P0.lt sz129))))
        have ne176 := Nat.ne_of_lt (Nat.lt_of_lt_of_le F177.lt (Nat.le_of_eq g163.symm))
        have F179 := (V138.other W159 (Ne.symm (Nat.ne_of_lt (Nat.lt_of_lt_of_le P0.lt sz154))))
        have ne178 := Nat.ne_of_lt (Nat.lt_of_lt_of_le F179.lt (Nat.le_of_eq g163.symm))
        have g180 := Nat.le_trans Z160 (Nat.le_of_eq g163.symm)
        have sz181 := Nat.le_trans K161.1 (Nat.le_of_eq g163.symm)
        have Z182 := Nat.le_trans Z160 E163.1
        have K183 := K161.ext E163
        have V163 : Arv Z h163 b163 k163 (.array .long) (nC.toInt32) (List.replicate 10 .null) .null := (Arv.new A163 (own_nneg sC)).pad (pad_rep [] .null 10)
        have F184 := ((F157.wr W159).ext E163)
        have F185 := ((((((((((F37_7.ext E68).ext E76).other W90 (Or.inr (own_sn7 hw))).ext E94).other W111 (Or.inr (own_sn8 hw))).ext E115).other W134 (Or.inr (own_sn9 hw))).ext E138).other W159 (Or.inr (own_sn10 hw))).ext E163)
        obtain ⟨T186, h186, X186, e186, W186, st186⟩ := putF X163 hx hZ hown (host := "") (Or.inl (own_g hw 43 rfl)) Via.refl e163 F185 F184 (Or.inr ⟨(own_g hw 44 rfl), rfl, hnm⟩) (own_g hw 10 rfl) (ty := (.array (.array .long))) (by decide) rfl rfl (g := (mkF m 359 #[vr oa, vi (nD.toInt32), vi (nB.toInt32), vi 1, vj ((nC.toInt32).toInt64), v2, vr b22, vr b29, vi x8, vr b68, vi (nC.toInt32), vu, vu, vu] [(.ref b163), (.ref oa)])) rfl rfl (hb hby d3_359)
        refine gv st186 ?_
        have Z187 := Nat.le_trans Z182 (Nat.le_of_eq W186.size.symm)
        have K188 := K183.wr W186 (Or.inl (List.mem_of_getElem? (i := 0) rfl))
        obtain ⟨lc186, Xh186, N189⟩ := own_hide X186 (Fr.snoc X186 N162 ga)
        clear X186
        have Fw186 := F185.same W186
        refine gv (fun t k => XS.aloadN Xh186.here hx rfl (hb hby d3_362) rfl rfl k) ?_
        refine gv (fun t k => XS.iload Xh186.here hx rfl (hb hby d3_363) rfl k) ?_
        obtain ⟨T190, h190, k190, X190, e190, E190, A190, st190⟩ := newP Xh186 hx hZ (own_g hw 21 rfl) e186 (g := (mkF m 365 #[vr oa, vi (nD.toInt32), vi (nB.toInt32), vi 1, vj ((nC.toInt32).toInt64), v2, vr b22, vr b29, vi x8, vr b68, vi (nC.toInt32), vu, vu, vu] [(.int (nC.toInt32)), (.ref oa)])) rfl (hb hby d3_365) rfl (own_nneg sC) (cap := 10) (by rw [own_clamp sC]; exact hC10) (by decide) (by decide) (by decide)
        obtain ⟨b190, g190⟩ : ∃ z, z = h186.size := ⟨_, rfl⟩
        rw [← g190] at A190 st190
        refine gv st190 ?_
        have F192 := ((F165.ext E163).other W186 (Ne.symm (Nat.ne_of_lt (Nat.lt_of_lt_of_le P0.lt sz13))))
        have ne191 := Nat.ne_of_lt (Nat.lt_of_lt_of_le F192.lt (Nat.le_of_eq g190.symm))
        have F194 := ((F167.ext E163).other W186 (Ne.symm (Nat.ne_of_lt (Nat.lt_of_lt_of_le P0.lt sz26))))
        have ne193 := Nat.ne_of_lt (Nat.lt_of_lt_of_le F194.lt (Nat.le_of_eq g190.symm))
        have F196 := ((F169.ext E163).other W186 (Ne.symm (Nat.ne_of_lt (Nat.lt_of_lt_of_le P0.lt sz34))))
        have ne195 := Nat.ne_of_lt (Nat.lt_of_lt_of_le F196.lt (Nat.le_of_eq g190.symm))
        have F198 := ((F171.ext E163).other W186 (Ne.symm (Nat.ne_of_lt (Nat.lt_of_lt_of_le P0.lt sz73))))
        have ne197 := Nat.ne_of_lt (Nat.lt_of_lt_of_le F198.lt (Nat.le_of_eq g190.symm))
        have F200 := ((F173.ext E163).other W186 (Ne.symm (Nat.ne_of_lt (Nat.lt_of_lt_of_le P0.lt sz85))))
        have ne199 := Nat.ne_of_lt (Nat.lt_of_lt_of_le F200.lt (Nat.le_of_eq g190.symm))
        have F202 := ((F175.ext E163).other W186 (Ne.symm (Nat.ne_of_lt (Nat.lt_of_lt_of_le P0.lt sz106))))
        have ne201 := Nat.ne_of_lt (Nat.lt_of_lt_of_le F202.lt (Nat.le_of_eq g190.symm))
        have F204 := ((F177.ext E163).other W186 (Ne.symm (Nat.ne_of_lt (Nat.lt_of_lt_of_le P0.lt sz129))))
        have ne203 := Nat.ne_of_lt (Nat.lt_of_lt_of_le F204.lt (Nat.le_of_eq g190.symm))
        have F206 := ((F179.ext E163).other W186 (Ne.symm (Nat.ne_of_lt (Nat.lt_of_lt_of_le P0.lt sz154))))
        have ne205 := Nat.ne_of_lt (Nat.lt_of_lt_of_le F206.lt (Nat.le_of_eq g190.symm))
        have F208 := (V163.other W186 (Ne.symm (Nat.ne_of_lt (Nat.lt_of_lt_of_le P0.lt sz181))))
        have ne207 := Nat.ne_of_lt (Nat.lt_of_lt_of_le F208.lt (Nat.le_of_eq g190.symm))
        have g209 := Nat.le_trans Z187 (Nat.le_of_eq g190.symm)
        have sz210 := Nat.le_trans K188.1 (Nat.le_of_eq g190.symm)
        have Z211 := Nat.le_trans Z187 E190.1
        have K212 := K188.ext E190
        have V190 : Arv Z h190 b190 k190 .long (nC.toInt32) (List.replicate 10 (.long 0)) (.long 0) := (Arv.new A190 (own_nneg sC)).pad (pad_rep [] (.long 0) 10)
        show Go p.tables e below P T190 (mkF m 367 #[vr oa, vi (nD.toInt32), vi (nB.toInt32), vi 1, vj ((nC.toInt32).toInt64), v2, vr b22, vr b29, vi x8, vr b68, vi (nC.toInt32), vu, vu, vu] [(.ref b190), (.ref oa)])
        have F213 := ((F184.wr W186).ext E190)
        have F214 := ((((((((((((F37_8.ext E68).ext E76).other W90 (Or.inr (own_sn11 hw))).ext E94).other W111 (Or.inr (own_sn12 hw))).ext E115).other W134 (Or.inr (own_sn13 hw))).ext E138).other W159 (Or.inr (own_sn14 hw))).ext E163).other W186 (Or.inr (own_sn15 hw))).ext E190)
        obtain ⟨T215, h215, X215, e215, W215, st215⟩ := putF X190 hx hZ hown (host := "") (Or.inl (own_g hw 45 rfl)) Via.refl e190 F214 F213 (Or.inr ⟨(own_g hw 46 rfl), rfl, hnm⟩) (own_g hw 10 rfl) (ty := (.array .long)) (by decide) rfl rfl (g := (mkF m 367 #[vr oa, vi (nD.toInt32), vi (nB.toInt32), vi 1, vj ((nC.toInt32).toInt64), v2, vr b22, vr b29, vi x8, vr b68, vi (nC.toInt32), vu, vu, vu] [(.ref b190), (.ref oa)])) rfl rfl (hb hby d3_367)
        refine gv st215 ?_
        have Z216 := Nat.le_trans Z211 (Nat.le_of_eq W215.size.symm)
        have K217 := K212.wr W215 (Or.inl (List.mem_of_getElem? (i := 0) rfl))
        obtain ⟨lc215, Xh215, N218⟩ := own_hide X215 (Fr.snoc X215 N189 ga)
        clear X215
        have Fw215 := F214.same W215
        refine gv (fun t k => XS.aloadN Xh215.here hx rfl (hb hby d3_370) rfl rfl k) ?_
        refine gv (fun t k => XS.iload Xh215.here hx rfl (hb hby d3_371) rfl k) ?_
        obtain ⟨T219, h219, k219, X219, e219, E219, A219, st219⟩ := newP Xh215 hx hZ (own_g hw 21 rfl) e215 (g := (mkF m 373 #[vr oa, vi (nD.toInt32), vi (nB.toInt32), vi 1, vj ((nC.toInt32).toInt64), v2, vr b22, vr b29, vi x8, vr b68, vi (nC.toInt32), vu, vu, vu] [(.int (nC.toInt32)), (.ref oa)])) rfl (hb hby d3_373) rfl (own_nneg sC) (cap := 10) (by rw [own_clamp sC]; exact hC10) (by decide) (by decide) (by decide)
        obtain ⟨b219, g219⟩ : ∃ z, z = h215.size := ⟨_, rfl⟩
        rw [← g219] at A219 st219
        refine gv st219 ?_
        have F221 := ((F192.ext E190).other W215 (Ne.symm (Nat.ne_of_lt (Nat.lt_of_lt_of_le P0.lt sz13))))
        have ne220 := Nat.ne_of_lt (Nat.lt_of_lt_of_le F221.lt (Nat.le_of_eq g219.symm))
        have F223 := ((F194.ext E190).other W215 (Ne.symm (Nat.ne_of_lt (Nat.lt_of_lt_of_le P0.lt sz26))))
        have ne222 := Nat.ne_of_lt (Nat.lt_of_lt_of_le F223.lt (Nat.le_of_eq g219.symm))
        have F225 := ((F196.ext E190).other W215 (Ne.symm (Nat.ne_of_lt (Nat.lt_of_lt_of_le P0.lt sz34))))
        have ne224 := Nat.ne_of_lt (Nat.lt_of_lt_of_le F225.lt (Nat.le_of_eq g219.symm))
        have F227 := ((F198.ext E190).other W215 (Ne.symm (Nat.ne_of_lt (Nat.lt_of_lt_of_le P0.lt sz73))))
        have ne226 := Nat.ne_of_lt (Nat.lt_of_lt_of_le F227.lt (Nat.le_of_eq g219.symm))
        have F229 := ((F200.ext E190).other W215 (Ne.symm (Nat.ne_of_lt (Nat.lt_of_lt_of_le P0.lt sz85))))
        have ne228 := Nat.ne_of_lt (Nat.lt_of_lt_of_le F229.lt (Nat.le_of_eq g219.symm))
        have F231 := ((F202.ext E190).other W215 (Ne.symm (Nat.ne_of_lt (Nat.lt_of_lt_of_le P0.lt sz106))))
        have ne230 := Nat.ne_of_lt (Nat.lt_of_lt_of_le F231.lt (Nat.le_of_eq g219.symm))
        have F233 := ((F204.ext E190).other W215 (Ne.symm (Nat.ne_of_lt (Nat.lt_of_lt_of_le P0.lt sz129))))
        have ne232 := Nat.ne_of_lt (Nat.lt_of_lt_of_le F233.lt (Nat.le_of_eq g219.symm))
        have F235 := ((F206.ext E190).other W215 (Ne.symm (Nat.ne_of_lt (Nat.lt_of_lt_of_le P0.lt sz154))))
        have ne234 := Nat.ne_of_lt (Nat.lt_of_lt_of_le F235.lt (Nat.le_of_eq g219.symm))
        have F237 := ((F208.ext E190).other W215 (Ne.symm (Nat.ne_of_lt (Nat.lt_of_lt_of_le P0.lt sz181))))
        have ne236 := Nat.ne_of_lt (Nat.lt_of_lt_of_le F237.lt (Nat.le_of_eq g219.symm))
        have F239 := (V190.other W215 (Ne.symm (Nat.ne_of_lt (Nat.lt_of_lt_of_le P0.lt sz210))))
        have ne238 := Nat.ne_of_lt (Nat.lt_of_lt_of_le F239.lt (Nat.le_of_eq g219.symm))
        have g240 := Nat.le_trans Z216 (Nat.le_of_eq g219.symm)
        have sz241 := Nat.le_trans K217.1 (Nat.le_of_eq g219.symm)
        have Z242 := Nat.le_trans Z216 E219.1
        have K243 := K217.ext E219
        have V219 : Arv Z h219 b219 k219 .long (nC.toInt32) (List.replicate 10 (.long 0)) (.long 0) := (Arv.new A219 (own_nneg sC)).pad (pad_rep [] (.long 0) 10)
        have F244 := ((F213.wr W215).ext E219)
        have F245 := ((((((((((((((F37_9.ext E68).ext E76).other W90 (Or.inr (own_sn16 hw))).ext E94).other W111 (Or.inr (own_sn17 hw))).ext E115).other W134 (Or.inr (own_sn18 hw))).ext E138).other W159 (Or.inr (own_sn19 hw))).ext E163).other W186 (Or.inr (own_sn20 hw))).ext E190).other W215 (Or.inr (own_sn21 hw))).ext E219)
        obtain ⟨T246, h246, X246, e246, W246, st246⟩ := putF X219 hx hZ hown (host := "") (Or.inl (own_g hw 47 rfl)) Via.refl e219 F245 F244 (Or.inr ⟨(own_g hw 48 rfl), rfl, hnm⟩) (own_g hw 10 rfl) (ty := (.array .long)) (by decide) rfl rfl (g := (mkF m 375 #[vr oa, vi (nD.toInt32), vi (nB.toInt32), vi 1, vj ((nC.toInt32).toInt64), v2, vr b22, vr b29, vi x8, vr b68, vi (nC.toInt32), vu, vu, vu] [(.ref b219), (.ref oa)])) rfl rfl (hb hby d3_375)
        refine gv st246 ?_
        have Z247 := Nat.le_trans Z242 (Nat.le_of_eq W246.size.symm)
        have K248 := K243.wr W246 (Or.inl (List.mem_of_getElem? (i := 0) rfl))
        obtain ⟨lc246, Xh246, N249⟩ := own_hide X246 (Fr.snoc X246 N218 ga)
        clear X246
        have Fw246 := F245.same W246
        refine gv (fun t k => XS.aloadN Xh246.here hx rfl (hb hby d3_378) rfl rfl k) ?_
        refine gv (fun t k => XS.iload Xh246.here hx rfl (hb hby d3_379) rfl k) ?_
        obtain ⟨T250, h250, k250, X250, e250, E250, A250, B250, O250, st250⟩ := newRA Xh246 hx hZ hown (ty := .int) (by decide) (own_g hw 35 rfl) (own_g hw 36 rfl) e246 (g := (mkF m 381 #[vr oa, vi (nD.toInt32), vi (nB.toInt32), vi 1, vj ((nC.toInt32).toInt64), v2, vr b22, vr b29, vi x8, vr b68, vi (nC.toInt32), vu, vu, vu] [(.int (nC.toInt32)), (.ref oa)])) rfl (hb hby d3_381) rfl (own_nneg sC) (cap := 10) (by rw [own_clamp sC]; exact hC10) (by decide) (by decide) (by decide) (ad := "[[I") (by decide)
        obtain ⟨b250, g250⟩ : ∃ z, z = h246.size := ⟨_, rfl⟩
        rw [← g250] at A250 B250 st250
        refine gv st250 ?_
        have F252 := ((F221.ext E219).other W246 (Ne.symm (Nat.ne_of_lt (Nat.lt_of_lt_of_le P0.lt sz13))))
        have ne251 := Nat.ne_of_lt (Nat.lt_of_lt_of_le F252.lt (Nat.le_of_eq g250.symm))
        have F254 := ((F223.ext E219).other W246 (Ne.symm (Nat.ne_of_lt (Nat.lt_of_lt_of_le P0.lt sz26))))
        have ne253 := Nat.ne_of_lt (Nat.lt_of_lt_of_le F254.lt (Nat.le_of_eq g250.symm))
        have F256 := ((F225.ext E219).other W246 (Ne.symm (Nat.ne_of_lt (Nat.lt_of_lt_of_le P0.lt sz34))))
        have ne255 := Nat.ne_of_lt (Nat.lt_of_lt_of_le F256.lt (Nat.le_of_eq g250.symm))
        have F258 := ((F227.ext E219).other W246 (Ne.symm (Nat.ne_of_lt (Nat.lt_of_lt_of_le P0.lt sz73))))
        have ne257 := Nat.ne_of_lt (Nat.lt_of_lt_of_le F258.lt (Nat.le_of_eq g250.symm))
        have F260 := ((F229.ext E219).other W246 (Ne.symm (Nat.ne_of_lt (Nat.lt_of_lt_of_le P0.lt sz85))))
        have ne259 := Nat.ne_of_lt (Nat.lt_of_lt_of_le F260.lt (Nat.le_of_eq g250.symm))
        have F262 := ((F231.ext E219).other W246 (Ne.symm (Nat.ne_of_lt (Nat.lt_of_lt_of_le P0.lt sz106))))
        have ne261 := Nat.ne_of_lt (Nat.lt_of_lt_of_le F262.lt (Nat.le_of_eq g250.symm))
        have F264 := ((F233.ext E219).other W246 (Ne.symm (Nat.ne_of_lt (Nat.lt_of_lt_of_le P0.lt sz129))))
        have ne263 := Nat.ne_of_lt (Nat.lt_of_lt_of_le F264.lt (Nat.le_of_eq g250.symm))
        have F266 := ((F235.ext E219).other W246 (Ne.symm (Nat.ne_of_lt (Nat.lt_of_lt_of_le P0.lt sz154))))
        have ne265 := Nat.ne_of_lt (Nat.lt_of_lt_of_le F266.lt (Nat.le_of_eq g250.symm))
        have F268 := ((F237.ext E219).other W246 (Ne.symm (Nat.ne_of_lt (Nat.lt_of_lt_of_le P0.lt sz181))))
        have ne267 := Nat.ne_of_lt (Nat.lt_of_lt_of_le F268.lt (Nat.le_of_eq g250.symm))
        have F270 := ((F239.ext E219).other W246 (Ne.symm (Nat.ne_of_lt (Nat.lt_of_lt_of_le P0.lt sz210))))
        have ne269 := Nat.ne_of_lt (Nat.lt_of_lt_of_le F270.lt (Nat.le_of_eq g250.symm))
        have F272 := (V219.other W246 (Ne.symm (Nat.ne_of_lt (Nat.lt_of_lt_of_le P0.lt sz241))))
        have ne271 := Nat.ne_of_lt (Nat.lt_of_lt_of_le F272.lt (Nat.le_of_eq g250.symm))
        have g273 := Nat.le_trans Z247 (Nat.le_of_eq g250.symm)
        have sz274 := Nat.le_trans K248.1 (Nat.le_of_eq g250.symm)
        have Z275 := Nat.le_trans Z247 E250.1
        have K276 := K248.ext E250
        have V250 : Arv Z h250 b250 k250 (.array .int) (nC.toInt32) (List.replicate 10 .null) .null := (Arv.new A250 (own_nneg sC)).pad (pad_rep [] .null 10)
        have F277 := ((F244.wr W246).ext E250)
        have F278 := ((((((((((((((((F37_10.ext E68).ext E76).other W90 (Or.inr (own_sn22 hw))).ext E94).other W111 (Or.inr (own_sn23 hw))).ext E115).other W134 (Or.inr (own_sn24 hw))).ext E138).other W159 (Or.inr (own_sn25 hw))).ext E163).other W186 (Or.inr (own_sn26 hw))).ext E190).other W215 (Or.inr (own_sn27 hw))).ext E219).other W246 (Or.inr (own_sn28 hw))).ext E250)
        obtain ⟨T279, h279, X279, e279, W279, st279⟩ := putF X250 hx hZ hown (host := "") (Or.inl (own_g hw 49 rfl)) Via.refl e250 F278 F277 (Or.inr ⟨(own_g hw 50 rfl), rfl, hnm⟩) (own_g hw 10 rfl) (ty := (.array (.array .int))) (by decide) rfl rfl (g := (mkF m 384 #[vr oa, vi (nD.toInt32), vi (nB.toInt32), vi 1, vj ((nC.toInt32).toInt64), v2, vr b22, vr b29, vi x8, vr b68, vi (nC.toInt32), vu, vu, vu] [(.ref b250), (.ref oa)])) rfl rfl (hb hby d3_384)
        refine gv st279 ?_
        have Z280 := Nat.le_trans Z275 (Nat.le_of_eq W279.size.symm)
        have K281 := K276.wr W279 (Or.inl (List.mem_of_getElem? (i := 0) rfl))
        obtain ⟨lc279, Xh279, N282⟩ := own_hide X279 (Fr.snoc X279 N249 ga)
        clear X279
        have Fw279 := F278.same W279
        show Go p.tables e below P T279 (mkF m 387 #[vr oa, vi (nD.toInt32), vi (nB.toInt32), vi 1, vj ((nC.toInt32).toInt64), v2, vr b22, vr b29, vi x8, vr b68, vi (nC.toInt32), vu, vu, vu] [])
        refine gv (fun t k => XS.iloadN Xh279.here hx rfl (hb hby d3_387) rfl k) ?_
        refine gv (fun t k => XS.ifNo Xh279.here hx rfl (hb hby d3_388) rfl ((if0 _ _).trans (feq (by decide : ¬ ((1 : Int32) = (0 : Int32)))).1) k) ?_
        refine gv (fun t k => XS.iloadN Xh279.here hx rfl (hb hby d3_391) rfl k) ?_
        refine gv (fun t k => XS.iloadN Xh279.here hx rfl (hb hby d3_392) rfl k) ?_
        refine gv (fun t k => XS.isub Xh279.here hx rfl (hb hby d3_393) rfl k) ?_
        refine gv (fun t k => XS.goto Xh279.here hx rfl (pc0 := 394) (pc' := 398) rfl (hb hby d3_394) (by decide) (by decide) k) ?_
        show Go p.tables e below P T279 (mkF m 398 #[vr oa, vi (nD.toInt32), vi (nB.toInt32), vi 1, vj ((nC.toInt32).toInt64), v2, vr b22, vr b29, vi x8, vr b68, vi (nC.toInt32), vu, vu, vu] [(.int ((nB.toInt32) - (nD.toInt32)))])
        rw [show nB.toInt32 - nD.toInt32 = nc.toInt32 from own_subN hncD]
        obtain ⟨T283, h283, k283, X283, e283, E283, A283, st283⟩ := newP Xh279 hx hZ (own_g hw 1 rfl) e279 (g := (mkF m 398 #[vr oa, vi (nD.toInt32), vi (nB.toInt32), vi 1, vj ((nC.toInt32).toInt64), v2, vr b22, vr b29, vi x8, vr b68, vi (nC.toInt32), vu, vu, vu] [(.int (nc.toInt32))])) rfl (hb hby d3_398) rfl (own_nneg sc) (cap := 3) (by rw [own_clamp sc]; exact hnc3) (by decide) (by decide) (by decide)
        obtain ⟨b283, g283⟩ : ∃ z, z = h279.size := ⟨_, rfl⟩
        rw [← g283] at A283 st283
        refine gv st283 ?_
        have F285 := ((F252.ext E250).other W279 (Ne.symm (Nat.ne_of_lt (Nat.lt_of_lt_of_le P0.lt sz13))))
        have ne284 := Nat.ne_of_lt (Nat.lt_of_lt_of_le F285.lt (Nat.le_of_eq g283.symm))
        have F287 := ((F254.ext E250).other W279 (Ne.symm (Nat.ne_of_lt (Nat.lt_of_lt_of_le P0.lt sz26))))
        have ne286 := Nat.ne_of_lt (Nat.lt_of_lt_of_le F287.lt (Nat.le_of_eq g283.symm))
        have F289 := ((F256.ext E250).other W279 (Ne.symm (Nat.ne_of_lt (Nat.lt_of_lt_of_le P0.lt sz34))))
        have ne288 := Nat.ne_of_lt (Nat.lt_of_lt_of_le F289.lt (Nat.le_of_eq g283.symm))
        have F291 := ((F258.ext E250).other W279 (Ne.symm (Nat.ne_of_lt (Nat.lt_of_lt_of_le P0.lt sz73))))
        have ne290 := Nat.ne_of_lt (Nat.lt_of_lt_of_le F291.lt (Nat.le_of_eq g283.symm))
        have F293 := ((F260.ext E250).other W279 (Ne.symm (Nat.ne_of_lt (Nat.lt_of_lt_of_le P0.lt sz85))))
        have ne292 := Nat.ne_of_lt (Nat.lt_of_lt_of_le F293.lt (Nat.le_of_eq g283.symm))
        have F295 := ((F262.ext E250).other W279 (Ne.symm (Nat.ne_of_lt (Nat.lt_of_lt_of_le P0.lt sz106))))
        have ne294 := Nat.ne_of_lt (Nat.lt_of_lt_of_le F295.lt (Nat.le_of_eq g283.symm))
        have F297 := ((F264.ext E250).other W279 (Ne.symm (Nat.ne_of_lt (Nat.lt_of_lt_of_le P0.lt sz129))))
        have ne296 := Nat.ne_of_lt (Nat.lt_of_lt_of_le F297.lt (Nat.le_of_eq g283.symm))
        have F299 := ((F266.ext E250).other W279 (Ne.symm (Nat.ne_of_lt (Nat.lt_of_lt_of_le P0.lt sz154))))
        have ne298 := Nat.ne_of_lt (Nat.lt_of_lt_of_le F299.lt (Nat.le_of_eq g283.symm))
        have F301 := ((F268.ext E250).other W279 (Ne.symm (Nat.ne_of_lt (Nat.lt_of_lt_of_le P0.lt sz181))))
        have ne300 := Nat.ne_of_lt (Nat.lt_of_lt_of_le F301.lt (Nat.le_of_eq g283.symm))
        have F303 := ((F270.ext E250).other W279 (Ne.symm (Nat.ne_of_lt (Nat.lt_of_lt_of_le P0.lt sz210))))
        have ne302 := Nat.ne_of_lt (Nat.lt_of_lt_of_le F303.lt (Nat.le_of_eq g283.symm))
        have F305 := ((F272.ext E250).other W279 (Ne.symm (Nat.ne_of_lt (Nat.lt_of_lt_of_le P0.lt sz241))))
        have ne304 := Nat.ne_of_lt (Nat.lt_of_lt_of_le F305.lt (Nat.le_of_eq g283.symm))
        have F307 := (V250.other W279 (Ne.symm (Nat.ne_of_lt (Nat.lt_of_lt_of_le P0.lt sz274))))
        have ne306 := Nat.ne_of_lt (Nat.lt_of_lt_of_le F307.lt (Nat.le_of_eq g283.symm))
        have g308 := Nat.le_trans Z280 (Nat.le_of_eq g283.symm)
        have sz309 := Nat.le_trans K281.1 (Nat.le_of_eq g283.symm)
        have Z310 := Nat.le_trans Z280 E283.1
        have K311 := K281.ext E283
        have V283 : Arv Z h283 b283 k283 .int (nc.toInt32) [(.int 0), (.int 0), (.int 0)] (.int 0) := (Arv.new A283 (own_nneg sc)).pad (pad_rep [] (.int 0) 3)
        refine gv (fun t k => XS.astore X283.here hx rfl (hb hby d3_400) rfl rfl (l' := #[vr oa, vi (nD.toInt32), vi (nB.toInt32), vi 1, vj ((nC.toInt32).toInt64), v2, vr b22, vr b29, vi x8, vr b68, vi (nC.toInt32), vr b283, vu, vu]) rfl k) ?_
        refine gv (fun t k => XS.iconst X283.here hx rfl (hb hby d3_402) k) ?_
        refine gv (fun t k => XS.istore X283.here hx rfl (hb hby d3_403) rfl (l' := #[vr oa, vi (nD.toInt32), vi (nB.toInt32), vi 1, vj ((nC.toInt32).toInt64), v2, vr b22, vr b29, vi x8, vr b68, vi (nC.toInt32), vr b283, vi 0, vu]) rfl k) ?_
        have LP312 : ∀ (k312 : Nat) (T312 : State) (locs312 : List Loc) (hp312 : Heap) (i : Nat) (x12 : Int32), Stand p l e ({ frames := 4, cells := 102, slots := 1136, locals := 97 } : Room) s m #[(.ref oa), (.int (nD.toInt32)), (.int (nB.toInt32))] below meth c T312 locs312 14 168 → T312.heap = hp312 → Fr n0 locs312 → n0 ≤ hp312.size → Keep h0 hp312 [oa] → Exa Z hp312 oa BLn → Fld Z hp312 oa BLn "distance" "I" (.int (nD.toInt32)) → Fld Z hp312 oa BLn "widths" "[I" (.ref b11) → Fld Z hp312 oa BLn "keyMasks" "[J" (.ref b94) → Fld Z hp312 oa BLn "runShifts" "[[I" (.ref b115) → Fld Z hp312 oa BLn "runWidths" "[[I" (.ref b138) → Fld Z hp312 oa BLn "radii" "[I" (.ref b76) → Fld Z hp312 oa BLn "keyDifferences" "[[J" (.ref b163) → Fld Z hp312 oa BLn "skippedTops" "[J" (.ref b190) → Fld Z hp312 oa BLn "skippedLows" "[J" (.ref b219) → Fld Z hp312 oa BLn "earlierWithRadius" "[[I" (.ref b250) → Arv Z hp312 b11 k11 .int (nB.toInt32) ((own_wl (nB.toInt32) nB).map Value.int) (.int 0) → Arv Z hp312 b22 k22 .long (nB.toInt32) ((own_ml (nB.toInt32) nB).map Value.long) (.long 0) → Arv Z hp312 b29 k29 .int (nB.toInt32) ((own_sl (nB.toInt32) nB).map Value.int) (.int 0) → Arv Z hp312 b68 k68 .int (nB.toInt32) (List.replicate 5 (.int 0)) (.int 0) → Arv Z hp312 b76 k76 .int (nC.toInt32) (List.replicate 10 (.int 0)) (.int 0) → Arv Z hp312 b94 k94 .long (nC.toInt32) (List.replicate 10 (.long 0)) (.long 0) → Arv Z hp312 b115 k115 (.array .int) (nC.toInt32) (List.replicate 10 .null) .null → Arv Z hp312 b138 k138 (.array .int) (nC.toInt32) (List.replicate 10 .null) .null → Arv Z hp312 b163 k163 (.array .long) (nC.toInt32) (List.replicate 10 .null) .null → Arv Z hp312 b190 k190 .long (nC.toInt32) (List.replicate 10 (.long 0)) (.long 0) → Arv Z hp312 b219 k219 .long (nC.toInt32) (List.replicate 10 (.long 0)) (.long 0) → Arv Z hp312 b250 k250 (.array .int) (nC.toInt32) (List.replicate 10 .null) .null → Arv Z hp312 b283 k283 .int (nc.toInt32) ((own_c0 i).map Value.int) (.int 0) → i ≤ nc → x12 = i.toInt32 → nc - i < k312 → Go p.tables e below P T312 (mkF m 405 #[.val (.ref oa), .val (.int (nD.toInt32)), .val (.int (nB.toInt32)), .val (.int 1), .val (.long ((nC.toInt32).toInt64)), .second, .val (.ref b22), .val (.ref b29), .val (.int x8), .val (.ref b68), .val (.int (nC.toInt32)), .val (.ref b283), .val (.int x12), .unset] []) := by
          intro k312
          induction k312 with
          | zero => intros; rename_i hk; exact absurd hk (Nat.not_lt_zero _)
          | succ k312 ih312 =>
            intro T312 locs312 hp312 i x12 X312 e312 N312 Z312 K312 F312_0 F312_1 F312_2 F312_3 F312_4 F312_5 F312_6 F312_7 F312_8 F312_9 F312_10 F312_11 F312_12 F312_13 F312_14 F312_15 F312_16 F312_17 F312_18 F312_19 F312_20 F312_21 F312_22 F312_23 hi hx12 hk
            show Go p.tables e below P T312 (mkF m 405 #[vr oa, vi (nD.toInt32), vi (nB.toInt32), vi 1, vj ((nC.toInt32).toInt64), v2, vr b22, vr b29, vi x8, vr b68, vi (nC.toInt32), vr b283, vi x12, vu] [])
            refine gv (fun t k => XS.iload X312.here hx rfl (hb hby d3_405) rfl k) ?_
            refine gv (fun t k => XS.aload X312.here hx rfl (hb hby d3_407) rfl rfl k) ?_
            obtain ⟨c313, A313, -, S313, N313, -, -⟩ := id F312_23
            refine gv (fun t k => X312.arraylength hx (by rw [e312]; exact A313.1) (State.isArrayOf_alike hZ.alike A313.2.1) (g := (mkF m 409 #[vr oa, vi (nD.toInt32), vi (nB.toInt32), vi 1, vj ((nC.toInt32).toInt64), v2, vr b22, vr b29, vi x8, vr b68, vi (nC.toInt32), vr b283, vi x12, vu] [(.ref b283), (.int x12)])) rfl rfl (hb hby d3_409) t (by rw [len_of S313 N313]; exact k)) ?_
            by_cases hc314 : x12 < (nc.toInt32)
            · refine gv (fun t k => XS.icmpNo X312.here hx rfl (hb hby d3_410) rfl (tlt hc314).2.1 k) ?_
              have hlt : i < nc := (own_ltN (Nat.lt_of_le_of_lt hi sc) sc).mp (by rw [← hx12]; exact hc314)
              have si : i < 2147483648 := Nat.lt_trans hlt sc
              refine gv (fun t k => XS.aload X312.here hx rfl (hb hby d3_413) rfl rfl k) ?_
              refine gv (fun t k => XS.iload X312.here hx rfl (hb hby d3_415) rfl k) ?_
              refine gv (fun t k => XS.iload X312.here hx rfl (hb hby d3_417) rfl k) ?_
              obtain ⟨T315, h315, lc315, X315, e315, N315, Z315, K315, W315, V315, st315⟩ := own_stI X312 hx hZ e312 F312_23 N312 Z312 K312 g308 (Or.inr sz309) (j := x12) ⟨by rw [hx12]; exact own_nneg si, by rw [hx12]; exact (own_ltN si sc).mpr hlt⟩ (ji := i) (by rw [hx12, own_clamp si]) (by rw [List.length_map, own_c0_len]; exact Nat.lt_of_lt_of_le hlt hnc3) (g := (mkF m 419 #[vr oa, vi (nD.toInt32), vi (nB.toInt32), vi 1, vj ((nC.toInt32).toInt64), v2, vr b22, vr b29, vi x8, vr b68, vi (nC.toInt32), vr b283, vi x12, vu] [(.int x12), (.int x12), (.ref b283)])) rfl rfl (hb hby d3_419)
              refine gv st315 ?_
              refine gv (fun t k => XS.iinc X315.here hx rfl (hb hby d3_420) rfl (l' := #[vr oa, vi (nD.toInt32), vi (nB.toInt32), vi 1, vj ((nC.toInt32).toInt64), v2, vr b22, vr b29, vi x8, vr b68, vi (nC.toInt32), vr b283, vi (x12 + (1 : Int32)), vu]) rfl k) ?_
              show Go p.tables e below P T315 (mkF m 423 #[vr oa, vi (nD.toInt32), vi (nB.toInt32), vi 1, vj ((nC.toInt32).toInt64), v2, vr b22, vr b29, vi x8, vr b68, vi (nC.toInt32), vr b283, vi (x12 + (1 : Int32)), vu] [])
              refine gv (fun t k => XS.goto X315.here hx rfl (pc0 := 423) (pc' := 405) rfl (hb hby d3_423) (by decide) (by decide) k) ?_
              have F316 := (F312_0.wr W315)
              have F317 := (F312_1.other W315 (Or.inl (Nat.ne_of_lt (Nat.lt_of_lt_of_le P0.lt sz309))))
              have F318 := (F312_2.other W315 (Or.inl (Nat.ne_of_lt (Nat.lt_of_lt_of_le P0.lt sz309))))
              have F319 := (F312_3.other W315 (Or.inl (Nat.ne_of_lt (Nat.lt_of_lt_of_le P0.lt sz309))))
              have F320 := (F312_4.other W315 (Or.inl (Nat.ne_of_lt (Nat.lt_of_lt_of_le P0.lt sz309))))
              have F321 := (F312_5.other W315 (Or.inl (Nat.ne_of_lt (Nat.lt_of_lt_of_le P0.lt sz309))))
              have F322 := (F312_6.other W315 (Or.inl (Nat.ne_of_lt (Nat.lt_of_lt_of_le P0.lt sz309))))
              have F323 := (F312_7.other W315 (Or.inl (Nat.ne_of_lt (Nat.lt_of_lt_of_le P0.lt sz309))))
              have F324 := (F312_8.other W315 (Or.inl (Nat.ne_of_lt (Nat.lt_of_lt_of_le P0.lt sz309))))
              have F325 := (F312_9.other W315 (Or.inl (Nat.ne_of_lt (Nat.lt_of_lt_of_le P0.lt sz309))))
              have F326 := (F312_10.other W315 (Or.inl (Nat.ne_of_lt (Nat.lt_of_lt_of_le P0.lt sz309))))
              have F327 := (F312_11.other W315 ne284)
              have F328 := (F312_12.other W315 ne286)
              have F329 := (F312_13.other W315 ne288)
              have F330 := (F312_14.other W315 ne290)
              have F331 := (F312_15.other W315 ne292)
              have F332 := (F312_16.other W315 ne294)
              have F333 := (F312_17.other W315 ne296)
              have F334 := (F312_18.other W315 ne298)
              have F335 := (F312_19.other W315 ne300)
              have F336 := (F312_20.other W315 ne302)
              have F337 := (F312_21.other W315 ne304)
              have F338 := (F312_22.other W315 ne306)
              exact ih312 T315 _ h315 (i + 1) (x12 + (1 : Int32)) X315 e315 N315 Z315 K315 F316 F317 F318 F319 F320 F321 F322 F323 F324 F325 F326 F327 F328 F329 F330 F331 F332 F333 F334 F335 F336 F337 F338 (by rw [own_c0, List.map_set, ← hx12]; exact V315) hlt (by rw [hx12]; exact own_succ i) (own_dm hlt hk)
            · refine gv (fun t k => XS.icmpYes X312.here hx rfl (pc0 := 410) (pc' := 426) rfl (hb hby d3_410) rfl (flt hc314).2.1 (by decide) (by decide) k) ?_
              show Go p.tables e below P T312 (mkF m 426 #[vr oa, vi (nD.toInt32), vi (nB.toInt32), vi 1, vj ((nC.toInt32).toInt64), v2, vr b22, vr b29, vi x8, vr b68, vi (nC.toInt32), vr b283, vi x12, vu] [])
              have hge : nc = i := by have q := hc314; rw [hx12, own_ltN (Nat.lt_of_le_of_lt hi sc) sc] at q; exact Nat.le_antisymm (Nat.le_of_not_lt q) hi
              subst hge
              refine gv (fun t k => XS.iconst X312.here hx rfl (hb hby d3_426) k) ?_
              refine gv (fun t k => XS.istore X312.here hx rfl (hb hby d3_427) rfl (l' := #[vr oa, vi (nD.toInt32), vi (nB.toInt32), vi 1, vj ((nC.toInt32).toInt64), v2, vr b22, vr b29, vi x8, vr b68, vi (nC.toInt32), vr b283, vi 0, vu]) rfl k) ?_
              have LP339 : ∀ (k339 : Nat) (T339 : State) (locs339 : List Loc) (hp339 : Heap) (tb : Nat) (x12 : Int32) (vl1 : List Value) (vl2 : List Value) (vl3 : List Value) (vl4 : List Value) (vl5 : List Value) (vl6 : List Value) (vl7 : List Value) (s1 : Addr) (ks1 : ClassId) (n1 : Nat) (l1 : List Int32) (s2 : Addr) (ks2 : ClassId) (l2 : List Int32), Stand p l e ({ frames := 4, cells := 102, slots := 1136, locals := 97 } : Room) s m #[(.ref oa), (.int (nD.toInt32)), (.int (nB.toInt32))] below meth c T339 locs339 (14 + 8 * tb) (168 + 88 * tb) → T339.heap = hp339 → Fr n0 locs339 → n0 ≤ hp339.size → Keep h0 hp339 [oa] → Exa Z hp339 oa BLn → Fld Z hp339 oa BLn "distance" "I" (.int (nD.toInt32)) → Fld Z hp339 oa BLn "widths" "[I" (.ref b11) → Fld Z hp339 oa BLn "keyMasks" "[J" (.ref b94) → Fld Z hp339 oa BLn "runShifts" "[[I" (.ref b115) → Fld Z hp339 oa BLn "runWidths" "[[I" (.ref b138) → Fld Z hp339 oa BLn "radii" "[I" (.ref b76) → Fld Z hp339 oa BLn "keyDifferences" "[[J" (.ref b163) → Fld Z hp339 oa BLn "skippedTops" "[J" (.ref b190) → Fld Z hp339 oa BLn "skippedLows" "[J" (.ref b219) → Fld Z hp339 oa BLn "earlierWithRadius" "[[I" (.ref b250) → Arv Z hp339 b11 k11 .int (nB.toInt32) ((own_wl (nB.toInt32) nB).map Value.int) (.int 0) → Arv Z hp339 b22 k22 .long (nB.toInt32) ((own_ml (nB.toInt32) nB).map Value.long) (.long 0) → Arv Z hp339 b29 k29 .int (nB.toInt32) ((own_sl (nB.toInt32) nB).map Value.int) (.int 0) → Arv Z hp339 b68 k68 .int (nB.toInt32) (List.replicate 5 (.int 0)) (.int 0) → Arv Z hp339 b76 k76 .int (nC.toInt32) (List.replicate 10 (.int 0)) (.int 0) → Arv Z hp339 b94 k94 .long (nC.toInt32) vl1 (.long 0) → Arv Z hp339 b115 k115 (.array .int) (nC.toInt32) vl2 .null → Arv Z hp339 b138 k138 (.array .int) (nC.toInt32) vl3 .null → Arv Z hp339 b163 k163 (.array .long) (nC.toInt32) vl4 .null → Arv Z hp339 b190 k190 .long (nC.toInt32) vl5 (.long 0) → Arv Z hp339 b219 k219 .long (nC.toInt32) vl6 (.long 0) → Arv Z hp339 b250 k250 (.array .int) (nC.toInt32) vl7 .null → Arv Z hp339 b283 k283 .int (nc.toInt32) ((own_ch (nB.toInt32) nc tb).map Value.int) (.int 0) → Arv Z hp339 s1 ks1 .int (n1.toInt32) (l1.map Value.int) (.int 0) → Arv Z hp339 s2 ks2 .int (n1.toInt32) (l2.map Value.int) (.int 0) → tb ≤ nC → x12 = tb.toInt32 → vl1.length = 10 → vl2.length = 10 → vl3.length = 10 → vl4.length = 10 → vl5.length = 10 → vl6.length = 10 → vl7.length = 10 → (tt < tb → vl2.getD tt .null = .ref s1 ∧ vl3.getD tt .null = .ref s2 ∧ n1 = (own_rs (own_ch (nB.toInt32) nc tt) (own_sl (nB.toInt32) nB) (own_wl (nB.toInt32) nB) nc).1 ∧ l1 = (own_rs (own_ch (nB.toInt32) nc tt) (own_sl (nB.toInt32) nB) (own_wl (nB.toInt32) nB) nc).2.1 ∧ l2 = (own_rs (own_ch (nB.toInt32) nc tt) (own_sl (nB.toInt32) nB) (own_wl (nB.toInt32) nB) nc).2.2) → s1 ≠ b283 → s1 ≠ b94 → s1 ≠ b115 → s1 ≠ b138 → s1 ≠ b163 → s1 ≠ b190 → s1 ≠ b219 → s1 ≠ b250 → s2 ≠ b283 → s2 ≠ b94 → s2 ≠ b115 → s2 ≠ b138 → s2 ≠ b163 → s2 ≠ b190 → s2 ≠ b219 → s2 ≠ b250 → nC - tb < k339 → Go p.tables e below P T339 (mkF m 429 #[.val (.ref oa), .val (.int (nD.toInt32)), .val (.int (nB.toInt32)), .val (.int 1), .val (.long ((nC.toInt32).toInt64)), .second, .val (.ref b22), .val (.ref b29), .val (.int x8), .val (.ref b68), .val (.int (nC.toInt32)), .val (.ref b283), .val (.int x12), .unset] []) := by
                intro k339
                induction k339 with
                | zero => intros; rename_i hk; exact absurd hk (Nat.not_lt_zero _)
                | succ k339 ih339 =>
                  intro T339 locs339 hp339 tb x12 vl1 vl2 vl3 vl4 vl5 vl6 vl7 s1 ks1 n1 l1 s2 ks2 l2 X339 e339 N339 Z339 K339 F339_0 F339_1 F339_2 F339_3 F339_4 F339_5 F339_6 F339_7 F339_8 F339_9 F339_10 F339_11 F339_12 F339_13 F339_14 F339_15 F339_16 F339_17 F339_18 F339_19 F339_20 F339_21 F339_22 F339_23 F339_24 F339_25 htb hx12 hvl1 hvl2 hvl3 hvl4 hvl5 hvl6 hvl7 hgh ns0 ns1 ns2 ns3 ns4 ns5 ns6 ns7 ns8 ns9 ns10 ns11 ns12 ns13 ns14 ns15 hk
                  show Go p.tables e below P T339 (mkF m 429 #[vr oa, vi (nD.toInt32), vi (nB.toInt32), vi 1, vj ((nC.toInt32).toInt64), v2, vr b22, vr b29, vi x8, vr b68, vi (nC.toInt32), vr b283, vi x12, vu] [])
                  refine gv (fun t k => XS.iload X339.here hx rfl (hb hby d3_429) rfl k) ?_
                  refine gv (fun t k => XS.iload X339.here hx rfl (hb hby d3_431) rfl k) ?_
                  by_cases hc340 : x12 < (nC.toInt32)
                  · refine gv (fun t k => XS.icmpNo X339.here hx rfl (hb hby d3_433) rfl (tlt hc340).2.1 k) ?_
                    have hltb : tb < nC := (own_ltN (Nat.lt_of_le_of_lt htb sC) sC).mp (by rw [← hx12]; exact hc340)
                    have tb10 : tb < 10 := Nat.lt_of_lt_of_le hltb hC10
                    refine gv (fun t k => XS.aloadN X339.here hx rfl (hb hby d3_436) rfl rfl k) ?_
                    refine gv (fun t k => XS.iload X339.here hx rfl (hb hby d3_437) rfl k) ?_
                    refine gv (fun t k => XS.aload X339.here hx rfl (hb hby d3_439) rfl rfl k) ?_
                    refine gv (fun t k => XS.aload X339.here hx rfl (hb hby d3_441) rfl rfl k) ?_
                    refine gv (fun t k => XS.aload X339.here hx rfl (hb hby d3_443) rfl rfl k) ?_
                    refine gv (fun t k => XS.aload X339.here hx rfl (hb hby d3_445) rfl rfl k) ?_
                    show Go p.tables e below P T339 (mkF m 447 #[vr oa, vi (nD.toInt32), vi (nB.toInt32), vi 1, vj ((nC.toInt32).toInt64), v2, vr b22, vr b29, vi x8, vr b68, vi (nC.toInt32), vr b283, vi x12, vu] [(.ref b68), (.ref b29), (.ref b22), (.ref b283), (.int x12), (.ref oa)])
                    obtain ⟨cq341, q341, q341'⟩ := F339_0.cell
                    obtain ⟨_, _, ⟨T341, L341, k341, n341⟩, -, X341, ⟨Lc341, hQ341, l341, y341, z341⟩, st341⟩ := X339.privateBack hx (y := (⟨BLn, "describe", "(I[I[J[I[I)V"⟩ : MethodName)) hown (mvT hZ (own_g hw 51 rfl)) (mvT hZ (own_g hw 52 rfl)) (mvT hZ (own_selp (y := ({ cls := BLn, name := "describe", desc := "(I[I[J[I[I)V" } : Jvm.MethodName)) (own_g hw 53 rfl) (own_g hw 52 rfl) (own_g hw 10 rfl) ⟨by decide, by decide⟩)) (Cond.privateMethod_at (mvP hZ (own_g hw 53 rfl) (args := #[]))) (mvT hZ (own_g hw 54 rfl)) (by decide) (backOf (W := 0) (rm7 l Z a0 hw [] oa x12 b283 b22 b29 b68 b11 b76 b94 b115 b138 b163 b190 b219 b250 k283 k22 k29 k68 k11 k76 k94 k115 k138 k163 k190 k219 k250 (own_ch (nB.toInt32) nc tb) (own_ml (nB.toInt32) nB) (own_sl (nB.toInt32) nB) [(0 : Int32), (0 : Int32), (0 : Int32), (0 : Int32), (0 : Int32)] (own_wl (nB.toInt32) nB) (List.replicate 10 (0 : Int32)) vl1 vl2 vl3 vl4 vl5 vl6 vl7 tb nB nC nc ((own_bc (own_km (own_ml (nB.toInt32) nB) (own_ch (nB.toInt32) nc tb) nc)).toNatClampNeg) 0 hp339 n0 Z339 F339_2 F339_6 F339_3 F339_4 F339_5 F339_7 F339_8 F339_9 F339_10 F339_23 F339_12 F339_13 F339_14 F339_11 F339_15 F339_16 F339_17 F339_18 F339_19 F339_20 F339_21 F339_22 hx12 hltb hC10 (by first | assumption | decide | omega) hnc1 (by first | assumption | decide | omega) (hgood tb hltb).1 (by rw [hvl1]; exact hC10) (by rw [hvl2]; exact hC10) (by rw [hvl3]; exact hC10) (by rw [hvl4]; exact hC10) (by rw [hvl5]; exact hC10) (by rw [hvl6]; exact hC10) (by rw [hvl7]; exact hC10) O115 O138 O163 O250 g105 g128 g153 g180 g209 g240 g273 ne126 ne149 ne174 ne201 ne230 ne261 ne151 ne176 ne203 ne232 ne263 ne178 ne205 ne234 ne265 ne207 ne236 ne267 ne238 ne269 ne271 (Nat.ne_of_lt (Nat.lt_of_lt_of_le P0.lt sz106)) (Nat.ne_of_lt (Nat.lt_of_lt_of_le P0.lt sz129)) (Nat.ne_of_lt (Nat.lt_of_lt_of_le P0.lt sz154)) (Nat.ne_of_lt (Nat.lt_of_lt_of_le P0.lt sz181)) (Nat.ne_of_lt (Nat.lt_of_lt_of_le P0.lt sz210)) (Nat.ne_of_lt (Nat.lt_of_lt_of_le P0.lt sz241)) (Nat.ne_of_lt (Nat.lt_of_lt_of_le P0.lt sz274)) ne103 ne124 ne147 (Or.inl ⟨own_rep0 10 tb, own_back (hgood tb hltb).2.1, (hgood tb hltb).2.2⟩)) hZ (own_g hw 54 rfl) (own_g hw 11 rfl) (by decide) (by decide)) (g := (mkF m 447 #[vr oa, vi (nD.toInt32), vi (nB.toInt32), vi 1, vj ((nC.toInt32).toInt64), v2, vr b22, vr b29, vi x8, vr b68, vi (nC.toInt32), vr b283, vi x12, vu] [(.ref b68), (.ref b29), (.ref b22), (.ref b283), (.int x12), (.ref oa)])) rfl (by rw [hml]; rfl) (Steps.refl _) (a := oa) (by rw [e339]; exact q341) q341' (argsL := [(.int x12), (.ref b283), (.ref b22), (.ref b29), (.ref b68)]) (rest := []) (lenOf own_pd10 rfl) rfl (by show 2 * 0 + _ ≤ _; exact Nat.le_of_eq rfl) (hb hby d3_447) (fun _ _ => ⟨rfl, e339, (own_cb tb10 (by decide)), (own_cb tb10 (by decide))⟩)
                    dsimp only [Pt.U, Pt.locs, Pt.cells, Pt.slots] at X341 l341 y341 z341 st341 hQ341
                    subst l341 y341 z341
                    obtain ⟨p2_341, kp2_341, p3_341, kp3_341, p4_341, p7_341, e5_341, e6_341, rfl, Nq341, K341, fr341_p2, fr341_p3, u341_0, u341_1, u341_2, u341_3, u341_4, u341_5, u341_6, u341_7, u341_8⟩ := hQ341
                    obtain ⟨lc341, Xh341, N341⟩ := own_hide X341 (Fr.app N339 Nq341)
                    clear X341
                    refine Go.hop st341 ?_
                    have ne342 := Nat.ne_of_lt (Nat.lt_of_lt_of_le F339_11.lt fr341_p2)
                    have ne343 := Nat.ne_of_lt (Nat.lt_of_lt_of_le F339_12.lt fr341_p2)
                    have ne344 := Nat.ne_of_lt (Nat.lt_of_lt_of_le F339_13.lt fr341_p2)
                    have ne345 := Nat.ne_of_lt (Nat.lt_of_lt_of_le F339_14.lt fr341_p2)
                    have ne346 := Nat.ne_of_lt (Nat.lt_of_lt_of_le F339_15.lt fr341_p2)
                    have ne347 := Nat.ne_of_lt (Nat.lt_of_lt_of_le F339_16.lt fr341_p2)
                    have ne348 := Nat.ne_of_lt (Nat.lt_of_lt_of_le F339_17.lt fr341_p2)
                    have ne349 := Nat.ne_of_lt (Nat.lt_of_lt_of_le F339_18.lt fr341_p2)
                    have ne350 := Nat.ne_of_lt (Nat.lt_of_lt_of_le F339_19.lt fr341_p2)
                    have ne351 := Nat.ne_of_lt (Nat.lt_of_lt_of_le F339_20.lt fr341_p2)
                    have ne352 := Nat.ne_of_lt (Nat.lt_of_lt_of_le F339_21.lt fr341_p2)
                    have ne353 := Nat.ne_of_lt (Nat.lt_of_lt_of_le F339_22.lt fr341_p2)
                    have ne354 := Nat.ne_of_lt (Nat.lt_of_lt_of_le F339_23.lt fr341_p2)
                    have ne355 := Nat.ne_of_lt (Nat.lt_of_lt_of_le F339_24.lt fr341_p2)
                    have ne356 := Nat.ne_of_lt (Nat.lt_of_lt_of_le F339_25.lt fr341_p2)
                    have g357 := Nat.le_trans Z339 fr341_p2
                    have sz358 := Nat.le_trans K339.1 fr341_p2
                    have ne359 := Nat.ne_of_lt (Nat.lt_of_lt_of_le F339_11.lt fr341_p3)
                    have ne360 := Nat.ne_of_lt (Nat.lt_of_lt_of_le F339_12.lt fr341_p3)
                    have ne361 := Nat.ne_of_lt (Nat.lt_of_lt_of_le F339_13.lt fr341_p3)
                    have ne362 := Nat.ne_of_lt (Nat.lt_of_lt_of_le F339_14.lt fr341_p3)
                    have ne363 := Nat.ne_of_lt (Nat.lt_of_lt_of_le F339_15.lt fr341_p3)
                    have ne364 := Nat.ne_of_lt (Nat.lt_of_lt_of_le F339_16.lt fr341_p3)
                    have ne365 := Nat.ne_of_lt (Nat.lt_of_lt_of_le F339_17.lt fr341_p3)
                    have ne366 := Nat.ne_of_lt (Nat.lt_of_lt_of_le F339_18.lt fr341_p3)
                    have ne367 := Nat.ne_of_lt (Nat.lt_of_lt_of_le F339_19.lt fr341_p3)
                    have ne368 := Nat.ne_of_lt (Nat.lt_of_lt_of_le F339_20.lt fr341_p3)
                    have ne369 := Nat.ne_of_lt (Nat.lt_of_lt_of_le F339_21.lt fr341_p3)
                    have ne370 := Nat.ne_of_lt (Nat.lt_of_lt_of_le F339_22.lt fr341_p3)
                    have ne371 := Nat.ne_of_lt (Nat.lt_of_lt_of_le F339_23.lt fr341_p3)
                    have ne372 := Nat.ne_of_lt (Nat.lt_of_lt_of_le F339_24.lt fr341_p3)
                    have ne373 := Nat.ne_of_lt (Nat.lt_of_lt_of_le F339_25.lt fr341_p3)
                    have g374 := Nat.le_trans Z339 fr341_p3
                    have sz375 := Nat.le_trans K339.1 fr341_p3
                    have Z376 := Nat.le_trans Z339 K341.1
                    have K377 := K339.trans K341 (own_allC (Or.inr sz106) (own_allC (Or.inr sz129) (own_allC (Or.inr sz154) (own_allC (Or.inr sz181) (own_allC (Or.inr sz210) (own_allC (Or.inr sz241) (own_allC (Or.inr sz274) own_all0)))))))
                    refine gv (fun t k => XS.aload Xh341.here hx rfl (hb hby d3_450) rfl rfl k) ?_
                    refine gv (fun t k => XS.iloadN Xh341.here hx rfl (hb hby d3_452) rfl k) ?_
                    have F378 := (F339_23.keep K341 (own_ninC (Ne.symm ne294) (own_ninC (Ne.symm ne296) (own_ninC (Ne.symm ne298) (own_ninC (Ne.symm ne300) (own_ninC (Ne.symm ne302) (own_ninC (Ne.symm ne304) (own_ninC (Ne.symm ne306) own_nin0))))))))
                    obtain ⟨_, _, ⟨T379, L379, k379, n379⟩, -, X379, ⟨Lc379, hQ379, l379, y379, z379⟩, st379⟩ := Jvm.LawKit.callS Xh341 hx (y := (⟨BLn, "nextChoice", "([II)V"⟩ : MethodName)) hown (mvT hZ (own_g hw 89 rfl)) (mvT hZ (own_g hw 90 rfl)) (mvT hZ (own_g hw 11 rfl)) (mvT hZ (own_g hw 91 rfl)) (by decide) (backOf (W := 0) (rm14 l Z a0 hw [] b283 (nB.toInt32) k283 nc (own_ch (nB.toInt32) nc tb) T341.heap n0 Z376 F378 hnc1 (by first | assumption | decide | omega) (by rw [own_ch_len]; exact hnc3) g308) hZ (own_g hw 91 rfl) (own_g hw 11 rfl) (by decide) (by decide)) (g := (mkF m 453 #[vr oa, vi (nD.toInt32), vi (nB.toInt32), vi 1, vj ((nC.toInt32).toInt64), v2, vr b22, vr b29, vi x8, vr b68, vi (nC.toInt32), vr b283, vi x12, vu] [(.int (nB.toInt32)), (.ref b283)])) rfl (by rw [hml]; rfl) (argsL := [(.ref b283), (.int (nB.toInt32))]) (rest := []) (lenOf own_pd5 rfl) rfl (by show 2 * 0 + _ ≤ _; exact Nat.le_of_eq rfl) (hb hby d3_453) (fun _ _ => ⟨rfl, rfl, (own_cb tb10 (by decide)), (own_cb tb10 (by decide))⟩)
                    dsimp only [Pt.U, Pt.locs, Pt.cells, Pt.slots] at X379 l379 y379 z379 st379 hQ379
                    subst l379 y379 z379
                    obtain ⟨rfl, Nq379, K379, u379_0⟩ := hQ379
                    obtain ⟨lc379, Xh379, N379⟩ := own_hide X379 (Fr.app N341 Nq379)
                    clear X379
                    refine gv st379 ?_
                    have Z380 := Nat.le_trans Z376 K379.1
                    have K381 := K377.trans K379 (own_allC (Or.inr sz309) own_all0)
                    show Go p.tables e below P T379 (mkF m 456 #[vr oa, vi (nD.toInt32), vi (nB.toInt32), vi 1, vj ((nC.toInt32).toInt64), v2, vr b22, vr b29, vi x8, vr b68, vi (nC.toInt32), vr b283, vi x12, vu] [])
                    by_cases htq : tb = tt
                    · show Go p.tables e below P T379 (mkF m 456 #[vr oa, vi (nD.toInt32), vi (nB.toInt32), vi 1, vj ((nC.toInt32).toInt64), v2, vr b22, vr b29, vi x8, vr b68, vi (nC.toInt32), vr b283, vi x12, vu] [])
                      refine gv (fun t k => XS.iinc Xh379.here hx rfl (hb hby d3_456) rfl (l' := #[vr oa, vi (nD.toInt32), vi (nB.toInt32), vi 1, vj ((nC.toInt32).toInt64), v2, vr b22, vr b29, vi x8, vr b68, vi (nC.toInt32), vr b283, vi (x12 + (1 : Int32)), vu]) rfl k) ?_
                      refine gv (fun t k => XS.goto Xh379.here hx rfl (pc0 := 459) (pc' := 429) rfl (hb hby d3_459) (by decide) (by decide) k) ?_
                      have F382 := (u341_7.keep K379 (own_ninC (Ne.symm ne354) own_nin0))
                      have F383 := (u341_8.keep K379 (own_ninC (Ne.symm ne371) own_nin0))
                      have F384 := ((F339_0.keep K341).keep K379)
                      have F385 := ((F339_1.keep K341 (own_ninC (Nat.ne_of_lt (Nat.lt_of_lt_of_le P0.lt sz106)) (own_ninC (Nat.ne_of_lt (Nat.lt_of_lt_of_le P0.lt sz129)) (own_ninC (Nat.ne_of_lt (Nat.lt_of_lt_of_le P0.lt sz154)) (own_ninC (Nat.ne_of_lt (Nat.lt_of_lt_of_le P0.lt sz181)) (own_ninC (Nat.ne_of_lt (Nat.lt_of_lt_of_le P0.lt sz210)) (own_ninC (Nat.ne_of_lt (Nat.lt_of_lt_of_le P0.lt sz241)) (own_ninC (Nat.ne_of_lt (Nat.lt_of_lt_of_le P0.lt sz274)) own_nin0)))))))).keep K379 (own_ninC (Nat.ne_of_lt (Nat.lt_of_lt_of_le P0.lt sz309)) own_nin0))
                      have F386 := ((F339_2.keep K341 (own_ninC (Nat.ne_of_lt (Nat.lt_of_lt_of_le P0.lt sz106)) (own_ninC (Nat.ne_of_lt (Nat.lt_of_lt_of_le P0.lt sz129)) (own_ninC (Nat.ne_of_lt (Nat.lt_of_lt_of_le P0.lt sz154)) (own_ninC (Nat.ne_of_lt (Nat.lt_of_lt_of_le P0.lt sz181)) (own_ninC (Nat.ne_of_lt (Nat.lt_of_lt_of_le P0.lt sz210)) (own_ninC (Nat.ne_of_lt (Nat.lt_of_lt_of_le P0.lt sz241)) (own_ninC (Nat.ne_of_lt (Nat.lt_of_lt_of_le P0.lt sz274)) own_nin0)))))))).keep K379 (own_ninC (Nat.ne_of_lt (Nat.lt_of_lt_of_le P0.lt sz309)) own_nin0))
                      have F387 := ((F339_3.keep K341 (own_ninC (Nat.ne_of_lt (Nat.lt_of_lt_of_le P0.lt sz106)) (own_ninC (Nat.ne_of_lt (Nat.lt_of_lt_of_le P0.lt sz129)) (own_ninC (Nat.ne_of_lt (Nat.lt_of_lt_of_le P0.lt sz154)) (own_ninC (Nat.ne_of_lt (Nat.lt_of_lt_of_le P0.lt sz181)) (own_ninC (Nat.ne_of_lt (Nat.lt_of_lt_of_le P0.lt sz210)) (own_ninC (Nat.ne_of_lt (Nat.lt_of_lt_of_le P0.lt sz241)) (own_ninC (Nat.ne_of_lt (Nat.lt_of_lt_of_le P0.lt sz274)) own_nin0)))))))).keep K379 (own_ninC (Nat.ne_of_lt (Nat.lt_of_lt_of_le P0.lt sz309)) own_nin0))
                      have F388 := ((F339_4.keep K341 (own_ninC (Nat.ne_of_lt (Nat.lt_of_lt_of_le P0.lt sz106)) (own_ninC (Nat.ne_of_lt (Nat.lt_of_lt_of_le P0.lt sz129)) (own_ninC (Nat.ne_of_lt (Nat.lt_of_lt_of_le P0.lt sz154)) (own_ninC (Nat.ne_of_lt (Nat.lt_of_lt_of_le P0.lt sz181)) (own_ninC (Nat.ne_of_lt (Nat.lt_of_lt_of_le P0.lt sz210)) (own_ninC (Nat.ne_of_lt (Nat.lt_of_lt_of_le P0.lt sz241)) (own_ninC (Nat.ne_of_lt (Nat.lt_of_lt_of_le P0.lt sz274)) own_nin0)))))))).keep K379 (own_ninC (Nat.ne_of_lt (Nat.lt_of_lt_of_le P0.lt sz309)) own_nin0))
                      have F389 := ((F339_5.keep K341 (own_ninC (Nat.ne_of_lt (Nat.lt_of_lt_of_le P0.lt sz106)) (own_ninC (Nat.ne_of_lt (Nat.lt_of_lt_of_le P0.lt sz129)) (own_ninC (Nat.ne_of_lt (Nat.lt_of_lt_of_le P0.lt sz154)) (own_ninC (Nat.ne_of_lt (Nat.lt_of_lt_of_le P0.lt sz181)) (own_ninC (Nat.ne_of_lt (Nat.lt_of_lt_of_le P0.lt sz210)) (own_ninC (Nat.ne_of_lt (Nat.lt_of_lt_of_le P0.lt sz241)) (own_ninC (Nat.ne_of_lt (Nat.lt_of_lt_of_le P0.lt sz274)) own_nin0)))))))).keep K379 (own_ninC (Nat.ne_of_lt (Nat.lt_of_lt_of_le P0.lt sz309)) own_nin0))
                      have F390 := ((F339_6.keep K341 (own_ninC (Nat.ne_of_lt (Nat.lt_of_lt_of_le P0.lt sz106)) (own_ninC (Nat.ne_of_lt (Nat.lt_of_lt_of_le P0.lt sz129)) (own_ninC (Nat.ne_of_lt (Nat.lt_of_lt_of_le P0.lt sz154)) (own_ninC (Nat.ne_of_lt (Nat.lt_of_lt_of_le P0.lt sz181)) (own_ninC (Nat.ne_of_lt (Nat.lt_of_lt_of_le P0.lt sz210)) (own_ninC (Nat.ne_of_lt (Nat.lt_of_lt_of_le P0.lt sz241)) (own_ninC (Nat.ne_of_lt (Nat.lt_of_lt_of_le P0.lt sz274)) own_nin0)))))))).keep K379 (own_ninC (Nat.ne_of_lt (Nat.lt_of_lt_of_le P0.lt sz309)) own_nin0))
                      have F391 := ((F339_7.keep K341 (own_ninC (Nat.ne_of_lt (Nat.lt_of_lt_of_le P0.lt sz106)) (own_ninC (Nat.ne_of_lt (Nat.lt_of_lt_of_le P0.lt sz129)) (own_ninC (Nat.ne_of_lt (Nat.lt_of_lt_of_le P0.lt sz154)) (own_ninC (Nat.ne_of_lt (Nat.lt_of_lt_of_le P0.lt sz181)) (own_ninC (Nat.ne_of_lt (Nat.lt_of_lt_of_le P0.lt sz210)) (own_ninC (Nat.ne_of_lt (Nat.lt_of_lt_of_le P0.lt sz241)) (own_ninC (Nat.ne_of_lt (Nat.lt_of_lt_of_le P0.lt sz274)) own_nin0)))))))).keep K379 (own_ninC (Nat.ne_of_lt (Nat.lt_of_lt_of_le P0.lt sz309)) own_nin0))
                      have F392 := ((F339_8.keep K341 (own_ninC (Nat.ne_of_lt (Nat.lt_of_lt_of_le P0.lt sz106)) (own_ninC (Nat.ne_of_lt (Nat.lt_of_lt_of_le P0.lt sz129)) (own_ninC (Nat.ne_of_lt (Nat.lt_of_lt_of_le P0.lt sz154)) (own_ninC (Nat.ne_of_lt (Nat.lt_of_lt_of_le P0.lt sz181)) (own_ninC (Nat.ne_of_lt (Nat.lt_of_lt_of_le P0.lt sz210)) (own_ninC (Nat.ne_of_lt (Nat.lt_of_lt_of_le P0.lt sz241)) (own_ninC (Nat.ne_of_lt (Nat.lt_of_lt_of_le P0.lt sz274)) own_nin0)))))))).keep K379 (own_ninC (Nat.ne_of_lt (Nat.lt_of_lt_of_le P0.lt sz309)) own_nin0))
                      have F393 := ((F339_9.keep K341 (own_ninC (Nat.ne_of_lt (Nat.lt_of_lt_of_le P0.lt sz106)) (own_ninC (Nat.ne_of_lt (Nat.lt_of_lt_of_le P0.lt sz129)) (own_ninC (Nat.ne_of_lt (Nat.lt_of_lt_of_le P0.lt sz154)) (own_ninC (Nat.ne_of_lt (Nat.lt_of_lt_of_le P0.lt sz181)) (own_ninC (Nat.ne_of_lt (Nat.lt_of_lt_of_le P0.lt sz210)) (own_ninC (Nat.ne_of_lt (Nat.lt_of_lt_of_le P0.lt sz241)) (own_ninC (Nat.ne_of_lt (Nat.lt_of_lt_of_le P0.lt sz274)) own_nin0)))))))).keep K379 (own_ninC (Nat.ne_of_lt (Nat.lt_of_lt_of_le P0.lt sz309)) own_nin0))
                      have F394 := ((F339_10.keep K341 (own_ninC (Nat.ne_of_lt (Nat.lt_of_lt_of_le P0.lt sz106)) (own_ninC (Nat.ne_of_lt (Nat.lt_of_lt_of_le P0.lt sz129)) (own_ninC (Nat.ne_of_lt (Nat.lt_of_lt_of_le P0.lt sz154)) (own_ninC (Nat.ne_of_lt (Nat.lt_of_lt_of_le P0.lt sz181)) (own_ninC (Nat.ne_of_lt (Nat.lt_of_lt_of_le P0.lt sz210)) (own_ninC (Nat.ne_of_lt (Nat.lt_of_lt_of_le P0.lt sz241)) (own_ninC (Nat.ne_of_lt (Nat.lt_of_lt_of_le P0.lt sz274)) own_nin0)))))))).keep K379 (own_ninC (Nat.ne_of_lt (Nat.lt_of_lt_of_le P0.lt sz309)) own_nin0))
                      have F395 := ((F339_11.keep K341 (own_ninC ne95 (own_ninC ne116 (own_ninC ne139 (own_ninC ne164 (own_ninC ne191 (own_ninC ne220 (own_ninC ne251 own_nin0)))))))).keep K379 (own_ninC ne284 own_nin0))
                      have F396 := ((F339_12.keep K341 (own_ninC ne97 (own_ninC ne118 (own_ninC ne141 (own_ninC ne166 (own_ninC ne193 (own_ninC ne222 (own_ninC ne253 own_nin0)))))))).keep K379 (own_ninC ne286 own_nin0))
                      have F397 := ((F339_13.keep K341 (own_ninC ne99 (own_ninC ne120 (own_ninC ne143 (own_ninC ne168 (own_ninC ne195 (own_ninC ne224 (own_ninC ne255 own_nin0)))))))).keep K379 (own_ninC ne288 own_nin0))
                      have F398 := ((F339_14.keep K341 (own_ninC ne101 (own_ninC ne122 (own_ninC ne145 (own_ninC ne170 (own_ninC ne197 (own_ninC ne226 (own_ninC ne257 own_nin0)))))))).keep K379 (own_ninC ne290 own_nin0))
                      have F399 := ((F339_15.keep K341 (own_ninC ne103 (own_ninC ne124 (own_ninC ne147 (own_ninC ne172 (own_ninC ne199 (own_ninC ne228 (own_ninC ne259 own_nin0)))))))).keep K379 (own_ninC ne292 own_nin0))
                      have F400 := (u341_0.keep K379 (own_ninC ne294 own_nin0))
                      have F401 := (u341_1.keep K379 (own_ninC ne296 own_nin0))
                      have F402 := (u341_2.keep K379 (own_ninC ne298 own_nin0))
                      have F403 := (u341_3.keep K379 (own_ninC ne300 own_nin0))
                      have F404 := (u341_4.keep K379 (own_ninC ne302 own_nin0))
                      have F405 := (u341_5.keep K379 (own_ninC ne304 own_nin0))
                      have F406 := (u341_6.keep K379 (own_ninC ne306 own_nin0))
                      exact ih339 T379 _ T379.heap (tb + 1) (x12 + (1 : Int32)) (vl1.set tb (.long (own_km (own_ml (nB.toInt32) nB) (own_ch (nB.toInt32) nc tb) nc))) (vl2.set tb (.ref p2_341)) (vl3.set tb (.ref p3_341)) (vl4.set tb (.ref p4_341)) (vl5.set tb (.long e5_341)) (vl6.set tb (.long e6_341)) (vl7.set tb (.ref p7_341)) p2_341 kp2_341 ((own_rs (own_ch (nB.toInt32) nc tb) (own_sl (nB.toInt32) nB) (own_wl (nB.toInt32) nB) nc).1) ((own_rs (own_ch (nB.toInt32) nc tb) (own_sl (nB.toInt32) nB) (own_wl (nB.toInt32) nB) nc).2.1) p3_341 kp3_341 ((own_rs (own_ch (nB.toInt32) nc tb) (own_sl (nB.toInt32) nB) (own_wl (nB.toInt32) nB) nc).2.2) (ownUp Xh379 own_cv own_cv) rfl N379 Z380 K381 F384 F385 F386 F387 F388 F389 F390 F391 F392 F393 F394 F395 F396 F397 F398 F399 F400 F401 F402 F403 F404 F405 F406 (by rw [own_ch]; exact u379_0) F382 F383 hltb (by rw [hx12]; exact own_succ tb) (by rw [List.length_set]; exact hvl1) (by rw [List.length_set]; exact hvl2) (by rw [List.length_set]; exact hvl3) (by rw [List.length_set]; exact hvl4) (by rw [List.length_set]; exact hvl5) (by rw [List.length_set]; exact hvl6) (by rw [List.length_set]; exact hvl7) (fun _ => ⟨by rw [← htq]; exact own_gset (by rw [hvl2]; exact tb10), by rw [← htq]; exact own_gset (by rw [hvl3]; exact tb10), by rw [← htq], by rw [← htq], by rw [← htq]⟩) (Ne.symm ne354) (Ne.symm ne347) (Ne.symm ne348) (Ne.symm ne349) (Ne.symm ne350) (Ne.symm ne351) (Ne.symm ne352) (Ne.symm ne353) (Ne.symm ne371) (Ne.symm ne364) (Ne.symm ne365) (Ne.symm ne366) (Ne.symm ne367) (Ne.symm ne368) (Ne.symm ne369) (Ne.symm ne370) (own_dm hltb hk)
                    · show Go p.tables e below P T379 (mkF m 456 #[vr oa, vi (nD.toInt32), vi (nB.toInt32), vi 1, vj ((nC.toInt32).toInt64), v2, vr b22, vr b29, vi x8, vr b68, vi (nC.toInt32), vr b283, vi x12, vu] [])
                      refine gv (fun t k => XS.iinc Xh379.here hx rfl (hb hby d3_456) rfl (l' := #[vr oa, vi (nD.toInt32), vi (nB.toInt32), vi 1, vj ((nC.toInt32).toInt64), v2, vr b22, vr b29, vi x8, vr b68, vi (nC.toInt32), vr b283, vi (x12 + (1 : Int32)), vu]) rfl k) ?_
                      refine gv (fun t k => XS.goto Xh379.here hx rfl (pc0 := 459) (pc' := 429) rfl (hb hby d3_459) (by decide) (by decide) k) ?_
                      have F407 := ((F339_0.keep K341).keep K379)
                      have F408 := ((F339_1.keep K341 (own_ninC (Nat.ne_of_lt (Nat.lt_of_lt_of_le P0.lt sz106)) (own_ninC (Nat.ne_of_lt (Nat.lt_of_lt_of_le P0.lt sz129)) (own_ninC (Nat.ne_of_lt (Nat.lt_of_lt_of_le P0.lt sz154)) (own_ninC (Nat.ne_of_lt (Nat.lt_of_lt_of_le P0.lt sz181)) (own_ninC (Nat.ne_of_lt (Nat.lt_of_lt_of_le P0.lt sz210)) (own_ninC (Nat.ne_of_lt (Nat.lt_of_lt_of_le P0.lt sz241)) (own_ninC (Nat.ne_of_lt (Nat.lt_of_lt_of_le P0.lt sz274)) own_nin0)))))))).keep K379 (own_ninC (Nat.ne_of_lt (Nat.lt_of_lt_of_le P0.lt sz309)) own_nin0))
                      have F409 := ((F339_2.keep K341 (own_ninC (Nat.ne_of_lt (Nat.lt_of_lt_of_le P0.lt sz106)) (own_ninC (Nat.ne_of_lt (Nat.lt_of_lt_of_le P0.lt sz129)) (own_ninC (Nat.ne_of_lt (Nat.lt_of_lt_of_le P0.lt sz154)) (own_ninC (Nat.ne_of_lt (Nat.lt_of_lt_of_le P0.lt sz181)) (own_ninC (Nat.ne_of_lt (Nat.lt_of_lt_of_le P0.lt sz210)) (own_ninC (Nat.ne_of_lt (Nat.lt_of_lt_of_le P0.lt sz241)) (own_ninC (Nat.ne_of_lt (Nat.lt_of_lt_of_le P0.lt sz274)) own_nin0)))))))).keep K379 (own_ninC (Nat.ne_of_lt (Nat.lt_of_lt_of_le P0.lt sz309)) own_nin0))
                      have F410 := ((F339_3.keep K341 (own_ninC (Nat.ne_of_lt (Nat.lt_of_lt_of_le P0.lt sz106)) (own_ninC (Nat.ne_of_lt (Nat.lt_of_lt_of_le P0.lt sz129)) (own_ninC (Nat.ne_of_lt (Nat.lt_of_lt_of_le P0.lt sz154)) (own_ninC (Nat.ne_of_lt (Nat.lt_of_lt_of_le P0.lt sz181)) (own_ninC (Nat.ne_of_lt (Nat.lt_of_lt_of_le P0.lt sz210)) (own_ninC (Nat.ne_of_lt (Nat.lt_of_lt_of_le P0.lt sz241)) (own_ninC (Nat.ne_of_lt (Nat.lt_of_lt_of_le P0.lt sz274)) own_nin0)))))))).keep K379 (own_ninC (Nat.ne_of_lt (Nat.lt_of_lt_of_le P0.lt sz309)) own_nin0))
                      have F411 := ((F339_4.keep K341 (own_ninC (Nat.ne_of_lt (Nat.lt_of_lt_of_le P0.lt sz106)) (own_ninC (Nat.ne_of_lt (Nat.lt_of_lt_of_le P0.lt sz129)) (own_ninC (Nat.ne_of_lt (Nat.lt_of_lt_of_le P0.lt sz154)) (own_ninC (Nat.ne_of_lt (Nat.lt_of_lt_of_le P0.lt sz181)) (own_ninC (Nat.ne_of_lt (Nat.lt_of_lt_of_le P0.lt sz210)) (own_ninC (Nat.ne_of_lt (Nat.lt_of_lt_of_le P0.lt sz241)) (own_ninC (Nat.ne_of_lt (Nat.lt_of_lt_of_le P0.lt sz274)) own_nin0)))))))).keep K379 (own_ninC (Nat.ne_of_lt (Nat.lt_of_lt_of_le P0.lt sz309)) own_nin0))
                      have F412 := ((F339_5.keep K341 (own_ninC (Nat.ne_of_lt (Nat.lt_of_lt_of_le P0.lt sz106)) (own_ninC (Nat.ne_of_lt (Nat.lt_of_lt_of_le P0.lt sz129)) (own_ninC (Nat.ne_of_lt (Nat.lt_of_lt_of_le P0.lt sz154)) (own_ninC (Nat.ne_of_lt (Nat.lt_of_lt_of_le P0.lt sz181)) (own_ninC (Nat.ne_of_lt (Nat.lt_of_lt_of_le P0.lt sz210)) (own_ninC (Nat.ne_of_lt (Nat.lt_of_lt_of_le P0.lt sz241)) (own_ninC (Nat.ne_of_lt (Nat.lt_of_lt_of_le P0.lt sz274)) own_nin0)))))))).keep K379 (own_ninC (Nat.ne_of_lt (Nat.lt_of_lt_of_le P0.lt sz309)) own_nin0))
                      have F413 := ((F339_6.keep K341 (own_ninC (Nat.ne_of_lt (Nat.lt_of_lt_of_le P0.lt sz106)) (own_ninC (Nat.ne_of_lt (Nat.lt_of_lt_of_le P0.lt sz129)) (own_ninC (Nat.ne_of_lt (Nat.lt_of_lt_of_le P0.lt sz154)) (own_ninC (Nat.ne_of_lt (Nat.lt_of_lt_of_le P0.lt sz181)) (own_ninC (Nat.ne_of_lt (Nat.lt_of_lt_of_le P0.lt sz210)) (own_ninC (Nat.ne_of_lt (Nat.lt_of_lt_of_le P0.lt sz241)) (own_ninC (Nat.ne_of_lt (Nat.lt_of_lt_of_le P0.lt sz274)) own_nin0)))))))).keep K379 (own_ninC (Nat.ne_of_lt (Nat.lt_of_lt_of_le P0.lt sz309)) own_nin0))
                      have F414 := ((F339_7.keep K341 (own_ninC (Nat.ne_of_lt (Nat.lt_of_lt_of_le P0.lt sz106)) (own_ninC (Nat.ne_of_lt (Nat.lt_of_lt_of_le P0.lt sz129)) (own_ninC (Nat.ne_of_lt (Nat.lt_of_lt_of_le P0.lt sz154)) (own_ninC (Nat.ne_of_lt (Nat.lt_of_lt_of_le P0.lt sz181)) (own_ninC (Nat.ne_of_lt (Nat.lt_of_lt_of_le P0.lt sz210)) (own_ninC (Nat.ne_of_lt (Nat.lt_of_lt_of_le P0.lt sz241)) (own_ninC (Nat.ne_of_lt (Nat.lt_of_lt_of_le P0.lt sz274)) own_nin0)))))))).keep K379 (own_ninC (Nat.ne_of_lt (Nat.lt_of_lt_of_le P0.lt sz309)) own_nin0))
                      have F415 := ((F339_8.keep K341 (own_ninC (Nat.ne_of_lt (Nat.lt_of_lt_of_le P0.lt sz106)) (own_ninC (Nat.ne_of_lt (Nat.lt_of_lt_of_le P0.lt sz129)) (own_ninC (Nat.ne_of_lt (Nat.lt_of_lt_of_le P0.lt sz154)) (own_ninC (Nat.ne_of_lt (Nat.lt_of_lt_of_le P0.lt sz181)) (own_ninC (Nat.ne_of_lt (Nat.lt_of_lt_of_le P0.lt sz210)) (own_ninC (Nat.ne_of_lt (Nat.lt_of_lt_of_le P0.lt sz241)) (own_ninC (Nat.ne_of_lt (Nat.lt_of_lt_of_le P0.lt sz274)) own_nin0)))))))).keep K379 (own_ninC (Nat.ne_of_lt (Nat.lt_of_lt_of_le P0.lt sz309)) own_nin0))
                      have F416 := ((F339_9.keep K341 (own_ninC (Nat.ne_of_lt (Nat.lt_of_lt_of_le P0.lt sz106)) (own_ninC (Nat.ne_of_lt (Nat.lt_of_lt_of_le P0.lt sz129)) (own_ninC (Nat.ne_of_lt (Nat.lt_of_lt_of_le P0.lt sz154)) (own_ninC (Nat.ne_of_lt (Nat.lt_of_lt_of_le P0.lt sz181)) (own_ninC (Nat.ne_of_lt (Nat.lt_of_lt_of_le P0.lt sz210)) (own_ninC (Nat.ne_of_lt (Nat.lt_of_lt_of_le P0.lt sz241)) (own_ninC (Nat.ne_of_lt (Nat.lt_of_lt_of_le P0.lt sz274)) own_nin0)))))))).keep K379 (own_ninC (Nat.ne_of_lt (Nat.lt_of_lt_of_le P0.lt sz309)) own_nin0))
                      have F417 := ((F339_10.keep K341 (own_ninC (Nat.ne_of_lt (Nat.lt_of_lt_of_le P0.lt sz106)) (own_ninC (Nat.ne_of_lt (Nat.lt_of_lt_of_le P0.lt sz129)) (own_ninC (Nat.ne_of_lt (Nat.lt_of_lt_of_le P0.lt sz154)) (own_ninC (Nat.ne_of_lt (Nat.lt_of_lt_of_le P0.lt sz181)) (own_ninC (Nat.ne_of_lt (Nat.lt_of_lt_of_le P0.lt sz210)) (own_ninC (Nat.ne_of_lt (Nat.lt_of_lt_of_le P0.lt sz241)) (own_ninC (Nat.ne_of_lt (Nat.lt_of_lt_of_le P0.lt sz274)) own_nin0)))))))).keep K379 (own_ninC (Nat.ne_of_lt (Nat.lt_of_lt_of_le P0.lt sz309)) own_nin0))
                      have F418 := ((F339_11.keep K341 (own_ninC ne95 (own_ninC ne116 (own_ninC ne139 (own_ninC ne164 (own_ninC ne191 (own_ninC ne220 (own_ninC ne251 own_nin0)))))))).keep K379 (own_ninC ne284 own_nin0))
                      have F419 := ((F339_12.keep K341 (own_ninC ne97 (own_ninC ne118 (own_ninC ne141 (own_ninC ne166 (own_ninC ne193 (own_ninC ne222 (own_ninC ne253 own_nin0)))))))).keep K379 (own_ninC ne286 own_nin0))
                      have F420 := ((F339_13.keep K341 (own_ninC ne99 (own_ninC ne120 (own_ninC ne143 (own_ninC ne168 (own_ninC ne195 (own_ninC ne224 (own_ninC ne255 own_nin0)))))))).keep K379 (own_ninC ne288 own_nin0))
                      have F421 := ((F339_14.keep K341 (own_ninC ne101 (own_ninC ne122 (own_ninC ne145 (own_ninC ne170 (own_ninC ne197 (own_ninC ne226 (own_ninC ne257 own_nin0)))))))).keep K379 (own_ninC ne290 own_nin0))
                      have F422 := ((F339_15.keep K341 (own_ninC ne103 (own_ninC ne124 (own_ninC ne147 (own_ninC ne172 (own_ninC ne199 (own_ninC ne228 (own_ninC ne259 own_nin0)))))))).keep K379 (own_ninC ne292 own_nin0))
                      have F423 := (u341_0.keep K379 (own_ninC ne294 own_nin0))
                      have F424 := (u341_1.keep K379 (own_ninC ne296 own_nin0))
                      have F425 := (u341_2.keep K379 (own_ninC ne298 own_nin0))
                      have F426 := (u341_3.keep K379 (own_ninC ne300 own_nin0))
                      have F427 := (u341_4.keep K379 (own_ninC ne302 own_nin0))
                      have F428 := (u341_5.keep K379 (own_ninC ne304 own_nin0))
                      have F429 := (u341_6.keep K379 (own_ninC ne306 own_nin0))
                      have F430 := ((F339_24.keep K341 (own_ninC ns1 (own_ninC ns2 (own_ninC ns3 (own_ninC ns4 (own_ninC ns5 (own_ninC ns6 (own_ninC ns7 own_nin0)))))))).keep K379 (own_ninC ns0 own_nin0))
                      have F431 := ((F339_25.keep K341 (own_ninC ns9 (own_ninC ns10 (own_ninC ns11 (own_ninC ns12 (own_ninC ns13 (own_ninC ns14 (own_ninC ns15 own_nin0)))))))).keep K379 (own_ninC ns8 own_nin0))
                      exact ih339 T379 _ T379.heap (tb + 1) (x12 + (1 : Int32)) (vl1.set tb (.long (own_km (own_ml (nB.toInt32) nB) (own_ch (nB.toInt32) nc tb) nc))) (vl2.set tb (.ref p2_341)) (vl3.set tb (.ref p3_341)) (vl4.set tb (.ref p4_341)) (vl5.set tb (.long e5_341)) (vl6.set tb (.long e6_341)) (vl7.set tb (.ref p7_341)) s1 ks1 n1 l1 s2 ks2 l2 (ownUp Xh379 own_cv own_cv) rfl N379 Z380 K381 F407 F408 F409 F410 F411 F412 F413 F414 F415 F416 F417 F418 F419 F420 F421 F422 F423 F424 F425 F426 F427 F428 F429 (by rw [own_ch]; exact u379_0) F430 F431 hltb (by rw [hx12]; exact own_succ tb) (by rw [List.length_set]; exact hvl1) (by rw [List.length_set]; exact hvl2) (by rw [List.length_set]; exact hvl3) (by rw [List.length_set]; exact hvl4) (by rw [List.length_set]; exact hvl5) (by rw [List.length_set]; exact hvl6) (by rw [List.length_set]; exact hvl7) (fun q => by have z := hgh (own_lt1 q htq); exact ⟨by rw [own_gset_ne htq]; exact z.1, by rw [own_gset_ne htq]; exact z.2.1, z.2.2⟩) ns0 ns1 ns2 ns3 ns4 ns5 ns6 ns7 ns8 ns9 ns10 ns11 ns12 ns13 ns14 ns15 (own_dm hltb hk)
                  · refine gv (fun t k => XS.icmpYes X339.here hx rfl (pc0 := 433) (pc' := 462) rfl (hb hby d3_433) rfl (flt hc340).2.1 (by decide) (by decide) k) ?_
                    show Go p.tables e below P T339 (mkF m 462 #[vr oa, vi (nD.toInt32), vi (nB.toInt32), vi 1, vj ((nC.toInt32).toInt64), v2, vr b22, vr b29, vi x8, vr b68, vi (nC.toInt32), vr b283, vi x12, vu] [])
                    have hgx := hgh (by have q := hc340; rw [hx12, own_ltN (Nat.lt_of_le_of_lt htb sC) sC] at q; exact Nat.lt_of_lt_of_le htt (Nat.le_of_not_lt q))
                    obtain ⟨fs, hr, hrun, hended, hW, hsame⟩ := X339.leave (v := none) (fun _ => rfl)
                    refine ⟨_, _, X339.returnOut hx Bd.returns (hb hby d3_462) hr, hrun, hended, hP _ _ ⟨_, _, rfl, ?_, ⟨_, rfl⟩, hW, hsame.mono (own_cw (Nat.le_trans htb hC10) (by decide)) (own_cw (Nat.le_trans htb hC10) (by decide))⟩⟩
                    show Q3 Z oa nB nD nC nc tt h0 n0 _ T339.heap _
                    rw [e339]
                    exact ⟨b115, b138, k115, k138, vl2, vl3, s1, s2, ks1, ks2, rfl, N339, K339, F339_0, F339_4, F339_5, F339_17, F339_18, (by rw [← hgx.2.2.1, ← hgx.2.2.2.1]; exact F339_24), (by rw [← hgx.2.2.1, ← hgx.2.2.2.2]; exact F339_25), hgx.1, hgx.2.1⟩
              exact LP339 _ T312 _ hp312 0 (0 : Int32) (List.replicate 10 (.long 0)) (List.replicate 10 .null) (List.replicate 10 .null) (List.replicate 10 .null) (List.replicate 10 (.long 0)) (List.replicate 10 (.long 0)) (List.replicate 10 .null) b29 k29 nB (own_sl (nB.toInt32) nB) b29 k29 (own_sl (nB.toInt32) nB) (ownUp X312 (by decide) (by decide)) e312 N312 Z312 K312 F312_0 F312_1 F312_2 F312_3 F312_4 F312_5 F312_6 F312_7 F312_8 F312_9 F312_10 F312_11 F312_12 F312_13 F312_14 F312_15 F312_16 F312_17 F312_18 F312_19 F312_20 F312_21 F312_22 F312_23 F312_13 F312_13 (Nat.zero_le _) rfl rfl rfl rfl rfl rfl rfl rfl (fun q => absurd q (Nat.not_lt_zero _)) ne288 ne99 ne120 ne143 ne168 ne195 ne224 ne255 ne288 ne99 ne120 ne143 ne168 ne195 ne224 ne255 (Nat.lt_succ_self _)
        have F433 := ((F277.wr W279).ext E283)
        have F434 := ((((((((((((((((((F37_1.ext E68).ext E76).other W90 (Or.inr (own_sn29 hw))).ext E94).other W111 (Or.inr (own_sn30 hw))).ext E115).other W134 (Or.inr (own_sn31 hw))).ext E138).other W159 (Or.inr (own_sn32 hw))).ext E163).other W186 (Or.inr (own_sn33 hw))).ext E190).other W215 (Or.inr (own_sn34 hw))).ext E219).other W246 (Or.inr (own_sn35 hw))).ext E250).other W279 (Or.inr (own_sn36 hw))).ext E283)
        have F435 := ((((((((((((((((((F37_2.ext E68).ext E76).other W90 (Or.inr (own_sn37 hw))).ext E94).other W111 (Or.inr (own_sn38 hw))).ext E115).other W134 (Or.inr (own_sn39 hw))).ext E138).other W159 (Or.inr (own_sn40 hw))).ext E163).other W186 (Or.inr (own_sn41 hw))).ext E190).other W215 (Or.inr (own_sn42 hw))).ext E219).other W246 (Or.inr (own_sn43 hw))).ext E250).other W279 (Or.inr (own_sn44 hw))).ext E283)
        have F436 := (((((((((((((Fw111.ext E115).other W134 (Or.inr (own_sn45 hw))).ext E138).other W159 (Or.inr (own_sn46 hw))).ext E163).other W186 (Or.inr (own_sn47 hw))).ext E190).other W215 (Or.inr (own_sn48 hw))).ext E219).other W246 (Or.inr (own_sn49 hw))).ext E250).other W279 (Or.inr (own_sn50 hw))).ext E283)
        have F437 := (((((((((((Fw134.ext E138).other W159 (Or.inr (own_sn51 hw))).ext E163).other W186 (Or.inr (own_sn52 hw))).ext E190).other W215 (Or.inr (own_sn53 hw))).ext E219).other W246 (Or.inr (own_sn54 hw))).ext E250).other W279 (Or.inr (own_sn55 hw))).ext E283)
        have F438 := (((((((((Fw159.ext E163).other W186 (Or.inr (own_sn56 hw))).ext E190).other W215 (Or.inr (own_sn57 hw))).ext E219).other W246 (Or.inr (own_sn58 hw))).ext E250).other W279 (Or.inr (own_sn59 hw))).ext E283)
        have F439 := (((((((((((((((Fw90.ext E94).other W111 (Or.inr (own_sn60 hw))).ext E115).other W134 (Or.inr (own_sn61 hw))).ext E138).other W159 (Or.inr (own_sn62 hw))).ext E163).other W186 (Or.inr (own_sn63 hw))).ext E190).other W215 (Or.inr (own_sn64 hw))).ext E219).other W246 (Or.inr (own_sn65 hw))).ext E250).other W279 (Or.inr (own_sn66 hw))).ext E283)
        have F440 := (((((((Fw186.ext E190).other W215 (Or.inr (own_sn67 hw))).ext E219).other W246 (Or.inr (own_sn68 hw))).ext E250).other W279 (Or.inr (own_sn69 hw))).ext E283)
        have F441 := (((((Fw215.ext E219).other W246 (Or.inr (own_sn70 hw))).ext E250).other W279 (Or.inr (own_sn71 hw))).ext E283)
        have F442 := (((Fw246.ext E250).other W279 (Or.inr (own_sn72 hw))).ext E283)
        have F443 := (Fw279.ext E283)
        have F444 := (F285.ext E283)
        have F445 := (F287.ext E283)
        have F446 := (F289.ext E283)
        have F447 := (F291.ext E283)
        have F448 := (F293.ext E283)
        have F449 := (F295.ext E283)
        have F450 := (F297.ext E283)
        have F451 := (F299.ext E283)
        have F452 := (F301.ext E283)
        have F453 := (F303.ext E283)
        have F454 := (F305.ext E283)
        have F455 := (F307.ext E283)
        exact LP312 _ T283 _ h283 0 (0 : Int32) X283 e283 N282 Z310 K311 F433 F434 F435 F436 F437 F438 F439 F440 F441 F442 F443 F444 F445 F446 F447 F448 F449 F450 F451 F452 F453 F454 F455 V283 (Nat.zero_le _) rfl (Nat.lt_succ_self _)
  have F456 := (((F16.wr W18).ext E22).ext E29)
  have F457 := ((((Fw7.ext E11).other W18 (Or.inr (own_sn73 hw))).ext E22).ext E29)
  have F458 := ((Fw18.ext E22).ext E29)
  have F459 := ((((((P3.keep K2 own_nin0).other W7 (Or.inr (own_sn74 hw))).ext E11).other W18 (Or.inr (own_sn75 hw))).ext E22).ext E29)
  have F460 := ((((((P4.keep K2 own_nin0).other W7 (Or.inr (own_sn76 hw))).ext E11).other W18 (Or.inr (own_sn77 hw))).ext E22).ext E29)
  have F461 := ((((((P5.keep K2 own_nin0).other W7 (Or.inr (own_sn78 hw))).ext E11).other W18 (Or.inr (own_sn79 hw))).ext E22).ext E29)
  have F462 := ((((((P6.keep K2 own_nin0).other W7 (Or.inr (own_sn80 hw))).ext E11).other W18 (Or.inr (own_sn81 hw))).ext E22).ext E29)
  have F463 := ((((((P7.keep K2 own_nin0).other W7 (Or.inr (own_sn82 hw))).ext E11).other W18 (Or.inr (own_sn83 hw))).ext E22).ext E29)
  have F464 := ((((((P8.keep K2 own_nin0).other W7 (Or.inr (own_sn84 hw))).ext E11).other W18 (Or.inr (own_sn85 hw))).ext E22).ext E29)
  have F465 := ((((((P9.keep K2 own_nin0).other W7 (Or.inr (own_sn86 hw))).ext E11).other W18 (Or.inr (own_sn87 hw))).ext E22).ext E29)
  have F466 := ((((((P10.keep K2 own_nin0).other W7 (Or.inr (own_sn88 hw))).ext E11).other W18 (Or.inr (own_sn89 hw))).ext E22).ext E29)
  have F467 := (F31.ext E29)
  have F468 := (V22.ext E29)
  exact LP37 _ T29 _ h29 0 (0 : Int32) (64 : Int32) X29 e29 N21 Z35 K36 F456 F457 F458 F459 F460 F461 F462 F463 F464 F465 F466 F467 F468 V29 (Nat.zero_le _) rfl rfl (Nat.lt_succ_self _)
theorem d3_54 : D20 54 (.iconst 0) 1 := by decide +kernel
theorem d3_68 : D20 68 (.iload_n 2) 1 := by decide +kernel
theorem d3_69 : D20 69 (.i2l) 1 := by decide +kernel
theorem d3_211 : D20 211 (.iload_n 1) 1 := by decide +kernel
theorem d3_212 : D20 212 (.iconst 1) 1 := by decide +kernel
theorem d3_213 : D20 213 (.iadd) 1 := by decide +kernel
theorem d3_214 : D20 214 (.iload_n 2) 1 := by decide +kernel
theorem d3_215 : D20 215 (.isub) 1 := by decide +kernel
theorem d3_216 : D20 216 (.istore 10) 2 := by decide +kernel
theorem d3_218 : D20 218 (.iconst 0) 1 := by decide +kernel
theorem d3_219 : D20 219 (.istore 11) 2 := by decide +kernel
theorem d3_221 : D20 221 (.iload 11) 2 := by decide +kernel
theorem d3_223 : D20 223 (.iload_n 2) 1 := by decide +kernel
theorem d3_224 : D20 224 (.if_icmp .ge 81) 3 := by decide +kernel
theorem d3_227 : D20 227 (.aload 9) 2 := by decide +kernel
theorem d3_229 : D20 229 (.iload 11) 2 := by decide +kernel
theorem d3_231 : D20 231 (.iload 10) 2 := by decide +kernel
theorem d3_233 : D20 233 (.iload_n 2) 1 := by decide +kernel
theorem d3_234 : D20 234 (.idiv) 1 := by decide +kernel
theorem d3_235 : D20 235 (.iload 11) 2 := by decide +kernel
theorem d3_237 : D20 237 (.iload 10) 2 := by decide +kernel
theorem d3_239 : D20 239 (.iload_n 2) 1 := by decide +kernel
theorem d3_240 : D20 240 (.irem) 1 := by decide +kernel
theorem d3_241 : D20 241 (.if_icmp .ge 7) 3 := by decide +kernel
theorem d3_244 : D20 244 (.iconst 1) 1 := by decide +kernel
theorem d3_245 : D20 245 (.goto 4) 3 := by decide +kernel
theorem d3_248 : D20 248 (.iconst 0) 1 := by decide +kernel
theorem d3_249 : D20 249 (.iadd) 1 := by decide +kernel
theorem d3_250 : D20 250 (.iastore) 1 := by decide +kernel
theorem d3_251 : D20 251 (.aload_n 0) 1 := by decide +kernel
theorem d3_252 : D20 252 (.getfield 43) 3 := by decide +kernel
theorem d3_255 : D20 255 (.iload 11) 2 := by decide +kernel
theorem d3_257 : D20 257 (.iaload) 1 := by decide +kernel
theorem d3_258 : D20 258 (.aload 9) 2 := by decide +kernel
theorem d3_260 : D20 260 (.iload 11) 2 := by decide +kernel
theorem d3_262 : D20 262 (.iaload) 1 := by decide +kernel
theorem d3_263 : D20 263 (.invokestatic 51) 3 := by decide +kernel
theorem d3_266 : D20 266 (.lstore 12) 2 := by decide +kernel
theorem d3_268 : D20 268 (.lload 12) 2 := by decide +kernel
theorem d3_270 : D20 270 (.ldc2_w 54) 3 := by decide +kernel
theorem d3_273 : D20 273 (.invokestatic 56) 3 := by decide +kernel
theorem d3_276 : D20 276 (.ifCond .le 23) 3 := by decide +kernel
theorem d3_299 : D20 299 (.iinc 11 1) 3 := by decide +kernel
theorem d3_302 : D20 302 (.goto (-81)) 3 := by decide +kernel
theorem d3_322 : D20 322 (.aload 9) 2 := by decide +kernel
theorem d3_397 : D20 397 (.iconst 1) 1 := by decide +kernel
theorem ef_3o (m : MethodId) (x0 : Addr) : entryFrame m #[(.ref x0), (.int 2), (.int 2)] 14 = mkF m 0 #[.val (.ref x0), .val (.int 2), .val (.int 2), .unset, .unset, .unset, .unset, .unset, .unset, .unset, .unset, .unset, .unset, .unset] [] := by first | (simp [entryFrame, mkF, argsToLocals, Value.category]; done) | rfl
def Q3o (Z : State) (oa : Addr) (tt : Nat) (h0 : Heap) (n0 : Nat) (v : Option Value) (h : Heap) (L : List Loc) : Prop := ∃ (or2 : Addr) (or3 : Addr) (ck2 : ClassId) (ck3 : ClassId) (vl2 : List Value) (vl3 : List Value) (s1 : Addr) (s2 : Addr) (ks1 : ClassId) (ks2 : ClassId), v = none ∧ Fr n0 L ∧ Keep h0 h [oa] ∧ Exa Z h oa BLn ∧ Fld Z h oa BLn "runShifts" "[[I" (.ref or2) ∧ Fld Z h oa BLn "runWidths" "[[I" (.ref or3) ∧ Arv Z h or2 ck2 (.array .int) ((2 : Nat).toInt32) vl2 .null ∧ Arv Z h or3 ck3 (.array .int) ((2 : Nat).toInt32) vl3 .null ∧ Arv Z h s1 ks1 .int ((own_rs (own_ch (2 : Int32) 1 tt) (own_sl (2 : Int32) 2) (own_wl (2 : Int32) 2) 1).1.toInt32) ((own_rs (own_ch (2 : Int32) 1 tt) (own_sl (2 : Int32) 2) (own_wl (2 : Int32) 2) 1).2.1.map Value.int) (.int 0) ∧ Arv Z h s2 ks2 .int ((own_rs (own_ch (2 : Int32) 1 tt) (own_sl (2 : Int32) 2) (own_wl (2 : Int32) 2) 1).1.toInt32) ((own_rs (own_ch (2 : Int32) 1 tt) (own_sl (2 : Int32) 2) (own_wl (2 : Int32) 2) 1).2.2.map Value.int) (.int 0) ∧ (vl2.getD tt .null = .ref s1) ∧ (vl3.getD tt .null = .ref s2)
set_option maxRecDepth 65536 in
set_option maxHeartbeats 40000000 in
theorem rm3o (l : Launch) (Z : State) (a0 : Array Value) (hw : ∀ d ∈ tables_1, d.before a0 Z = true) (ws : List Jvm.Cond) (oa : Addr) (tt : Nat) (h0 : Heap) (n0 : Nat) (Z0 : n0 ≤ h0.size) (P0 : Exa Z h0 oa BLn) (P1 : Fld Z h0 oa BLn "distance" "I" (.int 0)) (P2 : Fld Z h0 oa BLn "widths" "[I" .null) (P3 : Fld Z h0 oa BLn "keyMasks" "[J" .null) (P4 : Fld Z h0 oa BLn "runShifts" "[[I" .null) (P5 : Fld Z h0 oa BLn "runWidths" "[[I" .null) (P6 : Fld Z h0 oa BLn "radii" "[I" .null) (P7 : Fld Z h0 oa BLn "keyDifferences" "[[J" .null) (P8 : Fld Z h0 oa BLn "skippedTops" "[J" .null) (P9 : Fld Z h0 oa BLn "skippedLows" "[J" .null) (P10 : Fld Z h0 oa BLn "earlierWithRadius" "[[I" .null) (ga : n0 ≤ oa) (htt : tt < 2) :
    MetFree l (⟨BLn, "<init>", "(II)V"⟩ : MethodName) (head1 (Jvm.Cond.code (⟨BLn, "<init>", "(II)V"⟩ : MethodName) prog_1_method_2_code 14 none :: ws) ({ frames := 4, cells := 37, slots := 720, locals := 97 } : Room)) (fun a U => a = #[(.ref oa), (.int 2), (.int 2)] ∧ Z.Warmed39 U.vm ∧ U.heap = h0) (fun _ _ _ _ _ => True) (fun _ U o U' => ∃ v L, o = .returned v ∧ Q3o Z oa tt h0 n0 v U'.heap L ∧ FrameEnd U o U' L ({ frames := 4, cells := 37, slots := 720, locals := 97 } : Room).cells ({ frames := 4, cells := 37, slots := 720, locals := 97 } : Room).slots) := by
  refine MetFree.of_bodySF (plainFor_of_name own_pn1) hisR ?_
  intro p e s m args below meth c s₁ Bd hml0 hP hK
  obtain ⟨rfl, hZ, hh⟩ := hP
  have hx := Bd.exec
  have hby := Bd.bytes
  have hml : c.maxLocals = 14 := hml0
  have hown : s.vm.findClass BLn = some m.cls := findClass_of_methodNamed Bd.named
  have hnm := (name_of_methodNamed Bd.named Bd.method).1
  have X0 : Stand p l e ({ frames := 4, cells := 37, slots := 720, locals := 97 } : Room) s m #[(.ref oa), (.int 2), (.int 2)] below meth c s₁ [] 0 0 := Stand.of_body Bd
  have e0 : s₁.heap = h0 := by rw [← hh, Bd.state]; rfl
  have N0 := Fr.nil n0
  have K0 : Keep h0 h0 [oa] := Keep.refl _ _
  suffices GO : ∀ P : Outcome → State → Prop, (∀ o U', (∃ v L, o = .returned v ∧ Q3o Z oa tt h0 n0 v U'.heap L ∧ FrameEnd s o U' L ({ frames := 4, cells := 37, slots := 720, locals := 97 } : Room).cells ({ frames := 4, cells := 37, slots := 720, locals := 97 } : Room).slots) → P o U') → Go p.tables e below P s₁ (mkF m 0 #[.val (.ref oa), .val (.int 2), .val (.int 2), .unset, .unset, .unset, .unset, .unset, .unset, .unset, .unset, .unset, .unset, .unset] []) by
    obtain ⟨s2, o, st, r⟩ := GO _ (fun _ _ q => q)
    exact ⟨s2, o, castTop (ef_3o m oa) st, r⟩
  clear hh
  intro P hP
  show Go p.tables e below P s₁ (mkF m 0 #[vr oa, vi 2, vi 2, vu, vu, vu, vu, vu, vu, vu, vu, vu, vu, vu] [])
  refine gv (fun t k => XS.aloadN X0.here hx rfl (hb hby d3_0) rfl rfl k) ?_
  obtain ⟨T1, X1, e1, st1⟩ := initO X0 hx hZ hown (own_g hw 15 rfl) (own_g hw 16 rfl) (own_g hw 17 rfl) e0 (g := (mkF m 1 #[vr oa, vi 2, vi 2, vu, vu, vu, vu, vu, vu, vu, vu, vu, vu, vu] [(.ref oa)])) rfl (by rw [hml]; rfl) rfl (hb hby d3_1) (by decide) (W := 0) (by show 2 * 0 + _ ≤ _; exact Nat.le_of_eq rfl) (by decide)
  refine gv st1 ?_
  refine gv (fun t k => XS.iloadN X1.here hx rfl (hb hby d3_4) rfl k) ?_
  refine gv (fun t k => XS.ifNo X1.here hx rfl (hb hby d3_5) rfl ((if0 _ _).trans (flt (by decide : ¬ ((2 : Int32) < (0 : Int32)))).1) k) ?_
  refine gv (fun t k => XS.iloadN X1.here hx rfl (hb hby d3_8) rfl k) ?_
  refine gv (fun t k => XS.bipush X1.here hx rfl (hb hby d3_9) k) ?_
  refine gv (fun t k => XS.icmpYes X1.here hx rfl (pc0 := 11) (pc' := 24) rfl (hb hby d3_11) rfl (flt (by decide : ¬ ((63 : Int32) < (2 : Int32)))).2.2.2 (by decide) (by decide) k) ?_
  refine gv (fun t k => XS.iloadN X1.here hx rfl (hb hby d3_24) rfl k) ?_
  refine gv (fun t k => XS.iconst X1.here hx rfl (hb hby d3_25) k) ?_
  show Go p.tables e below P T1 (mkF m 26 #[vr oa, vi 2, vi 2, vu, vu, vu, vu, vu, vu, vu, vu, vu, vu, vu] [(.int 1), (.int 2)])
  refine gv (fun t k => XS.icmpNo X1.here hx rfl (hb hby d3_26) rfl (flt (by decide : ¬ ((2 : Int32) < (1 : Int32)))).1 k) ?_
  refine gv (fun t k => XS.iloadN X1.here hx rfl (hb hby d3_29) rfl k) ?_
  refine gv (fun t k => XS.bipush X1.here hx rfl (hb hby d3_30) k) ?_
  refine gv (fun t k => XS.icmpYes X1.here hx rfl (pc0 := 32) (pc' := 45) rfl (hb hby d3_32) rfl (flt (by decide : ¬ ((64 : Int32) < (2 : Int32)))).2.2.2 (by decide) (by decide) k) ?_
  refine gv (fun t k => XS.iloadN X1.here hx rfl (hb hby d3_45) rfl k) ?_
  refine gv (fun t k => XS.iloadN X1.here hx rfl (hb hby d3_46) rfl k) ?_
  refine gv (fun t k => XS.icmpYes X1.here hx rfl (pc0 := 47) (pc' := 54) rfl (hb hby d3_47) rfl (flt (by decide : ¬ ((2 : Int32) < (2 : Int32)))).2.2.2 (by decide) (by decide) k) ?_
  refine gv (fun t k => XS.iconst X1.here hx rfl (hb hby d3_54) k) ?_
  refine gv (fun t k => XS.istoreN X1.here hx rfl (hb hby d3_55) rfl (l' := #[vr oa, vi 2, vi 2, vi 0, vu, vu, vu, vu, vu, vu, vu, vu, vu, vu]) rfl k) ?_
  show Go p.tables e below P T1 (mkF m 56 #[vr oa, vi 2, vi 2, vi 0, vu, vu, vu, vu, vu, vu, vu, vu, vu, vu] [])
  refine gv (fun t k => XS.iloadN X1.here hx rfl (hb hby d3_56) rfl k) ?_
  refine gv (fun t k => XS.ifYes X1.here hx rfl (pc0 := 57) (pc' := 68) rfl (hb hby d3_57) rfl ((if0 _ _).trans (teq (rfl : (0 : Int32) = (0 : Int32))).1) (by decide) (by decide) k) ?_
  refine gv (fun t k => XS.iloadN X1.here hx rfl (hb hby d3_68) rfl k) ?_
  refine gv (fun t k => XS.i2l X1.here hx rfl (hb hby d3_69) rfl k) ?_
  refine gv (fun t k => XS.lstore X1.here hx rfl (hb hby d3_70) rfl (l' := #[vr oa, vi 2, vi 2, vi 0, vj ((2 : Int32).toInt64), v2, vu, vu, vu, vu, vu, vu, vu, vu]) rfl k) ?_
  refine gv (fun t k => XS.lload X1.here hx rfl (hb hby d3_72) rfl k) ?_
  refine gv (fun t k => X1.ldc2Long hx hown (mvT hZ (own_g hw 22 rfl)) (g := (mkF m 74 #[vr oa, vi 2, vi 2, vi 0, vj ((2 : Int32).toInt64), v2, vu, vu, vu, vu, vu, vu, vu, vu] [(.long ((2 : Int32).toInt64))])) rfl (hb hby d3_74) t k) ?_
  refine gv (fun t k => XS.lcmp X1.here hx rfl (hb hby d3_77) rfl k) ?_
  refine gv (fun t k => XS.ifYes X1.here hx rfl (pc0 := 78) (pc' := 98) rfl (hb hby d3_78) rfl ((if0 _ _).trans (flt (by decide)).2.2.2) (by decide) (by decide) k) ?_
  show Go p.tables e below P T1 (mkF m 98 #[vr oa, vi 2, vi 2, vi 0, vj ((2 : Int32).toInt64), v2, vu, vu, vu, vu, vu, vu, vu, vu] [])
  refine gv (fun t k => XS.aloadN X1.here hx rfl (hb hby d3_98) rfl rfl k) ?_
  refine gv (fun t k => XS.iloadN X1.here hx rfl (hb hby d3_99) rfl k) ?_
  obtain ⟨T2, h2, X2, e2, W2, st2⟩ := putF X1 hx hZ hown (host := "") (Or.inl (own_g hw 23 rfl)) Via.refl e1 P1 P0 (Or.inr ⟨(own_g hw 24 rfl), rfl, hnm⟩) (own_g hw 10 rfl) (ty := .int) (by decide) rfl rfl (g := (mkF m 100 #[vr oa, vi 2, vi 2, vi 0, vj ((2 : Int32).toInt64), v2, vu, vu, vu, vu, vu, vu, vu, vu] [(.int 2), (.ref oa)])) rfl rfl (hb hby d3_100)
  refine gv st2 ?_
  have Z3 := Nat.le_trans Z0 (Nat.le_of_eq W2.size.symm)
  have K4 := K0.wr W2 (Or.inl (List.mem_of_getElem? (i := 0) rfl))
  obtain ⟨lc2, Xh2, N5⟩ := own_hide X2 (Fr.snoc X2 N0 ga)
  clear X2
  have Fw2 := P1.same W2
  refine gv (fun t k => XS.aloadN Xh2.here hx rfl (hb hby d3_103) rfl rfl k) ?_
  refine gv (fun t k => XS.iloadN Xh2.here hx rfl (hb hby d3_104) rfl k) ?_
  obtain ⟨T6, h6, k6, X6, e6, E6, A6, st6⟩ := newP Xh2 hx hZ (own_g hw 1 rfl) e2 (g := (mkF m 105 #[vr oa, vi 2, vi 2, vi 0, vj ((2 : Int32).toInt64), v2, vu, vu, vu, vu, vu, vu, vu, vu] [(.int 2), (.ref oa)])) rfl (hb hby d3_105) rfl (by decide) (cap := 2) (by decide) (by decide) (by decide) (by decide)
  obtain ⟨b6, g6⟩ : ∃ z, z = h2.size := ⟨_, rfl⟩
  rw [← g6] at A6 st6
  refine gv st6 ?_
  have g7 := Nat.le_trans Z3 (Nat.le_of_eq g6.symm)
  have sz8 := Nat.le_trans K4.1 (Nat.le_of_eq g6.symm)
  have Z9 := Nat.le_trans Z3 E6.1
  have K10 := K4.ext E6
  have V6 : Arv Z h6 b6 k6 .int (2 : Int32) [(.int 0), (.int 0)] (.int 0) := (Arv.new A6 (by decide)).pad (pad_rep [] (.int 0) 2)
  have F11 := ((P0.wr W2).ext E6)
  have F12 := ((P2.other W2 (Or.inr (own_sn0 hw))).ext E6)
  obtain ⟨T13, h13, X13, e13, W13, st13⟩ := putF X6 hx hZ hown (host := "") (Or.inl (own_g hw 25 rfl)) Via.refl e6 F12 F11 (Or.inr ⟨(own_g hw 26 rfl), rfl, hnm⟩) (own_g hw 10 rfl) (ty := (.array .int)) (by decide) rfl rfl (g := (mkF m 107 #[vr oa, vi 2, vi 2, vi 0, vj ((2 : Int32).toInt64), v2, vu, vu, vu, vu, vu, vu, vu, vu] [(.ref b6), (.ref oa)])) rfl rfl (hb hby d3_107)
  refine gv st13 ?_
  have Z14 := Nat.le_trans Z9 (Nat.le_of_eq W13.size.symm)
  have K15 := K10.wr W13 (Or.inl (List.mem_of_getElem? (i := 0) rfl))
  obtain ⟨lc13, Xh13, N16⟩ := own_hide X13 (Fr.snoc X13 N5 ga)
  clear X13
  have Fw13 := F12.same W13
  refine gv (fun t k => XS.iloadN Xh13.here hx rfl (hb hby d3_110) rfl k) ?_
  obtain ⟨T17, h17, k17, X17, e17, E17, A17, st17⟩ := newP Xh13 hx hZ (own_g hw 21 rfl) e13 (g := (mkF m 111 #[vr oa, vi 2, vi 2, vi 0, vj ((2 : Int32).toInt64), v2, vu, vu, vu, vu, vu, vu, vu, vu] [(.int 2)])) rfl (hb hby d3_111) rfl (by decide) (cap := 2) (by decide) (by decide) (by decide) (by decide)
  obtain ⟨b17, g17⟩ : ∃ z, z = h13.size := ⟨_, rfl⟩
  rw [← g17] at A17 st17
  refine gv st17 ?_
  have F19 := (V6.other W13 (Ne.symm (Nat.ne_of_lt (Nat.lt_of_lt_of_le P0.lt sz8))))
  have ne18 := Nat.ne_of_lt (Nat.lt_of_lt_of_le F19.lt (Nat.le_of_eq g17.symm))
  have g20 := Nat.le_trans Z14 (Nat.le_of_eq g17.symm)
  have sz21 := Nat.le_trans K15.1 (Nat.le_of_eq g17.symm)
  have Z22 := Nat.le_trans Z14 E17.1
  have K23 := K15.ext E17
  have V17 : Arv Z h17 b17 k17 .long (2 : Int32) [(.long 0), (.long 0)] (.long 0) := (Arv.new A17 (by decide)).pad (pad_rep [] (.long 0) 2)
  show Go p.tables e below P T17 (mkF m 113 #[vr oa, vi 2, vi 2, vi 0, vj ((2 : Int32).toInt64), v2, vu, vu, vu, vu, vu, vu, vu, vu] [(.ref b17)])
  refine gv (fun t k => XS.astore X17.here hx rfl (hb hby d3_113) rfl rfl (l' := #[vr oa, vi 2, vi 2, vi 0, vj ((2 : Int32).toInt64), v2, vr b17, vu, vu, vu, vu, vu, vu, vu]) rfl k) ?_
  refine gv (fun t k => XS.iloadN X17.here hx rfl (hb hby d3_115) rfl k) ?_
  obtain ⟨T24, h24, k24, X24, e24, E24, A24, st24⟩ := newP X17 hx hZ (own_g hw 1 rfl) e17 (g := (mkF m 116 #[vr oa, vi 2, vi 2, vi 0, vj ((2 : Int32).toInt64), v2, vr b17, vu, vu, vu, vu, vu, vu, vu] [(.int 2)])) rfl (hb hby d3_116) rfl (by decide) (cap := 2) (by decide) (by decide) (by decide) (by decide)
  obtain ⟨b24, g24⟩ : ∃ z, z = h17.size := ⟨_, rfl⟩
  rw [← g24] at A24 st24
  refine gv st24 ?_
  have F26 := (F19.ext E17)
  have ne25 := Nat.ne_of_lt (Nat.lt_of_lt_of_le F26.lt (Nat.le_of_eq g24.symm))
  have ne27 := Nat.ne_of_lt (Nat.lt_of_lt_of_le V17.lt (Nat.le_of_eq g24.symm))
  have g28 := Nat.le_trans Z22 (Nat.le_of_eq g24.symm)
  have sz29 := Nat.le_trans K23.1 (Nat.le_of_eq g24.symm)
  have Z30 := Nat.le_trans Z22 E24.1
  have K31 := K23.ext E24
  have V24 : Arv Z h24 b24 k24 .int (2 : Int32) [(.int 0), (.int 0)] (.int 0) := (Arv.new A24 (by decide)).pad (pad_rep [] (.int 0) 2)
  refine gv (fun t k => XS.astore X24.here hx rfl (hb hby d3_118) rfl rfl (l' := #[vr oa, vi 2, vi 2, vi 0, vj ((2 : Int32).toInt64), v2, vr b17, vr b24, vu, vu, vu, vu, vu, vu]) rfl k) ?_
  refine gv (fun t k => XS.bipush X24.here hx rfl (hb hby d3_120) k) ?_
  refine gv (fun t k => XS.istore X24.here hx rfl (hb hby d3_122) rfl (l' := #[vr oa, vi 2, vi 2, vi 0, vj ((2 : Int32).toInt64), v2, vr b17, vr b24, vi 64, vu, vu, vu, vu, vu]) rfl k) ?_
  refine gv (fun t k => XS.iconst X24.here hx rfl (hb hby d3_124) k) ?_
  refine gv (fun t k => XS.istore X24.here hx rfl (hb hby d3_125) rfl (l' := #[vr oa, vi 2, vi 2, vi 0, vj ((2 : Int32).toInt64), v2, vr b17, vr b24, vi 64, vi 0, vu, vu, vu, vu]) rfl k) ?_
  refine gv (fun t k => XS.iload X24.here hx rfl (hb hby d3_127) rfl k) ?_
  show Go p.tables e below P T24 (mkF m 129 #[vr oa, vi 2, vi 2, vi 0, vj ((2 : Int32).toInt64), v2, vr b17, vr b24, vi 64, vi 0, vu, vu, vu, vu] [(.int 0)])
  refine gv (fun t k => XS.iloadN X24.here hx rfl (hb hby d3_129) rfl k) ?_
  refine gv (fun t k => XS.icmpNo X24.here hx rfl (hb hby d3_130) rfl (tlt (by decide : (0 : Int32) < (2 : Int32))).2.1 k) ?_
  refine gv (fun t k => XS.aloadN X24.here hx rfl (hb hby d3_133) rfl rfl k) ?_
  have F32 := ((Fw13.ext E17).ext E24)
  obtain ⟨T33, X33, e33, st33⟩ := getF X24 hx hZ hown (host := "") (Or.inl (own_g hw 25 rfl)) Via.refl e24 F32 (g := (mkF m 134 #[vr oa, vi 2, vi 2, vi 0, vj ((2 : Int32).toInt64), v2, vr b17, vr b24, vi 64, vi 0, vu, vu, vu, vu] [(.ref oa)])) rfl rfl (hb hby d3_134)
  refine gv st33 ?_
  refine gv (fun t k => XS.iload X33.here hx rfl (hb hby d3_137) rfl k) ?_
  refine gv (fun t k => XS.bipush X33.here hx rfl (hb hby d3_139) k) ?_
  refine gv (fun t k => XS.iloadN X33.here hx rfl (hb hby d3_141) rfl k) ?_
  refine gv (fun t k => XS.idiv X33.here hx rfl (hb hby d3_142) rfl (by decide) k) ?_
  refine gv (fun t k => XS.iload X33.here hx rfl (hb hby d3_143) rfl k) ?_
  show Go p.tables e below P T33 (mkF m 145 #[vr oa, vi 2, vi 2, vi 0, vj ((2 : Int32).toInt64), v2, vr b17, vr b24, vi 64, vi 0, vu, vu, vu, vu] [(.int 0), (.int ((64 : Int32) / (2 : Int32))), (.int 0), (.ref b6)])
  refine gv (fun t k => XS.bipush X33.here hx rfl (hb hby d3_145) k) ?_
  refine gv (fun t k => XS.iloadN X33.here hx rfl (hb hby d3_147) rfl k) ?_
  refine gv (fun t k => iremM X33 hx rfl (hb hby d3_148) rfl (by decide) k) ?_
  refine gv (fun t k => XS.icmpYes X33.here hx rfl (pc0 := 149) (pc' := 156) rfl (hb hby d3_149) rfl (flt (by decide : ¬ ((0 : Int32) < ((64 : Int32) % (2 : Int32))))).2.1 (by decide) (by decide) k) ?_
  refine gv (fun t k => XS.iconst X33.here hx rfl (hb hby d3_156) k) ?_
  refine gv (fun t k => XS.iadd X33.here hx rfl (hb hby d3_157) rfl k) ?_
  have F34 := (F26.ext E24)
  obtain ⟨T35, h35, lc35, X35, e35, N35, Z35, K35, W35, V35, st35⟩ := own_stI X33 hx hZ e33 F34 N16 Z30 K31 g7 (Or.inr sz8) (j := (0 : Int32)) ⟨by decide, by decide⟩ (ji := 0) rfl (Nat.le_of_ble_eq_true rfl) (g := (mkF m 158 #[vr oa, vi 2, vi 2, vi 0, vj ((2 : Int32).toInt64), v2, vr b17, vr b24, vi 64, vi 0, vu, vu, vu, vu] [(.int (((64 : Int32) / (2 : Int32)) + (0 : Int32))), (.int 0), (.ref b6)])) rfl rfl (hb hby d3_158)
  refine gv st35 ?_
  refine gv (fun t k => XS.iload X35.here hx rfl (hb hby d3_159) rfl k) ?_
  refine gv (fun t k => XS.aloadN X35.here hx rfl (hb hby d3_161) rfl rfl k) ?_
  show Go p.tables e below P T35 (mkF m 162 #[vr oa, vi 2, vi 2, vi 0, vj ((2 : Int32).toInt64), v2, vr b17, vr b24, vi 64, vi 0, vu, vu, vu, vu] [(.ref oa), (.int 64)])
  have F36 := (F32.other W35 (Or.inl (Nat.ne_of_lt (Nat.lt_of_lt_of_le P0.lt sz8))))
  obtain ⟨T37, X37, e37, st37⟩ := getF X35 hx hZ hown (host := "") (Or.inl (own_g hw 25 rfl)) Via.refl e35 F36 (g := (mkF m 162 #[vr oa, vi 2, vi 2, vi 0, vj ((2 : Int32).toInt64), v2, vr b17, vr b24, vi 64, vi 0, vu, vu, vu, vu] [(.ref oa), (.int 64)])) rfl rfl (hb hby d3_162)
  refine gv st37 ?_
  refine gv (fun t k => XS.iload X37.here hx rfl (hb hby d3_165) rfl k) ?_
  obtain ⟨c38, A38, q38, S38, N38, H38, G38⟩ := id V35
  have hin38 : ¬ ((0 : Int32) < 0 ∨ c38.slots.size ≤ ((0 : Int32)).toNatClampNeg) := inb_of S38 ⟨by decide, by decide⟩
  have hat38 : c38.slots[((0 : Int32)).toNatClampNeg]? = some (.int (((64 : Int32) / (2 : Int32)) + (0 : Int32))) := (H38 _ (Nat.lt_of_not_le fun q => hin38 (Or.inr q))).trans (congrArg some rfl)
  refine gv (fun t k => X37.iaload hx (j := (0 : Int32)) (v := (.int (((64 : Int32) / (2 : Int32)) + (0 : Int32)))) (by rw [e37]; exact A38.1) (State.isArrayOf_alike hZ.alike A38.2.1) A38.2.2 hin38 hat38 (g := (mkF m 167 #[vr oa, vi 2, vi 2, vi 0, vj ((2 : Int32).toInt64), v2, vr b17, vr b24, vi 64, vi 0, vu, vu, vu, vu] [(.int 0), (.ref b6), (.int 64)])) rfl rfl (hb hby d3_167) t k) ?_
  refine gv (fun t k => XS.isub X37.here hx rfl (hb hby d3_168) rfl k) ?_
  refine gv (fun t k => XS.istore X37.here hx rfl (hb hby d3_169) rfl (l' := #[vr oa, vi 2, vi 2, vi 0, vj ((2 : Int32).toInt64), v2, vr b17, vr b24, vi ((64 : Int32) - (((64 : Int32) / (2 : Int32)) + (0 : Int32))), vi 0, vu, vu, vu, vu]) rfl k) ?_
  refine gv (fun t k => XS.aload X37.here hx rfl (hb hby d3_171) rfl rfl k) ?_
  refine gv (fun t k => XS.iload X37.here hx rfl (hb hby d3_173) rfl k) ?_
  refine gv (fun t k => XS.iload X37.here hx rfl (hb hby d3_175) rfl k) ?_
  have F39 := (V24.other W35 (Ne.symm ne25))
  obtain ⟨T40, h40, lc40, X40, e40, N40, Z40, K40, W40, V40, st40⟩ := own_stI X37 hx hZ e37 F39 N35 Z35 K35 g28 (Or.inr sz29) (j := (0 : Int32)) ⟨by decide, by decide⟩ (ji := 0) rfl (Nat.le_of_ble_eq_true rfl) (g := (mkF m 177 #[vr oa, vi 2, vi 2, vi 0, vj ((2 : Int32).toInt64), v2, vr b17, vr b24, vi ((64 : Int32) - (((64 : Int32) / (2 : Int32)) + (0 : Int32))), vi 0, vu, vu, vu, vu] [(.int ((64 : Int32) - (((64 : Int32) / (2 : Int32)) + (0 : Int32)))), (.int 0), (.ref b24)])) rfl rfl (hb hby d3_177)
  refine gv st40 ?_
  show Go p.tables e below P T40 (mkF m 178 #[vr oa, vi 2, vi 2, vi 0, vj ((2 : Int32).toInt64), v2, vr b17, vr b24, vi ((64 : Int32) - (((64 : Int32) / (2 : Int32)) + (0 : Int32))), vi 0, vu, vu, vu, vu] [])
  refine gv (fun t k => XS.aload X40.here hx rfl (hb hby d3_178) rfl rfl k) ?_
  refine gv (fun t k => XS.iload X40.here hx rfl (hb hby d3_180) rfl k) ?_
  refine gv (fun t k => XS.aloadN X40.here hx rfl (hb hby d3_182) rfl rfl k) ?_
  have F41 := (F36.other W40 (Or.inl (Nat.ne_of_lt (Nat.lt_of_lt_of_le P0.lt sz29))))
  obtain ⟨T42, X42, e42, st42⟩ := getF X40 hx hZ hown (host := "") (Or.inl (own_g hw 25 rfl)) Via.refl e40 F41 (g := (mkF m 183 #[vr oa, vi 2, vi 2, vi 0, vj ((2 : Int32).toInt64), v2, vr b17, vr b24, vi ((64 : Int32) - (((64 : Int32) / (2 : Int32)) + (0 : Int32))), vi 0, vu, vu, vu, vu] [(.ref oa), (.int 0), (.ref b17)])) rfl rfl (hb hby d3_183)
  refine gv st42 ?_
  refine gv (fun t k => XS.iload X42.here hx rfl (hb hby d3_186) rfl k) ?_
  have F43 := (V35.other W40 ne25)
  obtain ⟨c44, A44, q44, S44, N44, H44, G44⟩ := id F43
  have hin44 : ¬ ((0 : Int32) < 0 ∨ c44.slots.size ≤ ((0 : Int32)).toNatClampNeg) := inb_of S44 ⟨by decide, by decide⟩
  have hat44 : c44.slots[((0 : Int32)).toNatClampNeg]? = some (.int (((64 : Int32) / (2 : Int32)) + (0 : Int32))) := (H44 _ (Nat.lt_of_not_le fun q => hin44 (Or.inr q))).trans (congrArg some rfl)
  refine gv (fun t k => X42.iaload hx (j := (0 : Int32)) (v := (.int (((64 : Int32) / (2 : Int32)) + (0 : Int32)))) (by rw [e42]; exact A44.1) (State.isArrayOf_alike hZ.alike A44.2.1) A44.2.2 hin44 hat44 (g := (mkF m 188 #[vr oa, vi 2, vi 2, vi 0, vj ((2 : Int32).toInt64), v2, vr b17, vr b24, vi ((64 : Int32) - (((64 : Int32) / (2 : Int32)) + (0 : Int32))), vi 0, vu, vu, vu, vu] [(.int 0), (.ref b6), (.int 0), (.ref b17)])) rfl rfl (hb hby d3_188) t k) ?_
  obtain ⟨_, _, ⟨T45, L45, k45, n45⟩, -, X45, ⟨Lc45, hQ45, l45, y45, z45⟩, st45⟩ := Jvm.LawKit.callS X42 hx (y := (⟨BLn, "lowBits", "(I)J"⟩ : MethodName)) hown (mvT hZ (own_g hw 27 rfl)) (mvT hZ (own_g hw 28 rfl)) (mvT hZ (own_g hw 11 rfl)) (mvT hZ (own_g hw 29 rfl)) (by decide) (backOf (W := 2) (rm6 l Z a0 hw [] (((64 : Int32) / (2 : Int32)) + (0 : Int32)) h40 n0 Z40 ) hZ (own_g hw 29 rfl) (own_g hw 11 rfl) (by decide) (by decide)) (g := (mkF m 189 #[vr oa, vi 2, vi 2, vi 0, vj ((2 : Int32).toInt64), v2, vr b17, vr b24, vi ((64 : Int32) - (((64 : Int32) / (2 : Int32)) + (0 : Int32))), vi 0, vu, vu, vu, vu] [(.int (((64 : Int32) / (2 : Int32)) + (0 : Int32))), (.int 0), (.ref b17)])) rfl (by rw [hml]; rfl) (argsL := [(.int (((64 : Int32) / (2 : Int32)) + (0 : Int32)))]) (rest := [(.int 0), (.ref b17)]) (lenOf own_pd9 rfl) rfl (by show 2 * 0 + _ ≤ _; exact Nat.le_of_eq rfl) (hb hby d3_189) (fun _ _ => ⟨rfl, e42, (by decide : 3 + 0 ≤ _), (by decide : 6 + 0 ≤ _)⟩)
  dsimp only [Pt.U, Pt.locs, Pt.cells, Pt.slots] at X45 l45 y45 z45 st45 hQ45
  subst l45 y45 z45
  obtain ⟨rfl, Nq45, hh45⟩ := hQ45
  obtain ⟨lc45, Xh45, N45⟩ := own_hide X45 (Fr.app N40 Nq45)
  clear X45
  refine gv st45 ?_
  refine gv (fun t k => XS.iload Xh45.here hx rfl (hb hby d3_192) rfl k) ?_
  refine gv (fun t k => XS.lshl Xh45.here hx rfl (hb hby d3_194) rfl k) ?_
  show Go p.tables e below P T45 (mkF m 195 #[vr oa, vi 2, vi 2, vi 0, vj ((2 : Int32).toInt64), v2, vr b17, vr b24, vi ((64 : Int32) - (((64 : Int32) / (2 : Int32)) + (0 : Int32))), vi 0, vu, vu, vu, vu] [(.long ((own_lb (((64 : Int32) / (2 : Int32)) + (0 : Int32))) <<< (((64 : Int32) - (((64 : Int32) / (2 : Int32)) + (0 : Int32))) &&& 0x3f).toInt64)), (.int 0), (.ref b17)])
  have F46 := (((V17.ext E24).other W35 (Ne.symm ne18)).other W40 ne27)
  obtain ⟨T47, h47, lc47, X47, e47, N47, Z47, K47, W47, V47, st47⟩ := own_stJ Xh45 hx hZ hh45 F46 N45 Z40 K40 g20 (Or.inr sz21) (j := (0 : Int32)) ⟨by decide, by decide⟩ (ji := 0) rfl (Nat.le_of_ble_eq_true rfl) (g := (mkF m 195 #[vr oa, vi 2, vi 2, vi 0, vj ((2 : Int32).toInt64), v2, vr b17, vr b24, vi ((64 : Int32) - (((64 : Int32) / (2 : Int32)) + (0 : Int32))), vi 0, vu, vu, vu, vu] [(.long ((own_lb (((64 : Int32) / (2 : Int32)) + (0 : Int32))) <<< (((64 : Int32) - (((64 : Int32) / (2 : Int32)) + (0 : Int32))) &&& 0x3f).toInt64)), (.int 0), (.ref b17)])) rfl rfl (hb hby d3_195)
  refine gv st47 ?_
  refine gv (fun t k => XS.iinc X47.here hx rfl (hb hby d3_196) rfl (l' := #[vr oa, vi 2, vi 2, vi 0, vj ((2 : Int32).toInt64), v2, vr b17, vr b24, vi ((64 : Int32) - (((64 : Int32) / (2 : Int32)) + (0 : Int32))), vi ((0 : Int32) + (1 : Int32)), vu, vu, vu, vu]) rfl k) ?_
  refine gv (fun t k => XS.goto X47.here hx rfl (pc0 := 199) (pc' := 127) rfl (hb hby d3_199) (by decide) (by decide) k) ?_
  refine gv (fun t k => XS.iload X47.here hx rfl (hb hby d3_127) rfl k) ?_
  refine gv (fun t k => XS.iloadN X47.here hx rfl (hb hby d3_129) rfl k) ?_
  refine gv (fun t k => XS.icmpNo X47.here hx rfl (hb hby d3_130) rfl (tlt (by decide : ((0 : Int32) + (1 : Int32)) < (2 : Int32))).2.1 k) ?_
  refine gv (fun t k => XS.aloadN X47.here hx rfl (hb hby d3_133) rfl rfl k) ?_
  have F48 := (F41.other W47 (Or.inl (Nat.ne_of_lt (Nat.lt_of_lt_of_le P0.lt sz21))))
  obtain ⟨T49, X49, e49, st49⟩ := getF X47 hx hZ hown (host := "") (Or.inl (own_g hw 25 rfl)) Via.refl e47 F48 (g := (mkF m 134 #[vr oa, vi 2, vi 2, vi 0, vj ((2 : Int32).toInt64), v2, vr b17, vr b24, vi ((64 : Int32) - (((64 : Int32) / (2 : Int32)) + (0 : Int32))), vi ((0 : Int32) + (1 : Int32)), vu, vu, vu, vu] [(.ref oa)])) rfl rfl (hb hby d3_134)
  refine gv st49 ?_
  refine gv (fun t k => XS.iload X49.here hx rfl (hb hby d3_137) rfl k) ?_
  show Go p.tables e below P T49 (mkF m 139 #[vr oa, vi 2, vi 2, vi 0, vj ((2 : Int32).toInt64), v2, vr b17, vr b24, vi ((64 : Int32) - (((64 : Int32) / (2 : Int32)) + (0 : Int32))), vi ((0 : Int32) + (1 : Int32)), vu, vu, vu, vu] [(.int ((0 : Int32) + (1 : Int32))), (.ref b6)])
  refine gv (fun t k => XS.bipush X49.here hx rfl (hb hby d3_139) k) ?_
  refine gv (fun t k => XS.iloadN X49.here hx rfl (hb hby d3_141) rfl k) ?_
  refine gv (fun t k => XS.idiv X49.here hx rfl (hb hby d3_142) rfl (by decide) k) ?_
  refine gv (fun t k => XS.iload X49.here hx rfl (hb hby d3_143) rfl k) ?_
  refine gv (fun t k => XS.bipush X49.here hx rfl (hb hby d3_145) k) ?_
  refine gv (fun t k => XS.iloadN X49.here hx rfl (hb hby d3_147) rfl k) ?_
  refine gv (fun t k => iremM X49 hx rfl (hb hby d3_148) rfl (by decide) k) ?_
  refine gv (fun t k => XS.icmpYes X49.here hx rfl (pc0 := 149) (pc' := 156) rfl (hb hby d3_149) rfl (flt (by decide : ¬ (((0 : Int32) + (1 : Int32)) < ((64 : Int32) % (2 : Int32))))).2.1 (by decide) (by decide) k) ?_
  refine gv (fun t k => XS.iconst X49.here hx rfl (hb hby d3_156) k) ?_
  show Go p.tables e below P T49 (mkF m 157 #[vr oa, vi 2, vi 2, vi 0, vj ((2 : Int32).toInt64), v2, vr b17, vr b24, vi ((64 : Int32) - (((64 : Int32) / (2 : Int32)) + (0 : Int32))), vi ((0 : Int32) + (1 : Int32)), vu, vu, vu, vu] [(.int 0), (.int ((64 : Int32) / (2 : Int32))), (.int ((0 : Int32) + (1 : Int32))), (.ref b6)])
  refine gv (fun t k => XS.iadd X49.here hx rfl (hb hby d3_157) rfl k) ?_
  have F50 := (F43.other W47 ne18)
  obtain ⟨T51, h51, lc51, X51, e51, N51, Z51, K51, W51, V51, st51⟩ := own_stI X49 hx hZ e49 F50 N47 Z47 K47 g7 (Or.inr sz8) (j := ((0 : Int32) + (1 : Int32))) ⟨by decide, by decide⟩ (ji := 1) (by decide) (Nat.le_of_ble_eq_true rfl) (g := (mkF m 158 #[vr oa, vi 2, vi 2, vi 0, vj ((2 : Int32).toInt64), v2, vr b17, vr b24, vi ((64 : Int32) - (((64 : Int32) / (2 : Int32)) + (0 : Int32))), vi ((0 : Int32) + (1 : Int32)), vu, vu, vu, vu] [(.int (((64 : Int32) / (2 : Int32)) + (0 : Int32))), (.int ((0 : Int32) + (1 : Int32))), (.ref b6)])) rfl rfl (hb hby d3_158)
  refine gv st51 ?_
  refine gv (fun t k => XS.iload X51.here hx rfl (hb hby d3_159) rfl k) ?_
  refine gv (fun t k => XS.aloadN X51.here hx rfl (hb hby d3_161) rfl rfl k) ?_
  have F52 := (F48.other W51 (Or.inl (Nat.ne_of_lt (Nat.lt_of_lt_of_le P0.lt sz8))))
  obtain ⟨T53, X53, e53, st53⟩ := getF X51 hx hZ hown (host := "") (Or.inl (own_g hw 25 rfl)) Via.refl e51 F52 (g := (mkF m 162 #[vr oa, vi 2, vi 2, vi 0, vj ((2 : Int32).toInt64), v2, vr b17, vr b24, vi ((64 : Int32) - (((64 : Int32) / (2 : Int32)) + (0 : Int32))), vi ((0 : Int32) + (1 : Int32)), vu, vu, vu, vu] [(.ref oa), (.int ((64 : Int32) - (((64 : Int32) / (2 : Int32)) + (0 : Int32))))])) rfl rfl (hb hby d3_162)
  refine gv st53 ?_
  refine gv (fun t k => XS.iload X53.here hx rfl (hb hby d3_165) rfl k) ?_
  obtain ⟨c54, A54, q54, S54, N54, H54, G54⟩ := id V51
  have hin54 : ¬ (((0 : Int32) + (1 : Int32)) < 0 ∨ c54.slots.size ≤ (((0 : Int32) + (1 : Int32))).toNatClampNeg) := inb_of S54 ⟨by decide, by decide⟩
  have hat54 : c54.slots[(((0 : Int32) + (1 : Int32))).toNatClampNeg]? = some (.int (((64 : Int32) / (2 : Int32)) + (0 : Int32))) := (H54 _ (Nat.lt_of_not_le fun q => hin54 (Or.inr q))).trans (congrArg some rfl)
  refine gv (fun t k => X53.iaload hx (j := ((0 : Int32) + (1 : Int32))) (v := (.int (((64 : Int32) / (2 : Int32)) + (0 : Int32)))) (by rw [e53]; exact A54.1) (State.isArrayOf_alike hZ.alike A54.2.1) A54.2.2 hin54 hat54 (g := (mkF m 167 #[vr oa, vi 2, vi 2, vi 0, vj ((2 : Int32).toInt64), v2, vr b17, vr b24, vi ((64 : Int32) - (((64 : Int32) / (2 : Int32)) + (0 : Int32))), vi ((0 : Int32) + (1 : Int32)), vu, vu, vu, vu] [(.int ((0 : Int32) + (1 : Int32))), (.ref b6), (.int ((64 : Int32) - (((64 : Int32) / (2 : Int32)) + (0 : Int32))))])) rfl rfl (hb hby d3_167) t k) ?_
  refine gv (fun t k => XS.isub X53.here hx rfl (hb hby d3_168) rfl k) ?_
  refine gv (fun t k => XS.istore X53.here hx rfl (hb hby d3_169) rfl (l' := #[vr oa, vi 2, vi 2, vi 0, vj ((2 : Int32).toInt64), v2, vr b17, vr b24, vi (((64 : Int32) - (((64 : Int32) / (2 : Int32)) + (0 : Int32))) - (((64 : Int32) / (2 : Int32)) + (0 : Int32))), vi ((0 : Int32) + (1 : Int32)), vu, vu, vu, vu]) rfl k) ?_
  show Go p.tables e below P T53 (mkF m 171 #[vr oa, vi 2, vi 2, vi 0, vj ((2 : Int32).toInt64), v2, vr b17, vr b24, vi (((64 : Int32) - (((64 : Int32) / (2 : Int32)) + (0 : Int32))) - (((64 : Int32) / (2 : Int32)) + (0 : Int32))), vi ((0 : Int32) + (1 : Int32)), vu, vu, vu, vu] [])
  refine gv (fun t k => XS.aload X53.here hx rfl (hb hby d3_171) rfl rfl k) ?_
  refine gv (fun t k => XS.iload X53.here hx rfl (hb hby d3_173) rfl k) ?_
  refine gv (fun t k => XS.iload X53.here hx rfl (hb hby d3_175) rfl k) ?_
  have F55 := ((V40.other W47 (Ne.symm ne27)).other W51 (Ne.symm ne25))
  obtain ⟨T56, h56, lc56, X56, e56, N56, Z56, K56, W56, V56, st56⟩ := own_stI X53 hx hZ e53 F55 N51 Z51 K51 g28 (Or.inr sz29) (j := ((0 : Int32) + (1 : Int32))) ⟨by decide, by decide⟩ (ji := 1) (by decide) (Nat.le_of_ble_eq_true rfl) (g := (mkF m 177 #[vr oa, vi 2, vi 2, vi 0, vj ((2 : Int32).toInt64), v2, vr b17, vr b24, vi (((64 : Int32) - (((64 : Int32) / (2 : Int32)) + (0 : Int32))) - (((64 : Int32) / (2 : Int32)) + (0 : Int32))), vi ((0 : Int32) + (1 : Int32)), vu, vu, vu, vu] [(.int (((64 : Int32) - (((64 : Int32) / (2 : Int32)) + (0 : Int32))) - (((64 : Int32) / (2 : Int32)) + (0 : Int32)))), (.int ((0 : Int32) + (1 : Int32))), (.ref b24)])) rfl rfl (hb hby d3_177)
  refine gv st56 ?_
  refine gv (fun t k => XS.aload X56.here hx rfl (hb hby d3_178) rfl rfl k) ?_
  refine gv (fun t k => XS.iload X56.here hx rfl (hb hby d3_180) rfl k) ?_
  refine gv (fun t k => XS.aloadN X56.here hx rfl (hb hby d3_182) rfl rfl k) ?_
  have F57 := (F52.other W56 (Or.inl (Nat.ne_of_lt (Nat.lt_of_lt_of_le P0.lt sz29))))
  obtain ⟨T58, X58, e58, st58⟩ := getF X56 hx hZ hown (host := "") (Or.inl (own_g hw 25 rfl)) Via.refl e56 F57 (g := (mkF m 183 #[vr oa, vi 2, vi 2, vi 0, vj ((2 : Int32).toInt64), v2, vr b17, vr b24, vi (((64 : Int32) - (((64 : Int32) / (2 : Int32)) + (0 : Int32))) - (((64 : Int32) / (2 : Int32)) + (0 : Int32))), vi ((0 : Int32) + (1 : Int32)), vu, vu, vu, vu] [(.ref oa), (.int ((0 : Int32) + (1 : Int32))), (.ref b17)])) rfl rfl (hb hby d3_183)
  refine gv st58 ?_
  refine gv (fun t k => XS.iload X58.here hx rfl (hb hby d3_186) rfl k) ?_
  show Go p.tables e below P T58 (mkF m 188 #[vr oa, vi 2, vi 2, vi 0, vj ((2 : Int32).toInt64), v2, vr b17, vr b24, vi (((64 : Int32) - (((64 : Int32) / (2 : Int32)) + (0 : Int32))) - (((64 : Int32) / (2 : Int32)) + (0 : Int32))), vi ((0 : Int32) + (1 : Int32)), vu, vu, vu, vu] [(.int ((0 : Int32) + (1 : Int32))), (.ref b6), (.int ((0 : Int32) + (1 : Int32))), (.ref b17)])
  have F59 := (V51.other W56 ne25)
  obtain ⟨c60, A60, q60, S60, N60, H60, G60⟩ := id F59
  have hin60 : ¬ (((0 : Int32) + (1 : Int32)) < 0 ∨ c60.slots.size ≤ (((0 : Int32) + (1 : Int32))).toNatClampNeg) := inb_of S60 ⟨by decide, by decide⟩
  have hat60 : c60.slots[(((0 : Int32) + (1 : Int32))).toNatClampNeg]? = some (.int (((64 : Int32) / (2 : Int32)) + (0 : Int32))) := (H60 _ (Nat.lt_of_not_le fun q => hin60 (Or.inr q))).trans (congrArg some rfl)
  refine gv (fun t k => X58.iaload hx (j := ((0 : Int32) + (1 : Int32))) (v := (.int (((64 : Int32) / (2 : Int32)) + (0 : Int32)))) (by rw [e58]; exact A60.1) (State.isArrayOf_alike hZ.alike A60.2.1) A60.2.2 hin60 hat60 (g := (mkF m 188 #[vr oa, vi 2, vi 2, vi 0, vj ((2 : Int32).toInt64), v2, vr b17, vr b24, vi (((64 : Int32) - (((64 : Int32) / (2 : Int32)) + (0 : Int32))) - (((64 : Int32) / (2 : Int32)) + (0 : Int32))), vi ((0 : Int32) + (1 : Int32)), vu, vu, vu, vu] [(.int ((0 : Int32) + (1 : Int32))), (.ref b6), (.int ((0 : Int32) + (1 : Int32))), (.ref b17)])) rfl rfl (hb hby d3_188) t k) ?_
  obtain ⟨_, _, ⟨T61, L61, k61, n61⟩, -, X61, ⟨Lc61, hQ61, l61, y61, z61⟩, st61⟩ := Jvm.LawKit.callS X58 hx (y := (⟨BLn, "lowBits", "(I)J"⟩ : MethodName)) hown (mvT hZ (own_g hw 27 rfl)) (mvT hZ (own_g hw 28 rfl)) (mvT hZ (own_g hw 11 rfl)) (mvT hZ (own_g hw 29 rfl)) (by decide) (backOf (W := 2) (rm6 l Z a0 hw [] (((64 : Int32) / (2 : Int32)) + (0 : Int32)) h56 n0 Z56 ) hZ (own_g hw 29 rfl) (own_g hw 11 rfl) (by decide) (by decide)) (g := (mkF m 189 #[vr oa, vi 2, vi 2, vi 0, vj ((2 : Int32).toInt64), v2, vr b17, vr b24, vi (((64 : Int32) - (((64 : Int32) / (2 : Int32)) + (0 : Int32))) - (((64 : Int32) / (2 : Int32)) + (0 : Int32))), vi ((0 : Int32) + (1 : Int32)), vu, vu, vu, vu] [(.int (((64 : Int32) / (2 : Int32)) + (0 : Int32))), (.int ((0 : Int32) + (1 : Int32))), (.ref b17)])) rfl (by rw [hml]; rfl) (argsL := [(.int (((64 : Int32) / (2 : Int32)) + (0 : Int32)))]) (rest := [(.int ((0 : Int32) + (1 : Int32))), (.ref b17)]) (lenOf own_pd9 rfl) rfl (by show 2 * 0 + _ ≤ _; exact Nat.le_of_eq rfl) (hb hby d3_189) (fun _ _ => ⟨rfl, e58, (by decide : 3 + 0 ≤ _), (by decide : 6 + 0 ≤ _)⟩)
  dsimp only [Pt.U, Pt.locs, Pt.cells, Pt.slots] at X61 l61 y61 z61 st61 hQ61
  subst l61 y61 z61
  obtain ⟨rfl, Nq61, hh61⟩ := hQ61
  obtain ⟨lc61, Xh61, N61⟩ := own_hide X61 (Fr.app N56 Nq61)
  clear X61
  refine gv st61 ?_
  refine gv (fun t k => XS.iload Xh61.here hx rfl (hb hby d3_192) rfl k) ?_
  refine gv (fun t k => XS.lshl Xh61.here hx rfl (hb hby d3_194) rfl k) ?_
  have F62 := ((V47.other W51 (Ne.symm ne18)).other W56 ne27)
  obtain ⟨T63, h63, lc63, X63, e63, N63, Z63, K63, W63, V63, st63⟩ := own_stJ Xh61 hx hZ hh61 F62 N61 Z56 K56 g20 (Or.inr sz21) (j := ((0 : Int32) + (1 : Int32))) ⟨by decide, by decide⟩ (ji := 1) (by decide) (Nat.le_of_ble_eq_true rfl) (g := (mkF m 195 #[vr oa, vi 2, vi 2, vi 0, vj ((2 : Int32).toInt64), v2, vr b17, vr b24, vi (((64 : Int32) - (((64 : Int32) / (2 : Int32)) + (0 : Int32))) - (((64 : Int32) / (2 : Int32)) + (0 : Int32))), vi ((0 : Int32) + (1 : Int32)), vu, vu, vu, vu] [(.long ((own_lb (((64 : Int32) / (2 : Int32)) + (0 : Int32))) <<< ((((64 : Int32) - (((64 : Int32) / (2 : Int32)) + (0 : Int32))) - (((64 : Int32) / (2 : Int32)) + (0 : Int32))) &&& 0x3f).toInt64)), (.int ((0 : Int32) + (1 : Int32))), (.ref b17)])) rfl rfl (hb hby d3_195)
  refine gv st63 ?_
  refine gv (fun t k => XS.iinc X63.here hx rfl (hb hby d3_196) rfl (l' := #[vr oa, vi 2, vi 2, vi 0, vj ((2 : Int32).toInt64), v2, vr b17, vr b24, vi (((64 : Int32) - (((64 : Int32) / (2 : Int32)) + (0 : Int32))) - (((64 : Int32) / (2 : Int32)) + (0 : Int32))), vi (((0 : Int32) + (1 : Int32)) + (1 : Int32)), vu, vu, vu, vu]) rfl k) ?_
  refine gv (fun t k => XS.goto X63.here hx rfl (pc0 := 199) (pc' := 127) rfl (hb hby d3_199) (by decide) (by decide) k) ?_
  refine gv (fun t k => XS.iload X63.here hx rfl (hb hby d3_127) rfl k) ?_
  refine gv (fun t k => XS.iloadN X63.here hx rfl (hb hby d3_129) rfl k) ?_
  show Go p.tables e below P T63 (mkF m 130 #[vr oa, vi 2, vi 2, vi 0, vj ((2 : Int32).toInt64), v2, vr b17, vr b24, vi (((64 : Int32) - (((64 : Int32) / (2 : Int32)) + (0 : Int32))) - (((64 : Int32) / (2 : Int32)) + (0 : Int32))), vi (((0 : Int32) + (1 : Int32)) + (1 : Int32)), vu, vu, vu, vu] [(.int 2), (.int (((0 : Int32) + (1 : Int32)) + (1 : Int32)))])
  refine gv (fun t k => XS.icmpYes X63.here hx rfl (pc0 := 130) (pc' := 202) rfl (hb hby d3_130) rfl (flt (by decide : ¬ ((((0 : Int32) + (1 : Int32)) + (1 : Int32)) < (2 : Int32)))).2.1 (by decide) (by decide) k) ?_
  refine gv (fun t k => XS.iloadN X63.here hx rfl (hb hby d3_202) rfl k) ?_
  obtain ⟨T64, h64, k64, X64, e64, E64, A64, st64⟩ := newP X63 hx hZ (own_g hw 1 rfl) e63 (g := (mkF m 203 #[vr oa, vi 2, vi 2, vi 0, vj ((2 : Int32).toInt64), v2, vr b17, vr b24, vi (((64 : Int32) - (((64 : Int32) / (2 : Int32)) + (0 : Int32))) - (((64 : Int32) / (2 : Int32)) + (0 : Int32))), vi (((0 : Int32) + (1 : Int32)) + (1 : Int32)), vu, vu, vu, vu] [(.int 2)])) rfl (hb hby d3_203) rfl (by decide) (cap := 2) (by decide) (by decide) (by decide) (by decide)
  obtain ⟨b64, g64⟩ : ∃ z, z = h63.size := ⟨_, rfl⟩
  rw [← g64] at A64 st64
  refine gv st64 ?_
  have F66 := (F59.other W63 ne18)
  have ne65 := Nat.ne_of_lt (Nat.lt_of_lt_of_le F66.lt (Nat.le_of_eq g64.symm))
  have ne67 := Nat.ne_of_lt (Nat.lt_of_lt_of_le V63.lt (Nat.le_of_eq g64.symm))
  have F69 := (V56.other W63 (Ne.symm ne27))
  have ne68 := Nat.ne_of_lt (Nat.lt_of_lt_of_le F69.lt (Nat.le_of_eq g64.symm))
  have g70 := Nat.le_trans Z63 (Nat.le_of_eq g64.symm)
  have sz71 := Nat.le_trans K63.1 (Nat.le_of_eq g64.symm)
  have Z72 := Nat.le_trans Z63 E64.1
  have K73 := K63.ext E64
  have V64 : Arv Z h64 b64 k64 .int (2 : Int32) [(.int 0), (.int 0)] (.int 0) := (Arv.new A64 (by decide)).pad (pad_rep [] (.int 0) 2)
  refine gv (fun t k => XS.astore X64.here hx rfl (hb hby d3_205) rfl rfl (l' := #[vr oa, vi 2, vi 2, vi 0, vj ((2 : Int32).toInt64), v2, vr b17, vr b24, vi (((64 : Int32) - (((64 : Int32) / (2 : Int32)) + (0 : Int32))) - (((64 : Int32) / (2 : Int32)) + (0 : Int32))), vr b64, vu, vu, vu, vu]) rfl k) ?_
  refine gv (fun t k => XS.iloadN X64.here hx rfl (hb hby d3_207) rfl k) ?_
  refine gv (fun t k => XS.ifNo X64.here hx rfl (hb hby d3_208) rfl ((if0 _ _).trans (teq (rfl : (0 : Int32) = (0 : Int32))).2) k) ?_
  refine gv (fun t k => XS.iloadN X64.here hx rfl (hb hby d3_211) rfl k) ?_
  refine gv (fun t k => XS.iconst X64.here hx rfl (hb hby d3_212) k) ?_
  refine gv (fun t k => XS.iadd X64.here hx rfl (hb hby d3_213) rfl k) ?_
  show Go p.tables e below P T64 (mkF m 214 #[vr oa, vi 2, vi 2, vi 0, vj ((2 : Int32).toInt64), v2, vr b17, vr b24, vi (((64 : Int32) - (((64 : Int32) / (2 : Int32)) + (0 : Int32))) - (((64 : Int32) / (2 : Int32)) + (0 : Int32))), vr b64, vu, vu, vu, vu] [(.int ((2 : Int32) + (1 : Int32)))])
  refine gv (fun t k => XS.iloadN X64.here hx rfl (hb hby d3_214) rfl k) ?_
  refine gv (fun t k => XS.isub X64.here hx rfl (hb hby d3_215) rfl k) ?_
  refine gv (fun t k => XS.istore X64.here hx rfl (hb hby d3_216) rfl (l' := #[vr oa, vi 2, vi 2, vi 0, vj ((2 : Int32).toInt64), v2, vr b17, vr b24, vi (((64 : Int32) - (((64 : Int32) / (2 : Int32)) + (0 : Int32))) - (((64 : Int32) / (2 : Int32)) + (0 : Int32))), vr b64, vi (((2 : Int32) + (1 : Int32)) - (2 : Int32)), vu, vu, vu]) rfl k) ?_
  refine gv (fun t k => XS.iconst X64.here hx rfl (hb hby d3_218) k) ?_
  refine gv (fun t k => XS.istore X64.here hx rfl (hb hby d3_219) rfl (l' := #[vr oa, vi 2, vi 2, vi 0, vj ((2 : Int32).toInt64), v2, vr b17, vr b24, vi (((64 : Int32) - (((64 : Int32) / (2 : Int32)) + (0 : Int32))) - (((64 : Int32) / (2 : Int32)) + (0 : Int32))), vr b64, vi (((2 : Int32) + (1 : Int32)) - (2 : Int32)), vi 0, vu, vu]) rfl k) ?_
  refine gv (fun t k => XS.iload X64.here hx rfl (hb hby d3_221) rfl k) ?_
  refine gv (fun t k => XS.iloadN X64.here hx rfl (hb hby d3_223) rfl k) ?_
  refine gv (fun t k => XS.icmpNo X64.here hx rfl (hb hby d3_224) rfl (tlt (by decide : (0 : Int32) < (2 : Int32))).2.1 k) ?_
  refine gv (fun t k => XS.aload X64.here hx rfl (hb hby d3_227) rfl rfl k) ?_
  show Go p.tables e below P T64 (mkF m 229 #[vr oa, vi 2, vi 2, vi 0, vj ((2 : Int32).toInt64), v2, vr b17, vr b24, vi (((64 : Int32) - (((64 : Int32) / (2 : Int32)) + (0 : Int32))) - (((64 : Int32) / (2 : Int32)) + (0 : Int32))), vr b64, vi (((2 : Int32) + (1 : Int32)) - (2 : Int32)), vi 0, vu, vu] [(.ref b64)])
  refine gv (fun t k => XS.iload X64.here hx rfl (hb hby d3_229) rfl k) ?_
  refine gv (fun t k => XS.iload X64.here hx rfl (hb hby d3_231) rfl k) ?_
  refine gv (fun t k => XS.iloadN X64.here hx rfl (hb hby d3_233) rfl k) ?_
  refine gv (fun t k => XS.idiv X64.here hx rfl (hb hby d3_234) rfl (by decide) k) ?_
  refine gv (fun t k => XS.iload X64.here hx rfl (hb hby d3_235) rfl k) ?_
  refine gv (fun t k => XS.iload X64.here hx rfl (hb hby d3_237) rfl k) ?_
  refine gv (fun t k => XS.iloadN X64.here hx rfl (hb hby d3_239) rfl k) ?_
  refine gv (fun t k => iremM X64 hx rfl (hb hby d3_240) rfl (by decide) k) ?_
  refine gv (fun t k => XS.icmpNo X64.here hx rfl (hb hby d3_241) rfl (tlt (by decide : (0 : Int32) < ((((2 : Int32) + (1 : Int32)) - (2 : Int32)) % (2 : Int32)))).2.1 k) ?_
  show Go p.tables e below P T64 (mkF m 244 #[vr oa, vi 2, vi 2, vi 0, vj ((2 : Int32).toInt64), v2, vr b17, vr b24, vi (((64 : Int32) - (((64 : Int32) / (2 : Int32)) + (0 : Int32))) - (((64 : Int32) / (2 : Int32)) + (0 : Int32))), vr b64, vi (((2 : Int32) + (1 : Int32)) - (2 : Int32)), vi 0, vu, vu] [(.int ((((2 : Int32) + (1 : Int32)) - (2 : Int32)) / (2 : Int32))), (.int 0), (.ref b64)])
  refine gv (fun t k => XS.iconst X64.here hx rfl (hb hby d3_244) k) ?_
  refine gv (fun t k => XS.goto X64.here hx rfl (pc0 := 245) (pc' := 249) rfl (hb hby d3_245) (by decide) (by decide) k) ?_
  refine gv (fun t k => XS.iadd X64.here hx rfl (hb hby d3_249) rfl k) ?_
  obtain ⟨T74, h74, lc74, X74, e74, N74, Z74, K74, W74, V74, st74⟩ := own_stI X64 hx hZ e64 V64 N63 Z72 K73 g70 (Or.inr sz71) (j := (0 : Int32)) ⟨by decide, by decide⟩ (ji := 0) rfl (Nat.le_of_ble_eq_true rfl) (g := (mkF m 250 #[vr oa, vi 2, vi 2, vi 0, vj ((2 : Int32).toInt64), v2, vr b17, vr b24, vi (((64 : Int32) - (((64 : Int32) / (2 : Int32)) + (0 : Int32))) - (((64 : Int32) / (2 : Int32)) + (0 : Int32))), vr b64, vi (((2 : Int32) + (1 : Int32)) - (2 : Int32)), vi 0, vu, vu] [(.int (((((2 : Int32) + (1 : Int32)) - (2 : Int32)) / (2 : Int32)) + (1 : Int32))), (.int 0), (.ref b64)])) rfl rfl (hb hby d3_250)
  refine gv st74 ?_
  refine gv (fun t k => XS.aloadN X74.here hx rfl (hb hby d3_251) rfl rfl k) ?_
  have F75 := (((F57.other W63 (Or.inl (Nat.ne_of_lt (Nat.lt_of_lt_of_le P0.lt sz21)))).ext E64).other W74 (Or.inl (Nat.ne_of_lt (Nat.lt_of_lt_of_le P0.lt sz71))))
  obtain ⟨T76, X76, e76, st76⟩ := getF X74 hx hZ hown (host := "") (Or.inl (own_g hw 25 rfl)) Via.refl e74 F75 (g := (mkF m 252 #[vr oa, vi 2, vi 2, vi 0, vj ((2 : Int32).toInt64), v2, vr b17, vr b24, vi (((64 : Int32) - (((64 : Int32) / (2 : Int32)) + (0 : Int32))) - (((64 : Int32) / (2 : Int32)) + (0 : Int32))), vr b64, vi (((2 : Int32) + (1 : Int32)) - (2 : Int32)), vi 0, vu, vu] [(.ref oa)])) rfl rfl (hb hby d3_252)
  refine gv st76 ?_
  refine gv (fun t k => XS.iload X76.here hx rfl (hb hby d3_255) rfl k) ?_
  have F77 := ((F66.ext E64).other W74 ne65)
  obtain ⟨c78, A78, q78, S78, N78, H78, G78⟩ := id F77
  have hin78 : ¬ ((0 : Int32) < 0 ∨ c78.slots.size ≤ ((0 : Int32)).toNatClampNeg) := inb_of S78 ⟨by decide, by decide⟩
  have hat78 : c78.slots[((0 : Int32)).toNatClampNeg]? = some (.int (((64 : Int32) / (2 : Int32)) + (0 : Int32))) := (H78 _ (Nat.lt_of_not_le fun q => hin78 (Or.inr q))).trans (congrArg some rfl)
  refine gv (fun t k => X76.iaload hx (j := (0 : Int32)) (v := (.int (((64 : Int32) / (2 : Int32)) + (0 : Int32)))) (by rw [e76]; exact A78.1) (State.isArrayOf_alike hZ.alike A78.2.1) A78.2.2 hin78 hat78 (g := (mkF m 257 #[vr oa, vi 2, vi 2, vi 0, vj ((2 : Int32).toInt64), v2, vr b17, vr b24, vi (((64 : Int32) - (((64 : Int32) / (2 : Int32)) + (0 : Int32))) - (((64 : Int32) / (2 : Int32)) + (0 : Int32))), vr b64, vi (((2 : Int32) + (1 : Int32)) - (2 : Int32)), vi 0, vu, vu] [(.int 0), (.ref b6)])) rfl rfl (hb hby d3_257) t k) ?_
  refine gv (fun t k => XS.aload X76.here hx rfl (hb hby d3_258) rfl rfl k) ?_
  show Go p.tables e below P T76 (mkF m 260 #[vr oa, vi 2, vi 2, vi 0, vj ((2 : Int32).toInt64), v2, vr b17, vr b24, vi (((64 : Int32) - (((64 : Int32) / (2 : Int32)) + (0 : Int32))) - (((64 : Int32) / (2 : Int32)) + (0 : Int32))), vr b64, vi (((2 : Int32) + (1 : Int32)) - (2 : Int32)), vi 0, vu, vu] [(.ref b64), (.int (((64 : Int32) / (2 : Int32)) + (0 : Int32)))])
  refine gv (fun t k => XS.iload X76.here hx rfl (hb hby d3_260) rfl k) ?_
  obtain ⟨c79, A79, q79, S79, N79, H79, G79⟩ := id V74
  have hin79 : ¬ ((0 : Int32) < 0 ∨ c79.slots.size ≤ ((0 : Int32)).toNatClampNeg) := inb_of S79 ⟨by decide, by decide⟩
  have hat79 : c79.slots[((0 : Int32)).toNatClampNeg]? = some (.int (((((2 : Int32) + (1 : Int32)) - (2 : Int32)) / (2 : Int32)) + (1 : Int32))) := (H79 _ (Nat.lt_of_not_le fun q => hin79 (Or.inr q))).trans (congrArg some rfl)
  refine gv (fun t k => X76.iaload hx (j := (0 : Int32)) (v := (.int (((((2 : Int32) + (1 : Int32)) - (2 : Int32)) / (2 : Int32)) + (1 : Int32)))) (by rw [e76]; exact A79.1) (State.isArrayOf_alike hZ.alike A79.2.1) A79.2.2 hin79 hat79 (g := (mkF m 262 #[vr oa, vi 2, vi 2, vi 0, vj ((2 : Int32).toInt64), v2, vr b17, vr b24, vi (((64 : Int32) - (((64 : Int32) / (2 : Int32)) + (0 : Int32))) - (((64 : Int32) / (2 : Int32)) + (0 : Int32))), vr b64, vi (((2 : Int32) + (1 : Int32)) - (2 : Int32)), vi 0, vu, vu] [(.int 0), (.ref b64), (.int (((64 : Int32) / (2 : Int32)) + (0 : Int32)))])) rfl rfl (hb hby d3_262) t k) ?_
  show Go p.tables e below P T76 (mkF m 263 #[vr oa, vi 2, vi 2, vi 0, vj ((2 : Int32).toInt64), v2, vr b17, vr b24, vi (((64 : Int32) - (((64 : Int32) / (2 : Int32)) + (0 : Int32))) - (((64 : Int32) / (2 : Int32)) + (0 : Int32))), vr b64, vi (((2 : Int32) + (1 : Int32)) - (2 : Int32)), vi 0, vu, vu] [(.int (((((2 : Int32) + (1 : Int32)) - (2 : Int32)) / (2 : Int32)) + (1 : Int32))), (.int (((64 : Int32) / (2 : Int32)) + (0 : Int32)))])
  rw [show (((((2 : Int32) + (1 : Int32)) - (2 : Int32)) / (2 : Int32)) + (1 : Int32)) = (1 : Int32) from by decide]
  rw [show (((64 : Int32) / (2 : Int32)) + (0 : Int32)) = (32 : Int32) from by decide]
  obtain ⟨_, _, ⟨T80, L80, k80, n80⟩, -, X80, ⟨Lc80, hQ80, l80, y80, z80⟩, st80⟩ := Jvm.LawKit.callS X76 hx (y := (⟨BLn, "keysWithin", "(II)J"⟩ : MethodName)) hown (mvT hZ (own_g hw 85 rfl)) (mvT hZ (own_g hw 86 rfl)) (mvT hZ (own_g hw 11 rfl)) (mvT hZ (own_g hw 87 rfl)) (by decide) (backOf (W := 0) (rm13o l Z a0 hw []  h74 n0 Z74 ) hZ (own_g hw 87 rfl) (own_g hw 11 rfl) (by decide) (by decide)) (g := (mkF m 263 #[vr oa, vi 2, vi 2, vi 0, vj ((2 : Int32).toInt64), v2, vr b17, vr b24, vi (((64 : Int32) - (((64 : Int32) / (2 : Int32)) + (0 : Int32))) - (((64 : Int32) / (2 : Int32)) + (0 : Int32))), vr b64, vi (((2 : Int32) + (1 : Int32)) - (2 : Int32)), vi 0, vu, vu] [(.int 1), (.int 32)])) rfl (by rw [hml]; rfl) (argsL := [(.int 32), (.int 1)]) (rest := []) (lenOf own_pd4 rfl) rfl (by show 2 * 0 + _ ≤ _; exact Nat.le_of_eq rfl) (hb hby d3_263) (fun _ _ => ⟨rfl, e76, (by decide : 4 + 2 ≤ _), (by decide : 8 + 130 ≤ _)⟩)
  dsimp only [Pt.U, Pt.locs, Pt.cells, Pt.slots] at X80 l80 y80 z80 st80 hQ80
  subst l80 y80 z80
  obtain ⟨rfl, Nq80, K80⟩ := hQ80
  obtain ⟨lc80, Xh80, N80⟩ := own_hide X80 (Fr.app N74 Nq80)
  clear X80
  refine gv st80 ?_
  have Z81 := Nat.le_trans Z74 K80.1
  have K82 := K74.trans K80 own_all0
  refine gv (fun t k => XS.lstore Xh80.here hx rfl (hb hby d3_266) rfl (l' := #[vr oa, vi 2, vi 2, vi 0, vj ((2 : Int32).toInt64), v2, vr b17, vr b24, vi (((64 : Int32) - (((64 : Int32) / (2 : Int32)) + (0 : Int32))) - (((64 : Int32) / (2 : Int32)) + (0 : Int32))), vr b64, vi (((2 : Int32) + (1 : Int32)) - (2 : Int32)), vi 0, vj 33, v2]) rfl k) ?_
  refine gv (fun t k => XS.lload Xh80.here hx rfl (hb hby d3_268) rfl k) ?_
  refine gv (fun t k => Xh80.ldc2Long hx hown (mvT hZ (own_g hw 120 rfl)) (g := (mkF m 270 #[vr oa, vi 2, vi 2, vi 0, vj ((2 : Int32).toInt64), v2, vr b17, vr b24, vi (((64 : Int32) - (((64 : Int32) / (2 : Int32)) + (0 : Int32))) - (((64 : Int32) / (2 : Int32)) + (0 : Int32))), vr b64, vi (((2 : Int32) + (1 : Int32)) - (2 : Int32)), vi 0, vj 33, v2] [(.long 33)])) rfl (hb hby d3_270) t k) ?_
  obtain ⟨_, _, ⟨T83, L83, k83, n83⟩, -, X83, ⟨Lc83, hQ83, l83, y83, z83⟩, st83⟩ := Jvm.LawKit.callS Xh80 hx (y := (⟨"java/lang/Long", "compareUnsigned", "(JJ)I"⟩ : MethodName)) hown (mvT hZ (own_g hw 121 rfl)) (mvT hZ (own_g hw 122 rfl)) (mvT hZ (own_g hw 73 rfl)) (mvT hZ (own_g hw 123 rfl)) (by decide) (backOf (W := 0) (rm21 l Z a0 hw [] (33 : Int64) (65536 : Int64) T80.heap n0 Z81 ) hZ (own_g hw 123 rfl) (own_g hw 73 rfl) (by decide) (by decide)) (g := (mkF m 273 #[vr oa, vi 2, vi 2, vi 0, vj ((2 : Int32).toInt64), v2, vr b17, vr b24, vi (((64 : Int32) - (((64 : Int32) / (2 : Int32)) + (0 : Int32))) - (((64 : Int32) / (2 : Int32)) + (0 : Int32))), vr b64, vi (((2 : Int32) + (1 : Int32)) - (2 : Int32)), vi 0, vj 33, v2] [(.long 65536), (.long 33)])) rfl (by rw [hml]; rfl) (argsL := [(.long 33), (.long 65536)]) (rest := []) (lenOf own_pd3 rfl) rfl (by show 2 * 0 + _ ≤ _; exact Nat.le_of_eq rfl) (hb hby d3_273) (fun _ _ => ⟨rfl, rfl, (by decide : 6 + 0 ≤ _), (by decide : 138 + 0 ≤ _)⟩)
  dsimp only [Pt.U, Pt.locs, Pt.cells, Pt.slots] at X83 l83 y83 z83 st83 hQ83
  subst l83 y83 z83
  obtain ⟨rfl, Nq83, hh83⟩ := hQ83
  obtain ⟨lc83, Xh83, N83⟩ := own_hide X83 (Fr.app N80 Nq83)
  clear X83
  refine gv st83 ?_
  refine gv (fun t k => XS.ifYes Xh83.here hx rfl (pc0 := 276) (pc' := 299) rfl (hb hby d3_276) rfl ((if0 _ _).trans (flt (by decide)).2.2.2) (by decide) (by decide) k) ?_
  refine gv (fun t k => XS.iinc Xh83.here hx rfl (hb hby d3_299) rfl (l' := #[vr oa, vi 2, vi 2, vi 0, vj ((2 : Int32).toInt64), v2, vr b17, vr b24, vi (((64 : Int32) - (((64 : Int32) / (2 : Int32)) + (0 : Int32))) - (((64 : Int32) / (2 : Int32)) + (0 : Int32))), vr b64, vi (((2 : Int32) + (1 : Int32)) - (2 : Int32)), vi ((0 : Int32) + (1 : Int32)), vj 33, v2]) rfl k) ?_
  refine gv (fun t k => XS.goto Xh83.here hx rfl (pc0 := 302) (pc' := 221) rfl (hb hby d3_302) (by decide) (by decide) k) ?_
  refine gv (fun t k => XS.iload Xh83.here hx rfl (hb hby d3_221) rfl k) ?_
  show Go p.tables e below P T83 (mkF m 223 #[vr oa, vi 2, vi 2, vi 0, vj ((2 : Int32).toInt64), v2, vr b17, vr b24, vi (((64 : Int32) - (((64 : Int32) / (2 : Int32)) + (0 : Int32))) - (((64 : Int32) / (2 : Int32)) + (0 : Int32))), vr b64, vi (((2 : Int32) + (1 : Int32)) - (2 : Int32)), vi ((0 : Int32) + (1 : Int32)), vj 33, v2] [(.int ((0 : Int32) + (1 : Int32)))])
  refine gv (fun t k => XS.iloadN Xh83.here hx rfl (hb hby d3_223) rfl k) ?_
  refine gv (fun t k => XS.icmpNo Xh83.here hx rfl (hb hby d3_224) rfl (tlt (by decide : ((0 : Int32) + (1 : Int32)) < (2 : Int32))).2.1 k) ?_
  refine gv (fun t k => XS.aload Xh83.here hx rfl (hb hby d3_227) rfl rfl k) ?_
  refine gv (fun t k => XS.iload Xh83.here hx rfl (hb hby d3_229) rfl k) ?_
  refine gv (fun t k => XS.iload Xh83.here hx rfl (hb hby d3_231) rfl k) ?_
  refine gv (fun t k => XS.iloadN Xh83.here hx rfl (hb hby d3_233) rfl k) ?_
  refine gv (fun t k => XS.idiv Xh83.here hx rfl (hb hby d3_234) rfl (by decide) k) ?_
  refine gv (fun t k => XS.iload Xh83.here hx rfl (hb hby d3_235) rfl k) ?_
  refine gv (fun t k => XS.iload Xh83.here hx rfl (hb hby d3_237) rfl k) ?_
  show Go p.tables e below P T83 (mkF m 239 #[vr oa, vi 2, vi 2, vi 0, vj ((2 : Int32).toInt64), v2, vr b17, vr b24, vi (((64 : Int32) - (((64 : Int32) / (2 : Int32)) + (0 : Int32))) - (((64 : Int32) / (2 : Int32)) + (0 : Int32))), vr b64, vi (((2 : Int32) + (1 : Int32)) - (2 : Int32)), vi ((0 : Int32) + (1 : Int32)), vj 33, v2] [(.int (((2 : Int32) + (1 : Int32)) - (2 : Int32))), (.int ((0 : Int32) + (1 : Int32))), (.int ((((2 : Int32) + (1 : Int32)) - (2 : Int32)) / (2 : Int32))), (.int ((0 : Int32) + (1 : Int32))), (.ref b64)])
  refine gv (fun t k => XS.iloadN Xh83.here hx rfl (hb hby d3_239) rfl k) ?_
  refine gv (fun t k => iremM Xh83 hx rfl (hb hby d3_240) rfl (by decide) k) ?_
  refine gv (fun t k => XS.icmpYes Xh83.here hx rfl (pc0 := 241) (pc' := 248) rfl (hb hby d3_241) rfl (flt (by decide : ¬ (((0 : Int32) + (1 : Int32)) < ((((2 : Int32) + (1 : Int32)) - (2 : Int32)) % (2 : Int32))))).2.1 (by decide) (by decide) k) ?_
  refine gv (fun t k => XS.iconst Xh83.here hx rfl (hb hby d3_248) k) ?_
  refine gv (fun t k => XS.iadd Xh83.here hx rfl (hb hby d3_249) rfl k) ?_
  have F84 := (V74.keep K80 own_nin0)
  obtain ⟨T85, h85, lc85, X85, e85, N85, Z85, K85, W85, V85, st85⟩ := own_stI Xh83 hx hZ hh83 F84 N83 Z81 K82 g70 (Or.inr sz71) (j := ((0 : Int32) + (1 : Int32))) ⟨by decide, by decide⟩ (ji := 1) (by decide) (Nat.le_of_ble_eq_true rfl) (g := (mkF m 250 #[vr oa, vi 2, vi 2, vi 0, vj ((2 : Int32).toInt64), v2, vr b17, vr b24, vi (((64 : Int32) - (((64 : Int32) / (2 : Int32)) + (0 : Int32))) - (((64 : Int32) / (2 : Int32)) + (0 : Int32))), vr b64, vi (((2 : Int32) + (1 : Int32)) - (2 : Int32)), vi ((0 : Int32) + (1 : Int32)), vj 33, v2] [(.int (((((2 : Int32) + (1 : Int32)) - (2 : Int32)) / (2 : Int32)) + (0 : Int32))), (.int ((0 : Int32) + (1 : Int32))), (.ref b64)])) rfl rfl (hb hby d3_250)
  refine gv st85 ?_
  refine gv (fun t k => XS.aloadN X85.here hx rfl (hb hby d3_251) rfl rfl k) ?_
  have F86 := ((F75.keep K80 own_nin0).other W85 (Or.inl (Nat.ne_of_lt (Nat.lt_of_lt_of_le P0.lt sz71))))
  obtain ⟨T87, X87, e87, st87⟩ := getF X85 hx hZ hown (host := "") (Or.inl (own_g hw 25 rfl)) Via.refl e85 F86 (g := (mkF m 252 #[vr oa, vi 2, vi 2, vi 0, vj ((2 : Int32).toInt64), v2, vr b17, vr b24, vi (((64 : Int32) - (((64 : Int32) / (2 : Int32)) + (0 : Int32))) - (((64 : Int32) / (2 : Int32)) + (0 : Int32))), vr b64, vi (((2 : Int32) + (1 : Int32)) - (2 : Int32)), vi ((0 : Int32) + (1 : Int32)), vj 33, v2] [(.ref oa)])) rfl rfl (hb hby d3_252)
  refine gv st87 ?_
  refine gv (fun t k => XS.iload X87.here hx rfl (hb hby d3_255) rfl k) ?_
  show Go p.tables e below P T87 (mkF m 257 #[vr oa, vi 2, vi 2, vi 0, vj ((2 : Int32).toInt64), v2, vr b17, vr b24, vi (((64 : Int32) - (((64 : Int32) / (2 : Int32)) + (0 : Int32))) - (((64 : Int32) / (2 : Int32)) + (0 : Int32))), vr b64, vi (((2 : Int32) + (1 : Int32)) - (2 : Int32)), vi ((0 : Int32) + (1 : Int32)), vj 33, v2] [(.int ((0 : Int32) + (1 : Int32))), (.ref b6)])
  have F88 := ((F77.keep K80 own_nin0).other W85 ne65)
  obtain ⟨c89, A89, q89, S89, N89, H89, G89⟩ := id F88
  have hin89 : ¬ (((0 : Int32) + (1 : Int32)) < 0 ∨ c89.slots.size ≤ (((0 : Int32) + (1 : Int32))).toNatClampNeg) := inb_of S89 ⟨by decide, by decide⟩
  have hat89 : c89.slots[(((0 : Int32) + (1 : Int32))).toNatClampNeg]? = some (.int (((64 : Int32) / (2 : Int32)) + (0 : Int32))) := (H89 _ (Nat.lt_of_not_le fun q => hin89 (Or.inr q))).trans (congrArg some rfl)
  refine gv (fun t k => X87.iaload hx (j := ((0 : Int32) + (1 : Int32))) (v := (.int (((64 : Int32) / (2 : Int32)) + (0 : Int32)))) (by rw [e87]; exact A89.1) (State.isArrayOf_alike hZ.alike A89.2.1) A89.2.2 hin89 hat89 (g := (mkF m 257 #[vr oa, vi 2, vi 2, vi 0, vj ((2 : Int32).toInt64), v2, vr b17, vr b24, vi (((64 : Int32) - (((64 : Int32) / (2 : Int32)) + (0 : Int32))) - (((64 : Int32) / (2 : Int32)) + (0 : Int32))), vr b64, vi (((2 : Int32) + (1 : Int32)) - (2 : Int32)), vi ((0 : Int32) + (1 : Int32)), vj 33, v2] [(.int ((0 : Int32) + (1 : Int32))), (.ref b6)])) rfl rfl (hb hby d3_257) t k) ?_
  refine gv (fun t k => XS.aload X87.here hx rfl (hb hby d3_258) rfl rfl k) ?_
  refine gv (fun t k => XS.iload X87.here hx rfl (hb hby d3_260) rfl k) ?_
  obtain ⟨c90, A90, q90, S90, N90, H90, G90⟩ := id V85
  have hin90 : ¬ (((0 : Int32) + (1 : Int32)) < 0 ∨ c90.slots.size ≤ (((0 : Int32) + (1 : Int32))).toNatClampNeg) := inb_of S90 ⟨by decide, by decide⟩
  have hat90 : c90.slots[(((0 : Int32) + (1 : Int32))).toNatClampNeg]? = some (.int (((((2 : Int32) + (1 : Int32)) - (2 : Int32)) / (2 : Int32)) + (0 : Int32))) := (H90 _ (Nat.lt_of_not_le fun q => hin90 (Or.inr q))).trans (congrArg some rfl)
  refine gv (fun t k => X87.iaload hx (j := ((0 : Int32) + (1 : Int32))) (v := (.int (((((2 : Int32) + (1 : Int32)) - (2 : Int32)) / (2 : Int32)) + (0 : Int32)))) (by rw [e87]; exact A90.1) (State.isArrayOf_alike hZ.alike A90.2.1) A90.2.2 hin90 hat90 (g := (mkF m 262 #[vr oa, vi 2, vi 2, vi 0, vj ((2 : Int32).toInt64), v2, vr b17, vr b24, vi (((64 : Int32) - (((64 : Int32) / (2 : Int32)) + (0 : Int32))) - (((64 : Int32) / (2 : Int32)) + (0 : Int32))), vr b64, vi (((2 : Int32) + (1 : Int32)) - (2 : Int32)), vi ((0 : Int32) + (1 : Int32)), vj 33, v2] [(.int ((0 : Int32) + (1 : Int32))), (.ref b64), (.int (((64 : Int32) / (2 : Int32)) + (0 : Int32)))])) rfl rfl (hb hby d3_262) t k) ?_
  show Go p.tables e below P T87 (mkF m 263 #[vr oa, vi 2, vi 2, vi 0, vj ((2 : Int32).toInt64), v2, vr b17, vr b24, vi (((64 : Int32) - (((64 : Int32) / (2 : Int32)) + (0 : Int32))) - (((64 : Int32) / (2 : Int32)) + (0 : Int32))), vr b64, vi (((2 : Int32) + (1 : Int32)) - (2 : Int32)), vi ((0 : Int32) + (1 : Int32)), vj 33, v2] [(.int (((((2 : Int32) + (1 : Int32)) - (2 : Int32)) / (2 : Int32)) + (0 : Int32))), (.int (((64 : Int32) / (2 : Int32)) + (0 : Int32)))])
  rw [show (((((2 : Int32) + (1 : Int32)) - (2 : Int32)) / (2 : Int32)) + (0 : Int32)) = (0 : Int32) from by decide]
  rw [show (((64 : Int32) / (2 : Int32)) + (0 : Int32)) = (32 : Int32) from by decide]
  obtain ⟨_, _, ⟨T91, L91, k91, n91⟩, -, X91, ⟨Lc91, hQ91, l91, y91, z91⟩, st91⟩ := Jvm.LawKit.callS X87 hx (y := (⟨BLn, "keysWithin", "(II)J"⟩ : MethodName)) hown (mvT hZ (own_g hw 85 rfl)) (mvT hZ (own_g hw 86 rfl)) (mvT hZ (own_g hw 11 rfl)) (mvT hZ (own_g hw 87 rfl)) (by decide) (backOf (W := 0) (rm13 l Z a0 hw [] (32 : Int32) 32 h85 n0 Z85 (by decide) (by first | assumption | decide | omega)) hZ (own_g hw 87 rfl) (own_g hw 11 rfl) (by decide) (by decide)) (g := (mkF m 263 #[vr oa, vi 2, vi 2, vi 0, vj ((2 : Int32).toInt64), v2, vr b17, vr b24, vi (((64 : Int32) - (((64 : Int32) / (2 : Int32)) + (0 : Int32))) - (((64 : Int32) / (2 : Int32)) + (0 : Int32))), vr b64, vi (((2 : Int32) + (1 : Int32)) - (2 : Int32)), vi ((0 : Int32) + (1 : Int32)), vj 33, v2] [(.int 0), (.int 32)])) rfl (by rw [hml]; rfl) (argsL := [(.int 32), (.int 0)]) (rest := []) (lenOf own_pd4 rfl) rfl (by show 2 * 0 + _ ≤ _; exact Nat.le_of_eq rfl) (hb hby d3_263) (fun _ _ => ⟨rfl, e87, (by decide : 6 + 1 ≤ _), (by decide : 138 + 65 ≤ _)⟩)
  dsimp only [Pt.U, Pt.locs, Pt.cells, Pt.slots] at X91 l91 y91 z91 st91 hQ91
  subst l91 y91 z91
  obtain ⟨rfl, Nq91, K91⟩ := hQ91
  obtain ⟨lc91, Xh91, N91⟩ := own_hide X91 (Fr.app N85 Nq91)
  clear X91
  refine gv st91 ?_
  have Z92 := Nat.le_trans Z85 K91.1
  have K93 := K85.trans K91 own_all0
  refine gv (fun t k => XS.lstore Xh91.here hx rfl (hb hby d3_266) rfl (l' := #[vr oa, vi 2, vi 2, vi 0, vj ((2 : Int32).toInt64), v2, vr b17, vr b24, vi (((64 : Int32) - (((64 : Int32) / (2 : Int32)) + (0 : Int32))) - (((64 : Int32) / (2 : Int32)) + (0 : Int32))), vr b64, vi (((2 : Int32) + (1 : Int32)) - (2 : Int32)), vi ((0 : Int32) + (1 : Int32)), vj 1, v2]) rfl k) ?_
  refine gv (fun t k => XS.lload Xh91.here hx rfl (hb hby d3_268) rfl k) ?_
  refine gv (fun t k => Xh91.ldc2Long hx hown (mvT hZ (own_g hw 120 rfl)) (g := (mkF m 270 #[vr oa, vi 2, vi 2, vi 0, vj ((2 : Int32).toInt64), v2, vr b17, vr b24, vi (((64 : Int32) - (((64 : Int32) / (2 : Int32)) + (0 : Int32))) - (((64 : Int32) / (2 : Int32)) + (0 : Int32))), vr b64, vi (((2 : Int32) + (1 : Int32)) - (2 : Int32)), vi ((0 : Int32) + (1 : Int32)), vj 1, v2] [(.long 1)])) rfl (hb hby d3_270) t k) ?_
  obtain ⟨_, _, ⟨T94, L94, k94, n94⟩, -, X94, ⟨Lc94, hQ94, l94, y94, z94⟩, st94⟩ := Jvm.LawKit.callS Xh91 hx (y := (⟨"java/lang/Long", "compareUnsigned", "(JJ)I"⟩ : MethodName)) hown (mvT hZ (own_g hw 121 rfl)) (mvT hZ (own_g hw 122 rfl)) (mvT hZ (own_g hw 73 rfl)) (mvT hZ (own_g hw 123 rfl)) (by decide) (backOf (W := 0) (rm21 l Z a0 hw [] (1 : Int64) (65536 : Int64) T91.heap n0 Z92 ) hZ (own_g hw 123 rfl) (own_g hw 73 rfl) (by decide) (by decide)) (g := (mkF m 273 #[vr oa, vi 2, vi 2, vi 0, vj ((2 : Int32).toInt64), v2, vr b17, vr b24, vi (((64 : Int32) - (((64 : Int32) / (2 : Int32)) + (0 : Int32))) - (((64 : Int32) / (2 : Int32)) + (0 : Int32))), vr b64, vi (((2 : Int32) + (1 : Int32)) - (2 : Int32)), vi ((0 : Int32) + (1 : Int32)), vj 1, v2] [(.long 65536), (.long 1)])) rfl (by rw [hml]; rfl) (argsL := [(.long 1), (.long 65536)]) (rest := []) (lenOf own_pd3 rfl) rfl (by show 2 * 0 + _ ≤ _; exact Nat.le_of_eq rfl) (hb hby d3_273) (fun _ _ => ⟨rfl, rfl, (by decide : 7 + 0 ≤ _), (by decide : 203 + 0 ≤ _)⟩)
  dsimp only [Pt.U, Pt.locs, Pt.cells, Pt.slots] at X94 l94 y94 z94 st94 hQ94
  subst l94 y94 z94
  obtain ⟨rfl, Nq94, hh94⟩ := hQ94
  obtain ⟨lc94, Xh94, N94⟩ := own_hide X94 (Fr.app N91 Nq94)
  clear X94
  refine gv st94 ?_
  refine gv (fun t k => XS.ifYes Xh94.here hx rfl (pc0 := 276) (pc' := 299) rfl (hb hby d3_276) rfl ((if0 _ _).trans (flt (by decide)).2.2.2) (by decide) (by decide) k) ?_
  refine gv (fun t k => XS.iinc Xh94.here hx rfl (hb hby d3_299) rfl (l' := #[vr oa, vi 2, vi 2, vi 0, vj ((2 : Int32).toInt64), v2, vr b17, vr b24, vi (((64 : Int32) - (((64 : Int32) / (2 : Int32)) + (0 : Int32))) - (((64 : Int32) / (2 : Int32)) + (0 : Int32))), vr b64, vi (((2 : Int32) + (1 : Int32)) - (2 : Int32)), vi (((0 : Int32) + (1 : Int32)) + (1 : Int32)), vj 1, v2]) rfl k) ?_
  refine gv (fun t k => XS.goto Xh94.here hx rfl (pc0 := 302) (pc' := 221) rfl (hb hby d3_302) (by decide) (by decide) k) ?_
  refine gv (fun t k => XS.iload Xh94.here hx rfl (hb hby d3_221) rfl k) ?_
  show Go p.tables e below P T94 (mkF m 223 #[vr oa, vi 2, vi 2, vi 0, vj ((2 : Int32).toInt64), v2, vr b17, vr b24, vi (((64 : Int32) - (((64 : Int32) / (2 : Int32)) + (0 : Int32))) - (((64 : Int32) / (2 : Int32)) + (0 : Int32))), vr b64, vi (((2 : Int32) + (1 : Int32)) - (2 : Int32)), vi (((0 : Int32) + (1 : Int32)) + (1 : Int32)), vj 1, v2] [(.int (((0 : Int32) + (1 : Int32)) + (1 : Int32)))])
  refine gv (fun t k => XS.iloadN Xh94.here hx rfl (hb hby d3_223) rfl k) ?_
  refine gv (fun t k => XS.icmpYes Xh94.here hx rfl (pc0 := 224) (pc' := 305) rfl (hb hby d3_224) rfl (flt (by decide : ¬ ((((0 : Int32) + (1 : Int32)) + (1 : Int32)) < (2 : Int32)))).2.1 (by decide) (by decide) k) ?_
  refine gv (fun t k => XS.lload Xh94.here hx rfl (hb hby d3_305) rfl k) ?_
  refine gv (fun t k => XS.l2i Xh94.here hx rfl (hb hby d3_307) rfl k) ?_
  show Go p.tables e below P T94 (mkF m 308 #[vr oa, vi 2, vi 2, vi 0, vj ((2 : Int32).toInt64), v2, vr b17, vr b24, vi (((64 : Int32) - (((64 : Int32) / (2 : Int32)) + (0 : Int32))) - (((64 : Int32) / (2 : Int32)) + (0 : Int32))), vr b64, vi (((2 : Int32) + (1 : Int32)) - (2 : Int32)), vi (((0 : Int32) + (1 : Int32)) + (1 : Int32)), vj 1, v2] [(.int (((2 : Int32).toInt64).toInt32))])
  rw [own_l2i]
  refine gv (fun t k => XS.istore Xh94.here hx rfl (hb hby d3_308) rfl (l' := #[vr oa, vi 2, vi 2, vi 0, vj ((2 : Int32).toInt64), v2, vr b17, vr b24, vi (((64 : Int32) - (((64 : Int32) / (2 : Int32)) + (0 : Int32))) - (((64 : Int32) / (2 : Int32)) + (0 : Int32))), vr b64, vi 2, vi (((0 : Int32) + (1 : Int32)) + (1 : Int32)), vj 1, v2]) rfl k) ?_
  refine gv (fun t k => XS.aloadN Xh94.here hx rfl (hb hby d3_310) rfl rfl k) ?_
  refine gv (fun t k => XS.iloadN Xh94.here hx rfl (hb hby d3_311) rfl k) ?_
  refine gv (fun t k => XS.ifYes Xh94.here hx rfl (pc0 := 312) (pc' := 322) rfl (hb hby d3_312) rfl ((if0 _ _).trans (teq (rfl : (0 : Int32) = (0 : Int32))).1) (by decide) (by decide) k) ?_
  refine gv (fun t k => XS.aload Xh94.here hx rfl (hb hby d3_322) rfl rfl k) ?_
  have F95 := ((((((((((((((F11.wr W13).ext E17).ext E24).wr W35).wr W40).wr W47).wr W51).wr W56).wr W63).ext E64).wr W74).keep K80).wr W85).keep K91)
  have F96 := ((((((((((((((((P6.other W2 (Or.inr (own_sn80 hw))).ext E6).other W13 (Or.inr (own_sn81 hw))).ext E17).ext E24).other W35 (Or.inl (Nat.ne_of_lt (Nat.lt_of_lt_of_le P0.lt sz8)))).other W40 (Or.inl (Nat.ne_of_lt (Nat.lt_of_lt_of_le P0.lt sz29)))).other W47 (Or.inl (Nat.ne_of_lt (Nat.lt_of_lt_of_le P0.lt sz21)))).other W51 (Or.inl (Nat.ne_of_lt (Nat.lt_of_lt_of_le P0.lt sz8)))).other W56 (Or.inl (Nat.ne_of_lt (Nat.lt_of_lt_of_le P0.lt sz29)))).other W63 (Or.inl (Nat.ne_of_lt (Nat.lt_of_lt_of_le P0.lt sz21)))).ext E64).other W74 (Or.inl (Nat.ne_of_lt (Nat.lt_of_lt_of_le P0.lt sz71)))).keep K80 own_nin0).other W85 (Or.inl (Nat.ne_of_lt (Nat.lt_of_lt_of_le P0.lt sz71)))).keep K91 own_nin0)
  obtain ⟨T97, h97, X97, e97, W97, st97⟩ := putF Xh94 hx hZ hown (host := "") (Or.inl (own_g hw 31 rfl)) Via.refl hh94 F96 F95 (Or.inr ⟨(own_g hw 32 rfl), rfl, hnm⟩) (own_g hw 10 rfl) (ty := (.array .int)) (by decide) rfl rfl (g := (mkF m 324 #[vr oa, vi 2, vi 2, vi 0, vj ((2 : Int32).toInt64), v2, vr b17, vr b24, vi (((64 : Int32) - (((64 : Int32) / (2 : Int32)) + (0 : Int32))) - (((64 : Int32) / (2 : Int32)) + (0 : Int32))), vr b64, vi 2, vi (((0 : Int32) + (1 : Int32)) + (1 : Int32)), vj 1, v2] [(.ref b64), (.ref oa)])) rfl rfl (hb hby d3_324)
  refine gv st97 ?_
  have Z98 := Nat.le_trans Z92 (Nat.le_of_eq W97.size.symm)
  have K99 := K93.wr W97 (Or.inl (List.mem_of_getElem? (i := 0) rfl))
  obtain ⟨lc97, Xh97, N100⟩ := own_hide X97 (Fr.snoc X97 N94 ga)
  clear X97
  have Fw97 := F96.same W97
  refine gv (fun t k => XS.aloadN Xh97.here hx rfl (hb hby d3_327) rfl rfl k) ?_
  refine gv (fun t k => XS.iload Xh97.here hx rfl (hb hby d3_328) rfl k) ?_
  obtain ⟨T101, h101, k101, X101, e101, E101, A101, st101⟩ := newP Xh97 hx hZ (own_g hw 21 rfl) e97 (g := (mkF m 330 #[vr oa, vi 2, vi 2, vi 0, vj ((2 : Int32).toInt64), v2, vr b17, vr b24, vi (((64 : Int32) - (((64 : Int32) / (2 : Int32)) + (0 : Int32))) - (((64 : Int32) / (2 : Int32)) + (0 : Int32))), vr b64, vi 2, vi (((0 : Int32) + (1 : Int32)) + (1 : Int32)), vj 1, v2] [(.int 2), (.ref oa)])) rfl (hb hby d3_330) rfl (by decide) (cap := 2) (by decide) (by decide) (by decide) (by decide)
  obtain ⟨b101, g101⟩ : ∃ z, z = h97.size := ⟨_, rfl⟩
  rw [← g101] at A101 st101
  refine gv st101 ?_
  have F103 := ((F88.keep K91 own_nin0).other W97 (Ne.symm (Nat.ne_of_lt (Nat.lt_of_lt_of_le P0.lt sz8))))
  have ne102 := Nat.ne_of_lt (Nat.lt_of_lt_of_le F103.lt (Nat.le_of_eq g101.symm))
  have F105 := ((((((V63.ext E64).other W74 ne67).keep K80 own_nin0).other W85 ne67).keep K91 own_nin0).other W97 (Ne.symm (Nat.ne_of_lt (Nat.lt_of_lt_of_le P0.lt sz21))))
  have ne104 := Nat.ne_of_lt (Nat.lt_of_lt_of_le F105.lt (Nat.le_of_eq g101.symm))
  have F107 := ((((((F69.ext E64).other W74 ne68).keep K80 own_nin0).other W85 ne68).keep K91 own_nin0).other W97 (Ne.symm (Nat.ne_of_lt (Nat.lt_of_lt_of_le P0.lt sz29))))
  have ne106 := Nat.ne_of_lt (Nat.lt_of_lt_of_le F107.lt (Nat.le_of_eq g101.symm))
  have F109 := ((V85.keep K91 own_nin0).other W97 (Ne.symm (Nat.ne_of_lt (Nat.lt_of_lt_of_le P0.lt sz71))))
  have ne108 := Nat.ne_of_lt (Nat.lt_of_lt_of_le F109.lt (Nat.le_of_eq g101.symm))
  have g110 := Nat.le_trans Z98 (Nat.le_of_eq g101.symm)
  have sz111 := Nat.le_trans K99.1 (Nat.le_of_eq g101.symm)
  have Z112 := Nat.le_trans Z98 E101.1
  have K113 := K99.ext E101
  have V101 : Arv Z h101 b101 k101 .long (2 : Int32) [(.long 0), (.long 0)] (.long 0) := (Arv.new A101 (by decide)).pad (pad_rep [] (.long 0) 2)
  show Go p.tables e below P T101 (mkF m 332 #[vr oa, vi 2, vi 2, vi 0, vj ((2 : Int32).toInt64), v2, vr b17, vr b24, vi (((64 : Int32) - (((64 : Int32) / (2 : Int32)) + (0 : Int32))) - (((64 : Int32) / (2 : Int32)) + (0 : Int32))), vr b64, vi 2, vi (((0 : Int32) + (1 : Int32)) + (1 : Int32)), vj 1, v2] [(.ref b101), (.ref oa)])
  have F114 := ((F95.wr W97).ext E101)
  have F115 := ((((((((((((((((((P3.other W2 (Or.inr (own_sn74 hw))).ext E6).other W13 (Or.inr (own_sn75 hw))).ext E17).ext E24).other W35 (Or.inl (Nat.ne_of_lt (Nat.lt_of_lt_of_le P0.lt sz8)))).other W40 (Or.inl (Nat.ne_of_lt (Nat.lt_of_lt_of_le P0.lt sz29)))).other W47 (Or.inl (Nat.ne_of_lt (Nat.lt_of_lt_of_le P0.lt sz21)))).other W51 (Or.inl (Nat.ne_of_lt (Nat.lt_of_lt_of_le P0.lt sz8)))).other W56 (Or.inl (Nat.ne_of_lt (Nat.lt_of_lt_of_le P0.lt sz29)))).other W63 (Or.inl (Nat.ne_of_lt (Nat.lt_of_lt_of_le P0.lt sz21)))).ext E64).other W74 (Or.inl (Nat.ne_of_lt (Nat.lt_of_lt_of_le P0.lt sz71)))).keep K80 own_nin0).other W85 (Or.inl (Nat.ne_of_lt (Nat.lt_of_lt_of_le P0.lt sz71)))).keep K91 own_nin0).other W97 (Or.inr (own_sn1 hw))).ext E101)
  obtain ⟨T116, h116, X116, e116, W116, st116⟩ := putF X101 hx hZ hown (host := "") (Or.inl (own_g hw 33 rfl)) Via.refl e101 F115 F114 (Or.inr ⟨(own_g hw 34 rfl), rfl, hnm⟩) (own_g hw 10 rfl) (ty := (.array .long)) (by decide) rfl rfl (g := (mkF m 332 #[vr oa, vi 2, vi 2, vi 0, vj ((2 : Int32).toInt64), v2, vr b17, vr b24, vi (((64 : Int32) - (((64 : Int32) / (2 : Int32)) + (0 : Int32))) - (((64 : Int32) / (2 : Int32)) + (0 : Int32))), vr b64, vi 2, vi (((0 : Int32) + (1 : Int32)) + (1 : Int32)), vj 1, v2] [(.ref b101), (.ref oa)])) rfl rfl (hb hby d3_332)
  refine gv st116 ?_
  have Z117 := Nat.le_trans Z112 (Nat.le_of_eq W116.size.symm)
  have K118 := K113.wr W116 (Or.inl (List.mem_of_getElem? (i := 0) rfl))
  obtain ⟨lc116, Xh116, N119⟩ := own_hide X116 (Fr.snoc X116 N100 ga)
  clear X116
  have Fw116 := F115.same W116
  refine gv (fun t k => XS.aloadN Xh116.here hx rfl (hb hby d3_335) rfl rfl k) ?_
  refine gv (fun t k => XS.iload Xh116.here hx rfl (hb hby d3_336) rfl k) ?_
  obtain ⟨T120, h120, k120, X120, e120, E120, A120, B120, O120, st120⟩ := newRA Xh116 hx hZ hown (ty := .int) (by decide) (own_g hw 35 rfl) (own_g hw 36 rfl) e116 (g := (mkF m 338 #[vr oa, vi 2, vi 2, vi 0, vj ((2 : Int32).toInt64), v2, vr b17, vr b24, vi (((64 : Int32) - (((64 : Int32) / (2 : Int32)) + (0 : Int32))) - (((64 : Int32) / (2 : Int32)) + (0 : Int32))), vr b64, vi 2, vi (((0 : Int32) + (1 : Int32)) + (1 : Int32)), vj 1, v2] [(.int 2), (.ref oa)])) rfl (hb hby d3_338) rfl (by decide) (cap := 2) (by decide) (by decide) (by decide) (by decide) (ad := "[[I") (by decide)
  obtain ⟨b120, g120⟩ : ∃ z, z = h116.size := ⟨_, rfl⟩
  rw [← g120] at A120 B120 st120
  refine gv st120 ?_
  have F122 := ((F103.ext E101).other W116 (Ne.symm (Nat.ne_of_lt (Nat.lt_of_lt_of_le P0.lt sz8))))
  have ne121 := Nat.ne_of_lt (Nat.lt_of_lt_of_le F122.lt (Nat.le_of_eq g120.symm))
  have F124 := ((F105.ext E101).other W116 (Ne.symm (Nat.ne_of_lt (Nat.lt_of_lt_of_le P0.lt sz21))))
  have ne123 := Nat.ne_of_lt (Nat.lt_of_lt_of_le F124.lt (Nat.le_of_eq g120.symm))
  have F126 := ((F107.ext E101).other W116 (Ne.symm (Nat.ne_of_lt (Nat.lt_of_lt_of_le P0.lt sz29))))
  have ne125 := Nat.ne_of_lt (Nat.lt_of_lt_of_le F126.lt (Nat.le_of_eq g120.symm))
  have F128 := ((F109.ext E101).other W116 (Ne.symm (Nat.ne_of_lt (Nat.lt_of_lt_of_le P0.lt sz71))))
  have ne127 := Nat.ne_of_lt (Nat.lt_of_lt_of_le F128.lt (Nat.le_of_eq g120.symm))
  have F130 := (V101.other W116 (Ne.symm (Nat.ne_of_lt (Nat.lt_of_lt_of_le P0.lt sz111))))
  have ne129 := Nat.ne_of_lt (Nat.lt_of_lt_of_le F130.lt (Nat.le_of_eq g120.symm))
  have g131 := Nat.le_trans Z117 (Nat.le_of_eq g120.symm)
  have sz132 := Nat.le_trans K118.1 (Nat.le_of_eq g120.symm)
  have Z133 := Nat.le_trans Z117 E120.1
  have K134 := K118.ext E120
  have V120 : Arv Z h120 b120 k120 (.array .int) (2 : Int32) [.null, .null] .null := (Arv.new A120 (by decide)).pad (pad_rep [] .null 2)
  have F135 := ((F114.wr W116).ext E120)
  have F136 := ((((((((((((((((((((P4.other W2 (Or.inr (own_sn76 hw))).ext E6).other W13 (Or.inr (own_sn77 hw))).ext E17).ext E24).other W35 (Or.inl (Nat.ne_of_lt (Nat.lt_of_lt_of_le P0.lt sz8)))).other W40 (Or.inl (Nat.ne_of_lt (Nat.lt_of_lt_of_le P0.lt sz29)))).other W47 (Or.inl (Nat.ne_of_lt (Nat.lt_of_lt_of_le P0.lt sz21)))).other W51 (Or.inl (Nat.ne_of_lt (Nat.lt_of_lt_of_le P0.lt sz8)))).other W56 (Or.inl (Nat.ne_of_lt (Nat.lt_of_lt_of_le P0.lt sz29)))).other W63 (Or.inl (Nat.ne_of_lt (Nat.lt_of_lt_of_le P0.lt sz21)))).ext E64).other W74 (Or.inl (Nat.ne_of_lt (Nat.lt_of_lt_of_le P0.lt sz71)))).keep K80 own_nin0).other W85 (Or.inl (Nat.ne_of_lt (Nat.lt_of_lt_of_le P0.lt sz71)))).keep K91 own_nin0).other W97 (Or.inr (own_sn2 hw))).ext E101).other W116 (Or.inr (own_sn3 hw))).ext E120)
  obtain ⟨T137, h137, X137, e137, W137, st137⟩ := putF X120 hx hZ hown (host := "") (Or.inl (own_g hw 37 rfl)) Via.refl e120 F136 F135 (Or.inr ⟨(own_g hw 38 rfl), rfl, hnm⟩) (own_g hw 10 rfl) (ty := (.array (.array .int))) (by decide) rfl rfl (g := (mkF m 341 #[vr oa, vi 2, vi 2, vi 0, vj ((2 : Int32).toInt64), v2, vr b17, vr b24, vi (((64 : Int32) - (((64 : Int32) / (2 : Int32)) + (0 : Int32))) - (((64 : Int32) / (2 : Int32)) + (0 : Int32))), vr b64, vi 2, vi (((0 : Int32) + (1 : Int32)) + (1 : Int32)), vj 1, v2] [(.ref b120), (.ref oa)])) rfl rfl (hb hby d3_341)
  refine gv st137 ?_
  have Z138 := Nat.le_trans Z133 (Nat.le_of_eq W137.size.symm)
  have K139 := K134.wr W137 (Or.inl (List.mem_of_getElem? (i := 0) rfl))
  obtain ⟨lc137, Xh137, N140⟩ := own_hide X137 (Fr.snoc X137 N119 ga)
  clear X137
  have Fw137 := F136.same W137
  refine gv (fun t k => XS.aloadN Xh137.here hx rfl (hb hby d3_344) rfl rfl k) ?_
  refine gv (fun t k => XS.iload Xh137.here hx rfl (hb hby d3_345) rfl k) ?_
  obtain ⟨T141, h141, k141, X141, e141, E141, A141, B141, O141, st141⟩ := newRA Xh137 hx hZ hown (ty := .int) (by decide) (own_g hw 35 rfl) (own_g hw 36 rfl) e137 (g := (mkF m 347 #[vr oa, vi 2, vi 2, vi 0, vj ((2 : Int32).toInt64), v2, vr b17, vr b24, vi (((64 : Int32) - (((64 : Int32) / (2 : Int32)) + (0 : Int32))) - (((64 : Int32) / (2 : Int32)) + (0 : Int32))), vr b64, vi 2, vi (((0 : Int32) + (1 : Int32)) + (1 : Int32)), vj 1, v2] [(.int 2), (.ref oa)])) rfl (hb hby d3_347) rfl (by decide) (cap := 2) (by decide) (by decide) (by decide) (by decide) (ad := "[[I") (by decide)
  obtain ⟨b141, g141⟩ : ∃ z, z = h137.size := ⟨_, rfl⟩
  rw [← g141] at A141 B141 st141
  refine gv st141 ?_
  have F143 := ((F122.ext E120).other W137 (Ne.symm (Nat.ne_of_lt (Nat.lt_of_lt_of_le P0.lt sz8))))
  have ne142 := Nat.ne_of_lt (Nat.lt_of_lt_of_le F143.lt (Nat.le_of_eq g141.symm))
  have F145 := ((F124.ext E120).other W137 (Ne.symm (Nat.ne_of_lt (Nat.lt_of_lt_of_le P0.lt sz21))))
  have ne144 := Nat.ne_of_lt (Nat.lt_of_lt_of_le F145.lt (Nat.le_of_eq g141.symm))
  have F147 := ((F126.ext E120).other W137 (Ne.symm (Nat.ne_of_lt (Nat.lt_of_lt_of_le P0.lt sz29))))
  have ne146 := Nat.ne_of_lt (Nat.lt_of_lt_of_le F147.lt (Nat.le_of_eq g141.symm))
  have F149 := ((F128.ext E120).other W137 (Ne.symm (Nat.ne_of_lt (Nat.lt_of_lt_of_le P0.lt sz71))))
  have ne148 := Nat.ne_of_lt (Nat.lt_of_lt_of_le F149.lt (Nat.le_of_eq g141.symm))
  have F151 := ((F130.ext E120).other W137 (Ne.symm (Nat.ne_of_lt (Nat.lt_of_lt_of_le P0.lt sz111))))
  have ne150 := Nat.ne_of_lt (Nat.lt_of_lt_of_le F151.lt (Nat.le_of_eq g141.symm))
  have F153 := (V120.other W137 (Ne.symm (Nat.ne_of_lt (Nat.lt_of_lt_of_le P0.lt sz132))))
  have ne152 := Nat.ne_of_lt (Nat.lt_of_lt_of_le F153.lt (Nat.le_of_eq g141.symm))
  have g154 := Nat.le_trans Z138 (Nat.le_of_eq g141.symm)
  have sz155 := Nat.le_trans K139.1 (Nat.le_of_eq g141.symm)
  have Z156 := Nat.le_trans Z138 E141.1
  have K157 := K139.ext E141
  have V141 : Arv Z h141 b141 k141 (.array .int) (2 : Int32) [.null, .null] .null := (Arv.new A141 (by decide)).pad (pad_rep [] .null 2)
  have F158 := ((F135.wr W137).ext E141)
  have F159 := ((((((((((((((((((((((P5.other W2 (Or.inr (own_sn78 hw))).ext E6).other W13 (Or.inr (own_sn79 hw))).ext E17).ext E24).other W35 (Or.inl (Nat.ne_of_lt (Nat.lt_of_lt_of_le P0.lt sz8)))).other W40 (Or.inl (Nat.ne_of_lt (Nat.lt_of_lt_of_le P0.lt sz29)))).other W47 (Or.inl (Nat.ne_of_lt (Nat.lt_of_lt_of_le P0.lt sz21)))).other W51 (Or.inl (Nat.ne_of_lt (Nat.lt_of_lt_of_le P0.lt sz8)))).other W56 (Or.inl (Nat.ne_of_lt (Nat.lt_of_lt_of_le P0.lt sz29)))).other W63 (Or.inl (Nat.ne_of_lt (Nat.lt_of_lt_of_le P0.lt sz21)))).ext E64).other W74 (Or.inl (Nat.ne_of_lt (Nat.lt_of_lt_of_le P0.lt sz71)))).keep K80 own_nin0).other W85 (Or.inl (Nat.ne_of_lt (Nat.lt_of_lt_of_le P0.lt sz71)))).keep K91 own_nin0).other W97 (Or.inr (own_sn4 hw))).ext E101).other W116 (Or.inr (own_sn5 hw))).ext E120).other W137 (Or.inr (own_sn6 hw))).ext E141)
  obtain ⟨T160, h160, X160, e160, W160, st160⟩ := putF X141 hx hZ hown (host := "") (Or.inl (own_g hw 39 rfl)) Via.refl e141 F159 F158 (Or.inr ⟨(own_g hw 40 rfl), rfl, hnm⟩) (own_g hw 10 rfl) (ty := (.array (.array .int))) (by decide) rfl rfl (g := (mkF m 350 #[vr oa, vi 2, vi 2, vi 0, vj ((2 : Int32).toInt64), v2, vr b17, vr b24, vi (((64 : Int32) - (((64 : Int32) / (2 : Int32)) + (0 : Int32))) - (((64 : Int32) / (2 : Int32)) + (0 : Int32))), vr b64, vi 2, vi (((0 : Int32) + (1 : Int32)) + (1 : Int32)), vj 1, v2] [(.ref b141), (.ref oa)])) rfl rfl (hb hby d3_350)
  refine gv st160 ?_
  have Z161 := Nat.le_trans Z156 (Nat.le_of_eq W160.size.symm)
  have K162 := K157.wr W160 (Or.inl (List.mem_of_getElem? (i := 0) rfl))
  obtain ⟨lc160, Xh160, N163⟩ := own_hide X160 (Fr.snoc X160 N140 ga)
  clear X160
  have Fw160 := F159.same W160
  show Go p.tables e below P T160 (mkF m 353 #[vr oa, vi 2, vi 2, vi 0, vj ((2 : Int32).toInt64), v2, vr b17, vr b24, vi (((64 : Int32) - (((64 : Int32) / (2 : Int32)) + (0 : Int32))) - (((64 : Int32) / (2 : Int32)) + (0 : Int32))), vr b64, vi 2, vi (((0 : Int32) + (1 : Int32)) + (1 : Int32)), vj 1, v2] [])
  refine gv (fun t k => XS.aloadN Xh160.here hx rfl (hb hby d3_353) rfl rfl k) ?_
  refine gv (fun t k => XS.iload Xh160.here hx rfl (hb hby d3_354) rfl k) ?_
  obtain ⟨T164, h164, k164, X164, e164, E164, A164, B164, O164, st164⟩ := newRA Xh160 hx hZ hown (ty := .long) (by decide) (own_g hw 41 rfl) (own_g hw 42 rfl) e160 (g := (mkF m 356 #[vr oa, vi 2, vi 2, vi 0, vj ((2 : Int32).toInt64), v2, vr b17, vr b24, vi (((64 : Int32) - (((64 : Int32) / (2 : Int32)) + (0 : Int32))) - (((64 : Int32) / (2 : Int32)) + (0 : Int32))), vr b64, vi 2, vi (((0 : Int32) + (1 : Int32)) + (1 : Int32)), vj 1, v2] [(.int 2), (.ref oa)])) rfl (hb hby d3_356) rfl (by decide) (cap := 2) (by decide) (by decide) (by decide) (by decide) (ad := "[[J") (by decide)
  obtain ⟨b164, g164⟩ : ∃ z, z = h160.size := ⟨_, rfl⟩
  rw [← g164] at A164 B164 st164
  refine gv st164 ?_
  have F166 := ((F143.ext E141).other W160 (Ne.symm (Nat.ne_of_lt (Nat.lt_of_lt_of_le P0.lt sz8))))
  have ne165 := Nat.ne_of_lt (Nat.lt_of_lt_of_le F166.lt (Nat.le_of_eq g164.symm))
  have F168 := ((F145.ext E141).other W160 (Ne.symm (Nat.ne_of_lt (Nat.lt_of_lt_of_le P0.lt sz21))))
  have ne167 := Nat.ne_of_lt (Nat.lt_of_lt_of_le F168.lt (Nat.le_of_eq g164.symm))
  have F170 := ((F147.ext E141).other W160 (Ne.symm (Nat.ne_of_lt (Nat.lt_of_lt_of_le P0.lt sz29))))
  have ne169 := Nat.ne_of_lt (Nat.lt_of_lt_of_le F170.lt (Nat.le_of_eq g164.symm))
  have F172 := ((F149.ext E141).other W160 (Ne.symm (Nat.ne_of_lt (Nat.lt_of_lt_of_le P0.lt sz71))))
  have ne171 := Nat.ne_of_lt (Nat.lt_of_lt_of_le F172.lt (Nat.le_of_eq g164.symm))
  have F174 := ((F151.ext E141).other W160 (Ne.symm (Nat.ne_of_lt (Nat.lt_of_lt_of_le P0.lt sz111))))
  have ne173 := Nat.ne_of_lt (Nat.lt_of_lt_of_le F174.lt (Nat.le_of_eq g164.symm))
  have F176 := ((F153.ext E141).other W160 (Ne.symm (Nat.ne_of_lt (Nat.lt_of_lt_of_le P0.lt sz132))))
  have ne175 := Nat.ne_of_lt (Nat.lt_of_lt_of_le F176.lt (Nat.le_of_eq g164.symm))
  have F178 := (V141.other W160 (Ne.symm (Nat.ne_of_lt (Nat.lt_of_lt_of_le P0.lt sz155))))
  have ne177 := Nat.ne_of_lt (Nat.lt_of_lt_of_le F178.lt (Nat.le_of_eq g164.symm))
  have g179 := Nat.le_trans Z161 (Nat.le_of_eq g164.symm)
  have sz180 := Nat.le_trans K162.1 (Nat.le_of_eq g164.symm)
  have Z181 := Nat.le_trans Z161 E164.1
  have K182 := K162.ext E164
  have V164 : Arv Z h164 b164 k164 (.array .long) (2 : Int32) [.null, .null] .null := (Arv.new A164 (by decide)).pad (pad_rep [] .null 2)
  have F183 := ((F158.wr W160).ext E164)
  have F184 := ((((((((((((((((((((((((P7.other W2 (Or.inr (own_sn82 hw))).ext E6).other W13 (Or.inr (own_sn83 hw))).ext E17).ext E24).other W35 (Or.inl (Nat.ne_of_lt (Nat.lt_of_lt_of_le P0.lt sz8)))).other W40 (Or.inl (Nat.ne_of_lt (Nat.lt_of_lt_of_le P0.lt sz29)))).other W47 (Or.inl (Nat.ne_of_lt (Nat.lt_of_lt_of_le P0.lt sz21)))).other W51 (Or.inl (Nat.ne_of_lt (Nat.lt_of_lt_of_le P0.lt sz8)))).other W56 (Or.inl (Nat.ne_of_lt (Nat.lt_of_lt_of_le P0.lt sz29)))).other W63 (Or.inl (Nat.ne_of_lt (Nat.lt_of_lt_of_le P0.lt sz21)))).ext E64).other W74 (Or.inl (Nat.ne_of_lt (Nat.lt_of_lt_of_le P0.lt sz71)))).keep K80 own_nin0).other W85 (Or.inl (Nat.ne_of_lt (Nat.lt_of_lt_of_le P0.lt sz71)))).keep K91 own_nin0).other W97 (Or.inr (own_sn7 hw))).ext E101).other W116 (Or.inr (own_sn8 hw))).ext E120).other W137 (Or.inr (own_sn9 hw))).ext E141).other W160 (Or.inr (own_sn10 hw))).ext E164)
  obtain ⟨T185, h185, X185, e185, W185, st185⟩ := putF X164 hx hZ hown (host := "") (Or.inl (own_g hw 43 rfl)) Via.refl e164 F184 F183 (Or.inr ⟨(own_g hw 44 rfl), rfl, hnm⟩) (own_g hw 10 rfl) (ty := (.array (.array .long))) (by decide) rfl rfl (g := (mkF m 359 #[vr oa, vi 2, vi 2, vi 0, vj ((2 : Int32).toInt64), v2, vr b17, vr b24, vi (((64 : Int32) - (((64 : Int32) / (2 : Int32)) + (0 : Int32))) - (((64 : Int32) / (2 : Int32)) + (0 : Int32))), vr b64, vi 2, vi (((0 : Int32) + (1 : Int32)) + (1 : Int32)), vj 1, v2] [(.ref b164), (.ref oa)])) rfl rfl (hb hby d3_359)
  refine gv st185 ?_
  have Z186 := Nat.le_trans Z181 (Nat.le_of_eq W185.size.symm)
  have K187 := K182.wr W185 (Or.inl (List.mem_of_getElem? (i := 0) rfl))
  obtain ⟨lc185, Xh185, N188⟩ := own_hide X185 (Fr.snoc X185 N163 ga)
  clear X185
  have Fw185 := F184.same W185
  refine gv (fun t k => XS.aloadN Xh185.here hx rfl (hb hby d3_362) rfl rfl k) ?_
  refine gv (fun t k => XS.iload Xh185.here hx rfl (hb hby d3_363) rfl k) ?_
  obtain ⟨T189, h189, k189, X189, e189, E189, A189, st189⟩ := newP Xh185 hx hZ (own_g hw 21 rfl) e185 (g := (mkF m 365 #[vr oa, vi 2, vi 2, vi 0, vj ((2 : Int32).toInt64), v2, vr b17, vr b24, vi (((64 : Int32) - (((64 : Int32) / (2 : Int32)) + (0 : Int32))) - (((64 : Int32) / (2 : Int32)) + (0 : Int32))), vr b64, vi 2, vi (((0 : Int32) + (1 : Int32)) + (1 : Int32)), vj 1, v2] [(.int 2), (.ref oa)])) rfl (hb hby d3_365) rfl (by decide) (cap := 2) (by decide) (by decide) (by decide) (by decide)
  obtain ⟨b189, g189⟩ : ∃ z, z = h185.size := ⟨_, rfl⟩
  rw [← g189] at A189 st189
  refine gv st189 ?_
  have F191 := ((F166.ext E164).other W185 (Ne.symm (Nat.ne_of_lt (Nat.lt_of_lt_of_le P0.lt sz8))))
  have ne190 := Nat.ne_of_lt (Nat.lt_of_lt_of_le F191.lt (Nat.le_of_eq g189.symm))
  have F193 := ((F168.ext E164).other W185 (Ne.symm (Nat.ne_of_lt (Nat.lt_of_lt_of_le P0.lt sz21))))
  have ne192 := Nat.ne_of_lt (Nat.lt_of_lt_of_le F193.lt (Nat.le_of_eq g189.symm))
  have F195 := ((F170.ext E164).other W185 (Ne.symm (Nat.ne_of_lt (Nat.lt_of_lt_of_le P0.lt sz29))))
  have ne194 := Nat.ne_of_lt (Nat.lt_of_lt_of_le F195.lt (Nat.le_of_eq g189.symm))
  have F197 := ((F172.ext E164).other W185 (Ne.symm (Nat.ne_of_lt (Nat.lt_of_lt_of_le P0.lt sz71))))
  have ne196 := Nat.ne_of_lt (Nat.lt_of_lt_of_le F197.lt (Nat.le_of_eq g189.symm))
  have F199 := ((F174.ext E164).other W185 (Ne.symm (Nat.ne_of_lt (Nat.lt_of_lt_of_le P0.lt sz111))))
  have ne198 := Nat.ne_of_lt (Nat.lt_of_lt_of_le F199.lt (Nat.le_of_eq g189.symm))
  have F201 := ((F176.ext E164).other W185 (Ne.symm (Nat.ne_of_lt (Nat.lt_of_lt_of_le P0.lt sz132))))
  have ne200 := Nat.ne_of_lt (Nat.lt_of_lt_of_le F201.lt (Nat.le_of_eq g189.symm))
  have F203 := ((F178.ext E164).other W185 (Ne.symm (Nat.ne_of_lt (Nat.lt_of_lt_of_le P0.lt sz155))))
  have ne202 := Nat.ne_of_lt (Nat.lt_of_lt_of_le F203.lt (Nat.le_of_eq g189.symm))
  have F205 := (V164.other W185 (Ne.symm (Nat.ne_of_lt (Nat.lt_of_lt_of_le P0.lt sz180))))
  have ne204 := Nat.ne_of_lt (Nat.lt_of_lt_of_le F205.lt (Nat.le_of_eq g189.symm))
  have g206 := Nat.le_trans Z186 (Nat.le_of_eq g189.symm)
  have sz207 := Nat.le_trans K187.1 (Nat.le_of_eq g189.symm)
  have Z208 := Nat.le_trans Z186 E189.1
  have K209 := K187.ext E189
  have V189 : Arv Z h189 b189 k189 .long (2 : Int32) [(.long 0), (.long 0)] (.long 0) := (Arv.new A189 (by decide)).pad (pad_rep [] (.long 0) 2)
  have F210 := ((F183.wr W185).ext E189)
  have F211 := ((((((((((((((((((((((((((P8.other W2 (Or.inr (own_sn84 hw))).ext E6).other W13 (Or.inr (own_sn85 hw))).ext E17).ext E24).other W35 (Or.inl (Nat.ne_of_lt (Nat.lt_of_lt_of_le P0.lt sz8)))).other W40 (Or.inl (Nat.ne_of_lt (Nat.lt_of_lt_of_le P0.lt sz29)))).other W47 (Or.inl (Nat.ne_of_lt (Nat.lt_of_lt_of_le P0.lt sz21)))).other W51 (Or.inl (Nat.ne_of_lt (Nat.lt_of_lt_of_le P0.lt sz8)))).other W56 (Or.inl (Nat.ne_of_lt (Nat.lt_of_lt_of_le P0.lt sz29)))).other W63 (Or.inl (Nat.ne_of_lt (Nat.lt_of_lt_of_le P0.lt sz21)))).ext E64).other W74 (Or.inl (Nat.ne_of_lt (Nat.lt_of_lt_of_le P0.lt sz71)))).keep K80 own_nin0).other W85 (Or.inl (Nat.ne_of_lt (Nat.lt_of_lt_of_le P0.lt sz71)))).keep K91 own_nin0).other W97 (Or.inr (own_sn11 hw))).ext E101).other W116 (Or.inr (own_sn12 hw))).ext E120).other W137 (Or.inr (own_sn13 hw))).ext E141).other W160 (Or.inr (own_sn14 hw))).ext E164).other W185 (Or.inr (own_sn15 hw))).ext E189)
  obtain ⟨T212, h212, X212, e212, W212, st212⟩ := putF X189 hx hZ hown (host := "") (Or.inl (own_g hw 45 rfl)) Via.refl e189 F211 F210 (Or.inr ⟨(own_g hw 46 rfl), rfl, hnm⟩) (own_g hw 10 rfl) (ty := (.array .long)) (by decide) rfl rfl (g := (mkF m 367 #[vr oa, vi 2, vi 2, vi 0, vj ((2 : Int32).toInt64), v2, vr b17, vr b24, vi (((64 : Int32) - (((64 : Int32) / (2 : Int32)) + (0 : Int32))) - (((64 : Int32) / (2 : Int32)) + (0 : Int32))), vr b64, vi 2, vi (((0 : Int32) + (1 : Int32)) + (1 : Int32)), vj 1, v2] [(.ref b189), (.ref oa)])) rfl rfl (hb hby d3_367)
  refine gv st212 ?_
  have Z213 := Nat.le_trans Z208 (Nat.le_of_eq W212.size.symm)
  have K214 := K209.wr W212 (Or.inl (List.mem_of_getElem? (i := 0) rfl))
  obtain ⟨lc212, Xh212, N215⟩ := own_hide X212 (Fr.snoc X212 N188 ga)
  clear X212
  have Fw212 := F211.same W212
  refine gv (fun t k => XS.aloadN Xh212.here hx rfl (hb hby d3_370) rfl rfl k) ?_
  show Go p.tables e below P T212 (mkF m 371 #[vr oa, vi 2, vi 2, vi 0, vj ((2 : Int32).toInt64), v2, vr b17, vr b24, vi (((64 : Int32) - (((64 : Int32) / (2 : Int32)) + (0 : Int32))) - (((64 : Int32) / (2 : Int32)) + (0 : Int32))), vr b64, vi 2, vi (((0 : Int32) + (1 : Int32)) + (1 : Int32)), vj 1, v2] [(.ref oa)])
  refine gv (fun t k => XS.iload Xh212.here hx rfl (hb hby d3_371) rfl k) ?_
  obtain ⟨T216, h216, k216, X216, e216, E216, A216, st216⟩ := newP Xh212 hx hZ (own_g hw 21 rfl) e212 (g := (mkF m 373 #[vr oa, vi 2, vi 2, vi 0, vj ((2 : Int32).toInt64), v2, vr b17, vr b24, vi (((64 : Int32) - (((64 : Int32) / (2 : Int32)) + (0 : Int32))) - (((64 : Int32) / (2 : Int32)) + (0 : Int32))), vr b64, vi 2, vi (((0 : Int32) + (1 : Int32)) + (1 : Int32)), vj 1, v2] [(.int 2), (.ref oa)])) rfl (hb hby d3_373) rfl (by decide) (cap := 2) (by decide) (by decide) (by decide) (by decide)
  obtain ⟨b216, g216⟩ : ∃ z, z = h212.size := ⟨_, rfl⟩
  rw [← g216] at A216 st216
  refine gv st216 ?_
  have F218 := ((F191.ext E189).other W212 (Ne.symm (Nat.ne_of_lt (Nat.lt_of_lt_of_le P0.lt sz8))))
  have ne217 := Nat.ne_of_lt (Nat.lt_of_lt_of_le F218.lt (Nat.le_of_eq g216.symm))
  have F220 := ((F193.ext E189).other W212 (Ne.symm (Nat.ne_of_lt (Nat.lt_of_lt_of_le P0.lt sz21))))
  have ne219 := Nat.ne_of_lt (Nat.lt_of_lt_of_le F220.lt (Nat.le_of_eq g216.symm))
  have F222 := ((F195.ext E189).other W212 (Ne.symm (Nat.ne_of_lt (Nat.lt_of_lt_of_le P0.lt sz29))))
  have ne221 := Nat.ne_of_lt (Nat.lt_of_lt_of_le F222.lt (Nat.le_of_eq g216.symm))
  have F224 := ((F197.ext E189).other W212 (Ne.symm (Nat.ne_of_lt (Nat.lt_of_lt_of_le P0.lt sz71))))
  have ne223 := Nat.ne_of_lt (Nat.lt_of_lt_of_le F224.lt (Nat.le_of_eq g216.symm))
  have F226 := ((F199.ext E189).other W212 (Ne.symm (Nat.ne_of_lt (Nat.lt_of_lt_of_le P0.lt sz111))))
  have ne225 := Nat.ne_of_lt (Nat.lt_of_lt_of_le F226.lt (Nat.le_of_eq g216.symm))
  have F228 := ((F201.ext E189).other W212 (Ne.symm (Nat.ne_of_lt (Nat.lt_of_lt_of_le P0.lt sz132))))
  have ne227 := Nat.ne_of_lt (Nat.lt_of_lt_of_le F228.lt (Nat.le_of_eq g216.symm))
  have F230 := ((F203.ext E189).other W212 (Ne.symm (Nat.ne_of_lt (Nat.lt_of_lt_of_le P0.lt sz155))))
  have ne229 := Nat.ne_of_lt (Nat.lt_of_lt_of_le F230.lt (Nat.le_of_eq g216.symm))
  have F232 := ((F205.ext E189).other W212 (Ne.symm (Nat.ne_of_lt (Nat.lt_of_lt_of_le P0.lt sz180))))
  have ne231 := Nat.ne_of_lt (Nat.lt_of_lt_of_le F232.lt (Nat.le_of_eq g216.symm))
  have F234 := (V189.other W212 (Ne.symm (Nat.ne_of_lt (Nat.lt_of_lt_of_le P0.lt sz207))))
  have ne233 := Nat.ne_of_lt (Nat.lt_of_lt_of_le F234.lt (Nat.le_of_eq g216.symm))
  have g235 := Nat.le_trans Z213 (Nat.le_of_eq g216.symm)
  have sz236 := Nat.le_trans K214.1 (Nat.le_of_eq g216.symm)
  have Z237 := Nat.le_trans Z213 E216.1
  have K238 := K214.ext E216
  have V216 : Arv Z h216 b216 k216 .long (2 : Int32) [(.long 0), (.long 0)] (.long 0) := (Arv.new A216 (by decide)).pad (pad_rep [] (.long 0) 2)
  have F239 := ((F210.wr W212).ext E216)
  have F240 := ((((((((((((((((((((((((((((P9.other W2 (Or.inr (own_sn86 hw))).ext E6).other W13 (Or.inr (own_sn87 hw))).ext E17).ext E24).other W35 (Or.inl (Nat.ne_of_lt (Nat.lt_of_lt_of_le P0.lt sz8)))).other W40 (Or.inl (Nat.ne_of_lt (Nat.lt_of_lt_of_le P0.lt sz29)))).other W47 (Or.inl (Nat.ne_of_lt (Nat.lt_of_lt_of_le P0.lt sz21)))).other W51 (Or.inl (Nat.ne_of_lt (Nat.lt_of_lt_of_le P0.lt sz8)))).other W56 (Or.inl (Nat.ne_of_lt (Nat.lt_of_lt_of_le P0.lt sz29)))).other W63 (Or.inl (Nat.ne_of_lt (Nat.lt_of_lt_of_le P0.lt sz21)))).ext E64).other W74 (Or.inl (Nat.ne_of_lt (Nat.lt_of_lt_of_le P0.lt sz71)))).keep K80 own_nin0).other W85 (Or.inl (Nat.ne_of_lt (Nat.lt_of_lt_of_le P0.lt sz71)))).keep K91 own_nin0).other W97 (Or.inr (own_sn16 hw))).ext E101).other W116 (Or.inr (own_sn17 hw))).ext E120).other W137 (Or.inr (own_sn18 hw))).ext E141).other W160 (Or.inr (own_sn19 hw))).ext E164).other W185 (Or.inr (own_sn20 hw))).ext E189).other W212 (Or.inr (own_sn21 hw))).ext E216)
  obtain ⟨T241, h241, X241, e241, W241, st241⟩ := putF X216 hx hZ hown (host := "") (Or.inl (own_g hw 47 rfl)) Via.refl e216 F240 F239 (Or.inr ⟨(own_g hw 48 rfl), rfl, hnm⟩) (own_g hw 10 rfl) (ty := (.array .long)) (by decide) rfl rfl (g := (mkF m 375 #[vr oa, vi 2, vi 2, vi 0, vj ((2 : Int32).toInt64), v2, vr b17, vr b24, vi (((64 : Int32) - (((64 : Int32) / (2 : Int32)) + (0 : Int32))) - (((64 : Int32) / (2 : Int32)) + (0 : Int32))), vr b64, vi 2, vi (((0 : Int32) + (1 : Int32)) + (1 : Int32)), vj 1, v2] [(.ref b216), (.ref oa)])) rfl rfl (hb hby d3_375)
  refine gv st241 ?_
  have Z242 := Nat.le_trans Z237 (Nat.le_of_eq W241.size.symm)
  have K243 := K238.wr W241 (Or.inl (List.mem_of_getElem? (i := 0) rfl))
  obtain ⟨lc241, Xh241, N244⟩ := own_hide X241 (Fr.snoc X241 N215 ga)
  clear X241
  have Fw241 := F240.same W241
  refine gv (fun t k => XS.aloadN Xh241.here hx rfl (hb hby d3_378) rfl rfl k) ?_
  refine gv (fun t k => XS.iload Xh241.here hx rfl (hb hby d3_379) rfl k) ?_
  obtain ⟨T245, h245, k245, X245, e245, E245, A245, B245, O245, st245⟩ := newRA Xh241 hx hZ hown (ty := .int) (by decide) (own_g hw 35 rfl) (own_g hw 36 rfl) e241 (g := (mkF m 381 #[vr oa, vi 2, vi 2, vi 0, vj ((2 : Int32).toInt64), v2, vr b17, vr b24, vi (((64 : Int32) - (((64 : Int32) / (2 : Int32)) + (0 : Int32))) - (((64 : Int32) / (2 : Int32)) + (0 : Int32))), vr b64, vi 2, vi (((0 : Int32) + (1 : Int32)) + (1 : Int32)), vj 1, v2] [(.int 2), (.ref oa)])) rfl (hb hby d3_381) rfl (by decide) (cap := 2) (by decide) (by decide) (by decide) (by decide) (ad := "[[I") (by decide)
  obtain ⟨b245, g245⟩ : ∃ z, z = h241.size := ⟨_, rfl⟩
  rw [← g245] at A245 B245 st245
  refine gv st245 ?_
  have F247 := ((F218.ext E216).other W241 (Ne.symm (Nat.ne_of_lt (Nat.lt_of_lt_of_le P0.lt sz8))))
  have ne246 := Nat.ne_of_lt (Nat.lt_of_lt_of_le F247.lt (Nat.le_of_eq g245.symm))
  have F249 := ((F220.ext E216).other W241 (Ne.symm (Nat.ne_of_lt (Nat.lt_of_lt_of_le P0.lt sz21))))
  have ne248 := Nat.ne_of_lt (Nat.lt_of_lt_of_le F249.lt (Nat.le_of_eq g245.symm))
  have F251 := ((F222.ext E216).other W241 (Ne.symm (Nat.ne_of_lt (Nat.lt_of_lt_of_le P0.lt sz29))))
  have ne250 := Nat.ne_of_lt (Nat.lt_of_lt_of_le F251.lt (Nat.le_of_eq g245.symm))
  have F253 := ((F224.ext E216).other W241 (Ne.symm (Nat.ne_of_lt (Nat.lt_of_lt_of_le P0.lt sz71))))
  have ne252 := Nat.ne_of_lt (Nat.lt_of_lt_of_le F253.lt (Nat.le_of_eq g245.symm))
  have F255 := ((F226.ext E216).other W241 (Ne.symm (Nat.ne_of_lt (Nat.lt_of_lt_of_le P0.lt sz111))))
  have ne254 := Nat.ne_of_lt (Nat.lt_of_lt_of_le F255.lt (Nat.le_of_eq g245.symm))
  have F257 := ((F228.ext E216).other W241 (Ne.symm (Nat.ne_of_lt (Nat.lt_of_lt_of_le P0.lt sz132))))
  have ne256 := Nat.ne_of_lt (Nat.lt_of_lt_of_le F257.lt (Nat.le_of_eq g245.symm))
  have F259 := ((F230.ext E216).other W241 (Ne.symm (Nat.ne_of_lt (Nat.lt_of_lt_of_le P0.lt sz155))))
  have ne258 := Nat.ne_of_lt (Nat.lt_of_lt_of_le F259.lt (Nat.le_of_eq g245.symm))
  have F261 := ((F232.ext E216).other W241 (Ne.symm (Nat.ne_of_lt (Nat.lt_of_lt_of_le P0.lt sz180))))
  have ne260 := Nat.ne_of_lt (Nat.lt_of_lt_of_le F261.lt (Nat.le_of_eq g245.symm))
  have F263 := ((F234.ext E216).other W241 (Ne.symm (Nat.ne_of_lt (Nat.lt_of_lt_of_le P0.lt sz207))))
  have ne262 := Nat.ne_of_lt (Nat.lt_of_lt_of_le F263.lt (Nat.le_of_eq g245.symm))
  have F265 := (V216.other W241 (Ne.symm (Nat.ne_of_lt (Nat.lt_of_lt_of_le P0.lt sz236))))
  have ne264 := Nat.ne_of_lt (Nat.lt_of_lt_of_le F265.lt (Nat.le_of_eq g245.symm))
  have g266 := Nat.le_trans Z242 (Nat.le_of_eq g245.symm)
  have sz267 := Nat.le_trans K243.1 (Nat.le_of_eq g245.symm)
  have Z268 := Nat.le_trans Z242 E245.1
  have K269 := K243.ext E245
  have V245 : Arv Z h245 b245 k245 (.array .int) (2 : Int32) [.null, .null] .null := (Arv.new A245 (by decide)).pad (pad_rep [] .null 2)
  have F270 := ((F239.wr W241).ext E245)
  have F271 := ((((((((((((((((((((((((((((((P10.other W2 (Or.inr (own_sn88 hw))).ext E6).other W13 (Or.inr (own_sn89 hw))).ext E17).ext E24).other W35 (Or.inl (Nat.ne_of_lt (Nat.lt_of_lt_of_le P0.lt sz8)))).other W40 (Or.inl (Nat.ne_of_lt (Nat.lt_of_lt_of_le P0.lt sz29)))).other W47 (Or.inl (Nat.ne_of_lt (Nat.lt_of_lt_of_le P0.lt sz21)))).other W51 (Or.inl (Nat.ne_of_lt (Nat.lt_of_lt_of_le P0.lt sz8)))).other W56 (Or.inl (Nat.ne_of_lt (Nat.lt_of_lt_of_le P0.lt sz29)))).other W63 (Or.inl (Nat.ne_of_lt (Nat.lt_of_lt_of_le P0.lt sz21)))).ext E64).other W74 (Or.inl (Nat.ne_of_lt (Nat.lt_of_lt_of_le P0.lt sz71)))).keep K80 own_nin0).other W85 (Or.inl (Nat.ne_of_lt (Nat.lt_of_lt_of_le P0.lt sz71)))).keep K91 own_nin0).other W97 (Or.inr (own_sn22 hw))).ext E101).other W116 (Or.inr (own_sn23 hw))).ext E120).other W137 (Or.inr (own_sn24 hw))).ext E141).other W160 (Or.inr (own_sn25 hw))).ext E164).other W185 (Or.inr (own_sn26 hw))).ext E189).other W212 (Or.inr (own_sn27 hw))).ext E216).other W241 (Or.inr (own_sn28 hw))).ext E245)
  obtain ⟨T272, h272, X272, e272, W272, st272⟩ := putF X245 hx hZ hown (host := "") (Or.inl (own_g hw 49 rfl)) Via.refl e245 F271 F270 (Or.inr ⟨(own_g hw 50 rfl), rfl, hnm⟩) (own_g hw 10 rfl) (ty := (.array (.array .int))) (by decide) rfl rfl (g := (mkF m 384 #[vr oa, vi 2, vi 2, vi 0, vj ((2 : Int32).toInt64), v2, vr b17, vr b24, vi (((64 : Int32) - (((64 : Int32) / (2 : Int32)) + (0 : Int32))) - (((64 : Int32) / (2 : Int32)) + (0 : Int32))), vr b64, vi 2, vi (((0 : Int32) + (1 : Int32)) + (1 : Int32)), vj 1, v2] [(.ref b245), (.ref oa)])) rfl rfl (hb hby d3_384)
  refine gv st272 ?_
  have Z273 := Nat.le_trans Z268 (Nat.le_of_eq W272.size.symm)
  have K274 := K269.wr W272 (Or.inl (List.mem_of_getElem? (i := 0) rfl))
  obtain ⟨lc272, Xh272, N275⟩ := own_hide X272 (Fr.snoc X272 N244 ga)
  clear X272
  have Fw272 := F271.same W272
  refine gv (fun t k => XS.iloadN Xh272.here hx rfl (hb hby d3_387) rfl k) ?_
  refine gv (fun t k => XS.ifYes Xh272.here hx rfl (pc0 := 388) (pc' := 397) rfl (hb hby d3_388) rfl ((if0 _ _).trans (teq (rfl : (0 : Int32) = (0 : Int32))).1) (by decide) (by decide) k) ?_
  show Go p.tables e below P T272 (mkF m 397 #[vr oa, vi 2, vi 2, vi 0, vj ((2 : Int32).toInt64), v2, vr b17, vr b24, vi (((64 : Int32) - (((64 : Int32) / (2 : Int32)) + (0 : Int32))) - (((64 : Int32) / (2 : Int32)) + (0 : Int32))), vr b64, vi 2, vi (((0 : Int32) + (1 : Int32)) + (1 : Int32)), vj 1, v2] [])
  refine gv (fun t k => XS.iconst Xh272.here hx rfl (hb hby d3_397) k) ?_
  obtain ⟨T276, h276, k276, X276, e276, E276, A276, st276⟩ := newP Xh272 hx hZ (own_g hw 1 rfl) e272 (g := (mkF m 398 #[vr oa, vi 2, vi 2, vi 0, vj ((2 : Int32).toInt64), v2, vr b17, vr b24, vi (((64 : Int32) - (((64 : Int32) / (2 : Int32)) + (0 : Int32))) - (((64 : Int32) / (2 : Int32)) + (0 : Int32))), vr b64, vi 2, vi (((0 : Int32) + (1 : Int32)) + (1 : Int32)), vj 1, v2] [(.int 1)])) rfl (hb hby d3_398) rfl (by decide) (cap := 1) (by decide) (by decide) (by decide) (by decide)
  obtain ⟨b276, g276⟩ : ∃ z, z = h272.size := ⟨_, rfl⟩
  rw [← g276] at A276 st276
  refine gv st276 ?_
  have F278 := ((F247.ext E245).other W272 (Ne.symm (Nat.ne_of_lt (Nat.lt_of_lt_of_le P0.lt sz8))))
  have ne277 := Nat.ne_of_lt (Nat.lt_of_lt_of_le F278.lt (Nat.le_of_eq g276.symm))
  have F280 := ((F249.ext E245).other W272 (Ne.symm (Nat.ne_of_lt (Nat.lt_of_lt_of_le P0.lt sz21))))
  have ne279 := Nat.ne_of_lt (Nat.lt_of_lt_of_le F280.lt (Nat.le_of_eq g276.symm))
  have F282 := ((F251.ext E245).other W272 (Ne.symm (Nat.ne_of_lt (Nat.lt_of_lt_of_le P0.lt sz29))))
  have ne281 := Nat.ne_of_lt (Nat.lt_of_lt_of_le F282.lt (Nat.le_of_eq g276.symm))
  have F284 := ((F253.ext E245).other W272 (Ne.symm (Nat.ne_of_lt (Nat.lt_of_lt_of_le P0.lt sz71))))
  have ne283 := Nat.ne_of_lt (Nat.lt_of_lt_of_le F284.lt (Nat.le_of_eq g276.symm))
  have F286 := ((F255.ext E245).other W272 (Ne.symm (Nat.ne_of_lt (Nat.lt_of_lt_of_le P0.lt sz111))))
  have ne285 := Nat.ne_of_lt (Nat.lt_of_lt_of_le F286.lt (Nat.le_of_eq g276.symm))
  have F288 := ((F257.ext E245).other W272 (Ne.symm (Nat.ne_of_lt (Nat.lt_of_lt_of_le P0.lt sz132))))
  have ne287 := Nat.ne_of_lt (Nat.lt_of_lt_of_le F288.lt (Nat.le_of_eq g276.symm))
  have F290 := ((F259.ext E245).other W272 (Ne.symm (Nat.ne_of_lt (Nat.lt_of_lt_of_le P0.lt sz155))))
  have ne289 := Nat.ne_of_lt (Nat.lt_of_lt_of_le F290.lt (Nat.le_of_eq g276.symm))
  have F292 := ((F261.ext E245).other W272 (Ne.symm (Nat.ne_of_lt (Nat.lt_of_lt_of_le P0.lt sz180))))
  have ne291 := Nat.ne_of_lt (Nat.lt_of_lt_of_le F292.lt (Nat.le_of_eq g276.symm))
  have F294 := ((F263.ext E245).other W272 (Ne.symm (Nat.ne_of_lt (Nat.lt_of_lt_of_le P0.lt sz207))))
  have ne293 := Nat.ne_of_lt (Nat.lt_of_lt_of_le F294.lt (Nat.le_of_eq g276.symm))
  have F296 := ((F265.ext E245).other W272 (Ne.symm (Nat.ne_of_lt (Nat.lt_of_lt_of_le P0.lt sz236))))
  have ne295 := Nat.ne_of_lt (Nat.lt_of_lt_of_le F296.lt (Nat.le_of_eq g276.symm))
  have F298 := (V245.other W272 (Ne.symm (Nat.ne_of_lt (Nat.lt_of_lt_of_le P0.lt sz267))))
  have ne297 := Nat.ne_of_lt (Nat.lt_of_lt_of_le F298.lt (Nat.le_of_eq g276.symm))
  have g299 := Nat.le_trans Z273 (Nat.le_of_eq g276.symm)
  have sz300 := Nat.le_trans K274.1 (Nat.le_of_eq g276.symm)
  have Z301 := Nat.le_trans Z273 E276.1
  have K302 := K274.ext E276
  have V276 : Arv Z h276 b276 k276 .int (1 : Int32) [(.int 0)] (.int 0) := (Arv.new A276 (by decide)).pad (pad_rep [] (.int 0) 1)
  refine gv (fun t k => XS.astore X276.here hx rfl (hb hby d3_400) rfl rfl (l' := #[vr oa, vi 2, vi 2, vi 0, vj ((2 : Int32).toInt64), v2, vr b17, vr b24, vi (((64 : Int32) - (((64 : Int32) / (2 : Int32)) + (0 : Int32))) - (((64 : Int32) / (2 : Int32)) + (0 : Int32))), vr b64, vi 2, vr b276, vj 1, v2]) rfl k) ?_
  refine gv (fun t k => XS.iconst X276.here hx rfl (hb hby d3_402) k) ?_
  refine gv (fun t k => XS.istore X276.here hx rfl (hb hby d3_403) rfl (l' := #[vr oa, vi 2, vi 2, vi 0, vj ((2 : Int32).toInt64), v2, vr b17, vr b24, vi (((64 : Int32) - (((64 : Int32) / (2 : Int32)) + (0 : Int32))) - (((64 : Int32) / (2 : Int32)) + (0 : Int32))), vr b64, vi 2, vr b276, vi 0, vu]) rfl k) ?_
  refine gv (fun t k => XS.iload X276.here hx rfl (hb hby d3_405) rfl k) ?_
  refine gv (fun t k => XS.aload X276.here hx rfl (hb hby d3_407) rfl rfl k) ?_
  obtain ⟨c303, A303, -, S303, N303, -, -⟩ := id V276
  refine gv (fun t k => X276.arraylength hx (by rw [e276]; exact A303.1) (State.isArrayOf_alike hZ.alike A303.2.1) (g := (mkF m 409 #[vr oa, vi 2, vi 2, vi 0, vj ((2 : Int32).toInt64), v2, vr b17, vr b24, vi (((64 : Int32) - (((64 : Int32) / (2 : Int32)) + (0 : Int32))) - (((64 : Int32) / (2 : Int32)) + (0 : Int32))), vr b64, vi 2, vr b276, vi 0, vu] [(.ref b276), (.int 0)])) rfl rfl (hb hby d3_409) t (by rw [len_of S303 N303]; exact k)) ?_
  refine gv (fun t k => XS.icmpNo X276.here hx rfl (hb hby d3_410) rfl (tlt (by decide : (0 : Int32) < (1 : Int32))).2.1 k) ?_
  show Go p.tables e below P T276 (mkF m 413 #[vr oa, vi 2, vi 2, vi 0, vj ((2 : Int32).toInt64), v2, vr b17, vr b24, vi (((64 : Int32) - (((64 : Int32) / (2 : Int32)) + (0 : Int32))) - (((64 : Int32) / (2 : Int32)) + (0 : Int32))), vr b64, vi 2, vr b276, vi 0, vu] [])
  refine gv (fun t k => XS.aload X276.here hx rfl (hb hby d3_413) rfl rfl k) ?_
  refine gv (fun t k => XS.iload X276.here hx rfl (hb hby d3_415) rfl k) ?_
  refine gv (fun t k => XS.iload X276.here hx rfl (hb hby d3_417) rfl k) ?_
  obtain ⟨T304, h304, lc304, X304, e304, N304, Z304, K304, W304, V304, st304⟩ := own_stI X276 hx hZ e276 V276 N275 Z301 K302 g299 (Or.inr sz300) (j := (0 : Int32)) ⟨by decide, by decide⟩ (ji := 0) rfl (Nat.le_of_ble_eq_true rfl) (g := (mkF m 419 #[vr oa, vi 2, vi 2, vi 0, vj ((2 : Int32).toInt64), v2, vr b17, vr b24, vi (((64 : Int32) - (((64 : Int32) / (2 : Int32)) + (0 : Int32))) - (((64 : Int32) / (2 : Int32)) + (0 : Int32))), vr b64, vi 2, vr b276, vi 0, vu] [(.int 0), (.int 0), (.ref b276)])) rfl rfl (hb hby d3_419)
  refine gv st304 ?_
  refine gv (fun t k => XS.iinc X304.here hx rfl (hb hby d3_420) rfl (l' := #[vr oa, vi 2, vi 2, vi 0, vj ((2 : Int32).toInt64), v2, vr b17, vr b24, vi (((64 : Int32) - (((64 : Int32) / (2 : Int32)) + (0 : Int32))) - (((64 : Int32) / (2 : Int32)) + (0 : Int32))), vr b64, vi 2, vr b276, vi ((0 : Int32) + (1 : Int32)), vu]) rfl k) ?_
  refine gv (fun t k => XS.goto X304.here hx rfl (pc0 := 423) (pc' := 405) rfl (hb hby d3_423) (by decide) (by decide) k) ?_
  refine gv (fun t k => XS.iload X304.here hx rfl (hb hby d3_405) rfl k) ?_
  refine gv (fun t k => XS.aload X304.here hx rfl (hb hby d3_407) rfl rfl k) ?_
  obtain ⟨c305, A305, -, S305, N305, -, -⟩ := id V304
  refine gv (fun t k => X304.arraylength hx (by rw [e304]; exact A305.1) (State.isArrayOf_alike hZ.alike A305.2.1) (g := (mkF m 409 #[vr oa, vi 2, vi 2, vi 0, vj ((2 : Int32).toInt64), v2, vr b17, vr b24, vi (((64 : Int32) - (((64 : Int32) / (2 : Int32)) + (0 : Int32))) - (((64 : Int32) / (2 : Int32)) + (0 : Int32))), vr b64, vi 2, vr b276, vi ((0 : Int32) + (1 : Int32)), vu] [(.ref b276), (.int ((0 : Int32) + (1 : Int32)))])) rfl rfl (hb hby d3_409) t (by rw [len_of S305 N305]; exact k)) ?_
  show Go p.tables e below P T304 (mkF m 410 #[vr oa, vi 2, vi 2, vi 0, vj ((2 : Int32).toInt64), v2, vr b17, vr b24, vi (((64 : Int32) - (((64 : Int32) / (2 : Int32)) + (0 : Int32))) - (((64 : Int32) / (2 : Int32)) + (0 : Int32))), vr b64, vi 2, vr b276, vi ((0 : Int32) + (1 : Int32)), vu] [(.int 1), (.int ((0 : Int32) + (1 : Int32)))])
  refine gv (fun t k => XS.icmpYes X304.here hx rfl (pc0 := 410) (pc' := 426) rfl (hb hby d3_410) rfl (flt (by decide : ¬ (((0 : Int32) + (1 : Int32)) < (1 : Int32)))).2.1 (by decide) (by decide) k) ?_
  refine gv (fun t k => XS.iconst X304.here hx rfl (hb hby d3_426) k) ?_
  refine gv (fun t k => XS.istore X304.here hx rfl (hb hby d3_427) rfl (l' := #[vr oa, vi 2, vi 2, vi 0, vj ((2 : Int32).toInt64), v2, vr b17, vr b24, vi (((64 : Int32) - (((64 : Int32) / (2 : Int32)) + (0 : Int32))) - (((64 : Int32) / (2 : Int32)) + (0 : Int32))), vr b64, vi 2, vr b276, vi 0, vu]) rfl k) ?_
  refine gv (fun t k => XS.iload X304.here hx rfl (hb hby d3_429) rfl k) ?_
  refine gv (fun t k => XS.iload X304.here hx rfl (hb hby d3_431) rfl k) ?_
  refine gv (fun t k => XS.icmpNo X304.here hx rfl (hb hby d3_433) rfl (tlt (by decide : (0 : Int32) < (2 : Int32))).2.1 k) ?_
  refine gv (fun t k => XS.aloadN X304.here hx rfl (hb hby d3_436) rfl rfl k) ?_
  refine gv (fun t k => XS.iload X304.here hx rfl (hb hby d3_437) rfl k) ?_
  refine gv (fun t k => XS.aload X304.here hx rfl (hb hby d3_439) rfl rfl k) ?_
  show Go p.tables e below P T304 (mkF m 441 #[vr oa, vi 2, vi 2, vi 0, vj ((2 : Int32).toInt64), v2, vr b17, vr b24, vi (((64 : Int32) - (((64 : Int32) / (2 : Int32)) + (0 : Int32))) - (((64 : Int32) / (2 : Int32)) + (0 : Int32))), vr b64, vi 2, vr b276, vi 0, vu] [(.ref b276), (.int 0), (.ref oa)])
  refine gv (fun t k => XS.aload X304.here hx rfl (hb hby d3_441) rfl rfl k) ?_
  refine gv (fun t k => XS.aload X304.here hx rfl (hb hby d3_443) rfl rfl k) ?_
  refine gv (fun t k => XS.aload X304.here hx rfl (hb hby d3_445) rfl rfl k) ?_
  show Go p.tables e below P T304 (mkF m 447 #[vr oa, vi 2, vi 2, vi 0, vj ((2 : Int32).toInt64), v2, vr b17, vr b24, vi (((64 : Int32) - (((64 : Int32) / (2 : Int32)) + (0 : Int32))) - (((64 : Int32) / (2 : Int32)) + (0 : Int32))), vr b64, vi 2, vr b276, vi 0, vu] [(.ref b64), (.ref b24), (.ref b17), (.ref b276), (.int 0), (.ref oa)])
  have F306 := ((((((((((((((((((F86.keep K91 own_nin0).other W97 (Or.inr (own_sn37 hw))).ext E101).other W116 (Or.inr (own_sn38 hw))).ext E120).other W137 (Or.inr (own_sn39 hw))).ext E141).other W160 (Or.inr (own_sn40 hw))).ext E164).other W185 (Or.inr (own_sn41 hw))).ext E189).other W212 (Or.inr (own_sn42 hw))).ext E216).other W241 (Or.inr (own_sn43 hw))).ext E245).other W272 (Or.inr (own_sn44 hw))).ext E276).other W304 (Or.inl (Nat.ne_of_lt (Nat.lt_of_lt_of_le P0.lt sz300))))
  have F307 := ((((((((((((((((Fw97.ext E101).other W116 (Or.inr (own_sn60 hw))).ext E120).other W137 (Or.inr (own_sn61 hw))).ext E141).other W160 (Or.inr (own_sn62 hw))).ext E164).other W185 (Or.inr (own_sn63 hw))).ext E189).other W212 (Or.inr (own_sn64 hw))).ext E216).other W241 (Or.inr (own_sn65 hw))).ext E245).other W272 (Or.inr (own_sn66 hw))).ext E276).other W304 (Or.inl (Nat.ne_of_lt (Nat.lt_of_lt_of_le P0.lt sz300))))
  have F308 := ((((((((((((((Fw116.ext E120).other W137 (Or.inr (own_sn45 hw))).ext E141).other W160 (Or.inr (own_sn46 hw))).ext E164).other W185 (Or.inr (own_sn47 hw))).ext E189).other W212 (Or.inr (own_sn48 hw))).ext E216).other W241 (Or.inr (own_sn49 hw))).ext E245).other W272 (Or.inr (own_sn50 hw))).ext E276).other W304 (Or.inl (Nat.ne_of_lt (Nat.lt_of_lt_of_le P0.lt sz300))))
  have F309 := ((((((((((((Fw137.ext E141).other W160 (Or.inr (own_sn51 hw))).ext E164).other W185 (Or.inr (own_sn52 hw))).ext E189).other W212 (Or.inr (own_sn53 hw))).ext E216).other W241 (Or.inr (own_sn54 hw))).ext E245).other W272 (Or.inr (own_sn55 hw))).ext E276).other W304 (Or.inl (Nat.ne_of_lt (Nat.lt_of_lt_of_le P0.lt sz300))))
  have F310 := ((((((((((Fw160.ext E164).other W185 (Or.inr (own_sn56 hw))).ext E189).other W212 (Or.inr (own_sn57 hw))).ext E216).other W241 (Or.inr (own_sn58 hw))).ext E245).other W272 (Or.inr (own_sn59 hw))).ext E276).other W304 (Or.inl (Nat.ne_of_lt (Nat.lt_of_lt_of_le P0.lt sz300))))
  have F311 := ((((((((Fw185.ext E189).other W212 (Or.inr (own_sn67 hw))).ext E216).other W241 (Or.inr (own_sn68 hw))).ext E245).other W272 (Or.inr (own_sn69 hw))).ext E276).other W304 (Or.inl (Nat.ne_of_lt (Nat.lt_of_lt_of_le P0.lt sz300))))
  have F312 := ((((((Fw212.ext E216).other W241 (Or.inr (own_sn70 hw))).ext E245).other W272 (Or.inr (own_sn71 hw))).ext E276).other W304 (Or.inl (Nat.ne_of_lt (Nat.lt_of_lt_of_le P0.lt sz300))))
  have F313 := ((((Fw241.ext E245).other W272 (Or.inr (own_sn72 hw))).ext E276).other W304 (Or.inl (Nat.ne_of_lt (Nat.lt_of_lt_of_le P0.lt sz300))))
  have F314 := ((Fw272.ext E276).other W304 (Or.inl (Nat.ne_of_lt (Nat.lt_of_lt_of_le P0.lt sz300))))
  have F315 := ((F280.ext E276).other W304 ne279)
  have F316 := ((F282.ext E276).other W304 ne281)
  have F317 := ((F284.ext E276).other W304 ne283)
  have F318 := ((F278.ext E276).other W304 ne277)
  have F319 := ((F286.ext E276).other W304 ne285)
  have F320 := ((F288.ext E276).other W304 ne287)
  have F321 := ((F290.ext E276).other W304 ne289)
  have F322 := ((F292.ext E276).other W304 ne291)
  have F323 := ((F294.ext E276).other W304 ne293)
  have F324 := ((F296.ext E276).other W304 ne295)
  have F325 := ((F298.ext E276).other W304 ne297)
  have F327 := (((F270.wr W272).ext E276).wr W304)
  obtain ⟨cq326, q326, q326'⟩ := F327.cell
  obtain ⟨_, _, ⟨T326, L326, k326, n326⟩, -, X326, ⟨Lc326, hQ326, l326, y326, z326⟩, st326⟩ := X304.privateBack hx (y := (⟨BLn, "describe", "(I[I[J[I[I)V"⟩ : MethodName)) hown (mvT hZ (own_g hw 51 rfl)) (mvT hZ (own_g hw 52 rfl)) (mvT hZ (own_selp (y := ({ cls := BLn, name := "describe", desc := "(I[I[J[I[I)V" } : Jvm.MethodName)) (own_g hw 53 rfl) (own_g hw 52 rfl) (own_g hw 10 rfl) ⟨by decide, by decide⟩)) (Cond.privateMethod_at (mvP hZ (own_g hw 53 rfl) (args := #[]))) (mvT hZ (own_g hw 54 rfl)) (by decide) (backOf (W := 0) (rm7 l Z a0 hw [] oa (0 : Int32) b276 b17 b24 b64 b6 b64 b101 b120 b141 b164 b189 b216 b245 k276 k17 k24 k64 k6 k64 k101 k120 k141 k164 k189 k216 k245 [(0 : Int32)] [((own_lb (((64 : Int32) / (2 : Int32)) + (0 : Int32))) <<< (((64 : Int32) - (((64 : Int32) / (2 : Int32)) + (0 : Int32))) &&& 0x3f).toInt64), ((own_lb (((64 : Int32) / (2 : Int32)) + (0 : Int32))) <<< ((((64 : Int32) - (((64 : Int32) / (2 : Int32)) + (0 : Int32))) - (((64 : Int32) / (2 : Int32)) + (0 : Int32))) &&& 0x3f).toInt64)] [((64 : Int32) - (((64 : Int32) / (2 : Int32)) + (0 : Int32))), (((64 : Int32) - (((64 : Int32) / (2 : Int32)) + (0 : Int32))) - (((64 : Int32) / (2 : Int32)) + (0 : Int32)))] [(((((2 : Int32) + (1 : Int32)) - (2 : Int32)) / (2 : Int32)) + (1 : Int32)), (((((2 : Int32) + (1 : Int32)) - (2 : Int32)) / (2 : Int32)) + (0 : Int32))] [(((64 : Int32) / (2 : Int32)) + (0 : Int32)), (((64 : Int32) / (2 : Int32)) + (0 : Int32))] [(((((2 : Int32) + (1 : Int32)) - (2 : Int32)) / (2 : Int32)) + (1 : Int32)), (((((2 : Int32) + (1 : Int32)) - (2 : Int32)) / (2 : Int32)) + (0 : Int32))] [(.long 0), (.long 0)] [.null, .null] [.null, .null] [.null, .null] [(.long 0), (.long 0)] [(.long 0), (.long 0)] [.null, .null] 0 2 2 1 32 1 h304 n0 Z304 F306 F307 F308 F309 F310 F311 F312 F313 F314 V304 F315 F316 F317 F318 F317 F319 F320 F321 F322 F323 F324 F325 (by decide) (by first | assumption | decide | omega) (by first | assumption | decide | omega) (by first | assumption | decide | omega) (by first | assumption | decide | omega) (by first | assumption | decide | omega) (by decide) (Nat.le_refl 2) (Nat.le_refl 2) (Nat.le_refl 2) (Nat.le_refl 2) (Nat.le_refl 2) (Nat.le_refl 2) (Nat.le_refl 2) O120 O141 O164 O245 g110 g131 g154 g179 g206 g235 g266 ne129 ne150 ne173 ne198 ne225 ne254 ne152 ne175 ne200 ne227 ne256 ne177 ne202 ne229 ne258 ne204 ne231 ne260 ne233 ne262 ne264 (Nat.ne_of_lt (Nat.lt_of_lt_of_le P0.lt sz111)) (Nat.ne_of_lt (Nat.lt_of_lt_of_le P0.lt sz132)) (Nat.ne_of_lt (Nat.lt_of_lt_of_le P0.lt sz155)) (Nat.ne_of_lt (Nat.lt_of_lt_of_le P0.lt sz180)) (Nat.ne_of_lt (Nat.lt_of_lt_of_le P0.lt sz207)) (Nat.ne_of_lt (Nat.lt_of_lt_of_le P0.lt sz236)) (Nat.ne_of_lt (Nat.lt_of_lt_of_le P0.lt sz267)) ne108 ne127 ne148 (Or.inr ⟨rfl, by decide, by decide +kernel⟩)) hZ (own_g hw 54 rfl) (own_g hw 11 rfl) (by decide) (by decide)) (g := (mkF m 447 #[vr oa, vi 2, vi 2, vi 0, vj ((2 : Int32).toInt64), v2, vr b17, vr b24, vi (((64 : Int32) - (((64 : Int32) / (2 : Int32)) + (0 : Int32))) - (((64 : Int32) / (2 : Int32)) + (0 : Int32))), vr b64, vi 2, vr b276, vi 0, vu] [(.ref b64), (.ref b24), (.ref b17), (.ref b276), (.int 0), (.ref oa)])) rfl (by rw [hml]; rfl) (Steps.refl _) (a := oa) (by rw [e304]; exact q326) q326' (argsL := [(.int 0), (.ref b276), (.ref b17), (.ref b24), (.ref b64)]) (rest := []) (lenOf own_pd10 rfl) rfl (by show 2 * 0 + _ ≤ _; exact Nat.le_of_eq rfl) (hb hby d3_447) (fun _ _ => ⟨rfl, e304, (by decide : 15 + 11 ≤ _), (by decide : 218 + 251 ≤ _)⟩)
  dsimp only [Pt.U, Pt.locs, Pt.cells, Pt.slots] at X326 l326 y326 z326 st326 hQ326
  subst l326 y326 z326
  obtain ⟨p2_326, kp2_326, p3_326, kp3_326, p4_326, p7_326, e5_326, e6_326, rfl, Nq326, K326, fr326_p2, fr326_p3, u326_0, u326_1, u326_2, u326_3, u326_4, u326_5, u326_6, u326_7, u326_8⟩ := hQ326
  obtain ⟨lc326, Xh326, N326⟩ := own_hide X326 (Fr.app N304 Nq326)
  clear X326
  refine Go.hop st326 ?_
  have ne328 := Nat.ne_of_lt (Nat.lt_of_lt_of_le F318.lt fr326_p2)
  have ne329 := Nat.ne_of_lt (Nat.lt_of_lt_of_le F315.lt fr326_p2)
  have ne330 := Nat.ne_of_lt (Nat.lt_of_lt_of_le F316.lt fr326_p2)
  have ne331 := Nat.ne_of_lt (Nat.lt_of_lt_of_le F317.lt fr326_p2)
  have ne332 := Nat.ne_of_lt (Nat.lt_of_lt_of_le F319.lt fr326_p2)
  have ne333 := Nat.ne_of_lt (Nat.lt_of_lt_of_le F320.lt fr326_p2)
  have ne334 := Nat.ne_of_lt (Nat.lt_of_lt_of_le F321.lt fr326_p2)
  have ne335 := Nat.ne_of_lt (Nat.lt_of_lt_of_le F322.lt fr326_p2)
  have ne336 := Nat.ne_of_lt (Nat.lt_of_lt_of_le F323.lt fr326_p2)
  have ne337 := Nat.ne_of_lt (Nat.lt_of_lt_of_le F324.lt fr326_p2)
  have ne338 := Nat.ne_of_lt (Nat.lt_of_lt_of_le F325.lt fr326_p2)
  have ne339 := Nat.ne_of_lt (Nat.lt_of_lt_of_le V304.lt fr326_p2)
  have g340 := Nat.le_trans Z304 fr326_p2
  have sz341 := Nat.le_trans K304.1 fr326_p2
  have ne342 := Nat.ne_of_lt (Nat.lt_of_lt_of_le F318.lt fr326_p3)
  have ne343 := Nat.ne_of_lt (Nat.lt_of_lt_of_le F315.lt fr326_p3)
  have ne344 := Nat.ne_of_lt (Nat.lt_of_lt_of_le F316.lt fr326_p3)
  have ne345 := Nat.ne_of_lt (Nat.lt_of_lt_of_le F317.lt fr326_p3)
  have ne346 := Nat.ne_of_lt (Nat.lt_of_lt_of_le F319.lt fr326_p3)
  have ne347 := Nat.ne_of_lt (Nat.lt_of_lt_of_le F320.lt fr326_p3)
  have ne348 := Nat.ne_of_lt (Nat.lt_of_lt_of_le F321.lt fr326_p3)
  have ne349 := Nat.ne_of_lt (Nat.lt_of_lt_of_le F322.lt fr326_p3)
  have ne350 := Nat.ne_of_lt (Nat.lt_of_lt_of_le F323.lt fr326_p3)
  have ne351 := Nat.ne_of_lt (Nat.lt_of_lt_of_le F324.lt fr326_p3)
  have ne352 := Nat.ne_of_lt (Nat.lt_of_lt_of_le F325.lt fr326_p3)
  have ne353 := Nat.ne_of_lt (Nat.lt_of_lt_of_le V304.lt fr326_p3)
  have g354 := Nat.le_trans Z304 fr326_p3
  have sz355 := Nat.le_trans K304.1 fr326_p3
  have Z356 := Nat.le_trans Z304 K326.1
  have K357 := K304.trans K326 (own_allC (Or.inr sz111) (own_allC (Or.inr sz132) (own_allC (Or.inr sz155) (own_allC (Or.inr sz180) (own_allC (Or.inr sz207) (own_allC (Or.inr sz236) (own_allC (Or.inr sz267) own_all0)))))))
  refine gv (fun t k => XS.aload Xh326.here hx rfl (hb hby d3_450) rfl rfl k) ?_
  refine gv (fun t k => XS.iloadN Xh326.here hx rfl (hb hby d3_452) rfl k) ?_
  have F358 := (V304.keep K326 (own_ninC (Ne.symm ne285) (own_ninC (Ne.symm ne287) (own_ninC (Ne.symm ne289) (own_ninC (Ne.symm ne291) (own_ninC (Ne.symm ne293) (own_ninC (Ne.symm ne295) (own_ninC (Ne.symm ne297) own_nin0))))))))
  obtain ⟨_, _, ⟨T359, L359, k359, n359⟩, -, X359, ⟨Lc359, hQ359, l359, y359, z359⟩, st359⟩ := Jvm.LawKit.callS Xh326 hx (y := (⟨BLn, "nextChoice", "([II)V"⟩ : MethodName)) hown (mvT hZ (own_g hw 89 rfl)) (mvT hZ (own_g hw 90 rfl)) (mvT hZ (own_g hw 11 rfl)) (mvT hZ (own_g hw 91 rfl)) (by decide) (backOf (W := 0) (rm14 l Z a0 hw [] b276 (2 : Int32) k276 1 [(0 : Int32)] T326.heap n0 Z356 F358 (by first | assumption | decide | omega) (by first | assumption | decide | omega) (by decide) g299) hZ (own_g hw 91 rfl) (own_g hw 11 rfl) (by decide) (by decide)) (g := (mkF m 453 #[vr oa, vi 2, vi 2, vi 0, vj ((2 : Int32).toInt64), v2, vr b17, vr b24, vi (((64 : Int32) - (((64 : Int32) / (2 : Int32)) + (0 : Int32))) - (((64 : Int32) / (2 : Int32)) + (0 : Int32))), vr b64, vi 2, vr b276, vi 0, vu] [(.int 2), (.ref b276)])) rfl (by rw [hml]; rfl) (argsL := [(.ref b276), (.int 2)]) (rest := []) (lenOf own_pd5 rfl) rfl (by show 2 * 0 + _ ≤ _; exact Nat.le_of_eq rfl) (hb hby d3_453) (fun _ _ => ⟨rfl, rfl, (by decide : 26 + 0 ≤ _), (by decide : 469 + 0 ≤ _)⟩)
  dsimp only [Pt.U, Pt.locs, Pt.cells, Pt.slots] at X359 l359 y359 z359 st359 hQ359
  subst l359 y359 z359
  obtain ⟨rfl, Nq359, K359, u359_0⟩ := hQ359
  obtain ⟨lc359, Xh359, N359⟩ := own_hide X359 (Fr.app N326 Nq359)
  clear X359
  refine gv st359 ?_
  have Z360 := Nat.le_trans Z356 K359.1
  have K361 := K357.trans K359 (own_allC (Or.inr sz300) own_all0)
  refine gv (fun t k => XS.iinc Xh359.here hx rfl (hb hby d3_456) rfl (l' := #[vr oa, vi 2, vi 2, vi 0, vj ((2 : Int32).toInt64), v2, vr b17, vr b24, vi (((64 : Int32) - (((64 : Int32) / (2 : Int32)) + (0 : Int32))) - (((64 : Int32) / (2 : Int32)) + (0 : Int32))), vr b64, vi 2, vr b276, vi ((0 : Int32) + (1 : Int32)), vu]) rfl k) ?_
  refine gv (fun t k => XS.goto Xh359.here hx rfl (pc0 := 459) (pc' := 429) rfl (hb hby d3_459) (by decide) (by decide) k) ?_
  refine gv (fun t k => XS.iload Xh359.here hx rfl (hb hby d3_429) rfl k) ?_
  refine gv (fun t k => XS.iload Xh359.here hx rfl (hb hby d3_431) rfl k) ?_
  refine gv (fun t k => XS.icmpNo Xh359.here hx rfl (hb hby d3_433) rfl (tlt (by decide : ((0 : Int32) + (1 : Int32)) < (2 : Int32))).2.1 k) ?_
  show Go p.tables e below P T359 (mkF m 436 #[vr oa, vi 2, vi 2, vi 0, vj ((2 : Int32).toInt64), v2, vr b17, vr b24, vi (((64 : Int32) - (((64 : Int32) / (2 : Int32)) + (0 : Int32))) - (((64 : Int32) / (2 : Int32)) + (0 : Int32))), vr b64, vi 2, vr b276, vi ((0 : Int32) + (1 : Int32)), vu] [])
  refine gv (fun t k => XS.aloadN Xh359.here hx rfl (hb hby d3_436) rfl rfl k) ?_
  refine gv (fun t k => XS.iload Xh359.here hx rfl (hb hby d3_437) rfl k) ?_
  refine gv (fun t k => XS.aload Xh359.here hx rfl (hb hby d3_439) rfl rfl k) ?_
  refine gv (fun t k => XS.aload Xh359.here hx rfl (hb hby d3_441) rfl rfl k) ?_
  refine gv (fun t k => XS.aload Xh359.here hx rfl (hb hby d3_443) rfl rfl k) ?_
  refine gv (fun t k => XS.aload Xh359.here hx rfl (hb hby d3_445) rfl rfl k) ?_
  show Go p.tables e below P T359 (mkF m 447 #[vr oa, vi 2, vi 2, vi 0, vj ((2 : Int32).toInt64), v2, vr b17, vr b24, vi (((64 : Int32) - (((64 : Int32) / (2 : Int32)) + (0 : Int32))) - (((64 : Int32) / (2 : Int32)) + (0 : Int32))), vr b64, vi 2, vr b276, vi ((0 : Int32) + (1 : Int32)), vu] [(.ref b64), (.ref b24), (.ref b17), (.ref b276), (.int ((0 : Int32) + (1 : Int32))), (.ref oa)])
  have F362 := ((F306.keep K326 (own_ninC (Nat.ne_of_lt (Nat.lt_of_lt_of_le P0.lt sz111)) (own_ninC (Nat.ne_of_lt (Nat.lt_of_lt_of_le P0.lt sz132)) (own_ninC (Nat.ne_of_lt (Nat.lt_of_lt_of_le P0.lt sz155)) (own_ninC (Nat.ne_of_lt (Nat.lt_of_lt_of_le P0.lt sz180)) (own_ninC (Nat.ne_of_lt (Nat.lt_of_lt_of_le P0.lt sz207)) (own_ninC (Nat.ne_of_lt (Nat.lt_of_lt_of_le P0.lt sz236)) (own_ninC (Nat.ne_of_lt (Nat.lt_of_lt_of_le P0.lt sz267)) own_nin0)))))))).keep K359 (own_ninC (Nat.ne_of_lt (Nat.lt_of_lt_of_le P0.lt sz300)) own_nin0))
  have F363 := ((F307.keep K326 (own_ninC (Nat.ne_of_lt (Nat.lt_of_lt_of_le P0.lt sz111)) (own_ninC (Nat.ne_of_lt (Nat.lt_of_lt_of_le P0.lt sz132)) (own_ninC (Nat.ne_of_lt (Nat.lt_of_lt_of_le P0.lt sz155)) (own_ninC (Nat.ne_of_lt (Nat.lt_of_lt_of_le P0.lt sz180)) (own_ninC (Nat.ne_of_lt (Nat.lt_of_lt_of_le P0.lt sz207)) (own_ninC (Nat.ne_of_lt (Nat.lt_of_lt_of_le P0.lt sz236)) (own_ninC (Nat.ne_of_lt (Nat.lt_of_lt_of_le P0.lt sz267)) own_nin0)))))))).keep K359 (own_ninC (Nat.ne_of_lt (Nat.lt_of_lt_of_le P0.lt sz300)) own_nin0))
  have F364 := ((F308.keep K326 (own_ninC (Nat.ne_of_lt (Nat.lt_of_lt_of_le P0.lt sz111)) (own_ninC (Nat.ne_of_lt (Nat.lt_of_lt_of_le P0.lt sz132)) (own_ninC (Nat.ne_of_lt (Nat.lt_of_lt_of_le P0.lt sz155)) (own_ninC (Nat.ne_of_lt (Nat.lt_of_lt_of_le P0.lt sz180)) (own_ninC (Nat.ne_of_lt (Nat.lt_of_lt_of_le P0.lt sz207)) (own_ninC (Nat.ne_of_lt (Nat.lt_of_lt_of_le P0.lt sz236)) (own_ninC (Nat.ne_of_lt (Nat.lt_of_lt_of_le P0.lt sz267)) own_nin0)))))))).keep K359 (own_ninC (Nat.ne_of_lt (Nat.lt_of_lt_of_le P0.lt sz300)) own_nin0))
  have F365 := ((F309.keep K326 (own_ninC (Nat.ne_of_lt (Nat.lt_of_lt_of_le P0.lt sz111)) (own_ninC (Nat.ne_of_lt (Nat.lt_of_lt_of_le P0.lt sz132)) (own_ninC (Nat.ne_of_lt (Nat.lt_of_lt_of_le P0.lt sz155)) (own_ninC (Nat.ne_of_lt (Nat.lt_of_lt_of_le P0.lt sz180)) (own_ninC (Nat.ne_of_lt (Nat.lt_of_lt_of_le P0.lt sz207)) (own_ninC (Nat.ne_of_lt (Nat.lt_of_lt_of_le P0.lt sz236)) (own_ninC (Nat.ne_of_lt (Nat.lt_of_lt_of_le P0.lt sz267)) own_nin0)))))))).keep K359 (own_ninC (Nat.ne_of_lt (Nat.lt_of_lt_of_le P0.lt sz300)) own_nin0))
  have F366 := ((F310.keep K326 (own_ninC (Nat.ne_of_lt (Nat.lt_of_lt_of_le P0.lt sz111)) (own_ninC (Nat.ne_of_lt (Nat.lt_of_lt_of_le P0.lt sz132)) (own_ninC (Nat.ne_of_lt (Nat.lt_of_lt_of_le P0.lt sz155)) (own_ninC (Nat.ne_of_lt (Nat.lt_of_lt_of_le P0.lt sz180)) (own_ninC (Nat.ne_of_lt (Nat.lt_of_lt_of_le P0.lt sz207)) (own_ninC (Nat.ne_of_lt (Nat.lt_of_lt_of_le P0.lt sz236)) (own_ninC (Nat.ne_of_lt (Nat.lt_of_lt_of_le P0.lt sz267)) own_nin0)))))))).keep K359 (own_ninC (Nat.ne_of_lt (Nat.lt_of_lt_of_le P0.lt sz300)) own_nin0))
  have F367 := ((F311.keep K326 (own_ninC (Nat.ne_of_lt (Nat.lt_of_lt_of_le P0.lt sz111)) (own_ninC (Nat.ne_of_lt (Nat.lt_of_lt_of_le P0.lt sz132)) (own_ninC (Nat.ne_of_lt (Nat.lt_of_lt_of_le P0.lt sz155)) (own_ninC (Nat.ne_of_lt (Nat.lt_of_lt_of_le P0.lt sz180)) (own_ninC (Nat.ne_of_lt (Nat.lt_of_lt_of_le P0.lt sz207)) (own_ninC (Nat.ne_of_lt (Nat.lt_of_lt_of_le P0.lt sz236)) (own_ninC (Nat.ne_of_lt (Nat.lt_of_lt_of_le P0.lt sz267)) own_nin0)))))))).keep K359 (own_ninC (Nat.ne_of_lt (Nat.lt_of_lt_of_le P0.lt sz300)) own_nin0))
  have F368 := ((F312.keep K326 (own_ninC (Nat.ne_of_lt (Nat.lt_of_lt_of_le P0.lt sz111)) (own_ninC (Nat.ne_of_lt (Nat.lt_of_lt_of_le P0.lt sz132)) (own_ninC (Nat.ne_of_lt (Nat.lt_of_lt_of_le P0.lt sz155)) (own_ninC (Nat.ne_of_lt (Nat.lt_of_lt_of_le P0.lt sz180)) (own_ninC (Nat.ne_of_lt (Nat.lt_of_lt_of_le P0.lt sz207)) (own_ninC (Nat.ne_of_lt (Nat.lt_of_lt_of_le P0.lt sz236)) (own_ninC (Nat.ne_of_lt (Nat.lt_of_lt_of_le P0.lt sz267)) own_nin0)))))))).keep K359 (own_ninC (Nat.ne_of_lt (Nat.lt_of_lt_of_le P0.lt sz300)) own_nin0))
  have F369 := ((F313.keep K326 (own_ninC (Nat.ne_of_lt (Nat.lt_of_lt_of_le P0.lt sz111)) (own_ninC (Nat.ne_of_lt (Nat.lt_of_lt_of_le P0.lt sz132)) (own_ninC (Nat.ne_of_lt (Nat.lt_of_lt_of_le P0.lt sz155)) (own_ninC (Nat.ne_of_lt (Nat.lt_of_lt_of_le P0.lt sz180)) (own_ninC (Nat.ne_of_lt (Nat.lt_of_lt_of_le P0.lt sz207)) (own_ninC (Nat.ne_of_lt (Nat.lt_of_lt_of_le P0.lt sz236)) (own_ninC (Nat.ne_of_lt (Nat.lt_of_lt_of_le P0.lt sz267)) own_nin0)))))))).keep K359 (own_ninC (Nat.ne_of_lt (Nat.lt_of_lt_of_le P0.lt sz300)) own_nin0))
  have F370 := ((F314.keep K326 (own_ninC (Nat.ne_of_lt (Nat.lt_of_lt_of_le P0.lt sz111)) (own_ninC (Nat.ne_of_lt (Nat.lt_of_lt_of_le P0.lt sz132)) (own_ninC (Nat.ne_of_lt (Nat.lt_of_lt_of_le P0.lt sz155)) (own_ninC (Nat.ne_of_lt (Nat.lt_of_lt_of_le P0.lt sz180)) (own_ninC (Nat.ne_of_lt (Nat.lt_of_lt_of_le P0.lt sz207)) (own_ninC (Nat.ne_of_lt (Nat.lt_of_lt_of_le P0.lt sz236)) (own_ninC (Nat.ne_of_lt (Nat.lt_of_lt_of_le P0.lt sz267)) own_nin0)))))))).keep K359 (own_ninC (Nat.ne_of_lt (Nat.lt_of_lt_of_le P0.lt sz300)) own_nin0))
  have F371 := ((F315.keep K326 (own_ninC ne104 (own_ninC ne123 (own_ninC ne144 (own_ninC ne167 (own_ninC ne192 (own_ninC ne219 (own_ninC ne248 own_nin0)))))))).keep K359 (own_ninC ne279 own_nin0))
  have F372 := ((F316.keep K326 (own_ninC ne106 (own_ninC ne125 (own_ninC ne146 (own_ninC ne169 (own_ninC ne194 (own_ninC ne221 (own_ninC ne250 own_nin0)))))))).keep K359 (own_ninC ne281 own_nin0))
  have F373 := ((F317.keep K326 (own_ninC ne108 (own_ninC ne127 (own_ninC ne148 (own_ninC ne171 (own_ninC ne196 (own_ninC ne223 (own_ninC ne252 own_nin0)))))))).keep K359 (own_ninC ne283 own_nin0))
  have F374 := ((F318.keep K326 (own_ninC ne102 (own_ninC ne121 (own_ninC ne142 (own_ninC ne165 (own_ninC ne190 (own_ninC ne217 (own_ninC ne246 own_nin0)))))))).keep K359 (own_ninC ne277 own_nin0))
  have F375 := (u326_0.keep K359 (own_ninC ne285 own_nin0))
  have F376 := (u326_1.keep K359 (own_ninC ne287 own_nin0))
  have F377 := (u326_2.keep K359 (own_ninC ne289 own_nin0))
  have F378 := (u326_3.keep K359 (own_ninC ne291 own_nin0))
  have F379 := (u326_4.keep K359 (own_ninC ne293 own_nin0))
  have F380 := (u326_5.keep K359 (own_ninC ne295 own_nin0))
  have F381 := (u326_6.keep K359 (own_ninC ne297 own_nin0))
  have F383 := ((F327.keep K326).keep K359)
  obtain ⟨cq382, q382, q382'⟩ := F383.cell
  obtain ⟨_, _, ⟨T382, L382, k382, n382⟩, -, X382, ⟨Lc382, hQ382, l382, y382, z382⟩, st382⟩ := Xh359.privateBack hx (y := (⟨BLn, "describe", "(I[I[J[I[I)V"⟩ : MethodName)) hown (mvT hZ (own_g hw 51 rfl)) (mvT hZ (own_g hw 52 rfl)) (mvT hZ (own_selp (y := ({ cls := BLn, name := "describe", desc := "(I[I[J[I[I)V" } : Jvm.MethodName)) (own_g hw 53 rfl) (own_g hw 52 rfl) (own_g hw 10 rfl) ⟨by decide, by decide⟩)) (Cond.privateMethod_at (mvP hZ (own_g hw 53 rfl) (args := #[]))) (mvT hZ (own_g hw 54 rfl)) (by decide) (backOf (W := 0) (rm7 l Z a0 hw [] oa ((0 : Int32) + (1 : Int32)) b276 b17 b24 b64 b6 b64 b101 b120 b141 b164 b189 b216 b245 k276 k17 k24 k64 k6 k64 k101 k120 k141 k164 k189 k216 k245 (own_next [(0 : Int32)] (2 : Int32) 1) [((own_lb (((64 : Int32) / (2 : Int32)) + (0 : Int32))) <<< (((64 : Int32) - (((64 : Int32) / (2 : Int32)) + (0 : Int32))) &&& 0x3f).toInt64), ((own_lb (((64 : Int32) / (2 : Int32)) + (0 : Int32))) <<< ((((64 : Int32) - (((64 : Int32) / (2 : Int32)) + (0 : Int32))) - (((64 : Int32) / (2 : Int32)) + (0 : Int32))) &&& 0x3f).toInt64)] [((64 : Int32) - (((64 : Int32) / (2 : Int32)) + (0 : Int32))), (((64 : Int32) - (((64 : Int32) / (2 : Int32)) + (0 : Int32))) - (((64 : Int32) / (2 : Int32)) + (0 : Int32)))] [(((((2 : Int32) + (1 : Int32)) - (2 : Int32)) / (2 : Int32)) + (1 : Int32)), (((((2 : Int32) + (1 : Int32)) - (2 : Int32)) / (2 : Int32)) + (0 : Int32))] [(((64 : Int32) / (2 : Int32)) + (0 : Int32)), (((64 : Int32) / (2 : Int32)) + (0 : Int32))] [(((((2 : Int32) + (1 : Int32)) - (2 : Int32)) / (2 : Int32)) + (1 : Int32)), (((((2 : Int32) + (1 : Int32)) - (2 : Int32)) / (2 : Int32)) + (0 : Int32))] ([(.long 0), (.long 0)].set 0 (.long (own_km [((own_lb (((64 : Int32) / (2 : Int32)) + (0 : Int32))) <<< (((64 : Int32) - (((64 : Int32) / (2 : Int32)) + (0 : Int32))) &&& 0x3f).toInt64), ((own_lb (((64 : Int32) / (2 : Int32)) + (0 : Int32))) <<< ((((64 : Int32) - (((64 : Int32) / (2 : Int32)) + (0 : Int32))) - (((64 : Int32) / (2 : Int32)) + (0 : Int32))) &&& 0x3f).toInt64)] [(0 : Int32)] 1))) ([.null, .null].set 0 (.ref p2_326)) ([.null, .null].set 0 (.ref p3_326)) ([.null, .null].set 0 (.ref p4_326)) ([(.long 0), (.long 0)].set 0 (.long e5_326)) ([(.long 0), (.long 0)].set 0 (.long e6_326)) ([.null, .null].set 0 (.ref p7_326)) 1 2 2 1 32 1 T359.heap n0 Z360 F362 F363 F364 F365 F366 F367 F368 F369 F370 u359_0 F371 F372 F373 F374 F373 F375 F376 F377 F378 F379 F380 F381 (by decide) (by first | assumption | decide | omega) (by first | assumption | decide | omega) (by first | assumption | decide | omega) (by first | assumption | decide | omega) (by first | assumption | decide | omega) (by decide) (Nat.le_refl 2) (Nat.le_refl 2) (Nat.le_refl 2) (Nat.le_refl 2) (Nat.le_refl 2) (Nat.le_refl 2) (Nat.le_refl 2) O120 O141 O164 O245 g110 g131 g154 g179 g206 g235 g266 ne129 ne150 ne173 ne198 ne225 ne254 ne152 ne175 ne200 ne227 ne256 ne177 ne202 ne229 ne258 ne204 ne231 ne260 ne233 ne262 ne264 (Nat.ne_of_lt (Nat.lt_of_lt_of_le P0.lt sz111)) (Nat.ne_of_lt (Nat.lt_of_lt_of_le P0.lt sz132)) (Nat.ne_of_lt (Nat.lt_of_lt_of_le P0.lt sz155)) (Nat.ne_of_lt (Nat.lt_of_lt_of_le P0.lt sz180)) (Nat.ne_of_lt (Nat.lt_of_lt_of_le P0.lt sz207)) (Nat.ne_of_lt (Nat.lt_of_lt_of_le P0.lt sz236)) (Nat.ne_of_lt (Nat.lt_of_lt_of_le P0.lt sz267)) ne108 ne127 ne148 (Or.inl ⟨by decide, by decide +kernel, by decide⟩)) hZ (own_g hw 54 rfl) (own_g hw 11 rfl) (by decide) (by decide)) (g := (mkF m 447 #[vr oa, vi 2, vi 2, vi 0, vj ((2 : Int32).toInt64), v2, vr b17, vr b24, vi (((64 : Int32) - (((64 : Int32) / (2 : Int32)) + (0 : Int32))) - (((64 : Int32) / (2 : Int32)) + (0 : Int32))), vr b64, vi 2, vr b276, vi ((0 : Int32) + (1 : Int32)), vu] [(.ref b64), (.ref b24), (.ref b17), (.ref b276), (.int ((0 : Int32) + (1 : Int32))), (.ref oa)])) rfl (by rw [hml]; rfl) (Steps.refl _) (a := oa) q382 q382' (argsL := [(.int ((0 : Int32) + (1 : Int32))), (.ref b276), (.ref b17), (.ref b24), (.ref b64)]) (rest := []) (lenOf own_pd10 rfl) rfl (by show 2 * 0 + _ ≤ _; exact Nat.le_of_eq rfl) (hb hby d3_447) (fun _ _ => ⟨rfl, rfl, (by decide : 26 + 11 ≤ _), (by decide : 469 + 251 ≤ _)⟩)
  dsimp only [Pt.U, Pt.locs, Pt.cells, Pt.slots] at X382 l382 y382 z382 st382 hQ382
  subst l382 y382 z382
  obtain ⟨p2_382, kp2_382, p3_382, kp3_382, p4_382, p7_382, e5_382, e6_382, rfl, Nq382, K382, fr382_p2, fr382_p3, u382_0, u382_1, u382_2, u382_3, u382_4, u382_5, u382_6, u382_7, u382_8⟩ := hQ382
  obtain ⟨lc382, Xh382, N382⟩ := own_hide X382 (Fr.app N359 Nq382)
  clear X382
  refine Go.hop st382 ?_
  have ne384 := Nat.ne_of_lt (Nat.lt_of_lt_of_le F374.lt fr382_p2)
  have ne385 := Nat.ne_of_lt (Nat.lt_of_lt_of_le F371.lt fr382_p2)
  have ne386 := Nat.ne_of_lt (Nat.lt_of_lt_of_le F372.lt fr382_p2)
  have ne387 := Nat.ne_of_lt (Nat.lt_of_lt_of_le F373.lt fr382_p2)
  have ne388 := Nat.ne_of_lt (Nat.lt_of_lt_of_le F375.lt fr382_p2)
  have ne389 := Nat.ne_of_lt (Nat.lt_of_lt_of_le F376.lt fr382_p2)
  have ne390 := Nat.ne_of_lt (Nat.lt_of_lt_of_le F377.lt fr382_p2)
  have ne391 := Nat.ne_of_lt (Nat.lt_of_lt_of_le F378.lt fr382_p2)
  have ne392 := Nat.ne_of_lt (Nat.lt_of_lt_of_le F379.lt fr382_p2)
  have ne393 := Nat.ne_of_lt (Nat.lt_of_lt_of_le F380.lt fr382_p2)
  have ne394 := Nat.ne_of_lt (Nat.lt_of_lt_of_le F381.lt fr382_p2)
  have F396 := (u326_7.keep K359 (own_ninC (Ne.symm ne339) own_nin0))
  have ne395 := Nat.ne_of_lt (Nat.lt_of_lt_of_le F396.lt fr382_p2)
  have F398 := (u326_8.keep K359 (own_ninC (Ne.symm ne353) own_nin0))
  have ne397 := Nat.ne_of_lt (Nat.lt_of_lt_of_le F398.lt fr382_p2)
  have ne399 := Nat.ne_of_lt (Nat.lt_of_lt_of_le u359_0.lt fr382_p2)
  have g400 := Nat.le_trans Z360 fr382_p2
  have sz401 := Nat.le_trans K361.1 fr382_p2
  have ne402 := Nat.ne_of_lt (Nat.lt_of_lt_of_le F374.lt fr382_p3)
  have ne403 := Nat.ne_of_lt (Nat.lt_of_lt_of_le F371.lt fr382_p3)
  have ne404 := Nat.ne_of_lt (Nat.lt_of_lt_of_le F372.lt fr382_p3)
  have ne405 := Nat.ne_of_lt (Nat.lt_of_lt_of_le F373.lt fr382_p3)
  have ne406 := Nat.ne_of_lt (Nat.lt_of_lt_of_le F375.lt fr382_p3)
  have ne407 := Nat.ne_of_lt (Nat.lt_of_lt_of_le F376.lt fr382_p3)
  have ne408 := Nat.ne_of_lt (Nat.lt_of_lt_of_le F377.lt fr382_p3)
  have ne409 := Nat.ne_of_lt (Nat.lt_of_lt_of_le F378.lt fr382_p3)
  have ne410 := Nat.ne_of_lt (Nat.lt_of_lt_of_le F379.lt fr382_p3)
  have ne411 := Nat.ne_of_lt (Nat.lt_of_lt_of_le F380.lt fr382_p3)
  have ne412 := Nat.ne_of_lt (Nat.lt_of_lt_of_le F381.lt fr382_p3)
  have ne413 := Nat.ne_of_lt (Nat.lt_of_lt_of_le F396.lt fr382_p3)
  have ne414 := Nat.ne_of_lt (Nat.lt_of_lt_of_le F398.lt fr382_p3)
  have ne415 := Nat.ne_of_lt (Nat.lt_of_lt_of_le u359_0.lt fr382_p3)
  have g416 := Nat.le_trans Z360 fr382_p3
  have sz417 := Nat.le_trans K361.1 fr382_p3
  have Z418 := Nat.le_trans Z360 K382.1
  have K419 := K361.trans K382 (own_allC (Or.inr sz111) (own_allC (Or.inr sz132) (own_allC (Or.inr sz155) (own_allC (Or.inr sz180) (own_allC (Or.inr sz207) (own_allC (Or.inr sz236) (own_allC (Or.inr sz267) own_all0)))))))
  refine gv (fun t k => XS.aload Xh382.here hx rfl (hb hby d3_450) rfl rfl k) ?_
  refine gv (fun t k => XS.iloadN Xh382.here hx rfl (hb hby d3_452) rfl k) ?_
  have F420 := (u359_0.keep K382 (own_ninC (Ne.symm ne285) (own_ninC (Ne.symm ne287) (own_ninC (Ne.symm ne289) (own_ninC (Ne.symm ne291) (own_ninC (Ne.symm ne293) (own_ninC (Ne.symm ne295) (own_ninC (Ne.symm ne297) own_nin0))))))))
  obtain ⟨_, _, ⟨T421, L421, k421, n421⟩, -, X421, ⟨Lc421, hQ421, l421, y421, z421⟩, st421⟩ := Jvm.LawKit.callS Xh382 hx (y := (⟨BLn, "nextChoice", "([II)V"⟩ : MethodName)) hown (mvT hZ (own_g hw 89 rfl)) (mvT hZ (own_g hw 90 rfl)) (mvT hZ (own_g hw 11 rfl)) (mvT hZ (own_g hw 91 rfl)) (by decide) (backOf (W := 0) (rm14 l Z a0 hw [] b276 (2 : Int32) k276 1 (own_next [(0 : Int32)] (2 : Int32) 1) T382.heap n0 Z418 F420 (by first | assumption | decide | omega) (by first | assumption | decide | omega) (by decide) g299) hZ (own_g hw 91 rfl) (own_g hw 11 rfl) (by decide) (by decide)) (g := (mkF m 453 #[vr oa, vi 2, vi 2, vi 0, vj ((2 : Int32).toInt64), v2, vr b17, vr b24, vi (((64 : Int32) - (((64 : Int32) / (2 : Int32)) + (0 : Int32))) - (((64 : Int32) / (2 : Int32)) + (0 : Int32))), vr b64, vi 2, vr b276, vi ((0 : Int32) + (1 : Int32)), vu] [(.int 2), (.ref b276)])) rfl (by rw [hml]; rfl) (argsL := [(.ref b276), (.int 2)]) (rest := []) (lenOf own_pd5 rfl) rfl (by show 2 * 0 + _ ≤ _; exact Nat.le_of_eq rfl) (hb hby d3_453) (fun _ _ => ⟨rfl, rfl, (by decide : 37 + 0 ≤ _), (by decide : 720 + 0 ≤ _)⟩)
  dsimp only [Pt.U, Pt.locs, Pt.cells, Pt.slots] at X421 l421 y421 z421 st421 hQ421
  subst l421 y421 z421
  obtain ⟨rfl, Nq421, K421, u421_0⟩ := hQ421
  obtain ⟨lc421, Xh421, N421⟩ := own_hide X421 (Fr.app N382 Nq421)
  clear X421
  refine gv st421 ?_
  have Z422 := Nat.le_trans Z418 K421.1
  have K423 := K419.trans K421 (own_allC (Or.inr sz300) own_all0)
  refine gv (fun t k => XS.iinc Xh421.here hx rfl (hb hby d3_456) rfl (l' := #[vr oa, vi 2, vi 2, vi 0, vj ((2 : Int32).toInt64), v2, vr b17, vr b24, vi (((64 : Int32) - (((64 : Int32) / (2 : Int32)) + (0 : Int32))) - (((64 : Int32) / (2 : Int32)) + (0 : Int32))), vr b64, vi 2, vr b276, vi (((0 : Int32) + (1 : Int32)) + (1 : Int32)), vu]) rfl k) ?_
  refine gv (fun t k => XS.goto Xh421.here hx rfl (pc0 := 459) (pc' := 429) rfl (hb hby d3_459) (by decide) (by decide) k) ?_
  refine gv (fun t k => XS.iload Xh421.here hx rfl (hb hby d3_429) rfl k) ?_
  refine gv (fun t k => XS.iload Xh421.here hx rfl (hb hby d3_431) rfl k) ?_
  refine gv (fun t k => XS.icmpYes Xh421.here hx rfl (pc0 := 433) (pc' := 462) rfl (hb hby d3_433) rfl (flt (by decide : ¬ ((((0 : Int32) + (1 : Int32)) + (1 : Int32)) < (2 : Int32)))).2.1 (by decide) (by decide) k) ?_
  show Go p.tables e below P T421 (mkF m 462 #[vr oa, vi 2, vi 2, vi 0, vj ((2 : Int32).toInt64), v2, vr b17, vr b24, vi (((64 : Int32) - (((64 : Int32) / (2 : Int32)) + (0 : Int32))) - (((64 : Int32) / (2 : Int32)) + (0 : Int32))), vr b64, vi 2, vr b276, vi (((0 : Int32) + (1 : Int32)) + (1 : Int32)), vu] [])
  rcases (by omega : tt = 0 ∨ tt = 1) with hq | hq
  · show Go p.tables e below P T421 (mkF m 462 #[vr oa, vi 2, vi 2, vi 0, vj ((2 : Int32).toInt64), v2, vr b17, vr b24, vi (((64 : Int32) - (((64 : Int32) / (2 : Int32)) + (0 : Int32))) - (((64 : Int32) / (2 : Int32)) + (0 : Int32))), vr b64, vi 2, vr b276, vi (((0 : Int32) + (1 : Int32)) + (1 : Int32)), vu] [])
    have F425 := ((F396.keep K382 (own_ninC (Ne.symm ne332) (own_ninC (Ne.symm ne333) (own_ninC (Ne.symm ne334) (own_ninC (Ne.symm ne335) (own_ninC (Ne.symm ne336) (own_ninC (Ne.symm ne337) (own_ninC (Ne.symm ne338) own_nin0)))))))).keep K421 (own_ninC (Ne.symm ne339) own_nin0))
    have F426 := ((F398.keep K382 (own_ninC (Ne.symm ne346) (own_ninC (Ne.symm ne347) (own_ninC (Ne.symm ne348) (own_ninC (Ne.symm ne349) (own_ninC (Ne.symm ne350) (own_ninC (Ne.symm ne351) (own_ninC (Ne.symm ne352) own_nin0)))))))).keep K421 (own_ninC (Ne.symm ne353) own_nin0))
    obtain ⟨fs, hr, hrun, hended, hW, hsame⟩ := Xh421.leave (v := none) (fun _ => rfl)
    have F427 := ((F383.keep K382).keep K421)
    have F428 := ((F365.keep K382 (own_ninC (Nat.ne_of_lt (Nat.lt_of_lt_of_le P0.lt sz111)) (own_ninC (Nat.ne_of_lt (Nat.lt_of_lt_of_le P0.lt sz132)) (own_ninC (Nat.ne_of_lt (Nat.lt_of_lt_of_le P0.lt sz155)) (own_ninC (Nat.ne_of_lt (Nat.lt_of_lt_of_le P0.lt sz180)) (own_ninC (Nat.ne_of_lt (Nat.lt_of_lt_of_le P0.lt sz207)) (own_ninC (Nat.ne_of_lt (Nat.lt_of_lt_of_le P0.lt sz236)) (own_ninC (Nat.ne_of_lt (Nat.lt_of_lt_of_le P0.lt sz267)) own_nin0)))))))).keep K421 (own_ninC (Nat.ne_of_lt (Nat.lt_of_lt_of_le P0.lt sz300)) own_nin0))
    have F429 := ((F366.keep K382 (own_ninC (Nat.ne_of_lt (Nat.lt_of_lt_of_le P0.lt sz111)) (own_ninC (Nat.ne_of_lt (Nat.lt_of_lt_of_le P0.lt sz132)) (own_ninC (Nat.ne_of_lt (Nat.lt_of_lt_of_le P0.lt sz155)) (own_ninC (Nat.ne_of_lt (Nat.lt_of_lt_of_le P0.lt sz180)) (own_ninC (Nat.ne_of_lt (Nat.lt_of_lt_of_le P0.lt sz207)) (own_ninC (Nat.ne_of_lt (Nat.lt_of_lt_of_le P0.lt sz236)) (own_ninC (Nat.ne_of_lt (Nat.lt_of_lt_of_le P0.lt sz267)) own_nin0)))))))).keep K421 (own_ninC (Nat.ne_of_lt (Nat.lt_of_lt_of_le P0.lt sz300)) own_nin0))
    have F430 := (u382_1.keep K421 (own_ninC ne287 own_nin0))
    have F431 := (u382_2.keep K421 (own_ninC ne289 own_nin0))
    refine ⟨_, _, Xh421.returnOut hx Bd.returns (hb hby d3_462) hr, hrun, hended, hP _ _ ⟨_, _, rfl, ?_, ⟨_, rfl⟩, hW, hsame.mono (by decide) (by decide)⟩⟩
    show Q3o Z oa tt h0 n0 _ T421.heap _
    exact ⟨b120, b141, k120, k141, (([.null, .null].set 0 (.ref p2_326)).set 1 (.ref p2_382)), (([.null, .null].set 0 (.ref p3_326)).set 1 (.ref p3_382)), p2_326, p3_326, kp2_326, kp3_326, rfl, N421, K423, F427, F428, F429, F430, F431, (by rw [hq, show (own_rs (own_ch (2 : Int32) 1 0) (own_sl (2 : Int32) 2) (own_wl (2 : Int32) 2) 1) = (own_rs [(0 : Int32)] [((64 : Int32) - (((64 : Int32) / (2 : Int32)) + (0 : Int32))), (((64 : Int32) - (((64 : Int32) / (2 : Int32)) + (0 : Int32))) - (((64 : Int32) / (2 : Int32)) + (0 : Int32)))] [(((64 : Int32) / (2 : Int32)) + (0 : Int32)), (((64 : Int32) / (2 : Int32)) + (0 : Int32))] 1) from by decide +kernel]; exact F425), (by rw [hq, show (own_rs (own_ch (2 : Int32) 1 0) (own_sl (2 : Int32) 2) (own_wl (2 : Int32) 2) 1) = (own_rs [(0 : Int32)] [((64 : Int32) - (((64 : Int32) / (2 : Int32)) + (0 : Int32))), (((64 : Int32) - (((64 : Int32) / (2 : Int32)) + (0 : Int32))) - (((64 : Int32) / (2 : Int32)) + (0 : Int32)))] [(((64 : Int32) / (2 : Int32)) + (0 : Int32)), (((64 : Int32) / (2 : Int32)) + (0 : Int32))] 1) from by decide +kernel]; exact F426), (by rw [hq]; rfl), (by rw [hq]; rfl)⟩
  · show Go p.tables e below P T421 (mkF m 462 #[vr oa, vi 2, vi 2, vi 0, vj ((2 : Int32).toInt64), v2, vr b17, vr b24, vi (((64 : Int32) - (((64 : Int32) / (2 : Int32)) + (0 : Int32))) - (((64 : Int32) / (2 : Int32)) + (0 : Int32))), vr b64, vi 2, vr b276, vi (((0 : Int32) + (1 : Int32)) + (1 : Int32)), vu] [])
    have F433 := (u382_7.keep K421 (own_ninC (Ne.symm ne399) own_nin0))
    have F434 := (u382_8.keep K421 (own_ninC (Ne.symm ne415) own_nin0))
    obtain ⟨fs, hr, hrun, hended, hW, hsame⟩ := Xh421.leave (v := none) (fun _ => rfl)
    have F435 := ((F383.keep K382).keep K421)
    have F436 := ((F365.keep K382 (own_ninC (Nat.ne_of_lt (Nat.lt_of_lt_of_le P0.lt sz111)) (own_ninC (Nat.ne_of_lt (Nat.lt_of_lt_of_le P0.lt sz132)) (own_ninC (Nat.ne_of_lt (Nat.lt_of_lt_of_le P0.lt sz155)) (own_ninC (Nat.ne_of_lt (Nat.lt_of_lt_of_le P0.lt sz180)) (own_ninC (Nat.ne_of_lt (Nat.lt_of_lt_of_le P0.lt sz207)) (own_ninC (Nat.ne_of_lt (Nat.lt_of_lt_of_le P0.lt sz236)) (own_ninC (Nat.ne_of_lt (Nat.lt_of_lt_of_le P0.lt sz267)) own_nin0)))))))).keep K421 (own_ninC (Nat.ne_of_lt (Nat.lt_of_lt_of_le P0.lt sz300)) own_nin0))
    have F437 := ((F366.keep K382 (own_ninC (Nat.ne_of_lt (Nat.lt_of_lt_of_le P0.lt sz111)) (own_ninC (Nat.ne_of_lt (Nat.lt_of_lt_of_le P0.lt sz132)) (own_ninC (Nat.ne_of_lt (Nat.lt_of_lt_of_le P0.lt sz155)) (own_ninC (Nat.ne_of_lt (Nat.lt_of_lt_of_le P0.lt sz180)) (own_ninC (Nat.ne_of_lt (Nat.lt_of_lt_of_le P0.lt sz207)) (own_ninC (Nat.ne_of_lt (Nat.lt_of_lt_of_le P0.lt sz236)) (own_ninC (Nat.ne_of_lt (Nat.lt_of_lt_of_le P0.lt sz267)) own_nin0)))))))).keep K421 (own_ninC (Nat.ne_of_lt (Nat.lt_of_lt_of_le P0.lt sz300)) own_nin0))
    have F438 := (u382_1.keep K421 (own_ninC ne287 own_nin0))
    have F439 := (u382_2.keep K421 (own_ninC ne289 own_nin0))
    refine ⟨_, _, Xh421.returnOut hx Bd.returns (hb hby d3_462) hr, hrun, hended, hP _ _ ⟨_, _, rfl, ?_, ⟨_, rfl⟩, hW, hsame.mono (by decide) (by decide)⟩⟩
    show Q3o Z oa tt h0 n0 _ T421.heap _
    exact ⟨b120, b141, k120, k141, (([.null, .null].set 0 (.ref p2_326)).set 1 (.ref p2_382)), (([.null, .null].set 0 (.ref p3_326)).set 1 (.ref p3_382)), p2_382, p3_382, kp2_382, kp3_382, rfl, N421, K423, F435, F436, F437, F438, F439, (by rw [hq, show (own_rs (own_ch (2 : Int32) 1 1) (own_sl (2 : Int32) 2) (own_wl (2 : Int32) 2) 1) = (own_rs (own_next [(0 : Int32)] (2 : Int32) 1) [((64 : Int32) - (((64 : Int32) / (2 : Int32)) + (0 : Int32))), (((64 : Int32) - (((64 : Int32) / (2 : Int32)) + (0 : Int32))) - (((64 : Int32) / (2 : Int32)) + (0 : Int32)))] [(((64 : Int32) / (2 : Int32)) + (0 : Int32)), (((64 : Int32) / (2 : Int32)) + (0 : Int32))] 1) from by decide +kernel]; exact F433), (by rw [hq, show (own_rs (own_ch (2 : Int32) 1 1) (own_sl (2 : Int32) 2) (own_wl (2 : Int32) 2) 1) = (own_rs (own_next [(0 : Int32)] (2 : Int32) 1) [((64 : Int32) - (((64 : Int32) / (2 : Int32)) + (0 : Int32))), (((64 : Int32) - (((64 : Int32) / (2 : Int32)) + (0 : Int32))) - (((64 : Int32) / (2 : Int32)) + (0 : Int32)))] [(((64 : Int32) / (2 : Int32)) + (0 : Int32)), (((64 : Int32) / (2 : Int32)) + (0 : Int32))] 1) from by decide +kernel]; exact F434), (by rw [hq]; rfl), (by rw [hq]; rfl)⟩
theorem own_tsel (x d : Int32) (n : Nat) (hd : d = n.toInt32) (h0 : 0 < n) (hn : n < 2147483648) : ∃ z, z < n ∧ ((x &&& (2147483647 : Int32)) % d) = z.toInt32 := by
  have a := c_and x (2147483647 : Int32) (by decide)
  have e : d.toInt = n := by rw [hd, own_nat hn]
  have r := (c_iremV (x &&& (2147483647 : Int32)) d).1 a.1 (by omega)
  refine ⟨((x &&& (2147483647 : Int32)) % d).toInt.toNat, by omega, ?_⟩
  rw [← Int32.toInt_inj, own_nat (by omega)]; omega
theorem own_us0 (fp : Int64) (z : Int32) (hz : z.toBitVec.toNat % 64 = 0) : own_us fp z = fp := by
  unfold own_us
  rw [← Int64.toBitVec_inj]
  show fp.toBitVec >>> ((z &&& 0x3f).toInt64.toBitVec % 64) = fp.toBitVec
  rw [(sm64 z 0 hz).1]; simp
theorem own_cutN (fp : Int64) (z : Int32) (m : Int64) (s w : Nat) (hz : z.toBitVec.toNat % 64 = s) (hw : w ≤ 63) (hm : m.toBitVec.toNat = 2 ^ w - 1) (S W : Int) (hS : S = (2 ^ s : Nat)) (hW : W = (2 ^ w : Nat)) : (own_us fp z &&& m).toInt = (fp.toInt % 18446744073709551616) / S % W := by
  rw [c_maskL _ m w hw hm, hS, hW]
  by_cases h0 : 0 < s
  · unfold own_us; rw [c_lushr fp z s hz h0]
  · obtain rfl : s = 0 := by omega
    rw [own_us0 fp z hz]
    have d : ((2 ^ w : Nat) : Int) ∣ 18446744073709551616 := by
      have q := Int.natCast_dvd_natCast.mpr (Nat.pow_dvd_pow 2 (show w ≤ 64 by omega))
      rw [show ((2 ^ 64 : Nat) : Int) = 18446744073709551616 from rfl] at q; exact q
    rw [show ((2 ^ 0 : Nat) : Int) = 1 from rfl, Int.ediv_one, Int.emod_emod_of_dvd _ d]
theorem own_catN (A B : Int64) (z : Int32) (w : Nat) (hz : z.toBitVec.toNat % 64 = w) (hw : w ≤ 62) (W : Int) (hW : W = (2 ^ w : Nat)) (a b : Int) (ha : A.toInt = a) (hb : B.toInt = b) (h0 : 0 ≤ a) (h1 : a * W < 9223372036854775808) (h2 : 0 ≤ b) (h3 : b < W) : ((A <<< (z &&& 0x3f).toInt64) ||| B).toInt = a * W + b := by
  subst ha; subst hb
  have q := c_lshl A z w hz
  rw [← hW] at q
  have r := rng64 (A <<< (z &&& 0x3f).toInt64)
  have W0 : 0 < W := by rw [hW]; exact Int.natCast_pos.mpr (Nat.pow_pos (show 0 < 2 by decide))
  have pz : 0 ≤ A.toInt * W := Int.mul_nonneg h0 (by omega)
  have e : (A <<< (z &&& 0x3f).toInt64).toInt = A.toInt * W := by generalize A.toInt * W = Y at *; omega
  have o := c_orL (A <<< (z &&& 0x3f).toInt64) B w (by omega) W hW (by rw [e]; exact Int.mul_emod_left _ _) h2 h3
  have r2 := rng64 ((A <<< (z &&& 0x3f).toInt64) ||| B)
  rw [e] at o
  have up : A.toInt * W + B.toInt < 9223372036854775808 := by
    have le : W ≤ 4611686018427387904 := by
      have q := Int.ofNat_le.mpr (Nat.pow_le_pow_right (show 0 < 2 by decide) hw)
      rw [show ((2 ^ 62 : Nat) : Int) = 4611686018427387904 from rfl, ← hW] at q; exact q
    have : A.toInt * W + W ≤ 9223372036854775808 := by
      have d : (9223372036854775808 : Int) % W = 0 := by
        have q := Int.natCast_dvd_natCast.mpr (Nat.pow_dvd_pow 2 (show w ≤ 63 by omega))
        rw [show ((2 ^ 63 : Nat) : Int) = 9223372036854775808 from rfl, ← hW] at q
        exact Int.emod_eq_zero_of_dvd q
      obtain ⟨c, hc⟩ := Int.dvd_of_emod_eq_zero d
      rw [hc] at h1 ⊢
      have lt : A.toInt < c := by
        rw [Int.mul_comm W c] at h1
        exact Int.lt_of_mul_lt_mul_right h1 (by omega)
      calc A.toInt * W + W = (A.toInt + 1) * W := by rw [Int.add_mul, Int.one_mul]
        _ ≤ c * W := Int.mul_le_mul_of_nonneg_right (by omega) (by omega)
        _ = W * c := Int.mul_comm _ _
    omega
  generalize A.toInt * W = Y at *
  omega
theorem own_blkN (fp : Int64) (B i : Int32) (s w : Nat) (h : ¬ own_w B i = (64 : Int32)) (hz : (own_sh B i).toBitVec.toNat % 64 = s) (hw : w ≤ 63) (hm : (((1 : Int64) <<< ((own_w B i) &&& 0x3f).toInt64) - (1 : Int64)).toBitVec.toNat = 2 ^ w - 1) (S W : Int) (hS : S = (2 ^ s : Nat)) (hW : W = (2 ^ w : Nat)) : (own_blk fp B i).toInt = (fp.toInt % 18446744073709551616) / S % W := by
  unfold own_blk; rw [if_neg h]; exact own_cutN fp _ _ s w hz hw hm S W hS hW
theorem own_l0 (fp : Int64) : own_key [0, 0, 0] [64, 0, 0] fp 1 = own_blk fp (1 : Int32) (0 : Int32) := by
  rw [show own_blk fp (1 : Int32) (0 : Int32) = fp from if_pos (by decide)]
  show (((0 : Int64) <<< ((64 : Int32) &&& 0x3f).toInt64) ||| (own_us fp 0 &&& own_lb 64)) = fp
  rw [show own_lb 64 = (-1 : Int64) from by decide, show ((0 : Int64) <<< ((64 : Int32) &&& 0x3f).toInt64) = 0 from by decide, own_us0 fp 0 rfl]
  simp
def own_exp (fp : Int64) (pb : Int32) (A B E : List Int32) (z : Nat) : Int64 :=
  if (E.getD z 0) < (0 : Int32) then (if (B.getD z 0) < (0 : Int32) then (own_blk fp pb (A.getD z 0)) else (((own_blk fp pb (A.getD z 0)) <<< ((own_w pb (B.getD z 0)) &&& 0x3f).toInt64) ||| (own_blk fp pb (B.getD z 0)))) else (((if (B.getD z 0) < (0 : Int32) then (own_blk fp pb (A.getD z 0)) else (((own_blk fp pb (A.getD z 0)) <<< ((own_w pb (B.getD z 0)) &&& 0x3f).toInt64) ||| (own_blk fp pb (B.getD z 0)))) <<< ((own_w pb (E.getD z 0)) &&& 0x3f).toInt64) ||| (own_blk fp pb (E.getD z 0)))
def own_BC : List Int32 := [1, 2, 3, 4, 5]
def own_TC : List Int32 := [1, 2, 3, 6, 10]
def own_DC : List Int32 := [0, 2, 1, 2, 2]
def own_A0 : List Int32 := [(0 : Int32)]
def own_B0 : List Int32 := [(-1 : Int32)]
def own_C0 : List Int32 := [(-1 : Int32)]
theorem own_q0_0 : own_ch ((1 : Nat).toInt32) (1 : Nat) 0 = [(0 : Int32), (0 : Int32), (0 : Int32)] := by decide +kernel
theorem own_r0_0 : (own_rs (own_ch ((1 : Nat).toInt32) (1 : Nat) 0) (own_sl ((1 : Nat).toInt32) (1 : Nat)) (own_wl ((1 : Nat).toInt32) (1 : Nat)) (1 : Nat)) = (1, [(0 : Int32), (0 : Int32), (0 : Int32)], [(64 : Int32), (0 : Int32), (0 : Int32)]) := by rw [own_q0_0]; decide +kernel
theorem own_good0 : ∀ z, z < (1 : Nat) → (∀ i, i < (1 : Nat) → ¬ (own_ch ((1 : Nat).toInt32) (1 : Nat) z).getD i 0 < (0 : Int32) ∧ (own_ch ((1 : Nat).toInt32) (1 : Nat) z).getD i 0 < ((1 : Nat).toInt32)) ∧ ¬ own_bc (own_km (own_ml ((1 : Nat).toInt32) (1 : Nat)) (own_ch ((1 : Nat).toInt32) (1 : Nat) z) (1 : Nat)) < (0 : Int32) ∧ (own_bc (own_km (own_ml ((1 : Nat).toInt32) (1 : Nat)) (own_ch ((1 : Nat).toInt32) (1 : Nat) z) (1 : Nat))).toNatClampNeg ≤ 64 := by
  intro z hz
  rcases (by omega : z = 0) with rfl
  · rw [own_q0_0]; decide +kernel
theorem own_law0 (tt : Nat) (qf : Int64) (htt : tt < 1) : own_key (own_rs (own_ch ((1 : Nat).toInt32) (1 : Nat) tt) (own_sl ((1 : Nat).toInt32) (1 : Nat)) (own_wl ((1 : Nat).toInt32) (1 : Nat)) (1 : Nat)).2.1 (own_rs (own_ch ((1 : Nat).toInt32) (1 : Nat) tt) (own_sl ((1 : Nat).toInt32) (1 : Nat)) (own_wl ((1 : Nat).toInt32) (1 : Nat)) (1 : Nat)).2.2 qf (own_rs (own_ch ((1 : Nat).toInt32) (1 : Nat) tt) (own_sl ((1 : Nat).toInt32) (1 : Nat)) (own_wl ((1 : Nat).toInt32) (1 : Nat)) (1 : Nat)).1 = own_exp qf ((1 : Nat).toInt32) own_A0 own_B0 own_C0 tt := by
  rcases (by omega : tt = 0) with rfl
  · unfold own_exp; rw [own_r0_0, if_pos (by decide), if_pos (by decide)]; exact own_l0 qf
def own_A1 : List Int32 := [(0 : Int32), (1 : Int32)]
def own_B1 : List Int32 := [(-1 : Int32), (-1 : Int32)]
def own_C1 : List Int32 := [(-1 : Int32), (-1 : Int32)]
theorem own_q1_0 : own_ch ((2 : Nat).toInt32) (1 : Nat) 0 = [(0 : Int32), (0 : Int32), (0 : Int32)] := by decide +kernel
theorem own_r1_0 : (own_rs (own_ch ((2 : Nat).toInt32) (1 : Nat) 0) (own_sl ((2 : Nat).toInt32) (2 : Nat)) (own_wl ((2 : Nat).toInt32) (2 : Nat)) (1 : Nat)) = (1, [(32 : Int32), (0 : Int32), (0 : Int32)], [(32 : Int32), (0 : Int32), (0 : Int32)]) := by rw [own_q1_0]; decide +kernel
theorem own_l1_0 (fp : Int64) : own_key [(32 : Int32), (0 : Int32), (0 : Int32)] [(32 : Int32), (0 : Int32), (0 : Int32)] fp 1 = (own_blk fp (2 : Int32) (0 : Int32)) := by
  have N0 : 0 ≤ (fp.toInt % 18446744073709551616) := Int.emod_nonneg _ (by decide)
  have N1 : (fp.toInt % 18446744073709551616) < 18446744073709551616 := Int.emod_lt_of_pos _ (by decide)
  have b0 := own_blkN fp (2 : Int32) (0 : Int32) 32 32 (by decide) (by decide) (by decide) (by decide) 4294967296 4294967296 (by decide) (by decide)
  have k0 := own_cutN fp (32 : Int32) (own_lb (32 : Int32)) 32 32 (by decide) (by decide) (by decide) 4294967296 4294967296 (by decide) (by decide)
  rw [← Int64.toInt_inj]
  generalize (fp.toInt % 18446744073709551616) = N at *
  have a0 : (0 : Int64).toInt = 0 := rfl
  have y0 := own_catN (0 : Int64) (own_us fp (32 : Int32) &&& own_lb (32 : Int32)) (32 : Int32) 32 (by decide) (by decide) 4294967296 (by decide) _ _ a0 k0 (by omega) (by omega) (by omega) (by omega)
  have ky : (own_key [(32 : Int32), (0 : Int32), (0 : Int32)] [(32 : Int32), (0 : Int32), (0 : Int32)] fp 1).toInt = _ := y0
  rw [ky, b0]
  omega
theorem own_q1_1 : own_ch ((2 : Nat).toInt32) (1 : Nat) 1 = [(1 : Int32), (0 : Int32), (0 : Int32)] := by rw [own_ch, own_q1_0]; decide +kernel
theorem own_r1_1 : (own_rs (own_ch ((2 : Nat).toInt32) (1 : Nat) 1) (own_sl ((2 : Nat).toInt32) (2 : Nat)) (own_wl ((2 : Nat).toInt32) (2 : Nat)) (1 : Nat)) = (1, [(0 : Int32), (0 : Int32), (0 : Int32)], [(32 : Int32), (0 : Int32), (0 : Int32)]) := by rw [own_q1_1]; decide +kernel
theorem own_l1_1 (fp : Int64) : own_key [(0 : Int32), (0 : Int32), (0 : Int32)] [(32 : Int32), (0 : Int32), (0 : Int32)] fp 1 = (own_blk fp (2 : Int32) (1 : Int32)) := by
  have N0 : 0 ≤ (fp.toInt % 18446744073709551616) := Int.emod_nonneg _ (by decide)
  have N1 : (fp.toInt % 18446744073709551616) < 18446744073709551616 := Int.emod_lt_of_pos _ (by decide)
  have b1 := own_blkN fp (2 : Int32) (1 : Int32) 0 32 (by decide) (by decide) (by decide) (by decide) 1 4294967296 (by decide) (by decide)
  have k0 := own_cutN fp (0 : Int32) (own_lb (32 : Int32)) 0 32 (by decide) (by decide) (by decide) 1 4294967296 (by decide) (by decide)
  rw [← Int64.toInt_inj]
  generalize (fp.toInt % 18446744073709551616) = N at *
  have a0 : (0 : Int64).toInt = 0 := rfl
  have y0 := own_catN (0 : Int64) (own_us fp (0 : Int32) &&& own_lb (32 : Int32)) (32 : Int32) 32 (by decide) (by decide) 4294967296 (by decide) _ _ a0 k0 (by omega) (by omega) (by omega) (by omega)
  have ky : (own_key [(0 : Int32), (0 : Int32), (0 : Int32)] [(32 : Int32), (0 : Int32), (0 : Int32)] fp 1).toInt = _ := y0
  rw [ky, b1]
  omega
theorem own_law1 (tt : Nat) (qf : Int64) (htt : tt < 2) : own_key (own_rs (own_ch ((2 : Nat).toInt32) (1 : Nat) tt) (own_sl ((2 : Nat).toInt32) (2 : Nat)) (own_wl ((2 : Nat).toInt32) (2 : Nat)) (1 : Nat)).2.1 (own_rs (own_ch ((2 : Nat).toInt32) (1 : Nat) tt) (own_sl ((2 : Nat).toInt32) (2 : Nat)) (own_wl ((2 : Nat).toInt32) (2 : Nat)) (1 : Nat)).2.2 qf (own_rs (own_ch ((2 : Nat).toInt32) (1 : Nat) tt) (own_sl ((2 : Nat).toInt32) (2 : Nat)) (own_wl ((2 : Nat).toInt32) (2 : Nat)) (1 : Nat)).1 = own_exp qf ((2 : Nat).toInt32) own_A1 own_B1 own_C1 tt := by
  rcases (by omega : tt = 0 ∨ tt = 1) with rfl | rfl
  · unfold own_exp; rw [own_r1_0, if_pos (by decide), if_pos (by decide)]; exact own_l1_0 qf
  · unfold own_exp; rw [own_r1_1, if_pos (by decide), if_pos (by decide)]; exact own_l1_1 qf
def own_A2 : List Int32 := [(0 : Int32), (0 : Int32), (1 : Int32)]
def own_B2 : List Int32 := [(1 : Int32), (2 : Int32), (2 : Int32)]
def own_C2 : List Int32 := [(-1 : Int32), (-1 : Int32), (-1 : Int32)]
theorem own_q2_0 : own_ch ((3 : Nat).toInt32) (2 : Nat) 0 = [(0 : Int32), (1 : Int32), (0 : Int32)] := by decide +kernel
theorem own_r2_0 : (own_rs (own_ch ((3 : Nat).toInt32) (2 : Nat) 0) (own_sl ((3 : Nat).toInt32) (3 : Nat)) (own_wl ((3 : Nat).toInt32) (3 : Nat)) (2 : Nat)) = (1, [(21 : Int32), (0 : Int32), (0 : Int32)], [(43 : Int32), (0 : Int32), (0 : Int32)]) := by rw [own_q2_0]; decide +kernel
theorem own_l2_0 (fp : Int64) : own_key [(21 : Int32), (0 : Int32), (0 : Int32)] [(43 : Int32), (0 : Int32), (0 : Int32)] fp 1 = (((own_blk fp (3 : Int32) (0 : Int32)) <<< ((own_w (3 : Int32) (1 : Int32)) &&& 0x3f).toInt64) ||| (own_blk fp (3 : Int32) (1 : Int32))) := by
  have N0 : 0 ≤ (fp.toInt % 18446744073709551616) := Int.emod_nonneg _ (by decide)
  have N1 : (fp.toInt % 18446744073709551616) < 18446744073709551616 := Int.emod_lt_of_pos _ (by decide)
  have b0 := own_blkN fp (3 : Int32) (0 : Int32) 42 22 (by decide) (by decide) (by decide) (by decide) 4398046511104 4194304 (by decide) (by decide)
  have b1 := own_blkN fp (3 : Int32) (1 : Int32) 21 21 (by decide) (by decide) (by decide) (by decide) 2097152 2097152 (by decide) (by decide)
  have k0 := own_cutN fp (21 : Int32) (own_lb (43 : Int32)) 21 43 (by decide) (by decide) (by decide) 2097152 8796093022208 (by decide) (by decide)
  rw [← Int64.toInt_inj]
  generalize (fp.toInt % 18446744073709551616) = N at *
  have a0 : (0 : Int64).toInt = 0 := rfl
  have y0 := own_catN (0 : Int64) (own_us fp (21 : Int32) &&& own_lb (43 : Int32)) (43 : Int32) 43 (by decide) (by decide) 8796093022208 (by decide) _ _ a0 k0 (by omega) (by omega) (by omega) (by omega)
  have ky : (own_key [(21 : Int32), (0 : Int32), (0 : Int32)] [(43 : Int32), (0 : Int32), (0 : Int32)] fp 1).toInt = _ := y0
  have z1 := own_catN (own_blk fp (3 : Int32) (0 : Int32)) (own_blk fp (3 : Int32) (1 : Int32)) (own_w (3 : Int32) (1 : Int32)) 21 (by decide) (by decide) 2097152 (by decide) _ _ b0 b1 (by omega) (by omega) (by omega) (by omega)
  rw [ky, z1]
  omega
theorem own_q2_1 : own_ch ((3 : Nat).toInt32) (2 : Nat) 1 = [(0 : Int32), (2 : Int32), (0 : Int32)] := by rw [own_ch, own_q2_0]; decide +kernel
theorem own_r2_1 : (own_rs (own_ch ((3 : Nat).toInt32) (2 : Nat) 1) (own_sl ((3 : Nat).toInt32) (3 : Nat)) (own_wl ((3 : Nat).toInt32) (3 : Nat)) (2 : Nat)) = (2, [(42 : Int32), (0 : Int32), (0 : Int32)], [(22 : Int32), (21 : Int32), (0 : Int32)]) := by rw [own_q2_1]; decide +kernel
theorem own_l2_1 (fp : Int64) : own_key [(42 : Int32), (0 : Int32), (0 : Int32)] [(22 : Int32), (21 : Int32), (0 : Int32)] fp 2 = (((own_blk fp (3 : Int32) (0 : Int32)) <<< ((own_w (3 : Int32) (2 : Int32)) &&& 0x3f).toInt64) ||| (own_blk fp (3 : Int32) (2 : Int32))) := by
  have N0 : 0 ≤ (fp.toInt % 18446744073709551616) := Int.emod_nonneg _ (by decide)
  have N1 : (fp.toInt % 18446744073709551616) < 18446744073709551616 := Int.emod_lt_of_pos _ (by decide)
  have b0 := own_blkN fp (3 : Int32) (0 : Int32) 42 22 (by decide) (by decide) (by decide) (by decide) 4398046511104 4194304 (by decide) (by decide)
  have b2 := own_blkN fp (3 : Int32) (2 : Int32) 0 21 (by decide) (by decide) (by decide) (by decide) 1 2097152 (by decide) (by decide)
  have k0 := own_cutN fp (42 : Int32) (own_lb (22 : Int32)) 42 22 (by decide) (by decide) (by decide) 4398046511104 4194304 (by decide) (by decide)
  have k1 := own_cutN fp (0 : Int32) (own_lb (21 : Int32)) 0 21 (by decide) (by decide) (by decide) 1 2097152 (by decide) (by decide)
  rw [← Int64.toInt_inj]
  generalize (fp.toInt % 18446744073709551616) = N at *
  have a0 : (0 : Int64).toInt = 0 := rfl
  have y0 := own_catN (0 : Int64) (own_us fp (42 : Int32) &&& own_lb (22 : Int32)) (22 : Int32) 22 (by decide) (by decide) 4194304 (by decide) _ _ a0 k0 (by omega) (by omega) (by omega) (by omega)
  have y1 := own_catN (((0 : Int64) <<< ((22 : Int32) &&& 0x3f).toInt64) ||| (own_us fp (42 : Int32) &&& own_lb (22 : Int32))) (own_us fp (0 : Int32) &&& own_lb (21 : Int32)) (21 : Int32) 21 (by decide) (by decide) 2097152 (by decide) _ _ y0 k1 (by omega) (by omega) (by omega) (by omega)
  have ky : (own_key [(42 : Int32), (0 : Int32), (0 : Int32)] [(22 : Int32), (21 : Int32), (0 : Int32)] fp 2).toInt = _ := y1
  have z2 := own_catN (own_blk fp (3 : Int32) (0 : Int32)) (own_blk fp (3 : Int32) (2 : Int32)) (own_w (3 : Int32) (2 : Int32)) 21 (by decide) (by decide) 2097152 (by decide) _ _ b0 b2 (by omega) (by omega) (by omega) (by omega)
  rw [ky, z2]
  omega
theorem own_q2_2 : own_ch ((3 : Nat).toInt32) (2 : Nat) 2 = [(1 : Int32), (2 : Int32), (0 : Int32)] := by rw [own_ch, own_q2_1]; decide +kernel
theorem own_r2_2 : (own_rs (own_ch ((3 : Nat).toInt32) (2 : Nat) 2) (own_sl ((3 : Nat).toInt32) (3 : Nat)) (own_wl ((3 : Nat).toInt32) (3 : Nat)) (2 : Nat)) = (1, [(0 : Int32), (0 : Int32), (0 : Int32)], [(42 : Int32), (0 : Int32), (0 : Int32)]) := by rw [own_q2_2]; decide +kernel
theorem own_l2_2 (fp : Int64) : own_key [(0 : Int32), (0 : Int32), (0 : Int32)] [(42 : Int32), (0 : Int32), (0 : Int32)] fp 1 = (((own_blk fp (3 : Int32) (1 : Int32)) <<< ((own_w (3 : Int32) (2 : Int32)) &&& 0x3f).toInt64) ||| (own_blk fp (3 : Int32) (2 : Int32))) := by
  have N0 : 0 ≤ (fp.toInt % 18446744073709551616) := Int.emod_nonneg _ (by decide)
  have N1 : (fp.toInt % 18446744073709551616) < 18446744073709551616 := Int.emod_lt_of_pos _ (by decide)
  have b1 := own_blkN fp (3 : Int32) (1 : Int32) 21 21 (by decide) (by decide) (by decide) (by decide) 2097152 2097152 (by decide) (by decide)
  have b2 := own_blkN fp (3 : Int32) (2 : Int32) 0 21 (by decide) (by decide) (by decide) (by decide) 1 2097152 (by decide) (by decide)
  have k0 := own_cutN fp (0 : Int32) (own_lb (42 : Int32)) 0 42 (by decide) (by decide) (by decide) 1 4398046511104 (by decide) (by decide)
  rw [← Int64.toInt_inj]
  generalize (fp.toInt % 18446744073709551616) = N at *
  have a0 : (0 : Int64).toInt = 0 := rfl
  have y0 := own_catN (0 : Int64) (own_us fp (0 : Int32) &&& own_lb (42 : Int32)) (42 : Int32) 42 (by decide) (by decide) 4398046511104 (by decide) _ _ a0 k0 (by omega) (by omega) (by omega) (by omega)
  have ky : (own_key [(0 : Int32), (0 : Int32), (0 : Int32)] [(42 : Int32), (0 : Int32), (0 : Int32)] fp 1).toInt = _ := y0
  have z2 := own_catN (own_blk fp (3 : Int32) (1 : Int32)) (own_blk fp (3 : Int32) (2 : Int32)) (own_w (3 : Int32) (2 : Int32)) 21 (by decide) (by decide) 2097152 (by decide) _ _ b1 b2 (by omega) (by omega) (by omega) (by omega)
  rw [ky, z2]
  omega
theorem own_good2 : ∀ z, z < (3 : Nat) → (∀ i, i < (2 : Nat) → ¬ (own_ch ((3 : Nat).toInt32) (2 : Nat) z).getD i 0 < (0 : Int32) ∧ (own_ch ((3 : Nat).toInt32) (2 : Nat) z).getD i 0 < ((3 : Nat).toInt32)) ∧ ¬ own_bc (own_km (own_ml ((3 : Nat).toInt32) (3 : Nat)) (own_ch ((3 : Nat).toInt32) (2 : Nat) z) (2 : Nat)) < (0 : Int32) ∧ (own_bc (own_km (own_ml ((3 : Nat).toInt32) (3 : Nat)) (own_ch ((3 : Nat).toInt32) (2 : Nat) z) (2 : Nat))).toNatClampNeg ≤ 64 := by
  intro z hz
  rcases (by omega : z = 0 ∨ z = 1 ∨ z = 2) with rfl | rfl | rfl
  · rw [own_q2_0]; decide +kernel
  · rw [own_q2_1]; decide +kernel
  · rw [own_q2_2]; decide +kernel
theorem own_law2 (tt : Nat) (qf : Int64) (htt : tt < 3) : own_key (own_rs (own_ch ((3 : Nat).toInt32) (2 : Nat) tt) (own_sl ((3 : Nat).toInt32) (3 : Nat)) (own_wl ((3 : Nat).toInt32) (3 : Nat)) (2 : Nat)).2.1 (own_rs (own_ch ((3 : Nat).toInt32) (2 : Nat) tt) (own_sl ((3 : Nat).toInt32) (3 : Nat)) (own_wl ((3 : Nat).toInt32) (3 : Nat)) (2 : Nat)).2.2 qf (own_rs (own_ch ((3 : Nat).toInt32) (2 : Nat) tt) (own_sl ((3 : Nat).toInt32) (3 : Nat)) (own_wl ((3 : Nat).toInt32) (3 : Nat)) (2 : Nat)).1 = own_exp qf ((3 : Nat).toInt32) own_A2 own_B2 own_C2 tt := by
  rcases (by omega : tt = 0 ∨ tt = 1 ∨ tt = 2) with rfl | rfl | rfl
  · unfold own_exp; rw [own_r2_0, if_pos (by decide), if_neg (by decide)]; exact own_l2_0 qf
  · unfold own_exp; rw [own_r2_1, if_pos (by decide), if_neg (by decide)]; exact own_l2_1 qf
  · unfold own_exp; rw [own_r2_2, if_pos (by decide), if_neg (by decide)]; exact own_l2_2 qf
def own_A3 : List Int32 := [(0 : Int32), (0 : Int32), (0 : Int32), (1 : Int32), (1 : Int32), (2 : Int32)]
def own_B3 : List Int32 := [(1 : Int32), (2 : Int32), (3 : Int32), (2 : Int32), (3 : Int32), (3 : Int32)]
def own_C3 : List Int32 := [(-1 : Int32), (-1 : Int32), (-1 : Int32), (-1 : Int32), (-1 : Int32), (-1 : Int32)]
theorem own_q3_0 : own_ch ((4 : Nat).toInt32) (2 : Nat) 0 = [(0 : Int32), (1 : Int32), (0 : Int32)] := by decide +kernel
theorem own_r3_0 : (own_rs (own_ch ((4 : Nat).toInt32) (2 : Nat) 0) (own_sl ((4 : Nat).toInt32) (4 : Nat)) (own_wl ((4 : Nat).toInt32) (4 : Nat)) (2 : Nat)) = (1, [(32 : Int32), (0 : Int32), (0 : Int32)], [(32 : Int32), (0 : Int32), (0 : Int32)]) := by rw [own_q3_0]; decide +kernel
theorem own_l3_0 (fp : Int64) : own_key [(32 : Int32), (0 : Int32), (0 : Int32)] [(32 : Int32), (0 : Int32), (0 : Int32)] fp 1 = (((own_blk fp (4 : Int32) (0 : Int32)) <<< ((own_w (4 : Int32) (1 : Int32)) &&& 0x3f).toInt64) ||| (own_blk fp (4 : Int32) (1 : Int32))) := by
  have N0 : 0 ≤ (fp.toInt % 18446744073709551616) := Int.emod_nonneg _ (by decide)
  have N1 : (fp.toInt % 18446744073709551616) < 18446744073709551616 := Int.emod_lt_of_pos _ (by decide)
  have b0 := own_blkN fp (4 : Int32) (0 : Int32) 48 16 (by decide) (by decide) (by decide) (by decide) 281474976710656 65536 (by decide) (by decide)
  have b1 := own_blkN fp (4 : Int32) (1 : Int32) 32 16 (by decide) (by decide) (by decide) (by decide) 4294967296 65536 (by decide) (by decide)
  have k0 := own_cutN fp (32 : Int32) (own_lb (32 : Int32)) 32 32 (by decide) (by decide) (by decide) 4294967296 4294967296 (by decide) (by decide)
  rw [← Int64.toInt_inj]
  generalize (fp.toInt % 18446744073709551616) = N at *
  have a0 : (0 : Int64).toInt = 0 := rfl
  have y0 := own_catN (0 : Int64) (own_us fp (32 : Int32) &&& own_lb (32 : Int32)) (32 : Int32) 32 (by decide) (by decide) 4294967296 (by decide) _ _ a0 k0 (by omega) (by omega) (by omega) (by omega)
  have ky : (own_key [(32 : Int32), (0 : Int32), (0 : Int32)] [(32 : Int32), (0 : Int32), (0 : Int32)] fp 1).toInt = _ := y0
  have z1 := own_catN (own_blk fp (4 : Int32) (0 : Int32)) (own_blk fp (4 : Int32) (1 : Int32)) (own_w (4 : Int32) (1 : Int32)) 16 (by decide) (by decide) 65536 (by decide) _ _ b0 b1 (by omega) (by omega) (by omega) (by omega)
  rw [ky, z1]
  omega
theorem own_q3_1 : own_ch ((4 : Nat).toInt32) (2 : Nat) 1 = [(0 : Int32), (2 : Int32), (0 : Int32)] := by rw [own_ch, own_q3_0]; decide +kernel
theorem own_r3_1 : (own_rs (own_ch ((4 : Nat).toInt32) (2 : Nat) 1) (own_sl ((4 : Nat).toInt32) (4 : Nat)) (own_wl ((4 : Nat).toInt32) (4 : Nat)) (2 : Nat)) = (2, [(48 : Int32), (16 : Int32), (0 : Int32)], [(16 : Int32), (16 : Int32), (0 : Int32)]) := by rw [own_q3_1]; decide +kernel
theorem own_l3_1 (fp : Int64) : own_key [(48 : Int32), (16 : Int32), (0 : Int32)] [(16 : Int32), (16 : Int32), (0 : Int32)] fp 2 = (((own_blk fp (4 : Int32) (0 : Int32)) <<< ((own_w (4 : Int32) (2 : Int32)) &&& 0x3f).toInt64) ||| (own_blk fp (4 : Int32) (2 : Int32))) := by
  have N0 : 0 ≤ (fp.toInt % 18446744073709551616) := Int.emod_nonneg _ (by decide)
  have N1 : (fp.toInt % 18446744073709551616) < 18446744073709551616 := Int.emod_lt_of_pos _ (by decide)
  have b0 := own_blkN fp (4 : Int32) (0 : Int32) 48 16 (by decide) (by decide) (by decide) (by decide) 281474976710656 65536 (by decide) (by decide)
  have b2 := own_blkN fp (4 : Int32) (2 : Int32) 16 16 (by decide) (by decide) (by decide) (by decide) 65536 65536 (by decide) (by decide)
  have k0 := own_cutN fp (48 : Int32) (own_lb (16 : Int32)) 48 16 (by decide) (by decide) (by decide) 281474976710656 65536 (by decide) (by decide)
  have k1 := own_cutN fp (16 : Int32) (own_lb (16 : Int32)) 16 16 (by decide) (by decide) (by decide) 65536 65536 (by decide) (by decide)
  rw [← Int64.toInt_inj]
  generalize (fp.toInt % 18446744073709551616) = N at *
  have a0 : (0 : Int64).toInt = 0 := rfl
  have y0 := own_catN (0 : Int64) (own_us fp (48 : Int32) &&& own_lb (16 : Int32)) (16 : Int32) 16 (by decide) (by decide) 65536 (by decide) _ _ a0 k0 (by omega) (by omega) (by omega) (by omega)
  have y1 := own_catN (((0 : Int64) <<< ((16 : Int32) &&& 0x3f).toInt64) ||| (own_us fp (48 : Int32) &&& own_lb (16 : Int32))) (own_us fp (16 : Int32) &&& own_lb (16 : Int32)) (16 : Int32) 16 (by decide) (by decide) 65536 (by decide) _ _ y0 k1 (by omega) (by omega) (by omega) (by omega)
  have ky : (own_key [(48 : Int32), (16 : Int32), (0 : Int32)] [(16 : Int32), (16 : Int32), (0 : Int32)] fp 2).toInt = _ := y1
  have z2 := own_catN (own_blk fp (4 : Int32) (0 : Int32)) (own_blk fp (4 : Int32) (2 : Int32)) (own_w (4 : Int32) (2 : Int32)) 16 (by decide) (by decide) 65536 (by decide) _ _ b0 b2 (by omega) (by omega) (by omega) (by omega)
  rw [ky, z2]
  omega
theorem own_q3_2 : own_ch ((4 : Nat).toInt32) (2 : Nat) 2 = [(0 : Int32), (3 : Int32), (0 : Int32)] := by rw [own_ch, own_q3_1]; decide +kernel
theorem own_r3_2 : (own_rs (own_ch ((4 : Nat).toInt32) (2 : Nat) 2) (own_sl ((4 : Nat).toInt32) (4 : Nat)) (own_wl ((4 : Nat).toInt32) (4 : Nat)) (2 : Nat)) = (2, [(48 : Int32), (0 : Int32), (0 : Int32)], [(16 : Int32), (16 : Int32), (0 : Int32)]) := by rw [own_q3_2]; decide +kernel
theorem own_l3_2 (fp : Int64) : own_key [(48 : Int32), (0 : Int32), (0 : Int32)] [(16 : Int32), (16 : Int32), (0 : Int32)] fp 2 = (((own_blk fp (4 : Int32) (0 : Int32)) <<< ((own_w (4 : Int32) (3 : Int32)) &&& 0x3f).toInt64) ||| (own_blk fp (4 : Int32) (3 : Int32))) := by
  have N0 : 0 ≤ (fp.toInt % 18446744073709551616) := Int.emod_nonneg _ (by decide)
  have N1 : (fp.toInt % 18446744073709551616) < 18446744073709551616 := Int.emod_lt_of_pos _ (by decide)
  have b0 := own_blkN fp (4 : Int32) (0 : Int32) 48 16 (by decide) (by decide) (by decide) (by decide) 281474976710656 65536 (by decide) (by decide)
  have b3 := own_blkN fp (4 : Int32) (3 : Int32) 0 16 (by decide) (by decide) (by decide) (by decide) 1 65536 (by decide) (by decide)
  have k0 := own_cutN fp (48 : Int32) (own_lb (16 : Int32)) 48 16 (by decide) (by decide) (by decide) 281474976710656 65536 (by decide) (by decide)
  have k1 := own_cutN fp (0 : Int32) (own_lb (16 : Int32)) 0 16 (by decide) (by decide) (by decide) 1 65536 (by decide) (by decide)
  rw [← Int64.toInt_inj]
  generalize (fp.toInt % 18446744073709551616) = N at *
  have a0 : (0 : Int64).toInt = 0 := rfl
  have y0 := own_catN (0 : Int64) (own_us fp (48 : Int32) &&& own_lb (16 : Int32)) (16 : Int32) 16 (by decide) (by decide) 65536 (by decide) _ _ a0 k0 (by omega) (by omega) (by omega) (by omega)
  have y1 := own_catN (((0 : Int64) <<< ((16 : Int32) &&& 0x3f).toInt64) ||| (own_us fp (48 : Int32) &&& own_lb (16 : Int32))) (own_us fp (0 : Int32) &&& own_lb (16 : Int32)) (16 : Int32) 16 (by decide) (by decide) 65536 (by decide) _ _ y0 k1 (by omega) (by omega) (by omega) (by omega)
  have ky : (own_key [(48 : Int32), (0 : Int32), (0 : Int32)] [(16 : Int32), (16 : Int32), (0 : Int32)] fp 2).toInt = _ := y1
  have z3 := own_catN (own_blk fp (4 : Int32) (0 : Int32)) (own_blk fp (4 : Int32) (3 : Int32)) (own_w (4 : Int32) (3 : Int32)) 16 (by decide) (by decide) 65536 (by decide) _ _ b0 b3 (by omega) (by omega) (by omega) (by omega)
  rw [ky, z3]
  omega
theorem own_q3_3 : own_ch ((4 : Nat).toInt32) (2 : Nat) 3 = [(1 : Int32), (2 : Int32), (0 : Int32)] := by rw [own_ch, own_q3_2]; decide +kernel
theorem own_r3_3 : (own_rs (own_ch ((4 : Nat).toInt32) (2 : Nat) 3) (own_sl ((4 : Nat).toInt32) (4 : Nat)) (own_wl ((4 : Nat).toInt32) (4 : Nat)) (2 : Nat)) = (1, [(16 : Int32), (0 : Int32), (0 : Int32)], [(32 : Int32), (0 : Int32), (0 : Int32)]) := by rw [own_q3_3]; decide +kernel
theorem own_l3_3 (fp : Int64) : own_key [(16 : Int32), (0 : Int32), (0 : Int32)] [(32 : Int32), (0 : Int32), (0 : Int32)] fp 1 = (((own_blk fp (4 : Int32) (1 : Int32)) <<< ((own_w (4 : Int32) (2 : Int32)) &&& 0x3f).toInt64) ||| (own_blk fp (4 : Int32) (2 : Int32))) := by
  have N0 : 0 ≤ (fp.toInt % 18446744073709551616) := Int.emod_nonneg _ (by decide)
  have N1 : (fp.toInt % 18446744073709551616) < 18446744073709551616 := Int.emod_lt_of_pos _ (by decide)
  have b1 := own_blkN fp (4 : Int32) (1 : Int32) 32 16 (by decide) (by decide) (by decide) (by decide) 4294967296 65536 (by decide) (by decide)
  have b2 := own_blkN fp (4 : Int32) (2 : Int32) 16 16 (by decide) (by decide) (by decide) (by decide) 65536 65536 (by decide) (by decide)
  have k0 := own_cutN fp (16 : Int32) (own_lb (32 : Int32)) 16 32 (by decide) (by decide) (by decide) 65536 4294967296 (by decide) (by decide)
  rw [← Int64.toInt_inj]
  generalize (fp.toInt % 18446744073709551616) = N at *
  have a0 : (0 : Int64).toInt = 0 := rfl
  have y0 := own_catN (0 : Int64) (own_us fp (16 : Int32) &&& own_lb (32 : Int32)) (32 : Int32) 32 (by decide) (by decide) 4294967296 (by decide) _ _ a0 k0 (by omega) (by omega) (by omega) (by omega)
  have ky : (own_key [(16 : Int32), (0 : Int32), (0 : Int32)] [(32 : Int32), (0 : Int32), (0 : Int32)] fp 1).toInt = _ := y0
  have z2 := own_catN (own_blk fp (4 : Int32) (1 : Int32)) (own_blk fp (4 : Int32) (2 : Int32)) (own_w (4 : Int32) (2 : Int32)) 16 (by decide) (by decide) 65536 (by decide) _ _ b1 b2 (by omega) (by omega) (by omega) (by omega)
  rw [ky, z2]
  omega
theorem own_q3_4 : own_ch ((4 : Nat).toInt32) (2 : Nat) 4 = [(1 : Int32), (3 : Int32), (0 : Int32)] := by rw [own_ch, own_q3_3]; decide +kernel
theorem own_r3_4 : (own_rs (own_ch ((4 : Nat).toInt32) (2 : Nat) 4) (own_sl ((4 : Nat).toInt32) (4 : Nat)) (own_wl ((4 : Nat).toInt32) (4 : Nat)) (2 : Nat)) = (2, [(32 : Int32), (0 : Int32), (0 : Int32)], [(16 : Int32), (16 : Int32), (0 : Int32)]) := by rw [own_q3_4]; decide +kernel
theorem own_l3_4 (fp : Int64) : own_key [(32 : Int32), (0 : Int32), (0 : Int32)] [(16 : Int32), (16 : Int32), (0 : Int32)] fp 2 = (((own_blk fp (4 : Int32) (1 : Int32)) <<< ((own_w (4 : Int32) (3 : Int32)) &&& 0x3f).toInt64) ||| (own_blk fp (4 : Int32) (3 : Int32))) := by
  have N0 : 0 ≤ (fp.toInt % 18446744073709551616) := Int.emod_nonneg _ (by decide)
  have N1 : (fp.toInt % 18446744073709551616) < 18446744073709551616 := Int.emod_lt_of_pos _ (by decide)
  have b1 := own_blkN fp (4 : Int32) (1 : Int32) 32 16 (by decide) (by decide) (by decide) (by decide) 4294967296 65536 (by decide) (by decide)
  have b3 := own_blkN fp (4 : Int32) (3 : Int32) 0 16 (by decide) (by decide) (by decide) (by decide) 1 65536 (by decide) (by decide)
  have k0 := own_cutN fp (32 : Int32) (own_lb (16 : Int32)) 32 16 (by decide) (by decide) (by decide) 4294967296 65536 (by decide) (by decide)
  have k1 := own_cutN fp (0 : Int32) (own_lb (16 : Int32)) 0 16 (by decide) (by decide) (by decide) 1 65536 (by decide) (by decide)
  rw [← Int64.toInt_inj]
  generalize (fp.toInt % 18446744073709551616) = N at *
  have a0 : (0 : Int64).toInt = 0 := rfl
  have y0 := own_catN (0 : Int64) (own_us fp (32 : Int32) &&& own_lb (16 : Int32)) (16 : Int32) 16 (by decide) (by decide) 65536 (by decide) _ _ a0 k0 (by omega) (by omega) (by omega) (by omega)
  have y1 := own_catN (((0 : Int64) <<< ((16 : Int32) &&& 0x3f).toInt64) ||| (own_us fp (32 : Int32) &&& own_lb (16 : Int32))) (own_us fp (0 : Int32) &&& own_lb (16 : Int32)) (16 : Int32) 16 (by decide) (by decide) 65536 (by decide) _ _ y0 k1 (by omega) (by omega) (by omega) (by omega)
  have ky : (own_key [(32 : Int32), (0 : Int32), (0 : Int32)] [(16 : Int32), (16 : Int32), (0 : Int32)] fp 2).toInt = _ := y1
  have z3 := own_catN (own_blk fp (4 : Int32) (1 : Int32)) (own_blk fp (4 : Int32) (3 : Int32)) (own_w (4 : Int32) (3 : Int32)) 16 (by decide) (by decide) 65536 (by decide) _ _ b1 b3 (by omega) (by omega) (by omega) (by omega)
  rw [ky, z3]
  omega
theorem own_q3_5 : own_ch ((4 : Nat).toInt32) (2 : Nat) 5 = [(2 : Int32), (3 : Int32), (0 : Int32)] := by rw [own_ch, own_q3_4]; decide +kernel
theorem own_r3_5 : (own_rs (own_ch ((4 : Nat).toInt32) (2 : Nat) 5) (own_sl ((4 : Nat).toInt32) (4 : Nat)) (own_wl ((4 : Nat).toInt32) (4 : Nat)) (2 : Nat)) = (1, [(0 : Int32), (0 : Int32), (0 : Int32)], [(32 : Int32), (0 : Int32), (0 : Int32)]) := by rw [own_q3_5]; decide +kernel
theorem own_l3_5 (fp : Int64) : own_key [(0 : Int32), (0 : Int32), (0 : Int32)] [(32 : Int32), (0 : Int32), (0 : Int32)] fp 1 = (((own_blk fp (4 : Int32) (2 : Int32)) <<< ((own_w (4 : Int32) (3 : Int32)) &&& 0x3f).toInt64) ||| (own_blk fp (4 : Int32) (3 : Int32))) := by
  have N0 : 0 ≤ (fp.toInt % 18446744073709551616) := Int.emod_nonneg _ (by decide)
  have N1 : (fp.toInt % 18446744073709551616) < 18446744073709551616 := Int.emod_lt_of_pos _ (by decide)
  have b2 := own_blkN fp (4 : Int32) (2 : Int32) 16 16 (by decide) (by decide) (by decide) (by decide) 65536 65536 (by decide) (by decide)
  have b3 := own_blkN fp (4 : Int32) (3 : Int32) 0 16 (by decide) (by decide) (by decide) (by decide) 1 65536 (by decide) (by decide)
  have k0 := own_cutN fp (0 : Int32) (own_lb (32 : Int32)) 0 32 (by decide) (by decide) (by decide) 1 4294967296 (by decide) (by decide)
  rw [← Int64.toInt_inj]
  generalize (fp.toInt % 18446744073709551616) = N at *
  have a0 : (0 : Int64).toInt = 0 := rfl
  have y0 := own_catN (0 : Int64) (own_us fp (0 : Int32) &&& own_lb (32 : Int32)) (32 : Int32) 32 (by decide) (by decide) 4294967296 (by decide) _ _ a0 k0 (by omega) (by omega) (by omega) (by omega)
  have ky : (own_key [(0 : Int32), (0 : Int32), (0 : Int32)] [(32 : Int32), (0 : Int32), (0 : Int32)] fp 1).toInt = _ := y0
  have z3 := own_catN (own_blk fp (4 : Int32) (2 : Int32)) (own_blk fp (4 : Int32) (3 : Int32)) (own_w (4 : Int32) (3 : Int32)) 16 (by decide) (by decide) 65536 (by decide) _ _ b2 b3 (by omega) (by omega) (by omega) (by omega)
  rw [ky, z3]
  omega
theorem own_good3 : ∀ z, z < (6 : Nat) → (∀ i, i < (2 : Nat) → ¬ (own_ch ((4 : Nat).toInt32) (2 : Nat) z).getD i 0 < (0 : Int32) ∧ (own_ch ((4 : Nat).toInt32) (2 : Nat) z).getD i 0 < ((4 : Nat).toInt32)) ∧ ¬ own_bc (own_km (own_ml ((4 : Nat).toInt32) (4 : Nat)) (own_ch ((4 : Nat).toInt32) (2 : Nat) z) (2 : Nat)) < (0 : Int32) ∧ (own_bc (own_km (own_ml ((4 : Nat).toInt32) (4 : Nat)) (own_ch ((4 : Nat).toInt32) (2 : Nat) z) (2 : Nat))).toNatClampNeg ≤ 64 := by
  intro z hz
  rcases (by omega : z = 0 ∨ z = 1 ∨ z = 2 ∨ z = 3 ∨ z = 4 ∨ z = 5) with rfl | rfl | rfl | rfl | rfl | rfl
  · rw [own_q3_0]; decide +kernel
  · rw [own_q3_1]; decide +kernel
  · rw [own_q3_2]; decide +kernel
  · rw [own_q3_3]; decide +kernel
  · rw [own_q3_4]; decide +kernel
  · rw [own_q3_5]; decide +kernel
theorem own_law3 (tt : Nat) (qf : Int64) (htt : tt < 6) : own_key (own_rs (own_ch ((4 : Nat).toInt32) (2 : Nat) tt) (own_sl ((4 : Nat).toInt32) (4 : Nat)) (own_wl ((4 : Nat).toInt32) (4 : Nat)) (2 : Nat)).2.1 (own_rs (own_ch ((4 : Nat).toInt32) (2 : Nat) tt) (own_sl ((4 : Nat).toInt32) (4 : Nat)) (own_wl ((4 : Nat).toInt32) (4 : Nat)) (2 : Nat)).2.2 qf (own_rs (own_ch ((4 : Nat).toInt32) (2 : Nat) tt) (own_sl ((4 : Nat).toInt32) (4 : Nat)) (own_wl ((4 : Nat).toInt32) (4 : Nat)) (2 : Nat)).1 = own_exp qf ((4 : Nat).toInt32) own_A3 own_B3 own_C3 tt := by
  rcases (by omega : tt = 0 ∨ tt = 1 ∨ tt = 2 ∨ tt = 3 ∨ tt = 4 ∨ tt = 5) with rfl | rfl | rfl | rfl | rfl | rfl
  · unfold own_exp; rw [own_r3_0, if_pos (by decide), if_neg (by decide)]; exact own_l3_0 qf
  · unfold own_exp; rw [own_r3_1, if_pos (by decide), if_neg (by decide)]; exact own_l3_1 qf
  · unfold own_exp; rw [own_r3_2, if_pos (by decide), if_neg (by decide)]; exact own_l3_2 qf
  · unfold own_exp; rw [own_r3_3, if_pos (by decide), if_neg (by decide)]; exact own_l3_3 qf
  · unfold own_exp; rw [own_r3_4, if_pos (by decide), if_neg (by decide)]; exact own_l3_4 qf
  · unfold own_exp; rw [own_r3_5, if_pos (by decide), if_neg (by decide)]; exact own_l3_5 qf
def own_A4 : List Int32 := [(0 : Int32), (0 : Int32), (0 : Int32), (0 : Int32), (0 : Int32), (0 : Int32), (1 : Int32), (1 : Int32), (1 : Int32), (2 : Int32)]
def own_B4 : List Int32 := [(1 : Int32), (1 : Int32), (1 : Int32), (2 : Int32), (2 : Int32), (3 : Int32), (2 : Int32), (2 : Int32), (3 : Int32), (3 : Int32)]
def own_C4 : List Int32 := [(2 : Int32), (3 : Int32), (4 : Int32), (3 : Int32), (4 : Int32), (4 : Int32), (3 : Int32), (4 : Int32), (4 : Int32), (4 : Int32)]
theorem own_q4_0 : own_ch ((5 : Nat).toInt32) (3 : Nat) 0 = [(0 : Int32), (1 : Int32), (2 : Int32)] := by decide +kernel
theorem own_r4_0 : (own_rs (own_ch ((5 : Nat).toInt32) (3 : Nat) 0) (own_sl ((5 : Nat).toInt32) (5 : Nat)) (own_wl ((5 : Nat).toInt32) (5 : Nat)) (3 : Nat)) = (1, [(25 : Int32), (0 : Int32), (0 : Int32)], [(39 : Int32), (0 : Int32), (0 : Int32)]) := by rw [own_q4_0]; decide +kernel
theorem own_l4_0 (fp : Int64) : own_key [(25 : Int32), (0 : Int32), (0 : Int32)] [(39 : Int32), (0 : Int32), (0 : Int32)] fp 1 = (((((own_blk fp (5 : Int32) (0 : Int32)) <<< ((own_w (5 : Int32) (1 : Int32)) &&& 0x3f).toInt64) ||| (own_blk fp (5 : Int32) (1 : Int32))) <<< ((own_w (5 : Int32) (2 : Int32)) &&& 0x3f).toInt64) ||| (own_blk fp (5 : Int32) (2 : Int32))) := by
  have N0 : 0 ≤ (fp.toInt % 18446744073709551616) := Int.emod_nonneg _ (by decide)
  have N1 : (fp.toInt % 18446744073709551616) < 18446744073709551616 := Int.emod_lt_of_pos _ (by decide)
  have b0 := own_blkN fp (5 : Int32) (0 : Int32) 51 13 (by decide) (by decide) (by decide) (by decide) 2251799813685248 8192 (by decide) (by decide)
  have b1 := own_blkN fp (5 : Int32) (1 : Int32) 38 13 (by decide) (by decide) (by decide) (by decide) 274877906944 8192 (by decide) (by decide)
  have b2 := own_blkN fp (5 : Int32) (2 : Int32) 25 13 (by decide) (by decide) (by decide) (by decide) 33554432 8192 (by decide) (by decide)
  have k0 := own_cutN fp (25 : Int32) (own_lb (39 : Int32)) 25 39 (by decide) (by decide) (by decide) 33554432 549755813888 (by decide) (by decide)
  rw [← Int64.toInt_inj]
  generalize (fp.toInt % 18446744073709551616) = N at *
  have a0 : (0 : Int64).toInt = 0 := rfl
  have y0 := own_catN (0 : Int64) (own_us fp (25 : Int32) &&& own_lb (39 : Int32)) (39 : Int32) 39 (by decide) (by decide) 549755813888 (by decide) _ _ a0 k0 (by omega) (by omega) (by omega) (by omega)
  have ky : (own_key [(25 : Int32), (0 : Int32), (0 : Int32)] [(39 : Int32), (0 : Int32), (0 : Int32)] fp 1).toInt = _ := y0
  have z1 := own_catN (own_blk fp (5 : Int32) (0 : Int32)) (own_blk fp (5 : Int32) (1 : Int32)) (own_w (5 : Int32) (1 : Int32)) 13 (by decide) (by decide) 8192 (by decide) _ _ b0 b1 (by omega) (by omega) (by omega) (by omega)
  have z2 := own_catN (((own_blk fp (5 : Int32) (0 : Int32)) <<< ((own_w (5 : Int32) (1 : Int32)) &&& 0x3f).toInt64) ||| (own_blk fp (5 : Int32) (1 : Int32))) (own_blk fp (5 : Int32) (2 : Int32)) (own_w (5 : Int32) (2 : Int32)) 13 (by decide) (by decide) 8192 (by decide) _ _ z1 b2 (by omega) (by omega) (by omega) (by omega)
  rw [ky, z2]
  omega
theorem own_q4_1 : own_ch ((5 : Nat).toInt32) (3 : Nat) 1 = [(0 : Int32), (1 : Int32), (3 : Int32)] := by rw [own_ch, own_q4_0]; decide +kernel
theorem own_r4_1 : (own_rs (own_ch ((5 : Nat).toInt32) (3 : Nat) 1) (own_sl ((5 : Nat).toInt32) (5 : Nat)) (own_wl ((5 : Nat).toInt32) (5 : Nat)) (3 : Nat)) = (2, [(38 : Int32), (12 : Int32), (0 : Int32)], [(26 : Int32), (13 : Int32), (0 : Int32)]) := by rw [own_q4_1]; decide +kernel
theorem own_l4_1 (fp : Int64) : own_key [(38 : Int32), (12 : Int32), (0 : Int32)] [(26 : Int32), (13 : Int32), (0 : Int32)] fp 2 = (((((own_blk fp (5 : Int32) (0 : Int32)) <<< ((own_w (5 : Int32) (1 : Int32)) &&& 0x3f).toInt64) ||| (own_blk fp (5 : Int32) (1 : Int32))) <<< ((own_w (5 : Int32) (3 : Int32)) &&& 0x3f).toInt64) ||| (own_blk fp (5 : Int32) (3 : Int32))) := by
  have N0 : 0 ≤ (fp.toInt % 18446744073709551616) := Int.emod_nonneg _ (by decide)
  have N1 : (fp.toInt % 18446744073709551616) < 18446744073709551616 := Int.emod_lt_of_pos _ (by decide)
  have b0 := own_blkN fp (5 : Int32) (0 : Int32) 51 13 (by decide) (by decide) (by decide) (by decide) 2251799813685248 8192 (by decide) (by decide)
  have b1 := own_blkN fp (5 : Int32) (1 : Int32) 38 13 (by decide) (by decide) (by decide) (by decide) 274877906944 8192 (by decide) (by decide)
  have b3 := own_blkN fp (5 : Int32) (3 : Int32) 12 13 (by decide) (by decide) (by decide) (by decide) 4096 8192 (by decide) (by decide)
  have k0 := own_cutN fp (38 : Int32) (own_lb (26 : Int32)) 38 26 (by decide) (by decide) (by decide) 274877906944 67108864 (by decide) (by decide)
  have k1 := own_cutN fp (12 : Int32) (own_lb (13 : Int32)) 12 13 (by decide) (by decide) (by decide) 4096 8192 (by decide) (by decide)
  rw [← Int64.toInt_inj]
  generalize (fp.toInt % 18446744073709551616) = N at *
  have a0 : (0 : Int64).toInt = 0 := rfl
  have y0 := own_catN (0 : Int64) (own_us fp (38 : Int32) &&& own_lb (26 : Int32)) (26 : Int32) 26 (by decide) (by decide) 67108864 (by decide) _ _ a0 k0 (by omega) (by omega) (by omega) (by omega)
  have y1 := own_catN (((0 : Int64) <<< ((26 : Int32) &&& 0x3f).toInt64) ||| (own_us fp (38 : Int32) &&& own_lb (26 : Int32))) (own_us fp (12 : Int32) &&& own_lb (13 : Int32)) (13 : Int32) 13 (by decide) (by decide) 8192 (by decide) _ _ y0 k1 (by omega) (by omega) (by omega) (by omega)
  have ky : (own_key [(38 : Int32), (12 : Int32), (0 : Int32)] [(26 : Int32), (13 : Int32), (0 : Int32)] fp 2).toInt = _ := y1
  have z1 := own_catN (own_blk fp (5 : Int32) (0 : Int32)) (own_blk fp (5 : Int32) (1 : Int32)) (own_w (5 : Int32) (1 : Int32)) 13 (by decide) (by decide) 8192 (by decide) _ _ b0 b1 (by omega) (by omega) (by omega) (by omega)
  have z3 := own_catN (((own_blk fp (5 : Int32) (0 : Int32)) <<< ((own_w (5 : Int32) (1 : Int32)) &&& 0x3f).toInt64) ||| (own_blk fp (5 : Int32) (1 : Int32))) (own_blk fp (5 : Int32) (3 : Int32)) (own_w (5 : Int32) (3 : Int32)) 13 (by decide) (by decide) 8192 (by decide) _ _ z1 b3 (by omega) (by omega) (by omega) (by omega)
  rw [ky, z3]
  omega
theorem own_q4_2 : own_ch ((5 : Nat).toInt32) (3 : Nat) 2 = [(0 : Int32), (1 : Int32), (4 : Int32)] := by rw [own_ch, own_q4_1]; decide +kernel
theorem own_r4_2 : (own_rs (own_ch ((5 : Nat).toInt32) (3 : Nat) 2) (own_sl ((5 : Nat).toInt32) (5 : Nat)) (own_wl ((5 : Nat).toInt32) (5 : Nat)) (3 : Nat)) = (2, [(38 : Int32), (0 : Int32), (0 : Int32)], [(26 : Int32), (12 : Int32), (0 : Int32)]) := by rw [own_q4_2]; decide +kernel
theorem own_l4_2 (fp : Int64) : own_key [(38 : Int32), (0 : Int32), (0 : Int32)] [(26 : Int32), (12 : Int32), (0 : Int32)] fp 2 = (((((own_blk fp (5 : Int32) (0 : Int32)) <<< ((own_w (5 : Int32) (1 : Int32)) &&& 0x3f).toInt64) ||| (own_blk fp (5 : Int32) (1 : Int32))) <<< ((own_w (5 : Int32) (4 : Int32)) &&& 0x3f).toInt64) ||| (own_blk fp (5 : Int32) (4 : Int32))) := by
  have N0 : 0 ≤ (fp.toInt % 18446744073709551616) := Int.emod_nonneg _ (by decide)
  have N1 : (fp.toInt % 18446744073709551616) < 18446744073709551616 := Int.emod_lt_of_pos _ (by decide)
  have b0 := own_blkN fp (5 : Int32) (0 : Int32) 51 13 (by decide) (by decide) (by decide) (by decide) 2251799813685248 8192 (by decide) (by decide)
  have b1 := own_blkN fp (5 : Int32) (1 : Int32) 38 13 (by decide) (by decide) (by decide) (by decide) 274877906944 8192 (by decide) (by decide)
  have b4 := own_blkN fp (5 : Int32) (4 : Int32) 0 12 (by decide) (by decide) (by decide) (by decide) 1 4096 (by decide) (by decide)
  have k0 := own_cutN fp (38 : Int32) (own_lb (26 : Int32)) 38 26 (by decide) (by decide) (by decide) 274877906944 67108864 (by decide) (by decide)
  have k1 := own_cutN fp (0 : Int32) (own_lb (12 : Int32)) 0 12 (by decide) (by decide) (by decide) 1 4096 (by decide) (by decide)
  rw [← Int64.toInt_inj]
  generalize (fp.toInt % 18446744073709551616) = N at *
  have a0 : (0 : Int64).toInt = 0 := rfl
  have y0 := own_catN (0 : Int64) (own_us fp (38 : Int32) &&& own_lb (26 : Int32)) (26 : Int32) 26 (by decide) (by decide) 67108864 (by decide) _ _ a0 k0 (by omega) (by omega) (by omega) (by omega)
  have y1 := own_catN (((0 : Int64) <<< ((26 : Int32) &&& 0x3f).toInt64) ||| (own_us fp (38 : Int32) &&& own_lb (26 : Int32))) (own_us fp (0 : Int32) &&& own_lb (12 : Int32)) (12 : Int32) 12 (by decide) (by decide) 4096 (by decide) _ _ y0 k1 (by omega) (by omega) (by omega) (by omega)
  have ky : (own_key [(38 : Int32), (0 : Int32), (0 : Int32)] [(26 : Int32), (12 : Int32), (0 : Int32)] fp 2).toInt = _ := y1
  have z1 := own_catN (own_blk fp (5 : Int32) (0 : Int32)) (own_blk fp (5 : Int32) (1 : Int32)) (own_w (5 : Int32) (1 : Int32)) 13 (by decide) (by decide) 8192 (by decide) _ _ b0 b1 (by omega) (by omega) (by omega) (by omega)
  have z4 := own_catN (((own_blk fp (5 : Int32) (0 : Int32)) <<< ((own_w (5 : Int32) (1 : Int32)) &&& 0x3f).toInt64) ||| (own_blk fp (5 : Int32) (1 : Int32))) (own_blk fp (5 : Int32) (4 : Int32)) (own_w (5 : Int32) (4 : Int32)) 12 (by decide) (by decide) 4096 (by decide) _ _ z1 b4 (by omega) (by omega) (by omega) (by omega)
  rw [ky, z4]
  omega
theorem own_q4_3 : own_ch ((5 : Nat).toInt32) (3 : Nat) 3 = [(0 : Int32), (2 : Int32), (3 : Int32)] := by rw [own_ch, own_q4_2]; decide +kernel
theorem own_r4_3 : (own_rs (own_ch ((5 : Nat).toInt32) (3 : Nat) 3) (own_sl ((5 : Nat).toInt32) (5 : Nat)) (own_wl ((5 : Nat).toInt32) (5 : Nat)) (3 : Nat)) = (2, [(51 : Int32), (12 : Int32), (0 : Int32)], [(13 : Int32), (26 : Int32), (0 : Int32)]) := by rw [own_q4_3]; decide +kernel
theorem own_l4_3 (fp : Int64) : own_key [(51 : Int32), (12 : Int32), (0 : Int32)] [(13 : Int32), (26 : Int32), (0 : Int32)] fp 2 = (((((own_blk fp (5 : Int32) (0 : Int32)) <<< ((own_w (5 : Int32) (2 : Int32)) &&& 0x3f).toInt64) ||| (own_blk fp (5 : Int32) (2 : Int32))) <<< ((own_w (5 : Int32) (3 : Int32)) &&& 0x3f).toInt64) ||| (own_blk fp (5 : Int32) (3 : Int32))) := by
  have N0 : 0 ≤ (fp.toInt % 18446744073709551616) := Int.emod_nonneg _ (by decide)
  have N1 : (fp.toInt % 18446744073709551616) < 18446744073709551616 := Int.emod_lt_of_pos _ (by decide)
  have b0 := own_blkN fp (5 : Int32) (0 : Int32) 51 13 (by decide) (by decide) (by decide) (by decide) 2251799813685248 8192 (by decide) (by decide)
  have b2 := own_blkN fp (5 : Int32) (2 : Int32) 25 13 (by decide) (by decide) (by decide) (by decide) 33554432 8192 (by decide) (by decide)
  have b3 := own_blkN fp (5 : Int32) (3 : Int32) 12 13 (by decide) (by decide) (by decide) (by decide) 4096 8192 (by decide) (by decide)
  have k0 := own_cutN fp (51 : Int32) (own_lb (13 : Int32)) 51 13 (by decide) (by decide) (by decide) 2251799813685248 8192 (by decide) (by decide)
  have k1 := own_cutN fp (12 : Int32) (own_lb (26 : Int32)) 12 26 (by decide) (by decide) (by decide) 4096 67108864 (by decide) (by decide)
  rw [← Int64.toInt_inj]
  generalize (fp.toInt % 18446744073709551616) = N at *
  have a0 : (0 : Int64).toInt = 0 := rfl
  have y0 := own_catN (0 : Int64) (own_us fp (51 : Int32) &&& own_lb (13 : Int32)) (13 : Int32) 13 (by decide) (by decide) 8192 (by decide) _ _ a0 k0 (by omega) (by omega) (by omega) (by omega)
  have y1 := own_catN (((0 : Int64) <<< ((13 : Int32) &&& 0x3f).toInt64) ||| (own_us fp (51 : Int32) &&& own_lb (13 : Int32))) (own_us fp (12 : Int32) &&& own_lb (26 : Int32)) (26 : Int32) 26 (by decide) (by decide) 67108864 (by decide) _ _ y0 k1 (by omega) (by omega) (by omega) (by omega)
  have ky : (own_key [(51 : Int32), (12 : Int32), (0 : Int32)] [(13 : Int32), (26 : Int32), (0 : Int32)] fp 2).toInt = _ := y1
  have z2 := own_catN (own_blk fp (5 : Int32) (0 : Int32)) (own_blk fp (5 : Int32) (2 : Int32)) (own_w (5 : Int32) (2 : Int32)) 13 (by decide) (by decide) 8192 (by decide) _ _ b0 b2 (by omega) (by omega) (by omega) (by omega)
  have z3 := own_catN (((own_blk fp (5 : Int32) (0 : Int32)) <<< ((own_w (5 : Int32) (2 : Int32)) &&& 0x3f).toInt64) ||| (own_blk fp (5 : Int32) (2 : Int32))) (own_blk fp (5 : Int32) (3 : Int32)) (own_w (5 : Int32) (3 : Int32)) 13 (by decide) (by decide) 8192 (by decide) _ _ z2 b3 (by omega) (by omega) (by omega) (by omega)
  rw [ky, z3]
  omega
theorem own_q4_4 : own_ch ((5 : Nat).toInt32) (3 : Nat) 4 = [(0 : Int32), (2 : Int32), (4 : Int32)] := by rw [own_ch, own_q4_3]; decide +kernel
theorem own_r4_4 : (own_rs (own_ch ((5 : Nat).toInt32) (3 : Nat) 4) (own_sl ((5 : Nat).toInt32) (5 : Nat)) (own_wl ((5 : Nat).toInt32) (5 : Nat)) (3 : Nat)) = (3, [(51 : Int32), (25 : Int32), (0 : Int32)], [(13 : Int32), (13 : Int32), (12 : Int32)]) := by rw [own_q4_4]; decide +kernel
theorem own_l4_4 (fp : Int64) : own_key [(51 : Int32), (25 : Int32), (0 : Int32)] [(13 : Int32), (13 : Int32), (12 : Int32)] fp 3 = (((((own_blk fp (5 : Int32) (0 : Int32)) <<< ((own_w (5 : Int32) (2 : Int32)) &&& 0x3f).toInt64) ||| (own_blk fp (5 : Int32) (2 : Int32))) <<< ((own_w (5 : Int32) (4 : Int32)) &&& 0x3f).toInt64) ||| (own_blk fp (5 : Int32) (4 : Int32))) := by
  have N0 : 0 ≤ (fp.toInt % 18446744073709551616) := Int.emod_nonneg _ (by decide)
  have N1 : (fp.toInt % 18446744073709551616) < 18446744073709551616 := Int.emod_lt_of_pos _ (by decide)
  have b0 := own_blkN fp (5 : Int32) (0 : Int32) 51 13 (by decide) (by decide) (by decide) (by decide) 2251799813685248 8192 (by decide) (by decide)
  have b2 := own_blkN fp (5 : Int32) (2 : Int32) 25 13 (by decide) (by decide) (by decide) (by decide) 33554432 8192 (by decide) (by decide)
  have b4 := own_blkN fp (5 : Int32) (4 : Int32) 0 12 (by decide) (by decide) (by decide) (by decide) 1 4096 (by decide) (by decide)
  have k0 := own_cutN fp (51 : Int32) (own_lb (13 : Int32)) 51 13 (by decide) (by decide) (by decide) 2251799813685248 8192 (by decide) (by decide)
  have k1 := own_cutN fp (25 : Int32) (own_lb (13 : Int32)) 25 13 (by decide) (by decide) (by decide) 33554432 8192 (by decide) (by decide)
  have k2 := own_cutN fp (0 : Int32) (own_lb (12 : Int32)) 0 12 (by decide) (by decide) (by decide) 1 4096 (by decide) (by decide)
  rw [← Int64.toInt_inj]
  generalize (fp.toInt % 18446744073709551616) = N at *
  have a0 : (0 : Int64).toInt = 0 := rfl
  have y0 := own_catN (0 : Int64) (own_us fp (51 : Int32) &&& own_lb (13 : Int32)) (13 : Int32) 13 (by decide) (by decide) 8192 (by decide) _ _ a0 k0 (by omega) (by omega) (by omega) (by omega)
  have y1 := own_catN (((0 : Int64) <<< ((13 : Int32) &&& 0x3f).toInt64) ||| (own_us fp (51 : Int32) &&& own_lb (13 : Int32))) (own_us fp (25 : Int32) &&& own_lb (13 : Int32)) (13 : Int32) 13 (by decide) (by decide) 8192 (by decide) _ _ y0 k1 (by omega) (by omega) (by omega) (by omega)
  have y2 := own_catN (((((0 : Int64) <<< ((13 : Int32) &&& 0x3f).toInt64) ||| (own_us fp (51 : Int32) &&& own_lb (13 : Int32))) <<< ((13 : Int32) &&& 0x3f).toInt64) ||| (own_us fp (25 : Int32) &&& own_lb (13 : Int32))) (own_us fp (0 : Int32) &&& own_lb (12 : Int32)) (12 : Int32) 12 (by decide) (by decide) 4096 (by decide) _ _ y1 k2 (by omega) (by omega) (by omega) (by omega)
  have ky : (own_key [(51 : Int32), (25 : Int32), (0 : Int32)] [(13 : Int32), (13 : Int32), (12 : Int32)] fp 3).toInt = _ := y2
  have z2 := own_catN (own_blk fp (5 : Int32) (0 : Int32)) (own_blk fp (5 : Int32) (2 : Int32)) (own_w (5 : Int32) (2 : Int32)) 13 (by decide) (by decide) 8192 (by decide) _ _ b0 b2 (by omega) (by omega) (by omega) (by omega)
  have z4 := own_catN (((own_blk fp (5 : Int32) (0 : Int32)) <<< ((own_w (5 : Int32) (2 : Int32)) &&& 0x3f).toInt64) ||| (own_blk fp (5 : Int32) (2 : Int32))) (own_blk fp (5 : Int32) (4 : Int32)) (own_w (5 : Int32) (4 : Int32)) 12 (by decide) (by decide) 4096 (by decide) _ _ z2 b4 (by omega) (by omega) (by omega) (by omega)
  rw [ky, z4]
  omega
theorem own_q4_5 : own_ch ((5 : Nat).toInt32) (3 : Nat) 5 = [(0 : Int32), (3 : Int32), (4 : Int32)] := by rw [own_ch, own_q4_4]; decide +kernel
theorem own_r4_5 : (own_rs (own_ch ((5 : Nat).toInt32) (3 : Nat) 5) (own_sl ((5 : Nat).toInt32) (5 : Nat)) (own_wl ((5 : Nat).toInt32) (5 : Nat)) (3 : Nat)) = (2, [(51 : Int32), (0 : Int32), (0 : Int32)], [(13 : Int32), (25 : Int32), (0 : Int32)]) := by rw [own_q4_5]; decide +kernel
theorem own_l4_5 (fp : Int64) : own_key [(51 : Int32), (0 : Int32), (0 : Int32)] [(13 : Int32), (25 : Int32), (0 : Int32)] fp 2 = (((((own_blk fp (5 : Int32) (0 : Int32)) <<< ((own_w (5 : Int32) (3 : Int32)) &&& 0x3f).toInt64) ||| (own_blk fp (5 : Int32) (3 : Int32))) <<< ((own_w (5 : Int32) (4 : Int32)) &&& 0x3f).toInt64) ||| (own_blk fp (5 : Int32) (4 : Int32))) := by
  have N0 : 0 ≤ (fp.toInt % 18446744073709551616) := Int.emod_nonneg _ (by decide)
  have N1 : (fp.toInt % 18446744073709551616) < 18446744073709551616 := Int.emod_lt_of_pos _ (by decide)
  have b0 := own_blkN fp (5 : Int32) (0 : Int32) 51 13 (by decide) (by decide) (by decide) (by decide) 2251799813685248 8192 (by decide) (by decide)
  have b3 := own_blkN fp (5 : Int32) (3 : Int32) 12 13 (by decide) (by decide) (by decide) (by decide) 4096 8192 (by decide) (by decide)
  have b4 := own_blkN fp (5 : Int32) (4 : Int32) 0 12 (by decide) (by decide) (by decide) (by decide) 1 4096 (by decide) (by decide)
  have k0 := own_cutN fp (51 : Int32) (own_lb (13 : Int32)) 51 13 (by decide) (by decide) (by decide) 2251799813685248 8192 (by decide) (by decide)
  have k1 := own_cutN fp (0 : Int32) (own_lb (25 : Int32)) 0 25 (by decide) (by decide) (by decide) 1 33554432 (by decide) (by decide)
  rw [← Int64.toInt_inj]
  generalize (fp.toInt % 18446744073709551616) = N at *
  have a0 : (0 : Int64).toInt = 0 := rfl
  have y0 := own_catN (0 : Int64) (own_us fp (51 : Int32) &&& own_lb (13 : Int32)) (13 : Int32) 13 (by decide) (by decide) 8192 (by decide) _ _ a0 k0 (by omega) (by omega) (by omega) (by omega)
  have y1 := own_catN (((0 : Int64) <<< ((13 : Int32) &&& 0x3f).toInt64) ||| (own_us fp (51 : Int32) &&& own_lb (13 : Int32))) (own_us fp (0 : Int32) &&& own_lb (25 : Int32)) (25 : Int32) 25 (by decide) (by decide) 33554432 (by decide) _ _ y0 k1 (by omega) (by omega) (by omega) (by omega)
  have ky : (own_key [(51 : Int32), (0 : Int32), (0 : Int32)] [(13 : Int32), (25 : Int32), (0 : Int32)] fp 2).toInt = _ := y1
  have z3 := own_catN (own_blk fp (5 : Int32) (0 : Int32)) (own_blk fp (5 : Int32) (3 : Int32)) (own_w (5 : Int32) (3 : Int32)) 13 (by decide) (by decide) 8192 (by decide) _ _ b0 b3 (by omega) (by omega) (by omega) (by omega)
  have z4 := own_catN (((own_blk fp (5 : Int32) (0 : Int32)) <<< ((own_w (5 : Int32) (3 : Int32)) &&& 0x3f).toInt64) ||| (own_blk fp (5 : Int32) (3 : Int32))) (own_blk fp (5 : Int32) (4 : Int32)) (own_w (5 : Int32) (4 : Int32)) 12 (by decide) (by decide) 4096 (by decide) _ _ z3 b4 (by omega) (by omega) (by omega) (by omega)
  rw [ky, z4]
  omega
theorem own_q4_6 : own_ch ((5 : Nat).toInt32) (3 : Nat) 6 = [(1 : Int32), (2 : Int32), (3 : Int32)] := by rw [own_ch, own_q4_5]; decide +kernel
theorem own_r4_6 : (own_rs (own_ch ((5 : Nat).toInt32) (3 : Nat) 6) (own_sl ((5 : Nat).toInt32) (5 : Nat)) (own_wl ((5 : Nat).toInt32) (5 : Nat)) (3 : Nat)) = (1, [(12 : Int32), (0 : Int32), (0 : Int32)], [(39 : Int32), (0 : Int32), (0 : Int32)]) := by rw [own_q4_6]; decide +kernel
theorem own_l4_6 (fp : Int64) : own_key [(12 : Int32), (0 : Int32), (0 : Int32)] [(39 : Int32), (0 : Int32), (0 : Int32)] fp 1 = (((((own_blk fp (5 : Int32) (1 : Int32)) <<< ((own_w (5 : Int32) (2 : Int32)) &&& 0x3f).toInt64) ||| (own_blk fp (5 : Int32) (2 : Int32))) <<< ((own_w (5 : Int32) (3 : Int32)) &&& 0x3f).toInt64) ||| (own_blk fp (5 : Int32) (3 : Int32))) := by
  have N0 : 0 ≤ (fp.toInt % 18446744073709551616) := Int.emod_nonneg _ (by decide)
  have N1 : (fp.toInt % 18446744073709551616) < 18446744073709551616 := Int.emod_lt_of_pos _ (by decide)
  have b1 := own_blkN fp (5 : Int32) (1 : Int32) 38 13 (by decide) (by decide) (by decide) (by decide) 274877906944 8192 (by decide) (by decide)
  have b2 := own_blkN fp (5 : Int32) (2 : Int32) 25 13 (by decide) (by decide) (by decide) (by decide) 33554432 8192 (by decide) (by decide)
  have b3 := own_blkN fp (5 : Int32) (3 : Int32) 12 13 (by decide) (by decide) (by decide) (by decide) 4096 8192 (by decide) (by decide)
  have k0 := own_cutN fp (12 : Int32) (own_lb (39 : Int32)) 12 39 (by decide) (by decide) (by decide) 4096 549755813888 (by decide) (by decide)
  rw [← Int64.toInt_inj]
  generalize (fp.toInt % 18446744073709551616) = N at *
  have a0 : (0 : Int64).toInt = 0 := rfl
  have y0 := own_catN (0 : Int64) (own_us fp (12 : Int32) &&& own_lb (39 : Int32)) (39 : Int32) 39 (by decide) (by decide) 549755813888 (by decide) _ _ a0 k0 (by omega) (by omega) (by omega) (by omega)
  have ky : (own_key [(12 : Int32), (0 : Int32), (0 : Int32)] [(39 : Int32), (0 : Int32), (0 : Int32)] fp 1).toInt = _ := y0
  have z2 := own_catN (own_blk fp (5 : Int32) (1 : Int32)) (own_blk fp (5 : Int32) (2 : Int32)) (own_w (5 : Int32) (2 : Int32)) 13 (by decide) (by decide) 8192 (by decide) _ _ b1 b2 (by omega) (by omega) (by omega) (by omega)
  have z3 := own_catN (((own_blk fp (5 : Int32) (1 : Int32)) <<< ((own_w (5 : Int32) (2 : Int32)) &&& 0x3f).toInt64) ||| (own_blk fp (5 : Int32) (2 : Int32))) (own_blk fp (5 : Int32) (3 : Int32)) (own_w (5 : Int32) (3 : Int32)) 13 (by decide) (by decide) 8192 (by decide) _ _ z2 b3 (by omega) (by omega) (by omega) (by omega)
  rw [ky, z3]
  omega
theorem own_q4_7 : own_ch ((5 : Nat).toInt32) (3 : Nat) 7 = [(1 : Int32), (2 : Int32), (4 : Int32)] := by rw [own_ch, own_q4_6]; decide +kernel
theorem own_r4_7 : (own_rs (own_ch ((5 : Nat).toInt32) (3 : Nat) 7) (own_sl ((5 : Nat).toInt32) (5 : Nat)) (own_wl ((5 : Nat).toInt32) (5 : Nat)) (3 : Nat)) = (2, [(25 : Int32), (0 : Int32), (0 : Int32)], [(26 : Int32), (12 : Int32), (0 : Int32)]) := by rw [own_q4_7]; decide +kernel
theorem own_l4_7 (fp : Int64) : own_key [(25 : Int32), (0 : Int32), (0 : Int32)] [(26 : Int32), (12 : Int32), (0 : Int32)] fp 2 = (((((own_blk fp (5 : Int32) (1 : Int32)) <<< ((own_w (5 : Int32) (2 : Int32)) &&& 0x3f).toInt64) ||| (own_blk fp (5 : Int32) (2 : Int32))) <<< ((own_w (5 : Int32) (4 : Int32)) &&& 0x3f).toInt64) ||| (own_blk fp (5 : Int32) (4 : Int32))) := by
  have N0 : 0 ≤ (fp.toInt % 18446744073709551616) := Int.emod_nonneg _ (by decide)
  have N1 : (fp.toInt % 18446744073709551616) < 18446744073709551616 := Int.emod_lt_of_pos _ (by decide)
  have b1 := own_blkN fp (5 : Int32) (1 : Int32) 38 13 (by decide) (by decide) (by decide) (by decide) 274877906944 8192 (by decide) (by decide)
  have b2 := own_blkN fp (5 : Int32) (2 : Int32) 25 13 (by decide) (by decide) (by decide) (by decide) 33554432 8192 (by decide) (by decide)
  have b4 := own_blkN fp (5 : Int32) (4 : Int32) 0 12 (by decide) (by decide) (by decide) (by decide) 1 4096 (by decide) (by decide)
  have k0 := own_cutN fp (25 : Int32) (own_lb (26 : Int32)) 25 26 (by decide) (by decide) (by decide) 33554432 67108864 (by decide) (by decide)
  have k1 := own_cutN fp (0 : Int32) (own_lb (12 : Int32)) 0 12 (by decide) (by decide) (by decide) 1 4096 (by decide) (by decide)
  rw [← Int64.toInt_inj]
  generalize (fp.toInt % 18446744073709551616) = N at *
  have a0 : (0 : Int64).toInt = 0 := rfl
  have y0 := own_catN (0 : Int64) (own_us fp (25 : Int32) &&& own_lb (26 : Int32)) (26 : Int32) 26 (by decide) (by decide) 67108864 (by decide) _ _ a0 k0 (by omega) (by omega) (by omega) (by omega)
  have y1 := own_catN (((0 : Int64) <<< ((26 : Int32) &&& 0x3f).toInt64) ||| (own_us fp (25 : Int32) &&& own_lb (26 : Int32))) (own_us fp (0 : Int32) &&& own_lb (12 : Int32)) (12 : Int32) 12 (by decide) (by decide) 4096 (by decide) _ _ y0 k1 (by omega) (by omega) (by omega) (by omega)
  have ky : (own_key [(25 : Int32), (0 : Int32), (0 : Int32)] [(26 : Int32), (12 : Int32), (0 : Int32)] fp 2).toInt = _ := y1
  have z2 := own_catN (own_blk fp (5 : Int32) (1 : Int32)) (own_blk fp (5 : Int32) (2 : Int32)) (own_w (5 : Int32) (2 : Int32)) 13 (by decide) (by decide) 8192 (by decide) _ _ b1 b2 (by omega) (by omega) (by omega) (by omega)
  have z4 := own_catN (((own_blk fp (5 : Int32) (1 : Int32)) <<< ((own_w (5 : Int32) (2 : Int32)) &&& 0x3f).toInt64) ||| (own_blk fp (5 : Int32) (2 : Int32))) (own_blk fp (5 : Int32) (4 : Int32)) (own_w (5 : Int32) (4 : Int32)) 12 (by decide) (by decide) 4096 (by decide) _ _ z2 b4 (by omega) (by omega) (by omega) (by omega)
  rw [ky, z4]
  omega
theorem own_q4_8 : own_ch ((5 : Nat).toInt32) (3 : Nat) 8 = [(1 : Int32), (3 : Int32), (4 : Int32)] := by rw [own_ch, own_q4_7]; decide +kernel
theorem own_r4_8 : (own_rs (own_ch ((5 : Nat).toInt32) (3 : Nat) 8) (own_sl ((5 : Nat).toInt32) (5 : Nat)) (own_wl ((5 : Nat).toInt32) (5 : Nat)) (3 : Nat)) = (2, [(38 : Int32), (0 : Int32), (0 : Int32)], [(13 : Int32), (25 : Int32), (0 : Int32)]) := by rw [own_q4_8]; decide +kernel
theorem own_l4_8 (fp : Int64) : own_key [(38 : Int32), (0 : Int32), (0 : Int32)] [(13 : Int32), (25 : Int32), (0 : Int32)] fp 2 = (((((own_blk fp (5 : Int32) (1 : Int32)) <<< ((own_w (5 : Int32) (3 : Int32)) &&& 0x3f).toInt64) ||| (own_blk fp (5 : Int32) (3 : Int32))) <<< ((own_w (5 : Int32) (4 : Int32)) &&& 0x3f).toInt64) ||| (own_blk fp (5 : Int32) (4 : Int32))) := by
  have N0 : 0 ≤ (fp.toInt % 18446744073709551616) := Int.emod_nonneg _ (by decide)
  have N1 : (fp.toInt % 18446744073709551616) < 18446744073709551616 := Int.emod_lt_of_pos _ (by decide)
  have b1 := own_blkN fp (5 : Int32) (1 : Int32) 38 13 (by decide) (by decide) (by decide) (by decide) 274877906944 8192 (by decide) (by decide)
  have b3 := own_blkN fp (5 : Int32) (3 : Int32) 12 13 (by decide) (by decide) (by decide) (by decide) 4096 8192 (by decide) (by decide)
  have b4 := own_blkN fp (5 : Int32) (4 : Int32) 0 12 (by decide) (by decide) (by decide) (by decide) 1 4096 (by decide) (by decide)
  have k0 := own_cutN fp (38 : Int32) (own_lb (13 : Int32)) 38 13 (by decide) (by decide) (by decide) 274877906944 8192 (by decide) (by decide)
  have k1 := own_cutN fp (0 : Int32) (own_lb (25 : Int32)) 0 25 (by decide) (by decide) (by decide) 1 33554432 (by decide) (by decide)
  rw [← Int64.toInt_inj]
  generalize (fp.toInt % 18446744073709551616) = N at *
  have a0 : (0 : Int64).toInt = 0 := rfl
  have y0 := own_catN (0 : Int64) (own_us fp (38 : Int32) &&& own_lb (13 : Int32)) (13 : Int32) 13 (by decide) (by decide) 8192 (by decide) _ _ a0 k0 (by omega) (by omega) (by omega) (by omega)
  have y1 := own_catN (((0 : Int64) <<< ((13 : Int32) &&& 0x3f).toInt64) ||| (own_us fp (38 : Int32) &&& own_lb (13 : Int32))) (own_us fp (0 : Int32) &&& own_lb (25 : Int32)) (25 : Int32) 25 (by decide) (by decide) 33554432 (by decide) _ _ y0 k1 (by omega) (by omega) (by omega) (by omega)
  have ky : (own_key [(38 : Int32), (0 : Int32), (0 : Int32)] [(13 : Int32), (25 : Int32), (0 : Int32)] fp 2).toInt = _ := y1
  have z3 := own_catN (own_blk fp (5 : Int32) (1 : Int32)) (own_blk fp (5 : Int32) (3 : Int32)) (own_w (5 : Int32) (3 : Int32)) 13 (by decide) (by decide) 8192 (by decide) _ _ b1 b3 (by omega) (by omega) (by omega) (by omega)
  have z4 := own_catN (((own_blk fp (5 : Int32) (1 : Int32)) <<< ((own_w (5 : Int32) (3 : Int32)) &&& 0x3f).toInt64) ||| (own_blk fp (5 : Int32) (3 : Int32))) (own_blk fp (5 : Int32) (4 : Int32)) (own_w (5 : Int32) (4 : Int32)) 12 (by decide) (by decide) 4096 (by decide) _ _ z3 b4 (by omega) (by omega) (by omega) (by omega)
  rw [ky, z4]
  omega
theorem own_q4_9 : own_ch ((5 : Nat).toInt32) (3 : Nat) 9 = [(2 : Int32), (3 : Int32), (4 : Int32)] := by rw [own_ch, own_q4_8]; decide +kernel
theorem own_r4_9 : (own_rs (own_ch ((5 : Nat).toInt32) (3 : Nat) 9) (own_sl ((5 : Nat).toInt32) (5 : Nat)) (own_wl ((5 : Nat).toInt32) (5 : Nat)) (3 : Nat)) = (1, [(0 : Int32), (0 : Int32), (0 : Int32)], [(38 : Int32), (0 : Int32), (0 : Int32)]) := by rw [own_q4_9]; decide +kernel
theorem own_l4_9 (fp : Int64) : own_key [(0 : Int32), (0 : Int32), (0 : Int32)] [(38 : Int32), (0 : Int32), (0 : Int32)] fp 1 = (((((own_blk fp (5 : Int32) (2 : Int32)) <<< ((own_w (5 : Int32) (3 : Int32)) &&& 0x3f).toInt64) ||| (own_blk fp (5 : Int32) (3 : Int32))) <<< ((own_w (5 : Int32) (4 : Int32)) &&& 0x3f).toInt64) ||| (own_blk fp (5 : Int32) (4 : Int32))) := by
  have N0 : 0 ≤ (fp.toInt % 18446744073709551616) := Int.emod_nonneg _ (by decide)
  have N1 : (fp.toInt % 18446744073709551616) < 18446744073709551616 := Int.emod_lt_of_pos _ (by decide)
  have b2 := own_blkN fp (5 : Int32) (2 : Int32) 25 13 (by decide) (by decide) (by decide) (by decide) 33554432 8192 (by decide) (by decide)
  have b3 := own_blkN fp (5 : Int32) (3 : Int32) 12 13 (by decide) (by decide) (by decide) (by decide) 4096 8192 (by decide) (by decide)
  have b4 := own_blkN fp (5 : Int32) (4 : Int32) 0 12 (by decide) (by decide) (by decide) (by decide) 1 4096 (by decide) (by decide)
  have k0 := own_cutN fp (0 : Int32) (own_lb (38 : Int32)) 0 38 (by decide) (by decide) (by decide) 1 274877906944 (by decide) (by decide)
  rw [← Int64.toInt_inj]
  generalize (fp.toInt % 18446744073709551616) = N at *
  have a0 : (0 : Int64).toInt = 0 := rfl
  have y0 := own_catN (0 : Int64) (own_us fp (0 : Int32) &&& own_lb (38 : Int32)) (38 : Int32) 38 (by decide) (by decide) 274877906944 (by decide) _ _ a0 k0 (by omega) (by omega) (by omega) (by omega)
  have ky : (own_key [(0 : Int32), (0 : Int32), (0 : Int32)] [(38 : Int32), (0 : Int32), (0 : Int32)] fp 1).toInt = _ := y0
  have z3 := own_catN (own_blk fp (5 : Int32) (2 : Int32)) (own_blk fp (5 : Int32) (3 : Int32)) (own_w (5 : Int32) (3 : Int32)) 13 (by decide) (by decide) 8192 (by decide) _ _ b2 b3 (by omega) (by omega) (by omega) (by omega)
  have z4 := own_catN (((own_blk fp (5 : Int32) (2 : Int32)) <<< ((own_w (5 : Int32) (3 : Int32)) &&& 0x3f).toInt64) ||| (own_blk fp (5 : Int32) (3 : Int32))) (own_blk fp (5 : Int32) (4 : Int32)) (own_w (5 : Int32) (4 : Int32)) 12 (by decide) (by decide) 4096 (by decide) _ _ z3 b4 (by omega) (by omega) (by omega) (by omega)
  rw [ky, z4]
  omega
theorem own_good4 : ∀ z, z < (10 : Nat) → (∀ i, i < (3 : Nat) → ¬ (own_ch ((5 : Nat).toInt32) (3 : Nat) z).getD i 0 < (0 : Int32) ∧ (own_ch ((5 : Nat).toInt32) (3 : Nat) z).getD i 0 < ((5 : Nat).toInt32)) ∧ ¬ own_bc (own_km (own_ml ((5 : Nat).toInt32) (5 : Nat)) (own_ch ((5 : Nat).toInt32) (3 : Nat) z) (3 : Nat)) < (0 : Int32) ∧ (own_bc (own_km (own_ml ((5 : Nat).toInt32) (5 : Nat)) (own_ch ((5 : Nat).toInt32) (3 : Nat) z) (3 : Nat))).toNatClampNeg ≤ 64 := by
  intro z hz
  rcases (by omega : z = 0 ∨ z = 1 ∨ z = 2 ∨ z = 3 ∨ z = 4 ∨ z = 5 ∨ z = 6 ∨ z = 7 ∨ z = 8 ∨ z = 9) with rfl | rfl | rfl | rfl | rfl | rfl | rfl | rfl | rfl | rfl
  · rw [own_q4_0]; decide +kernel
  · rw [own_q4_1]; decide +kernel
  · rw [own_q4_2]; decide +kernel
  · rw [own_q4_3]; decide +kernel
  · rw [own_q4_4]; decide +kernel
  · rw [own_q4_5]; decide +kernel
  · rw [own_q4_6]; decide +kernel
  · rw [own_q4_7]; decide +kernel
  · rw [own_q4_8]; decide +kernel
  · rw [own_q4_9]; decide +kernel
theorem own_law4 (tt : Nat) (qf : Int64) (htt : tt < 10) : own_key (own_rs (own_ch ((5 : Nat).toInt32) (3 : Nat) tt) (own_sl ((5 : Nat).toInt32) (5 : Nat)) (own_wl ((5 : Nat).toInt32) (5 : Nat)) (3 : Nat)).2.1 (own_rs (own_ch ((5 : Nat).toInt32) (3 : Nat) tt) (own_sl ((5 : Nat).toInt32) (5 : Nat)) (own_wl ((5 : Nat).toInt32) (5 : Nat)) (3 : Nat)).2.2 qf (own_rs (own_ch ((5 : Nat).toInt32) (3 : Nat) tt) (own_sl ((5 : Nat).toInt32) (5 : Nat)) (own_wl ((5 : Nat).toInt32) (5 : Nat)) (3 : Nat)).1 = own_exp qf ((5 : Nat).toInt32) own_A4 own_B4 own_C4 tt := by
  rcases (by omega : tt = 0 ∨ tt = 1 ∨ tt = 2 ∨ tt = 3 ∨ tt = 4 ∨ tt = 5 ∨ tt = 6 ∨ tt = 7 ∨ tt = 8 ∨ tt = 9) with rfl | rfl | rfl | rfl | rfl | rfl | rfl | rfl | rfl | rfl
  · unfold own_exp; rw [own_r4_0, if_neg (by decide), if_neg (by decide)]; exact own_l4_0 qf
  · unfold own_exp; rw [own_r4_1, if_neg (by decide), if_neg (by decide)]; exact own_l4_1 qf
  · unfold own_exp; rw [own_r4_2, if_neg (by decide), if_neg (by decide)]; exact own_l4_2 qf
  · unfold own_exp; rw [own_r4_3, if_neg (by decide), if_neg (by decide)]; exact own_l4_3 qf
  · unfold own_exp; rw [own_r4_4, if_neg (by decide), if_neg (by decide)]; exact own_l4_4 qf
  · unfold own_exp; rw [own_r4_5, if_neg (by decide), if_neg (by decide)]; exact own_l4_5 qf
  · unfold own_exp; rw [own_r4_6, if_neg (by decide), if_neg (by decide)]; exact own_l4_6 qf
  · unfold own_exp; rw [own_r4_7, if_neg (by decide), if_neg (by decide)]; exact own_l4_7 qf
  · unfold own_exp; rw [own_r4_8, if_neg (by decide), if_neg (by decide)]; exact own_l4_8 qf
  · unfold own_exp; rw [own_r4_9, if_neg (by decide), if_neg (by decide)]; exact own_l4_9 qf
theorem own_pd11 : parseMethodDescriptor "(JII)J" = some ⟨[.long, .int, .int], some .long⟩ := by decide +kernel
theorem own_pd12 : parseMethodDescriptor "(II)V" = some ⟨[.int, .int], none⟩ := by decide +kernel
theorem own_pd13 : parseMethodDescriptor "(IJ)J" = some ⟨[.int, .long], some .long⟩ := by decide +kernel
theorem ef_0 (m : MethodId) (x0 : Int32) (x1 : Int32) (x2 : Int64) : entryFrame m #[(.int x0), (.int x1), (.long x2)] maxLocals = mkF m 0 #[.val (.int x0), .val (.int x1), .val (.long x2), .second, .unset, .unset, .unset, .unset, .unset, .unset, .unset, .unset, .unset, .unset, .unset, .unset] [] := by first | (simp [entryFrame, mkF, argsToLocals, Value.category, maxLocals]; done) | rfl
def Q0 (Z : State) (p0 : Int32) (p1 : Int32) (qf : Int64) (h0 : Heap) (n0 : Nat) (v : Option Value) (h : Heap) (L : List Loc) : Prop := v = some (.int 1) ∧ Fr n0 L
set_option maxRecDepth 65536 in
set_option maxHeartbeats 40000000 in
theorem rm0 (l : Launch) (Z : State) (a0 : Array Value) (hw : ∀ d ∈ tables_1, d.before a0 Z = true) (ws : List Jvm.Cond) (p0 : Int32) (p1 : Int32) (qf : Int64) (h0 : Heap) (n0 : Nat) (Z0 : n0 ≤ h0.size) :
    MetFree l x (head1 (Jvm.Cond.code x code maxLocals ret :: ws) room_1) (fun a U => a = #[(.int p0), (.int p1), (.long qf)] ∧ Z.Warmed39 U.vm ∧ U.heap = h0) (fun _ _ _ _ _ => True) (fun _ U o U' => ∃ v L, o = .returned v ∧ Q0 Z p0 p1 qf h0 n0 v U'.heap L ∧ FrameEnd U o U' L room_1.cells room_1.slots) := by
  refine MetFree.of_bodySF (plainFor_of_name own_pn0) hisR ?_
  intro p e s m args below meth c s₁ Bd hml0 hP hK
  obtain ⟨rfl, hZ, hh⟩ := hP
  have hx := Bd.exec
  have hby := Bd.bytes
  have hml : c.maxLocals = 16 := hml0
  have hown : s.vm.findClass LWn = some m.cls := findClass_of_methodNamed Bd.named
  have hnm := (name_of_methodNamed Bd.named Bd.method).1
  have X0 : Stand p l e room_1 s m #[(.int p0), (.int p1), (.long qf)] below meth c s₁ [] 0 0 := Stand.of_body Bd
  have e0 : s₁.heap = h0 := by rw [← hh, Bd.state]; rfl
  have N0 := Fr.nil n0
  have K0 : Keep h0 h0 [] := Keep.refl _ _
  suffices GO : ∀ P : Outcome → State → Prop, (∀ o U', (∃ v L, o = .returned v ∧ Q0 Z p0 p1 qf h0 n0 v U'.heap L ∧ FrameEnd s o U' L room_1.cells room_1.slots) → P o U') → Go p.tables e below P s₁ (mkF m 0 #[.val (.int p0), .val (.int p1), .val (.long qf), .second, .unset, .unset, .unset, .unset, .unset, .unset, .unset, .unset, .unset, .unset, .unset, .unset] []) by
    obtain ⟨s2, o, st, r⟩ := GO _ (fun _ _ q => q)
    exact ⟨s2, o, castTop (ef_0 m p0 p1 qf) st, r⟩
  clear hh
  intro P hP
  show Go p.tables e below P s₁ (mkF m 0 #[vi p0, vi p1, vj qf, v2, vu, vu, vu, vu, vu, vu, vu, vu, vu, vu, vu, vu] [])
  refine gv (fun t k => XS.iloadN X0.here hx rfl (hb hby at_0) rfl k) ?_
  refine gv (fun t k => X0.ldcInt hx hown (mvT hZ (own_g hw 0 rfl)) (g := (mkF m 1 #[vi p0, vi p1, vj qf, v2, vu, vu, vu, vu, vu, vu, vu, vu, vu, vu, vu, vu] [(.int p0)])) rfl (hb hby at_1) t k) ?_
  refine gv (fun t k => XS.iand X0.here hx rfl (hb hby at_3) rfl k) ?_
  refine gv (fun t k => XS.iconst X0.here hx rfl (hb hby at_4) k) ?_
  refine gv (fun t k => iremM X0 hx rfl (hb hby at_5) rfl (by decide) k) ?_
  refine gv (fun t k => XS.istore X0.here hx rfl (hb hby at_6) rfl (l' := #[vi p0, vi p1, vj qf, v2, vi ((p0 &&& (2147483647 : Int32)) % (5 : Int32)), vu, vu, vu, vu, vu, vu, vu, vu, vu, vu, vu]) rfl k) ?_
  refine gv (fun t k => XS.iconst X0.here hx rfl (hb hby at_8) k) ?_
  obtain ⟨T1, h1, k1, X1, e1, E1, A1, st1⟩ := newP X0 hx hZ (own_g hw 1 rfl) e0 (g := (mkF m 9 #[vi p0, vi p1, vj qf, v2, vi ((p0 &&& (2147483647 : Int32)) % (5 : Int32)), vu, vu, vu, vu, vu, vu, vu, vu, vu, vu, vu] [(.int 5)])) rfl (hb hby at_9) rfl (by decide) (cap := 5) (by decide) (by decide) (by decide) (by decide)
  obtain ⟨b1, g1⟩ : ∃ z, z = h0.size := ⟨_, rfl⟩
  rw [← g1] at A1 st1
  refine gv st1 ?_
  have g2 := Nat.le_trans Z0 (Nat.le_of_eq g1.symm)
  have sz3 := Nat.le_trans K0.1 (Nat.le_of_eq g1.symm)
  have Z4 := Nat.le_trans Z0 E1.1
  have K5 := K0.ext E1
  have V1 : Arv Z h1 b1 k1 .int (5 : Int32) [(.int 0), (.int 0), (.int 0), (.int 0), (.int 0)] (.int 0) := (Arv.new A1 (by decide)).pad (pad_rep [] (.int 0) 5)
  refine gv (fun t k => XS.dup X1.here hx rfl (hb hby at_11) rfl rfl k) ?_
  show Go p.tables e below P T1 (mkF m 12 #[vi p0, vi p1, vj qf, v2, vi ((p0 &&& (2147483647 : Int32)) % (5 : Int32)), vu, vu, vu, vu, vu, vu, vu, vu, vu, vu, vu] [(.ref b1), (.ref b1)])
  refine gv (fun t k => XS.iconst X1.here hx rfl (hb hby at_12) k) ?_
  refine gv (fun t k => XS.iconst X1.here hx rfl (hb hby at_13) k) ?_
  obtain ⟨T6, h6, lc6, X6, e6, N6, Z6, K6, W6, V6, st6⟩ := own_stI X1 hx hZ e1 V1 N0 Z4 K5 g2 (Or.inr sz3) (j := (0 : Int32)) ⟨by decide, by decide⟩ (ji := 0) rfl (Nat.le_of_ble_eq_true rfl) (g := (mkF m 14 #[vi p0, vi p1, vj qf, v2, vi ((p0 &&& (2147483647 : Int32)) % (5 : Int32)), vu, vu, vu, vu, vu, vu, vu, vu, vu, vu, vu] [(.int 0), (.int 0), (.ref b1), (.ref b1)])) rfl rfl (hb hby at_14)
  refine gv st6 ?_
  refine gv (fun t k => XS.dup X6.here hx rfl (hb hby at_15) rfl rfl k) ?_
  refine gv (fun t k => XS.iconst X6.here hx rfl (hb hby at_16) k) ?_
  refine gv (fun t k => XS.iconst X6.here hx rfl (hb hby at_17) k) ?_
  obtain ⟨T7, h7, lc7, X7, e7, N7, Z7, K7, W7, V7, st7⟩ := own_stI X6 hx hZ e6 V6 N6 Z6 K6 g2 (Or.inr sz3) (j := (1 : Int32)) ⟨by decide, by decide⟩ (ji := 1) rfl (Nat.le_of_ble_eq_true rfl) (g := (mkF m 18 #[vi p0, vi p1, vj qf, v2, vi ((p0 &&& (2147483647 : Int32)) % (5 : Int32)), vu, vu, vu, vu, vu, vu, vu, vu, vu, vu, vu] [(.int 2), (.int 1), (.ref b1), (.ref b1)])) rfl rfl (hb hby at_18)
  refine gv st7 ?_
  refine gv (fun t k => XS.dup X7.here hx rfl (hb hby at_19) rfl rfl k) ?_
  refine gv (fun t k => XS.iconst X7.here hx rfl (hb hby at_20) k) ?_
  show Go p.tables e below P T7 (mkF m 21 #[vi p0, vi p1, vj qf, v2, vi ((p0 &&& (2147483647 : Int32)) % (5 : Int32)), vu, vu, vu, vu, vu, vu, vu, vu, vu, vu, vu] [(.int 2), (.ref b1), (.ref b1)])
  refine gv (fun t k => XS.iconst X7.here hx rfl (hb hby at_21) k) ?_
  obtain ⟨T8, h8, lc8, X8, e8, N8, Z8, K8, W8, V8, st8⟩ := own_stI X7 hx hZ e7 V7 N7 Z7 K7 g2 (Or.inr sz3) (j := (2 : Int32)) ⟨by decide, by decide⟩ (ji := 2) rfl (Nat.le_of_ble_eq_true rfl) (g := (mkF m 22 #[vi p0, vi p1, vj qf, v2, vi ((p0 &&& (2147483647 : Int32)) % (5 : Int32)), vu, vu, vu, vu, vu, vu, vu, vu, vu, vu, vu] [(.int 1), (.int 2), (.ref b1), (.ref b1)])) rfl rfl (hb hby at_22)
  refine gv st8 ?_
  refine gv (fun t k => XS.dup X8.here hx rfl (hb hby at_23) rfl rfl k) ?_
  refine gv (fun t k => XS.iconst X8.here hx rfl (hb hby at_24) k) ?_
  refine gv (fun t k => XS.iconst X8.here hx rfl (hb hby at_25) k) ?_
  obtain ⟨T9, h9, lc9, X9, e9, N9, Z9, K9, W9, V9, st9⟩ := own_stI X8 hx hZ e8 V8 N8 Z8 K8 g2 (Or.inr sz3) (j := (3 : Int32)) ⟨by decide, by decide⟩ (ji := 3) rfl (Nat.le_of_ble_eq_true rfl) (g := (mkF m 26 #[vi p0, vi p1, vj qf, v2, vi ((p0 &&& (2147483647 : Int32)) % (5 : Int32)), vu, vu, vu, vu, vu, vu, vu, vu, vu, vu, vu] [(.int 2), (.int 3), (.ref b1), (.ref b1)])) rfl rfl (hb hby at_26)
  refine gv st9 ?_
  refine gv (fun t k => XS.dup X9.here hx rfl (hb hby at_27) rfl rfl k) ?_
  refine gv (fun t k => XS.iconst X9.here hx rfl (hb hby at_28) k) ?_
  refine gv (fun t k => XS.iconst X9.here hx rfl (hb hby at_29) k) ?_
  show Go p.tables e below P T9 (mkF m 30 #[vi p0, vi p1, vj qf, v2, vi ((p0 &&& (2147483647 : Int32)) % (5 : Int32)), vu, vu, vu, vu, vu, vu, vu, vu, vu, vu, vu] [(.int 2), (.int 4), (.ref b1), (.ref b1)])
  obtain ⟨T10, h10, lc10, X10, e10, N10, Z10, K10, W10, V10, st10⟩ := own_stI X9 hx hZ e9 V9 N9 Z9 K9 g2 (Or.inr sz3) (j := (4 : Int32)) ⟨by decide, by decide⟩ (ji := 4) rfl (Nat.le_of_ble_eq_true rfl) (g := (mkF m 30 #[vi p0, vi p1, vj qf, v2, vi ((p0 &&& (2147483647 : Int32)) % (5 : Int32)), vu, vu, vu, vu, vu, vu, vu, vu, vu, vu, vu] [(.int 2), (.int 4), (.ref b1), (.ref b1)])) rfl rfl (hb hby at_30)
  refine gv st10 ?_
  refine gv (fun t k => XS.astore X10.here hx rfl (hb hby at_31) rfl rfl (l' := #[vi p0, vi p1, vj qf, v2, vi ((p0 &&& (2147483647 : Int32)) % (5 : Int32)), vr b1, vu, vu, vu, vu, vu, vu, vu, vu, vu, vu]) rfl k) ?_
  refine gv (fun t k => XS.iconst X10.here hx rfl (hb hby at_33) k) ?_
  obtain ⟨T11, h11, k11, X11, e11, E11, A11, st11⟩ := newP X10 hx hZ (own_g hw 1 rfl) e10 (g := (mkF m 34 #[vi p0, vi p1, vj qf, v2, vi ((p0 &&& (2147483647 : Int32)) % (5 : Int32)), vr b1, vu, vu, vu, vu, vu, vu, vu, vu, vu, vu] [(.int 5)])) rfl (hb hby at_34) rfl (by decide) (cap := 5) (by decide) (by decide) (by decide) (by decide)
  obtain ⟨b11, g11⟩ : ∃ z, z = h10.size := ⟨_, rfl⟩
  rw [← g11] at A11 st11
  refine gv st11 ?_
  have ne12 := Nat.ne_of_lt (Nat.lt_of_lt_of_le V10.lt (Nat.le_of_eq g11.symm))
  have g13 := Nat.le_trans Z10 (Nat.le_of_eq g11.symm)
  have sz14 := Nat.le_trans K10.1 (Nat.le_of_eq g11.symm)
  have Z15 := Nat.le_trans Z10 E11.1
  have K16 := K10.ext E11
  have V11 : Arv Z h11 b11 k11 .int (5 : Int32) [(.int 0), (.int 0), (.int 0), (.int 0), (.int 0)] (.int 0) := (Arv.new A11 (by decide)).pad (pad_rep [] (.int 0) 5)
  refine gv (fun t k => XS.dup X11.here hx rfl (hb hby at_36) rfl rfl k) ?_
  refine gv (fun t k => XS.iconst X11.here hx rfl (hb hby at_37) k) ?_
  refine gv (fun t k => XS.iconst X11.here hx rfl (hb hby at_38) k) ?_
  obtain ⟨T17, h17, lc17, X17, e17, N17, Z17, K17, W17, V17, st17⟩ := own_stI X11 hx hZ e11 V11 N10 Z15 K16 g13 (Or.inr sz14) (j := (0 : Int32)) ⟨by decide, by decide⟩ (ji := 0) rfl (Nat.le_of_ble_eq_true rfl) (g := (mkF m 39 #[vi p0, vi p1, vj qf, v2, vi ((p0 &&& (2147483647 : Int32)) % (5 : Int32)), vr b1, vu, vu, vu, vu, vu, vu, vu, vu, vu, vu] [(.int 1), (.int 0), (.ref b11), (.ref b11)])) rfl rfl (hb hby at_39)
  refine gv st17 ?_
  refine gv (fun t k => XS.dup X17.here hx rfl (hb hby at_40) rfl rfl k) ?_
  show Go p.tables e below P T17 (mkF m 41 #[vi p0, vi p1, vj qf, v2, vi ((p0 &&& (2147483647 : Int32)) % (5 : Int32)), vr b1, vu, vu, vu, vu, vu, vu, vu, vu, vu, vu] [(.ref b11), (.ref b11)])
  refine gv (fun t k => XS.iconst X17.here hx rfl (hb hby at_41) k) ?_
  refine gv (fun t k => XS.iconst X17.here hx rfl (hb hby at_42) k) ?_
  obtain ⟨T18, h18, lc18, X18, e18, N18, Z18, K18, W18, V18, st18⟩ := own_stI X17 hx hZ e17 V17 N17 Z17 K17 g13 (Or.inr sz14) (j := (1 : Int32)) ⟨by decide, by decide⟩ (ji := 1) rfl (Nat.le_of_ble_eq_true rfl) (g := (mkF m 43 #[vi p0, vi p1, vj qf, v2, vi ((p0 &&& (2147483647 : Int32)) % (5 : Int32)), vr b1, vu, vu, vu, vu, vu, vu, vu, vu, vu, vu] [(.int 2), (.int 1), (.ref b11), (.ref b11)])) rfl rfl (hb hby at_43)
  refine gv st18 ?_
  refine gv (fun t k => XS.dup X18.here hx rfl (hb hby at_44) rfl rfl k) ?_
  refine gv (fun t k => XS.iconst X18.here hx rfl (hb hby at_45) k) ?_
  refine gv (fun t k => XS.iconst X18.here hx rfl (hb hby at_46) k) ?_
  obtain ⟨T19, h19, lc19, X19, e19, N19, Z19, K19, W19, V19, st19⟩ := own_stI X18 hx hZ e18 V18 N18 Z18 K18 g13 (Or.inr sz14) (j := (2 : Int32)) ⟨by decide, by decide⟩ (ji := 2) rfl (Nat.le_of_ble_eq_true rfl) (g := (mkF m 47 #[vi p0, vi p1, vj qf, v2, vi ((p0 &&& (2147483647 : Int32)) % (5 : Int32)), vr b1, vu, vu, vu, vu, vu, vu, vu, vu, vu, vu] [(.int 3), (.int 2), (.ref b11), (.ref b11)])) rfl rfl (hb hby at_47)
  refine gv st19 ?_
  refine gv (fun t k => XS.dup X19.here hx rfl (hb hby at_48) rfl rfl k) ?_
  refine gv (fun t k => XS.iconst X19.here hx rfl (hb hby at_49) k) ?_
  show Go p.tables e below P T19 (mkF m 50 #[vi p0, vi p1, vj qf, v2, vi ((p0 &&& (2147483647 : Int32)) % (5 : Int32)), vr b1, vu, vu, vu, vu, vu, vu, vu, vu, vu, vu] [(.int 3), (.ref b11), (.ref b11)])
  refine gv (fun t k => XS.iconst X19.here hx rfl (hb hby at_50) k) ?_
  obtain ⟨T20, h20, lc20, X20, e20, N20, Z20, K20, W20, V20, st20⟩ := own_stI X19 hx hZ e19 V19 N19 Z19 K19 g13 (Or.inr sz14) (j := (3 : Int32)) ⟨by decide, by decide⟩ (ji := 3) rfl (Nat.le_of_ble_eq_true rfl) (g := (mkF m 51 #[vi p0, vi p1, vj qf, v2, vi ((p0 &&& (2147483647 : Int32)) % (5 : Int32)), vr b1, vu, vu, vu, vu, vu, vu, vu, vu, vu, vu] [(.int 4), (.int 3), (.ref b11), (.ref b11)])) rfl rfl (hb hby at_51)
  refine gv st20 ?_
  refine gv (fun t k => XS.dup X20.here hx rfl (hb hby at_52) rfl rfl k) ?_
  refine gv (fun t k => XS.iconst X20.here hx rfl (hb hby at_53) k) ?_
  refine gv (fun t k => XS.iconst X20.here hx rfl (hb hby at_54) k) ?_
  obtain ⟨T21, h21, lc21, X21, e21, N21, Z21, K21, W21, V21, st21⟩ := own_stI X20 hx hZ e20 V20 N20 Z20 K20 g13 (Or.inr sz14) (j := (4 : Int32)) ⟨by decide, by decide⟩ (ji := 4) rfl (Nat.le_of_ble_eq_true rfl) (g := (mkF m 55 #[vi p0, vi p1, vj qf, v2, vi ((p0 &&& (2147483647 : Int32)) % (5 : Int32)), vr b1, vu, vu, vu, vu, vu, vu, vu, vu, vu, vu] [(.int 5), (.int 4), (.ref b11), (.ref b11)])) rfl rfl (hb hby at_55)
  refine gv st21 ?_
  refine gv (fun t k => XS.astore X21.here hx rfl (hb hby at_56) rfl rfl (l' := #[vi p0, vi p1, vj qf, v2, vi ((p0 &&& (2147483647 : Int32)) % (5 : Int32)), vr b1, vr b11, vu, vu, vu, vu, vu, vu, vu, vu, vu]) rfl k) ?_
  refine gv (fun t k => XS.iconst X21.here hx rfl (hb hby at_58) k) ?_
  obtain ⟨T22, h22, k22, X22, e22, E22, A22, st22⟩ := newP X21 hx hZ (own_g hw 1 rfl) e21 (g := (mkF m 59 #[vi p0, vi p1, vj qf, v2, vi ((p0 &&& (2147483647 : Int32)) % (5 : Int32)), vr b1, vr b11, vu, vu, vu, vu, vu, vu, vu, vu, vu] [(.int 5)])) rfl (hb hby at_59) rfl (by decide) (cap := 5) (by decide) (by decide) (by decide) (by decide)
  obtain ⟨b22, g22⟩ : ∃ z, z = h21.size := ⟨_, rfl⟩
  rw [← g22] at A22 st22
  refine gv st22 ?_
  have F24 := ((((((V10.ext E11).other W17 ne12).other W18 ne12).other W19 ne12).other W20 ne12).other W21 ne12)
  have ne23 := Nat.ne_of_lt (Nat.lt_of_lt_of_le F24.lt (Nat.le_of_eq g22.symm))
  have ne25 := Nat.ne_of_lt (Nat.lt_of_lt_of_le V21.lt (Nat.le_of_eq g22.symm))
  have g26 := Nat.le_trans Z21 (Nat.le_of_eq g22.symm)
  have sz27 := Nat.le_trans K21.1 (Nat.le_of_eq g22.symm)
  have Z28 := Nat.le_trans Z21 E22.1
  have K29 := K21.ext E22
  have V22 : Arv Z h22 b22 k22 .int (5 : Int32) [(.int 0), (.int 0), (.int 0), (.int 0), (.int 0)] (.int 0) := (Arv.new A22 (by decide)).pad (pad_rep [] (.int 0) 5)
  show Go p.tables e below P T22 (mkF m 61 #[vi p0, vi p1, vj qf, v2, vi ((p0 &&& (2147483647 : Int32)) % (5 : Int32)), vr b1, vr b11, vu, vu, vu, vu, vu, vu, vu, vu, vu] [(.ref b22)])
  refine gv (fun t k => XS.dup X22.here hx rfl (hb hby at_61) rfl rfl k) ?_
  refine gv (fun t k => XS.iconst X22.here hx rfl (hb hby at_62) k) ?_
  refine gv (fun t k => XS.iconst X22.here hx rfl (hb hby at_63) k) ?_
  obtain ⟨T30, h30, lc30, X30, e30, N30, Z30, K30, W30, V30, st30⟩ := own_stI X22 hx hZ e22 V22 N21 Z28 K29 g26 (Or.inr sz27) (j := (0 : Int32)) ⟨by decide, by decide⟩ (ji := 0) rfl (Nat.le_of_ble_eq_true rfl) (g := (mkF m 64 #[vi p0, vi p1, vj qf, v2, vi ((p0 &&& (2147483647 : Int32)) % (5 : Int32)), vr b1, vr b11, vu, vu, vu, vu, vu, vu, vu, vu, vu] [(.int 1), (.int 0), (.ref b22), (.ref b22)])) rfl rfl (hb hby at_64)
  refine gv st30 ?_
  refine gv (fun t k => XS.dup X30.here hx rfl (hb hby at_65) rfl rfl k) ?_
  refine gv (fun t k => XS.iconst X30.here hx rfl (hb hby at_66) k) ?_
  refine gv (fun t k => XS.iconst X30.here hx rfl (hb hby at_67) k) ?_
  obtain ⟨T31, h31, lc31, X31, e31, N31, Z31, K31, W31, V31, st31⟩ := own_stI X30 hx hZ e30 V30 N30 Z30 K30 g26 (Or.inr sz27) (j := (1 : Int32)) ⟨by decide, by decide⟩ (ji := 1) rfl (Nat.le_of_ble_eq_true rfl) (g := (mkF m 68 #[vi p0, vi p1, vj qf, v2, vi ((p0 &&& (2147483647 : Int32)) % (5 : Int32)), vr b1, vr b11, vu, vu, vu, vu, vu, vu, vu, vu, vu] [(.int 2), (.int 1), (.ref b22), (.ref b22)])) rfl rfl (hb hby at_68)
  refine gv st31 ?_
  refine gv (fun t k => XS.dup X31.here hx rfl (hb hby at_69) rfl rfl k) ?_
  show Go p.tables e below P T31 (mkF m 70 #[vi p0, vi p1, vj qf, v2, vi ((p0 &&& (2147483647 : Int32)) % (5 : Int32)), vr b1, vr b11, vu, vu, vu, vu, vu, vu, vu, vu, vu] [(.ref b22), (.ref b22)])
  refine gv (fun t k => XS.iconst X31.here hx rfl (hb hby at_70) k) ?_
  refine gv (fun t k => XS.iconst X31.here hx rfl (hb hby at_71) k) ?_
  obtain ⟨T32, h32, lc32, X32, e32, N32, Z32, K32, W32, V32, st32⟩ := own_stI X31 hx hZ e31 V31 N31 Z31 K31 g26 (Or.inr sz27) (j := (2 : Int32)) ⟨by decide, by decide⟩ (ji := 2) rfl (Nat.le_of_ble_eq_true rfl) (g := (mkF m 72 #[vi p0, vi p1, vj qf, v2, vi ((p0 &&& (2147483647 : Int32)) % (5 : Int32)), vr b1, vr b11, vu, vu, vu, vu, vu, vu, vu, vu, vu] [(.int 3), (.int 2), (.ref b22), (.ref b22)])) rfl rfl (hb hby at_72)
  refine gv st32 ?_
  refine gv (fun t k => XS.dup X32.here hx rfl (hb hby at_73) rfl rfl k) ?_
  refine gv (fun t k => XS.iconst X32.here hx rfl (hb hby at_74) k) ?_
  refine gv (fun t k => XS.bipush X32.here hx rfl (hb hby at_75) k) ?_
  obtain ⟨T33, h33, lc33, X33, e33, N33, Z33, K33, W33, V33, st33⟩ := own_stI X32 hx hZ e32 V32 N32 Z32 K32 g26 (Or.inr sz27) (j := (3 : Int32)) ⟨by decide, by decide⟩ (ji := 3) rfl (Nat.le_of_ble_eq_true rfl) (g := (mkF m 77 #[vi p0, vi p1, vj qf, v2, vi ((p0 &&& (2147483647 : Int32)) % (5 : Int32)), vr b1, vr b11, vu, vu, vu, vu, vu, vu, vu, vu, vu] [(.int 6), (.int 3), (.ref b22), (.ref b22)])) rfl rfl (hb hby at_77)
  refine gv st33 ?_
  refine gv (fun t k => XS.dup X33.here hx rfl (hb hby at_78) rfl rfl k) ?_
  refine gv (fun t k => XS.iconst X33.here hx rfl (hb hby at_79) k) ?_
  show Go p.tables e below P T33 (mkF m 80 #[vi p0, vi p1, vj qf, v2, vi ((p0 &&& (2147483647 : Int32)) % (5 : Int32)), vr b1, vr b11, vu, vu, vu, vu, vu, vu, vu, vu, vu] [(.int 4), (.ref b22), (.ref b22)])
  refine gv (fun t k => XS.bipush X33.here hx rfl (hb hby at_80) k) ?_
  obtain ⟨T34, h34, lc34, X34, e34, N34, Z34, K34, W34, V34, st34⟩ := own_stI X33 hx hZ e33 V33 N33 Z33 K33 g26 (Or.inr sz27) (j := (4 : Int32)) ⟨by decide, by decide⟩ (ji := 4) rfl (Nat.le_of_ble_eq_true rfl) (g := (mkF m 82 #[vi p0, vi p1, vj qf, v2, vi ((p0 &&& (2147483647 : Int32)) % (5 : Int32)), vr b1, vr b11, vu, vu, vu, vu, vu, vu, vu, vu, vu] [(.int 10), (.int 4), (.ref b22), (.ref b22)])) rfl rfl (hb hby at_82)
  refine gv st34 ?_
  refine gv (fun t k => XS.astore X34.here hx rfl (hb hby at_83) rfl rfl (l' := #[vi p0, vi p1, vj qf, v2, vi ((p0 &&& (2147483647 : Int32)) % (5 : Int32)), vr b1, vr b11, vr b22, vu, vu, vu, vu, vu, vu, vu, vu]) rfl k) ?_
  show Go p.tables e below P T34 (mkF m 85 #[vi p0, vi p1, vj qf, v2, vi ((p0 &&& (2147483647 : Int32)) % (5 : Int32)), vr b1, vr b11, vr b22, vu, vu, vu, vu, vu, vu, vu, vu] [])
  obtain ⟨sq, hsq, esq⟩ := own_tsel p0 (5 : Int32) 5 rfl (by decide) (by decide)
  rw [esq]
  have LP35 : ∀ (T35 : State) (locs35 : List Loc) (hp35 : Heap) (zq : Nat) (x4 : Int32) (nB : Nat) (nD : Nat) (nC : Nat) (nc : Nat) (o8 : Addr) (o9 : Addr) (o10 : Addr) (ka8 : ClassId) (ka9 : ClassId) (ka10 : ClassId) (A8 : List Int32) (A9 : List Int32) (A10 : List Int32), Stand p l e room_1 s m #[(.int p0), (.int p1), (.long qf)] below meth c T35 locs35 6 45 → T35.heap = hp35 → Fr n0 locs35 → n0 ≤ hp35.size → Keep h0 hp35 [] → Arv Z hp35 b1 k1 .int (5 : Int32) [(.int 0), (.int 2), (.int 1), (.int 2), (.int 2)] (.int 0) → Arv Z hp35 b11 k11 .int (5 : Int32) [(.int 1), (.int 2), (.int 3), (.int 4), (.int 5)] (.int 0) → Arv Z hp35 b22 k22 .int (5 : Int32) [(.int 1), (.int 2), (.int 3), (.int 6), (.int 10)] (.int 0) → Arv Z hp35 o8 ka8 .int (nC.toInt32) (A8.map Value.int) (.int 0) → Arv Z hp35 o9 ka9 .int (nC.toInt32) (A9.map Value.int) (.int 0) → Arv Z hp35 o10 ka10 .int (nC.toInt32) (A10.map Value.int) (.int 0) → zq < 5 → x4 = zq.toInt32 → own_BC.getD zq 0 = nB.toInt32 → own_TC.getD zq 0 = nC.toInt32 → own_DC.getD zq 0 = nD.toInt32 → 0 < nC → nC ≤ 10 → 0 < nB → nB ≤ 5 → nD ≤ 2 → nc ≤ 3 → ((nD < nB ∧ nB = nD + nc ∧ own_bin nB nD = (nC.toInt32).toInt64 ∧ (∀ z, z < nC → (∀ i, i < nc → ¬ (own_ch nB.toInt32 nc z).getD i 0 < (0 : Int32) ∧ (own_ch nB.toInt32 nc z).getD i 0 < nB.toInt32) ∧ ¬ own_bc (own_km (own_ml nB.toInt32 nB) (own_ch nB.toInt32 nc z) nc) < (0 : Int32) ∧ (own_bc (own_km (own_ml nB.toInt32 nB) (own_ch nB.toInt32 nc z) nc)).toNatClampNeg ≤ 64)) ∨ (nB = 2 ∧ nD = 2 ∧ nC = 2 ∧ nc = 1)) → (∀ z fp, z < nC → own_key (own_rs (own_ch (nB.toInt32) nc z) (own_sl (nB.toInt32) nB) (own_wl (nB.toInt32) nB) nc).2.1 (own_rs (own_ch (nB.toInt32) nc z) (own_sl (nB.toInt32) nB) (own_wl (nB.toInt32) nB) nc).2.2 fp (own_rs (own_ch (nB.toInt32) nc z) (own_sl (nB.toInt32) nB) (own_wl (nB.toInt32) nB) nc).1 = own_exp fp nB.toInt32 A8 A9 A10 z) → Go p.tables e below P T35 (mkF m 477 #[.val (.int p0), .val (.int p1), .val (.long qf), .second, .val (.int x4), .val (.ref b1), .val (.ref b11), .val (.ref b22), .val (.ref o8), .val (.ref o9), .val (.ref o10), .unset, .unset, .unset, .unset, .unset] []) := by
    intro T35 locs35 hp35 zq x4 nB nD nC nc o8 o9 o10 ka8 ka9 ka10 A8 A9 A10 X35 e35 N35 Z35 K35 F35_0 F35_1 F35_2 F35_3 F35_4 F35_5 hzq hx4 hbB htC hdD hC0 hC10 hB0 hB5 hD2 hc3 hmode hlaw
    show Go p.tables e below P T35 (mkF m 477 #[vi p0, vi p1, vj qf, v2, vi x4, vr b1, vr b11, vr b22, vr o8, vr o9, vr o10, vu, vu, vu, vu, vu] [])
    refine gv (fun t k => XS.aload X35.here hx rfl (hb hby at_477) rfl rfl k) ?_
    refine gv (fun t k => XS.iload X35.here hx rfl (hb hby at_479) rfl k) ?_
    obtain ⟨c36, A36, q36, S36, N36, H36, G36⟩ := id F35_1
    have hin36 : ¬ (x4 < 0 ∨ c36.slots.size ≤ (x4).toNatClampNeg) := inb_of S36 ⟨by rw [hx4]; exact own_nneg (by omega), by rw [hx4]; exact (own_ltN (n := 5) (by omega) (by omega)).mpr hzq⟩
    have hat36 : c36.slots[(x4).toNatClampNeg]? = some (.int (nB.toInt32)) := (H36 _ (Nat.lt_of_not_le fun q => hin36 (Or.inr q))).trans (congrArg some (by rw [hx4, own_clamp (by omega)]; exact (own_getDI own_BC zq).trans (by rw [hbB])))
    refine gv (fun t k => X35.iaload hx (j := x4) (v := (.int (nB.toInt32))) (by rw [e35]; exact A36.1) (State.isArrayOf_alike hZ.alike A36.2.1) A36.2.2 hin36 hat36 (g := (mkF m 481 #[vi p0, vi p1, vj qf, v2, vi x4, vr b1, vr b11, vr b22, vr o8, vr o9, vr o10, vu, vu, vu, vu, vu] [(.int x4), (.ref b11)])) rfl rfl (hb hby at_481) t k) ?_
    refine gv (fun t k => XS.istore X35.here hx rfl (hb hby at_482) rfl (l' := #[vi p0, vi p1, vj qf, v2, vi x4, vr b1, vr b11, vr b22, vr o8, vr o9, vr o10, vi (nB.toInt32), vu, vu, vu, vu]) rfl k) ?_
    refine gv (fun t k => XS.iloadN X35.here hx rfl (hb hby at_484) rfl k) ?_
    refine gv (fun t k => X35.ldcInt hx hown (mvT hZ (own_g hw 0 rfl)) (g := (mkF m 485 #[vi p0, vi p1, vj qf, v2, vi x4, vr b1, vr b11, vr b22, vr o8, vr o9, vr o10, vi (nB.toInt32), vu, vu, vu, vu] [(.int p1)])) rfl (hb hby at_485) t k) ?_
    refine gv (fun t k => XS.iand X35.here hx rfl (hb hby at_487) rfl k) ?_
    refine gv (fun t k => XS.aload X35.here hx rfl (hb hby at_488) rfl rfl k) ?_
    refine gv (fun t k => XS.iload X35.here hx rfl (hb hby at_490) rfl k) ?_
    show Go p.tables e below P T35 (mkF m 492 #[vi p0, vi p1, vj qf, v2, vi x4, vr b1, vr b11, vr b22, vr o8, vr o9, vr o10, vi (nB.toInt32), vu, vu, vu, vu] [(.int x4), (.ref b22), (.int (p1 &&& (2147483647 : Int32)))])
    obtain ⟨c37, A37, q37, S37, N37, H37, G37⟩ := id F35_2
    have hin37 : ¬ (x4 < 0 ∨ c37.slots.size ≤ (x4).toNatClampNeg) := inb_of S37 ⟨by rw [hx4]; exact own_nneg (by omega), by rw [hx4]; exact (own_ltN (n := 5) (by omega) (by omega)).mpr hzq⟩
    have hat37 : c37.slots[(x4).toNatClampNeg]? = some (.int (nC.toInt32)) := (H37 _ (Nat.lt_of_not_le fun q => hin37 (Or.inr q))).trans (congrArg some (by rw [hx4, own_clamp (by omega)]; exact (own_getDI own_TC zq).trans (by rw [htC])))
    refine gv (fun t k => X35.iaload hx (j := x4) (v := (.int (nC.toInt32))) (by rw [e35]; exact A37.1) (State.isArrayOf_alike hZ.alike A37.2.1) A37.2.2 hin37 hat37 (g := (mkF m 492 #[vi p0, vi p1, vj qf, v2, vi x4, vr b1, vr b11, vr b22, vr o8, vr o9, vr o10, vi (nB.toInt32), vu, vu, vu, vu] [(.int x4), (.ref b22), (.int (p1 &&& (2147483647 : Int32)))])) rfl rfl (hb hby at_492) t k) ?_
    refine gv (fun t k => iremM X35 hx rfl (hb hby at_493) rfl (fun q => absurd ((own_eq0 (by omega)).mp q) (by omega)) k) ?_
    refine gv (fun t k => XS.istore X35.here hx rfl (hb hby at_494) rfl (l' := #[vi p0, vi p1, vj qf, v2, vi x4, vr b1, vr b11, vr b22, vr o8, vr o9, vr o10, vi (nB.toInt32), vi ((p1 &&& (2147483647 : Int32)) % (nC.toInt32)), vu, vu, vu]) rfl k) ?_
    show Go p.tables e below P T35 (mkF m 496 #[vi p0, vi p1, vj qf, v2, vi x4, vr b1, vr b11, vr b22, vr o8, vr o9, vr o10, vi (nB.toInt32), vi ((p1 &&& (2147483647 : Int32)) % (nC.toInt32)), vu, vu, vu] [])
    obtain ⟨tt, htt, ett⟩ := own_tsel p1 (nC.toInt32) nC rfl (by omega) (by omega)
    rw [ett]
    have hnz : ¬ nB.toInt32 = (0 : Int32) := fun q => absurd ((own_eq0 (by omega)).mp q) (by omega)
    refine gv (fun t k => XS.lloadN X35.here hx rfl (hb hby at_496) rfl k) ?_
    refine gv (fun t k => XS.iload X35.here hx rfl (hb hby at_497) rfl k) ?_
    refine gv (fun t k => XS.aload X35.here hx rfl (hb hby at_499) rfl rfl k) ?_
    refine gv (fun t k => XS.iload X35.here hx rfl (hb hby at_501) rfl k) ?_
    obtain ⟨c38, A38, q38, S38, N38, H38, G38⟩ := id F35_3
    have hin38 : ¬ ((tt.toInt32) < 0 ∨ c38.slots.size ≤ ((tt.toInt32)).toNatClampNeg) := inb_of S38 ⟨own_nneg (by omega), (own_ltN (by omega) (by omega)).mpr htt⟩
    have hat38 : c38.slots[((tt.toInt32)).toNatClampNeg]? = some (.int (A8.getD tt 0)) := (H38 _ (Nat.lt_of_not_le fun q => hin38 (Or.inr q))).trans (congrArg some (by rw [own_clamp (by omega)]; exact own_getDI A8 tt))
    refine gv (fun t k => X35.iaload hx (j := (tt.toInt32)) (v := (.int (A8.getD tt 0))) (by rw [e35]; exact A38.1) (State.isArrayOf_alike hZ.alike A38.2.1) A38.2.2 hin38 hat38 (g := (mkF m 503 #[vi p0, vi p1, vj qf, v2, vi x4, vr b1, vr b11, vr b22, vr o8, vr o9, vr o10, vi (nB.toInt32), vi (tt.toInt32), vu, vu, vu] [(.int (tt.toInt32)), (.ref o8), (.int (nB.toInt32)), (.long qf)])) rfl rfl (hb hby at_503) t k) ?_
    obtain ⟨_, _, ⟨T39, L39, k39, n39⟩, -, X39, ⟨Lc39, hQ39, l39, y39, z39⟩, st39⟩ := Jvm.LawKit.callS X35 hx (y := (⟨LWn, "block", "(JII)J"⟩ : MethodName)) hown (mvT hZ (own_g hw 2 rfl)) (mvT hZ (own_g hw 3 rfl)) (mvT hZ (own_g hw 4 rfl)) (mvT hZ (own_g hw 5 rfl)) (by decide) (backOf (W := 0) (rm1 l Z a0 hw [] qf (nB.toInt32) (A8.getD tt 0) hp35 n0 Z35 hnz) hZ (own_g hw 5 rfl) (own_g hw 4 rfl) (by decide) (by decide)) (g := (mkF m 504 #[vi p0, vi p1, vj qf, v2, vi x4, vr b1, vr b11, vr b22, vr o8, vr o9, vr o10, vi (nB.toInt32), vi (tt.toInt32), vu, vu, vu] [(.int (A8.getD tt 0)), (.int (nB.toInt32)), (.long qf)])) rfl (by rw [hml]; rfl) (argsL := [(.long qf), (.int (nB.toInt32)), (.int (A8.getD tt 0))]) (rest := []) (lenOf own_pd11 rfl) rfl (by show 2 * 0 + _ ≤ _; exact Nat.le_of_eq rfl) (hb hby at_504) (fun _ _ => ⟨rfl, e35, (by decide : 6 + 0 ≤ _), (by decide : 45 + 0 ≤ _)⟩)
    dsimp only [Pt.U, Pt.locs, Pt.cells, Pt.slots] at X39 l39 y39 z39 st39 hQ39
    subst l39 y39 z39
    obtain ⟨rfl, Nq39, hh39⟩ := hQ39
    obtain ⟨lc39, Xh39, N39⟩ := own_hide X39 (Fr.app N35 Nq39)
    clear X39
    refine gv st39 ?_
    refine gv (fun t k => XS.lstore Xh39.here hx rfl (hb hby at_507) rfl (l' := #[vi p0, vi p1, vj qf, v2, vi x4, vr b1, vr b11, vr b22, vr o8, vr o9, vr o10, vi (nB.toInt32), vi (tt.toInt32), vj (own_blk qf (nB.toInt32) (A8.getD tt 0)), v2, vu]) rfl k) ?_
    refine gv (fun t k => XS.aload Xh39.here hx rfl (hb hby at_509) rfl rfl k) ?_
    refine gv (fun t k => XS.iload Xh39.here hx rfl (hb hby at_511) rfl k) ?_
    show Go p.tables e below P T39 (mkF m 513 #[vi p0, vi p1, vj qf, v2, vi x4, vr b1, vr b11, vr b22, vr o8, vr o9, vr o10, vi (nB.toInt32), vi (tt.toInt32), vj (own_blk qf (nB.toInt32) (A8.getD tt 0)), v2, vu] [(.int (tt.toInt32)), (.ref o9)])
    obtain ⟨c40, A40, q40, S40, N40, H40, G40⟩ := id F35_4
    have hin40 : ¬ ((tt.toInt32) < 0 ∨ c40.slots.size ≤ ((tt.toInt32)).toNatClampNeg) := inb_of S40 ⟨own_nneg (by omega), (own_ltN (by omega) (by omega)).mpr htt⟩
    have hat40 : c40.slots[((tt.toInt32)).toNatClampNeg]? = some (.int (A9.getD tt 0)) := (H40 _ (Nat.lt_of_not_le fun q => hin40 (Or.inr q))).trans (congrArg some (by rw [own_clamp (by omega)]; exact own_getDI A9 tt))
    refine gv (fun t k => Xh39.iaload hx (j := (tt.toInt32)) (v := (.int (A9.getD tt 0))) (by rw [hh39]; exact A40.1) (State.isArrayOf_alike hZ.alike A40.2.1) A40.2.2 hin40 hat40 (g := (mkF m 513 #[vi p0, vi p1, vj qf, v2, vi x4, vr b1, vr b11, vr b22, vr o8, vr o9, vr o10, vi (nB.toInt32), vi (tt.toInt32), vj (own_blk qf (nB.toInt32) (A8.getD tt 0)), v2, vu] [(.int (tt.toInt32)), (.ref o9)])) rfl rfl (hb hby at_513) t k) ?_
    show Go p.tables e below P T39 (mkF m 514 #[vi p0, vi p1, vj qf, v2, vi x4, vr b1, vr b11, vr b22, vr o8, vr o9, vr o10, vi (nB.toInt32), vi (tt.toInt32), vj (own_blk qf (nB.toInt32) (A8.getD tt 0)), v2, vu] [(.int (A9.getD tt 0))])
    have J42 : ∀ (T42 : State) (locs42 : List Loc) (v42_0 : Int64), Stand p l e room_1 s m #[(.int p0), (.int p1), (.long qf)] below meth c T42 locs42 6 45 → T42.heap = hp35 → Fr n0 locs42 → v42_0 = (if (A9.getD tt 0) < (0 : Int32) then (own_blk qf (nB.toInt32) (A8.getD tt 0)) else (((own_blk qf (nB.toInt32) (A8.getD tt 0)) <<< ((own_w (nB.toInt32) (A9.getD tt 0)) &&& 0x3f).toInt64) ||| (own_blk qf (nB.toInt32) (A9.getD tt 0)))) → Go p.tables e below P T42 (mkF m 544 #[.val (.int p0), .val (.int p1), .val (.long qf), .second, .val (.int x4), .val (.ref b1), .val (.ref b11), .val (.ref b22), .val (.ref o8), .val (.ref o9), .val (.ref o10), .val (.int (nB.toInt32)), .val (.int (tt.toInt32)), .val (.long v42_0), .second, .unset] []) := by
      intro T42 locs42 v42_0 X42 e42 N42 hv42_0
      show Go p.tables e below P T42 (mkF m 544 #[vi p0, vi p1, vj qf, v2, vi x4, vr b1, vr b11, vr b22, vr o8, vr o9, vr o10, vi (nB.toInt32), vi (tt.toInt32), vj v42_0, v2, vu] [])
      refine gv (fun t k => XS.aload X42.here hx rfl (hb hby at_544) rfl rfl k) ?_
      refine gv (fun t k => XS.iload X42.here hx rfl (hb hby at_546) rfl k) ?_
      obtain ⟨c43, A43, q43, S43, N43, H43, G43⟩ := id F35_5
      have hin43 : ¬ ((tt.toInt32) < 0 ∨ c43.slots.size ≤ ((tt.toInt32)).toNatClampNeg) := inb_of S43 ⟨own_nneg (by omega), (own_ltN (by omega) (by omega)).mpr htt⟩
      have hat43 : c43.slots[((tt.toInt32)).toNatClampNeg]? = some (.int (A10.getD tt 0)) := (H43 _ (Nat.lt_of_not_le fun q => hin43 (Or.inr q))).trans (congrArg some (by rw [own_clamp (by omega)]; exact own_getDI A10 tt))
      refine gv (fun t k => X42.iaload hx (j := (tt.toInt32)) (v := (.int (A10.getD tt 0))) (by rw [e42]; exact A43.1) (State.isArrayOf_alike hZ.alike A43.2.1) A43.2.2 hin43 hat43 (g := (mkF m 548 #[vi p0, vi p1, vj qf, v2, vi x4, vr b1, vr b11, vr b22, vr o8, vr o9, vr o10, vi (nB.toInt32), vi (tt.toInt32), vj v42_0, v2, vu] [(.int (tt.toInt32)), (.ref o10)])) rfl rfl (hb hby at_548) t k) ?_
      show Go p.tables e below P T42 (mkF m 549 #[vi p0, vi p1, vj qf, v2, vi x4, vr b1, vr b11, vr b22, vr o8, vr o9, vr o10, vi (nB.toInt32), vi (tt.toInt32), vj v42_0, v2, vu] [(.int (A10.getD tt 0))])
      have J45 : ∀ (T45 : State) (locs45 : List Loc) (v45_0 : Int64), Stand p l e room_1 s m #[(.int p0), (.int p1), (.long qf)] below meth c T45 locs45 6 45 → T45.heap = hp35 → Fr n0 locs45 → v45_0 = (if (A10.getD tt 0) < (0 : Int32) then v42_0 else ((v42_0 <<< ((own_w (nB.toInt32) (A10.getD tt 0)) &&& 0x3f).toInt64) ||| (own_blk qf (nB.toInt32) (A10.getD tt 0)))) → Go p.tables e below P T45 (mkF m 579 #[.val (.int p0), .val (.int p1), .val (.long qf), .second, .val (.int x4), .val (.ref b1), .val (.ref b11), .val (.ref b22), .val (.ref o8), .val (.ref o9), .val (.ref o10), .val (.int (nB.toInt32)), .val (.int (tt.toInt32)), .val (.long v45_0), .second, .unset] []) := by
        intro T45 locs45 v45_0 X45 e45 N45 hv45_0
        show Go p.tables e below P T45 (mkF m 579 #[vi p0, vi p1, vj qf, v2, vi x4, vr b1, vr b11, vr b22, vr o8, vr o9, vr o10, vi (nB.toInt32), vi (tt.toInt32), vj v45_0, v2, vu] [])
        obtain ⟨T46, h46, X46, e46, E46, A46, D46, -, st46⟩ := newO X45 hx hZ hown (own_g hw 9 rfl) (own_g hw 10 rfl) (own_g hw 11 rfl) e45 (g := (mkF m 579 #[vi p0, vi p1, vj qf, v2, vi x4, vr b1, vr b11, vr b22, vr o8, vr o9, vr o10, vi (nB.toInt32), vi (tt.toInt32), vj v45_0, v2, vu] [])) rfl (hb hby at_579) (by decide) (by decide)
        obtain ⟨b46, g46⟩ : ∃ z, z = hp35.size := ⟨_, rfl⟩
        rw [← g46] at A46 D46 st46
        refine gv st46 ?_
        have ne47 := Nat.ne_of_lt (Nat.lt_of_lt_of_le F35_0.lt (Nat.le_of_eq g46.symm))
        have ne48 := Nat.ne_of_lt (Nat.lt_of_lt_of_le F35_1.lt (Nat.le_of_eq g46.symm))
        have ne49 := Nat.ne_of_lt (Nat.lt_of_lt_of_le F35_2.lt (Nat.le_of_eq g46.symm))
        have ne50 := Nat.ne_of_lt (Nat.lt_of_lt_of_le F35_3.lt (Nat.le_of_eq g46.symm))
        have ne51 := Nat.ne_of_lt (Nat.lt_of_lt_of_le F35_4.lt (Nat.le_of_eq g46.symm))
        have ne52 := Nat.ne_of_lt (Nat.lt_of_lt_of_le F35_5.lt (Nat.le_of_eq g46.symm))
        have g53 := Nat.le_trans Z35 (Nat.le_of_eq g46.symm)
        have sz54 := Nat.le_trans K35.1 (Nat.le_of_eq g46.symm)
        have Z55 := Nat.le_trans Z35 E46.1
        have K56 := K35.ext E46
        refine gv (fun t k => XS.dup X46.here hx rfl (hb hby at_582) rfl rfl k) ?_
        refine gv (fun t k => XS.aload X46.here hx rfl (hb hby at_583) rfl rfl k) ?_
        refine gv (fun t k => XS.iload X46.here hx rfl (hb hby at_585) rfl k) ?_
        have F57 := (F35_0.ext E46)
        obtain ⟨c58, A58, q58, S58, N58, H58, G58⟩ := id F57
        have hin58 : ¬ (x4 < 0 ∨ c58.slots.size ≤ (x4).toNatClampNeg) := inb_of S58 ⟨by rw [hx4]; exact own_nneg (by omega), by rw [hx4]; exact (own_ltN (n := 5) (by omega) (by omega)).mpr hzq⟩
        have hat58 : c58.slots[(x4).toNatClampNeg]? = some (.int (nD.toInt32)) := (H58 _ (Nat.lt_of_not_le fun q => hin58 (Or.inr q))).trans (congrArg some (by rw [hx4, own_clamp (by omega)]; exact (own_getDI own_DC zq).trans (by rw [hdD])))
        refine gv (fun t k => X46.iaload hx (j := x4) (v := (.int (nD.toInt32))) (by rw [e46]; exact A58.1) (State.isArrayOf_alike hZ.alike A58.2.1) A58.2.2 hin58 hat58 (g := (mkF m 587 #[vi p0, vi p1, vj qf, v2, vi x4, vr b1, vr b11, vr b22, vr o8, vr o9, vr o10, vi (nB.toInt32), vi (tt.toInt32), vj v45_0, v2, vu] [(.int x4), (.ref b1), (.ref b46), (.ref b46)])) rfl rfl (hb hby at_587) t k) ?_
        refine gv (fun t k => XS.iload X46.here hx rfl (hb hby at_588) rfl k) ?_
        show Go p.tables e below P T46 (mkF m 590 #[vi p0, vi p1, vj qf, v2, vi x4, vr b1, vr b11, vr b22, vr o8, vr o9, vr o10, vi (nB.toInt32), vi (tt.toInt32), vj v45_0, v2, vu] [(.int (nB.toInt32)), (.int (nD.toInt32)), (.ref b46), (.ref b46)])
        rcases hmode with ⟨m1, m2, m3, m4⟩ | ⟨m1, m2, m3, m4⟩
        · show Go p.tables e below P T46 (mkF m 590 #[vi p0, vi p1, vj qf, v2, vi x4, vr b1, vr b11, vr b22, vr o8, vr o9, vr o10, vi (nB.toInt32), vi (tt.toInt32), vj v45_0, v2, vu] [(.int (nB.toInt32)), (.int (nD.toInt32)), (.ref b46), (.ref b46)])
          obtain ⟨_, _, ⟨T59, L59, k59, n59⟩, -, X59, ⟨Lc59, hQ59, l59, y59, z59⟩, st59⟩ := X46.specialBack hx (y := (⟨BLn, "<init>", "(II)V"⟩ : MethodName)) rfl hown (mvT hZ (own_g hw 12 rfl)) (mvT hZ (own_g hw 13 rfl)) (mvT hZ (own_g hw 14 rfl)) (by decide) (backOf (W := 1) (rm3 l Z a0 hw [] b46 nB nD nC nc tt h46 n0 Z55 A46 (D46 (Or.inr (own_g hw 24 rfl)) (ty := .int) (by decide) : Fld Z h46 b46 BLn "distance" "I" (.int 0)) (D46 (Or.inr (own_g hw 26 rfl)) (ty := (.array .int)) (by decide) : Fld Z h46 b46 BLn "widths" "[I" .null) (D46 (Or.inr (own_g hw 34 rfl)) (ty := (.array .long)) (by decide) : Fld Z h46 b46 BLn "keyMasks" "[J" .null) (D46 (Or.inr (own_g hw 38 rfl)) (ty := (.array (.array .int))) (by decide) : Fld Z h46 b46 BLn "runShifts" "[[I" .null) (D46 (Or.inr (own_g hw 40 rfl)) (ty := (.array (.array .int))) (by decide) : Fld Z h46 b46 BLn "runWidths" "[[I" .null) (D46 (Or.inr (own_g hw 32 rfl)) (ty := (.array .int)) (by decide) : Fld Z h46 b46 BLn "radii" "[I" .null) (D46 (Or.inr (own_g hw 44 rfl)) (ty := (.array (.array .long))) (by decide) : Fld Z h46 b46 BLn "keyDifferences" "[[J" .null) (D46 (Or.inr (own_g hw 46 rfl)) (ty := (.array .long)) (by decide) : Fld Z h46 b46 BLn "skippedTops" "[J" .null) (D46 (Or.inr (own_g hw 48 rfl)) (ty := (.array .long)) (by decide) : Fld Z h46 b46 BLn "skippedLows" "[J" .null) (D46 (Or.inr (own_g hw 50 rfl)) (ty := (.array (.array .int))) (by decide) : Fld Z h46 b46 BLn "earlierWithRadius" "[[I" .null) g53 (by first | assumption | decide | omega) (by first | assumption | decide | omega) (by first | assumption | decide | omega) (by first | assumption | decide | omega) (by first | assumption | decide | omega) htt m3 m4) hZ (own_g hw 14 rfl) (own_g hw 11 rfl) (by decide) (by decide)) (g := (mkF m 590 #[vi p0, vi p1, vj qf, v2, vi x4, vr b1, vr b11, vr b22, vr o8, vr o9, vr o10, vi (nB.toInt32), vi (tt.toInt32), vj v45_0, v2, vu] [(.int (nB.toInt32)), (.int (nD.toInt32)), (.ref b46), (.ref b46)])) rfl (by rw [hml]; rfl) (Steps.refl _) (a := b46) (argsL := [(.int (nD.toInt32)), (.int (nB.toInt32))]) (rest := [(.ref b46)]) (lenOf own_pd12 rfl) rfl (by show 2 * 0 + _ ≤ _; exact Nat.le_of_eq rfl) (hb hby at_590) (fun _ _ => ⟨rfl, e46, (by decide : 7 + 102 ≤ _), (by decide : 55 + 1136 ≤ _)⟩)
          dsimp only [Pt.U, Pt.locs, Pt.cells, Pt.slots] at X59 l59 y59 z59 st59 hQ59
          subst l59 y59 z59
          obtain ⟨or2_59, or3_59, ck2_59, ck3_59, vl2_59, vl3_59, s1_59, s2_59, ks1_59, ks2_59, rfl, Nq59, K59, u59_0, u59_1, u59_2, u59_3, u59_4, u59_5, u59_6, u59_7, u59_8⟩ := hQ59
          obtain ⟨lc59, Xh59, N59⟩ := own_hide X59 (Fr.app N45 Nq59)
          clear X59
          refine Go.hop st59 ?_
          have Z60 := Nat.le_trans Z55 K59.1
          have K61 := K56.trans K59 (own_allC (Or.inr sz54) own_all0)
          refine gv (fun t k => XS.astore Xh59.here hx rfl (hb hby at_593) rfl rfl (l' := #[vi p0, vi p1, vj qf, v2, vi x4, vr b1, vr b11, vr b22, vr o8, vr o9, vr o10, vi (nB.toInt32), vi (tt.toInt32), vj v45_0, v2, vr b46]) rfl k) ?_
          refine gv (fun t k => XS.aload Xh59.here hx rfl (hb hby at_595) rfl rfl k) ?_
          refine gv (fun t k => XS.iload Xh59.here hx rfl (hb hby at_597) rfl k) ?_
          refine gv (fun t k => XS.lloadN Xh59.here hx rfl (hb hby at_599) rfl k) ?_
          show Go p.tables e below P T59 (mkF m 600 #[vi p0, vi p1, vj qf, v2, vi x4, vr b1, vr b11, vr b22, vr o8, vr o9, vr o10, vi (nB.toInt32), vi (tt.toInt32), vj v45_0, v2, vr b46] [(.long qf), (.int (tt.toInt32)), (.ref b46)])
          obtain ⟨cq62, kq62, q62a, q62b, q62c⟩ := isOf hZ rfl u59_0
          obtain ⟨_, _, ⟨T62, L62, k62, n62⟩, -, X62, ⟨Lc62, hQ62, l62, y62, z62⟩, st62⟩ := Xh59.virtualBack hx (y := (⟨BLn, "key", "(IJ)J"⟩ : MethodName)) (z := (⟨BLn, "key", "(IJ)J"⟩ : MethodName)) hown (mvT hZ (own_g hw 92 rfl)) (mvT hZ (own_g hw 93 rfl)) (notFace_of_selects (args := #[]) (mvT hZ (own_g hw 95 rfl))) (mvT hZ (own_g hw 95 rfl)) (mvT hZ (own_g hw 94 rfl)) (by decide) (backOf (W := 0) (rm15 l Z a0 hw [] b46 (tt.toInt32) qf or2_59 or3_59 ck2_59 ck3_59 vl2_59 vl3_59 s1_59 s2_59 ks1_59 ks2_59 nC tt ((own_rs (own_ch (nB.toInt32) nc tt) (own_sl (nB.toInt32) nB) (own_wl (nB.toInt32) nB) nc).1) ((own_rs (own_ch (nB.toInt32) nc tt) (own_sl (nB.toInt32) nB) (own_wl (nB.toInt32) nB) nc).2.1) ((own_rs (own_ch (nB.toInt32) nc tt) (own_sl (nB.toInt32) nB) (own_wl (nB.toInt32) nB) nc).2.2) T59.heap n0 Z60 u59_1 u59_2 u59_3 u59_4 u59_5 u59_6 rfl (by omega) (by first | assumption | decide | omega) (Nat.le_trans (own_rs_b _ _ _ _).1 (by first | decide | omega)) u59_7 u59_8) hZ (own_g hw 96 rfl) (own_g hw 11 rfl) (by decide) (by decide)) q62a q62c (g := (mkF m 600 #[vi p0, vi p1, vj qf, v2, vi x4, vr b1, vr b11, vr b22, vr o8, vr o9, vr o10, vi (nB.toInt32), vi (tt.toInt32), vj v45_0, v2, vr b46] [(.long qf), (.int (tt.toInt32)), (.ref b46)])) rfl (by rw [hml]; rfl) (Steps.refl _) (argsL := [(.int (tt.toInt32)), (.long qf)]) (rest := []) (lenOf own_pd13 rfl) rfl (by show 2 * 0 + _ ≤ _; exact Nat.le_of_eq rfl) (hb hby at_600) (fun _ _ => ⟨rfl, rfl, (by decide : 109 + 0 ≤ _), (by decide : 1191 + 0 ≤ _)⟩)
          dsimp only [Pt.U, Pt.locs, Pt.cells, Pt.slots] at X62 l62 y62 z62 st62 hQ62
          subst l62 y62 z62
          obtain ⟨rfl, Nq62, hh62⟩ := hQ62
          obtain ⟨lc62, Xh62, N62⟩ := own_hide X62 (Fr.app N59 Nq62)
          clear X62
          refine Go.hop st62 ?_
          refine gv (fun t k => XS.lload Xh62.here hx rfl (hb hby at_603) rfl k) ?_
          have hfin := hlaw tt qf htt
          have hve : v45_0 = own_exp qf (nB.toInt32) A8 A9 A10 tt := by rw [hv45_0, hv42_0]; rfl
          refine gv (fun t k => XS.lcmp Xh62.here hx rfl (hb hby at_605) rfl k) ?_
          refine gv (fun t k => XS.ifNo Xh62.here hx rfl (hb hby at_606) rfl ((if0 _ _).trans (teq ((lw_eq _ _).mpr (hfin.trans hve.symm))).2) k) ?_
          refine gv (fun t k => XS.iconst Xh62.here hx rfl (hb hby at_609) k) ?_
          refine gv (fun t k => XS.goto Xh62.here hx rfl (pc0 := 610) (pc' := 614) rfl (hb hby at_610) (by decide) (by decide) k) ?_
          show Go p.tables e below P T62 (mkF m 614 #[vi p0, vi p1, vj qf, v2, vi x4, vr b1, vr b11, vr b22, vr o8, vr o9, vr o10, vi (nB.toInt32), vi (tt.toInt32), vj v45_0, v2, vr b46] [(.int 1)])
          obtain ⟨fs, hr, hrun, hended, hW, hsame⟩ := Xh62.leave (v := some (.int 1)) (fun h => by rw [Bd.returns] at h; cases h)
          refine ⟨_, _, retZ Xh62 hx (t := .boolean) Bd.returns (by simp) (hb hby at_614) rfl hr, hrun, hended, hP _ _ ⟨_, _, rfl, ?_, ⟨_, rfl⟩, hW, hsame.mono (by decide) (by decide)⟩⟩
          show Q0 Z p0 p1 qf h0 n0 _ T62.heap _
          rw [hh62]
          exact ⟨rfl, N62⟩
        · rw [(show nB.toInt32 = (2 : Int32) from by rw [m1]; rfl), (show nD.toInt32 = (2 : Int32) from by rw [m2]; rfl)]
          show Go p.tables e below P T46 (mkF m 590 #[vi p0, vi p1, vj qf, v2, vi x4, vr b1, vr b11, vr b22, vr o8, vr o9, vr o10, vi 2, vi (tt.toInt32), vj v45_0, v2, vu] [(.int 2), (.int 2), (.ref b46), (.ref b46)])
          obtain ⟨_, _, ⟨T64, L64, k64, n64⟩, -, X64, ⟨Lc64, hQ64, l64, y64, z64⟩, st64⟩ := X46.specialBack hx (y := (⟨BLn, "<init>", "(II)V"⟩ : MethodName)) rfl hown (mvT hZ (own_g hw 12 rfl)) (mvT hZ (own_g hw 13 rfl)) (mvT hZ (own_g hw 14 rfl)) (by decide) (backOf (W := 1) (rm3o l Z a0 hw [] b46 tt h46 n0 Z55 A46 (D46 (Or.inr (own_g hw 24 rfl)) (ty := .int) (by decide) : Fld Z h46 b46 BLn "distance" "I" (.int 0)) (D46 (Or.inr (own_g hw 26 rfl)) (ty := (.array .int)) (by decide) : Fld Z h46 b46 BLn "widths" "[I" .null) (D46 (Or.inr (own_g hw 34 rfl)) (ty := (.array .long)) (by decide) : Fld Z h46 b46 BLn "keyMasks" "[J" .null) (D46 (Or.inr (own_g hw 38 rfl)) (ty := (.array (.array .int))) (by decide) : Fld Z h46 b46 BLn "runShifts" "[[I" .null) (D46 (Or.inr (own_g hw 40 rfl)) (ty := (.array (.array .int))) (by decide) : Fld Z h46 b46 BLn "runWidths" "[[I" .null) (D46 (Or.inr (own_g hw 32 rfl)) (ty := (.array .int)) (by decide) : Fld Z h46 b46 BLn "radii" "[I" .null) (D46 (Or.inr (own_g hw 44 rfl)) (ty := (.array (.array .long))) (by decide) : Fld Z h46 b46 BLn "keyDifferences" "[[J" .null) (D46 (Or.inr (own_g hw 46 rfl)) (ty := (.array .long)) (by decide) : Fld Z h46 b46 BLn "skippedTops" "[J" .null) (D46 (Or.inr (own_g hw 48 rfl)) (ty := (.array .long)) (by decide) : Fld Z h46 b46 BLn "skippedLows" "[J" .null) (D46 (Or.inr (own_g hw 50 rfl)) (ty := (.array (.array .int))) (by decide) : Fld Z h46 b46 BLn "earlierWithRadius" "[[I" .null) g53 (by omega)) hZ (own_g hw 14 rfl) (own_g hw 11 rfl) (by decide) (by decide)) (g := (mkF m 590 #[vi p0, vi p1, vj qf, v2, vi x4, vr b1, vr b11, vr b22, vr o8, vr o9, vr o10, vi 2, vi (tt.toInt32), vj v45_0, v2, vu] [(.int 2), (.int 2), (.ref b46), (.ref b46)])) rfl (by rw [hml]; rfl) (Steps.refl _) (a := b46) (argsL := [(.int 2), (.int 2)]) (rest := [(.ref b46)]) (lenOf own_pd12 rfl) rfl (by show 2 * 0 + _ ≤ _; exact Nat.le_of_eq rfl) (hb hby at_590) (fun _ _ => ⟨rfl, e46, (by decide : 7 + 37 ≤ _), (by decide : 55 + 720 ≤ _)⟩)
          dsimp only [Pt.U, Pt.locs, Pt.cells, Pt.slots] at X64 l64 y64 z64 st64 hQ64
          subst l64 y64 z64
          obtain ⟨or2_64, or3_64, ck2_64, ck3_64, vl2_64, vl3_64, s1_64, s2_64, ks1_64, ks2_64, rfl, Nq64, K64, u64_0, u64_1, u64_2, u64_3, u64_4, u64_5, u64_6, u64_7, u64_8⟩ := hQ64
          obtain ⟨lc64, Xh64, N64⟩ := own_hide X64 (Fr.app N45 Nq64)
          clear X64
          refine Go.hop st64 ?_
          have Z65 := Nat.le_trans Z55 K64.1
          have K66 := K56.trans K64 (own_allC (Or.inr sz54) own_all0)
          refine gv (fun t k => XS.astore Xh64.here hx rfl (hb hby at_593) rfl rfl (l' := #[vi p0, vi p1, vj qf, v2, vi x4, vr b1, vr b11, vr b22, vr o8, vr o9, vr o10, vi 2, vi (tt.toInt32), vj v45_0, v2, vr b46]) rfl k) ?_
          refine gv (fun t k => XS.aload Xh64.here hx rfl (hb hby at_595) rfl rfl k) ?_
          refine gv (fun t k => XS.iload Xh64.here hx rfl (hb hby at_597) rfl k) ?_
          refine gv (fun t k => XS.lloadN Xh64.here hx rfl (hb hby at_599) rfl k) ?_
          show Go p.tables e below P T64 (mkF m 600 #[vi p0, vi p1, vj qf, v2, vi x4, vr b1, vr b11, vr b22, vr o8, vr o9, vr o10, vi 2, vi (tt.toInt32), vj v45_0, v2, vr b46] [(.long qf), (.int (tt.toInt32)), (.ref b46)])
          obtain ⟨cq67, kq67, q67a, q67b, q67c⟩ := isOf hZ rfl u64_0
          obtain ⟨_, _, ⟨T67, L67, k67, n67⟩, -, X67, ⟨Lc67, hQ67, l67, y67, z67⟩, st67⟩ := Xh64.virtualBack hx (y := (⟨BLn, "key", "(IJ)J"⟩ : MethodName)) (z := (⟨BLn, "key", "(IJ)J"⟩ : MethodName)) hown (mvT hZ (own_g hw 92 rfl)) (mvT hZ (own_g hw 93 rfl)) (notFace_of_selects (args := #[]) (mvT hZ (own_g hw 95 rfl))) (mvT hZ (own_g hw 95 rfl)) (mvT hZ (own_g hw 94 rfl)) (by decide) (backOf (W := 0) (rm15 l Z a0 hw [] b46 (tt.toInt32) qf or2_64 or3_64 ck2_64 ck3_64 vl2_64 vl3_64 s1_64 s2_64 ks1_64 ks2_64 2 tt ((own_rs (own_ch (2 : Int32) 1 tt) (own_sl (2 : Int32) 2) (own_wl (2 : Int32) 2) 1).1) ((own_rs (own_ch (2 : Int32) 1 tt) (own_sl (2 : Int32) 2) (own_wl (2 : Int32) 2) 1).2.1) ((own_rs (own_ch (2 : Int32) 1 tt) (own_sl (2 : Int32) 2) (own_wl (2 : Int32) 2) 1).2.2) T64.heap n0 Z65 u64_1 u64_2 u64_3 u64_4 u64_5 u64_6 rfl (by omega) (by first | assumption | decide | omega) (Nat.le_trans (own_rs_b _ _ _ _).1 (by first | decide | omega)) u64_7 u64_8) hZ (own_g hw 96 rfl) (own_g hw 11 rfl) (by decide) (by decide)) q67a q67c (g := (mkF m 600 #[vi p0, vi p1, vj qf, v2, vi x4, vr b1, vr b11, vr b22, vr o8, vr o9, vr o10, vi 2, vi (tt.toInt32), vj v45_0, v2, vr b46] [(.long qf), (.int (tt.toInt32)), (.ref b46)])) rfl (by rw [hml]; rfl) (Steps.refl _) (argsL := [(.int (tt.toInt32)), (.long qf)]) (rest := []) (lenOf own_pd13 rfl) rfl (by show 2 * 0 + _ ≤ _; exact Nat.le_of_eq rfl) (hb hby at_600) (fun _ _ => ⟨rfl, rfl, (by decide : 44 + 0 ≤ _), (by decide : 775 + 0 ≤ _)⟩)
          dsimp only [Pt.U, Pt.locs, Pt.cells, Pt.slots] at X67 l67 y67 z67 st67 hQ67
          subst l67 y67 z67
          obtain ⟨rfl, Nq67, hh67⟩ := hQ67
          obtain ⟨lc67, Xh67, N67⟩ := own_hide X67 (Fr.app N64 Nq67)
          clear X67
          refine Go.hop st67 ?_
          refine gv (fun t k => XS.lload Xh67.here hx rfl (hb hby at_603) rfl k) ?_
          show Go p.tables e below P T67 (mkF m 605 #[vi p0, vi p1, vj qf, v2, vi x4, vr b1, vr b11, vr b22, vr o8, vr o9, vr o10, vi 2, vi (tt.toInt32), vj v45_0, v2, vr b46] [(.long v45_0), (.long (own_key (own_rs (own_ch (2 : Int32) 1 tt) (own_sl (2 : Int32) 2) (own_wl (2 : Int32) 2) 1).2.1 (own_rs (own_ch (2 : Int32) 1 tt) (own_sl (2 : Int32) 2) (own_wl (2 : Int32) 2) 1).2.2 qf (own_rs (own_ch (2 : Int32) 1 tt) (own_sl (2 : Int32) 2) (own_wl (2 : Int32) 2) 1).1))])
          have hfin := hlaw tt qf htt
          rw [m1, m4] at hfin
          have hve : v45_0 = own_exp qf (nB.toInt32) A8 A9 A10 tt := by rw [hv45_0, hv42_0]; rfl
          rw [m1] at hve
          refine gv (fun t k => XS.lcmp Xh67.here hx rfl (hb hby at_605) rfl k) ?_
          refine gv (fun t k => XS.ifNo Xh67.here hx rfl (hb hby at_606) rfl ((if0 _ _).trans (teq ((lw_eq _ _).mpr (hfin.trans hve.symm))).2) k) ?_
          refine gv (fun t k => XS.iconst Xh67.here hx rfl (hb hby at_609) k) ?_
          refine gv (fun t k => XS.goto Xh67.here hx rfl (pc0 := 610) (pc' := 614) rfl (hb hby at_610) (by decide) (by decide) k) ?_
          show Go p.tables e below P T67 (mkF m 614 #[vi p0, vi p1, vj qf, v2, vi x4, vr b1, vr b11, vr b22, vr o8, vr o9, vr o10, vi 2, vi (tt.toInt32), vj v45_0, v2, vr b46] [(.int 1)])
          obtain ⟨fs, hr, hrun, hended, hW, hsame⟩ := Xh67.leave (v := some (.int 1)) (fun h => by rw [Bd.returns] at h; cases h)
          refine ⟨_, _, retZ Xh67 hx (t := .boolean) Bd.returns (by simp) (hb hby at_614) rfl hr, hrun, hended, hP _ _ ⟨_, _, rfl, ?_, ⟨_, rfl⟩, hW, hsame.mono (by decide) (by decide)⟩⟩
          show Q0 Z p0 p1 qf h0 n0 _ T67.heap _
          rw [hh67]
          exact ⟨rfl, N67⟩
      by_cases hc44 : (A10.getD tt 0) < (0 : Int32)
      · refine gv (fun t k => XS.ifYes X42.here hx rfl (pc0 := 549) (pc' := 579) rfl (hb hby at_549) rfl ((if0 _ _).trans (tlt hc44).1) (by decide) (by decide) k) ?_
        exact J45 T42 _ v42_0 (ownUp X42 (by decide) (by decide)) e42 N42 (if_pos hc44).symm
      · refine gv (fun t k => XS.ifNo X42.here hx rfl (hb hby at_549) rfl ((if0 _ _).trans (flt hc44).1) k) ?_
        refine gv (fun t k => XS.lload X42.here hx rfl (hb hby at_552) rfl k) ?_
        refine gv (fun t k => XS.iload X42.here hx rfl (hb hby at_554) rfl k) ?_
        refine gv (fun t k => XS.aload X42.here hx rfl (hb hby at_556) rfl rfl k) ?_
        refine gv (fun t k => XS.iload X42.here hx rfl (hb hby at_558) rfl k) ?_
        obtain ⟨c69, A69, q69, S69, N69, H69, G69⟩ := id F35_5
        have hin69 : ¬ ((tt.toInt32) < 0 ∨ c69.slots.size ≤ ((tt.toInt32)).toNatClampNeg) := inb_of S69 ⟨own_nneg (by omega), (own_ltN (by omega) (by omega)).mpr htt⟩
        have hat69 : c69.slots[((tt.toInt32)).toNatClampNeg]? = some (.int (A10.getD tt 0)) := (H69 _ (Nat.lt_of_not_le fun q => hin69 (Or.inr q))).trans (congrArg some (by rw [own_clamp (by omega)]; exact own_getDI A10 tt))
        refine gv (fun t k => X42.iaload hx (j := (tt.toInt32)) (v := (.int (A10.getD tt 0))) (by rw [e42]; exact A69.1) (State.isArrayOf_alike hZ.alike A69.2.1) A69.2.2 hin69 hat69 (g := (mkF m 560 #[vi p0, vi p1, vj qf, v2, vi x4, vr b1, vr b11, vr b22, vr o8, vr o9, vr o10, vi (nB.toInt32), vi (tt.toInt32), vj v42_0, v2, vu] [(.int (tt.toInt32)), (.ref o10), (.int (nB.toInt32)), (.long v42_0)])) rfl rfl (hb hby at_560) t k) ?_
        obtain ⟨_, _, ⟨T70, L70, k70, n70⟩, -, X70, ⟨Lc70, hQ70, l70, y70, z70⟩, st70⟩ := Jvm.LawKit.callS X42 hx (y := (⟨LWn, "width", "(II)I"⟩ : MethodName)) hown (mvT hZ (own_g hw 6 rfl)) (mvT hZ (own_g hw 7 rfl)) (mvT hZ (own_g hw 4 rfl)) (mvT hZ (own_g hw 8 rfl)) (by decide) (backOf (W := 2) (rm2 l Z a0 hw [] (nB.toInt32) (A10.getD tt 0) hp35 n0 Z35 hnz) hZ (own_g hw 8 rfl) (own_g hw 4 rfl) (by decide) (by decide)) (g := (mkF m 561 #[vi p0, vi p1, vj qf, v2, vi x4, vr b1, vr b11, vr b22, vr o8, vr o9, vr o10, vi (nB.toInt32), vi (tt.toInt32), vj v42_0, v2, vu] [(.int (A10.getD tt 0)), (.int (nB.toInt32)), (.long v42_0)])) rfl (by rw [hml]; rfl) (argsL := [(.int (nB.toInt32)), (.int (A10.getD tt 0))]) (rest := [(.long v42_0)]) (lenOf own_pd0 rfl) rfl (by show 2 * 0 + _ ≤ _; exact Nat.le_of_eq rfl) (hb hby at_561) (fun _ _ => ⟨rfl, e42, (by decide : 6 + 0 ≤ _), (by decide : 45 + 0 ≤ _)⟩)
        dsimp only [Pt.U, Pt.locs, Pt.cells, Pt.slots] at X70 l70 y70 z70 st70 hQ70
        subst l70 y70 z70
        obtain ⟨rfl, Nq70, hh70⟩ := hQ70
        obtain ⟨lc70, Xh70, N70⟩ := own_hide X70 (Fr.app N42 Nq70)
        clear X70
        refine gv st70 ?_
        refine gv (fun t k => XS.lshl Xh70.here hx rfl (hb hby at_564) rfl k) ?_
        refine gv (fun t k => XS.lloadN Xh70.here hx rfl (hb hby at_565) rfl k) ?_
        show Go p.tables e below P T70 (mkF m 566 #[vi p0, vi p1, vj qf, v2, vi x4, vr b1, vr b11, vr b22, vr o8, vr o9, vr o10, vi (nB.toInt32), vi (tt.toInt32), vj v42_0, v2, vu] [(.long qf), (.long (v42_0 <<< ((own_w (nB.toInt32) (A10.getD tt 0)) &&& 0x3f).toInt64))])
        refine gv (fun t k => XS.iload Xh70.here hx rfl (hb hby at_566) rfl k) ?_
        refine gv (fun t k => XS.aload Xh70.here hx rfl (hb hby at_568) rfl rfl k) ?_
        refine gv (fun t k => XS.iload Xh70.here hx rfl (hb hby at_570) rfl k) ?_
        obtain ⟨c71, A71, q71, S71, N71, H71, G71⟩ := id F35_5
        have hin71 : ¬ ((tt.toInt32) < 0 ∨ c71.slots.size ≤ ((tt.toInt32)).toNatClampNeg) := inb_of S71 ⟨own_nneg (by omega), (own_ltN (by omega) (by omega)).mpr htt⟩
        have hat71 : c71.slots[((tt.toInt32)).toNatClampNeg]? = some (.int (A10.getD tt 0)) := (H71 _ (Nat.lt_of_not_le fun q => hin71 (Or.inr q))).trans (congrArg some (by rw [own_clamp (by omega)]; exact own_getDI A10 tt))
        refine gv (fun t k => Xh70.iaload hx (j := (tt.toInt32)) (v := (.int (A10.getD tt 0))) (by rw [hh70]; exact A71.1) (State.isArrayOf_alike hZ.alike A71.2.1) A71.2.2 hin71 hat71 (g := (mkF m 572 #[vi p0, vi p1, vj qf, v2, vi x4, vr b1, vr b11, vr b22, vr o8, vr o9, vr o10, vi (nB.toInt32), vi (tt.toInt32), vj v42_0, v2, vu] [(.int (tt.toInt32)), (.ref o10), (.int (nB.toInt32)), (.long qf), (.long (v42_0 <<< ((own_w (nB.toInt32) (A10.getD tt 0)) &&& 0x3f).toInt64))])) rfl rfl (hb hby at_572) t k) ?_
        obtain ⟨_, _, ⟨T72, L72, k72, n72⟩, -, X72, ⟨Lc72, hQ72, l72, y72, z72⟩, st72⟩ := Jvm.LawKit.callS Xh70 hx (y := (⟨LWn, "block", "(JII)J"⟩ : MethodName)) hown (mvT hZ (own_g hw 2 rfl)) (mvT hZ (own_g hw 3 rfl)) (mvT hZ (own_g hw 4 rfl)) (mvT hZ (own_g hw 5 rfl)) (by decide) (backOf (W := 2) (rm1 l Z a0 hw [] qf (nB.toInt32) (A10.getD tt 0) hp35 n0 Z35 hnz) hZ (own_g hw 5 rfl) (own_g hw 4 rfl) (by decide) (by decide)) (g := (mkF m 573 #[vi p0, vi p1, vj qf, v2, vi x4, vr b1, vr b11, vr b22, vr o8, vr o9, vr o10, vi (nB.toInt32), vi (tt.toInt32), vj v42_0, v2, vu] [(.int (A10.getD tt 0)), (.int (nB.toInt32)), (.long qf), (.long (v42_0 <<< ((own_w (nB.toInt32) (A10.getD tt 0)) &&& 0x3f).toInt64))])) rfl (by rw [hml]; rfl) (argsL := [(.long qf), (.int (nB.toInt32)), (.int (A10.getD tt 0))]) (rest := [(.long (v42_0 <<< ((own_w (nB.toInt32) (A10.getD tt 0)) &&& 0x3f).toInt64))]) (lenOf own_pd11 rfl) rfl (by show 2 * 0 + _ ≤ _; exact Nat.le_of_eq rfl) (hb hby at_573) (fun _ _ => ⟨rfl, hh70, (by decide : 6 + 0 ≤ _), (by decide : 45 + 0 ≤ _)⟩)
        dsimp only [Pt.U, Pt.locs, Pt.cells, Pt.slots] at X72 l72 y72 z72 st72 hQ72
        subst l72 y72 z72
        obtain ⟨rfl, Nq72, hh72⟩ := hQ72
        obtain ⟨lc72, Xh72, N72⟩ := own_hide X72 (Fr.app N70 Nq72)
        clear X72
        refine gv st72 ?_
        refine gv (fun t k => XS.lor Xh72.here hx rfl (hb hby at_576) rfl k) ?_
        refine gv (fun t k => XS.lstore Xh72.here hx rfl (hb hby at_577) rfl (l' := #[vi p0, vi p1, vj qf, v2, vi x4, vr b1, vr b11, vr b22, vr o8, vr o9, vr o10, vi (nB.toInt32), vi (tt.toInt32), vj ((v42_0 <<< ((own_w (nB.toInt32) (A10.getD tt 0)) &&& 0x3f).toInt64) ||| (own_blk qf (nB.toInt32) (A10.getD tt 0))), v2, vu]) rfl k) ?_
        exact J45 T72 _ ((v42_0 <<< ((own_w (nB.toInt32) (A10.getD tt 0)) &&& 0x3f).toInt64) ||| (own_blk qf (nB.toInt32) (A10.getD tt 0))) (ownUp Xh72 (by decide) (by decide)) hh72 N72 (if_neg hc44).symm
    by_cases hc41 : (A9.getD tt 0) < (0 : Int32)
    · refine gv (fun t k => XS.ifYes Xh39.here hx rfl (pc0 := 514) (pc' := 544) rfl (hb hby at_514) rfl ((if0 _ _).trans (tlt hc41).1) (by decide) (by decide) k) ?_
      exact J42 T39 _ (own_blk qf (nB.toInt32) (A8.getD tt 0)) Xh39 hh39 N39 (if_pos hc41).symm
    · refine gv (fun t k => XS.ifNo Xh39.here hx rfl (hb hby at_514) rfl ((if0 _ _).trans (flt hc41).1) k) ?_
      refine gv (fun t k => XS.lload Xh39.here hx rfl (hb hby at_517) rfl k) ?_
      refine gv (fun t k => XS.iload Xh39.here hx rfl (hb hby at_519) rfl k) ?_
      show Go p.tables e below P T39 (mkF m 521 #[vi p0, vi p1, vj qf, v2, vi x4, vr b1, vr b11, vr b22, vr o8, vr o9, vr o10, vi (nB.toInt32), vi (tt.toInt32), vj (own_blk qf (nB.toInt32) (A8.getD tt 0)), v2, vu] [(.int (nB.toInt32)), (.long (own_blk qf (nB.toInt32) (A8.getD tt 0)))])
      refine gv (fun t k => XS.aload Xh39.here hx rfl (hb hby at_521) rfl rfl k) ?_
      refine gv (fun t k => XS.iload Xh39.here hx rfl (hb hby at_523) rfl k) ?_
      obtain ⟨c73, A73, q73, S73, N73, H73, G73⟩ := id F35_4
      have hin73 : ¬ ((tt.toInt32) < 0 ∨ c73.slots.size ≤ ((tt.toInt32)).toNatClampNeg) := inb_of S73 ⟨own_nneg (by omega), (own_ltN (by omega) (by omega)).mpr htt⟩
      have hat73 : c73.slots[((tt.toInt32)).toNatClampNeg]? = some (.int (A9.getD tt 0)) := (H73 _ (Nat.lt_of_not_le fun q => hin73 (Or.inr q))).trans (congrArg some (by rw [own_clamp (by omega)]; exact own_getDI A9 tt))
      refine gv (fun t k => Xh39.iaload hx (j := (tt.toInt32)) (v := (.int (A9.getD tt 0))) (by rw [hh39]; exact A73.1) (State.isArrayOf_alike hZ.alike A73.2.1) A73.2.2 hin73 hat73 (g := (mkF m 525 #[vi p0, vi p1, vj qf, v2, vi x4, vr b1, vr b11, vr b22, vr o8, vr o9, vr o10, vi (nB.toInt32), vi (tt.toInt32), vj (own_blk qf (nB.toInt32) (A8.getD tt 0)), v2, vu] [(.int (tt.toInt32)), (.ref o9), (.int (nB.toInt32)), (.long (own_blk qf (nB.toInt32) (A8.getD tt 0)))])) rfl rfl (hb hby at_525) t k) ?_
      obtain ⟨_, _, ⟨T74, L74, k74, n74⟩, -, X74, ⟨Lc74, hQ74, l74, y74, z74⟩, st74⟩ := Jvm.LawKit.callS Xh39 hx (y := (⟨LWn, "width", "(II)I"⟩ : MethodName)) hown (mvT hZ (own_g hw 6 rfl)) (mvT hZ (own_g hw 7 rfl)) (mvT hZ (own_g hw 4 rfl)) (mvT hZ (own_g hw 8 rfl)) (by decide) (backOf (W := 2) (rm2 l Z a0 hw [] (nB.toInt32) (A9.getD tt 0) hp35 n0 Z35 hnz) hZ (own_g hw 8 rfl) (own_g hw 4 rfl) (by decide) (by decide)) (g := (mkF m 526 #[vi p0, vi p1, vj qf, v2, vi x4, vr b1, vr b11, vr b22, vr o8, vr o9, vr o10, vi (nB.toInt32), vi (tt.toInt32), vj (own_blk qf (nB.toInt32) (A8.getD tt 0)), v2, vu] [(.int (A9.getD tt 0)), (.int (nB.toInt32)), (.long (own_blk qf (nB.toInt32) (A8.getD tt 0)))])) rfl (by rw [hml]; rfl) (argsL := [(.int (nB.toInt32)), (.int (A9.getD tt 0))]) (rest := [(.long (own_blk qf (nB.toInt32) (A8.getD tt 0)))]) (lenOf own_pd0 rfl) rfl (by show 2 * 0 + _ ≤ _; exact Nat.le_of_eq rfl) (hb hby at_526) (fun _ _ => ⟨rfl, hh39, (by decide : 6 + 0 ≤ _), (by decide : 45 + 0 ≤ _)⟩)
      dsimp only [Pt.U, Pt.locs, Pt.cells, Pt.slots] at X74 l74 y74 z74 st74 hQ74
      subst l74 y74 z74
      obtain ⟨rfl, Nq74, hh74⟩ := hQ74
      obtain ⟨lc74, Xh74, N74⟩ := own_hide X74 (Fr.app N39 Nq74)
      clear X74
      refine gv st74 ?_
      refine gv (fun t k => XS.lshl Xh74.here hx rfl (hb hby at_529) rfl k) ?_
      refine gv (fun t k => XS.lloadN Xh74.here hx rfl (hb hby at_530) rfl k) ?_
      refine gv (fun t k => XS.iload Xh74.here hx rfl (hb hby at_531) rfl k) ?_
      refine gv (fun t k => XS.aload Xh74.here hx rfl (hb hby at_533) rfl rfl k) ?_
      refine gv (fun t k => XS.iload Xh74.here hx rfl (hb hby at_535) rfl k) ?_
      show Go p.tables e below P T74 (mkF m 537 #[vi p0, vi p1, vj qf, v2, vi x4, vr b1, vr b11, vr b22, vr o8, vr o9, vr o10, vi (nB.toInt32), vi (tt.toInt32), vj (own_blk qf (nB.toInt32) (A8.getD tt 0)), v2, vu] [(.int (tt.toInt32)), (.ref o9), (.int (nB.toInt32)), (.long qf), (.long ((own_blk qf (nB.toInt32) (A8.getD tt 0)) <<< ((own_w (nB.toInt32) (A9.getD tt 0)) &&& 0x3f).toInt64))])
      obtain ⟨c75, A75, q75, S75, N75, H75, G75⟩ := id F35_4
      have hin75 : ¬ ((tt.toInt32) < 0 ∨ c75.slots.size ≤ ((tt.toInt32)).toNatClampNeg) := inb_of S75 ⟨own_nneg (by omega), (own_ltN (by omega) (by omega)).mpr htt⟩
      have hat75 : c75.slots[((tt.toInt32)).toNatClampNeg]? = some (.int (A9.getD tt 0)) := (H75 _ (Nat.lt_of_not_le fun q => hin75 (Or.inr q))).trans (congrArg some (by rw [own_clamp (by omega)]; exact own_getDI A9 tt))
      refine gv (fun t k => Xh74.iaload hx (j := (tt.toInt32)) (v := (.int (A9.getD tt 0))) (by rw [hh74]; exact A75.1) (State.isArrayOf_alike hZ.alike A75.2.1) A75.2.2 hin75 hat75 (g := (mkF m 537 #[vi p0, vi p1, vj qf, v2, vi x4, vr b1, vr b11, vr b22, vr o8, vr o9, vr o10, vi (nB.toInt32), vi (tt.toInt32), vj (own_blk qf (nB.toInt32) (A8.getD tt 0)), v2, vu] [(.int (tt.toInt32)), (.ref o9), (.int (nB.toInt32)), (.long qf), (.long ((own_blk qf (nB.toInt32) (A8.getD tt 0)) <<< ((own_w (nB.toInt32) (A9.getD tt 0)) &&& 0x3f).toInt64))])) rfl rfl (hb hby at_537) t k) ?_
      obtain ⟨_, _, ⟨T76, L76, k76, n76⟩, -, X76, ⟨Lc76, hQ76, l76, y76, z76⟩, st76⟩ := Jvm.LawKit.callS Xh74 hx (y := (⟨LWn, "block", "(JII)J"⟩ : MethodName)) hown (mvT hZ (own_g hw 2 rfl)) (mvT hZ (own_g hw 3 rfl)) (mvT hZ (own_g hw 4 rfl)) (mvT hZ (own_g hw 5 rfl)) (by decide) (backOf (W := 2) (rm1 l Z a0 hw [] qf (nB.toInt32) (A9.getD tt 0) hp35 n0 Z35 hnz) hZ (own_g hw 5 rfl) (own_g hw 4 rfl) (by decide) (by decide)) (g := (mkF m 538 #[vi p0, vi p1, vj qf, v2, vi x4, vr b1, vr b11, vr b22, vr o8, vr o9, vr o10, vi (nB.toInt32), vi (tt.toInt32), vj (own_blk qf (nB.toInt32) (A8.getD tt 0)), v2, vu] [(.int (A9.getD tt 0)), (.int (nB.toInt32)), (.long qf), (.long ((own_blk qf (nB.toInt32) (A8.getD tt 0)) <<< ((own_w (nB.toInt32) (A9.getD tt 0)) &&& 0x3f).toInt64))])) rfl (by rw [hml]; rfl) (argsL := [(.long qf), (.int (nB.toInt32)), (.int (A9.getD tt 0))]) (rest := [(.long ((own_blk qf (nB.toInt32) (A8.getD tt 0)) <<< ((own_w (nB.toInt32) (A9.getD tt 0)) &&& 0x3f).toInt64))]) (lenOf own_pd11 rfl) rfl (by show 2 * 0 + _ ≤ _; exact Nat.le_of_eq rfl) (hb hby at_538) (fun _ _ => ⟨rfl, hh74, (by decide : 6 + 0 ≤ _), (by decide : 45 + 0 ≤ _)⟩)
      dsimp only [Pt.U, Pt.locs, Pt.cells, Pt.slots] at X76 l76 y76 z76 st76 hQ76
      subst l76 y76 z76
      obtain ⟨rfl, Nq76, hh76⟩ := hQ76
      obtain ⟨lc76, Xh76, N76⟩ := own_hide X76 (Fr.app N74 Nq76)
      clear X76
      refine gv st76 ?_
      refine gv (fun t k => XS.lor Xh76.here hx rfl (hb hby at_541) rfl k) ?_
      refine gv (fun t k => XS.lstore Xh76.here hx rfl (hb hby at_542) rfl (l' := #[vi p0, vi p1, vj qf, v2, vi x4, vr b1, vr b11, vr b22, vr o8, vr o9, vr o10, vi (nB.toInt32), vi (tt.toInt32), vj (((own_blk qf (nB.toInt32) (A8.getD tt 0)) <<< ((own_w (nB.toInt32) (A9.getD tt 0)) &&& 0x3f).toInt64) ||| (own_blk qf (nB.toInt32) (A9.getD tt 0))), v2, vu]) rfl k) ?_
      exact J42 T76 _ (((own_blk qf (nB.toInt32) (A8.getD tt 0)) <<< ((own_w (nB.toInt32) (A9.getD tt 0)) &&& 0x3f).toInt64) ||| (own_blk qf (nB.toInt32) (A9.getD tt 0))) Xh76 hh76 N76 (if_neg hc41).symm
  rcases (by omega : sq = 0 ∨ sq = 1 ∨ sq = 2 ∨ sq = 3 ∨ sq = 4) with c0 | c1 | c2 | c3 | c4
  · rw [(show sq.toInt32 = (0 : Int32) from by rw [c0]; rfl)]
    show Go p.tables e below P T34 (mkF m 85 #[vi p0, vi p1, vj qf, v2, vi 0, vr b1, vr b11, vr b22, vu, vu, vu, vu, vu, vu, vu, vu] [])
    refine gv (fun t k => XS.iload X34.here hx rfl (hb hby at_85) rfl k) ?_
    refine gv (fun t k => XS.ifNo X34.here hx rfl (hb hby at_87) rfl ((if0 _ _).trans (teq (rfl : (0 : Int32) = (0 : Int32))).2) k) ?_
    refine gv (fun t k => XS.iconst X34.here hx rfl (hb hby at_90) k) ?_
    obtain ⟨T77, h77, k77, X77, e77, E77, A77, st77⟩ := newP X34 hx hZ (own_g hw 1 rfl) e34 (g := (mkF m 91 #[vi p0, vi p1, vj qf, v2, vi 0, vr b1, vr b11, vr b22, vu, vu, vu, vu, vu, vu, vu, vu] [(.int 1)])) rfl (hb hby at_91) rfl (by decide) (cap := 1) (by decide) (by decide) (by decide) (by decide)
    obtain ⟨b77, g77⟩ : ∃ z, z = h34.size := ⟨_, rfl⟩
    rw [← g77] at A77 st77
    refine gv st77 ?_
    have F79 := ((((((F24.ext E22).other W30 ne23).other W31 ne23).other W32 ne23).other W33 ne23).other W34 ne23)
    have ne78 := Nat.ne_of_lt (Nat.lt_of_lt_of_le F79.lt (Nat.le_of_eq g77.symm))
    have F81 := ((((((V21.ext E22).other W30 ne25).other W31 ne25).other W32 ne25).other W33 ne25).other W34 ne25)
    have ne80 := Nat.ne_of_lt (Nat.lt_of_lt_of_le F81.lt (Nat.le_of_eq g77.symm))
    have ne82 := Nat.ne_of_lt (Nat.lt_of_lt_of_le V34.lt (Nat.le_of_eq g77.symm))
    have g83 := Nat.le_trans Z34 (Nat.le_of_eq g77.symm)
    have sz84 := Nat.le_trans K34.1 (Nat.le_of_eq g77.symm)
    have Z85 := Nat.le_trans Z34 E77.1
    have K86 := K34.ext E77
    have V77 : Arv Z h77 b77 k77 .int (1 : Int32) [(.int 0)] (.int 0) := (Arv.new A77 (by decide)).pad (pad_rep [] (.int 0) 1)
    refine gv (fun t k => XS.dup X77.here hx rfl (hb hby at_93) rfl rfl k) ?_
    refine gv (fun t k => XS.iconst X77.here hx rfl (hb hby at_94) k) ?_
    refine gv (fun t k => XS.iconst X77.here hx rfl (hb hby at_95) k) ?_
    obtain ⟨T87, h87, lc87, X87, e87, N87, Z87, K87, W87, V87, st87⟩ := own_stI X77 hx hZ e77 V77 N34 Z85 K86 g83 (Or.inr sz84) (j := (0 : Int32)) ⟨by decide, by decide⟩ (ji := 0) rfl (Nat.le_of_ble_eq_true rfl) (g := (mkF m 96 #[vi p0, vi p1, vj qf, v2, vi 0, vr b1, vr b11, vr b22, vu, vu, vu, vu, vu, vu, vu, vu] [(.int 0), (.int 0), (.ref b77), (.ref b77)])) rfl rfl (hb hby at_96)
    refine gv st87 ?_
    refine gv (fun t k => XS.astore X87.here hx rfl (hb hby at_97) rfl rfl (l' := #[vi p0, vi p1, vj qf, v2, vi 0, vr b1, vr b11, vr b22, vr b77, vu, vu, vu, vu, vu, vu, vu]) rfl k) ?_
    show Go p.tables e below P T87 (mkF m 99 #[vi p0, vi p1, vj qf, v2, vi 0, vr b1, vr b11, vr b22, vr b77, vu, vu, vu, vu, vu, vu, vu] [])
    refine gv (fun t k => XS.iconst X87.here hx rfl (hb hby at_99) k) ?_
    obtain ⟨T88, h88, k88, X88, e88, E88, A88, st88⟩ := newP X87 hx hZ (own_g hw 1 rfl) e87 (g := (mkF m 100 #[vi p0, vi p1, vj qf, v2, vi 0, vr b1, vr b11, vr b22, vr b77, vu, vu, vu, vu, vu, vu, vu] [(.int 1)])) rfl (hb hby at_100) rfl (by decide) (cap := 1) (by decide) (by decide) (by decide) (by decide)
    obtain ⟨b88, g88⟩ : ∃ z, z = h87.size := ⟨_, rfl⟩
    rw [← g88] at A88 st88
    refine gv st88 ?_
    have F90 := ((F79.ext E77).other W87 ne78)
    have ne89 := Nat.ne_of_lt (Nat.lt_of_lt_of_le F90.lt (Nat.le_of_eq g88.symm))
    have F92 := ((F81.ext E77).other W87 ne80)
    have ne91 := Nat.ne_of_lt (Nat.lt_of_lt_of_le F92.lt (Nat.le_of_eq g88.symm))
    have F94 := ((V34.ext E77).other W87 ne82)
    have ne93 := Nat.ne_of_lt (Nat.lt_of_lt_of_le F94.lt (Nat.le_of_eq g88.symm))
    have ne95 := Nat.ne_of_lt (Nat.lt_of_lt_of_le V87.lt (Nat.le_of_eq g88.symm))
    have g96 := Nat.le_trans Z87 (Nat.le_of_eq g88.symm)
    have sz97 := Nat.le_trans K87.1 (Nat.le_of_eq g88.symm)
    have Z98 := Nat.le_trans Z87 E88.1
    have K99 := K87.ext E88
    have V88 : Arv Z h88 b88 k88 .int (1 : Int32) [(.int 0)] (.int 0) := (Arv.new A88 (by decide)).pad (pad_rep [] (.int 0) 1)
    refine gv (fun t k => XS.dup X88.here hx rfl (hb hby at_102) rfl rfl k) ?_
    refine gv (fun t k => XS.iconst X88.here hx rfl (hb hby at_103) k) ?_
    refine gv (fun t k => XS.iconst X88.here hx rfl (hb hby at_104) k) ?_
    obtain ⟨T100, h100, lc100, X100, e100, N100, Z100, K100, W100, V100, st100⟩ := own_stI X88 hx hZ e88 V88 N87 Z98 K99 g96 (Or.inr sz97) (j := (0 : Int32)) ⟨by decide, by decide⟩ (ji := 0) rfl (Nat.le_of_ble_eq_true rfl) (g := (mkF m 105 #[vi p0, vi p1, vj qf, v2, vi 0, vr b1, vr b11, vr b22, vr b77, vu, vu, vu, vu, vu, vu, vu] [(.int (-1)), (.int 0), (.ref b88), (.ref b88)])) rfl rfl (hb hby at_105)
    refine gv st100 ?_
    refine gv (fun t k => XS.astore X100.here hx rfl (hb hby at_106) rfl rfl (l' := #[vi p0, vi p1, vj qf, v2, vi 0, vr b1, vr b11, vr b22, vr b77, vr b88, vu, vu, vu, vu, vu, vu]) rfl k) ?_
    refine gv (fun t k => XS.iconst X100.here hx rfl (hb hby at_108) k) ?_
    obtain ⟨T101, h101, k101, X101, e101, E101, A101, st101⟩ := newP X100 hx hZ (own_g hw 1 rfl) e100 (g := (mkF m 109 #[vi p0, vi p1, vj qf, v2, vi 0, vr b1, vr b11, vr b22, vr b77, vr b88, vu, vu, vu, vu, vu, vu] [(.int 1)])) rfl (hb hby at_109) rfl (by decide) (cap := 1) (by decide) (by decide) (by decide) (by decide)
    obtain ⟨b101, g101⟩ : ∃ z, z = h100.size := ⟨_, rfl⟩
    rw [← g101] at A101 st101
    refine gv st101 ?_
    have F103 := ((F90.ext E88).other W100 ne89)
    have ne102 := Nat.ne_of_lt (Nat.lt_of_lt_of_le F103.lt (Nat.le_of_eq g101.symm))
    have F105 := ((F92.ext E88).other W100 ne91)
    have ne104 := Nat.ne_of_lt (Nat.lt_of_lt_of_le F105.lt (Nat.le_of_eq g101.symm))
    have F107 := ((F94.ext E88).other W100 ne93)
    have ne106 := Nat.ne_of_lt (Nat.lt_of_lt_of_le F107.lt (Nat.le_of_eq g101.symm))
    have F109 := ((V87.ext E88).other W100 ne95)
    have ne108 := Nat.ne_of_lt (Nat.lt_of_lt_of_le F109.lt (Nat.le_of_eq g101.symm))
    have ne110 := Nat.ne_of_lt (Nat.lt_of_lt_of_le V100.lt (Nat.le_of_eq g101.symm))
    have g111 := Nat.le_trans Z100 (Nat.le_of_eq g101.symm)
    have sz112 := Nat.le_trans K100.1 (Nat.le_of_eq g101.symm)
    have Z113 := Nat.le_trans Z100 E101.1
    have K114 := K100.ext E101
    have V101 : Arv Z h101 b101 k101 .int (1 : Int32) [(.int 0)] (.int 0) := (Arv.new A101 (by decide)).pad (pad_rep [] (.int 0) 1)
    show Go p.tables e below P T101 (mkF m 111 #[vi p0, vi p1, vj qf, v2, vi 0, vr b1, vr b11, vr b22, vr b77, vr b88, vu, vu, vu, vu, vu, vu] [(.ref b101)])
    refine gv (fun t k => XS.dup X101.here hx rfl (hb hby at_111) rfl rfl k) ?_
    refine gv (fun t k => XS.iconst X101.here hx rfl (hb hby at_112) k) ?_
    refine gv (fun t k => XS.iconst X101.here hx rfl (hb hby at_113) k) ?_
    obtain ⟨T115, h115, lc115, X115, e115, N115, Z115, K115, W115, V115, st115⟩ := own_stI X101 hx hZ e101 V101 N100 Z113 K114 g111 (Or.inr sz112) (j := (0 : Int32)) ⟨by decide, by decide⟩ (ji := 0) rfl (Nat.le_of_ble_eq_true rfl) (g := (mkF m 114 #[vi p0, vi p1, vj qf, v2, vi 0, vr b1, vr b11, vr b22, vr b77, vr b88, vu, vu, vu, vu, vu, vu] [(.int (-1)), (.int 0), (.ref b101), (.ref b101)])) rfl rfl (hb hby at_114)
    refine gv st115 ?_
    refine gv (fun t k => XS.astore X115.here hx rfl (hb hby at_115) rfl rfl (l' := #[vi p0, vi p1, vj qf, v2, vi 0, vr b1, vr b11, vr b22, vr b77, vr b88, vr b101, vu, vu, vu, vu, vu]) rfl k) ?_
    refine gv (fun t k => XS.goto X115.here hx rfl (pc0 := 117) (pc' := 477) rfl (hb hby at_117) (by decide) (by decide) k) ?_
    have F116 := ((F109.ext E101).other W115 ne108)
    have F117 := ((V100.ext E101).other W115 ne110)
    have F118 := ((F103.ext E101).other W115 ne102)
    have F119 := ((F105.ext E101).other W115 ne104)
    have F120 := ((F107.ext E101).other W115 ne106)
    exact LP35 T115 _ h115 0 (0 : Int32) 1 0 1 1 b77 b88 b101 k77 k88 k101 own_A0 own_B0 own_C0 (ownUp X115 (by decide) (by decide)) e115 N115 Z115 K115 F118 F119 F120 F116 F117 V115 (by decide) (by decide) (by decide) (by decide) (by decide) (by decide) (by decide) (by decide) (by decide) (by decide) (by decide) (Or.inl ⟨by decide, by decide, by decide +kernel, own_good0⟩) (fun z fp hz => own_law0 z fp hz)
  · rw [(show sq.toInt32 = (1 : Int32) from by rw [c1]; rfl)]
    show Go p.tables e below P T34 (mkF m 85 #[vi p0, vi p1, vj qf, v2, vi 1, vr b1, vr b11, vr b22, vu, vu, vu, vu, vu, vu, vu, vu] [])
    refine gv (fun t k => XS.iload X34.here hx rfl (hb hby at_85) rfl k) ?_
    refine gv (fun t k => XS.ifYes X34.here hx rfl (pc0 := 87) (pc' := 120) rfl (hb hby at_87) rfl ((if0 _ _).trans (feq (by decide : ¬ ((1 : Int32) = (0 : Int32)))).2) (by decide) (by decide) k) ?_
    refine gv (fun t k => XS.iload X34.here hx rfl (hb hby at_120) rfl k) ?_
    refine gv (fun t k => XS.iconst X34.here hx rfl (hb hby at_122) k) ?_
    refine gv (fun t k => XS.icmpNo X34.here hx rfl (hb hby at_123) rfl (teq (rfl : (1 : Int32) = (1 : Int32))).2 k) ?_
    refine gv (fun t k => XS.iconst X34.here hx rfl (hb hby at_126) k) ?_
    obtain ⟨T121, h121, k121, X121, e121, E121, A121, st121⟩ := newP X34 hx hZ (own_g hw 1 rfl) e34 (g := (mkF m 127 #[vi p0, vi p1, vj qf, v2, vi 1, vr b1, vr b11, vr b22, vu, vu, vu, vu, vu, vu, vu, vu] [(.int 2)])) rfl (hb hby at_127) rfl (by decide) (cap := 2) (by decide) (by decide) (by decide) (by decide)
    obtain ⟨b121, g121⟩ : ∃ z, z = h34.size := ⟨_, rfl⟩
    rw [← g121] at A121 st121
    refine gv st121 ?_
    have F123 := ((((((F24.ext E22).other W30 ne23).other W31 ne23).other W32 ne23).other W33 ne23).other W34 ne23)
    have ne122 := Nat.ne_of_lt (Nat.lt_of_lt_of_le F123.lt (Nat.le_of_eq g121.symm))
    have F125 := ((((((V21.ext E22).other W30 ne25).other W31 ne25).other W32 ne25).other W33 ne25).other W34 ne25)
    have ne124 := Nat.ne_of_lt (Nat.lt_of_lt_of_le F125.lt (Nat.le_of_eq g121.symm))
    have ne126 := Nat.ne_of_lt (Nat.lt_of_lt_of_le V34.lt (Nat.le_of_eq g121.symm))
    have g127 := Nat.le_trans Z34 (Nat.le_of_eq g121.symm)
    have sz128 := Nat.le_trans K34.1 (Nat.le_of_eq g121.symm)
    have Z129 := Nat.le_trans Z34 E121.1
    have K130 := K34.ext E121
    have V121 : Arv Z h121 b121 k121 .int (2 : Int32) [(.int 0), (.int 0)] (.int 0) := (Arv.new A121 (by decide)).pad (pad_rep [] (.int 0) 2)
    refine gv (fun t k => XS.dup X121.here hx rfl (hb hby at_129) rfl rfl k) ?_
    refine gv (fun t k => XS.iconst X121.here hx rfl (hb hby at_130) k) ?_
    show Go p.tables e below P T121 (mkF m 131 #[vi p0, vi p1, vj qf, v2, vi 1, vr b1, vr b11, vr b22, vu, vu, vu, vu, vu, vu, vu, vu] [(.int 0), (.ref b121), (.ref b121)])
    refine gv (fun t k => XS.iconst X121.here hx rfl (hb hby at_131) k) ?_
    obtain ⟨T131, h131, lc131, X131, e131, N131, Z131, K131, W131, V131, st131⟩ := own_stI X121 hx hZ e121 V121 N34 Z129 K130 g127 (Or.inr sz128) (j := (0 : Int32)) ⟨by decide, by decide⟩ (ji := 0) rfl (Nat.le_of_ble_eq_true rfl) (g := (mkF m 132 #[vi p0, vi p1, vj qf, v2, vi 1, vr b1, vr b11, vr b22, vu, vu, vu, vu, vu, vu, vu, vu] [(.int 0), (.int 0), (.ref b121), (.ref b121)])) rfl rfl (hb hby at_132)
    refine gv st131 ?_
    refine gv (fun t k => XS.dup X131.here hx rfl (hb hby at_133) rfl rfl k) ?_
    refine gv (fun t k => XS.iconst X131.here hx rfl (hb hby at_134) k) ?_
    refine gv (fun t k => XS.iconst X131.here hx rfl (hb hby at_135) k) ?_
    obtain ⟨T132, h132, lc132, X132, e132, N132, Z132, K132, W132, V132, st132⟩ := own_stI X131 hx hZ e131 V131 N131 Z131 K131 g127 (Or.inr sz128) (j := (1 : Int32)) ⟨by decide, by decide⟩ (ji := 1) rfl (Nat.le_of_ble_eq_true rfl) (g := (mkF m 136 #[vi p0, vi p1, vj qf, v2, vi 1, vr b1, vr b11, vr b22, vu, vu, vu, vu, vu, vu, vu, vu] [(.int 1), (.int 1), (.ref b121), (.ref b121)])) rfl rfl (hb hby at_136)
    refine gv st132 ?_
    refine gv (fun t k => XS.astore X132.here hx rfl (hb hby at_137) rfl rfl (l' := #[vi p0, vi p1, vj qf, v2, vi 1, vr b1, vr b11, vr b22, vr b121, vu, vu, vu, vu, vu, vu, vu]) rfl k) ?_
    refine gv (fun t k => XS.iconst X132.here hx rfl (hb hby at_139) k) ?_
    obtain ⟨T133, h133, k133, X133, e133, E133, A133, st133⟩ := newP X132 hx hZ (own_g hw 1 rfl) e132 (g := (mkF m 140 #[vi p0, vi p1, vj qf, v2, vi 1, vr b1, vr b11, vr b22, vr b121, vu, vu, vu, vu, vu, vu, vu] [(.int 2)])) rfl (hb hby at_140) rfl (by decide) (cap := 2) (by decide) (by decide) (by decide) (by decide)
    obtain ⟨b133, g133⟩ : ∃ z, z = h132.size := ⟨_, rfl⟩
    rw [← g133] at A133 st133
    refine gv st133 ?_
    have F135 := (((F123.ext E121).other W131 ne122).other W132 ne122)
    have ne134 := Nat.ne_of_lt (Nat.lt_of_lt_of_le F135.lt (Nat.le_of_eq g133.symm))
    have F137 := (((F125.ext E121).other W131 ne124).other W132 ne124)
    have ne136 := Nat.ne_of_lt (Nat.lt_of_lt_of_le F137.lt (Nat.le_of_eq g133.symm))
    have F139 := (((V34.ext E121).other W131 ne126).other W132 ne126)
    have ne138 := Nat.ne_of_lt (Nat.lt_of_lt_of_le F139.lt (Nat.le_of_eq g133.symm))
    have ne140 := Nat.ne_of_lt (Nat.lt_of_lt_of_le V132.lt (Nat.le_of_eq g133.symm))
    have g141 := Nat.le_trans Z132 (Nat.le_of_eq g133.symm)
    have sz142 := Nat.le_trans K132.1 (Nat.le_of_eq g133.symm)
    have Z143 := Nat.le_trans Z132 E133.1
    have K144 := K132.ext E133
    have V133 : Arv Z h133 b133 k133 .int (2 : Int32) [(.int 0), (.int 0)] (.int 0) := (Arv.new A133 (by decide)).pad (pad_rep [] (.int 0) 2)
    show Go p.tables e below P T133 (mkF m 142 #[vi p0, vi p1, vj qf, v2, vi 1, vr b1, vr b11, vr b22, vr b121, vu, vu, vu, vu, vu, vu, vu] [(.ref b133)])
    refine gv (fun t k => XS.dup X133.here hx rfl (hb hby at_142) rfl rfl k) ?_
    refine gv (fun t k => XS.iconst X133.here hx rfl (hb hby at_143) k) ?_
    refine gv (fun t k => XS.iconst X133.here hx rfl (hb hby at_144) k) ?_
    obtain ⟨T145, h145, lc145, X145, e145, N145, Z145, K145, W145, V145, st145⟩ := own_stI X133 hx hZ e133 V133 N132 Z143 K144 g141 (Or.inr sz142) (j := (0 : Int32)) ⟨by decide, by decide⟩ (ji := 0) rfl (Nat.le_of_ble_eq_true rfl) (g := (mkF m 145 #[vi p0, vi p1, vj qf, v2, vi 1, vr b1, vr b11, vr b22, vr b121, vu, vu, vu, vu, vu, vu, vu] [(.int (-1)), (.int 0), (.ref b133), (.ref b133)])) rfl rfl (hb hby at_145)
    refine gv st145 ?_
    refine gv (fun t k => XS.dup X145.here hx rfl (hb hby at_146) rfl rfl k) ?_
    refine gv (fun t k => XS.iconst X145.here hx rfl (hb hby at_147) k) ?_
    refine gv (fun t k => XS.iconst X145.here hx rfl (hb hby at_148) k) ?_
    obtain ⟨T146, h146, lc146, X146, e146, N146, Z146, K146, W146, V146, st146⟩ := own_stI X145 hx hZ e145 V145 N145 Z145 K145 g141 (Or.inr sz142) (j := (1 : Int32)) ⟨by decide, by decide⟩ (ji := 1) rfl (Nat.le_of_ble_eq_true rfl) (g := (mkF m 149 #[vi p0, vi p1, vj qf, v2, vi 1, vr b1, vr b11, vr b22, vr b121, vu, vu, vu, vu, vu, vu, vu] [(.int (-1)), (.int 1), (.ref b133), (.ref b133)])) rfl rfl (hb hby at_149)
    refine gv st146 ?_
    refine gv (fun t k => XS.astore X146.here hx rfl (hb hby at_150) rfl rfl (l' := #[vi p0, vi p1, vj qf, v2, vi 1, vr b1, vr b11, vr b22, vr b121, vr b133, vu, vu, vu, vu, vu, vu]) rfl k) ?_
    show Go p.tables e below P T146 (mkF m 152 #[vi p0, vi p1, vj qf, v2, vi 1, vr b1, vr b11, vr b22, vr b121, vr b133, vu, vu, vu, vu, vu, vu] [])
    refine gv (fun t k => XS.iconst X146.here hx rfl (hb hby at_152) k) ?_
    obtain ⟨T147, h147, k147, X147, e147, E147, A147, st147⟩ := newP X146 hx hZ (own_g hw 1 rfl) e146 (g := (mkF m 153 #[vi p0, vi p1, vj qf, v2, vi 1, vr b1, vr b11, vr b22, vr b121, vr b133, vu, vu, vu, vu, vu, vu] [(.int 2)])) rfl (hb hby at_153) rfl (by decide) (cap := 2) (by decide) (by decide) (by decide) (by decide)
    obtain ⟨b147, g147⟩ : ∃ z, z = h146.size := ⟨_, rfl⟩
    rw [← g147] at A147 st147
    refine gv st147 ?_
    have F149 := (((F135.ext E133).other W145 ne134).other W146 ne134)
    have ne148 := Nat.ne_of_lt (Nat.lt_of_lt_of_le F149.lt (Nat.le_of_eq g147.symm))
    have F151 := (((F137.ext E133).other W145 ne136).other W146 ne136)
    have ne150 := Nat.ne_of_lt (Nat.lt_of_lt_of_le F151.lt (Nat.le_of_eq g147.symm))
    have F153 := (((F139.ext E133).other W145 ne138).other W146 ne138)
    have ne152 := Nat.ne_of_lt (Nat.lt_of_lt_of_le F153.lt (Nat.le_of_eq g147.symm))
    have F155 := (((V132.ext E133).other W145 ne140).other W146 ne140)
    have ne154 := Nat.ne_of_lt (Nat.lt_of_lt_of_le F155.lt (Nat.le_of_eq g147.symm))
    have ne156 := Nat.ne_of_lt (Nat.lt_of_lt_of_le V146.lt (Nat.le_of_eq g147.symm))
    have g157 := Nat.le_trans Z146 (Nat.le_of_eq g147.symm)
    have sz158 := Nat.le_trans K146.1 (Nat.le_of_eq g147.symm)
    have Z159 := Nat.le_trans Z146 E147.1
    have K160 := K146.ext E147
    have V147 : Arv Z h147 b147 k147 .int (2 : Int32) [(.int 0), (.int 0)] (.int 0) := (Arv.new A147 (by decide)).pad (pad_rep [] (.int 0) 2)
    refine gv (fun t k => XS.dup X147.here hx rfl (hb hby at_155) rfl rfl k) ?_
    refine gv (fun t k => XS.iconst X147.here hx rfl (hb hby at_156) k) ?_
    refine gv (fun t k => XS.iconst X147.here hx rfl (hb hby at_157) k) ?_
    obtain ⟨T161, h161, lc161, X161, e161, N161, Z161, K161, W161, V161, st161⟩ := own_stI X147 hx hZ e147 V147 N146 Z159 K160 g157 (Or.inr sz158) (j := (0 : Int32)) ⟨by decide, by decide⟩ (ji := 0) rfl (Nat.le_of_ble_eq_true rfl) (g := (mkF m 158 #[vi p0, vi p1, vj qf, v2, vi 1, vr b1, vr b11, vr b22, vr b121, vr b133, vu, vu, vu, vu, vu, vu] [(.int (-1)), (.int 0), (.ref b147), (.ref b147)])) rfl rfl (hb hby at_158)
    refine gv st161 ?_
    refine gv (fun t k => XS.dup X161.here hx rfl (hb hby at_159) rfl rfl k) ?_
    refine gv (fun t k => XS.iconst X161.here hx rfl (hb hby at_160) k) ?_
    refine gv (fun t k => XS.iconst X161.here hx rfl (hb hby at_161) k) ?_
    show Go p.tables e below P T161 (mkF m 162 #[vi p0, vi p1, vj qf, v2, vi 1, vr b1, vr b11, vr b22, vr b121, vr b133, vu, vu, vu, vu, vu, vu] [(.int (-1)), (.int 1), (.ref b147), (.ref b147)])
    obtain ⟨T162, h162, lc162, X162, e162, N162, Z162, K162, W162, V162, st162⟩ := own_stI X161 hx hZ e161 V161 N161 Z161 K161 g157 (Or.inr sz158) (j := (1 : Int32)) ⟨by decide, by decide⟩ (ji := 1) rfl (Nat.le_of_ble_eq_true rfl) (g := (mkF m 162 #[vi p0, vi p1, vj qf, v2, vi 1, vr b1, vr b11, vr b22, vr b121, vr b133, vu, vu, vu, vu, vu, vu] [(.int (-1)), (.int 1), (.ref b147), (.ref b147)])) rfl rfl (hb hby at_162)
    refine gv st162 ?_
    refine gv (fun t k => XS.astore X162.here hx rfl (hb hby at_163) rfl rfl (l' := #[vi p0, vi p1, vj qf, v2, vi 1, vr b1, vr b11, vr b22, vr b121, vr b133, vr b147, vu, vu, vu, vu, vu]) rfl k) ?_
    refine gv (fun t k => XS.goto X162.here hx rfl (pc0 := 165) (pc' := 477) rfl (hb hby at_165) (by decide) (by decide) k) ?_
    have F163 := (((F155.ext E147).other W161 ne154).other W162 ne154)
    have F164 := (((V146.ext E147).other W161 ne156).other W162 ne156)
    have F165 := (((F149.ext E147).other W161 ne148).other W162 ne148)
    have F166 := (((F151.ext E147).other W161 ne150).other W162 ne150)
    have F167 := (((F153.ext E147).other W161 ne152).other W162 ne152)
    exact LP35 T162 _ h162 1 (1 : Int32) 2 2 2 1 b121 b133 b147 k121 k133 k147 own_A1 own_B1 own_C1 (ownUp X162 (by decide) (by decide)) e162 N162 Z162 K162 F165 F166 F167 F163 F164 V162 (by decide) (by decide) (by decide) (by decide) (by decide) (by decide) (by decide) (by decide) (by decide) (by decide) (by decide) (Or.inr ⟨rfl, rfl, rfl, rfl⟩) (fun z fp hz => own_law1 z fp hz)
  · rw [(show sq.toInt32 = (2 : Int32) from by rw [c2]; rfl)]
    show Go p.tables e below P T34 (mkF m 85 #[vi p0, vi p1, vj qf, v2, vi 2, vr b1, vr b11, vr b22, vu, vu, vu, vu, vu, vu, vu, vu] [])
    refine gv (fun t k => XS.iload X34.here hx rfl (hb hby at_85) rfl k) ?_
    refine gv (fun t k => XS.ifYes X34.here hx rfl (pc0 := 87) (pc' := 120) rfl (hb hby at_87) rfl ((if0 _ _).trans (feq (by decide : ¬ ((2 : Int32) = (0 : Int32)))).2) (by decide) (by decide) k) ?_
    refine gv (fun t k => XS.iload X34.here hx rfl (hb hby at_120) rfl k) ?_
    refine gv (fun t k => XS.iconst X34.here hx rfl (hb hby at_122) k) ?_
    refine gv (fun t k => XS.icmpYes X34.here hx rfl (pc0 := 123) (pc' := 168) rfl (hb hby at_123) rfl (feq (by decide : ¬ ((2 : Int32) = (1 : Int32)))).2 (by decide) (by decide) k) ?_
    refine gv (fun t k => XS.iload X34.here hx rfl (hb hby at_168) rfl k) ?_
    refine gv (fun t k => XS.iconst X34.here hx rfl (hb hby at_170) k) ?_
    refine gv (fun t k => XS.icmpNo X34.here hx rfl (hb hby at_171) rfl (teq (rfl : (2 : Int32) = (2 : Int32))).2 k) ?_
    refine gv (fun t k => XS.iconst X34.here hx rfl (hb hby at_174) k) ?_
    show Go p.tables e below P T34 (mkF m 175 #[vi p0, vi p1, vj qf, v2, vi 2, vr b1, vr b11, vr b22, vu, vu, vu, vu, vu, vu, vu, vu] [(.int 3)])
    obtain ⟨T168, h168, k168, X168, e168, E168, A168, st168⟩ := newP X34 hx hZ (own_g hw 1 rfl) e34 (g := (mkF m 175 #[vi p0, vi p1, vj qf, v2, vi 2, vr b1, vr b11, vr b22, vu, vu, vu, vu, vu, vu, vu, vu] [(.int 3)])) rfl (hb hby at_175) rfl (by decide) (cap := 3) (by decide) (by decide) (by decide) (by decide)
    obtain ⟨b168, g168⟩ : ∃ z, z = h34.size := ⟨_, rfl⟩
    rw [← g168] at A168 st168
    refine gv st168 ?_
    have F170 := ((((((F24.ext E22).other W30 ne23).other W31 ne23).other W32 ne23).other W33 ne23).other W34 ne23)
    have ne169 := Nat.ne_of_lt (Nat.lt_of_lt_of_le F170.lt (Nat.le_of_eq g168.symm))
    have F172 := ((((((V21.ext E22).other W30 ne25).other W31 ne25).other W32 ne25).other W33 ne25).other W34 ne25)
    have ne171 := Nat.ne_of_lt (Nat.lt_of_lt_of_le F172.lt (Nat.le_of_eq g168.symm))
    have ne173 := Nat.ne_of_lt (Nat.lt_of_lt_of_le V34.lt (Nat.le_of_eq g168.symm))
    have g174 := Nat.le_trans Z34 (Nat.le_of_eq g168.symm)
    have sz175 := Nat.le_trans K34.1 (Nat.le_of_eq g168.symm)
    have Z176 := Nat.le_trans Z34 E168.1
    have K177 := K34.ext E168
    have V168 : Arv Z h168 b168 k168 .int (3 : Int32) [(.int 0), (.int 0), (.int 0)] (.int 0) := (Arv.new A168 (by decide)).pad (pad_rep [] (.int 0) 3)
    refine gv (fun t k => XS.dup X168.here hx rfl (hb hby at_177) rfl rfl k) ?_
    refine gv (fun t k => XS.iconst X168.here hx rfl (hb hby at_178) k) ?_
    refine gv (fun t k => XS.iconst X168.here hx rfl (hb hby at_179) k) ?_
    obtain ⟨T178, h178, lc178, X178, e178, N178, Z178, K178, W178, V178, st178⟩ := own_stI X168 hx hZ e168 V168 N34 Z176 K177 g174 (Or.inr sz175) (j := (0 : Int32)) ⟨by decide, by decide⟩ (ji := 0) rfl (Nat.le_of_ble_eq_true rfl) (g := (mkF m 180 #[vi p0, vi p1, vj qf, v2, vi 2, vr b1, vr b11, vr b22, vu, vu, vu, vu, vu, vu, vu, vu] [(.int 0), (.int 0), (.ref b168), (.ref b168)])) rfl rfl (hb hby at_180)
    refine gv st178 ?_
    refine gv (fun t k => XS.dup X178.here hx rfl (hb hby at_181) rfl rfl k) ?_
    refine gv (fun t k => XS.iconst X178.here hx rfl (hb hby at_182) k) ?_
    refine gv (fun t k => XS.iconst X178.here hx rfl (hb hby at_183) k) ?_
    obtain ⟨T179, h179, lc179, X179, e179, N179, Z179, K179, W179, V179, st179⟩ := own_stI X178 hx hZ e178 V178 N178 Z178 K178 g174 (Or.inr sz175) (j := (1 : Int32)) ⟨by decide, by decide⟩ (ji := 1) rfl (Nat.le_of_ble_eq_true rfl) (g := (mkF m 184 #[vi p0, vi p1, vj qf, v2, vi 2, vr b1, vr b11, vr b22, vu, vu, vu, vu, vu, vu, vu, vu] [(.int 0), (.int 1), (.ref b168), (.ref b168)])) rfl rfl (hb hby at_184)
    refine gv st179 ?_
    show Go p.tables e below P T179 (mkF m 185 #[vi p0, vi p1, vj qf, v2, vi 2, vr b1, vr b11, vr b22, vu, vu, vu, vu, vu, vu, vu, vu] [(.ref b168)])
    refine gv (fun t k => XS.dup X179.here hx rfl (hb hby at_185) rfl rfl k) ?_
    refine gv (fun t k => XS.iconst X179.here hx rfl (hb hby at_186) k) ?_
    refine gv (fun t k => XS.iconst X179.here hx rfl (hb hby at_187) k) ?_
    obtain ⟨T180, h180, lc180, X180, e180, N180, Z180, K180, W180, V180, st180⟩ := own_stI X179 hx hZ e179 V179 N179 Z179 K179 g174 (Or.inr sz175) (j := (2 : Int32)) ⟨by decide, by decide⟩ (ji := 2) rfl (Nat.le_of_ble_eq_true rfl) (g := (mkF m 188 #[vi p0, vi p1, vj qf, v2, vi 2, vr b1, vr b11, vr b22, vu, vu, vu, vu, vu, vu, vu, vu] [(.int 1), (.int 2), (.ref b168), (.ref b168)])) rfl rfl (hb hby at_188)
    refine gv st180 ?_
    refine gv (fun t k => XS.astore X180.here hx rfl (hb hby at_189) rfl rfl (l' := #[vi p0, vi p1, vj qf, v2, vi 2, vr b1, vr b11, vr b22, vr b168, vu, vu, vu, vu, vu, vu, vu]) rfl k) ?_
    refine gv (fun t k => XS.iconst X180.here hx rfl (hb hby at_191) k) ?_
    obtain ⟨T181, h181, k181, X181, e181, E181, A181, st181⟩ := newP X180 hx hZ (own_g hw 1 rfl) e180 (g := (mkF m 192 #[vi p0, vi p1, vj qf, v2, vi 2, vr b1, vr b11, vr b22, vr b168, vu, vu, vu, vu, vu, vu, vu] [(.int 3)])) rfl (hb hby at_192) rfl (by decide) (cap := 3) (by decide) (by decide) (by decide) (by decide)
    obtain ⟨b181, g181⟩ : ∃ z, z = h180.size := ⟨_, rfl⟩
    rw [← g181] at A181 st181
    refine gv st181 ?_
    have F183 := ((((F170.ext E168).other W178 ne169).other W179 ne169).other W180 ne169)
    have ne182 := Nat.ne_of_lt (Nat.lt_of_lt_of_le F183.lt (Nat.le_of_eq g181.symm))
    have F185 := ((((F172.ext E168).other W178 ne171).other W179 ne171).other W180 ne171)
    have ne184 := Nat.ne_of_lt (Nat.lt_of_lt_of_le F185.lt (Nat.le_of_eq g181.symm))
    have F187 := ((((V34.ext E168).other W178 ne173).other W179 ne173).other W180 ne173)
    have ne186 := Nat.ne_of_lt (Nat.lt_of_lt_of_le F187.lt (Nat.le_of_eq g181.symm))
    have ne188 := Nat.ne_of_lt (Nat.lt_of_lt_of_le V180.lt (Nat.le_of_eq g181.symm))
    have g189 := Nat.le_trans Z180 (Nat.le_of_eq g181.symm)
    have sz190 := Nat.le_trans K180.1 (Nat.le_of_eq g181.symm)
    have Z191 := Nat.le_trans Z180 E181.1
    have K192 := K180.ext E181
    have V181 : Arv Z h181 b181 k181 .int (3 : Int32) [(.int 0), (.int 0), (.int 0)] (.int 0) := (Arv.new A181 (by decide)).pad (pad_rep [] (.int 0) 3)
    refine gv (fun t k => XS.dup X181.here hx rfl (hb hby at_194) rfl rfl k) ?_
    refine gv (fun t k => XS.iconst X181.here hx rfl (hb hby at_195) k) ?_
    show Go p.tables e below P T181 (mkF m 196 #[vi p0, vi p1, vj qf, v2, vi 2, vr b1, vr b11, vr b22, vr b168, vu, vu, vu, vu, vu, vu, vu] [(.int 0), (.ref b181), (.ref b181)])
    refine gv (fun t k => XS.iconst X181.here hx rfl (hb hby at_196) k) ?_
    obtain ⟨T193, h193, lc193, X193, e193, N193, Z193, K193, W193, V193, st193⟩ := own_stI X181 hx hZ e181 V181 N180 Z191 K192 g189 (Or.inr sz190) (j := (0 : Int32)) ⟨by decide, by decide⟩ (ji := 0) rfl (Nat.le_of_ble_eq_true rfl) (g := (mkF m 197 #[vi p0, vi p1, vj qf, v2, vi 2, vr b1, vr b11, vr b22, vr b168, vu, vu, vu, vu, vu, vu, vu] [(.int 1), (.int 0), (.ref b181), (.ref b181)])) rfl rfl (hb hby at_197)
    refine gv st193 ?_
    refine gv (fun t k => XS.dup X193.here hx rfl (hb hby at_198) rfl rfl k) ?_
    refine gv (fun t k => XS.iconst X193.here hx rfl (hb hby at_199) k) ?_
    refine gv (fun t k => XS.iconst X193.here hx rfl (hb hby at_200) k) ?_
    obtain ⟨T194, h194, lc194, X194, e194, N194, Z194, K194, W194, V194, st194⟩ := own_stI X193 hx hZ e193 V193 N193 Z193 K193 g189 (Or.inr sz190) (j := (1 : Int32)) ⟨by decide, by decide⟩ (ji := 1) rfl (Nat.le_of_ble_eq_true rfl) (g := (mkF m 201 #[vi p0, vi p1, vj qf, v2, vi 2, vr b1, vr b11, vr b22, vr b168, vu, vu, vu, vu, vu, vu, vu] [(.int 2), (.int 1), (.ref b181), (.ref b181)])) rfl rfl (hb hby at_201)
    refine gv st194 ?_
    refine gv (fun t k => XS.dup X194.here hx rfl (hb hby at_202) rfl rfl k) ?_
    refine gv (fun t k => XS.iconst X194.here hx rfl (hb hby at_203) k) ?_
    refine gv (fun t k => XS.iconst X194.here hx rfl (hb hby at_204) k) ?_
    show Go p.tables e below P T194 (mkF m 205 #[vi p0, vi p1, vj qf, v2, vi 2, vr b1, vr b11, vr b22, vr b168, vu, vu, vu, vu, vu, vu, vu] [(.int 2), (.int 2), (.ref b181), (.ref b181)])
    obtain ⟨T195, h195, lc195, X195, e195, N195, Z195, K195, W195, V195, st195⟩ := own_stI X194 hx hZ e194 V194 N194 Z194 K194 g189 (Or.inr sz190) (j := (2 : Int32)) ⟨by decide, by decide⟩ (ji := 2) rfl (Nat.le_of_ble_eq_true rfl) (g := (mkF m 205 #[vi p0, vi p1, vj qf, v2, vi 2, vr b1, vr b11, vr b22, vr b168, vu, vu, vu, vu, vu, vu, vu] [(.int 2), (.int 2), (.ref b181), (.ref b181)])) rfl rfl (hb hby at_205)
    refine gv st195 ?_
    refine gv (fun t k => XS.astore X195.here hx rfl (hb hby at_206) rfl rfl (l' := #[vi p0, vi p1, vj qf, v2, vi 2, vr b1, vr b11, vr b22, vr b168, vr b181, vu, vu, vu, vu, vu, vu]) rfl k) ?_
    refine gv (fun t k => XS.iconst X195.here hx rfl (hb hby at_208) k) ?_
    obtain ⟨T196, h196, k196, X196, e196, E196, A196, st196⟩ := newP X195 hx hZ (own_g hw 1 rfl) e195 (g := (mkF m 209 #[vi p0, vi p1, vj qf, v2, vi 2, vr b1, vr b11, vr b22, vr b168, vr b181, vu, vu, vu, vu, vu, vu] [(.int 3)])) rfl (hb hby at_209) rfl (by decide) (cap := 3) (by decide) (by decide) (by decide) (by decide)
    obtain ⟨b196, g196⟩ : ∃ z, z = h195.size := ⟨_, rfl⟩
    rw [← g196] at A196 st196
    refine gv st196 ?_
    have F198 := ((((F183.ext E181).other W193 ne182).other W194 ne182).other W195 ne182)
    have ne197 := Nat.ne_of_lt (Nat.lt_of_lt_of_le F198.lt (Nat.le_of_eq g196.symm))
    have F200 := ((((F185.ext E181).other W193 ne184).other W194 ne184).other W195 ne184)
    have ne199 := Nat.ne_of_lt (Nat.lt_of_lt_of_le F200.lt (Nat.le_of_eq g196.symm))
    have F202 := ((((F187.ext E181).other W193 ne186).other W194 ne186).other W195 ne186)
    have ne201 := Nat.ne_of_lt (Nat.lt_of_lt_of_le F202.lt (Nat.le_of_eq g196.symm))
    have F204 := ((((V180.ext E181).other W193 ne188).other W194 ne188).other W195 ne188)
    have ne203 := Nat.ne_of_lt (Nat.lt_of_lt_of_le F204.lt (Nat.le_of_eq g196.symm))
    have ne205 := Nat.ne_of_lt (Nat.lt_of_lt_of_le V195.lt (Nat.le_of_eq g196.symm))
    have g206 := Nat.le_trans Z195 (Nat.le_of_eq g196.symm)
    have sz207 := Nat.le_trans K195.1 (Nat.le_of_eq g196.symm)
    have Z208 := Nat.le_trans Z195 E196.1
    have K209 := K195.ext E196
    have V196 : Arv Z h196 b196 k196 .int (3 : Int32) [(.int 0), (.int 0), (.int 0)] (.int 0) := (Arv.new A196 (by decide)).pad (pad_rep [] (.int 0) 3)
    refine gv (fun t k => XS.dup X196.here hx rfl (hb hby at_211) rfl rfl k) ?_
    refine gv (fun t k => XS.iconst X196.here hx rfl (hb hby at_212) k) ?_
    refine gv (fun t k => XS.iconst X196.here hx rfl (hb hby at_213) k) ?_
    obtain ⟨T210, h210, lc210, X210, e210, N210, Z210, K210, W210, V210, st210⟩ := own_stI X196 hx hZ e196 V196 N195 Z208 K209 g206 (Or.inr sz207) (j := (0 : Int32)) ⟨by decide, by decide⟩ (ji := 0) rfl (Nat.le_of_ble_eq_true rfl) (g := (mkF m 214 #[vi p0, vi p1, vj qf, v2, vi 2, vr b1, vr b11, vr b22, vr b168, vr b181, vu, vu, vu, vu, vu, vu] [(.int (-1)), (.int 0), (.ref b196), (.ref b196)])) rfl rfl (hb hby at_214)
    refine gv st210 ?_
    refine gv (fun t k => XS.dup X210.here hx rfl (hb hby at_215) rfl rfl k) ?_
    show Go p.tables e below P T210 (mkF m 216 #[vi p0, vi p1, vj qf, v2, vi 2, vr b1, vr b11, vr b22, vr b168, vr b181, vu, vu, vu, vu, vu, vu] [(.ref b196), (.ref b196)])
    refine gv (fun t k => XS.iconst X210.here hx rfl (hb hby at_216) k) ?_
    refine gv (fun t k => XS.iconst X210.here hx rfl (hb hby at_217) k) ?_
    obtain ⟨T211, h211, lc211, X211, e211, N211, Z211, K211, W211, V211, st211⟩ := own_stI X210 hx hZ e210 V210 N210 Z210 K210 g206 (Or.inr sz207) (j := (1 : Int32)) ⟨by decide, by decide⟩ (ji := 1) rfl (Nat.le_of_ble_eq_true rfl) (g := (mkF m 218 #[vi p0, vi p1, vj qf, v2, vi 2, vr b1, vr b11, vr b22, vr b168, vr b181, vu, vu, vu, vu, vu, vu] [(.int (-1)), (.int 1), (.ref b196), (.ref b196)])) rfl rfl (hb hby at_218)
    refine gv st211 ?_
    refine gv (fun t k => XS.dup X211.here hx rfl (hb hby at_219) rfl rfl k) ?_
    refine gv (fun t k => XS.iconst X211.here hx rfl (hb hby at_220) k) ?_
    refine gv (fun t k => XS.iconst X211.here hx rfl (hb hby at_221) k) ?_
    obtain ⟨T212, h212, lc212, X212, e212, N212, Z212, K212, W212, V212, st212⟩ := own_stI X211 hx hZ e211 V211 N211 Z211 K211 g206 (Or.inr sz207) (j := (2 : Int32)) ⟨by decide, by decide⟩ (ji := 2) rfl (Nat.le_of_ble_eq_true rfl) (g := (mkF m 222 #[vi p0, vi p1, vj qf, v2, vi 2, vr b1, vr b11, vr b22, vr b168, vr b181, vu, vu, vu, vu, vu, vu] [(.int (-1)), (.int 2), (.ref b196), (.ref b196)])) rfl rfl (hb hby at_222)
    refine gv st212 ?_
    refine gv (fun t k => XS.astore X212.here hx rfl (hb hby at_223) rfl rfl (l' := #[vi p0, vi p1, vj qf, v2, vi 2, vr b1, vr b11, vr b22, vr b168, vr b181, vr b196, vu, vu, vu, vu, vu]) rfl k) ?_
    refine gv (fun t k => XS.goto X212.here hx rfl (pc0 := 225) (pc' := 477) rfl (hb hby at_225) (by decide) (by decide) k) ?_
    have F213 := ((((F204.ext E196).other W210 ne203).other W211 ne203).other W212 ne203)
    have F214 := ((((V195.ext E196).other W210 ne205).other W211 ne205).other W212 ne205)
    have F215 := ((((F198.ext E196).other W210 ne197).other W211 ne197).other W212 ne197)
    have F216 := ((((F200.ext E196).other W210 ne199).other W211 ne199).other W212 ne199)
    have F217 := ((((F202.ext E196).other W210 ne201).other W211 ne201).other W212 ne201)
    exact LP35 T212 _ h212 2 (2 : Int32) 3 1 3 2 b168 b181 b196 k168 k181 k196 own_A2 own_B2 own_C2 (ownUp X212 (by decide) (by decide)) e212 N212 Z212 K212 F215 F216 F217 F213 F214 V212 (by decide) (by decide) (by decide) (by decide) (by decide) (by decide) (by decide) (by decide) (by decide) (by decide) (by decide) (Or.inl ⟨by decide, by decide, by decide +kernel, own_good2⟩) (fun z fp hz => own_law2 z fp hz)
  · rw [(show sq.toInt32 = (3 : Int32) from by rw [c3]; rfl)]
    show Go p.tables e below P T34 (mkF m 85 #[vi p0, vi p1, vj qf, v2, vi 3, vr b1, vr b11, vr b22, vu, vu, vu, vu, vu, vu, vu, vu] [])
    refine gv (fun t k => XS.iload X34.here hx rfl (hb hby at_85) rfl k) ?_
    refine gv (fun t k => XS.ifYes X34.here hx rfl (pc0 := 87) (pc' := 120) rfl (hb hby at_87) rfl ((if0 _ _).trans (feq (by decide : ¬ ((3 : Int32) = (0 : Int32)))).2) (by decide) (by decide) k) ?_
    refine gv (fun t k => XS.iload X34.here hx rfl (hb hby at_120) rfl k) ?_
    refine gv (fun t k => XS.iconst X34.here hx rfl (hb hby at_122) k) ?_
    refine gv (fun t k => XS.icmpYes X34.here hx rfl (pc0 := 123) (pc' := 168) rfl (hb hby at_123) rfl (feq (by decide : ¬ ((3 : Int32) = (1 : Int32)))).2 (by decide) (by decide) k) ?_
    refine gv (fun t k => XS.iload X34.here hx rfl (hb hby at_168) rfl k) ?_
    refine gv (fun t k => XS.iconst X34.here hx rfl (hb hby at_170) k) ?_
    refine gv (fun t k => XS.icmpYes X34.here hx rfl (pc0 := 171) (pc' := 228) rfl (hb hby at_171) rfl (feq (by decide : ¬ ((3 : Int32) = (2 : Int32)))).2 (by decide) (by decide) k) ?_
    refine gv (fun t k => XS.iload X34.here hx rfl (hb hby at_228) rfl k) ?_
    show Go p.tables e below P T34 (mkF m 230 #[vi p0, vi p1, vj qf, v2, vi 3, vr b1, vr b11, vr b22, vu, vu, vu, vu, vu, vu, vu, vu] [(.int 3)])
    refine gv (fun t k => XS.iconst X34.here hx rfl (hb hby at_230) k) ?_
    refine gv (fun t k => XS.icmpNo X34.here hx rfl (hb hby at_231) rfl (teq (rfl : (3 : Int32) = (3 : Int32))).2 k) ?_
    refine gv (fun t k => XS.bipush X34.here hx rfl (hb hby at_234) k) ?_
    obtain ⟨T218, h218, k218, X218, e218, E218, A218, st218⟩ := newP X34 hx hZ (own_g hw 1 rfl) e34 (g := (mkF m 236 #[vi p0, vi p1, vj qf, v2, vi 3, vr b1, vr b11, vr b22, vu, vu, vu, vu, vu, vu, vu, vu] [(.int 6)])) rfl (hb hby at_236) rfl (by decide) (cap := 6) (by decide) (by decide) (by decide) (by decide)
    obtain ⟨b218, g218⟩ : ∃ z, z = h34.size := ⟨_, rfl⟩
    rw [← g218] at A218 st218
    refine gv st218 ?_
    have F220 := ((((((F24.ext E22).other W30 ne23).other W31 ne23).other W32 ne23).other W33 ne23).other W34 ne23)
    have ne219 := Nat.ne_of_lt (Nat.lt_of_lt_of_le F220.lt (Nat.le_of_eq g218.symm))
    have F222 := ((((((V21.ext E22).other W30 ne25).other W31 ne25).other W32 ne25).other W33 ne25).other W34 ne25)
    have ne221 := Nat.ne_of_lt (Nat.lt_of_lt_of_le F222.lt (Nat.le_of_eq g218.symm))
    have ne223 := Nat.ne_of_lt (Nat.lt_of_lt_of_le V34.lt (Nat.le_of_eq g218.symm))
    have g224 := Nat.le_trans Z34 (Nat.le_of_eq g218.symm)
    have sz225 := Nat.le_trans K34.1 (Nat.le_of_eq g218.symm)
    have Z226 := Nat.le_trans Z34 E218.1
    have K227 := K34.ext E218
    have V218 : Arv Z h218 b218 k218 .int (6 : Int32) [(.int 0), (.int 0), (.int 0), (.int 0), (.int 0), (.int 0)] (.int 0) := (Arv.new A218 (by decide)).pad (pad_rep [] (.int 0) 6)
    refine gv (fun t k => XS.dup X218.here hx rfl (hb hby at_238) rfl rfl k) ?_
    refine gv (fun t k => XS.iconst X218.here hx rfl (hb hby at_239) k) ?_
    refine gv (fun t k => XS.iconst X218.here hx rfl (hb hby at_240) k) ?_
    obtain ⟨T228, h228, lc228, X228, e228, N228, Z228, K228, W228, V228, st228⟩ := own_stI X218 hx hZ e218 V218 N34 Z226 K227 g224 (Or.inr sz225) (j := (0 : Int32)) ⟨by decide, by decide⟩ (ji := 0) rfl (Nat.le_of_ble_eq_true rfl) (g := (mkF m 241 #[vi p0, vi p1, vj qf, v2, vi 3, vr b1, vr b11, vr b22, vu, vu, vu, vu, vu, vu, vu, vu] [(.int 0), (.int 0), (.ref b218), (.ref b218)])) rfl rfl (hb hby at_241)
    refine gv st228 ?_
    refine gv (fun t k => XS.dup X228.here hx rfl (hb hby at_242) rfl rfl k) ?_
    show Go p.tables e below P T228 (mkF m 243 #[vi p0, vi p1, vj qf, v2, vi 3, vr b1, vr b11, vr b22, vu, vu, vu, vu, vu, vu, vu, vu] [(.ref b218), (.ref b218)])
    refine gv (fun t k => XS.iconst X228.here hx rfl (hb hby at_243) k) ?_
    refine gv (fun t k => XS.iconst X228.here hx rfl (hb hby at_244) k) ?_
    obtain ⟨T229, h229, lc229, X229, e229, N229, Z229, K229, W229, V229, st229⟩ := own_stI X228 hx hZ e228 V228 N228 Z228 K228 g224 (Or.inr sz225) (j := (1 : Int32)) ⟨by decide, by decide⟩ (ji := 1) rfl (Nat.le_of_ble_eq_true rfl) (g := (mkF m 245 #[vi p0, vi p1, vj qf, v2, vi 3, vr b1, vr b11, vr b22, vu, vu, vu, vu, vu, vu, vu, vu] [(.int 0), (.int 1), (.ref b218), (.ref b218)])) rfl rfl (hb hby at_245)
    refine gv st229 ?_
    refine gv (fun t k => XS.dup X229.here hx rfl (hb hby at_246) rfl rfl k) ?_
    refine gv (fun t k => XS.iconst X229.here hx rfl (hb hby at_247) k) ?_
    refine gv (fun t k => XS.iconst X229.here hx rfl (hb hby at_248) k) ?_
    obtain ⟨T230, h230, lc230, X230, e230, N230, Z230, K230, W230, V230, st230⟩ := own_stI X229 hx hZ e229 V229 N229 Z229 K229 g224 (Or.inr sz225) (j := (2 : Int32)) ⟨by decide, by decide⟩ (ji := 2) rfl (Nat.le_of_ble_eq_true rfl) (g := (mkF m 249 #[vi p0, vi p1, vj qf, v2, vi 3, vr b1, vr b11, vr b22, vu, vu, vu, vu, vu, vu, vu, vu] [(.int 0), (.int 2), (.ref b218), (.ref b218)])) rfl rfl (hb hby at_249)
    refine gv st230 ?_
    refine gv (fun t k => XS.dup X230.here hx rfl (hb hby at_250) rfl rfl k) ?_
    refine gv (fun t k => XS.iconst X230.here hx rfl (hb hby at_251) k) ?_
    show Go p.tables e below P T230 (mkF m 252 #[vi p0, vi p1, vj qf, v2, vi 3, vr b1, vr b11, vr b22, vu, vu, vu, vu, vu, vu, vu, vu] [(.int 3), (.ref b218), (.ref b218)])
    refine gv (fun t k => XS.iconst X230.here hx rfl (hb hby at_252) k) ?_
    obtain ⟨T231, h231, lc231, X231, e231, N231, Z231, K231, W231, V231, st231⟩ := own_stI X230 hx hZ e230 V230 N230 Z230 K230 g224 (Or.inr sz225) (j := (3 : Int32)) ⟨by decide, by decide⟩ (ji := 3) rfl (Nat.le_of_ble_eq_true rfl) (g := (mkF m 253 #[vi p0, vi p1, vj qf, v2, vi 3, vr b1, vr b11, vr b22, vu, vu, vu, vu, vu, vu, vu, vu] [(.int 1), (.int 3), (.ref b218), (.ref b218)])) rfl rfl (hb hby at_253)
    refine gv st231 ?_
    refine gv (fun t k => XS.dup X231.here hx rfl (hb hby at_254) rfl rfl k) ?_
    refine gv (fun t k => XS.iconst X231.here hx rfl (hb hby at_255) k) ?_
    refine gv (fun t k => XS.iconst X231.here hx rfl (hb hby at_256) k) ?_
    obtain ⟨T232, h232, lc232, X232, e232, N232, Z232, K232, W232, V232, st232⟩ := own_stI X231 hx hZ e231 V231 N231 Z231 K231 g224 (Or.inr sz225) (j := (4 : Int32)) ⟨by decide, by decide⟩ (ji := 4) rfl (Nat.le_of_ble_eq_true rfl) (g := (mkF m 257 #[vi p0, vi p1, vj qf, v2, vi 3, vr b1, vr b11, vr b22, vu, vu, vu, vu, vu, vu, vu, vu] [(.int 1), (.int 4), (.ref b218), (.ref b218)])) rfl rfl (hb hby at_257)
    refine gv st232 ?_
    refine gv (fun t k => XS.dup X232.here hx rfl (hb hby at_258) rfl rfl k) ?_
    refine gv (fun t k => XS.iconst X232.here hx rfl (hb hby at_259) k) ?_
    refine gv (fun t k => XS.iconst X232.here hx rfl (hb hby at_260) k) ?_
    show Go p.tables e below P T232 (mkF m 261 #[vi p0, vi p1, vj qf, v2, vi 3, vr b1, vr b11, vr b22, vu, vu, vu, vu, vu, vu, vu, vu] [(.int 2), (.int 5), (.ref b218), (.ref b218)])
    obtain ⟨T233, h233, lc233, X233, e233, N233, Z233, K233, W233, V233, st233⟩ := own_stI X232 hx hZ e232 V232 N232 Z232 K232 g224 (Or.inr sz225) (j := (5 : Int32)) ⟨by decide, by decide⟩ (ji := 5) rfl (Nat.le_of_ble_eq_true rfl) (g := (mkF m 261 #[vi p0, vi p1, vj qf, v2, vi 3, vr b1, vr b11, vr b22, vu, vu, vu, vu, vu, vu, vu, vu] [(.int 2), (.int 5), (.ref b218), (.ref b218)])) rfl rfl (hb hby at_261)
    refine gv st233 ?_
    refine gv (fun t k => XS.astore X233.here hx rfl (hb hby at_262) rfl rfl (l' := #[vi p0, vi p1, vj qf, v2, vi 3, vr b1, vr b11, vr b22, vr b218, vu, vu, vu, vu, vu, vu, vu]) rfl k) ?_
    refine gv (fun t k => XS.bipush X233.here hx rfl (hb hby at_264) k) ?_
    obtain ⟨T234, h234, k234, X234, e234, E234, A234, st234⟩ := newP X233 hx hZ (own_g hw 1 rfl) e233 (g := (mkF m 266 #[vi p0, vi p1, vj qf, v2, vi 3, vr b1, vr b11, vr b22, vr b218, vu, vu, vu, vu, vu, vu, vu] [(.int 6)])) rfl (hb hby at_266) rfl (by decide) (cap := 6) (by decide) (by decide) (by decide) (by decide)
    obtain ⟨b234, g234⟩ : ∃ z, z = h233.size := ⟨_, rfl⟩
    rw [← g234] at A234 st234
    refine gv st234 ?_
    have F236 := (((((((F220.ext E218).other W228 ne219).other W229 ne219).other W230 ne219).other W231 ne219).other W232 ne219).other W233 ne219)
    have ne235 := Nat.ne_of_lt (Nat.lt_of_lt_of_le F236.lt (Nat.le_of_eq g234.symm))
    have F238 := (((((((F222.ext E218).other W228 ne221).other W229 ne221).other W230 ne221).other W231 ne221).other W232 ne221).other W233 ne221)
    have ne237 := Nat.ne_of_lt (Nat.lt_of_lt_of_le F238.lt (Nat.le_of_eq g234.symm))
    have F240 := (((((((V34.ext E218).other W228 ne223).other W229 ne223).other W230 ne223).other W231 ne223).other W232 ne223).other W233 ne223)
    have ne239 := Nat.ne_of_lt (Nat.lt_of_lt_of_le F240.lt (Nat.le_of_eq g234.symm))
    have ne241 := Nat.ne_of_lt (Nat.lt_of_lt_of_le V233.lt (Nat.le_of_eq g234.symm))
    have g242 := Nat.le_trans Z233 (Nat.le_of_eq g234.symm)
    have sz243 := Nat.le_trans K233.1 (Nat.le_of_eq g234.symm)
    have Z244 := Nat.le_trans Z233 E234.1
    have K245 := K233.ext E234
    have V234 : Arv Z h234 b234 k234 .int (6 : Int32) [(.int 0), (.int 0), (.int 0), (.int 0), (.int 0), (.int 0)] (.int 0) := (Arv.new A234 (by decide)).pad (pad_rep [] (.int 0) 6)
    refine gv (fun t k => XS.dup X234.here hx rfl (hb hby at_268) rfl rfl k) ?_
    refine gv (fun t k => XS.iconst X234.here hx rfl (hb hby at_269) k) ?_
    refine gv (fun t k => XS.iconst X234.here hx rfl (hb hby at_270) k) ?_
    obtain ⟨T246, h246, lc246, X246, e246, N246, Z246, K246, W246, V246, st246⟩ := own_stI X234 hx hZ e234 V234 N233 Z244 K245 g242 (Or.inr sz243) (j := (0 : Int32)) ⟨by decide, by decide⟩ (ji := 0) rfl (Nat.le_of_ble_eq_true rfl) (g := (mkF m 271 #[vi p0, vi p1, vj qf, v2, vi 3, vr b1, vr b11, vr b22, vr b218, vu, vu, vu, vu, vu, vu, vu] [(.int 1), (.int 0), (.ref b234), (.ref b234)])) rfl rfl (hb hby at_271)
    refine gv st246 ?_
    refine gv (fun t k => XS.dup X246.here hx rfl (hb hby at_272) rfl rfl k) ?_
    show Go p.tables e below P T246 (mkF m 273 #[vi p0, vi p1, vj qf, v2, vi 3, vr b1, vr b11, vr b22, vr b218, vu, vu, vu, vu, vu, vu, vu] [(.ref b234), (.ref b234)])
    refine gv (fun t k => XS.iconst X246.here hx rfl (hb hby at_273) k) ?_
    refine gv (fun t k => XS.iconst X246.here hx rfl (hb hby at_274) k) ?_
    obtain ⟨T247, h247, lc247, X247, e247, N247, Z247, K247, W247, V247, st247⟩ := own_stI X246 hx hZ e246 V246 N246 Z246 K246 g242 (Or.inr sz243) (j := (1 : Int32)) ⟨by decide, by decide⟩ (ji := 1) rfl (Nat.le_of_ble_eq_true rfl) (g := (mkF m 275 #[vi p0, vi p1, vj qf, v2, vi 3, vr b1, vr b11, vr b22, vr b218, vu, vu, vu, vu, vu, vu, vu] [(.int 2), (.int 1), (.ref b234), (.ref b234)])) rfl rfl (hb hby at_275)
    refine gv st247 ?_
    refine gv (fun t k => XS.dup X247.here hx rfl (hb hby at_276) rfl rfl k) ?_
    refine gv (fun t k => XS.iconst X247.here hx rfl (hb hby at_277) k) ?_
    refine gv (fun t k => XS.iconst X247.here hx rfl (hb hby at_278) k) ?_
    obtain ⟨T248, h248, lc248, X248, e248, N248, Z248, K248, W248, V248, st248⟩ := own_stI X247 hx hZ e247 V247 N247 Z247 K247 g242 (Or.inr sz243) (j := (2 : Int32)) ⟨by decide, by decide⟩ (ji := 2) rfl (Nat.le_of_ble_eq_true rfl) (g := (mkF m 279 #[vi p0, vi p1, vj qf, v2, vi 3, vr b1, vr b11, vr b22, vr b218, vu, vu, vu, vu, vu, vu, vu] [(.int 3), (.int 2), (.ref b234), (.ref b234)])) rfl rfl (hb hby at_279)
    refine gv st248 ?_
    refine gv (fun t k => XS.dup X248.here hx rfl (hb hby at_280) rfl rfl k) ?_
    refine gv (fun t k => XS.iconst X248.here hx rfl (hb hby at_281) k) ?_
    show Go p.tables e below P T248 (mkF m 282 #[vi p0, vi p1, vj qf, v2, vi 3, vr b1, vr b11, vr b22, vr b218, vu, vu, vu, vu, vu, vu, vu] [(.int 3), (.ref b234), (.ref b234)])
    refine gv (fun t k => XS.iconst X248.here hx rfl (hb hby at_282) k) ?_
    obtain ⟨T249, h249, lc249, X249, e249, N249, Z249, K249, W249, V249, st249⟩ := own_stI X248 hx hZ e248 V248 N248 Z248 K248 g242 (Or.inr sz243) (j := (3 : Int32)) ⟨by decide, by decide⟩ (ji := 3) rfl (Nat.le_of_ble_eq_true rfl) (g := (mkF m 283 #[vi p0, vi p1, vj qf, v2, vi 3, vr b1, vr b11, vr b22, vr b218, vu, vu, vu, vu, vu, vu, vu] [(.int 2), (.int 3), (.ref b234), (.ref b234)])) rfl rfl (hb hby at_283)
    refine gv st249 ?_
    refine gv (fun t k => XS.dup X249.here hx rfl (hb hby at_284) rfl rfl k) ?_
    refine gv (fun t k => XS.iconst X249.here hx rfl (hb hby at_285) k) ?_
    refine gv (fun t k => XS.iconst X249.here hx rfl (hb hby at_286) k) ?_
    obtain ⟨T250, h250, lc250, X250, e250, N250, Z250, K250, W250, V250, st250⟩ := own_stI X249 hx hZ e249 V249 N249 Z249 K249 g242 (Or.inr sz243) (j := (4 : Int32)) ⟨by decide, by decide⟩ (ji := 4) rfl (Nat.le_of_ble_eq_true rfl) (g := (mkF m 287 #[vi p0, vi p1, vj qf, v2, vi 3, vr b1, vr b11, vr b22, vr b218, vu, vu, vu, vu, vu, vu, vu] [(.int 3), (.int 4), (.ref b234), (.ref b234)])) rfl rfl (hb hby at_287)
    refine gv st250 ?_
    refine gv (fun t k => XS.dup X250.here hx rfl (hb hby at_288) rfl rfl k) ?_
    refine gv (fun t k => XS.iconst X250.here hx rfl (hb hby at_289) k) ?_
    refine gv (fun t k => XS.iconst X250.here hx rfl (hb hby at_290) k) ?_
    show Go p.tables e below P T250 (mkF m 291 #[vi p0, vi p1, vj qf, v2, vi 3, vr b1, vr b11, vr b22, vr b218, vu, vu, vu, vu, vu, vu, vu] [(.int 3), (.int 5), (.ref b234), (.ref b234)])
    obtain ⟨T251, h251, lc251, X251, e251, N251, Z251, K251, W251, V251, st251⟩ := own_stI X250 hx hZ e250 V250 N250 Z250 K250 g242 (Or.inr sz243) (j := (5 : Int32)) ⟨by decide, by decide⟩ (ji := 5) rfl (Nat.le_of_ble_eq_true rfl) (g := (mkF m 291 #[vi p0, vi p1, vj qf, v2, vi 3, vr b1, vr b11, vr b22, vr b218, vu, vu, vu, vu, vu, vu, vu] [(.int 3), (.int 5), (.ref b234), (.ref b234)])) rfl rfl (hb hby at_291)
    refine gv st251 ?_
    refine gv (fun t k => XS.astore X251.here hx rfl (hb hby at_292) rfl rfl (l' := #[vi p0, vi p1, vj qf, v2, vi 3, vr b1, vr b11, vr b22, vr b218, vr b234, vu, vu, vu, vu, vu, vu]) rfl k) ?_
    refine gv (fun t k => XS.bipush X251.here hx rfl (hb hby at_294) k) ?_
    obtain ⟨T252, h252, k252, X252, e252, E252, A252, st252⟩ := newP X251 hx hZ (own_g hw 1 rfl) e251 (g := (mkF m 296 #[vi p0, vi p1, vj qf, v2, vi 3, vr b1, vr b11, vr b22, vr b218, vr b234, vu, vu, vu, vu, vu, vu] [(.int 6)])) rfl (hb hby at_296) rfl (by decide) (cap := 6) (by decide) (by decide) (by decide) (by decide)
    obtain ⟨b252, g252⟩ : ∃ z, z = h251.size := ⟨_, rfl⟩
    rw [← g252] at A252 st252
    refine gv st252 ?_
    have F254 := (((((((F236.ext E234).other W246 ne235).other W247 ne235).other W248 ne235).other W249 ne235).other W250 ne235).other W251 ne235)
    have ne253 := Nat.ne_of_lt (Nat.lt_of_lt_of_le F254.lt (Nat.le_of_eq g252.symm))
    have F256 := (((((((F238.ext E234).other W246 ne237).other W247 ne237).other W248 ne237).other W249 ne237).other W250 ne237).other W251 ne237)
    have ne255 := Nat.ne_of_lt (Nat.lt_of_lt_of_le F256.lt (Nat.le_of_eq g252.symm))
    have F258 := (((((((F240.ext E234).other W246 ne239).other W247 ne239).other W248 ne239).other W249 ne239).other W250 ne239).other W251 ne239)
    have ne257 := Nat.ne_of_lt (Nat.lt_of_lt_of_le F258.lt (Nat.le_of_eq g252.symm))
    have F260 := (((((((V233.ext E234).other W246 ne241).other W247 ne241).other W248 ne241).other W249 ne241).other W250 ne241).other W251 ne241)
    have ne259 := Nat.ne_of_lt (Nat.lt_of_lt_of_le F260.lt (Nat.le_of_eq g252.symm))
    have ne261 := Nat.ne_of_lt (Nat.lt_of_lt_of_le V251.lt (Nat.le_of_eq g252.symm))
    have g262 := Nat.le_trans Z251 (Nat.le_of_eq g252.symm)
    have sz263 := Nat.le_trans K251.1 (Nat.le_of_eq g252.symm)
    have Z264 := Nat.le_trans Z251 E252.1
    have K265 := K251.ext E252
    have V252 : Arv Z h252 b252 k252 .int (6 : Int32) [(.int 0), (.int 0), (.int 0), (.int 0), (.int 0), (.int 0)] (.int 0) := (Arv.new A252 (by decide)).pad (pad_rep [] (.int 0) 6)
    refine gv (fun t k => XS.dup X252.here hx rfl (hb hby at_298) rfl rfl k) ?_
    refine gv (fun t k => XS.iconst X252.here hx rfl (hb hby at_299) k) ?_
    refine gv (fun t k => XS.iconst X252.here hx rfl (hb hby at_300) k) ?_
    obtain ⟨T266, h266, lc266, X266, e266, N266, Z266, K266, W266, V266, st266⟩ := own_stI X252 hx hZ e252 V252 N251 Z264 K265 g262 (Or.inr sz263) (j := (0 : Int32)) ⟨by decide, by decide⟩ (ji := 0) rfl (Nat.le_of_ble_eq_true rfl) (g := (mkF m 301 #[vi p0, vi p1, vj qf, v2, vi 3, vr b1, vr b11, vr b22, vr b218, vr b234, vu, vu, vu, vu, vu, vu] [(.int (-1)), (.int 0), (.ref b252), (.ref b252)])) rfl rfl (hb hby at_301)
    refine gv st266 ?_
    refine gv (fun t k => XS.dup X266.here hx rfl (hb hby at_302) rfl rfl k) ?_
    show Go p.tables e below P T266 (mkF m 303 #[vi p0, vi p1, vj qf, v2, vi 3, vr b1, vr b11, vr b22, vr b218, vr b234, vu, vu, vu, vu, vu, vu] [(.ref b252), (.ref b252)])
    refine gv (fun t k => XS.iconst X266.here hx rfl (hb hby at_303) k) ?_
    refine gv (fun t k => XS.iconst X266.here hx rfl (hb hby at_304) k) ?_
    obtain ⟨T267, h267, lc267, X267, e267, N267, Z267, K267, W267, V267, st267⟩ := own_stI X266 hx hZ e266 V266 N266 Z266 K266 g262 (Or.inr sz263) (j := (1 : Int32)) ⟨by decide, by decide⟩ (ji := 1) rfl (Nat.le_of_ble_eq_true rfl) (g := (mkF m 305 #[vi p0, vi p1, vj qf, v2, vi 3, vr b1, vr b11, vr b22, vr b218, vr b234, vu, vu, vu, vu, vu, vu] [(.int (-1)), (.int 1), (.ref b252), (.ref b252)])) rfl rfl (hb hby at_305)
    refine gv st267 ?_
    refine gv (fun t k => XS.dup X267.here hx rfl (hb hby at_306) rfl rfl k) ?_
    refine gv (fun t k => XS.iconst X267.here hx rfl (hb hby at_307) k) ?_
    refine gv (fun t k => XS.iconst X267.here hx rfl (hb hby at_308) k) ?_
    obtain ⟨T268, h268, lc268, X268, e268, N268, Z268, K268, W268, V268, st268⟩ := own_stI X267 hx hZ e267 V267 N267 Z267 K267 g262 (Or.inr sz263) (j := (2 : Int32)) ⟨by decide, by decide⟩ (ji := 2) rfl (Nat.le_of_ble_eq_true rfl) (g := (mkF m 309 #[vi p0, vi p1, vj qf, v2, vi 3, vr b1, vr b11, vr b22, vr b218, vr b234, vu, vu, vu, vu, vu, vu] [(.int (-1)), (.int 2), (.ref b252), (.ref b252)])) rfl rfl (hb hby at_309)
    refine gv st268 ?_
    refine gv (fun t k => XS.dup X268.here hx rfl (hb hby at_310) rfl rfl k) ?_
    refine gv (fun t k => XS.iconst X268.here hx rfl (hb hby at_311) k) ?_
    show Go p.tables e below P T268 (mkF m 312 #[vi p0, vi p1, vj qf, v2, vi 3, vr b1, vr b11, vr b22, vr b218, vr b234, vu, vu, vu, vu, vu, vu] [(.int 3), (.ref b252), (.ref b252)])
    refine gv (fun t k => XS.iconst X268.here hx rfl (hb hby at_312) k) ?_
    obtain ⟨T269, h269, lc269, X269, e269, N269, Z269, K269, W269, V269, st269⟩ := own_stI X268 hx hZ e268 V268 N268 Z268 K268 g262 (Or.inr sz263) (j := (3 : Int32)) ⟨by decide, by decide⟩ (ji := 3) rfl (Nat.le_of_ble_eq_true rfl) (g := (mkF m 313 #[vi p0, vi p1, vj qf, v2, vi 3, vr b1, vr b11, vr b22, vr b218, vr b234, vu, vu, vu, vu, vu, vu] [(.int (-1)), (.int 3), (.ref b252), (.ref b252)])) rfl rfl (hb hby at_313)
    refine gv st269 ?_
    refine gv (fun t k => XS.dup X269.here hx rfl (hb hby at_314) rfl rfl k) ?_
    refine gv (fun t k => XS.iconst X269.here hx rfl (hb hby at_315) k) ?_
    refine gv (fun t k => XS.iconst X269.here hx rfl (hb hby at_316) k) ?_
    obtain ⟨T270, h270, lc270, X270, e270, N270, Z270, K270, W270, V270, st270⟩ := own_stI X269 hx hZ e269 V269 N269 Z269 K269 g262 (Or.inr sz263) (j := (4 : Int32)) ⟨by decide, by decide⟩ (ji := 4) rfl (Nat.le_of_ble_eq_true rfl) (g := (mkF m 317 #[vi p0, vi p1, vj qf, v2, vi 3, vr b1, vr b11, vr b22, vr b218, vr b234, vu, vu, vu, vu, vu, vu] [(.int (-1)), (.int 4), (.ref b252), (.ref b252)])) rfl rfl (hb hby at_317)
    refine gv st270 ?_
    refine gv (fun t k => XS.dup X270.here hx rfl (hb hby at_318) rfl rfl k) ?_
    refine gv (fun t k => XS.iconst X270.here hx rfl (hb hby at_319) k) ?_
    refine gv (fun t k => XS.iconst X270.here hx rfl (hb hby at_320) k) ?_
    show Go p.tables e below P T270 (mkF m 321 #[vi p0, vi p1, vj qf, v2, vi 3, vr b1, vr b11, vr b22, vr b218, vr b234, vu, vu, vu, vu, vu, vu] [(.int (-1)), (.int 5), (.ref b252), (.ref b252)])
    obtain ⟨T271, h271, lc271, X271, e271, N271, Z271, K271, W271, V271, st271⟩ := own_stI X270 hx hZ e270 V270 N270 Z270 K270 g262 (Or.inr sz263) (j := (5 : Int32)) ⟨by decide, by decide⟩ (ji := 5) rfl (Nat.le_of_ble_eq_true rfl) (g := (mkF m 321 #[vi p0, vi p1, vj qf, v2, vi 3, vr b1, vr b11, vr b22, vr b218, vr b234, vu, vu, vu, vu, vu, vu] [(.int (-1)), (.int 5), (.ref b252), (.ref b252)])) rfl rfl (hb hby at_321)
    refine gv st271 ?_
    refine gv (fun t k => XS.astore X271.here hx rfl (hb hby at_322) rfl rfl (l' := #[vi p0, vi p1, vj qf, v2, vi 3, vr b1, vr b11, vr b22, vr b218, vr b234, vr b252, vu, vu, vu, vu, vu]) rfl k) ?_
    refine gv (fun t k => XS.goto X271.here hx rfl (pc0 := 324) (pc' := 477) rfl (hb hby at_324) (by decide) (by decide) k) ?_
    have F272 := (((((((F260.ext E252).other W266 ne259).other W267 ne259).other W268 ne259).other W269 ne259).other W270 ne259).other W271 ne259)
    have F273 := (((((((V251.ext E252).other W266 ne261).other W267 ne261).other W268 ne261).other W269 ne261).other W270 ne261).other W271 ne261)
    have F274 := (((((((F254.ext E252).other W266 ne253).other W267 ne253).other W268 ne253).other W269 ne253).other W270 ne253).other W271 ne253)
    have F275 := (((((((F256.ext E252).other W266 ne255).other W267 ne255).other W268 ne255).other W269 ne255).other W270 ne255).other W271 ne255)
    have F276 := (((((((F258.ext E252).other W266 ne257).other W267 ne257).other W268 ne257).other W269 ne257).other W270 ne257).other W271 ne257)
    exact LP35 T271 _ h271 3 (3 : Int32) 4 2 6 2 b218 b234 b252 k218 k234 k252 own_A3 own_B3 own_C3 (ownUp X271 (by decide) (by decide)) e271 N271 Z271 K271 F274 F275 F276 F272 F273 V271 (by decide) (by decide) (by decide) (by decide) (by decide) (by decide) (by decide) (by decide) (by decide) (by decide) (by decide) (Or.inl ⟨by decide, by decide, by decide +kernel, own_good3⟩) (fun z fp hz => own_law3 z fp hz)
  · rw [(show sq.toInt32 = (4 : Int32) from by rw [c4]; rfl)]
    show Go p.tables e below P T34 (mkF m 85 #[vi p0, vi p1, vj qf, v2, vi 4, vr b1, vr b11, vr b22, vu, vu, vu, vu, vu, vu, vu, vu] [])
    refine gv (fun t k => XS.iload X34.here hx rfl (hb hby at_85) rfl k) ?_
    refine gv (fun t k => XS.ifYes X34.here hx rfl (pc0 := 87) (pc' := 120) rfl (hb hby at_87) rfl ((if0 _ _).trans (feq (by decide : ¬ ((4 : Int32) = (0 : Int32)))).2) (by decide) (by decide) k) ?_
    refine gv (fun t k => XS.iload X34.here hx rfl (hb hby at_120) rfl k) ?_
    refine gv (fun t k => XS.iconst X34.here hx rfl (hb hby at_122) k) ?_
    refine gv (fun t k => XS.icmpYes X34.here hx rfl (pc0 := 123) (pc' := 168) rfl (hb hby at_123) rfl (feq (by decide : ¬ ((4 : Int32) = (1 : Int32)))).2 (by decide) (by decide) k) ?_
    refine gv (fun t k => XS.iload X34.here hx rfl (hb hby at_168) rfl k) ?_
    refine gv (fun t k => XS.iconst X34.here hx rfl (hb hby at_170) k) ?_
    refine gv (fun t k => XS.icmpYes X34.here hx rfl (pc0 := 171) (pc' := 228) rfl (hb hby at_171) rfl (feq (by decide : ¬ ((4 : Int32) = (2 : Int32)))).2 (by decide) (by decide) k) ?_
    refine gv (fun t k => XS.iload X34.here hx rfl (hb hby at_228) rfl k) ?_
    show Go p.tables e below P T34 (mkF m 230 #[vi p0, vi p1, vj qf, v2, vi 4, vr b1, vr b11, vr b22, vu, vu, vu, vu, vu, vu, vu, vu] [(.int 4)])
    refine gv (fun t k => XS.iconst X34.here hx rfl (hb hby at_230) k) ?_
    refine gv (fun t k => XS.icmpYes X34.here hx rfl (pc0 := 231) (pc' := 327) rfl (hb hby at_231) rfl (feq (by decide : ¬ ((4 : Int32) = (3 : Int32)))).2 (by decide) (by decide) k) ?_
    refine gv (fun t k => XS.bipush X34.here hx rfl (hb hby at_327) k) ?_
    obtain ⟨T277, h277, k277, X277, e277, E277, A277, st277⟩ := newP X34 hx hZ (own_g hw 1 rfl) e34 (g := (mkF m 329 #[vi p0, vi p1, vj qf, v2, vi 4, vr b1, vr b11, vr b22, vu, vu, vu, vu, vu, vu, vu, vu] [(.int 10)])) rfl (hb hby at_329) rfl (by decide) (cap := 10) (by decide) (by decide) (by decide) (by decide)
    obtain ⟨b277, g277⟩ : ∃ z, z = h34.size := ⟨_, rfl⟩
    rw [← g277] at A277 st277
    refine gv st277 ?_
    have F279 := ((((((F24.ext E22).other W30 ne23).other W31 ne23).other W32 ne23).other W33 ne23).other W34 ne23)
    have ne278 := Nat.ne_of_lt (Nat.lt_of_lt_of_le F279.lt (Nat.le_of_eq g277.symm))
    have F281 := ((((((V21.ext E22).other W30 ne25).other W31 ne25).other W32 ne25).other W33 ne25).other W34 ne25)
    have ne280 := Nat.ne_of_lt (Nat.lt_of_lt_of_le F281.lt (Nat.le_of_eq g277.symm))
    have ne282 := Nat.ne_of_lt (Nat.lt_of_lt_of_le V34.lt (Nat.le_of_eq g277.symm))
    have g283 := Nat.le_trans Z34 (Nat.le_of_eq g277.symm)
    have sz284 := Nat.le_trans K34.1 (Nat.le_of_eq g277.symm)
    have Z285 := Nat.le_trans Z34 E277.1
    have K286 := K34.ext E277
    have V277 : Arv Z h277 b277 k277 .int (10 : Int32) [(.int 0), (.int 0), (.int 0), (.int 0), (.int 0), (.int 0), (.int 0), (.int 0), (.int 0), (.int 0)] (.int 0) := (Arv.new A277 (by decide)).pad (pad_rep [] (.int 0) 10)
    refine gv (fun t k => XS.dup X277.here hx rfl (hb hby at_331) rfl rfl k) ?_
    refine gv (fun t k => XS.iconst X277.here hx rfl (hb hby at_332) k) ?_
    refine gv (fun t k => XS.iconst X277.here hx rfl (hb hby at_333) k) ?_
    obtain ⟨T287, h287, lc287, X287, e287, N287, Z287, K287, W287, V287, st287⟩ := own_stI X277 hx hZ e277 V277 N34 Z285 K286 g283 (Or.inr sz284) (j := (0 : Int32)) ⟨by decide, by decide⟩ (ji := 0) rfl (Nat.le_of_ble_eq_true rfl) (g := (mkF m 334 #[vi p0, vi p1, vj qf, v2, vi 4, vr b1, vr b11, vr b22, vu, vu, vu, vu, vu, vu, vu, vu] [(.int 0), (.int 0), (.ref b277), (.ref b277)])) rfl rfl (hb hby at_334)
    refine gv st287 ?_
    refine gv (fun t k => XS.dup X287.here hx rfl (hb hby at_335) rfl rfl k) ?_
    show Go p.tables e below P T287 (mkF m 336 #[vi p0, vi p1, vj qf, v2, vi 4, vr b1, vr b11, vr b22, vu, vu, vu, vu, vu, vu, vu, vu] [(.ref b277), (.ref b277)])
    refine gv (fun t k => XS.iconst X287.here hx rfl (hb hby at_336) k) ?_
    refine gv (fun t k => XS.iconst X287.here hx rfl (hb hby at_337) k) ?_
    obtain ⟨T288, h288, lc288, X288, e288, N288, Z288, K288, W288, V288, st288⟩ := own_stI X287 hx hZ e287 V287 N287 Z287 K287 g283 (Or.inr sz284) (j := (1 : Int32)) ⟨by decide, by decide⟩ (ji := 1) rfl (Nat.le_of_ble_eq_true rfl) (g := (mkF m 338 #[vi p0, vi p1, vj qf, v2, vi 4, vr b1, vr b11, vr b22, vu, vu, vu, vu, vu, vu, vu, vu] [(.int 0), (.int 1), (.ref b277), (.ref b277)])) rfl rfl (hb hby at_338)
    refine gv st288 ?_
    refine gv (fun t k => XS.dup X288.here hx rfl (hb hby at_339) rfl rfl k) ?_
    refine gv (fun t k => XS.iconst X288.here hx rfl (hb hby at_340) k) ?_
    refine gv (fun t k => XS.iconst X288.here hx rfl (hb hby at_341) k) ?_
    obtain ⟨T289, h289, lc289, X289, e289, N289, Z289, K289, W289, V289, st289⟩ := own_stI X288 hx hZ e288 V288 N288 Z288 K288 g283 (Or.inr sz284) (j := (2 : Int32)) ⟨by decide, by decide⟩ (ji := 2) rfl (Nat.le_of_ble_eq_true rfl) (g := (mkF m 342 #[vi p0, vi p1, vj qf, v2, vi 4, vr b1, vr b11, vr b22, vu, vu, vu, vu, vu, vu, vu, vu] [(.int 0), (.int 2), (.ref b277), (.ref b277)])) rfl rfl (hb hby at_342)
    refine gv st289 ?_
    refine gv (fun t k => XS.dup X289.here hx rfl (hb hby at_343) rfl rfl k) ?_
    refine gv (fun t k => XS.iconst X289.here hx rfl (hb hby at_344) k) ?_
    show Go p.tables e below P T289 (mkF m 345 #[vi p0, vi p1, vj qf, v2, vi 4, vr b1, vr b11, vr b22, vu, vu, vu, vu, vu, vu, vu, vu] [(.int 3), (.ref b277), (.ref b277)])
    refine gv (fun t k => XS.iconst X289.here hx rfl (hb hby at_345) k) ?_
    obtain ⟨T290, h290, lc290, X290, e290, N290, Z290, K290, W290, V290, st290⟩ := own_stI X289 hx hZ e289 V289 N289 Z289 K289 g283 (Or.inr sz284) (j := (3 : Int32)) ⟨by decide, by decide⟩ (ji := 3) rfl (Nat.le_of_ble_eq_true rfl) (g := (mkF m 346 #[vi p0, vi p1, vj qf, v2, vi 4, vr b1, vr b11, vr b22, vu, vu, vu, vu, vu, vu, vu, vu] [(.int 0), (.int 3), (.ref b277), (.ref b277)])) rfl rfl (hb hby at_346)
    refine gv st290 ?_
    refine gv (fun t k => XS.dup X290.here hx rfl (hb hby at_347) rfl rfl k) ?_
    refine gv (fun t k => XS.iconst X290.here hx rfl (hb hby at_348) k) ?_
    refine gv (fun t k => XS.iconst X290.here hx rfl (hb hby at_349) k) ?_
    obtain ⟨T291, h291, lc291, X291, e291, N291, Z291, K291, W291, V291, st291⟩ := own_stI X290 hx hZ e290 V290 N290 Z290 K290 g283 (Or.inr sz284) (j := (4 : Int32)) ⟨by decide, by decide⟩ (ji := 4) rfl (Nat.le_of_ble_eq_true rfl) (g := (mkF m 350 #[vi p0, vi p1, vj qf, v2, vi 4, vr b1, vr b11, vr b22, vu, vu, vu, vu, vu, vu, vu, vu] [(.int 0), (.int 4), (.ref b277), (.ref b277)])) rfl rfl (hb hby at_350)
    refine gv st291 ?_
    refine gv (fun t k => XS.dup X291.here hx rfl (hb hby at_351) rfl rfl k) ?_
    refine gv (fun t k => XS.iconst X291.here hx rfl (hb hby at_352) k) ?_
    refine gv (fun t k => XS.iconst X291.here hx rfl (hb hby at_353) k) ?_
    show Go p.tables e below P T291 (mkF m 354 #[vi p0, vi p1, vj qf, v2, vi 4, vr b1, vr b11, vr b22, vu, vu, vu, vu, vu, vu, vu, vu] [(.int 0), (.int 5), (.ref b277), (.ref b277)])
    obtain ⟨T292, h292, lc292, X292, e292, N292, Z292, K292, W292, V292, st292⟩ := own_stI X291 hx hZ e291 V291 N291 Z291 K291 g283 (Or.inr sz284) (j := (5 : Int32)) ⟨by decide, by decide⟩ (ji := 5) rfl (Nat.le_of_ble_eq_true rfl) (g := (mkF m 354 #[vi p0, vi p1, vj qf, v2, vi 4, vr b1, vr b11, vr b22, vu, vu, vu, vu, vu, vu, vu, vu] [(.int 0), (.int 5), (.ref b277), (.ref b277)])) rfl rfl (hb hby at_354)
    refine gv st292 ?_
    refine gv (fun t k => XS.dup X292.here hx rfl (hb hby at_355) rfl rfl k) ?_
    refine gv (fun t k => XS.bipush X292.here hx rfl (hb hby at_356) k) ?_
    refine gv (fun t k => XS.iconst X292.here hx rfl (hb hby at_358) k) ?_
    obtain ⟨T293, h293, lc293, X293, e293, N293, Z293, K293, W293, V293, st293⟩ := own_stI X292 hx hZ e292 V292 N292 Z292 K292 g283 (Or.inr sz284) (j := (6 : Int32)) ⟨by decide, by decide⟩ (ji := 6) rfl (Nat.le_of_ble_eq_true rfl) (g := (mkF m 359 #[vi p0, vi p1, vj qf, v2, vi 4, vr b1, vr b11, vr b22, vu, vu, vu, vu, vu, vu, vu, vu] [(.int 1), (.int 6), (.ref b277), (.ref b277)])) rfl rfl (hb hby at_359)
    refine gv st293 ?_
    refine gv (fun t k => XS.dup X293.here hx rfl (hb hby at_360) rfl rfl k) ?_
    refine gv (fun t k => XS.bipush X293.here hx rfl (hb hby at_361) k) ?_
    refine gv (fun t k => XS.iconst X293.here hx rfl (hb hby at_363) k) ?_
    obtain ⟨T294, h294, lc294, X294, e294, N294, Z294, K294, W294, V294, st294⟩ := own_stI X293 hx hZ e293 V293 N293 Z293 K293 g283 (Or.inr sz284) (j := (7 : Int32)) ⟨by decide, by decide⟩ (ji := 7) rfl (Nat.le_of_ble_eq_true rfl) (g := (mkF m 364 #[vi p0, vi p1, vj qf, v2, vi 4, vr b1, vr b11, vr b22, vu, vu, vu, vu, vu, vu, vu, vu] [(.int 1), (.int 7), (.ref b277), (.ref b277)])) rfl rfl (hb hby at_364)
    refine gv st294 ?_
    show Go p.tables e below P T294 (mkF m 365 #[vi p0, vi p1, vj qf, v2, vi 4, vr b1, vr b11, vr b22, vu, vu, vu, vu, vu, vu, vu, vu] [(.ref b277)])
    refine gv (fun t k => XS.dup X294.here hx rfl (hb hby at_365) rfl rfl k) ?_
    refine gv (fun t k => XS.bipush X294.here hx rfl (hb hby at_366) k) ?_
    refine gv (fun t k => XS.iconst X294.here hx rfl (hb hby at_368) k) ?_
    obtain ⟨T295, h295, lc295, X295, e295, N295, Z295, K295, W295, V295, st295⟩ := own_stI X294 hx hZ e294 V294 N294 Z294 K294 g283 (Or.inr sz284) (j := (8 : Int32)) ⟨by decide, by decide⟩ (ji := 8) rfl (Nat.le_of_ble_eq_true rfl) (g := (mkF m 369 #[vi p0, vi p1, vj qf, v2, vi 4, vr b1, vr b11, vr b22, vu, vu, vu, vu, vu, vu, vu, vu] [(.int 1), (.int 8), (.ref b277), (.ref b277)])) rfl rfl (hb hby at_369)
    refine gv st295 ?_
    refine gv (fun t k => XS.dup X295.here hx rfl (hb hby at_370) rfl rfl k) ?_
    refine gv (fun t k => XS.bipush X295.here hx rfl (hb hby at_371) k) ?_
    refine gv (fun t k => XS.iconst X295.here hx rfl (hb hby at_373) k) ?_
    obtain ⟨T296, h296, lc296, X296, e296, N296, Z296, K296, W296, V296, st296⟩ := own_stI X295 hx hZ e295 V295 N295 Z295 K295 g283 (Or.inr sz284) (j := (9 : Int32)) ⟨by decide, by decide⟩ (ji := 9) rfl (Nat.le_of_ble_eq_true rfl) (g := (mkF m 374 #[vi p0, vi p1, vj qf, v2, vi 4, vr b1, vr b11, vr b22, vu, vu, vu, vu, vu, vu, vu, vu] [(.int 2), (.int 9), (.ref b277), (.ref b277)])) rfl rfl (hb hby at_374)
    refine gv st296 ?_
    refine gv (fun t k => XS.astore X296.here hx rfl (hb hby at_375) rfl rfl (l' := #[vi p0, vi p1, vj qf, v2, vi 4, vr b1, vr b11, vr b22, vr b277, vu, vu, vu, vu, vu, vu, vu]) rfl k) ?_
    show Go p.tables e below P T296 (mkF m 377 #[vi p0, vi p1, vj qf, v2, vi 4, vr b1, vr b11, vr b22, vr b277, vu, vu, vu, vu, vu, vu, vu] [])
    refine gv (fun t k => XS.bipush X296.here hx rfl (hb hby at_377) k) ?_
    obtain ⟨T297, h297, k297, X297, e297, E297, A297, st297⟩ := newP X296 hx hZ (own_g hw 1 rfl) e296 (g := (mkF m 379 #[vi p0, vi p1, vj qf, v2, vi 4, vr b1, vr b11, vr b22, vr b277, vu, vu, vu, vu, vu, vu, vu] [(.int 10)])) rfl (hb hby at_379) rfl (by decide) (cap := 10) (by decide) (by decide) (by decide) (by decide)
    obtain ⟨b297, g297⟩ : ∃ z, z = h296.size := ⟨_, rfl⟩
    rw [← g297] at A297 st297
    refine gv st297 ?_
    have F299 := (((((((((((F279.ext E277).other W287 ne278).other W288 ne278).other W289 ne278).other W290 ne278).other W291 ne278).other W292 ne278).other W293 ne278).other W294 ne278).other W295 ne278).other W296 ne278)
    have ne298 := Nat.ne_of_lt (Nat.lt_of_lt_of_le F299.lt (Nat.le_of_eq g297.symm))
    have F301 := (((((((((((F281.ext E277).other W287 ne280).other W288 ne280).other W289 ne280).other W290 ne280).other W291 ne280).other W292 ne280).other W293 ne280).other W294 ne280).other W295 ne280).other W296 ne280)
    have ne300 := Nat.ne_of_lt (Nat.lt_of_lt_of_le F301.lt (Nat.le_of_eq g297.symm))
    have F303 := (((((((((((V34.ext E277).other W287 ne282).other W288 ne282).other W289 ne282).other W290 ne282).other W291 ne282).other W292 ne282).other W293 ne282).other W294 ne282).other W295 ne282).other W296 ne282)
    have ne302 := Nat.ne_of_lt (Nat.lt_of_lt_of_le F303.lt (Nat.le_of_eq g297.symm))
    have ne304 := Nat.ne_of_lt (Nat.lt_of_lt_of_le V296.lt (Nat.le_of_eq g297.symm))
    have g305 := Nat.le_trans Z296 (Nat.le_of_eq g297.symm)
    have sz306 := Nat.le_trans K296.1 (Nat.le_of_eq g297.symm)
    have Z307 := Nat.le_trans Z296 E297.1
    have K308 := K296.ext E297
    have V297 : Arv Z h297 b297 k297 .int (10 : Int32) [(.int 0), (.int 0), (.int 0), (.int 0), (.int 0), (.int 0), (.int 0), (.int 0), (.int 0), (.int 0)] (.int 0) := (Arv.new A297 (by decide)).pad (pad_rep [] (.int 0) 10)
    refine gv (fun t k => XS.dup X297.here hx rfl (hb hby at_381) rfl rfl k) ?_
    refine gv (fun t k => XS.iconst X297.here hx rfl (hb hby at_382) k) ?_
    refine gv (fun t k => XS.iconst X297.here hx rfl (hb hby at_383) k) ?_
    obtain ⟨T309, h309, lc309, X309, e309, N309, Z309, K309, W309, V309, st309⟩ := own_stI X297 hx hZ e297 V297 N296 Z307 K308 g305 (Or.inr sz306) (j := (0 : Int32)) ⟨by decide, by decide⟩ (ji := 0) rfl (Nat.le_of_ble_eq_true rfl) (g := (mkF m 384 #[vi p0, vi p1, vj qf, v2, vi 4, vr b1, vr b11, vr b22, vr b277, vu, vu, vu, vu, vu, vu, vu] [(.int 1), (.int 0), (.ref b297), (.ref b297)])) rfl rfl (hb hby at_384)
    refine gv st309 ?_
    refine gv (fun t k => XS.dup X309.here hx rfl (hb hby at_385) rfl rfl k) ?_
    refine gv (fun t k => XS.iconst X309.here hx rfl (hb hby at_386) k) ?_
    refine gv (fun t k => XS.iconst X309.here hx rfl (hb hby at_387) k) ?_
    show Go p.tables e below P T309 (mkF m 388 #[vi p0, vi p1, vj qf, v2, vi 4, vr b1, vr b11, vr b22, vr b277, vu, vu, vu, vu, vu, vu, vu] [(.int 1), (.int 1), (.ref b297), (.ref b297)])
    obtain ⟨T310, h310, lc310, X310, e310, N310, Z310, K310, W310, V310, st310⟩ := own_stI X309 hx hZ e309 V309 N309 Z309 K309 g305 (Or.inr sz306) (j := (1 : Int32)) ⟨by decide, by decide⟩ (ji := 1) rfl (Nat.le_of_ble_eq_true rfl) (g := (mkF m 388 #[vi p0, vi p1, vj qf, v2, vi 4, vr b1, vr b11, vr b22, vr b277, vu, vu, vu, vu, vu, vu, vu] [(.int 1), (.int 1), (.ref b297), (.ref b297)])) rfl rfl (hb hby at_388)
    refine gv st310 ?_
    refine gv (fun t k => XS.dup X310.here hx rfl (hb hby at_389) rfl rfl k) ?_
    refine gv (fun t k => XS.iconst X310.here hx rfl (hb hby at_390) k) ?_
    refine gv (fun t k => XS.iconst X310.here hx rfl (hb hby at_391) k) ?_
    obtain ⟨T311, h311, lc311, X311, e311, N311, Z311, K311, W311, V311, st311⟩ := own_stI X310 hx hZ e310 V310 N310 Z310 K310 g305 (Or.inr sz306) (j := (2 : Int32)) ⟨by decide, by decide⟩ (ji := 2) rfl (Nat.le_of_ble_eq_true rfl) (g := (mkF m 392 #[vi p0, vi p1, vj qf, v2, vi 4, vr b1, vr b11, vr b22, vr b277, vu, vu, vu, vu, vu, vu, vu] [(.int 1), (.int 2), (.ref b297), (.ref b297)])) rfl rfl (hb hby at_392)
    refine gv st311 ?_
    refine gv (fun t k => XS.dup X311.here hx rfl (hb hby at_393) rfl rfl k) ?_
    refine gv (fun t k => XS.iconst X311.here hx rfl (hb hby at_394) k) ?_
    refine gv (fun t k => XS.iconst X311.here hx rfl (hb hby at_395) k) ?_
    obtain ⟨T312, h312, lc312, X312, e312, N312, Z312, K312, W312, V312, st312⟩ := own_stI X311 hx hZ e311 V311 N311 Z311 K311 g305 (Or.inr sz306) (j := (3 : Int32)) ⟨by decide, by decide⟩ (ji := 3) rfl (Nat.le_of_ble_eq_true rfl) (g := (mkF m 396 #[vi p0, vi p1, vj qf, v2, vi 4, vr b1, vr b11, vr b22, vr b277, vu, vu, vu, vu, vu, vu, vu] [(.int 2), (.int 3), (.ref b297), (.ref b297)])) rfl rfl (hb hby at_396)
    refine gv st312 ?_
    show Go p.tables e below P T312 (mkF m 397 #[vi p0, vi p1, vj qf, v2, vi 4, vr b1, vr b11, vr b22, vr b277, vu, vu, vu, vu, vu, vu, vu] [(.ref b297)])
    refine gv (fun t k => XS.dup X312.here hx rfl (hb hby at_397) rfl rfl k) ?_
    refine gv (fun t k => XS.iconst X312.here hx rfl (hb hby at_398) k) ?_
    refine gv (fun t k => XS.iconst X312.here hx rfl (hb hby at_399) k) ?_
    obtain ⟨T313, h313, lc313, X313, e313, N313, Z313, K313, W313, V313, st313⟩ := own_stI X312 hx hZ e312 V312 N312 Z312 K312 g305 (Or.inr sz306) (j := (4 : Int32)) ⟨by decide, by decide⟩ (ji := 4) rfl (Nat.le_of_ble_eq_true rfl) (g := (mkF m 400 #[vi p0, vi p1, vj qf, v2, vi 4, vr b1, vr b11, vr b22, vr b277, vu, vu, vu, vu, vu, vu, vu] [(.int 2), (.int 4), (.ref b297), (.ref b297)])) rfl rfl (hb hby at_400)
    refine gv st313 ?_
    refine gv (fun t k => XS.dup X313.here hx rfl (hb hby at_401) rfl rfl k) ?_
    refine gv (fun t k => XS.iconst X313.here hx rfl (hb hby at_402) k) ?_
    refine gv (fun t k => XS.iconst X313.here hx rfl (hb hby at_403) k) ?_
    obtain ⟨T314, h314, lc314, X314, e314, N314, Z314, K314, W314, V314, st314⟩ := own_stI X313 hx hZ e313 V313 N313 Z313 K313 g305 (Or.inr sz306) (j := (5 : Int32)) ⟨by decide, by decide⟩ (ji := 5) rfl (Nat.le_of_ble_eq_true rfl) (g := (mkF m 404 #[vi p0, vi p1, vj qf, v2, vi 4, vr b1, vr b11, vr b22, vr b277, vu, vu, vu, vu, vu, vu, vu] [(.int 3), (.int 5), (.ref b297), (.ref b297)])) rfl rfl (hb hby at_404)
    refine gv st314 ?_
    refine gv (fun t k => XS.dup X314.here hx rfl (hb hby at_405) rfl rfl k) ?_
    show Go p.tables e below P T314 (mkF m 406 #[vi p0, vi p1, vj qf, v2, vi 4, vr b1, vr b11, vr b22, vr b277, vu, vu, vu, vu, vu, vu, vu] [(.ref b297), (.ref b297)])
    refine gv (fun t k => XS.bipush X314.here hx rfl (hb hby at_406) k) ?_
    refine gv (fun t k => XS.iconst X314.here hx rfl (hb hby at_408) k) ?_
    obtain ⟨T315, h315, lc315, X315, e315, N315, Z315, K315, W315, V315, st315⟩ := own_stI X314 hx hZ e314 V314 N314 Z314 K314 g305 (Or.inr sz306) (j := (6 : Int32)) ⟨by decide, by decide⟩ (ji := 6) rfl (Nat.le_of_ble_eq_true rfl) (g := (mkF m 409 #[vi p0, vi p1, vj qf, v2, vi 4, vr b1, vr b11, vr b22, vr b277, vu, vu, vu, vu, vu, vu, vu] [(.int 2), (.int 6), (.ref b297), (.ref b297)])) rfl rfl (hb hby at_409)
    refine gv st315 ?_
    refine gv (fun t k => XS.dup X315.here hx rfl (hb hby at_410) rfl rfl k) ?_
    refine gv (fun t k => XS.bipush X315.here hx rfl (hb hby at_411) k) ?_
    refine gv (fun t k => XS.iconst X315.here hx rfl (hb hby at_413) k) ?_
    obtain ⟨T316, h316, lc316, X316, e316, N316, Z316, K316, W316, V316, st316⟩ := own_stI X315 hx hZ e315 V315 N315 Z315 K315 g305 (Or.inr sz306) (j := (7 : Int32)) ⟨by decide, by decide⟩ (ji := 7) rfl (Nat.le_of_ble_eq_true rfl) (g := (mkF m 414 #[vi p0, vi p1, vj qf, v2, vi 4, vr b1, vr b11, vr b22, vr b277, vu, vu, vu, vu, vu, vu, vu] [(.int 2), (.int 7), (.ref b297), (.ref b297)])) rfl rfl (hb hby at_414)
    refine gv st316 ?_
    refine gv (fun t k => XS.dup X316.here hx rfl (hb hby at_415) rfl rfl k) ?_
    refine gv (fun t k => XS.bipush X316.here hx rfl (hb hby at_416) k) ?_
    show Go p.tables e below P T316 (mkF m 418 #[vi p0, vi p1, vj qf, v2, vi 4, vr b1, vr b11, vr b22, vr b277, vu, vu, vu, vu, vu, vu, vu] [(.int 8), (.ref b297), (.ref b297)])
    refine gv (fun t k => XS.iconst X316.here hx rfl (hb hby at_418) k) ?_
    obtain ⟨T317, h317, lc317, X317, e317, N317, Z317, K317, W317, V317, st317⟩ := own_stI X316 hx hZ e316 V316 N316 Z316 K316 g305 (Or.inr sz306) (j := (8 : Int32)) ⟨by decide, by decide⟩ (ji := 8) rfl (Nat.le_of_ble_eq_true rfl) (g := (mkF m 419 #[vi p0, vi p1, vj qf, v2, vi 4, vr b1, vr b11, vr b22, vr b277, vu, vu, vu, vu, vu, vu, vu] [(.int 3), (.int 8), (.ref b297), (.ref b297)])) rfl rfl (hb hby at_419)
    refine gv st317 ?_
    refine gv (fun t k => XS.dup X317.here hx rfl (hb hby at_420) rfl rfl k) ?_
    refine gv (fun t k => XS.bipush X317.here hx rfl (hb hby at_421) k) ?_
    refine gv (fun t k => XS.iconst X317.here hx rfl (hb hby at_423) k) ?_
    obtain ⟨T318, h318, lc318, X318, e318, N318, Z318, K318, W318, V318, st318⟩ := own_stI X317 hx hZ e317 V317 N317 Z317 K317 g305 (Or.inr sz306) (j := (9 : Int32)) ⟨by decide, by decide⟩ (ji := 9) rfl (Nat.le_of_ble_eq_true rfl) (g := (mkF m 424 #[vi p0, vi p1, vj qf, v2, vi 4, vr b1, vr b11, vr b22, vr b277, vu, vu, vu, vu, vu, vu, vu] [(.int 3), (.int 9), (.ref b297), (.ref b297)])) rfl rfl (hb hby at_424)
    refine gv st318 ?_
    refine gv (fun t k => XS.astore X318.here hx rfl (hb hby at_425) rfl rfl (l' := #[vi p0, vi p1, vj qf, v2, vi 4, vr b1, vr b11, vr b22, vr b277, vr b297, vu, vu, vu, vu, vu, vu]) rfl k) ?_
    refine gv (fun t k => XS.bipush X318.here hx rfl (hb hby at_427) k) ?_
    obtain ⟨T319, h319, k319, X319, e319, E319, A319, st319⟩ := newP X318 hx hZ (own_g hw 1 rfl) e318 (g := (mkF m 429 #[vi p0, vi p1, vj qf, v2, vi 4, vr b1, vr b11, vr b22, vr b277, vr b297, vu, vu, vu, vu, vu, vu] [(.int 10)])) rfl (hb hby at_429) rfl (by decide) (cap := 10) (by decide) (by decide) (by decide) (by decide)
    obtain ⟨b319, g319⟩ : ∃ z, z = h318.size := ⟨_, rfl⟩
    rw [← g319] at A319 st319
    refine gv st319 ?_
    have F321 := (((((((((((F299.ext E297).other W309 ne298).other W310 ne298).other W311 ne298).other W312 ne298).other W313 ne298).other W314 ne298).other W315 ne298).other W316 ne298).other W317 ne298).other W318 ne298)
    have ne320 := Nat.ne_of_lt (Nat.lt_of_lt_of_le F321.lt (Nat.le_of_eq g319.symm))
    have F323 := (((((((((((F301.ext E297).other W309 ne300).other W310 ne300).other W311 ne300).other W312 ne300).other W313 ne300).other W314 ne300).other W315 ne300).other W316 ne300).other W317 ne300).other W318 ne300)
    have ne322 := Nat.ne_of_lt (Nat.lt_of_lt_of_le F323.lt (Nat.le_of_eq g319.symm))
    have F325 := (((((((((((F303.ext E297).other W309 ne302).other W310 ne302).other W311 ne302).other W312 ne302).other W313 ne302).other W314 ne302).other W315 ne302).other W316 ne302).other W317 ne302).other W318 ne302)
    have ne324 := Nat.ne_of_lt (Nat.lt_of_lt_of_le F325.lt (Nat.le_of_eq g319.symm))
    have F327 := (((((((((((V296.ext E297).other W309 ne304).other W310 ne304).other W311 ne304).other W312 ne304).other W313 ne304).other W314 ne304).other W315 ne304).other W316 ne304).other W317 ne304).other W318 ne304)
    have ne326 := Nat.ne_of_lt (Nat.lt_of_lt_of_le F327.lt (Nat.le_of_eq g319.symm))
    have ne328 := Nat.ne_of_lt (Nat.lt_of_lt_of_le V318.lt (Nat.le_of_eq g319.symm))
    have g329 := Nat.le_trans Z318 (Nat.le_of_eq g319.symm)
    have sz330 := Nat.le_trans K318.1 (Nat.le_of_eq g319.symm)
    have Z331 := Nat.le_trans Z318 E319.1
    have K332 := K318.ext E319
    have V319 : Arv Z h319 b319 k319 .int (10 : Int32) [(.int 0), (.int 0), (.int 0), (.int 0), (.int 0), (.int 0), (.int 0), (.int 0), (.int 0), (.int 0)] (.int 0) := (Arv.new A319 (by decide)).pad (pad_rep [] (.int 0) 10)
    show Go p.tables e below P T319 (mkF m 431 #[vi p0, vi p1, vj qf, v2, vi 4, vr b1, vr b11, vr b22, vr b277, vr b297, vu, vu, vu, vu, vu, vu] [(.ref b319)])
    refine gv (fun t k => XS.dup X319.here hx rfl (hb hby at_431) rfl rfl k) ?_
    refine gv (fun t k => XS.iconst X319.here hx rfl (hb hby at_432) k) ?_
    refine gv (fun t k => XS.iconst X319.here hx rfl (hb hby at_433) k) ?_
    obtain ⟨T333, h333, lc333, X333, e333, N333, Z333, K333, W333, V333, st333⟩ := own_stI X319 hx hZ e319 V319 N318 Z331 K332 g329 (Or.inr sz330) (j := (0 : Int32)) ⟨by decide, by decide⟩ (ji := 0) rfl (Nat.le_of_ble_eq_true rfl) (g := (mkF m 434 #[vi p0, vi p1, vj qf, v2, vi 4, vr b1, vr b11, vr b22, vr b277, vr b297, vu, vu, vu, vu, vu, vu] [(.int 2), (.int 0), (.ref b319), (.ref b319)])) rfl rfl (hb hby at_434)
    refine gv st333 ?_
    refine gv (fun t k => XS.dup X333.here hx rfl (hb hby at_435) rfl rfl k) ?_
    refine gv (fun t k => XS.iconst X333.here hx rfl (hb hby at_436) k) ?_
    refine gv (fun t k => XS.iconst X333.here hx rfl (hb hby at_437) k) ?_
    obtain ⟨T334, h334, lc334, X334, e334, N334, Z334, K334, W334, V334, st334⟩ := own_stI X333 hx hZ e333 V333 N333 Z333 K333 g329 (Or.inr sz330) (j := (1 : Int32)) ⟨by decide, by decide⟩ (ji := 1) rfl (Nat.le_of_ble_eq_true rfl) (g := (mkF m 438 #[vi p0, vi p1, vj qf, v2, vi 4, vr b1, vr b11, vr b22, vr b277, vr b297, vu, vu, vu, vu, vu, vu] [(.int 3), (.int 1), (.ref b319), (.ref b319)])) rfl rfl (hb hby at_438)
    refine gv st334 ?_
    refine gv (fun t k => XS.dup X334.here hx rfl (hb hby at_439) rfl rfl k) ?_
    show Go p.tables e below P T334 (mkF m 440 #[vi p0, vi p1, vj qf, v2, vi 4, vr b1, vr b11, vr b22, vr b277, vr b297, vu, vu, vu, vu, vu, vu] [(.ref b319), (.ref b319)])
    refine gv (fun t k => XS.iconst X334.here hx rfl (hb hby at_440) k) ?_
    refine gv (fun t k => XS.iconst X334.here hx rfl (hb hby at_441) k) ?_
    obtain ⟨T335, h335, lc335, X335, e335, N335, Z335, K335, W335, V335, st335⟩ := own_stI X334 hx hZ e334 V334 N334 Z334 K334 g329 (Or.inr sz330) (j := (2 : Int32)) ⟨by decide, by decide⟩ (ji := 2) rfl (Nat.le_of_ble_eq_true rfl) (g := (mkF m 442 #[vi p0, vi p1, vj qf, v2, vi 4, vr b1, vr b11, vr b22, vr b277, vr b297, vu, vu, vu, vu, vu, vu] [(.int 4), (.int 2), (.ref b319), (.ref b319)])) rfl rfl (hb hby at_442)
    refine gv st335 ?_
    refine gv (fun t k => XS.dup X335.here hx rfl (hb hby at_443) rfl rfl k) ?_
    refine gv (fun t k => XS.iconst X335.here hx rfl (hb hby at_444) k) ?_
    refine gv (fun t k => XS.iconst X335.here hx rfl (hb hby at_445) k) ?_
    obtain ⟨T336, h336, lc336, X336, e336, N336, Z336, K336, W336, V336, st336⟩ := own_stI X335 hx hZ e335 V335 N335 Z335 K335 g329 (Or.inr sz330) (j := (3 : Int32)) ⟨by decide, by decide⟩ (ji := 3) rfl (Nat.le_of_ble_eq_true rfl) (g := (mkF m 446 #[vi p0, vi p1, vj qf, v2, vi 4, vr b1, vr b11, vr b22, vr b277, vr b297, vu, vu, vu, vu, vu, vu] [(.int 3), (.int 3), (.ref b319), (.ref b319)])) rfl rfl (hb hby at_446)
    refine gv st336 ?_
    refine gv (fun t k => XS.dup X336.here hx rfl (hb hby at_447) rfl rfl k) ?_
    refine gv (fun t k => XS.iconst X336.here hx rfl (hb hby at_448) k) ?_
    show Go p.tables e below P T336 (mkF m 449 #[vi p0, vi p1, vj qf, v2, vi 4, vr b1, vr b11, vr b22, vr b277, vr b297, vu, vu, vu, vu, vu, vu] [(.int 4), (.ref b319), (.ref b319)])
    refine gv (fun t k => XS.iconst X336.here hx rfl (hb hby at_449) k) ?_
    obtain ⟨T337, h337, lc337, X337, e337, N337, Z337, K337, W337, V337, st337⟩ := own_stI X336 hx hZ e336 V336 N336 Z336 K336 g329 (Or.inr sz330) (j := (4 : Int32)) ⟨by decide, by decide⟩ (ji := 4) rfl (Nat.le_of_ble_eq_true rfl) (g := (mkF m 450 #[vi p0, vi p1, vj qf, v2, vi 4, vr b1, vr b11, vr b22, vr b277, vr b297, vu, vu, vu, vu, vu, vu] [(.int 4), (.int 4), (.ref b319), (.ref b319)])) rfl rfl (hb hby at_450)
    refine gv st337 ?_
    refine gv (fun t k => XS.dup X337.here hx rfl (hb hby at_451) rfl rfl k) ?_
    refine gv (fun t k => XS.iconst X337.here hx rfl (hb hby at_452) k) ?_
    refine gv (fun t k => XS.iconst X337.here hx rfl (hb hby at_453) k) ?_
    obtain ⟨T338, h338, lc338, X338, e338, N338, Z338, K338, W338, V338, st338⟩ := own_stI X337 hx hZ e337 V337 N337 Z337 K337 g329 (Or.inr sz330) (j := (5 : Int32)) ⟨by decide, by decide⟩ (ji := 5) rfl (Nat.le_of_ble_eq_true rfl) (g := (mkF m 454 #[vi p0, vi p1, vj qf, v2, vi 4, vr b1, vr b11, vr b22, vr b277, vr b297, vu, vu, vu, vu, vu, vu] [(.int 4), (.int 5), (.ref b319), (.ref b319)])) rfl rfl (hb hby at_454)
    refine gv st338 ?_
    refine gv (fun t k => XS.dup X338.here hx rfl (hb hby at_455) rfl rfl k) ?_
    refine gv (fun t k => XS.bipush X338.here hx rfl (hb hby at_456) k) ?_
    refine gv (fun t k => XS.iconst X338.here hx rfl (hb hby at_458) k) ?_
    show Go p.tables e below P T338 (mkF m 459 #[vi p0, vi p1, vj qf, v2, vi 4, vr b1, vr b11, vr b22, vr b277, vr b297, vu, vu, vu, vu, vu, vu] [(.int 3), (.int 6), (.ref b319), (.ref b319)])
    obtain ⟨T339, h339, lc339, X339, e339, N339, Z339, K339, W339, V339, st339⟩ := own_stI X338 hx hZ e338 V338 N338 Z338 K338 g329 (Or.inr sz330) (j := (6 : Int32)) ⟨by decide, by decide⟩ (ji := 6) rfl (Nat.le_of_ble_eq_true rfl) (g := (mkF m 459 #[vi p0, vi p1, vj qf, v2, vi 4, vr b1, vr b11, vr b22, vr b277, vr b297, vu, vu, vu, vu, vu, vu] [(.int 3), (.int 6), (.ref b319), (.ref b319)])) rfl rfl (hb hby at_459)
    refine gv st339 ?_
    refine gv (fun t k => XS.dup X339.here hx rfl (hb hby at_460) rfl rfl k) ?_
    refine gv (fun t k => XS.bipush X339.here hx rfl (hb hby at_461) k) ?_
    refine gv (fun t k => XS.iconst X339.here hx rfl (hb hby at_463) k) ?_
    obtain ⟨T340, h340, lc340, X340, e340, N340, Z340, K340, W340, V340, st340⟩ := own_stI X339 hx hZ e339 V339 N339 Z339 K339 g329 (Or.inr sz330) (j := (7 : Int32)) ⟨by decide, by decide⟩ (ji := 7) rfl (Nat.le_of_ble_eq_true rfl) (g := (mkF m 464 #[vi p0, vi p1, vj qf, v2, vi 4, vr b1, vr b11, vr b22, vr b277, vr b297, vu, vu, vu, vu, vu, vu] [(.int 4), (.int 7), (.ref b319), (.ref b319)])) rfl rfl (hb hby at_464)
    refine gv st340 ?_
    refine gv (fun t k => XS.dup X340.here hx rfl (hb hby at_465) rfl rfl k) ?_
    refine gv (fun t k => XS.bipush X340.here hx rfl (hb hby at_466) k) ?_
    refine gv (fun t k => XS.iconst X340.here hx rfl (hb hby at_468) k) ?_
    obtain ⟨T341, h341, lc341, X341, e341, N341, Z341, K341, W341, V341, st341⟩ := own_stI X340 hx hZ e340 V340 N340 Z340 K340 g329 (Or.inr sz330) (j := (8 : Int32)) ⟨by decide, by decide⟩ (ji := 8) rfl (Nat.le_of_ble_eq_true rfl) (g := (mkF m 469 #[vi p0, vi p1, vj qf, v2, vi 4, vr b1, vr b11, vr b22, vr b277, vr b297, vu, vu, vu, vu, vu, vu] [(.int 4), (.int 8), (.ref b319), (.ref b319)])) rfl rfl (hb hby at_469)
    refine gv st341 ?_
    show Go p.tables e below P T341 (mkF m 470 #[vi p0, vi p1, vj qf, v2, vi 4, vr b1, vr b11, vr b22, vr b277, vr b297, vu, vu, vu, vu, vu, vu] [(.ref b319)])
    refine gv (fun t k => XS.dup X341.here hx rfl (hb hby at_470) rfl rfl k) ?_
    refine gv (fun t k => XS.bipush X341.here hx rfl (hb hby at_471) k) ?_
    refine gv (fun t k => XS.iconst X341.here hx rfl (hb hby at_473) k) ?_
    obtain ⟨T342, h342, lc342, X342, e342, N342, Z342, K342, W342, V342, st342⟩ := own_stI X341 hx hZ e341 V341 N341 Z341 K341 g329 (Or.inr sz330) (j := (9 : Int32)) ⟨by decide, by decide⟩ (ji := 9) rfl (Nat.le_of_ble_eq_true rfl) (g := (mkF m 474 #[vi p0, vi p1, vj qf, v2, vi 4, vr b1, vr b11, vr b22, vr b277, vr b297, vu, vu, vu, vu, vu, vu] [(.int 4), (.int 9), (.ref b319), (.ref b319)])) rfl rfl (hb hby at_474)
    refine gv st342 ?_
    refine gv (fun t k => XS.astore X342.here hx rfl (hb hby at_475) rfl rfl (l' := #[vi p0, vi p1, vj qf, v2, vi 4, vr b1, vr b11, vr b22, vr b277, vr b297, vr b319, vu, vu, vu, vu, vu]) rfl k) ?_
    have F343 := (((((((((((F327.ext E319).other W333 ne326).other W334 ne326).other W335 ne326).other W336 ne326).other W337 ne326).other W338 ne326).other W339 ne326).other W340 ne326).other W341 ne326).other W342 ne326)
    have F344 := (((((((((((V318.ext E319).other W333 ne328).other W334 ne328).other W335 ne328).other W336 ne328).other W337 ne328).other W338 ne328).other W339 ne328).other W340 ne328).other W341 ne328).other W342 ne328)
    have F345 := (((((((((((F321.ext E319).other W333 ne320).other W334 ne320).other W335 ne320).other W336 ne320).other W337 ne320).other W338 ne320).other W339 ne320).other W340 ne320).other W341 ne320).other W342 ne320)
    have F346 := (((((((((((F323.ext E319).other W333 ne322).other W334 ne322).other W335 ne322).other W336 ne322).other W337 ne322).other W338 ne322).other W339 ne322).other W340 ne322).other W341 ne322).other W342 ne322)
    have F347 := (((((((((((F325.ext E319).other W333 ne324).other W334 ne324).other W335 ne324).other W336 ne324).other W337 ne324).other W338 ne324).other W339 ne324).other W340 ne324).other W341 ne324).other W342 ne324)
    exact LP35 T342 _ h342 4 (4 : Int32) 5 2 10 3 b277 b297 b319 k277 k297 k319 own_A4 own_B4 own_C4 X342 e342 N342 Z342 K342 F345 F346 F347 F343 F344 V342 (by decide) (by decide) (by decide) (by decide) (by decide) (by decide) (by decide) (by decide) (by decide) (by decide) (by decide) (Or.inl ⟨by decide, by decide, by decide +kernel, own_good4⟩) (fun z fp hz => own_law4 z fp hz)
set_option maxRecDepth 65536 in
set_option maxHeartbeats 40000000 in
theorem comes_1 {Post : Tables → Env → Array Value → State → Outcome → State → Prop} (hpost : ∀ tb e args s v u, (limb_1_1.after args s (.returned v) u = true ∧ limb_1_2.after args s (.returned v) u = true ∧ True) → FrameEnd s (.returned v) u (Jvm.fieldLocs frame_1_writes args s ++ Jvm.arrayLocs frame_1_arrays args s ++ Jvm.staticLocs frame_1_statics s) 216 1472 → Post tb e args s (.returned v) u) :
    ArmFor flags0 classFile x code maxLocals ret World_1 tables_1 room_1 Calls_1 rest_1 Pre_1 Post := by
  intro l hfl _ _ p e ha hc hk s m args below hf hA hF happ hP
  obtain ⟨hcalls, hrest, hpre⟩ := hP
  obtain ⟨-, -, -, hnamed, -, -, -, hat⟩ := (Spec.applies_iff hf).mp happ
  obtain ⟨hg, hn⟩ := and_e (Cond.before_iff.mp (show (Jvm.Cond.and given_1 narrow_1).before args s = true from hpre))
  obtain ⟨hv0, hr0⟩ := and_e hg
  obtain ⟨hv1, hr1⟩ := and_e hr0
  obtain ⟨hv2, hr2⟩ := and_e hr1
  obtain ⟨w0, w1, w2, rfl⟩ : ∃ w0 w1 w2 : Value, args = #[w0, w1, w2] := by
    have hs : args.size = 3 := by simpa [Cond.value, given_1] using hv0
    obtain ⟨L⟩ := args
    match L, hs with
    | [w0, w1, w2], _ => exact ⟨w0, w1, w2, rfl⟩
  have hw := fun d (hd : d ∈ tables_1) => atoms_spec (ws := Jvm.Cond.code x code maxLocals ret :: tables_1) hat d (List.mem_cons_of_mem _ hd)
  have hfit : Fit s := fun {y c} hc i hi => by
    obtain ⟨ha, rfl⟩ := Array.getElem?_eq_some_iff.mp hc
    have q := List.all_eq_true.mp ((Array.all_eq_true_iff_forall_mem.mp hF) _ (Array.getElem_mem ha)) i (List.mem_range.mpr hi)
    simpa [Array.getElem?_eq_getElem hi] using q
  obtain ⟨i0, ei0⟩ := is_v hv1
  obtain rfl : w0 = (.int i0) := Option.some.inj ei0
  obtain ⟨i1, ei1⟩ := is_v hv2
  obtain rfl : w1 = (.int i1) := Option.some.inj ei1
  obtain ⟨i2, ei2⟩ := isL_v hr2
  obtain rfl : w2 = (.long i2) := Option.some.inj ei2
  obtain ⟨n, o, h1, h2, h3, _, L, rfl, ⟨rfl, N⟩, hq⟩ := rm0 l s _ hw tables_1 i0 i1 i2 s.heap s.heap.size (Nat.le_refl _)  p e ha hc hk s m _ below hf ((Spec.applies_iff_loose hf).mp happ).1 ⟨rfl, State.Warmed39.refl s, rfl⟩ trivial
  refine ⟨n, _, h1, h2, h3, hpost _ _ _ _ _ _ ⟨Cond.after_iff.mpr rfl, Cond.after_iff.mpr (eq_i res_at (Term.int_eval (1)) rfl), trivial⟩ ⟨hq.1, hq.2.1, (hq.2.2.sift fun y hy => Or.inr (N y hy)).mono (by decide) (by decide)⟩⟩
theorem main_1_1 : Claimed_1_1 := comes_1 fun _ _ _ _ _ _ h hF => ⟨h.1, hF⟩
theorem main_1_2 : Claimed_1_2 := comes_1 fun _ _ _ _ _ _ h hF => ⟨h.2.1, hF⟩
end Jvm.Pilot.@@N@@
namespace Jvm.Pilot.@@N@@
open Jvm Jvm.ClassFile Sem Op Lib Jvm.Free Jvm.Stand Jvm.Pilot.@@N@@.Jvm.D
/-! MADE BY PROGRAM (witnessworld.py) out of the Statement's table words and the real class files: 22 classes; the members and pool entries that the words name. The judged class is class 1, her method 1. -/
namespace start1
open Jvm.ClassFile
def u (s : String) : CpInfo := .utf8 (stringToUtf16 s)
/-- a pool by its gaps: so many unusable entries, then the entry; so many at the end -/
def gap : Nat → List CpInfo → List CpInfo
  | 0, r => r
  | n + 1, r => .unusable :: gap n r
def poolList (es : List (Nat × CpInfo)) (last : Nat) : List CpInfo := es.foldr (fun e r => gap e.1 (e.2 :: r)) (gap last [])
def pool (es : List (Nat × CpInfo)) (last : Nat) : Array CpInfo := ⟨poolList es last⟩
def fileOf (pool : Array CpInfo) (this : Nat) (attrs : Array Attribute := #[]) (ms : Array MethodInfo := #[]) (fl : Nat := 33) (sup : Nat := 0) (ifs : Array Nat := #[]) (fds : Array FieldInfo := #[]) : ClassFile where
  minorVersion := 0
  majorVersion := 65
  constantPool := pool
  accessFlags := fl
  thisClass := this
  superClass := sup
  interfaces := ifs
  fields := fds
  methods := ms
  attributes := attrs
def plain (name : String) (sup : Option ClassId) : Class where
  name := name
  kind := .ordinary
  loader := none
  accessFlags := 33
  super := sup
  interfaces := #[]
  cf := none
  fields := #[]
  methods := #[]
  instanceTypes := #[]
  staticTypes := #[]
  resolved := #[]
  callSites := []
  init := .initialized
  statics := none
  mirror := none

def pool0 : Array CpInfo := pool [(5, u "<init>"), (0, u "()V"), (1, .class_ 10), (1, u "java/lang/Object"), (85, u "clone"), (0, u "()Ljava/lang/Object;")] 26

def k0c0 : Code := { maxStack := 0, maxLocals := 1, code := object_method_1_code, exceptionTable := #[], attributes := #[] }
def k0m0 : Method := { name := "<init>", desc := "()V", sig := { parameters := [], returnType := none }, accessFlags := 1, code := some k0c0 }
def k0m1 : Method := { name := "clone", desc := "()Ljava/lang/Object;", sig := { parameters := [], returnType := some (.object "java/lang/Object") }, accessFlags := 260, code := none }
/-- java/lang/Object -/
def k0 : Class := { plain "java/lang/Object" none with
  accessFlags := 33
  interfaces := #[]
  cf := some (fileOf pool0 8 #[] #[{ accessFlags := 1, nameIndex := 5, descriptorIndex := 6, attributes := #[] }, { accessFlags := 260, nameIndex := 96, descriptorIndex := 97, attributes := #[] }] 33 0 #[] #[])
  fields := #[]
  methods := #[k0m0, k0m1]
  instanceTypes := #[]
  staticTypes := #[]
  resolved := Array.replicate 124 none
  statics := none }

def pool1 : Array CpInfo := pool [(2, .class_ 4), (1, u "java/lang/Object"), (0, u "<init>"), (0, u "()V"), (0, .integer 2147483647), (0, .methodref 9 10), (0, .class_ 11), (0, .nameAndType 12 13), (0, u "com/example/criba/criba/index/BlockLayoutKeyPinLaw"), (0, u "block"), (0, u "(JII)J"), (0, .methodref 9 15), (0, .nameAndType 16 17), (0, u "width"), (0, u "(II)I"), (0, .class_ 19), (0, u "com/example/criba/criba/index/BlockLayout"), (0, .methodref 18 21), (0, .nameAndType 5 22), (0, u "(II)V"), (0, .methodref 18 24), (0, .nameAndType 25 26), (0, u "key"), (0, u "(IJ)J"), (0, .methodref 28 29), (0, .class_ 30), (0, .nameAndType 31 17), (0, u "java/lang/Math"), (0, u "min"), (0, .methodref 9 33), (0, .nameAndType 34 17), (0, u "shift"), (2, u "law"), (0, u "(IIJ)Z")] 5

def k1m0 : Method := { name := "<init>", desc := "()V", sig := { parameters := [], returnType := none }, accessFlags := 1, code := none }
def k1c1 : Code := { maxStack := 7, maxLocals := 16, code := code, exceptionTable := #[], attributes := #[] }
def k1m1 : Method := { name := "law", desc := "(IIJ)Z", sig := { parameters := [.int, .int, .long], returnType := some .boolean }, accessFlags := 9, code := some k1c1 }
def k1c2 : Code := { maxStack := 4, maxLocals := 2, code := method_3_code, exceptionTable := #[], attributes := #[] }
def k1m2 : Method := { name := "width", desc := "(II)I", sig := { parameters := [.int, .int], returnType := some .int }, accessFlags := 10, code := some k1c2 }
def k1c3 : Code := { maxStack := 4, maxLocals := 2, code := method_4_code, exceptionTable := #[], attributes := #[] }
def k1m3 : Method := { name := "shift", desc := "(II)I", sig := { parameters := [.int, .int], returnType := some .int }, accessFlags := 10, code := some k1c3 }
def k1c4 : Code := { maxStack := 6, maxLocals := 5, code := method_5_code, exceptionTable := #[], attributes := #[] }
def k1m4 : Method := { name := "block", desc := "(JII)J", sig := { parameters := [.long, .int, .int], returnType := some .long }, accessFlags := 10, code := some k1c4 }
/-- com/example/criba/criba/index/BlockLayoutKeyPinLaw -/
def k1 : Class := { plain "com/example/criba/criba/index/BlockLayoutKeyPinLaw" (some 0) with
  accessFlags := 49
  interfaces := #[]
  cf := some (fileOf pool1 9 #[] #[{ accessFlags := 1, nameIndex := 5, descriptorIndex := 6, attributes := #[] }, { accessFlags := 9, nameIndex := 37, descriptorIndex := 38, attributes := #[] }, { accessFlags := 10, nameIndex := 16, descriptorIndex := 17, attributes := #[] }, { accessFlags := 10, nameIndex := 34, descriptorIndex := 17, attributes := #[] }, { accessFlags := 10, nameIndex := 12, descriptorIndex := 13, attributes := #[] }] 49 2 #[] #[])
  fields := #[]
  methods := #[k1m0, k1m1, k1m2, k1m3, k1m4]
  instanceTypes := #[]
  staticTypes := #[]
  resolved := Array.replicate 44 none
  statics := none }

def pool2 : Array CpInfo := pool [(1, .class_ 2), (0, u "java/lang/Long"), (0, .class_ 4), (0, u "com/example/criba/criba/index/BlockLayout"), (8, u "<init>"), (0, u "(II)V"), (0, .methodref 16 17), (0, .class_ 18), (0, .nameAndType 13 19), (0, u "java/lang/Object"), (0, u "()V"), (9, .methodref 3 30), (0, .nameAndType 31 32), (0, u "binomial"), (0, u "(II)J"), (0, .long 1024), (5, .fieldref 3 40), (0, .nameAndType 41 42), (0, u "distance"), (0, u "I"), (0, .fieldref 3 44), (0, .nameAndType 45 46), (0, u "widths"), (0, u "[I"), (0, .methodref 3 48), (0, .nameAndType 49 50), (0, u "lowBits"), (0, u "(I)J"), (0, .methodref 3 52), (0, .nameAndType 53 32), (0, u "keysWithin"), (0, .long 65536), (1, .methodref 1 57), (0, .nameAndType 58 59), (0, u "compareUnsigned"), (0, u "(JJ)I"), (7, .fieldref 3 68), (0, .nameAndType 69 46), (0, u "radii"), (0, .fieldref 3 71), (0, .nameAndType 72 73), (0, u "keyMasks"), (0, u "[J"), (0, .class_ 46), (0, .fieldref 3 76), (0, .nameAndType 77 78), (0, u "runShifts"), (0, u "[[I"), (0, .fieldref 3 80), (0, .nameAndType 81 78), (0, u "runWidths"), (0, .class_ 73), (0, .fieldref 3 84), (0, .nameAndType 85 86), (0, u "keyDifferences"), (0, u "[[J"), (0, .fieldref 3 88), (0, .nameAndType 89 73), (0, u "skippedTops"), (0, .fieldref 3 91), (0, .nameAndType 92 73), (0, u "skippedLows"), (0, .fieldref 3 94), (0, .nameAndType 95 78), (0, u "earlierWithRadius"), (0, .methodref 3 97), (0, .nameAndType 98 99), (0, u "describe"), (0, u "(I[I[J[I[I)V"), (0, .methodref 3 101), (0, .nameAndType 102 103), (0, u "nextChoice"), (0, u "([II)V"), (7, .methodref 1 112), (0, .nameAndType 113 114), (0, u "bitCount"), (0, u "(J)I"), (0, .methodref 1 116), (0, .nameAndType 117 118), (0, u "highestOneBit"), (0, u "(J)J"), (0, .long 18446744073709551615), (1, .methodref 122 123), (0, .class_ 124), (0, .nameAndType 125 126), (0, u "java/util/Arrays"), (0, u "copyOf"), (0, u "([II)[I"), (0, .methodref 3 128), (0, .nameAndType 129 130), (0, u "differencesWithin"), (0, u "(JI)[J"), (0, .methodref 1 132), (0, .nameAndType 133 114), (0, u "numberOfTrailingZeros"), (0, u "DEFAULT_DISTANCE"), (2, u "DEFAULT_BLOCKS"), (1, u "MAX_TABLES"), (1, u "MAX_ASKED_KEYS"), (1, u "MAX_DISTANCE"), (15, u "key"), (0, u "(IJ)J")] 25

def k2c0 : Code := { maxStack := 6, maxLocals := 14, code := prog_1_method_2_code, exceptionTable := #[], attributes := #[] }
def k2m0 : Method := { name := "<init>", desc := "(II)V", sig := { parameters := [.int, .int], returnType := none }, accessFlags := 1, code := some k2c0 }
def k2c1 : Code := { maxStack := 6, maxLocals := 8, code := prog_1_method_10_code, exceptionTable := #[], attributes := #[] }
def k2m1 : Method := { name := "key", desc := "(IJ)J", sig := { parameters := [.int, .long], returnType := some .long }, accessFlags := 0, code := some k2c1 }
def k2c2 : Code := { maxStack := 8, maxLocals := 22, code := prog_1_method_14_code, exceptionTable := #[], attributes := #[] }
def k2m2 : Method := { name := "describe", desc := "(I[I[J[I[I)V", sig := { parameters := [.int, (.array .int), (.array .long), (.array .int), (.array .int)], returnType := none }, accessFlags := 2, code := some k2c2 }
def k2c3 : Code := { maxStack := 6, maxLocals := 17, code := prog_1_method_15_code, exceptionTable := #[], attributes := #[] }
def k2m3 : Method := { name := "differencesWithin", desc := "(JI)[J", sig := { parameters := [.long, .int], returnType := some (.array .long) }, accessFlags := 10, code := some k2c3 }
def k2c4 : Code := { maxStack := 4, maxLocals := 5, code := prog_1_method_16_code, exceptionTable := #[], attributes := #[] }
def k2m4 : Method := { name := "keysWithin", desc := "(II)J", sig := { parameters := [.int, .int], returnType := some .long }, accessFlags := 10, code := some k2c4 }
def k2c5 : Code := { maxStack := 5, maxLocals := 4, code := prog_1_method_17_code, exceptionTable := #[], attributes := #[] }
def k2m5 : Method := { name := "nextChoice", desc := "([II)V", sig := { parameters := [(.array .int), .int], returnType := none }, accessFlags := 10, code := some k2c5 }
def k2c6 : Code := { maxStack := 4, maxLocals := 1, code := prog_1_method_18_code, exceptionTable := #[], attributes := #[] }
def k2m6 : Method := { name := "lowBits", desc := "(I)J", sig := { parameters := [.int], returnType := some .long }, accessFlags := 10, code := some k2c6 }
def k2c7 : Code := { maxStack := 7, maxLocals := 5, code := prog_1_method_19_code, exceptionTable := #[], attributes := #[] }
def k2m7 : Method := { name := "binomial", desc := "(II)J", sig := { parameters := [.int, .int], returnType := some .long }, accessFlags := 10, code := some k2c7 }
/-- com/example/criba/criba/index/BlockLayout -/
def k2 : Class := { plain "com/example/criba/criba/index/BlockLayout" (some 0) with
  accessFlags := 33
  interfaces := #[]
  cf := some (fileOf pool2 3 #[] #[{ accessFlags := 1, nameIndex := 13, descriptorIndex := 14, attributes := #[] }, { accessFlags := 0, nameIndex := 159, descriptorIndex := 160, attributes := #[] }, { accessFlags := 2, nameIndex := 98, descriptorIndex := 99, attributes := #[] }, { accessFlags := 10, nameIndex := 129, descriptorIndex := 130, attributes := #[] }, { accessFlags := 10, nameIndex := 53, descriptorIndex := 32, attributes := #[] }, { accessFlags := 10, nameIndex := 102, descriptorIndex := 103, attributes := #[] }, { accessFlags := 10, nameIndex := 49, descriptorIndex := 50, attributes := #[] }, { accessFlags := 10, nameIndex := 31, descriptorIndex := 32, attributes := #[] }] 33 16 #[] #[{ accessFlags := 25, nameIndex := 134, descriptorIndex := 42, attributes := #[] }, { accessFlags := 25, nameIndex := 137, descriptorIndex := 42, attributes := #[] }, { accessFlags := 25, nameIndex := 139, descriptorIndex := 42, attributes := #[] }, { accessFlags := 25, nameIndex := 141, descriptorIndex := 42, attributes := #[] }, { accessFlags := 26, nameIndex := 143, descriptorIndex := 42, attributes := #[] }, { accessFlags := 18, nameIndex := 41, descriptorIndex := 42, attributes := #[] }, { accessFlags := 18, nameIndex := 45, descriptorIndex := 46, attributes := #[] }, { accessFlags := 18, nameIndex := 72, descriptorIndex := 73, attributes := #[] }, { accessFlags := 18, nameIndex := 77, descriptorIndex := 78, attributes := #[] }, { accessFlags := 18, nameIndex := 81, descriptorIndex := 78, attributes := #[] }, { accessFlags := 18, nameIndex := 69, descriptorIndex := 46, attributes := #[] }, { accessFlags := 18, nameIndex := 85, descriptorIndex := 86, attributes := #[] }, { accessFlags := 18, nameIndex := 89, descriptorIndex := 73, attributes := #[] }, { accessFlags := 18, nameIndex := 92, descriptorIndex := 73, attributes := #[] }, { accessFlags := 18, nameIndex := 95, descriptorIndex := 78, attributes := #[] }])
  fields := #[{ name := "DEFAULT_DISTANCE", type := .int, accessFlags := 25, slot := 0, constantValue := 0 }, { name := "DEFAULT_BLOCKS", type := .int, accessFlags := 25, slot := 1, constantValue := 0 }, { name := "MAX_TABLES", type := .int, accessFlags := 25, slot := 2, constantValue := 0 }, { name := "MAX_ASKED_KEYS", type := .int, accessFlags := 25, slot := 3, constantValue := 0 }, { name := "MAX_DISTANCE", type := .int, accessFlags := 26, slot := 4, constantValue := 0 }, { name := "distance", type := .int, accessFlags := 18, slot := 0, constantValue := 0 }, { name := "widths", type := (.array .int), accessFlags := 18, slot := 1, constantValue := 0 }, { name := "keyMasks", type := (.array .long), accessFlags := 18, slot := 2, constantValue := 0 }, { name := "runShifts", type := (.array (.array .int)), accessFlags := 18, slot := 3, constantValue := 0 }, { name := "runWidths", type := (.array (.array .int)), accessFlags := 18, slot := 4, constantValue := 0 }, { name := "radii", type := (.array .int), accessFlags := 18, slot := 5, constantValue := 0 }, { name := "keyDifferences", type := (.array (.array .long)), accessFlags := 18, slot := 6, constantValue := 0 }, { name := "skippedTops", type := (.array .long), accessFlags := 18, slot := 7, constantValue := 0 }, { name := "skippedLows", type := (.array .long), accessFlags := 18, slot := 8, constantValue := 0 }, { name := "earlierWithRadius", type := (.array (.array .int)), accessFlags := 18, slot := 9, constantValue := 0 }]
  methods := #[k2m0, k2m1, k2m2, k2m3, k2m4, k2m5, k2m6, k2m7]
  instanceTypes := #[.int, (.array .int), (.array .long), (.array (.array .int)), (.array (.array .int)), (.array .int), (.array (.array .long)), (.array .long), (.array .long), (.array (.array .int))]
  staticTypes := #[.int, .int, .int, .int, .int]
  resolved := Array.replicate 186 none
  statics := none }

def pool3 : Array CpInfo := pool [(2, .class_ 4), (1, u "java/lang/Object"), (0, u "<init>"), (0, u "()V"), (7, .class_ 16), (1, u "java/util/Arrays"), (57, .class_ 76), (1, u "java/util/Arrays$NaturalOrder"), (32, u "()Ljava/lang/Object;"), (3, .class_ 115), (1, u "java/util/Arrays$LegacyMergeSort"), (1, u "Z"), (10, .nameAndType 129 109), (0, u "clone"), (20, .methodref 151 152), (0, .class_ 153), (0, .nameAndType 154 155), (0, u "java/lang/System"), (0, u "arraycopy"), (0, u "(Ljava/lang/Object;ILjava/lang/Object;II)V"), (146, u "copyOf"), (1, .methodref 305 306), (0, .class_ 307), (0, .nameAndType 308 309), (0, u "java/lang/Math"), (0, u "min"), (0, u "(II)I"), (6, .methodref 317 128), (0, .class_ 318), (0, u "[I"), (56, .class_ 376), (0, u "java/util/Arrays$ArrayList"), (68, u "$assertionsDisabled"), (269, u "MIN_ARRAY_SORT_GRAN"), (0, u "I"), (2, u "INSERTIONSORT_THRESHOLD"), (151, u "([II)[I"), (103, .class_ 976), (0, u "java/util/Arrays$ArrayItr")] 52

def k3m0 : Method := { name := "<init>", desc := "()V", sig := { parameters := [], returnType := none }, accessFlags := 2, code := none }
def k3c1 : Code := { maxStack := 6, maxLocals := 3, code := jdk_65_method_123_code, exceptionTable := #[], attributes := #[] }
def k3m1 : Method := { name := "copyOf", desc := "([II)[I", sig := { parameters := [(.array .int), .int], returnType := some (.array .int) }, accessFlags := 9, code := some k3c1 }
/-- java/util/Arrays -/
def k3 : Class := { plain "java/util/Arrays" (some 0) with
  accessFlags := 49
  interfaces := #[]
  cf := some (fileOf pool3 14 #[.nestMembers #[975, 375, 113, 74]] #[{ accessFlags := 2, nameIndex := 5, descriptorIndex := 6, attributes := #[] }, { accessFlags := 9, nameIndex := 302, descriptorIndex := 871, attributes := #[] }] 49 2 #[] #[{ accessFlags := 26, nameIndex := 715, descriptorIndex := 716, attributes := #[] }, { accessFlags := 26, nameIndex := 719, descriptorIndex := 716, attributes := #[] }, { accessFlags := 4120, nameIndex := 445, descriptorIndex := 117, attributes := #[] }])
  fields := #[{ name := "MIN_ARRAY_SORT_GRAN", type := .int, accessFlags := 26, slot := 0, constantValue := 0 }, { name := "INSERTIONSORT_THRESHOLD", type := .int, accessFlags := 26, slot := 1, constantValue := 0 }, { name := "$assertionsDisabled", type := .boolean, accessFlags := 4120, slot := 2, constantValue := 0 }]
  methods := #[k3m0, k3m1]
  instanceTypes := #[]
  staticTypes := #[.int, .int, .boolean]
  resolved := Array.replicate 1029 none
  statics := none }

def pool4 : Array CpInfo := pool [(1, .class_ 2), (0, u "java/lang/Cloneable"), (0, .class_ 4), (0, u "java/lang/Object")] 2

/-- java/lang/Cloneable -/
def k4 : Class := { plain "java/lang/Cloneable" (some 0) with
  accessFlags := 1537
  interfaces := #[]
  cf := some (fileOf pool4 1 #[] #[] 1537 3 #[] #[])
  fields := #[]
  methods := #[]
  instanceTypes := #[]
  staticTypes := #[]
  resolved := Array.replicate 7 none
  statics := none }

def pool5 : Array CpInfo := pool [(1, .class_ 2), (0, u "java/io/Serializable"), (0, .class_ 4), (0, u "java/lang/Object")] 2

/-- java/io/Serializable -/
def k5 : Class := { plain "java/io/Serializable" (some 0) with
  accessFlags := 1537
  interfaces := #[]
  cf := some (fileOf pool5 1 #[] #[] 1537 3 #[] #[])
  fields := #[]
  methods := #[]
  instanceTypes := #[]
  staticTypes := #[]
  resolved := Array.replicate 7 none
  statics := none }

def pool6 : Array CpInfo := pool [(2, .class_ 4), (1, u "java/lang/Object"), (0, u "<init>"), (0, u "()V"), (1, .class_ 10), (1, u "java/lang/Number"), (2, .class_ 14), (0, u "java/io/Serializable"), (0, u "serialVersionUID"), (0, u "J")] 20

def k6m0 : Method := { name := "<init>", desc := "()V", sig := { parameters := [], returnType := none }, accessFlags := 1, code := none }
/-- java/lang/Number -/
def k6 : Class := { plain "java/lang/Number" (some 0) with
  accessFlags := 1057
  interfaces := #[5]
  cf := some (fileOf pool6 8 #[] #[{ accessFlags := 1, nameIndex := 5, descriptorIndex := 6, attributes := #[] }] 1057 2 #[13] #[{ accessFlags := 26, nameIndex := 15, descriptorIndex := 16, attributes := #[] }])
  fields := #[{ name := "serialVersionUID", type := .long, accessFlags := 26, slot := 0, constantValue := 0 }]
  methods := #[k6m0]
  instanceTypes := #[]
  staticTypes := #[.long]
  resolved := Array.replicate 37 none
  statics := none }

def pool7 : Array CpInfo := pool [(1, .class_ 2), (0, u "java/lang/Comparable"), (0, .class_ 4), (0, u "java/lang/Object")] 7

/-- java/lang/Comparable -/
def k7 : Class := { plain "java/lang/Comparable" (some 0) with
  accessFlags := 1537
  interfaces := #[]
  cf := some (fileOf pool7 1 #[] #[] 1537 3 #[] #[])
  fields := #[]
  methods := #[]
  instanceTypes := #[]
  staticTypes := #[]
  resolved := Array.replicate 12 none
  statics := none }

def pool8 : Array CpInfo := pool [(1, .class_ 2), (0, u "java/lang/constant/Constable"), (0, .class_ 4), (0, u "java/lang/Object")] 6

/-- java/lang/constant/Constable -/
def k8 : Class := { plain "java/lang/constant/Constable" (some 0) with
  accessFlags := 1537
  interfaces := #[]
  cf := some (fileOf pool8 1 #[] #[] 1537 3 #[] #[])
  fields := #[]
  methods := #[]
  instanceTypes := #[]
  staticTypes := #[]
  resolved := Array.replicate 11 none
  statics := none }

def pool9 : Array CpInfo := pool [(1, .class_ 2), (0, u "java/lang/constant/ConstantDesc"), (0, .class_ 4), (0, u "java/lang/Object")] 32

/-- java/lang/constant/ConstantDesc -/
def k9 : Class := { plain "java/lang/constant/ConstantDesc" (some 0) with
  accessFlags := 1537
  interfaces := #[]
  cf := some (fileOf pool9 1 #[] #[] 1537 3 #[] #[])
  fields := #[]
  methods := #[]
  instanceTypes := #[]
  staticTypes := #[]
  resolved := Array.replicate 37 none
  statics := none }

def pool10 : Array CpInfo := pool [(1, .class_ 2), (0, u "java/lang/Long"), (15, .class_ 20), (1, u "java/lang/Integer"), (77, .methodref 1 99), (0, .nameAndType 100 101), (0, u "numberOfLeadingZeros"), (0, u "(J)I"), (66, .long 9223372036854775808), (66, .class_ 237), (1, u "java/lang/Long$LongCache"), (33, .class_ 272), (0, u "java/lang/Number"), (2, u "value"), (0, u "J"), (25, .methodref 1 303), (0, .nameAndType 304 305), (0, u "compare"), (0, u "(JJ)I"), (2, .methodref 18 309), (0, .nameAndType 100 310), (0, u "(I)I"), (0, .methodref 18 312), (0, .nameAndType 313 310), (0, u "numberOfTrailingZeros"), (0, .long 6148914691236517205), (1, .long 3689348814741910323), (1, .long 1085102592571150095), (4, u "(J)J"), (37, u "TYPE"), (0, u "Ljava/lang/Class;"), (0, .class_ 364), (0, u "java/lang/Comparable"), (0, .class_ 366), (0, u "java/lang/constant/Constable"), (0, .class_ 368), (0, u "java/lang/constant/ConstantDesc"), (0, u "MIN_VALUE"), (1, u "MAX_VALUE"), (4, u "SIZE"), (0, u "I"), (1, u "BYTES"), (1, u "serialVersionUID"), (87, u "compareUnsigned"), (4, u "highestOneBit"), (1, u "bitCount")] 47

def k10c0 : Code := { maxStack := 4, maxLocals := 4, code := jdk_35_method_42_code, exceptionTable := #[], attributes := #[] }
def k10m0 : Method := { name := "compare", desc := "(JJ)I", sig := { parameters := [.long, .long], returnType := some .int }, accessFlags := 9, code := some k10c0 }
def k10c1 : Code := { maxStack := 6, maxLocals := 4, code := jdk_35_method_43_code, exceptionTable := #[], attributes := #[] }
def k10m1 : Method := { name := "compareUnsigned", desc := "(JJ)I", sig := { parameters := [.long, .long], returnType := some .int }, accessFlags := 9, code := some k10c1 }
def k10c2 : Code := { maxStack := 6, maxLocals := 2, code := jdk_35_method_46_code, exceptionTable := #[], attributes := #[] }
def k10m2 : Method := { name := "highestOneBit", desc := "(J)J", sig := { parameters := [.long], returnType := some .long }, accessFlags := 9, code := some k10c2 }
def k10c3 : Code := { maxStack := 3, maxLocals := 3, code := jdk_35_method_48_code, exceptionTable := #[], attributes := #[] }
def k10m3 : Method := { name := "numberOfLeadingZeros", desc := "(J)I", sig := { parameters := [.long], returnType := some .int }, accessFlags := 9, code := some k10c3 }
def k10c4 : Code := { maxStack := 4, maxLocals := 3, code := jdk_35_method_49_code, exceptionTable := #[], attributes := #[] }
def k10m4 : Method := { name := "numberOfTrailingZeros", desc := "(J)I", sig := { parameters := [.long], returnType := some .int }, accessFlags := 9, code := some k10c4 }
def k10c5 : Code := { maxStack := 6, maxLocals := 2, code := jdk_35_method_50_code, exceptionTable := #[], attributes := #[] }
def k10m5 : Method := { name := "bitCount", desc := "(J)I", sig := { parameters := [.long], returnType := some .int }, accessFlags := 9, code := some k10c5 }
/-- java/lang/Long -/
def k10 : Class := { plain "java/lang/Long" (some 6) with
  accessFlags := 49
  interfaces := #[7, 8, 9]
  cf := some (fileOf pool10 1 #[.nestMembers #[235]] #[{ accessFlags := 9, nameIndex := 304, descriptorIndex := 305, attributes := #[] }, { accessFlags := 9, nameIndex := 469, descriptorIndex := 305, attributes := #[] }, { accessFlags := 9, nameIndex := 474, descriptorIndex := 323, attributes := #[] }, { accessFlags := 9, nameIndex := 100, descriptorIndex := 101, attributes := #[] }, { accessFlags := 9, nameIndex := 313, descriptorIndex := 101, attributes := #[] }, { accessFlags := 9, nameIndex := 476, descriptorIndex := 101, attributes := #[] }] 49 271 #[363, 365, 367] #[{ accessFlags := 25, nameIndex := 369, descriptorIndex := 276, attributes := #[] }, { accessFlags := 25, nameIndex := 371, descriptorIndex := 276, attributes := #[] }, { accessFlags := 25, nameIndex := 361, descriptorIndex := 362, attributes := #[] }, { accessFlags := 18, nameIndex := 275, descriptorIndex := 276, attributes := #[] }, { accessFlags := 25, nameIndex := 376, descriptorIndex := 377, attributes := #[] }, { accessFlags := 25, nameIndex := 379, descriptorIndex := 377, attributes := #[] }, { accessFlags := 26, nameIndex := 381, descriptorIndex := 276, attributes := #[] }])
  fields := #[{ name := "MIN_VALUE", type := .long, accessFlags := 25, slot := 0, constantValue := 0 }, { name := "MAX_VALUE", type := .long, accessFlags := 25, slot := 1, constantValue := 0 }, { name := "TYPE", type := (.object "java/lang/Class"), accessFlags := 25, slot := 2, constantValue := 0 }, { name := "value", type := .long, accessFlags := 18, slot := 0, constantValue := 0 }, { name := "SIZE", type := .int, accessFlags := 25, slot := 3, constantValue := 0 }, { name := "BYTES", type := .int, accessFlags := 25, slot := 4, constantValue := 0 }, { name := "serialVersionUID", type := .long, accessFlags := 26, slot := 5, constantValue := 0 }]
  methods := #[k10m0, k10m1, k10m2, k10m3, k10m4, k10m5]
  instanceTypes := #[.long]
  staticTypes := #[.long, .long, (.object "java/lang/Class"), .int, .int, .long]
  resolved := Array.replicate 524 none
  statics := none }

def pool11 : Array CpInfo := pool [(1, .class_ 2), (0, u "java/lang/Integer"), (16, u "digits"), (0, u "[C"), (32, u "numberOfLeadingZeros"), (0, u "(I)I"), (30, u "DigitOnes"), (0, u "[B"), (2, u "DigitTens"), (99, .class_ 190), (0, u "java/lang/Integer$IntegerCache"), (3, u "I"), (8, .class_ 204), (0, u "java/lang/Number"), (2, u "value"), (56, .integer 65536), (37, u "TYPE"), (0, u "Ljava/lang/Class;"), (0, .class_ 305), (0, u "java/lang/Comparable"), (0, .class_ 307), (0, u "java/lang/constant/Constable"), (0, .class_ 309), (0, u "java/lang/constant/ConstantDesc"), (0, u "MIN_VALUE"), (1, u "MAX_VALUE"), (3, u "SIZE"), (1, u "BYTES"), (1, u "serialVersionUID"), (0, u "J"), (84, u "numberOfTrailingZeros")] 46

def k11c0 : Code := { maxStack := 3, maxLocals := 2, code := jdk_33_method_47_code, exceptionTable := #[], attributes := #[] }
def k11m0 : Method := { name := "numberOfLeadingZeros", desc := "(I)I", sig := { parameters := [.int], returnType := some .int }, accessFlags := 9, code := some k11c0 }
def k11c1 : Code := { maxStack := 3, maxLocals := 2, code := jdk_33_method_48_code, exceptionTable := #[], attributes := #[] }
def k11m1 : Method := { name := "numberOfTrailingZeros", desc := "(I)I", sig := { parameters := [.int], returnType := some .int }, accessFlags := 9, code := some k11c1 }
/-- java/lang/Integer -/
def k11 : Class := { plain "java/lang/Integer" (some 6) with
  accessFlags := 49
  interfaces := #[7, 8, 9]
  cf := some (fileOf pool11 1 #[.nestMembers #[189]] #[{ accessFlags := 9, nameIndex := 53, descriptorIndex := 54, attributes := #[] }, { accessFlags := 9, nameIndex := 406, descriptorIndex := 54, attributes := #[] }] 49 203 #[304, 306, 308] #[{ accessFlags := 25, nameIndex := 310, descriptorIndex := 194, attributes := #[] }, { accessFlags := 25, nameIndex := 312, descriptorIndex := 194, attributes := #[] }, { accessFlags := 25, nameIndex := 302, descriptorIndex := 303, attributes := #[] }, { accessFlags := 24, nameIndex := 19, descriptorIndex := 20, attributes := #[] }, { accessFlags := 24, nameIndex := 89, descriptorIndex := 86, attributes := #[] }, { accessFlags := 24, nameIndex := 85, descriptorIndex := 86, attributes := #[] }, { accessFlags := 18, nameIndex := 207, descriptorIndex := 194, attributes := #[] }, { accessFlags := 25, nameIndex := 316, descriptorIndex := 194, attributes := #[] }, { accessFlags := 25, nameIndex := 318, descriptorIndex := 194, attributes := #[] }, { accessFlags := 26, nameIndex := 320, descriptorIndex := 321, attributes := #[] }])
  fields := #[{ name := "MIN_VALUE", type := .int, accessFlags := 25, slot := 0, constantValue := 0 }, { name := "MAX_VALUE", type := .int, accessFlags := 25, slot := 1, constantValue := 0 }, { name := "TYPE", type := (.object "java/lang/Class"), accessFlags := 25, slot := 2, constantValue := 0 }, { name := "digits", type := (.array .char), accessFlags := 24, slot := 3, constantValue := 0 }, { name := "DigitTens", type := (.array .byte), accessFlags := 24, slot := 4, constantValue := 0 }, { name := "DigitOnes", type := (.array .byte), accessFlags := 24, slot := 5, constantValue := 0 }, { name := "value", type := .int, accessFlags := 18, slot := 0, constantValue := 0 }, { name := "SIZE", type := .int, accessFlags := 25, slot := 6, constantValue := 0 }, { name := "BYTES", type := .int, accessFlags := 25, slot := 7, constantValue := 0 }, { name := "serialVersionUID", type := .long, accessFlags := 26, slot := 8, constantValue := 0 }]
  methods := #[k11m0, k11m1]
  instanceTypes := #[.int]
  staticTypes := #[.int, .int, (.object "java/lang/Class"), (.array .char), (.array .byte), (.array .byte), .int, .int, .long]
  resolved := Array.replicate 453 none
  statics := none }

def pool12 : Array CpInfo := pool [(1, .class_ 2), (0, u "java/lang/Math"), (1, .class_ 6), (1, u "java/lang/Object"), (0, u "<init>"), (0, u "()V"), (89, .class_ 100), (1, u "java/lang/Math$RandomNumberGeneratorHolder"), (71, u "negativeZeroFloatBits"), (0, u "J"), (2, u "negativeZeroDoubleBits"), (24, u "min"), (43, u "$assertionsDisabled"), (0, u "Z"), (88, u "(II)I"), (2, u "twoToTheDoubleScaleDown"), (0, u "D"), (4, u "twoToTheDoubleScaleUp"), (9, u "E"), (3, u "PI"), (2, u "TAU"), (2, u "DEGREES_TO_RADIANS"), (0, u "RADIANS_TO_DEGREES")] 94

def k12m0 : Method := { name := "<init>", desc := "()V", sig := { parameters := [], returnType := none }, accessFlags := 2, code := none }
def k12c1 : Code := { maxStack := 2, maxLocals := 2, code := jdk_29_method_69_code, exceptionTable := #[], attributes := #[] }
def k12m1 : Method := { name := "min", desc := "(II)I", sig := { parameters := [.int, .int], returnType := some .int }, accessFlags := 9, code := some k12c1 }
/-- java/lang/Math -/
def k12 : Class := { plain "java/lang/Math" (some 0) with
  accessFlags := 49
  interfaces := #[]
  cf := some (fileOf pool12 1 #[.nestMembers #[98]] #[{ accessFlags := 2, nameIndex := 7, descriptorIndex := 8, attributes := #[] }, { accessFlags := 9, nameIndex := 201, descriptorIndex := 335, attributes := #[] }] 49 4 #[] #[{ accessFlags := 25, nameIndex := 354, descriptorIndex := 339, attributes := #[] }, { accessFlags := 25, nameIndex := 358, descriptorIndex := 339, attributes := #[] }, { accessFlags := 25, nameIndex := 361, descriptorIndex := 339, attributes := #[] }, { accessFlags := 26, nameIndex := 364, descriptorIndex := 339, attributes := #[] }, { accessFlags := 26, nameIndex := 365, descriptorIndex := 339, attributes := #[] }, { accessFlags := 26, nameIndex := 172, descriptorIndex := 173, attributes := #[] }, { accessFlags := 26, nameIndex := 176, descriptorIndex := 173, attributes := #[] }, { accessFlags := 8, nameIndex := 344, descriptorIndex := 339, attributes := #[] }, { accessFlags := 8, nameIndex := 338, descriptorIndex := 339, attributes := #[] }, { accessFlags := 4120, nameIndex := 245, descriptorIndex := 246, attributes := #[] }])
  fields := #[{ name := "E", type := .double, accessFlags := 25, slot := 0, constantValue := 0 }, { name := "PI", type := .double, accessFlags := 25, slot := 1, constantValue := 0 }, { name := "TAU", type := .double, accessFlags := 25, slot := 2, constantValue := 0 }, { name := "DEGREES_TO_RADIANS", type := .double, accessFlags := 26, slot := 3, constantValue := 0 }, { name := "RADIANS_TO_DEGREES", type := .double, accessFlags := 26, slot := 4, constantValue := 0 }, { name := "negativeZeroFloatBits", type := .long, accessFlags := 26, slot := 5, constantValue := 0 }, { name := "negativeZeroDoubleBits", type := .long, accessFlags := 26, slot := 6, constantValue := 0 }, { name := "twoToTheDoubleScaleUp", type := .double, accessFlags := 8, slot := 7, constantValue := 0 }, { name := "twoToTheDoubleScaleDown", type := .double, accessFlags := 8, slot := 8, constantValue := 0 }, { name := "$assertionsDisabled", type := .boolean, accessFlags := 4120, slot := 9, constantValue := 0 }]
  methods := #[k12m0, k12m1]
  instanceTypes := #[]
  staticTypes := #[.double, .double, .double, .double, .double, .long, .long, .double, .double, .boolean]
  resolved := Array.replicate 460 none
  statics := none }

def pool13 : Array CpInfo := pool [(2, .class_ 4), (1, u "java/lang/Object"), (0, u "<init>"), (0, u "()V"), (1, .class_ 10), (1, u "java/lang/System"), (0, u "allowSecurityManager"), (0, u "I"), (16, u "cons"), (0, u "Ljava/io/Console;"), (77, .class_ 110), (1, u "java/lang/System$CallersHolder"), (43, u "initialErrStream"), (0, u "Ljava/io/PrintStream;"), (19, u "security"), (0, u "Ljava/lang/SecurityManager;"), (31, .class_ 209), (0, u "java/lang/System$1"), (7, u "props"), (0, u "Ljava/util/Properties;"), (2, u "lineSeparator"), (0, u "Ljava/lang/String;"), (96, .class_ 321), (1, u "java/lang/System$LoggerFinder"), (5, .class_ 328), (0, u "java/lang/System$Logger"), (67, u "err"), (2, u "out"), (91, u "notSupportedJnuEncoding"), (15, u "in"), (17, u "initialIn"), (0, u "Ljava/io/InputStream;"), (35, u "bootLayer"), (0, u "Ljava/lang/ModuleLayer;"), (99, .class_ 664), (0, u "java/lang/System$2"), (9, u "NEVER"), (2, u "MAYBE"), (49, u "arraycopy"), (0, u "(Ljava/lang/Object;ILjava/lang/Object;II)V"), (72, .class_ 802), (0, u "java/lang/System$Logger$Level")] 31

def k13m0 : Method := { name := "<init>", desc := "()V", sig := { parameters := [], returnType := none }, accessFlags := 2, code := none }
def k13m1 : Method := { name := "arraycopy", desc := "(Ljava/lang/Object;ILjava/lang/Object;II)V", sig := { parameters := [(.object "java/lang/Object"), .int, (.object "java/lang/Object"), .int, .int], returnType := none }, accessFlags := 265, code := none }
/-- java/lang/System -/
def k13 : Class := { plain "java/lang/System" (some 0) with
  accessFlags := 49
  interfaces := #[]
  cf := some (fileOf pool13 8 #[.nestMembers #[319, 327, 801, 108, 663, 208]] #[{ accessFlags := 2, nameIndex := 5, descriptorIndex := 6, attributes := #[] }, { accessFlags := 265, nameIndex := 727, descriptorIndex := 728, attributes := #[] }] 49 2 #[] #[{ accessFlags := 25, nameIndex := 507, descriptorIndex := 526, attributes := #[] }, { accessFlags := 25, nameIndex := 399, descriptorIndex := 155, attributes := #[] }, { accessFlags := 25, nameIndex := 396, descriptorIndex := 155, attributes := #[] }, { accessFlags := 10, nameIndex := 525, descriptorIndex := 526, attributes := #[] }, { accessFlags := 26, nameIndex := 674, descriptorIndex := 12, attributes := #[] }, { accessFlags := 26, nameIndex := 677, descriptorIndex := 12, attributes := #[] }, { accessFlags := 10, nameIndex := 11, descriptorIndex := 12, attributes := #[] }, { accessFlags := 74, nameIndex := 175, descriptorIndex := 176, attributes := #[] }, { accessFlags := 10, nameIndex := 491, descriptorIndex := 222, attributes := #[] }, { accessFlags := 74, nameIndex := 29, descriptorIndex := 30, attributes := #[] }, { accessFlags := 74, nameIndex := 154, descriptorIndex := 155, attributes := #[] }, { accessFlags := 10, nameIndex := 217, descriptorIndex := 218, attributes := #[] }, { accessFlags := 10, nameIndex := 221, descriptorIndex := 222, attributes := #[] }, { accessFlags := 8, nameIndex := 562, descriptorIndex := 563, attributes := #[] }])
  fields := #[{ name := "in", type := (.object "java/io/InputStream"), accessFlags := 25, slot := 0, constantValue := 0 }, { name := "out", type := (.object "java/io/PrintStream"), accessFlags := 25, slot := 1, constantValue := 0 }, { name := "err", type := (.object "java/io/PrintStream"), accessFlags := 25, slot := 2, constantValue := 0 }, { name := "initialIn", type := (.object "java/io/InputStream"), accessFlags := 10, slot := 3, constantValue := 0 }, { name := "NEVER", type := .int, accessFlags := 26, slot := 4, constantValue := 0 }, { name := "MAYBE", type := .int, accessFlags := 26, slot := 5, constantValue := 0 }, { name := "allowSecurityManager", type := .int, accessFlags := 10, slot := 6, constantValue := 0 }, { name := "security", type := (.object "java/lang/SecurityManager"), accessFlags := 74, slot := 7, constantValue := 0 }, { name := "notSupportedJnuEncoding", type := (.object "java/lang/String"), accessFlags := 10, slot := 8, constantValue := 0 }, { name := "cons", type := (.object "java/io/Console"), accessFlags := 74, slot := 9, constantValue := 0 }, { name := "initialErrStream", type := (.object "java/io/PrintStream"), accessFlags := 74, slot := 10, constantValue := 0 }, { name := "props", type := (.object "java/util/Properties"), accessFlags := 10, slot := 11, constantValue := 0 }, { name := "lineSeparator", type := (.object "java/lang/String"), accessFlags := 10, slot := 12, constantValue := 0 }, { name := "bootLayer", type := (.object "java/lang/ModuleLayer"), accessFlags := 8, slot := 13, constantValue := 0 }]
  methods := #[k13m0, k13m1]
  instanceTypes := #[]
  staticTypes := #[(.object "java/io/InputStream"), (.object "java/io/PrintStream"), (.object "java/io/PrintStream"), (.object "java/io/InputStream"), .int, .int, .int, (.object "java/lang/SecurityManager"), (.object "java/lang/String"), (.object "java/io/Console"), (.object "java/io/PrintStream"), (.object "java/util/Properties"), (.object "java/lang/String"), (.object "java/lang/ModuleLayer")]
  resolved := Array.replicate 834 none
  statics := none }

/-- the primitive byte -/
def k14 : Class := { plain "byte" none with kind := .primitive 'B', accessFlags := 0x411 }
/-- [B -/
def k15 : Class := { plain "[B" (some 0) with kind := .array 14 .byte, interfaces := #[4, 5], accessFlags := 1041 }

/-- the primitive int -/
def k16 : Class := { plain "int" none with kind := .primitive 'I', accessFlags := 0x411 }
/-- [I -/
def k17 : Class := { plain "[I" (some 0) with kind := .array 16 .int, interfaces := #[4, 5], accessFlags := 1041 }

/-- the primitive long -/
def k18 : Class := { plain "long" none with kind := .primitive 'J', accessFlags := 0x411 }
/-- [J -/
def k19 : Class := { plain "[J" (some 0) with kind := .array 18 .long, interfaces := #[4, 5], accessFlags := 1041 }

/-- [[I -/
def k20 : Class := { plain "[[I" (some 0) with kind := .array 17 (.array .int), interfaces := #[4, 5], accessFlags := 1041 }

/-- [[J -/
def k21 : Class := { plain "[[J" (some 0) with kind := .array 19 (.array .long), interfaces := #[4, 5], accessFlags := 1041 }

def heap : Heap := #[]
def classes : Array Class := #[k0, k1, k2, k3, k4, k5, k6, k7, k8, k9, k10, k11, k12, k13, k14, k15, k16, k17, k18, k19, k20, k21]
def interned : List (Array UInt16 × Addr) := []
def slotsUsed : Nat := 0
def theMethod : MethodId := ⟨1, 1⟩
def args0 : Array Value := #[.int 5, .int 5, .long 5]
def aboutOver (below : List Frame) : State where
  vm := { classes := classes, interned := interned.toArray }
  heap := heap
  slotsUsed := slotsUsed
  threads := #[{ frames := .invoking theMethod args0 :: below }]
def below0 : List Frame := [.native { method := ⟨0, 0⟩, args := #[] }]
def about1 : State := aboutOver below0
def p0 : Program := .bare "" "" ""
def e0 : Env := launch0.env 0 0 0
theorem w_frames : about1.frames = Frame.invoking theMethod args0 :: below0 := rfl
set_option maxRecDepth 65536 in
theorem w_args : argsFit about1.vm theMethod args0 = true := by decide +kernel
set_option maxRecDepth 65536 in
theorem w_heap : heapFits about1 = true := by decide +kernel
set_option maxRecDepth 65536 in
theorem w_runnable : about1.curStatus? = some .runnable := by decide +kernel
set_option maxRecDepth 65536 in
theorem w_alone : about1.alone = true := by decide +kernel
set_option maxRecDepth 65536 in
theorem w_named : about1.methodNamed? x = some theMethod := by decide +kernel
set_option maxRecDepth 65536 in
theorem w_hears : about1.hears theMethod below0 = true := by decide +kernel
set_option maxRecDepth 65536 in
theorem w_ripe : about1.ripe theMethod args0 below0 = true := by decide +kernel
theorem w_running : about1.status = .running := rfl
set_option maxRecDepth 65536 in
theorem w_room : about1.hasRoom e0.platform room_1 = true :=
  launch0.hasRoom_least _ room_1 (by decide +kernel) (by decide +kernel) (by decide +kernel) (by decide +kernel) (by decide +kernel) (by decide +kernel)
theorem allAtoms_all (ts : List Jvm.Cond) (a : Array Jvm.Value) (st : Jvm.State) : (allAtoms ts).before a st = ts.all (fun c => c.before a st) := by
  induction ts with
  | nil => rfl
  | cons c t ih =>
    show (Jvm.Cond.and c (allAtoms t)).before a st = _
    rw [Jvm.Cond.before_and, ih, List.all_cons]
def words1 : List Jvm.Cond := Jvm.Cond.code x code maxLocals ret :: tables_1
/-- a 'code' word, met by the world's own term for the bytes: nothing is compared byte by byte -/
theorem code_word {y : MethodName} {bytes : ByteArray} {mx : Nat} {rt : Option FieldType} {a : Array Value} {s : State} {m : MethodId} {meth : Method} {c : Code} (h1 : s.methodNamed? y = some m) (h2 : s.vm.method? m = some meth) (h3 : meth.code = some c) (h4 : c.code = bytes)
    (h5 : (c.maxLocals == mx && c.exceptionTable.isEmpty && decide (c.maxStack ≤ mostOperands) && decide (meth.sig.returnType = rt) && !meth.locks && decide (parseMethodDescriptor y.desc = some meth.sig)) = true) : (Jvm.Cond.code y bytes mx rt).before a s = true := by
  simp only [Bool.and_eq_true, beq_iff_eq, Bool.not_eq_true', decide_eq_true_eq] at h5
  obtain ⟨⟨⟨⟨⟨g1, g2⟩, g3⟩, g4⟩, g5⟩, g6⟩ := h5
  simp [Cond.before, Cond.holds, Cond.value, h1, h2, h3, h4, g1, g2, g3, g4, g5, g6]
def isCode : Jvm.Cond → Bool
  | .code _ _ _ _ => true
  | _ => false
theorem all_split {L : List Jvm.Cond} {P : Jvm.Cond → Bool} (h1 : L.all (fun c => isCode c || P c) = true) (h2 : ∀ c ∈ L.filter isCode, P c = true) : L.all P = true := by
  refine List.all_eq_true.mpr fun c hc => ?_
  have h := List.all_eq_true.mp h1 c hc
  rcases Bool.eq_false_or_eq_true (isCode c) with hi | hi
  · exact h2 c (List.mem_filter.mpr ⟨hc, hi⟩)
  · simpa [hi] using h
set_option maxRecDepth 65536 in
theorem w_c0 : (Jvm.Cond.code x code maxLocals ret).before args0 about1 = true := code_word (m := ⟨1, 1⟩) (meth := k1m1) (c := k1c1) (by decide +kernel) rfl rfl rfl (by decide +kernel)
set_option maxRecDepth 65536 in
theorem w_c1 : (Jvm.Cond.code ({ cls := "com/example/criba/criba/index/BlockLayoutKeyPinLaw", name := "block", desc := "(JII)J" } : Jvm.MethodName) method_5_code (5 : Nat) (Option.some Jvm.ClassFile.FieldType.long)).before args0 about1 = true := code_word (m := ⟨1, 4⟩) (meth := k1m4) (c := k1c4) (by decide +kernel) rfl rfl rfl (by decide +kernel)
set_option maxRecDepth 65536 in
theorem w_c2 : (Jvm.Cond.code ({ cls := "com/example/criba/criba/index/BlockLayoutKeyPinLaw", name := "width", desc := "(II)I" } : Jvm.MethodName) method_3_code (2 : Nat) (Option.some Jvm.ClassFile.FieldType.int)).before args0 about1 = true := code_word (m := ⟨1, 2⟩) (meth := k1m2) (c := k1c2) (by decide +kernel) rfl rfl rfl (by decide +kernel)
set_option maxRecDepth 65536 in
theorem w_c3 : (Jvm.Cond.code ({ cls := "com/example/criba/criba/index/BlockLayout", name := "<init>", desc := "(II)V" } : Jvm.MethodName) prog_1_method_2_code (14 : Nat) (Option.none : Option Jvm.ClassFile.FieldType)).before args0 about1 = true := code_word (m := ⟨2, 0⟩) (meth := k2m0) (c := k2c0) (by decide +kernel) rfl rfl rfl (by decide +kernel)
set_option maxRecDepth 65536 in
theorem w_c4 : (Jvm.Cond.code ({ cls := "java/lang/Object", name := "<init>", desc := "()V" } : Jvm.MethodName) object_method_1_code (1 : Nat) (Option.none : Option Jvm.ClassFile.FieldType)).before args0 about1 = true := code_word (m := ⟨0, 0⟩) (meth := k0m0) (c := k0c0) (by decide +kernel) rfl rfl rfl (by decide +kernel)
set_option maxRecDepth 65536 in
theorem w_c5 : (Jvm.Cond.code ({ cls := "com/example/criba/criba/index/BlockLayout", name := "binomial", desc := "(II)J" } : Jvm.MethodName) prog_1_method_19_code (5 : Nat) (Option.some Jvm.ClassFile.FieldType.long)).before args0 about1 = true := code_word (m := ⟨2, 7⟩) (meth := k2m7) (c := k2c7) (by decide +kernel) rfl rfl rfl (by decide +kernel)
set_option maxRecDepth 65536 in
theorem w_c6 : (Jvm.Cond.code ({ cls := "com/example/criba/criba/index/BlockLayout", name := "lowBits", desc := "(I)J" } : Jvm.MethodName) prog_1_method_18_code (1 : Nat) (Option.some Jvm.ClassFile.FieldType.long)).before args0 about1 = true := code_word (m := ⟨2, 6⟩) (meth := k2m6) (c := k2c6) (by decide +kernel) rfl rfl rfl (by decide +kernel)
set_option maxRecDepth 65536 in
theorem w_c7 : (Jvm.Cond.code ({ cls := "com/example/criba/criba/index/BlockLayout", name := "describe", desc := "(I[I[J[I[I)V" } : Jvm.MethodName) prog_1_method_14_code (22 : Nat) (Option.none : Option Jvm.ClassFile.FieldType)).before args0 about1 = true := code_word (m := ⟨2, 2⟩) (meth := k2m2) (c := k2c2) (by decide +kernel) rfl rfl rfl (by decide +kernel)
set_option maxRecDepth 65536 in
theorem w_c8 : (Jvm.Cond.code ({ cls := "java/util/Arrays", name := "copyOf", desc := "([II)[I" } : Jvm.MethodName) jdk_65_method_123_code (3 : Nat) (Option.some (Jvm.ClassFile.FieldType.array Jvm.ClassFile.FieldType.int))).before args0 about1 = true := code_word (m := ⟨3, 1⟩) (meth := k3m1) (c := k3c1) (by decide +kernel) rfl rfl rfl (by decide +kernel)
set_option maxRecDepth 65536 in
theorem w_c9 : (Jvm.Cond.code ({ cls := "com/example/criba/criba/index/BlockLayout", name := "differencesWithin", desc := "(JI)[J" } : Jvm.MethodName) prog_1_method_15_code (17 : Nat) (Option.some (Jvm.ClassFile.FieldType.array Jvm.ClassFile.FieldType.long))).before args0 about1 = true := code_word (m := ⟨2, 3⟩) (meth := k2m3) (c := k2c3) (by decide +kernel) rfl rfl rfl (by decide +kernel)
set_option maxRecDepth 65536 in
theorem w_c10 : (Jvm.Cond.code ({ cls := "java/lang/Long", name := "bitCount", desc := "(J)I" } : Jvm.MethodName) jdk_35_method_50_code (2 : Nat) (Option.some Jvm.ClassFile.FieldType.int)).before args0 about1 = true := code_word (m := ⟨10, 5⟩) (meth := k10m5) (c := k10c5) (by decide +kernel) rfl rfl rfl (by decide +kernel)
set_option maxRecDepth 65536 in
theorem w_c11 : (Jvm.Cond.code ({ cls := "java/lang/Long", name := "numberOfTrailingZeros", desc := "(J)I" } : Jvm.MethodName) jdk_35_method_49_code (3 : Nat) (Option.some Jvm.ClassFile.FieldType.int)).before args0 about1 = true := code_word (m := ⟨10, 4⟩) (meth := k10m4) (c := k10c4) (by decide +kernel) rfl rfl rfl (by decide +kernel)
set_option maxRecDepth 65536 in
theorem w_c12 : (Jvm.Cond.code ({ cls := "java/lang/Integer", name := "numberOfTrailingZeros", desc := "(I)I" } : Jvm.MethodName) jdk_33_method_48_code (2 : Nat) (Option.some Jvm.ClassFile.FieldType.int)).before args0 about1 = true := code_word (m := ⟨11, 1⟩) (meth := k11m1) (c := k11c1) (by decide +kernel) rfl rfl rfl (by decide +kernel)
set_option maxRecDepth 65536 in
theorem w_c13 : (Jvm.Cond.code ({ cls := "com/example/criba/criba/index/BlockLayout", name := "keysWithin", desc := "(II)J" } : Jvm.MethodName) prog_1_method_16_code (5 : Nat) (Option.some Jvm.ClassFile.FieldType.long)).before args0 about1 = true := code_word (m := ⟨2, 4⟩) (meth := k2m4) (c := k2c4) (by decide +kernel) rfl rfl rfl (by decide +kernel)
set_option maxRecDepth 65536 in
theorem w_c14 : (Jvm.Cond.code ({ cls := "com/example/criba/criba/index/BlockLayout", name := "nextChoice", desc := "([II)V" } : Jvm.MethodName) prog_1_method_17_code (4 : Nat) (Option.none : Option Jvm.ClassFile.FieldType)).before args0 about1 = true := code_word (m := ⟨2, 5⟩) (meth := k2m5) (c := k2c5) (by decide +kernel) rfl rfl rfl (by decide +kernel)
set_option maxRecDepth 65536 in
theorem w_c15 : (Jvm.Cond.code ({ cls := "com/example/criba/criba/index/BlockLayout", name := "key", desc := "(IJ)J" } : Jvm.MethodName) prog_1_method_10_code (8 : Nat) (Option.some Jvm.ClassFile.FieldType.long)).before args0 about1 = true := code_word (m := ⟨2, 1⟩) (meth := k2m1) (c := k2c1) (by decide +kernel) rfl rfl rfl (by decide +kernel)
set_option maxRecDepth 65536 in
theorem w_c16 : (Jvm.Cond.code ({ cls := "com/example/criba/criba/index/BlockLayoutKeyPinLaw", name := "shift", desc := "(II)I" } : Jvm.MethodName) method_4_code (2 : Nat) (Option.some Jvm.ClassFile.FieldType.int)).before args0 about1 = true := code_word (m := ⟨1, 3⟩) (meth := k1m3) (c := k1c3) (by decide +kernel) rfl rfl rfl (by decide +kernel)
set_option maxRecDepth 65536 in
theorem w_c17 : (Jvm.Cond.code ({ cls := "java/lang/Math", name := "min", desc := "(II)I" } : Jvm.MethodName) jdk_29_method_69_code (2 : Nat) (Option.some Jvm.ClassFile.FieldType.int)).before args0 about1 = true := code_word (m := ⟨12, 1⟩) (meth := k12m1) (c := k12c1) (by decide +kernel) rfl rfl rfl (by decide +kernel)
set_option maxRecDepth 65536 in
theorem w_c18 : (Jvm.Cond.code ({ cls := "java/lang/Long", name := "highestOneBit", desc := "(J)J" } : Jvm.MethodName) jdk_35_method_46_code (2 : Nat) (Option.some Jvm.ClassFile.FieldType.long)).before args0 about1 = true := code_word (m := ⟨10, 2⟩) (meth := k10m2) (c := k10c2) (by decide +kernel) rfl rfl rfl (by decide +kernel)
set_option maxRecDepth 65536 in
theorem w_c19 : (Jvm.Cond.code ({ cls := "java/lang/Long", name := "numberOfLeadingZeros", desc := "(J)I" } : Jvm.MethodName) jdk_35_method_48_code (3 : Nat) (Option.some Jvm.ClassFile.FieldType.int)).before args0 about1 = true := code_word (m := ⟨10, 3⟩) (meth := k10m3) (c := k10c3) (by decide +kernel) rfl rfl rfl (by decide +kernel)
set_option maxRecDepth 65536 in
theorem w_c20 : (Jvm.Cond.code ({ cls := "java/lang/Integer", name := "numberOfLeadingZeros", desc := "(I)I" } : Jvm.MethodName) jdk_33_method_47_code (2 : Nat) (Option.some Jvm.ClassFile.FieldType.int)).before args0 about1 = true := code_word (m := ⟨11, 0⟩) (meth := k11m0) (c := k11c0) (by decide +kernel) rfl rfl rfl (by decide +kernel)
set_option maxRecDepth 65536 in
theorem w_c21 : (Jvm.Cond.code ({ cls := "java/lang/Long", name := "compareUnsigned", desc := "(JJ)I" } : Jvm.MethodName) jdk_35_method_43_code (4 : Nat) (Option.some Jvm.ClassFile.FieldType.int)).before args0 about1 = true := code_word (m := ⟨10, 1⟩) (meth := k10m1) (c := k10c1) (by decide +kernel) rfl rfl rfl (by decide +kernel)
set_option maxRecDepth 65536 in
theorem w_c22 : (Jvm.Cond.code ({ cls := "java/lang/Long", name := "compare", desc := "(JJ)I" } : Jvm.MethodName) jdk_35_method_42_code (4 : Nat) (Option.some Jvm.ClassFile.FieldType.int)).before args0 about1 = true := code_word (m := ⟨10, 0⟩) (meth := k10m0) (c := k10c0) (by decide +kernel) rfl rfl rfl (by decide +kernel)
def codes1 : List Jvm.Cond := [Jvm.Cond.code x code maxLocals ret, Jvm.Cond.code ({ cls := "com/example/criba/criba/index/BlockLayoutKeyPinLaw", name := "block", desc := "(JII)J" } : Jvm.MethodName) method_5_code (5 : Nat) (Option.some Jvm.ClassFile.FieldType.long), Jvm.Cond.code ({ cls := "com/example/criba/criba/index/BlockLayoutKeyPinLaw", name := "width", desc := "(II)I" } : Jvm.MethodName) method_3_code (2 : Nat) (Option.some Jvm.ClassFile.FieldType.int), Jvm.Cond.code ({ cls := "com/example/criba/criba/index/BlockLayout", name := "<init>", desc := "(II)V" } : Jvm.MethodName) prog_1_method_2_code (14 : Nat) (Option.none : Option Jvm.ClassFile.FieldType), Jvm.Cond.code ({ cls := "java/lang/Object", name := "<init>", desc := "()V" } : Jvm.MethodName) object_method_1_code (1 : Nat) (Option.none : Option Jvm.ClassFile.FieldType), Jvm.Cond.code ({ cls := "com/example/criba/criba/index/BlockLayout", name := "binomial", desc := "(II)J" } : Jvm.MethodName) prog_1_method_19_code (5 : Nat) (Option.some Jvm.ClassFile.FieldType.long), Jvm.Cond.code ({ cls := "com/example/criba/criba/index/BlockLayout", name := "lowBits", desc := "(I)J" } : Jvm.MethodName) prog_1_method_18_code (1 : Nat) (Option.some Jvm.ClassFile.FieldType.long), Jvm.Cond.code ({ cls := "com/example/criba/criba/index/BlockLayout", name := "describe", desc := "(I[I[J[I[I)V" } : Jvm.MethodName) prog_1_method_14_code (22 : Nat) (Option.none : Option Jvm.ClassFile.FieldType), Jvm.Cond.code ({ cls := "java/util/Arrays", name := "copyOf", desc := "([II)[I" } : Jvm.MethodName) jdk_65_method_123_code (3 : Nat) (Option.some (Jvm.ClassFile.FieldType.array Jvm.ClassFile.FieldType.int)), Jvm.Cond.code ({ cls := "com/example/criba/criba/index/BlockLayout", name := "differencesWithin", desc := "(JI)[J" } : Jvm.MethodName) prog_1_method_15_code (17 : Nat) (Option.some (Jvm.ClassFile.FieldType.array Jvm.ClassFile.FieldType.long)), Jvm.Cond.code ({ cls := "java/lang/Long", name := "bitCount", desc := "(J)I" } : Jvm.MethodName) jdk_35_method_50_code (2 : Nat) (Option.some Jvm.ClassFile.FieldType.int), Jvm.Cond.code ({ cls := "java/lang/Long", name := "numberOfTrailingZeros", desc := "(J)I" } : Jvm.MethodName) jdk_35_method_49_code (3 : Nat) (Option.some Jvm.ClassFile.FieldType.int), Jvm.Cond.code ({ cls := "java/lang/Integer", name := "numberOfTrailingZeros", desc := "(I)I" } : Jvm.MethodName) jdk_33_method_48_code (2 : Nat) (Option.some Jvm.ClassFile.FieldType.int), Jvm.Cond.code ({ cls := "com/example/criba/criba/index/BlockLayout", name := "keysWithin", desc := "(II)J" } : Jvm.MethodName) prog_1_method_16_code (5 : Nat) (Option.some Jvm.ClassFile.FieldType.long), Jvm.Cond.code ({ cls := "com/example/criba/criba/index/BlockLayout", name := "nextChoice", desc := "([II)V" } : Jvm.MethodName) prog_1_method_17_code (4 : Nat) (Option.none : Option Jvm.ClassFile.FieldType), Jvm.Cond.code ({ cls := "com/example/criba/criba/index/BlockLayout", name := "key", desc := "(IJ)J" } : Jvm.MethodName) prog_1_method_10_code (8 : Nat) (Option.some Jvm.ClassFile.FieldType.long), Jvm.Cond.code ({ cls := "com/example/criba/criba/index/BlockLayoutKeyPinLaw", name := "shift", desc := "(II)I" } : Jvm.MethodName) method_4_code (2 : Nat) (Option.some Jvm.ClassFile.FieldType.int), Jvm.Cond.code ({ cls := "java/lang/Math", name := "min", desc := "(II)I" } : Jvm.MethodName) jdk_29_method_69_code (2 : Nat) (Option.some Jvm.ClassFile.FieldType.int), Jvm.Cond.code ({ cls := "java/lang/Long", name := "highestOneBit", desc := "(J)J" } : Jvm.MethodName) jdk_35_method_46_code (2 : Nat) (Option.some Jvm.ClassFile.FieldType.long), Jvm.Cond.code ({ cls := "java/lang/Long", name := "numberOfLeadingZeros", desc := "(J)I" } : Jvm.MethodName) jdk_35_method_48_code (3 : Nat) (Option.some Jvm.ClassFile.FieldType.int), Jvm.Cond.code ({ cls := "java/lang/Integer", name := "numberOfLeadingZeros", desc := "(I)I" } : Jvm.MethodName) jdk_33_method_47_code (2 : Nat) (Option.some Jvm.ClassFile.FieldType.int), Jvm.Cond.code ({ cls := "java/lang/Long", name := "compareUnsigned", desc := "(JJ)I" } : Jvm.MethodName) jdk_35_method_43_code (4 : Nat) (Option.some Jvm.ClassFile.FieldType.int), Jvm.Cond.code ({ cls := "java/lang/Long", name := "compare", desc := "(JJ)I" } : Jvm.MethodName) jdk_35_method_42_code (4 : Nat) (Option.some Jvm.ClassFile.FieldType.int)]
set_option maxRecDepth 65536 in
theorem codes_eq : words1.filter isCode = codes1 := rfl
theorem w_codes : ∀ c ∈ words1.filter isCode, c.before args0 about1 = true := by
  rw [codes_eq]
  intro c hc
  simp only [codes1, List.mem_cons, List.not_mem_nil, or_false] at hc
  rcases hc with rfl | rfl | rfl | rfl | rfl | rfl | rfl | rfl | rfl | rfl | rfl | rfl | rfl | rfl | rfl | rfl | rfl | rfl | rfl | rfl | rfl | rfl | rfl
  · exact w_c0
  · exact w_c1
  · exact w_c2
  · exact w_c3
  · exact w_c4
  · exact w_c5
  · exact w_c6
  · exact w_c7
  · exact w_c8
  · exact w_c9
  · exact w_c10
  · exact w_c11
  · exact w_c12
  · exact w_c13
  · exact w_c14
  · exact w_c15
  · exact w_c16
  · exact w_c17
  · exact w_c18
  · exact w_c19
  · exact w_c20
  · exact w_c21
  · exact w_c22
set_option maxRecDepth 65536 in
theorem w_t1 : (words1.take 24).all (fun c => isCode c || c.before args0 about1) = true := by decide +kernel
set_option maxRecDepth 65536 in
theorem w_t2 : ((words1.drop 24).take 24).all (fun c => isCode c || c.before args0 about1) = true := by decide +kernel
set_option maxRecDepth 65536 in
theorem w_t3 : (((words1.drop 24).drop 24).take 24).all (fun c => isCode c || c.before args0 about1) = true := by decide +kernel
set_option maxRecDepth 65536 in
theorem w_t4 : ((((words1.drop 24).drop 24).drop 24).take 24).all (fun c => isCode c || c.before args0 about1) = true := by decide +kernel
set_option maxRecDepth 65536 in
theorem w_t5 : (((((words1.drop 24).drop 24).drop 24).drop 24).take 24).all (fun c => isCode c || c.before args0 about1) = true := by decide +kernel
set_option maxRecDepth 65536 in
theorem w_t6 : (((((words1.drop 24).drop 24).drop 24).drop 24).drop 24).all (fun c => isCode c || c.before args0 about1) = true := by decide +kernel
theorem w_tables : (allAtoms (Jvm.Cond.code x code maxLocals ret :: tables_1)).before args0 about1 = true := by
  rw [allAtoms_all]
  show words1.all (fun c => c.before args0 about1) = true
  refine all_split ?_ w_codes
  rw [← List.take_append_drop 24 words1, List.all_append, w_t1, ← List.take_append_drop 24 (words1.drop 24), List.all_append, w_t2, ← List.take_append_drop 24 ((words1.drop 24).drop 24), List.all_append, w_t3, ← List.take_append_drop 24 (((words1.drop 24).drop 24).drop 24), List.all_append, w_t4, ← List.take_append_drop 24 ((((words1.drop 24).drop 24).drop 24).drop 24), List.all_append, w_t5, w_t6]
  rfl
set_option maxRecDepth 65536 in
theorem w_case : (Jvm.Cond.and given_1 narrow_1).before args0 about1 = true := by decide +kernel
theorem w_applies : (headSpec (Jvm.Cond.code x code maxLocals ret :: tables_1) room_1).applies x e0.platform about1 = true :=
  (Spec.applies_iff w_frames).mpr ⟨w_running, w_runnable, w_alone, w_named, w_hears, w_ripe, w_room, w_tables⟩
theorem atStart : AtStart classFile x code maxLocals ret World_1 tables_1 room_1 Calls_1 rest_1 Pre_1 launch0 p0 e0 about1 theMethod args0 below0 :=
  ⟨lists_1, trivial, launch0.admits_env _ _ _, launch0.least_env, fairChoices_fair.cas, fairChoices_fair.clock, w_frames, w_args, w_heap, w_applies, trivial, trivial, w_case⟩
end start1
theorem witness_1 : WitnessClaimed_1 := ⟨start1.p0, start1.e0, start1.about1, start1.theMethod, start1.args0, start1.below0, start1.atStart⟩
end Jvm.Pilot.@@N@@
