import JvmDerived
import JvmDerived.Pilot.@@N@@Statement
import JvmDerived.Pilot.@@N@@Code
set_option linter.unusedVariables false
set_option linter.unusedSimpArgs false
namespace Jvm.Pilot.@@N@@
open Jvm Jvm.ClassFile Sem Op Lib Jvm.Free Jvm.Stand Jvm.LawKit Jvm.RoadKit Bundle Jvm.Pilot.@@N@@.Jvm.D
/-- whoever comes on from (T, g) comes from A -/
abbrev Gz (tb : Tables) (e : Env) (below : List Frame) (A T : State) (g : JFrame) : Prop := ∀ t, Steps tb e below (T.setTop g) t → Steps tb e below A t
theorem own_eqI {args : Array Value} {first s : State} {o : Option Outcome} {idx : List Nat} {a : Term} {n : Int32} (h : (Jvm.Cond.eq a (.int n)).value args first o s idx = some true) : a.eval args first o idx s = some (.int n) := by
  simp only [Cond.value, Term.eval] at h
  cases ha : a.eval args first o idx s with
  | none => simp [ha] at h
  | some x => cases x <;> simp [ha] at h ⊢ <;> exact h
theorem own_eqJ {args : Array Value} {first s : State} {o : Option Outcome} {idx : List Nat} {a : Term} {n : Int64} (h : (Jvm.Cond.eq a (.long n)).value args first o s idx = some true) : a.eval args first o idx s = some (.long n) := by
  simp only [Cond.value, Term.eval] at h
  cases ha : a.eval args first o idx s with
  | none => simp [ha] at h
  | some x => cases x <;> simp [ha] at h ⊢ <;> exact h
theorem own_eqR {args : Array Value} {first s : State} {o : Option Outcome} {idx : List Nat} {a b : Term} {x y : Addr} (h : (Jvm.Cond.eq a b).value args first o s idx = some true) (ha : a.eval args first o idx s = some (.ref x)) (hb : b.eval args first o idx s = some (.ref y)) : x = y := by
  simp only [Cond.value, ha, hb] at h
  simpa using h
theorem own_fldI {args : Array Value} {s : State} {t : Term} {C f d : String} {n : Int32} {x : Addr} (h : (Jvm.Cond.eq (.field t C f d) (.int n)).value args s none s [] = some true) (ht : t.eval args s none [] s = some (.ref x)) : Fld s s.heap x C f d (.int n) :=
  Fld.start (by rw [← fld_at (C := C) (n := f) (dd := d) ht]; exact own_eqI h)
theorem own_fldJ {args : Array Value} {s : State} {t : Term} {C f d : String} {n : Int64} {x : Addr} (h : (Jvm.Cond.eq (.field t C f d) (.long n)).value args s none s [] = some true) (ht : t.eval args s none [] s = some (.ref x)) : Fld s s.heap x C f d (.long n) :=
  Fld.start (by rw [← fld_at (C := C) (n := f) (dd := d) ht]; exact own_eqJ h)
theorem own_fldN {args : Array Value} {s : State} {t : Term} {C f d : String} {x : Addr} (h : (Jvm.Cond.eq (.field t C f d) .null).value args s none s [] = some true) (ht : t.eval args s none [] s = some (.ref x)) : Fld s s.heap x C f d .null :=
  Fld.start (by rw [← fld_at (C := C) (n := f) (dd := d) ht]; exact null_v h)
theorem own_ext {h0 h : Heap} (K : Keep h0 h []) : Ext h0 h := ⟨K.1, fun x c q => K.2.1 x c q nin0⟩
theorem own_keep {h0 h : Heap} (E : Ext h0 h) : Keep h0 h [] := (Keep.refl h0 []).ext E
theorem own_extE {h0 h h' : Heap} (K : Ext h0 h) (E : Ext h h') : Ext h0 h' := ⟨Nat.le_trans K.1 E.1, fun a c q => E.2 a c (K.2 a c q)⟩
theorem own_extW {h0 h h' : Heap} {a : Addr} {sl : Nat} {v : Value} (K : Ext h0 h) (W : Wr h h' a sl v) (q : h0.size ≤ a) : Ext h0 h' := own_ext ((own_keep K).wr W (Or.inr q))
theorem own_refl (h : Heap) : Ext h h := ⟨Nat.le_refl _, fun _ _ q => q⟩
theorem own_extK {h0 h h' : Heap} {ws : List Addr} (K : Ext h0 h) (Q : Keep h h' ws) (q : ∀ x ∈ ws, h0.size ≤ x) : Ext h0 h' := ⟨Nat.le_trans K.1 Q.1, fun a c hc => Q.2.1 a c (K.2 a c hc) fun z => absurd (Array.getElem?_eq_some_iff.mp hc).1 (Nat.not_lt.mpr (q a z))⟩
theorem own_getR {p : Program} {l : Launch} {e : Env} {R : Room} {s : State} {m : MethodId} {args : Array Value} {below : List Frame} {meth : Method} {c : Code} {T : State} {locs : List Loc} {cells slots : Nat} {Z : State} {a0 : Array Value} {h : Heap}
    (X : Stand p l e R s m args below meth c T locs cells slots) (hx : p.tables.exec = Jvm.exec) (hZ : Z.Warmed39 s.vm) {own O n d : String} {index : Nat} (hown : s.vm.findClass own = some m.cls) (w : (Cond.fieldRef own index O n d).before a0 Z = true) (eT : T.heap = h) {a : Addr} {v : Value} (F : Fld Z h a O n d v)
    {g : JFrame} (hg : g.method = m) {rest : List Value} (hs : g.stack = .ref a :: rest) (hd : decode c.code g.pc = .ok (.getfield index, 3)) : ∀ target, Steps p.tables e below (T.setTop { g with pc := g.pc + 3, stack := v :: rest }) target → Steps p.tables e below (T.setTop g) target := by
  obtain ⟨cell, cf, k, i, f, h1, h2, h3, h4, -, -, h7⟩ := F
  have hT : Z.Warmed39 T.vm := wtrans hZ X.warmed
  have w1 : (Cond.fieldRef own index O n d).before a0 (Z.setVm T.vm) = true := Cond.fieldRef_warmed39 hT w
  have hownT : (Z.setVm T.vm).vm.findClass own = some m.cls := by show T.vm.findClass own = _; rw [X.warmed.alike.findClass]; exact hown
  obtain ⟨c', k', i', f', hi, hready⟩ := Cond.fieldRef_spec (s := Z.setVm T.vm) hownT w1
  obtain ⟨k'', hi', -⟩ := State.fieldFound?_setVm (s := Z) hT.alike h2
  cases hi.symm.trans hi'
  exact fun target ht => (X.getfieldR hx hg hready h3 hs (by rw [eT]; exact h1) h4 h7 hd (Steps.refl _)).trans ht
theorem own_eqRef {args : Array Value} {first s : State} {o : Option Outcome} {idx : List Nat} {a b : Term} {y : Addr} (h : (Jvm.Cond.eq a b).value args first o s idx = some true) (hb : b.eval args first o idx s = some (.ref y)) : a.eval args first o idx s = some (.ref y) := by
  simp only [Cond.value, hb] at h
  cases ha : a.eval args first o idx s with
  | none => simp [ha] at h
  | some x => cases x <;> simp [ha] at h ⊢ <;> exact h
theorem own_fldR {args : Array Value} {s : State} {t u : Term} {C f d : String} {x y : Addr} (h : (Jvm.Cond.eq (.field t C f d) u).value args s none s [] = some true) (ht : t.eval args s none [] s = some (.ref x)) (hu : u.eval args s none [] s = some (.ref y)) : Fld s s.heap x C f d (.ref y) :=
  Fld.start (by rw [← fld_at (C := C) (n := f) (dd := d) ht]; exact own_eqRef h hu)
theorem own_len {args : Array Value} {s : State} {t : Term} {a : Addr} {cl : Cell} {z : Int32} (h : (Term.length t).eval args s none [] s = some (.int z)) (ht : t.eval args s none [] s = some (.ref a)) (ha : s.arrayAt? a = some cl) : cl.slots.size < 2 ^ 31 ∧ cl.slots.size.toInt32 = z := by
  simp only [Term.eval, ht, ha, Option.bind_eq_bind, Option.bind_some] at h
  split at h
  · rename_i q; exact ⟨q, by simpa using h⟩
  · cases h
theorem own_fldL {args : Array Value} {s : State} {idx : List Nat} {t u : Term} {C f d : String} {n : Int64} {x : Addr} (h : (Jvm.Cond.eq (.field t C f d) u).value args s none s idx = some true) (ht : t.eval args s none idx s = some (.ref x)) (hu : u.eval args s none idx s = some (.long n)) : Fld s s.heap x C f d (.long n) :=
  Fld.start (by
    rw [← fld_at (C := C) (n := f) (dd := d) ht]
    simp only [Cond.value, hu] at h
    cases ha : (Term.field t C f d).eval args s none idx s with
    | none => simp [ha] at h
    | some x => cases x <;> simp [ha] at h ⊢ <;> exact h)
theorem own_fldI2 {args : Array Value} {s : State} {idx : List Nat} {t u : Term} {C f d : String} {n : Int32} {x : Addr} (h : (Jvm.Cond.eq (.field t C f d) u).value args s none s idx = some true) (ht : t.eval args s none idx s = some (.ref x)) (hu : u.eval args s none idx s = some (.int n)) : Fld s s.heap x C f d (.int n) :=
  Fld.start (by
    rw [← fld_at (C := C) (n := f) (dd := d) ht]
    simp only [Cond.value, hu] at h
    cases ha : (Term.field t C f d).eval args s none idx s with
    | none => simp [ha] at h
    | some x => cases x <;> simp [ha] at h ⊢ <;> exact h)
theorem own_selp {s : State} {args : Array Value} {y z : MethodName} (hsel : (Cond.selects z.cls z z).before args s = true) (hcls : z.cls = y.cls) (hpriv : s.PrivateAt y) (hinst : (Cond.instanceMethod y).before args s = true) (hy : y.cls ≠ "java/lang/invoke/MethodHandle" ∧ y.cls ≠ "java/lang/invoke/VarHandle") : (Cond.selects y.cls y y).before args s = true := by
  obtain ⟨c2, r2, m2, q1, q2, q3, q4, kP, hkP, hkPi⟩ := Cond.selects_spec hsel
  exact selects_self_of_private (hcls ▸ findClass_of_methodNamed q3) hkP hkPi hpriv hinst hy
theorem own_nat {z : Int32} (h : 0 ≤ z.toInt) : z.toInt = z.toNatClampNeg := (Int.toNat_of_nonneg h).symm
theorem own_inb {z n : Int32} (N : Int) (hn : n.toInt = N) (h1 : 0 ≤ z.toInt) (h2 : z.toInt < N) : ¬ z < 0 ∧ z < n := by
  rw [Int32.lt_iff_toInt_lt, Int32.lt_iff_toInt_lt, hn]
  exact ⟨by have q : (0 : Int32).toInt = 0 := (by decide); omega, h2⟩
theorem own_inj {Z : State} {h : Heap} {C f d : String} {w : Nat → Addr} {n : Nat} (ho : ∀ k, k < n → Fld Z h (w k) C f d (.int k.toInt32)) (hn : n < 2 ^ 31) : ∀ i j, i < n → j < n → w i = w j → i = j := fun i j hi hj q => Classical.byContradiction fun ne => Fld.ne (ho i hi) (ho j hj) (fun z => ne (by
    have z1 : i.toInt32.toInt = j.toInt32.toInt := by rw [Value.int.inj z]
    rw [len_toInt (by omega), len_toInt (by omega)] at z1
    omega)) q
theorem own_mask (k : Int32) : 0 ≤ (k &&& 2147483647).toInt ∧ (k &&& 2147483647).toInt < 2147483648 := by
  have h1 : (k &&& 2147483647).toInt = ((k &&& 2147483647).toBitVec).toInt := rfl
  have h2 : (k &&& 2147483647).toBitVec = k.toBitVec &&& 2147483647#32 := rfl
  rw [h1, h2]
  have h3 : (k.toBitVec &&& 2147483647#32).msb = false := by rw [BitVec.msb_and, show (2147483647#32).msb = false from by decide, Bool.and_false]
  rw [BitVec.toInt_eq_toNat_of_msb h3]
  have h4 := BitVec.isLt (k.toBitVec &&& 2147483647#32)
  rw [BitVec.msb_eq_decide] at h3
  simp at h3 ⊢
  omega
theorem own_rem (k n : Int32) (N : Int) (hn : n.toInt = N) (hN : 0 < N) : 0 ≤ ((k &&& 2147483647) % n).toInt ∧ ((k &&& 2147483647) % n).toInt < N := by
  have h := own_mask k
  rw [Int32.toInt_mod, hn]
  generalize (k &&& 2147483647).toInt = z at h
  rw [Int.tmod_eq_emod_of_nonneg h.1]
  exact ⟨Int.emod_nonneg _ (by omega), Int.emod_lt_of_pos _ hN⟩
theorem own_i32_ne {x y : Int32} (h : ¬ x = y) : x.toInt ≠ y.toInt := fun q => h (Int32.toInt_inj.mp q)
theorem own_lt {x y : Int32} (h : x < y) : x.toInt < y.toInt := Int32.lt_iff_toInt_lt.mp h
theorem own_nlt {x y : Int32} (h : ¬ x < y) : y.toInt ≤ x.toInt := by rw [Int32.lt_iff_toInt_lt] at h; omega

theorem own_size {n : Nat} {z : Int32} {k : Nat} (h1 : n < 2 ^ 31) (h2 : n.toInt32 = z) (h3 : z.toInt = k) : n = k := by
  have q := len_toInt h1
  rw [h2, h3] at q
  omega

theorem d1_0 : decode jdk_37_method_2_code 0 = .ok (.aload_n 0, 1) := by decide +kernel
theorem d1_1 : decode jdk_37_method_2_code 1 = .ok (.getfield 7, 3) := by decide +kernel
theorem d1_4 : decode jdk_37_method_2_code 4 = .ok (.ireturn, 1) := by decide +kernel
theorem pn1 : plainName "java/lang/Enum" = true := by first | (simp [plainName, overriddenIn]; done) | decide +kernel
theorem ef1 (m : MethodId) (x0 : Addr) : entryFrame m #[(.ref x0)] 1 = mkF m 0 #[.val (.ref x0)] [] := by first | (simp [entryFrame, mkF, argsToLocals, Value.category]; done) | rfl
def Q1 (Z : State) (a : Addr) (o : Int32) (h0 : Heap) (n0 : Nat) (v : Option Value) (h : Heap) (L : List Loc) : Prop := v = some (.int o) ∧ Fr n0 L ∧ h = h0
set_option maxRecDepth 65536 in
set_option maxHeartbeats 40000000 in
theorem rm1 (l : Launch) (Z : State) (a0 : Array Value) (hw : ∀ d ∈ tables_1, d.before a0 Z = true) (ws : List Jvm.Cond) (a : Addr) (o : Int32) (h0 : Heap) (n0 : Nat) (Z0 : n0 ≤ h0.size) (F : Fld Z h0 a "java/lang/Enum" "ordinal" "I" (.int o)) :
    MetFree l (⟨"java/lang/Enum", "ordinal", "()I"⟩ : MethodName) (head1 (Jvm.Cond.code (⟨"java/lang/Enum", "ordinal", "()I"⟩ : MethodName) jdk_37_method_2_code 1 (some .int) :: ws) ({ frames := 0, cells := 0, slots := 0, locals := 0 } : Room)) (fun aq Uq => aq = #[(.ref a)] ∧ Z.Warmed39 Uq.vm ∧ Uq.heap = h0) (fun _ _ _ _ _ => True) (fun _ Uq oq Uq' => ∃ vq Lq, oq = .returned vq ∧ Q1 Z a o h0 n0 vq Uq'.heap Lq ∧ FrameEnd Uq oq Uq' Lq ({ frames := 0, cells := 0, slots := 0, locals := 0 } : Room).cells ({ frames := 0, cells := 0, slots := 0, locals := 0 } : Room).slots) := by
  refine MetFree.of_bodySF (plainFor_of_name pn1) hisR ?_
  intro p e s m args below meth c s₁ Bd hml0 hP hK
  obtain ⟨rfl, hZ, hh⟩ := hP
  have hx := Bd.exec
  have hby := Bd.bytes
  have hml : c.maxLocals = 1 := hml0
  have hown : s.vm.findClass "java/lang/Enum" = some m.cls := findClass_of_methodNamed Bd.named
  have hnm := (name_of_methodNamed Bd.named Bd.method).1
  have X0 : Stand p l e ({ frames := 0, cells := 0, slots := 0, locals := 0 } : Room) s m #[(.ref a)] below meth c s₁ [] 0 0 := Stand.of_body Bd
  have e0 : s₁.heap = h0 := by rw [← hh, Bd.state]; rfl
  have N0 := Fr.nil n0
  obtain ⟨A, hA⟩ : ∃ A, A = s₁.setTop (entryFrame m #[(.ref a)] 1) := ⟨_, rfl⟩
  rw [← hA]
  have g0 : Gz p.tables e below A s₁ (mkF m 0 #[.val (.ref a)] []) := fun tq kq => by rw [hA]; exact castTop (ef1 m a) kq
  have g1 : Gz p.tables e below A s₁ (mkF m 1 #[.val (.ref a)] [(.ref a)]) := fun tq kq => g0 tq (XS.aloadN X0.here hx rfl (hb hby d1_0) rfl rfl kq)
  obtain ⟨T2, X2, e2, st2⟩ := getF X0 hx hZ hown (host := "") (Or.inl (hw _ (List.mem_of_getElem? (i := 17) rfl))) Via.refl e0 F (g := (mkF m 1 #[.val (.ref a)] [(.ref a)])) rfl rfl (hb hby d1_1)
  have g3 : Gz p.tables e below A T2 (mkF m 4 #[.val (.ref a)] [(.int o)]) := fun tq kq => g1 tq (st2 tq kq)
  obtain ⟨fs, hr, hrun, hended, hW, hsame⟩ := X2.leave (v := some (.int o)) (fun h => by rw [Bd.returns] at h; cases h)
  refine ⟨_, _, g3 _ (retOut X2 hx Bd.returns rfl (Or.inl ⟨rfl, Or.inl rfl, _, rfl⟩) (hb hby d1_4) hr), hrun, hended, _, _, rfl, ?_, ⟨_, rfl⟩, hW, hsame.mono (by decide) (by decide)⟩
  show Q1 Z a o h0 n0 _ T2.heap _
  rw [e2]
  exact ⟨rfl, N0, rfl⟩

theorem d2_0 : decode jdk_32_method_1_code 0 = .ok (.getstatic 1, 3) := by decide +kernel
theorem d2_3 : decode jdk_32_method_1_code 3 = .ok (.astore_n 0, 1) := by decide +kernel
theorem d2_4 : decode jdk_32_method_1_code 4 = .ok (.aload_n 0, 1) := by decide +kernel
theorem d2_5 : decode jdk_32_method_1_code 5 = .ok (.areturn, 1) := by decide +kernel
theorem pn2 : plainName "java/util/Optional" = true := by first | (simp [plainName, overriddenIn]; done) | decide +kernel
theorem ef2 (m : MethodId)  : entryFrame m #[] 1 = mkF m 0 #[.unset] [] := by first | (simp [entryFrame, mkF, argsToLocals, Value.category]; done) | rfl
def Q2 (Z : State) (em : Addr) (h0 : Heap) (n0 : Nat) (v : Option Value) (h : Heap) (L : List Loc) : Prop := v = some (.ref em) ∧ Fr n0 L ∧ h = h0
set_option maxRecDepth 65536 in
set_option maxHeartbeats 40000000 in
theorem rm2 (l : Launch) (Z : State) (a0 : Array Value) (hw : ∀ d ∈ tables_1, d.before a0 Z = true) (ws : List Jvm.Cond) (em : Addr) (h0 : Heap) (n0 : Nat) (Z0 : n0 ≤ h0.size) (S_E : Sta Z h0 "java/util/Optional" "EMPTY" "Ljava/util/Optional;" (.ref em)) :
    MetFree l (⟨"java/util/Optional", "empty", "()Ljava/util/Optional;"⟩ : MethodName) (head1 (Jvm.Cond.code (⟨"java/util/Optional", "empty", "()Ljava/util/Optional;"⟩ : MethodName) jdk_32_method_1_code 1 (some (.object "java/util/Optional")) :: ws) ({ frames := 0, cells := 0, slots := 0, locals := 0 } : Room)) (fun aq Uq => aq = #[] ∧ Z.Warmed39 Uq.vm ∧ Uq.heap = h0) (fun _ _ _ _ _ => True) (fun _ Uq oq Uq' => ∃ vq Lq, oq = .returned vq ∧ Q2 Z em h0 n0 vq Uq'.heap Lq ∧ FrameEnd Uq oq Uq' Lq ({ frames := 0, cells := 0, slots := 0, locals := 0 } : Room).cells ({ frames := 0, cells := 0, slots := 0, locals := 0 } : Room).slots) := by
  refine MetFree.of_bodySF (plainFor_of_name pn2) hisR ?_
  intro p e s m args below meth c s₁ Bd hml0 hP hK
  obtain ⟨rfl, hZ, hh⟩ := hP
  have hx := Bd.exec
  have hby := Bd.bytes
  have hml : c.maxLocals = 1 := hml0
  have hown : s.vm.findClass "java/util/Optional" = some m.cls := findClass_of_methodNamed Bd.named
  have hnm := (name_of_methodNamed Bd.named Bd.method).1
  have X0 : Stand p l e ({ frames := 0, cells := 0, slots := 0, locals := 0 } : Room) s m #[] below meth c s₁ [] 0 0 := Stand.of_body Bd
  have e0 : s₁.heap = h0 := by rw [← hh, Bd.state]; rfl
  have N0 := Fr.nil n0
  obtain ⟨A, hA⟩ : ∃ A, A = s₁.setTop (entryFrame m #[] 1) := ⟨_, rfl⟩
  rw [← hA]
  have g0 : Gz p.tables e below A s₁ (mkF m 0 #[.unset] []) := fun tq kq => by rw [hA]; exact castTop (ef2 m) kq
  obtain ⟨T1, X1, e1, st1⟩ := getS2 X0 hx hZ hown (host := "") (Or.inl (hw _ (List.mem_of_getElem? (i := 23) rfl))) Via.refl e0 S_E (g := (mkF m 0 #[.unset] [])) rfl (hb hby d2_0)
  have g2 : Gz p.tables e below A T1 (mkF m 3 #[.unset] [(.ref em)]) := fun tq kq => g0 tq (st1 tq kq)
  have g3 : Gz p.tables e below A T1 (mkF m 4 #[.val (.ref em)] []) := fun tq kq => g2 tq (XS.astoreN X1.here hx rfl (hb hby d2_3) rfl rfl (l' := #[.val (.ref em)]) rfl kq)
  have g4 : Gz p.tables e below A T1 (mkF m 5 #[.val (.ref em)] [(.ref em)]) := fun tq kq => g3 tq (XS.aloadN X1.here hx rfl (hb hby d2_4) rfl rfl kq)
  obtain ⟨fs, hr, hrun, hended, hW, hsame⟩ := X1.leave (v := some (.ref em)) (fun h => by rw [Bd.returns] at h; cases h)
  refine ⟨_, _, g4 _ (retOut X1 hx Bd.returns rfl (Or.inr (Or.inr (Or.inr (Or.inr ⟨rfl, rfl, rfl⟩)))) (hb hby d2_5) hr), hrun, hended, _, _, rfl, ?_, ⟨_, rfl⟩, hW, hsame.mono (by decide) (by decide)⟩
  show Q2 Z em h0 n0 _ T1.heap _
  rw [e1]
  exact ⟨rfl, N0, rfl⟩

theorem d3_0 : decode jdk_32_method_6_code 0 = .ok (.aload_n 0, 1) := by decide +kernel
theorem d3_1 : decode jdk_32_method_6_code 1 = .ok (.getfield 13, 3) := by decide +kernel
theorem d3_4 : decode jdk_32_method_6_code 4 = .ok (.ifnull 7, 3) := by decide +kernel
theorem d3_11 : decode jdk_32_method_6_code 11 = .ok (.iconst 0, 1) := by decide +kernel
theorem d3_12 : decode jdk_32_method_6_code 12 = .ok (.ireturn, 1) := by decide +kernel
theorem pn3 : plainName "java/util/Optional" = true := by first | (simp [plainName, overriddenIn]; done) | decide +kernel
theorem ef3 (m : MethodId) (x0 : Addr) : entryFrame m #[(.ref x0)] 1 = mkF m 0 #[.val (.ref x0)] [] := by first | (simp [entryFrame, mkF, argsToLocals, Value.category]; done) | rfl
def Q3 (Z : State) (a : Addr) (h0 : Heap) (n0 : Nat) (v : Option Value) (h : Heap) (L : List Loc) : Prop := v = some (.int 0) ∧ Fr n0 L ∧ h = h0
set_option maxRecDepth 65536 in
set_option maxHeartbeats 40000000 in
theorem rm3 (l : Launch) (Z : State) (a0 : Array Value) (hw : ∀ d ∈ tables_1, d.before a0 Z = true) (ws : List Jvm.Cond) (a : Addr) (h0 : Heap) (n0 : Nat) (Z0 : n0 ≤ h0.size) (F : Fld Z h0 a "java/util/Optional" "value" "Ljava/lang/Object;" .null) :
    MetFree l (⟨"java/util/Optional", "isPresent", "()Z"⟩ : MethodName) (head1 (Jvm.Cond.code (⟨"java/util/Optional", "isPresent", "()Z"⟩ : MethodName) jdk_32_method_6_code 1 (some .boolean) :: ws) ({ frames := 0, cells := 0, slots := 0, locals := 0 } : Room)) (fun aq Uq => aq = #[(.ref a)] ∧ Z.Warmed39 Uq.vm ∧ Uq.heap = h0) (fun _ _ _ _ _ => True) (fun _ Uq oq Uq' => ∃ vq Lq, oq = .returned vq ∧ Q3 Z a h0 n0 vq Uq'.heap Lq ∧ FrameEnd Uq oq Uq' Lq ({ frames := 0, cells := 0, slots := 0, locals := 0 } : Room).cells ({ frames := 0, cells := 0, slots := 0, locals := 0 } : Room).slots) := by
  refine MetFree.of_bodySF (plainFor_of_name pn3) hisR ?_
  intro p e s m args below meth c s₁ Bd hml0 hP hK
  obtain ⟨rfl, hZ, hh⟩ := hP
  have hx := Bd.exec
  have hby := Bd.bytes
  have hml : c.maxLocals = 1 := hml0
  have hown : s.vm.findClass "java/util/Optional" = some m.cls := findClass_of_methodNamed Bd.named
  have hnm := (name_of_methodNamed Bd.named Bd.method).1
  have X0 : Stand p l e ({ frames := 0, cells := 0, slots := 0, locals := 0 } : Room) s m #[(.ref a)] below meth c s₁ [] 0 0 := Stand.of_body Bd
  have e0 : s₁.heap = h0 := by rw [← hh, Bd.state]; rfl
  have N0 := Fr.nil n0
  obtain ⟨A, hA⟩ : ∃ A, A = s₁.setTop (entryFrame m #[(.ref a)] 1) := ⟨_, rfl⟩
  rw [← hA]
  have g0 : Gz p.tables e below A s₁ (mkF m 0 #[.val (.ref a)] []) := fun tq kq => by rw [hA]; exact castTop (ef3 m a) kq
  have g1 : Gz p.tables e below A s₁ (mkF m 1 #[.val (.ref a)] [(.ref a)]) := fun tq kq => g0 tq (XS.aloadN X0.here hx rfl (hb hby d3_0) rfl rfl kq)
  obtain ⟨T2, X2, e2, st2⟩ := getF X0 hx hZ hown (host := "") (Or.inl (hw _ (List.mem_of_getElem? (i := 29) rfl))) Via.refl e0 F (g := (mkF m 1 #[.val (.ref a)] [(.ref a)])) rfl rfl (hb hby d3_1)
  have g3 : Gz p.tables e below A T2 (mkF m 4 #[.val (.ref a)] [.null]) := fun tq kq => g1 tq (st2 tq kq)
  have g4 : Gz p.tables e below A T2 (mkF m 11 #[.val (.ref a)] []) := fun tq kq => g3 tq (XS.ifnullYes X2.here hx rfl (pc0 := 4) (pc' := 11) rfl (hb hby d3_4) rfl (by decide) (by decide) kq)
  have g5 : Gz p.tables e below A T2 (mkF m 12 #[.val (.ref a)] [(.int (0 : Int32))]) := fun tq kq => g4 tq (XS.iconst X2.here hx rfl (hb hby d3_11) kq)
  obtain ⟨fs, hr, hrun, hended, hW, hsame⟩ := X2.leave (v := some (.int (0 : Int32))) (fun h => by rw [Bd.returns] at h; cases h)
  refine ⟨_, _, g5 _ (retN X2 hx (t := .boolean) Bd.returns (by simp) (hb hby d3_12) hr), hrun, hended, _, _, rfl, ?_, ⟨_, rfl⟩, hW, hsame.mono (by decide) (by decide)⟩
  show Q3 Z a h0 n0 _ T2.heap _
  rw [e2]
  exact ⟨rfl, N0, rfl⟩

theorem d4_0 : decode jdk_32_method_6_code 0 = .ok (.aload_n 0, 1) := by decide +kernel
theorem d4_1 : decode jdk_32_method_6_code 1 = .ok (.getfield 13, 3) := by decide +kernel
theorem d4_4 : decode jdk_32_method_6_code 4 = .ok (.ifnull 7, 3) := by decide +kernel
theorem d4_7 : decode jdk_32_method_6_code 7 = .ok (.iconst 1, 1) := by decide +kernel
theorem d4_8 : decode jdk_32_method_6_code 8 = .ok (.goto 4, 3) := by decide +kernel
theorem d4_12 : decode jdk_32_method_6_code 12 = .ok (.ireturn, 1) := by decide +kernel
theorem pn4 : plainName "java/util/Optional" = true := by first | (simp [plainName, overriddenIn]; done) | decide +kernel
theorem ef4 (m : MethodId) (x0 : Addr) : entryFrame m #[(.ref x0)] 1 = mkF m 0 #[.val (.ref x0)] [] := by first | (simp [entryFrame, mkF, argsToLocals, Value.category]; done) | rfl
def Q4 (Z : State) (a : Addr) (b : Addr) (h0 : Heap) (n0 : Nat) (v : Option Value) (h : Heap) (L : List Loc) : Prop := v = some (.int 1) ∧ Fr n0 L ∧ h = h0
set_option maxRecDepth 65536 in
set_option maxHeartbeats 40000000 in
theorem rm4 (l : Launch) (Z : State) (a0 : Array Value) (hw : ∀ d ∈ tables_1, d.before a0 Z = true) (ws : List Jvm.Cond) (a : Addr) (b : Addr) (h0 : Heap) (n0 : Nat) (Z0 : n0 ≤ h0.size) (F : Fld Z h0 a "java/util/Optional" "value" "Ljava/lang/Object;" (.ref b)) :
    MetFree l (⟨"java/util/Optional", "isPresent", "()Z"⟩ : MethodName) (head1 (Jvm.Cond.code (⟨"java/util/Optional", "isPresent", "()Z"⟩ : MethodName) jdk_32_method_6_code 1 (some .boolean) :: ws) ({ frames := 0, cells := 0, slots := 0, locals := 0 } : Room)) (fun aq Uq => aq = #[(.ref a)] ∧ Z.Warmed39 Uq.vm ∧ Uq.heap = h0) (fun _ _ _ _ _ => True) (fun _ Uq oq Uq' => ∃ vq Lq, oq = .returned vq ∧ Q4 Z a b h0 n0 vq Uq'.heap Lq ∧ FrameEnd Uq oq Uq' Lq ({ frames := 0, cells := 0, slots := 0, locals := 0 } : Room).cells ({ frames := 0, cells := 0, slots := 0, locals := 0 } : Room).slots) := by
  refine MetFree.of_bodySF (plainFor_of_name pn4) hisR ?_
  intro p e s m args below meth c s₁ Bd hml0 hP hK
  obtain ⟨rfl, hZ, hh⟩ := hP
  have hx := Bd.exec
  have hby := Bd.bytes
  have hml : c.maxLocals = 1 := hml0
  have hown : s.vm.findClass "java/util/Optional" = some m.cls := findClass_of_methodNamed Bd.named
  have hnm := (name_of_methodNamed Bd.named Bd.method).1
  have X0 : Stand p l e ({ frames := 0, cells := 0, slots := 0, locals := 0 } : Room) s m #[(.ref a)] below meth c s₁ [] 0 0 := Stand.of_body Bd
  have e0 : s₁.heap = h0 := by rw [← hh, Bd.state]; rfl
  have N0 := Fr.nil n0
  obtain ⟨A, hA⟩ : ∃ A, A = s₁.setTop (entryFrame m #[(.ref a)] 1) := ⟨_, rfl⟩
  rw [← hA]
  have g0 : Gz p.tables e below A s₁ (mkF m 0 #[.val (.ref a)] []) := fun tq kq => by rw [hA]; exact castTop (ef4 m a) kq
  have g1 : Gz p.tables e below A s₁ (mkF m 1 #[.val (.ref a)] [(.ref a)]) := fun tq kq => g0 tq (XS.aloadN X0.here hx rfl (hb hby d4_0) rfl rfl kq)
  obtain ⟨T2, X2, e2, st2⟩ := getF X0 hx hZ hown (host := "") (Or.inl (hw _ (List.mem_of_getElem? (i := 29) rfl))) Via.refl e0 F (g := (mkF m 1 #[.val (.ref a)] [(.ref a)])) rfl rfl (hb hby d4_1)
  have g3 : Gz p.tables e below A T2 (mkF m 4 #[.val (.ref a)] [(.ref b)]) := fun tq kq => g1 tq (st2 tq kq)
  have g4 : Gz p.tables e below A T2 (mkF m 7 #[.val (.ref a)] []) := fun tq kq => g3 tq (XS.ifnullNo X2.here hx rfl (hb hby d4_4) rfl kq)
  have g5 : Gz p.tables e below A T2 (mkF m 8 #[.val (.ref a)] [(.int (1 : Int32))]) := fun tq kq => g4 tq (XS.iconst X2.here hx rfl (hb hby d4_7) kq)
  have g6 : Gz p.tables e below A T2 (mkF m 12 #[.val (.ref a)] [(.int (1 : Int32))]) := fun tq kq => g5 tq (XS.goto X2.here hx rfl (pc0 := 8) (pc' := 12) rfl (hb hby d4_8) (by decide) (by decide) kq)
  obtain ⟨fs, hr, hrun, hended, hW, hsame⟩ := X2.leave (v := some (.int (1 : Int32))) (fun h => by rw [Bd.returns] at h; cases h)
  refine ⟨_, _, g6 _ (retN X2 hx (t := .boolean) Bd.returns (by simp) (hb hby d4_12) hr), hrun, hended, _, _, rfl, ?_, ⟨_, rfl⟩, hW, hsame.mono (by decide) (by decide)⟩
  show Q4 Z a b h0 n0 _ T2.heap _
  rw [e2]
  exact ⟨rfl, N0, rfl⟩

theorem d5_0 : decode jdk_32_method_5_code 0 = .ok (.aload_n 0, 1) := by decide +kernel
theorem d5_1 : decode jdk_32_method_5_code 1 = .ok (.getfield 13, 3) := by decide +kernel
theorem d5_4 : decode jdk_32_method_5_code 4 = .ok (.ifnonnull 13, 3) := by decide +kernel
theorem d5_17 : decode jdk_32_method_5_code 17 = .ok (.aload_n 0, 1) := by decide +kernel
theorem d5_18 : decode jdk_32_method_5_code 18 = .ok (.getfield 13, 3) := by decide +kernel
theorem d5_21 : decode jdk_32_method_5_code 21 = .ok (.areturn, 1) := by decide +kernel
theorem pn5 : plainName "java/util/Optional" = true := by first | (simp [plainName, overriddenIn]; done) | decide +kernel
theorem ef5 (m : MethodId) (x0 : Addr) : entryFrame m #[(.ref x0)] 1 = mkF m 0 #[.val (.ref x0)] [] := by first | (simp [entryFrame, mkF, argsToLocals, Value.category]; done) | rfl
def Q5 (Z : State) (a : Addr) (b : Addr) (h0 : Heap) (n0 : Nat) (v : Option Value) (h : Heap) (L : List Loc) : Prop := v = some (.ref b) ∧ Fr n0 L ∧ h = h0
set_option maxRecDepth 65536 in
set_option maxHeartbeats 40000000 in
theorem rm5 (l : Launch) (Z : State) (a0 : Array Value) (hw : ∀ d ∈ tables_1, d.before a0 Z = true) (ws : List Jvm.Cond) (a : Addr) (b : Addr) (h0 : Heap) (n0 : Nat) (Z0 : n0 ≤ h0.size) (F : Fld Z h0 a "java/util/Optional" "value" "Ljava/lang/Object;" (.ref b)) :
    MetFree l (⟨"java/util/Optional", "get", "()Ljava/lang/Object;"⟩ : MethodName) (head1 (Jvm.Cond.code (⟨"java/util/Optional", "get", "()Ljava/lang/Object;"⟩ : MethodName) jdk_32_method_5_code 1 (some (.object "java/lang/Object")) :: ws) ({ frames := 0, cells := 0, slots := 0, locals := 0 } : Room)) (fun aq Uq => aq = #[(.ref a)] ∧ Z.Warmed39 Uq.vm ∧ Uq.heap = h0) (fun _ _ _ _ _ => True) (fun _ Uq oq Uq' => ∃ vq Lq, oq = .returned vq ∧ Q5 Z a b h0 n0 vq Uq'.heap Lq ∧ FrameEnd Uq oq Uq' Lq ({ frames := 0, cells := 0, slots := 0, locals := 0 } : Room).cells ({ frames := 0, cells := 0, slots := 0, locals := 0 } : Room).slots) := by
  refine MetFree.of_bodySF (plainFor_of_name pn5) hisR ?_
  intro p e s m args below meth c s₁ Bd hml0 hP hK
  obtain ⟨rfl, hZ, hh⟩ := hP
  have hx := Bd.exec
  have hby := Bd.bytes
  have hml : c.maxLocals = 1 := hml0
  have hown : s.vm.findClass "java/util/Optional" = some m.cls := findClass_of_methodNamed Bd.named
  have hnm := (name_of_methodNamed Bd.named Bd.method).1
  have X0 : Stand p l e ({ frames := 0, cells := 0, slots := 0, locals := 0 } : Room) s m #[(.ref a)] below meth c s₁ [] 0 0 := Stand.of_body Bd
  have e0 : s₁.heap = h0 := by rw [← hh, Bd.state]; rfl
  have N0 := Fr.nil n0
  obtain ⟨A, hA⟩ : ∃ A, A = s₁.setTop (entryFrame m #[(.ref a)] 1) := ⟨_, rfl⟩
  rw [← hA]
  have g0 : Gz p.tables e below A s₁ (mkF m 0 #[.val (.ref a)] []) := fun tq kq => by rw [hA]; exact castTop (ef5 m a) kq
  have g1 : Gz p.tables e below A s₁ (mkF m 1 #[.val (.ref a)] [(.ref a)]) := fun tq kq => g0 tq (XS.aloadN X0.here hx rfl (hb hby d5_0) rfl rfl kq)
  obtain ⟨T2, X2, e2, st2⟩ := getF X0 hx hZ hown (host := "") (Or.inl (hw _ (List.mem_of_getElem? (i := 29) rfl))) Via.refl e0 F (g := (mkF m 1 #[.val (.ref a)] [(.ref a)])) rfl rfl (hb hby d5_1)
  have g3 : Gz p.tables e below A T2 (mkF m 4 #[.val (.ref a)] [(.ref b)]) := fun tq kq => g1 tq (st2 tq kq)
  have g4 : Gz p.tables e below A T2 (mkF m 17 #[.val (.ref a)] []) := fun tq kq => g3 tq (XS.ifnonnullYes X2.here hx rfl (pc0 := 4) (pc' := 17) rfl (hb hby d5_4) rfl (by decide) (by decide) kq)
  have g5 : Gz p.tables e below A T2 (mkF m 18 #[.val (.ref a)] [(.ref a)]) := fun tq kq => g4 tq (XS.aloadN X2.here hx rfl (hb hby d5_17) rfl rfl kq)
  obtain ⟨T6, X6, e6, st6⟩ := getF X2 hx hZ hown (host := "") (Or.inl (hw _ (List.mem_of_getElem? (i := 29) rfl))) Via.refl e2 F (g := (mkF m 18 #[.val (.ref a)] [(.ref a)])) rfl rfl (hb hby d5_18)
  have g7 : Gz p.tables e below A T6 (mkF m 21 #[.val (.ref a)] [(.ref b)]) := fun tq kq => g5 tq (st6 tq kq)
  obtain ⟨fs, hr, hrun, hended, hW, hsame⟩ := X6.leave (v := some (.ref b)) (fun h => by rw [Bd.returns] at h; cases h)
  refine ⟨_, _, g7 _ (retOut X6 hx Bd.returns rfl (Or.inr (Or.inr (Or.inr (Or.inr ⟨rfl, rfl, rfl⟩)))) (hb hby d5_21) hr), hrun, hended, _, _, rfl, ?_, ⟨_, rfl⟩, hW, hsame.mono (by decide) (by decide)⟩
  show Q5 Z a b h0 n0 _ T6.heap _
  rw [e6]
  exact ⟨rfl, N0, rfl⟩

theorem d6_0 : decode jdk_35_method_31_code 0 = .ok (.aload_n 0, 1) := by decide +kernel
theorem d6_1 : decode jdk_35_method_31_code 1 = .ok (.getfield 273, 3) := by decide +kernel
theorem d6_4 : decode jdk_35_method_31_code 4 = .ok (.lreturn, 1) := by decide +kernel
theorem pn6 : plainName "java/lang/Long" = true := by first | (simp [plainName, overriddenIn]; done) | decide +kernel
theorem ef6 (m : MethodId) (x0 : Addr) : entryFrame m #[(.ref x0)] 1 = mkF m 0 #[.val (.ref x0)] [] := by first | (simp [entryFrame, mkF, argsToLocals, Value.category]; done) | rfl
def Q6 (Z : State) (a : Addr) (q : Int64) (h0 : Heap) (n0 : Nat) (v : Option Value) (h : Heap) (L : List Loc) : Prop := v = some (.long q) ∧ Fr n0 L ∧ h = h0
set_option maxRecDepth 65536 in
set_option maxHeartbeats 40000000 in
theorem rm6 (l : Launch) (Z : State) (a0 : Array Value) (hw : ∀ d ∈ tables_1, d.before a0 Z = true) (ws : List Jvm.Cond) (a : Addr) (q : Int64) (h0 : Heap) (n0 : Nat) (Z0 : n0 ≤ h0.size) (F : Fld Z h0 a "java/lang/Long" "value" "J" (.long q)) :
    MetFree l (⟨"java/lang/Long", "longValue", "()J"⟩ : MethodName) (head1 (Jvm.Cond.code (⟨"java/lang/Long", "longValue", "()J"⟩ : MethodName) jdk_35_method_31_code 1 (some .long) :: ws) ({ frames := 0, cells := 0, slots := 0, locals := 0 } : Room)) (fun aq Uq => aq = #[(.ref a)] ∧ Z.Warmed39 Uq.vm ∧ Uq.heap = h0) (fun _ _ _ _ _ => True) (fun _ Uq oq Uq' => ∃ vq Lq, oq = .returned vq ∧ Q6 Z a q h0 n0 vq Uq'.heap Lq ∧ FrameEnd Uq oq Uq' Lq ({ frames := 0, cells := 0, slots := 0, locals := 0 } : Room).cells ({ frames := 0, cells := 0, slots := 0, locals := 0 } : Room).slots) := by
  refine MetFree.of_bodySF (plainFor_of_name pn6) hisR ?_
  intro p e s m args below meth c s₁ Bd hml0 hP hK
  obtain ⟨rfl, hZ, hh⟩ := hP
  have hx := Bd.exec
  have hby := Bd.bytes
  have hml : c.maxLocals = 1 := hml0
  have hown : s.vm.findClass "java/lang/Long" = some m.cls := findClass_of_methodNamed Bd.named
  have hnm := (name_of_methodNamed Bd.named Bd.method).1
  have X0 : Stand p l e ({ frames := 0, cells := 0, slots := 0, locals := 0 } : Room) s m #[(.ref a)] below meth c s₁ [] 0 0 := Stand.of_body Bd
  have e0 : s₁.heap = h0 := by rw [← hh, Bd.state]; rfl
  have N0 := Fr.nil n0
  obtain ⟨A, hA⟩ : ∃ A, A = s₁.setTop (entryFrame m #[(.ref a)] 1) := ⟨_, rfl⟩
  rw [← hA]
  have g0 : Gz p.tables e below A s₁ (mkF m 0 #[.val (.ref a)] []) := fun tq kq => by rw [hA]; exact castTop (ef6 m a) kq
  have g1 : Gz p.tables e below A s₁ (mkF m 1 #[.val (.ref a)] [(.ref a)]) := fun tq kq => g0 tq (XS.aloadN X0.here hx rfl (hb hby d6_0) rfl rfl kq)
  obtain ⟨T2, X2, e2, st2⟩ := getF X0 hx hZ hown (host := "") (Or.inl (hw _ (List.mem_of_getElem? (i := 92) rfl))) Via.refl e0 F (g := (mkF m 1 #[.val (.ref a)] [(.ref a)])) rfl rfl (hb hby d6_1)
  have g3 : Gz p.tables e below A T2 (mkF m 4 #[.val (.ref a)] [(.long q)]) := fun tq kq => g1 tq (st2 tq kq)
  obtain ⟨fs, hr, hrun, hended, hW, hsame⟩ := X2.leave (v := some (.long q)) (fun h => by rw [Bd.returns] at h; cases h)
  refine ⟨_, _, g3 _ (retOut X2 hx Bd.returns rfl (Or.inr (Or.inl ⟨rfl, rfl, _, rfl⟩)) (hb hby d6_4) hr), hrun, hended, _, _, rfl, ?_, ⟨_, rfl⟩, hW, hsame.mono (by decide) (by decide)⟩
  show Q6 Z a q h0 n0 _ T2.heap _
  rw [e2]
  exact ⟨rfl, N0, rfl⟩

theorem d7_0 : decode jdk_31_method_10_code 0 = .ok (.aload_n 0, 1) := by decide +kernel
theorem d7_1 : decode jdk_31_method_10_code 1 = .ok (.ifnonnull 11, 3) := by decide +kernel
theorem d7_12 : decode jdk_31_method_10_code 12 = .ok (.aload_n 0, 1) := by decide +kernel
theorem d7_13 : decode jdk_31_method_10_code 13 = .ok (.areturn, 1) := by decide +kernel
theorem pn7 : plainName "java/util/Objects" = true := by first | (simp [plainName, overriddenIn]; done) | decide +kernel
theorem ef7 (m : MethodId) (x0 : Addr) : entryFrame m #[(.ref x0)] 1 = mkF m 0 #[.val (.ref x0)] [] := by first | (simp [entryFrame, mkF, argsToLocals, Value.category]; done) | rfl
def Q7 (Z : State) (a : Addr) (h0 : Heap) (n0 : Nat) (v : Option Value) (h : Heap) (L : List Loc) : Prop := v = some (.ref a) ∧ Fr n0 L ∧ h = h0
set_option maxRecDepth 65536 in
set_option maxHeartbeats 40000000 in
theorem rm7 (l : Launch) (Z : State) (a0 : Array Value) (hw : ∀ d ∈ tables_1, d.before a0 Z = true) (ws : List Jvm.Cond) (a : Addr) (h0 : Heap) (n0 : Nat) (Z0 : n0 ≤ h0.size) :
    MetFree l (⟨"java/util/Objects", "requireNonNull", "(Ljava/lang/Object;)Ljava/lang/Object;"⟩ : MethodName) (head1 (Jvm.Cond.code (⟨"java/util/Objects", "requireNonNull", "(Ljava/lang/Object;)Ljava/lang/Object;"⟩ : MethodName) jdk_31_method_10_code 1 (some (.object "java/lang/Object")) :: ws) ({ frames := 0, cells := 0, slots := 0, locals := 0 } : Room)) (fun aq Uq => aq = #[(.ref a)] ∧ Z.Warmed39 Uq.vm ∧ Uq.heap = h0) (fun _ _ _ _ _ => True) (fun _ Uq oq Uq' => ∃ vq Lq, oq = .returned vq ∧ Q7 Z a h0 n0 vq Uq'.heap Lq ∧ FrameEnd Uq oq Uq' Lq ({ frames := 0, cells := 0, slots := 0, locals := 0 } : Room).cells ({ frames := 0, cells := 0, slots := 0, locals := 0 } : Room).slots) := by
  refine MetFree.of_bodySF (plainFor_of_name pn7) hisR ?_
  intro p e s m args below meth c s₁ Bd hml0 hP hK
  obtain ⟨rfl, hZ, hh⟩ := hP
  have hx := Bd.exec
  have hby := Bd.bytes
  have hml : c.maxLocals = 1 := hml0
  have hown : s.vm.findClass "java/util/Objects" = some m.cls := findClass_of_methodNamed Bd.named
  have hnm := (name_of_methodNamed Bd.named Bd.method).1
  have X0 : Stand p l e ({ frames := 0, cells := 0, slots := 0, locals := 0 } : Room) s m #[(.ref a)] below meth c s₁ [] 0 0 := Stand.of_body Bd
  have e0 : s₁.heap = h0 := by rw [← hh, Bd.state]; rfl
  have N0 := Fr.nil n0
  obtain ⟨A, hA⟩ : ∃ A, A = s₁.setTop (entryFrame m #[(.ref a)] 1) := ⟨_, rfl⟩
  rw [← hA]
  have g0 : Gz p.tables e below A s₁ (mkF m 0 #[.val (.ref a)] []) := fun tq kq => by rw [hA]; exact castTop (ef7 m a) kq
  have g1 : Gz p.tables e below A s₁ (mkF m 1 #[.val (.ref a)] [(.ref a)]) := fun tq kq => g0 tq (XS.aloadN X0.here hx rfl (hb hby d7_0) rfl rfl kq)
  have g2 : Gz p.tables e below A s₁ (mkF m 12 #[.val (.ref a)] []) := fun tq kq => g1 tq (XS.ifnonnullYes X0.here hx rfl (pc0 := 1) (pc' := 12) rfl (hb hby d7_1) rfl (by decide) (by decide) kq)
  have g3 : Gz p.tables e below A s₁ (mkF m 13 #[.val (.ref a)] [(.ref a)]) := fun tq kq => g2 tq (XS.aloadN X0.here hx rfl (hb hby d7_12) rfl rfl kq)
  obtain ⟨fs, hr, hrun, hended, hW, hsame⟩ := X0.leave (v := some (.ref a)) (fun h => by rw [Bd.returns] at h; cases h)
  refine ⟨_, _, g3 _ (retOut X0 hx Bd.returns rfl (Or.inr (Or.inr (Or.inr (Or.inr ⟨rfl, rfl, rfl⟩)))) (hb hby d7_13) hr), hrun, hended, _, _, rfl, ?_, ⟨_, rfl⟩, hW, hsame.mono (by decide) (by decide)⟩
  show Q7 Z a h0 n0 _ s₁.heap _
  rw [e0]
  exact ⟨rfl, N0, rfl⟩

theorem d8_0 : decode jdk_18_method_1_code 0 = .ok (.aload_n 0, 1) := by decide +kernel
theorem d8_1 : decode jdk_18_method_1_code 1 = .ok (.invokespecial 1, 3) := by decide +kernel
theorem d8_4 : decode jdk_18_method_1_code 4 = .ok (.return_, 1) := by decide +kernel
theorem pn8 : plainName "java/lang/Number" = true := by first | (simp [plainName, overriddenIn]; done) | decide +kernel
theorem ef8 (m : MethodId) (x0 : Addr) : entryFrame m #[(.ref x0)] 1 = mkF m 0 #[.val (.ref x0)] [] := by first | (simp [entryFrame, mkF, argsToLocals, Value.category]; done) | rfl
def Q8 (Z : State) (a : Addr) (h0 : Heap) (n0 : Nat) (v : Option Value) (h : Heap) (L : List Loc) : Prop := v = none ∧ Fr n0 L ∧ h = h0
set_option maxRecDepth 65536 in
set_option maxHeartbeats 40000000 in
theorem rm8 (l : Launch) (Z : State) (a0 : Array Value) (hw : ∀ d ∈ tables_1, d.before a0 Z = true) (ws : List Jvm.Cond) (a : Addr) (h0 : Heap) (n0 : Nat) (Z0 : n0 ≤ h0.size) :
    MetFree l (⟨"java/lang/Number", "<init>", "()V"⟩ : MethodName) (head1 (Jvm.Cond.code (⟨"java/lang/Number", "<init>", "()V"⟩ : MethodName) jdk_18_method_1_code 1 none :: ws) ({ frames := 1, cells := 0, slots := 0, locals := 12 } : Room)) (fun aq Uq => aq = #[(.ref a)] ∧ Z.Warmed39 Uq.vm ∧ Uq.heap = h0) (fun _ _ _ _ _ => True) (fun _ Uq oq Uq' => ∃ vq Lq, oq = .returned vq ∧ Q8 Z a h0 n0 vq Uq'.heap Lq ∧ FrameEnd Uq oq Uq' Lq ({ frames := 1, cells := 0, slots := 0, locals := 12 } : Room).cells ({ frames := 1, cells := 0, slots := 0, locals := 12 } : Room).slots) := by
  refine MetFree.of_bodySF (plainFor_of_name pn8) hisR ?_
  intro p e s m args below meth c s₁ Bd hml0 hP hK
  obtain ⟨rfl, hZ, hh⟩ := hP
  have hx := Bd.exec
  have hby := Bd.bytes
  have hml : c.maxLocals = 1 := hml0
  have hown : s.vm.findClass "java/lang/Number" = some m.cls := findClass_of_methodNamed Bd.named
  have hnm := (name_of_methodNamed Bd.named Bd.method).1
  have X0 : Stand p l e ({ frames := 1, cells := 0, slots := 0, locals := 12 } : Room) s m #[(.ref a)] below meth c s₁ [] 0 0 := Stand.of_body Bd
  have e0 : s₁.heap = h0 := by rw [← hh, Bd.state]; rfl
  have N0 := Fr.nil n0
  obtain ⟨A, hA⟩ : ∃ A, A = s₁.setTop (entryFrame m #[(.ref a)] 1) := ⟨_, rfl⟩
  rw [← hA]
  have g0 : Gz p.tables e below A s₁ (mkF m 0 #[.val (.ref a)] []) := fun tq kq => by rw [hA]; exact castTop (ef8 m a) kq
  have g1 : Gz p.tables e below A s₁ (mkF m 1 #[.val (.ref a)] [(.ref a)]) := fun tq kq => g0 tq (XS.aloadN X0.here hx rfl (hb hby d8_0) rfl rfl kq)
  obtain ⟨T2, X2, e2, st2⟩ := initO X0 hx hZ hown (hw _ (List.mem_of_getElem? (i := 107) rfl)) (hw _ (List.mem_of_getElem? (i := 78) rfl)) (hw _ (List.mem_of_getElem? (i := 79) rfl)) e0 (g := (mkF m 1 #[.val (.ref a)] [(.ref a)])) rfl (by rw [hml]; rfl) rfl (hb hby d8_1) (by decide) (W := 0) (by show 2 * 0 + _ ≤ _; exact Nat.le_of_eq rfl) (by decide)
  have g3 : Gz p.tables e below A T2 (mkF m 4 #[.val (.ref a)] []) := fun tq kq => g1 tq (st2 tq kq)
  obtain ⟨fs, hr, hrun, hended, hW, hsame⟩ := X2.leave (v := none) (fun _ => rfl)
  refine ⟨_, _, g3 _ (X2.returnOut hx Bd.returns (hb hby d8_4) hr), hrun, hended, _, _, rfl, ?_, ⟨_, rfl⟩, hW, hsame.mono (by decide) (by decide)⟩
  show Q8 Z a h0 n0 _ T2.heap _
  rw [e2]
  exact ⟨rfl, N0, rfl⟩

theorem d9_0 : decode jdk_35_method_26_code 0 = .ok (.aload_n 0, 1) := by decide +kernel
theorem d9_1 : decode jdk_35_method_26_code 1 = .ok (.invokespecial 270, 3) := by decide +kernel
theorem d9_4 : decode jdk_35_method_26_code 4 = .ok (.aload_n 0, 1) := by decide +kernel
theorem d9_5 : decode jdk_35_method_26_code 5 = .ok (.lload_n 1, 1) := by decide +kernel
theorem d9_6 : decode jdk_35_method_26_code 6 = .ok (.putfield 273, 3) := by decide +kernel
theorem d9_9 : decode jdk_35_method_26_code 9 = .ok (.return_, 1) := by decide +kernel
theorem pn9 : plainName "java/lang/Long" = true := by first | (simp [plainName, overriddenIn]; done) | decide +kernel
theorem pd9_0 : parseMethodDescriptor "()V" = some ⟨[], none⟩ := by decide +kernel
theorem ef9 (m : MethodId) (x0 : Addr) (x1 : Int64) : entryFrame m #[(.ref x0), (.long x1)] 3 = mkF m 0 #[.val (.ref x0), .val (.long x1), .second] [] := by first | (simp [entryFrame, mkF, argsToLocals, Value.category]; done) | rfl
def Q9 (Z : State) (a : Addr) (q : Int64) (h0 : Heap) (n0 : Nat) (v : Option Value) (h : Heap) (L : List Loc) : Prop := v = none ∧ Fr n0 L ∧ Keep h0 h [a] ∧ Exa Z h a "java/lang/Long" ∧ Fld Z h a "java/lang/Long" "value" "J" (.long q)
set_option maxRecDepth 65536 in
set_option maxHeartbeats 40000000 in
theorem rm9 (l : Launch) (Z : State) (a0 : Array Value) (hw : ∀ d ∈ tables_1, d.before a0 Z = true) (ws : List Jvm.Cond) (a : Addr) (q : Int64) (h0 : Heap) (n0 : Nat) (Z0 : n0 ≤ h0.size) (E_a : Exa Z h0 a "java/lang/Long") (F : Fld Z h0 a "java/lang/Long" "value" "J" (.long 0)) (g_a : n0 ≤ a) :
    MetFree l (⟨"java/lang/Long", "<init>", "(J)V"⟩ : MethodName) (head1 (Jvm.Cond.code (⟨"java/lang/Long", "<init>", "(J)V"⟩ : MethodName) jdk_35_method_26_code 3 none :: ws) ({ frames := 2, cells := 0, slots := 0, locals := 24 } : Room)) (fun aq Uq => aq = #[(.ref a), (.long q)] ∧ Z.Warmed39 Uq.vm ∧ Uq.heap = h0) (fun _ _ _ _ _ => True) (fun _ Uq oq Uq' => ∃ vq Lq, oq = .returned vq ∧ Q9 Z a q h0 n0 vq Uq'.heap Lq ∧ FrameEnd Uq oq Uq' Lq ({ frames := 2, cells := 0, slots := 0, locals := 24 } : Room).cells ({ frames := 2, cells := 0, slots := 0, locals := 24 } : Room).slots) := by
  refine MetFree.of_bodySF (plainFor_of_name pn9) hisR ?_
  intro p e s m args below meth c s₁ Bd hml0 hP hK
  obtain ⟨rfl, hZ, hh⟩ := hP
  have hx := Bd.exec
  have hby := Bd.bytes
  have hml : c.maxLocals = 3 := hml0
  have hown : s.vm.findClass "java/lang/Long" = some m.cls := findClass_of_methodNamed Bd.named
  have hnm := (name_of_methodNamed Bd.named Bd.method).1
  have X0 : Stand p l e ({ frames := 2, cells := 0, slots := 0, locals := 24 } : Room) s m #[(.ref a), (.long q)] below meth c s₁ [] 0 0 := Stand.of_body Bd
  have e0 : s₁.heap = h0 := by rw [← hh, Bd.state]; rfl
  have N0 := Fr.nil n0
  obtain ⟨A, hA⟩ : ∃ A, A = s₁.setTop (entryFrame m #[(.ref a), (.long q)] 3) := ⟨_, rfl⟩
  rw [← hA]
  have g0 : Gz p.tables e below A s₁ (mkF m 0 #[.val (.ref a), .val (.long q), .second] []) := fun tq kq => by rw [hA]; exact castTop (ef9 m a q) kq
  have KW0 := Keep.refl h0 [a]
  have g1 : Gz p.tables e below A s₁ (mkF m 1 #[.val (.ref a), .val (.long q), .second] [(.ref a)]) := fun tq kq => g0 tq (XS.aloadN X0.here hx rfl (hb hby d9_0) rfl rfl kq)
  obtain ⟨_, _, ⟨T2, L2, k2, n2⟩, -, X2, ⟨Lc2, hQ2, l2, y2, z2⟩, st2⟩ := X0.specialBack hx (y := (⟨"java/lang/Number", "<init>", "()V"⟩ : MethodName)) rfl hown (mvT hZ (hw _ (List.mem_of_getElem? (i := 101) rfl))) (mvT hZ (hw _ (List.mem_of_getElem? (i := 102) rfl))) (mvT hZ (hw _ (List.mem_of_getElem? (i := 106) rfl))) (by decide) (backOf (W := 0) (rm8 l Z a0 hw [] a h0 n0 Z0) hZ (hw _ (List.mem_of_getElem? (i := 106) rfl)) (hw _ (List.mem_of_getElem? (i := 105) rfl)) (by decide) (by decide)) (g := (mkF m 1 #[.val (.ref a), .val (.long q), .second] [(.ref a)])) rfl (by rw [hml]; rfl) (Steps.refl _) (a := a) (argsL := []) (rest := []) (lenOf pd9_0 rfl) rfl (by show 2 * 0 + _ ≤ _; exact Nat.le_of_eq rfl) (hb hby d9_1) (fun _ _ => ⟨rfl, e0, (by decide : 0 + 0 ≤ _), (by decide : 0 + 0 ≤ _)⟩)
  dsimp only [Pt.U, Pt.locs, Pt.cells, Pt.slots] at X2 l2 y2 z2 st2 hQ2
  subst l2 y2 z2
  obtain ⟨rfl, N2q, e2⟩ := hQ2
  have N2 := Fr.app N0 N2q
  have g3 : Gz p.tables e below A T2 (mkF m 4 #[.val (.ref a), .val (.long q), .second] []) := fun tq kq => g1 tq (st2.trans kq)
  have g4 : Gz p.tables e below A T2 (mkF m 5 #[.val (.ref a), .val (.long q), .second] [(.ref a)]) := fun tq kq => g3 tq (XS.aloadN X2.here hx rfl (hb hby d9_4) rfl rfl kq)
  have g5 : Gz p.tables e below A T2 (mkF m 6 #[.val (.ref a), .val (.long q), .second] [(.long q), (.ref a)]) := fun tq kq => g4 tq (XS.lloadN X2.here hx rfl (hb hby d9_5) rfl kq)
  obtain ⟨T6, h6, X6, e6, W6, st6⟩ := putF X2 hx hZ hown (host := "") (Or.inl (hw _ (List.mem_of_getElem? (i := 92) rfl))) Via.refl e2 F E_a (Or.inr ⟨(hw _ (List.mem_of_getElem? (i := 93) rfl)), rfl, hnm⟩) (hw _ (List.mem_of_getElem? (i := 97) rfl)) (ty := .long) (by decide) rfl rfl (g := (mkF m 6 #[.val (.ref a), .val (.long q), .second] [(.long q), (.ref a)])) rfl rfl (hb hby d9_6)
  have KW7 := KW0.wr W6 (Or.inl (List.mem_of_getElem? (i := 0) rfl))
  have E_a := E_a.wr W6
  have F := F.same W6
  have N6 := Fr.snoc X6 N2 g_a
  have g8 : Gz p.tables e below A T6 (mkF m 9 #[.val (.ref a), .val (.long q), .second] []) := fun tq kq => g5 tq (st6 tq kq)
  obtain ⟨fs, hr, hrun, hended, hW, hsame⟩ := X6.leave (v := none) (fun _ => rfl)
  refine ⟨_, _, g8 _ (X6.returnOut hx Bd.returns (hb hby d9_9) hr), hrun, hended, _, _, rfl, ?_, ⟨_, rfl⟩, hW, hsame.mono (by decide) (by decide)⟩
  show Q9 Z a q h0 n0 _ T6.heap _
  rw [e6]
  exact ⟨rfl, N6, KW7, E_a, F⟩

theorem d10_0 : decode jdk_35_method_24_code 0 = .ok (.sipush 128, 3) := by decide +kernel
theorem d10_3 : decode jdk_35_method_24_code 3 = .ok (.istore_n 2, 1) := by decide +kernel
theorem d10_4 : decode jdk_35_method_24_code 4 = .ok (.lload_n 0, 1) := by decide +kernel
theorem d10_5 : decode jdk_35_method_24_code 5 = .ok (.ldc2_w 230, 3) := by decide +kernel
theorem d10_8 : decode jdk_35_method_24_code 8 = .ok (.lcmp, 1) := by decide +kernel
theorem d10_9 : decode jdk_35_method_24_code 9 = .ok (.ifCond .lt 22, 3) := by decide +kernel
theorem d10_12 : decode jdk_35_method_24_code 12 = .ok (.lload_n 0, 1) := by decide +kernel
theorem d10_13 : decode jdk_35_method_24_code 13 = .ok (.ldc2_w 232, 3) := by decide +kernel
theorem d10_16 : decode jdk_35_method_24_code 16 = .ok (.lcmp, 1) := by decide +kernel
theorem d10_17 : decode jdk_35_method_24_code 17 = .ok (.ifCond .gt 14, 3) := by decide +kernel
theorem d10_31 : decode jdk_35_method_24_code 31 = .ok (.new 1, 3) := by decide +kernel
theorem d10_34 : decode jdk_35_method_24_code 34 = .ok (.dup, 1) := by decide +kernel
theorem d10_35 : decode jdk_35_method_24_code 35 = .ok (.lload_n 0, 1) := by decide +kernel
theorem d10_36 : decode jdk_35_method_24_code 36 = .ok (.invokespecial 240, 3) := by decide +kernel
theorem d10_39 : decode jdk_35_method_24_code 39 = .ok (.areturn, 1) := by decide +kernel
theorem pn10 : plainName "java/lang/Long" = true := by first | (simp [plainName, overriddenIn]; done) | decide +kernel
theorem pd10_0 : parseMethodDescriptor "(J)V" = some ⟨[.long], none⟩ := by decide +kernel
theorem ef10 (m : MethodId) (x0 : Int64) : entryFrame m #[(.long x0)] 3 = mkF m 0 #[.val (.long x0), .second, .unset] [] := by first | (simp [entryFrame, mkF, argsToLocals, Value.category]; done) | rfl
def Q10 (Z : State) (q : Int64) (h0 : Heap) (n0 : Nat) (v : Option Value) (h : Heap) (L : List Loc) : Prop := ∃ b, v = some (.ref b) ∧ Fr n0 L ∧ Ext h0 h ∧ Exa Z h b "java/lang/Long" ∧ Fld Z h b "java/lang/Long" "value" "J" (.long q)
set_option maxRecDepth 65536 in
set_option maxHeartbeats 40000000 in
theorem rm10 (l : Launch) (Z : State) (a0 : Array Value) (hw : ∀ d ∈ tables_1, d.before a0 Z = true) (ws : List Jvm.Cond) (q : Int64) (h0 : Heap) (n0 : Nat) (Z0 : n0 ≤ h0.size) (hq1 : ¬ (q < (-128 : Int64))) (hq2 : (127 : Int64) < q) :
    MetFree l (⟨"java/lang/Long", "valueOf", "(J)Ljava/lang/Long;"⟩ : MethodName) (head1 (Jvm.Cond.code (⟨"java/lang/Long", "valueOf", "(J)Ljava/lang/Long;"⟩ : MethodName) jdk_35_method_24_code 3 (some (.object "java/lang/Long")) :: ws) ({ frames := 3, cells := 1, slots := 1, locals := 39 } : Room)) (fun aq Uq => aq = #[(.long q)] ∧ Z.Warmed39 Uq.vm ∧ Uq.heap = h0) (fun _ _ _ _ _ => True) (fun _ Uq oq Uq' => ∃ vq Lq, oq = .returned vq ∧ Q10 Z q h0 n0 vq Uq'.heap Lq ∧ FrameEnd Uq oq Uq' Lq ({ frames := 3, cells := 1, slots := 1, locals := 39 } : Room).cells ({ frames := 3, cells := 1, slots := 1, locals := 39 } : Room).slots) := by
  refine MetFree.of_bodySF (plainFor_of_name pn10) hisR ?_
  intro p e s m args below meth c s₁ Bd hml0 hP hK
  obtain ⟨rfl, hZ, hh⟩ := hP
  have hx := Bd.exec
  have hby := Bd.bytes
  have hml : c.maxLocals = 3 := hml0
  have hown : s.vm.findClass "java/lang/Long" = some m.cls := findClass_of_methodNamed Bd.named
  have hnm := (name_of_methodNamed Bd.named Bd.method).1
  have X0 : Stand p l e ({ frames := 3, cells := 1, slots := 1, locals := 39 } : Room) s m #[(.long q)] below meth c s₁ [] 0 0 := Stand.of_body Bd
  have e0 : s₁.heap = h0 := by rw [← hh, Bd.state]; rfl
  have N0 := Fr.nil n0
  obtain ⟨A, hA⟩ : ∃ A, A = s₁.setTop (entryFrame m #[(.long q)] 3) := ⟨_, rfl⟩
  rw [← hA]
  have g0 : Gz p.tables e below A s₁ (mkF m 0 #[.val (.long q), .second, .unset] []) := fun tq kq => by rw [hA]; exact castTop (ef10 m q) kq
  have g1 : Gz p.tables e below A s₁ (mkF m 3 #[.val (.long q), .second, .unset] [(.int (128 : Int32))]) := fun tq kq => g0 tq (XS.sipush X0.here hx rfl (hb hby d10_0) kq)
  have g2 : Gz p.tables e below A s₁ (mkF m 4 #[.val (.long q), .second, .val (.int (128 : Int32))] []) := fun tq kq => g1 tq (XS.istoreN X0.here hx rfl (hb hby d10_3) rfl (l' := #[.val (.long q), .second, .val (.int (128 : Int32))]) rfl kq)
  have g3 : Gz p.tables e below A s₁ (mkF m 5 #[.val (.long q), .second, .val (.int (128 : Int32))] [(.long q)]) := fun tq kq => g2 tq (XS.lloadN X0.here hx rfl (hb hby d10_4) rfl kq)
  have g4 : Gz p.tables e below A s₁ (mkF m 8 #[.val (.long q), .second, .val (.int (128 : Int32))] [(.long (-128 : Int64)), (.long q)]) := fun tq kq => g3 tq (X0.ldc2Long hx hown (mvT hZ (hw _ (List.mem_of_getElem? (i := 60) rfl))) (g := (mkF m 5 #[.val (.long q), .second, .val (.int (128 : Int32))] [(.long q)])) rfl (hb hby d10_5) _ kq)
  have g5 : Gz p.tables e below A s₁ (mkF m 9 #[.val (.long q), .second, .val (.int (128 : Int32))] [(.int (lcmpW q (-128 : Int64)))]) := fun tq kq => g4 tq (XS.lcmp X0.here hx rfl (hb hby d10_8) rfl kq)
  have g6 : Gz p.tables e below A s₁ (mkF m 12 #[.val (.long q), .second, .val (.int (128 : Int32))] []) := fun tq kq => g5 tq (XS.ifNo X0.here hx rfl (hb hby d10_9) rfl ((if0 _ _).trans (flt (fun q => hq1 ((lw_lt _ _).mp q))).1) kq)
  have g7 : Gz p.tables e below A s₁ (mkF m 13 #[.val (.long q), .second, .val (.int (128 : Int32))] [(.long q)]) := fun tq kq => g6 tq (XS.lloadN X0.here hx rfl (hb hby d10_12) rfl kq)
  have g8 : Gz p.tables e below A s₁ (mkF m 16 #[.val (.long q), .second, .val (.int (128 : Int32))] [(.long (127 : Int64)), (.long q)]) := fun tq kq => g7 tq (X0.ldc2Long hx hown (mvT hZ (hw _ (List.mem_of_getElem? (i := 61) rfl))) (g := (mkF m 13 #[.val (.long q), .second, .val (.int (128 : Int32))] [(.long q)])) rfl (hb hby d10_13) _ kq)
  have g9 : Gz p.tables e below A s₁ (mkF m 17 #[.val (.long q), .second, .val (.int (128 : Int32))] [(.int (lcmpW q (127 : Int64)))]) := fun tq kq => g8 tq (XS.lcmp X0.here hx rfl (hb hby d10_16) rfl kq)
  have g10 : Gz p.tables e below A s₁ (mkF m 31 #[.val (.long q), .second, .val (.int (128 : Int32))] []) := fun tq kq => g9 tq (XS.ifYes X0.here hx rfl (pc0 := 17) (pc' := 31) rfl (hb hby d10_17) rfl ((if0 _ _).trans (tlt ((lw_gt _ _).mpr hq2)).2.2.1) (by decide) (by decide) kq)
  obtain ⟨T11, h11, X11, e11, E11, A11, D11, -, st11⟩ := newO X0 hx hZ hown (hw _ (List.mem_of_getElem? (i := 96) rfl)) (hw _ (List.mem_of_getElem? (i := 97) rfl)) (hw _ (List.mem_of_getElem? (i := 58) rfl)) e0 (g := (mkF m 31 #[.val (.long q), .second, .val (.int (128 : Int32))] [])) rfl (hb hby d10_31) (by decide) (by decide)
  obtain ⟨b11, gb11⟩ : ∃ z, z = h0.size := ⟨_, rfl⟩
  rw [← gb11] at A11 D11 st11
  have sz_b11 : h0.size ≤ b11 := Nat.le_of_eq gb11.symm
  have g_b11 : n0 ≤ b11 := Nat.le_trans Z0 sz_b11
  have K12 := E11
  have F_value_b11 : Fld Z h11 b11 "java/lang/Long" "value" "J" (.long (0 : Int64)) := D11 (Or.inr (hw _ (List.mem_of_getElem? (i := 93) rfl))) (ty := .long) (by decide)
  have g13 : Gz p.tables e below A T11 (mkF m 34 #[.val (.long q), .second, .val (.int (128 : Int32))] [(.ref b11)]) := fun tq kq => g10 tq (st11 tq kq)
  have g14 : Gz p.tables e below A T11 (mkF m 35 #[.val (.long q), .second, .val (.int (128 : Int32))] [(.ref b11), (.ref b11)]) := fun tq kq => g13 tq (XS.dup X11.here hx rfl (hb hby d10_34) rfl rfl kq)
  have g15 : Gz p.tables e below A T11 (mkF m 36 #[.val (.long q), .second, .val (.int (128 : Int32))] [(.long q), (.ref b11), (.ref b11)]) := fun tq kq => g14 tq (XS.lloadN X11.here hx rfl (hb hby d10_35) rfl kq)
  obtain ⟨_, _, ⟨T16, L16, k16, n16⟩, -, X16, ⟨Lc16, hQ16, l16, y16, z16⟩, st16⟩ := X11.specialBack hx (y := (⟨"java/lang/Long", "<init>", "(J)V"⟩ : MethodName)) rfl hown (mvT hZ (hw _ (List.mem_of_getElem? (i := 98) rfl))) (mvT hZ (hw _ (List.mem_of_getElem? (i := 99) rfl))) (mvT hZ (hw _ (List.mem_of_getElem? (i := 100) rfl))) (by decide) (backOf (W := 1) (rm9 l Z a0 hw [] b11 q h11 n0 (Nat.le_trans Z0 K12.1) A11 F_value_b11 g_b11) hZ (hw _ (List.mem_of_getElem? (i := 100) rfl)) (hw _ (List.mem_of_getElem? (i := 58) rfl)) (by decide) (by decide)) (g := (mkF m 36 #[.val (.long q), .second, .val (.int (128 : Int32))] [(.long q), (.ref b11), (.ref b11)])) rfl (by rw [hml]; rfl) (Steps.refl _) (a := b11) (argsL := [(.long q)]) (rest := [(.ref b11)]) (lenOf pd10_0 rfl) rfl (by show 2 * 0 + _ ≤ _; exact Nat.le_of_eq rfl) (hb hby d10_36) (fun _ _ => ⟨rfl, e11, (by decide : 1 + 0 ≤ _), (by decide : 1 + 0 ≤ _)⟩)
  dsimp only [Pt.U, Pt.locs, Pt.cells, Pt.slots] at X16 l16 y16 z16 st16 hQ16
  subst l16 y16 z16
  obtain ⟨rfl, N16q, KQ16, EQ16, FQ16⟩ := hQ16
  have N16 := Fr.app N0 N16q
  have g17 : Gz p.tables e below A T16 (mkF m 39 #[.val (.long q), .second, .val (.int (128 : Int32))] [(.ref b11)]) := fun tq kq => g15 tq (st16.trans kq)
  have K18 := own_extK K12 KQ16 (allS sz_b11 all0)
  obtain ⟨fs, hr, hrun, hended, hW, hsame⟩ := X16.leave (v := some (.ref b11)) (fun h => by rw [Bd.returns] at h; cases h)
  refine ⟨_, _, g17 _ (retOut X16 hx Bd.returns rfl (Or.inr (Or.inr (Or.inr (Or.inr ⟨rfl, rfl, rfl⟩)))) (hb hby d10_39) hr), hrun, hended, _, _, rfl, ?_, ⟨_, rfl⟩, hW, hsame.mono (by decide) (by decide)⟩
  show Q10 Z q h0 n0 _ T16.heap _
  exact ⟨_, rfl, N16, K18, EQ16, FQ16⟩

theorem d11_0 : decode jdk_35_method_24_code 0 = .ok (.sipush 128, 3) := by decide +kernel
theorem d11_3 : decode jdk_35_method_24_code 3 = .ok (.istore_n 2, 1) := by decide +kernel
theorem d11_4 : decode jdk_35_method_24_code 4 = .ok (.lload_n 0, 1) := by decide +kernel
theorem d11_5 : decode jdk_35_method_24_code 5 = .ok (.ldc2_w 230, 3) := by decide +kernel
theorem d11_8 : decode jdk_35_method_24_code 8 = .ok (.lcmp, 1) := by decide +kernel
theorem d11_9 : decode jdk_35_method_24_code 9 = .ok (.ifCond .lt 22, 3) := by decide +kernel
theorem d11_12 : decode jdk_35_method_24_code 12 = .ok (.lload_n 0, 1) := by decide +kernel
theorem d11_13 : decode jdk_35_method_24_code 13 = .ok (.ldc2_w 232, 3) := by decide +kernel
theorem d11_16 : decode jdk_35_method_24_code 16 = .ok (.lcmp, 1) := by decide +kernel
theorem d11_17 : decode jdk_35_method_24_code 17 = .ok (.ifCond .gt 14, 3) := by decide +kernel
theorem d11_20 : decode jdk_35_method_24_code 20 = .ok (.getstatic 234, 3) := by decide +kernel
theorem d11_23 : decode jdk_35_method_24_code 23 = .ok (.lload_n 0, 1) := by decide +kernel
theorem d11_24 : decode jdk_35_method_24_code 24 = .ok (.l2i, 1) := by decide +kernel
theorem d11_25 : decode jdk_35_method_24_code 25 = .ok (.sipush 128, 3) := by decide +kernel
theorem d11_28 : decode jdk_35_method_24_code 28 = .ok (.iadd, 1) := by decide +kernel
theorem d11_29 : decode jdk_35_method_24_code 29 = .ok (.aaload, 1) := by decide +kernel
theorem d11_30 : decode jdk_35_method_24_code 30 = .ok (.areturn, 1) := by decide +kernel
theorem pn11 : plainName "java/lang/Long" = true := by first | (simp [plainName, overriddenIn]; done) | decide +kernel
theorem ef11 (m : MethodId) (x0 : Int64) : entryFrame m #[(.long x0)] 3 = mkF m 0 #[.val (.long x0), .second, .unset] [] := by first | (simp [entryFrame, mkF, argsToLocals, Value.category]; done) | rfl
def Q11 (Z : State) (q : Int64) (ca : Addr) (clc : Cell) (j : Int32) (b : Addr) (h0 : Heap) (n0 : Nat) (v : Option Value) (h : Heap) (L : List Loc) : Prop := v = some (.ref b) ∧ Fr n0 L ∧ h = h0
set_option maxRecDepth 65536 in
set_option maxHeartbeats 40000000 in
theorem rm11 (l : Launch) (Z : State) (a0 : Array Value) (hw : ∀ d ∈ tables_1, d.before a0 Z = true) (ws : List Jvm.Cond) (q : Int64) (ca : Addr) (clc : Cell) (j : Int32) (b : Addr) (h0 : Heap) (n0 : Nat) (Z0 : n0 ≤ h0.size) (hq1 : ¬ (q < (-128 : Int64))) (hq2 : ¬ ((127 : Int64) < q)) (S_C : Sta Z h0 "java/lang/Long$LongCache" "cache" "[Ljava/lang/Long;" (.ref ca)) (A_c : Arr Z h0 ca clc (.object "java/lang/Long")) (hj : (q.toInt32) + (128 : Int32) = j) (hin : ¬ (j < 0 ∨ clc.slots.size ≤ j.toNatClampNeg)) (hat : clc.slots[j.toNatClampNeg]? = some (.ref b)) :
    MetFree l (⟨"java/lang/Long", "valueOf", "(J)Ljava/lang/Long;"⟩ : MethodName) (head1 (Jvm.Cond.code (⟨"java/lang/Long", "valueOf", "(J)Ljava/lang/Long;"⟩ : MethodName) jdk_35_method_24_code 3 (some (.object "java/lang/Long")) :: ws) ({ frames := 0, cells := 0, slots := 0, locals := 0 } : Room)) (fun aq Uq => aq = #[(.long q)] ∧ Z.Warmed39 Uq.vm ∧ Uq.heap = h0) (fun _ _ _ _ _ => True) (fun _ Uq oq Uq' => ∃ vq Lq, oq = .returned vq ∧ Q11 Z q ca clc j b h0 n0 vq Uq'.heap Lq ∧ FrameEnd Uq oq Uq' Lq ({ frames := 0, cells := 0, slots := 0, locals := 0 } : Room).cells ({ frames := 0, cells := 0, slots := 0, locals := 0 } : Room).slots) := by
  refine MetFree.of_bodySF (plainFor_of_name pn11) hisR ?_
  intro p e s m args below meth c s₁ Bd hml0 hP hK
  obtain ⟨rfl, hZ, hh⟩ := hP
  have hx := Bd.exec
  have hby := Bd.bytes
  have hml : c.maxLocals = 3 := hml0
  have hown : s.vm.findClass "java/lang/Long" = some m.cls := findClass_of_methodNamed Bd.named
  have hnm := (name_of_methodNamed Bd.named Bd.method).1
  have X0 : Stand p l e ({ frames := 0, cells := 0, slots := 0, locals := 0 } : Room) s m #[(.long q)] below meth c s₁ [] 0 0 := Stand.of_body Bd
  have e0 : s₁.heap = h0 := by rw [← hh, Bd.state]; rfl
  have N0 := Fr.nil n0
  obtain ⟨A, hA⟩ : ∃ A, A = s₁.setTop (entryFrame m #[(.long q)] 3) := ⟨_, rfl⟩
  rw [← hA]
  have g0 : Gz p.tables e below A s₁ (mkF m 0 #[.val (.long q), .second, .unset] []) := fun tq kq => by rw [hA]; exact castTop (ef11 m q) kq
  have g1 : Gz p.tables e below A s₁ (mkF m 3 #[.val (.long q), .second, .unset] [(.int (128 : Int32))]) := fun tq kq => g0 tq (XS.sipush X0.here hx rfl (hb hby d11_0) kq)
  have g2 : Gz p.tables e below A s₁ (mkF m 4 #[.val (.long q), .second, .val (.int (128 : Int32))] []) := fun tq kq => g1 tq (XS.istoreN X0.here hx rfl (hb hby d11_3) rfl (l' := #[.val (.long q), .second, .val (.int (128 : Int32))]) rfl kq)
  have g3 : Gz p.tables e below A s₁ (mkF m 5 #[.val (.long q), .second, .val (.int (128 : Int32))] [(.long q)]) := fun tq kq => g2 tq (XS.lloadN X0.here hx rfl (hb hby d11_4) rfl kq)
  have g4 : Gz p.tables e below A s₁ (mkF m 8 #[.val (.long q), .second, .val (.int (128 : Int32))] [(.long (-128 : Int64)), (.long q)]) := fun tq kq => g3 tq (X0.ldc2Long hx hown (mvT hZ (hw _ (List.mem_of_getElem? (i := 60) rfl))) (g := (mkF m 5 #[.val (.long q), .second, .val (.int (128 : Int32))] [(.long q)])) rfl (hb hby d11_5) _ kq)
  have g5 : Gz p.tables e below A s₁ (mkF m 9 #[.val (.long q), .second, .val (.int (128 : Int32))] [(.int (lcmpW q (-128 : Int64)))]) := fun tq kq => g4 tq (XS.lcmp X0.here hx rfl (hb hby d11_8) rfl kq)
  have g6 : Gz p.tables e below A s₁ (mkF m 12 #[.val (.long q), .second, .val (.int (128 : Int32))] []) := fun tq kq => g5 tq (XS.ifNo X0.here hx rfl (hb hby d11_9) rfl ((if0 _ _).trans (flt (fun q => hq1 ((lw_lt _ _).mp q))).1) kq)
  have g7 : Gz p.tables e below A s₁ (mkF m 13 #[.val (.long q), .second, .val (.int (128 : Int32))] [(.long q)]) := fun tq kq => g6 tq (XS.lloadN X0.here hx rfl (hb hby d11_12) rfl kq)
  have g8 : Gz p.tables e below A s₁ (mkF m 16 #[.val (.long q), .second, .val (.int (128 : Int32))] [(.long (127 : Int64)), (.long q)]) := fun tq kq => g7 tq (X0.ldc2Long hx hown (mvT hZ (hw _ (List.mem_of_getElem? (i := 61) rfl))) (g := (mkF m 13 #[.val (.long q), .second, .val (.int (128 : Int32))] [(.long q)])) rfl (hb hby d11_13) _ kq)
  have g9 : Gz p.tables e below A s₁ (mkF m 17 #[.val (.long q), .second, .val (.int (128 : Int32))] [(.int (lcmpW q (127 : Int64)))]) := fun tq kq => g8 tq (XS.lcmp X0.here hx rfl (hb hby d11_16) rfl kq)
  have g10 : Gz p.tables e below A s₁ (mkF m 20 #[.val (.long q), .second, .val (.int (128 : Int32))] []) := fun tq kq => g9 tq (XS.ifNo X0.here hx rfl (hb hby d11_17) rfl ((if0 _ _).trans (flt (fun q => hq2 ((lw_gt _ _).mp q))).2.2.1) kq)
  obtain ⟨T11, X11, e11, st11⟩ := getS2 X0 hx hZ hown (host := "") (Or.inl (hw _ (List.mem_of_getElem? (i := 62) rfl))) Via.refl e0 S_C (g := (mkF m 20 #[.val (.long q), .second, .val (.int (128 : Int32))] [])) rfl (hb hby d11_20)
  have g12 : Gz p.tables e below A T11 (mkF m 23 #[.val (.long q), .second, .val (.int (128 : Int32))] [(.ref ca)]) := fun tq kq => g10 tq (st11 tq kq)
  have g13 : Gz p.tables e below A T11 (mkF m 24 #[.val (.long q), .second, .val (.int (128 : Int32))] [(.long q), (.ref ca)]) := fun tq kq => g12 tq (XS.lloadN X11.here hx rfl (hb hby d11_23) rfl kq)
  have g14 : Gz p.tables e below A T11 (mkF m 25 #[.val (.long q), .second, .val (.int (128 : Int32))] [(.int (q.toInt32)), (.ref ca)]) := fun tq kq => g13 tq (XS.l2i X11.here hx rfl (hb hby d11_24) rfl kq)
  have g15 : Gz p.tables e below A T11 (mkF m 28 #[.val (.long q), .second, .val (.int (128 : Int32))] [(.int (128 : Int32)), (.int (q.toInt32)), (.ref ca)]) := fun tq kq => g14 tq (XS.sipush X11.here hx rfl (hb hby d11_25) kq)
  have g16 : Gz p.tables e below A T11 (mkF m 29 #[.val (.long q), .second, .val (.int (128 : Int32))] [(.int ((q.toInt32) + (128 : Int32))), (.ref ca)]) := fun tq kq => g15 tq (XS.iadd X11.here hx rfl (hb hby d11_28) rfl kq)
  rw [hj] at g16
  have g17 : Gz p.tables e below A T11 (mkF m 30 #[.val (.long q), .second, .val (.int (128 : Int32))] [(.ref b)]) := fun tq kq => g16 tq (X11.aaload hx (j := j) (v := .ref b) (by rw [e11]; exact A_c.1) (State.isArrayOf_alike hZ.alike A_c.2.1) rfl A_c.2.2 hin hat (g := (mkF m 29 #[.val (.long q), .second, .val (.int (128 : Int32))] [(.int j), (.ref ca)])) rfl rfl (hb hby d11_29) _ kq)
  obtain ⟨fs, hr, hrun, hended, hW, hsame⟩ := X11.leave (v := some (.ref b)) (fun h => by rw [Bd.returns] at h; cases h)
  refine ⟨_, _, g17 _ (retOut X11 hx Bd.returns rfl (Or.inr (Or.inr (Or.inr (Or.inr ⟨rfl, rfl, rfl⟩)))) (hb hby d11_30) hr), hrun, hended, _, _, rfl, ?_, ⟨_, rfl⟩, hW, hsame.mono (by decide) (by decide)⟩
  show Q11 Z q ca clc j b h0 n0 _ T11.heap _
  rw [e11]
  exact ⟨rfl, N0, rfl⟩

theorem d12_0 : decode jdk_32_method_2_code 0 = .ok (.aload_n 0, 1) := by decide +kernel
theorem d12_1 : decode jdk_32_method_2_code 1 = .ok (.invokespecial 7, 3) := by decide +kernel
theorem d12_4 : decode jdk_32_method_2_code 4 = .ok (.aload_n 0, 1) := by decide +kernel
theorem d12_5 : decode jdk_32_method_2_code 5 = .ok (.aload_n 1, 1) := by decide +kernel
theorem d12_6 : decode jdk_32_method_2_code 6 = .ok (.putfield 13, 3) := by decide +kernel
theorem d12_9 : decode jdk_32_method_2_code 9 = .ok (.return_, 1) := by decide +kernel
theorem pn12 : plainName "java/util/Optional" = true := by first | (simp [plainName, overriddenIn]; done) | decide +kernel
theorem ef12 (m : MethodId) (x0 : Addr) (x1 : Addr) : entryFrame m #[(.ref x0), (.ref x1)] 2 = mkF m 0 #[.val (.ref x0), .val (.ref x1)] [] := by first | (simp [entryFrame, mkF, argsToLocals, Value.category]; done) | rfl
def Q12 (Z : State) (a : Addr) (b : Addr) (h0 : Heap) (n0 : Nat) (v : Option Value) (h : Heap) (L : List Loc) : Prop := v = none ∧ Fr n0 L ∧ Keep h0 h [a] ∧ Exa Z h a "java/util/Optional" ∧ Fld Z h a "java/util/Optional" "value" "Ljava/lang/Object;" (.ref b)
set_option maxRecDepth 65536 in
set_option maxHeartbeats 40000000 in
theorem rm12 (l : Launch) (Z : State) (a0 : Array Value) (hw : ∀ d ∈ tables_1, d.before a0 Z = true) (ws : List Jvm.Cond) (a : Addr) (b : Addr) (h0 : Heap) (n0 : Nat) (Z0 : n0 ≤ h0.size) (E_a : Exa Z h0 a "java/util/Optional") (F : Fld Z h0 a "java/util/Optional" "value" "Ljava/lang/Object;" .null) (g_a : n0 ≤ a) :
    MetFree l (⟨"java/util/Optional", "<init>", "(Ljava/lang/Object;)V"⟩ : MethodName) (head1 (Jvm.Cond.code (⟨"java/util/Optional", "<init>", "(Ljava/lang/Object;)V"⟩ : MethodName) jdk_32_method_2_code 2 none :: ws) ({ frames := 1, cells := 0, slots := 0, locals := 12 } : Room)) (fun aq Uq => aq = #[(.ref a), (.ref b)] ∧ Z.Warmed39 Uq.vm ∧ Uq.heap = h0) (fun _ _ _ _ _ => True) (fun _ Uq oq Uq' => ∃ vq Lq, oq = .returned vq ∧ Q12 Z a b h0 n0 vq Uq'.heap Lq ∧ FrameEnd Uq oq Uq' Lq ({ frames := 1, cells := 0, slots := 0, locals := 12 } : Room).cells ({ frames := 1, cells := 0, slots := 0, locals := 12 } : Room).slots) := by
  refine MetFree.of_bodySF (plainFor_of_name pn12) hisR ?_
  intro p e s m args below meth c s₁ Bd hml0 hP hK
  obtain ⟨rfl, hZ, hh⟩ := hP
  have hx := Bd.exec
  have hby := Bd.bytes
  have hml : c.maxLocals = 2 := hml0
  have hown : s.vm.findClass "java/util/Optional" = some m.cls := findClass_of_methodNamed Bd.named
  have hnm := (name_of_methodNamed Bd.named Bd.method).1
  have X0 : Stand p l e ({ frames := 1, cells := 0, slots := 0, locals := 12 } : Room) s m #[(.ref a), (.ref b)] below meth c s₁ [] 0 0 := Stand.of_body Bd
  have e0 : s₁.heap = h0 := by rw [← hh, Bd.state]; rfl
  have N0 := Fr.nil n0
  obtain ⟨A, hA⟩ : ∃ A, A = s₁.setTop (entryFrame m #[(.ref a), (.ref b)] 2) := ⟨_, rfl⟩
  rw [← hA]
  have g0 : Gz p.tables e below A s₁ (mkF m 0 #[.val (.ref a), .val (.ref b)] []) := fun tq kq => by rw [hA]; exact castTop (ef12 m a b) kq
  have KW0 := Keep.refl h0 [a]
  have g1 : Gz p.tables e below A s₁ (mkF m 1 #[.val (.ref a), .val (.ref b)] [(.ref a)]) := fun tq kq => g0 tq (XS.aloadN X0.here hx rfl (hb hby d12_0) rfl rfl kq)
  obtain ⟨T2, X2, e2, st2⟩ := initO X0 hx hZ hown (hw _ (List.mem_of_getElem? (i := 77) rfl)) (hw _ (List.mem_of_getElem? (i := 78) rfl)) (hw _ (List.mem_of_getElem? (i := 79) rfl)) e0 (g := (mkF m 1 #[.val (.ref a), .val (.ref b)] [(.ref a)])) rfl (by rw [hml]; rfl) rfl (hb hby d12_1) (by decide) (W := 0) (by show 2 * 0 + _ ≤ _; exact Nat.le_of_eq rfl) (by decide)
  have g3 : Gz p.tables e below A T2 (mkF m 4 #[.val (.ref a), .val (.ref b)] []) := fun tq kq => g1 tq (st2 tq kq)
  have g4 : Gz p.tables e below A T2 (mkF m 5 #[.val (.ref a), .val (.ref b)] [(.ref a)]) := fun tq kq => g3 tq (XS.aloadN X2.here hx rfl (hb hby d12_4) rfl rfl kq)
  have g5 : Gz p.tables e below A T2 (mkF m 6 #[.val (.ref a), .val (.ref b)] [(.ref b), (.ref a)]) := fun tq kq => g4 tq (XS.aloadN X2.here hx rfl (hb hby d12_5) rfl rfl kq)
  obtain ⟨T6, h6, X6, e6, W6, st6⟩ := putF X2 hx hZ hown (host := "") (Or.inl (hw _ (List.mem_of_getElem? (i := 29) rfl))) Via.refl e2 F E_a (Or.inr ⟨(hw _ (List.mem_of_getElem? (i := 30) rfl)), rfl, hnm⟩) (hw _ (List.mem_of_getElem? (i := 68) rfl)) (ty := (.object "java/lang/Object")) (by decide) rfl rfl (g := (mkF m 6 #[.val (.ref a), .val (.ref b)] [(.ref b), (.ref a)])) rfl rfl (hb hby d12_6)
  have KW7 := KW0.wr W6 (Or.inl (List.mem_of_getElem? (i := 0) rfl))
  have E_a := E_a.wr W6
  have F := F.same W6
  have N6 := Fr.snoc X6 N0 g_a
  have g8 : Gz p.tables e below A T6 (mkF m 9 #[.val (.ref a), .val (.ref b)] []) := fun tq kq => g5 tq (st6 tq kq)
  obtain ⟨fs, hr, hrun, hended, hW, hsame⟩ := X6.leave (v := none) (fun _ => rfl)
  refine ⟨_, _, g8 _ (X6.returnOut hx Bd.returns (hb hby d12_9) hr), hrun, hended, _, _, rfl, ?_, ⟨_, rfl⟩, hW, hsame.mono (by decide) (by decide)⟩
  show Q12 Z a b h0 n0 _ T6.heap _
  rw [e6]
  exact ⟨rfl, N6, KW7, E_a, F⟩

theorem d13_0 : decode jdk_32_method_3_code 0 = .ok (.new 2, 3) := by decide +kernel
theorem d13_3 : decode jdk_32_method_3_code 3 = .ok (.dup, 1) := by decide +kernel
theorem d13_4 : decode jdk_32_method_3_code 4 = .ok (.aload_n 0, 1) := by decide +kernel
theorem d13_5 : decode jdk_32_method_3_code 5 = .ok (.invokestatic 17, 3) := by decide +kernel
theorem d13_8 : decode jdk_32_method_3_code 8 = .ok (.invokespecial 23, 3) := by decide +kernel
theorem d13_11 : decode jdk_32_method_3_code 11 = .ok (.areturn, 1) := by decide +kernel
theorem pn13 : plainName "java/util/Optional" = true := by first | (simp [plainName, overriddenIn]; done) | decide +kernel
theorem pd13_0 : parseMethodDescriptor "(Ljava/lang/Object;)Ljava/lang/Object;" = some ⟨[(.object "java/lang/Object")], some (.object "java/lang/Object")⟩ := by decide +kernel
theorem pd13_1 : parseMethodDescriptor "(Ljava/lang/Object;)V" = some ⟨[(.object "java/lang/Object")], none⟩ := by decide +kernel
theorem ef13 (m : MethodId) (x0 : Addr) : entryFrame m #[(.ref x0)] 1 = mkF m 0 #[.val (.ref x0)] [] := by first | (simp [entryFrame, mkF, argsToLocals, Value.category]; done) | rfl
def Q13 (Z : State) (b : Addr) (h0 : Heap) (n0 : Nat) (v : Option Value) (h : Heap) (L : List Loc) : Prop := ∃ r, v = some (.ref r) ∧ Fr n0 L ∧ Ext h0 h ∧ Exa Z h r "java/util/Optional" ∧ Fld Z h r "java/util/Optional" "value" "Ljava/lang/Object;" (.ref b)
set_option maxRecDepth 65536 in
set_option maxHeartbeats 40000000 in
theorem rm13 (l : Launch) (Z : State) (a0 : Array Value) (hw : ∀ d ∈ tables_1, d.before a0 Z = true) (ws : List Jvm.Cond) (b : Addr) (h0 : Heap) (n0 : Nat) (Z0 : n0 ≤ h0.size) :
    MetFree l (⟨"java/util/Optional", "of", "(Ljava/lang/Object;)Ljava/util/Optional;"⟩ : MethodName) (head1 (Jvm.Cond.code (⟨"java/util/Optional", "of", "(Ljava/lang/Object;)Ljava/util/Optional;"⟩ : MethodName) jdk_32_method_3_code 1 (some (.object "java/util/Optional")) :: ws) ({ frames := 2, cells := 1, slots := 1, locals := 26 } : Room)) (fun aq Uq => aq = #[(.ref b)] ∧ Z.Warmed39 Uq.vm ∧ Uq.heap = h0) (fun _ _ _ _ _ => True) (fun _ Uq oq Uq' => ∃ vq Lq, oq = .returned vq ∧ Q13 Z b h0 n0 vq Uq'.heap Lq ∧ FrameEnd Uq oq Uq' Lq ({ frames := 2, cells := 1, slots := 1, locals := 26 } : Room).cells ({ frames := 2, cells := 1, slots := 1, locals := 26 } : Room).slots) := by
  refine MetFree.of_bodySF (plainFor_of_name pn13) hisR ?_
  intro p e s m args below meth c s₁ Bd hml0 hP hK
  obtain ⟨rfl, hZ, hh⟩ := hP
  have hx := Bd.exec
  have hby := Bd.bytes
  have hml : c.maxLocals = 1 := hml0
  have hown : s.vm.findClass "java/util/Optional" = some m.cls := findClass_of_methodNamed Bd.named
  have hnm := (name_of_methodNamed Bd.named Bd.method).1
  have X0 : Stand p l e ({ frames := 2, cells := 1, slots := 1, locals := 26 } : Room) s m #[(.ref b)] below meth c s₁ [] 0 0 := Stand.of_body Bd
  have e0 : s₁.heap = h0 := by rw [← hh, Bd.state]; rfl
  have N0 := Fr.nil n0
  obtain ⟨A, hA⟩ : ∃ A, A = s₁.setTop (entryFrame m #[(.ref b)] 1) := ⟨_, rfl⟩
  rw [← hA]
  have g0 : Gz p.tables e below A s₁ (mkF m 0 #[.val (.ref b)] []) := fun tq kq => by rw [hA]; exact castTop (ef13 m b) kq
  obtain ⟨T1, h1, X1, e1, E1, A1, D1, -, st1⟩ := newO X0 hx hZ hown (hw _ (List.mem_of_getElem? (i := 67) rfl)) (hw _ (List.mem_of_getElem? (i := 68) rfl)) (hw _ (List.mem_of_getElem? (i := 21) rfl)) e0 (g := (mkF m 0 #[.val (.ref b)] [])) rfl (hb hby d13_0) (by decide) (by decide)
  obtain ⟨b1, gb1⟩ : ∃ z, z = h0.size := ⟨_, rfl⟩
  rw [← gb1] at A1 D1 st1
  have sz_b1 : h0.size ≤ b1 := Nat.le_of_eq gb1.symm
  have g_b1 : n0 ≤ b1 := Nat.le_trans Z0 sz_b1
  have K2 := E1
  have F_value_b1 : Fld Z h1 b1 "java/util/Optional" "value" "Ljava/lang/Object;" .null := D1 (Or.inr (hw _ (List.mem_of_getElem? (i := 30) rfl))) (ty := (.object "java/lang/Object")) (by decide)
  have g3 : Gz p.tables e below A T1 (mkF m 3 #[.val (.ref b)] [(.ref b1)]) := fun tq kq => g0 tq (st1 tq kq)
  have g4 : Gz p.tables e below A T1 (mkF m 4 #[.val (.ref b)] [(.ref b1), (.ref b1)]) := fun tq kq => g3 tq (XS.dup X1.here hx rfl (hb hby d13_3) rfl rfl kq)
  have g5 : Gz p.tables e below A T1 (mkF m 5 #[.val (.ref b)] [(.ref b), (.ref b1), (.ref b1)]) := fun tq kq => g4 tq (XS.aloadN X1.here hx rfl (hb hby d13_4) rfl rfl kq)
  obtain ⟨_, _, ⟨T6, L6, k6, n6⟩, -, X6, ⟨Lc6, hQ6, l6, y6, z6⟩, st6⟩ := Jvm.LawKit.callS X1 hx (y := (⟨"java/util/Objects", "requireNonNull", "(Ljava/lang/Object;)Ljava/lang/Object;"⟩ : MethodName)) hown (mvT hZ (hw _ (List.mem_of_getElem? (i := 69) rfl))) (mvT hZ (hw _ (List.mem_of_getElem? (i := 70) rfl))) (mvT hZ (hw _ (List.mem_of_getElem? (i := 71) rfl))) (mvT hZ (hw _ (List.mem_of_getElem? (i := 72) rfl))) (by decide) (backOf (W := 2) (rm7 l Z a0 hw [] b h1 n0 (Nat.le_trans Z0 K2.1)) hZ (hw _ (List.mem_of_getElem? (i := 72) rfl)) (hw _ (List.mem_of_getElem? (i := 71) rfl)) (by decide) (by decide)) (g := (mkF m 5 #[.val (.ref b)] [(.ref b), (.ref b1), (.ref b1)])) rfl (by rw [hml]; rfl) (argsL := [(.ref b)]) (rest := [(.ref b1), (.ref b1)]) (lenOf pd13_0 rfl) rfl (by show 2 * 0 + _ ≤ _; exact Nat.le_of_eq rfl) (hb hby d13_5) (fun _ _ => ⟨rfl, e1, (by decide : 1 + 0 ≤ _), (by decide : 1 + 0 ≤ _)⟩)
  dsimp only [Pt.U, Pt.locs, Pt.cells, Pt.slots] at X6 l6 y6 z6 st6 hQ6
  subst l6 y6 z6
  obtain ⟨rfl, N6q, e6⟩ := hQ6
  have N6 := Fr.app N0 N6q
  have g7 : Gz p.tables e below A T6 (mkF m 8 #[.val (.ref b)] [(.ref b), (.ref b1), (.ref b1)]) := fun tq kq => g5 tq (st6 _ kq)
  obtain ⟨_, _, ⟨T8, L8, k8, n8⟩, -, X8, ⟨Lc8, hQ8, l8, y8, z8⟩, st8⟩ := X6.specialBack hx (y := (⟨"java/util/Optional", "<init>", "(Ljava/lang/Object;)V"⟩ : MethodName)) rfl hown (mvT hZ (hw _ (List.mem_of_getElem? (i := 73) rfl))) (mvT hZ (hw _ (List.mem_of_getElem? (i := 74) rfl))) (mvT hZ (hw _ (List.mem_of_getElem? (i := 76) rfl))) (by decide) (backOf (W := 1) (rm12 l Z a0 hw [] b1 b h1 n0 (Nat.le_trans Z0 K2.1) A1 F_value_b1 g_b1) hZ (hw _ (List.mem_of_getElem? (i := 76) rfl)) (hw _ (List.mem_of_getElem? (i := 21) rfl)) (by decide) (by decide)) (g := (mkF m 8 #[.val (.ref b)] [(.ref b), (.ref b1), (.ref b1)])) rfl (by rw [hml]; rfl) (Steps.refl _) (a := b1) (argsL := [(.ref b)]) (rest := [(.ref b1)]) (lenOf pd13_1 rfl) rfl (by show 2 * 0 + _ ≤ _; exact Nat.le_of_eq rfl) (hb hby d13_8) (fun _ _ => ⟨rfl, e6, (by decide : 1 + 0 ≤ _), (by decide : 1 + 0 ≤ _)⟩)
  dsimp only [Pt.U, Pt.locs, Pt.cells, Pt.slots] at X8 l8 y8 z8 st8 hQ8
  subst l8 y8 z8
  obtain ⟨rfl, N8q, KQ8, EQ8, FQ8⟩ := hQ8
  have N8 := Fr.app N6 N8q
  have g9 : Gz p.tables e below A T8 (mkF m 11 #[.val (.ref b)] [(.ref b1)]) := fun tq kq => g7 tq (st8.trans kq)
  have K10 := own_extK K2 KQ8 (allS sz_b1 all0)
  obtain ⟨fs, hr, hrun, hended, hW, hsame⟩ := X8.leave (v := some (.ref b1)) (fun h => by rw [Bd.returns] at h; cases h)
  refine ⟨_, _, g9 _ (retOut X8 hx Bd.returns rfl (Or.inr (Or.inr (Or.inr (Or.inr ⟨rfl, rfl, rfl⟩)))) (hb hby d13_11) hr), hrun, hended, _, _, rfl, ?_, ⟨_, rfl⟩, hW, hsame.mono (by decide) (by decide)⟩
  show Q13 Z b h0 n0 _ T8.heap _
  exact ⟨_, rfl, N8, K10, EQ8, FQ8⟩

theorem d14_0 : decode prog_5_method_1_code 0 = .ok (.getstatic 25, 3) := by decide +kernel
theorem d14_3 : decode prog_5_method_1_code 3 = .ok (.invokevirtual 29, 3) := by decide +kernel
theorem d14_6 : decode prog_5_method_1_code 6 = .ok (.checkcast 30, 3) := by decide +kernel
theorem d14_9 : decode prog_5_method_1_code 9 = .ok (.areturn, 1) := by decide +kernel
theorem pn14 : plainName "com/example/measured_slack/measuredslack/DurationUnit" = true := by first | (simp [plainName, overriddenIn]; done) | decide +kernel
theorem ef14 (m : MethodId)  : entryFrame m #[] 0 = mkF m 0 #[] [] := by first | (simp [entryFrame, mkF, argsToLocals, Value.category]; done) | rfl
def Q14 (Z : State) (ar : Addr) (k : ClassId) (vs : List Value) (h0 : Heap) (n0 : Nat) (v : Option Value) (h : Heap) (L : List Loc) : Prop := ∃ b, v = some (.ref b) ∧ Fr n0 L ∧ Ext h0 h ∧ Arv Z h b k (.object "com/example/measured_slack/measuredslack/DurationUnit") (7 : Int32) vs .null
set_option maxRecDepth 65536 in
set_option maxHeartbeats 40000000 in
theorem rm14 (l : Launch) (Z : State) (a0 : Array Value) (hw : ∀ d ∈ tables_1, d.before a0 Z = true) (ws : List Jvm.Cond) (ar : Addr) (k : ClassId) (vs : List Value) (h0 : Heap) (n0 : Nat) (Z0 : n0 ≤ h0.size) (S_V : Sta Z h0 "com/example/measured_slack/measuredslack/DurationUnit" "$VALUES" "[Lcom/example/measured_slack/measuredslack/DurationUnit;" (.ref ar)) (V0 : Arv Z h0 ar k (.object "com/example/measured_slack/measuredslack/DurationUnit") (7 : Int32) vs .null) (E0 : Exa Z h0 ar "[Lcom/example/measured_slack/measuredslack/DurationUnit;") :
    MetFree l (⟨"com/example/measured_slack/measuredslack/DurationUnit", "values", "()[Lcom/example/measured_slack/measuredslack/DurationUnit;"⟩ : MethodName) (head1 (Jvm.Cond.code (⟨"com/example/measured_slack/measuredslack/DurationUnit", "values", "()[Lcom/example/measured_slack/measuredslack/DurationUnit;"⟩ : MethodName) prog_5_method_1_code 0 (some (.array (.object "com/example/measured_slack/measuredslack/DurationUnit"))) :: ws) ({ frames := 1, cells := 1, slots := 7, locals := 14 } : Room)) (fun aq Uq => aq = #[] ∧ Z.Warmed39 Uq.vm ∧ Uq.heap = h0) (fun _ _ _ _ _ => True) (fun _ Uq oq Uq' => ∃ vq Lq, oq = .returned vq ∧ Q14 Z ar k vs h0 n0 vq Uq'.heap Lq ∧ FrameEnd Uq oq Uq' Lq ({ frames := 1, cells := 1, slots := 7, locals := 14 } : Room).cells ({ frames := 1, cells := 1, slots := 7, locals := 14 } : Room).slots) := by
  refine MetFree.of_bodySF (plainFor_of_name pn14) hisR ?_
  intro p e s m args below meth c s₁ Bd hml0 hP hK
  obtain ⟨rfl, hZ, hh⟩ := hP
  have hx := Bd.exec
  have hby := Bd.bytes
  have hml : c.maxLocals = 0 := hml0
  have hown : s.vm.findClass "com/example/measured_slack/measuredslack/DurationUnit" = some m.cls := findClass_of_methodNamed Bd.named
  have hnm := (name_of_methodNamed Bd.named Bd.method).1
  have X0 : Stand p l e ({ frames := 1, cells := 1, slots := 7, locals := 14 } : Room) s m #[] below meth c s₁ [] 0 0 := Stand.of_body Bd
  have e0 : s₁.heap = h0 := by rw [← hh, Bd.state]; rfl
  have N0 := Fr.nil n0
  obtain ⟨A, hA⟩ : ∃ A, A = s₁.setTop (entryFrame m #[] 0) := ⟨_, rfl⟩
  rw [← hA]
  have g0 : Gz p.tables e below A s₁ (mkF m 0 #[] []) := fun tq kq => by rw [hA]; exact castTop (ef14 m) kq
  obtain ⟨T1, X1, e1, st1⟩ := getS2 X0 hx hZ hown (host := "") (Or.inl (hw _ (List.mem_of_getElem? (i := 37) rfl))) Via.refl e0 S_V (g := (mkF m 0 #[] [])) rfl (hb hby d14_0)
  have g2 : Gz p.tables e below A T1 (mkF m 3 #[] [(.ref ar)]) := fun tq kq => g0 tq (st1 tq kq)
  obtain ⟨T3, h3, X3, e3, E3, A3, C3, st3⟩ := cloneH X1 hx hZ hown (hw _ (List.mem_of_getElem? (i := 39) rfl)) (hw _ (List.mem_of_getElem? (i := 40) rfl)) (hw _ (List.mem_of_getElem? (i := 44) rfl)) (hw _ (List.mem_of_getElem? (i := 42) rfl)) (hw _ (List.mem_of_getElem? (i := 43) rfl)) (hw _ (List.mem_of_getElem? (i := 45) rfl)) e1 (Arv.arh V0) E0 (g := (mkF m 3 #[] [(.ref ar)])) rfl (by rw [hml]; rfl) rfl (hb hby d14_3) (by decide) (W := 0) (by show 2 * 0 + _ ≤ _; exact Nat.le_of_eq rfl) (by decide) (cap := 7) (by decide) (by decide) (by decide)
  obtain ⟨b3, gb3⟩ : ∃ z, z = h0.size := ⟨_, rfl⟩
  rw [← gb3] at A3 C3 st3
  have sz_b3 : h0.size ≤ b3 := Nat.le_of_eq gb3.symm
  have g_b3 : n0 ≤ b3 := Nat.le_trans Z0 sz_b3
  have K4 := E3
  have g5 : Gz p.tables e below A T3 (mkF m 6 #[] [(.ref b3)]) := fun tq kq => g2 tq (st3 tq kq)
  obtain ⟨T6, X6, e6, st6⟩ := castY X3 hx hZ hown (hw _ (List.mem_of_getElem? (i := 52) rfl)) e3 (Ins.self C3) (g := (mkF m 6 #[] [(.ref b3)])) rfl rfl (hb hby d14_6)
  have g7 : Gz p.tables e below A T6 (mkF m 9 #[] [(.ref b3)]) := fun tq kq => g5 tq (st6 tq kq)
  obtain ⟨fs, hr, hrun, hended, hW, hsame⟩ := X6.leave (v := some (.ref b3)) (fun h => by rw [Bd.returns] at h; cases h)
  refine ⟨_, _, g7 _ (retOut X6 hx Bd.returns rfl (Or.inr (Or.inr (Or.inr (Or.inr ⟨rfl, rfl, rfl⟩)))) (hb hby d14_9) hr), hrun, hended, _, _, rfl, ?_, ⟨_, rfl⟩, hW, hsame.mono (by decide) (by decide)⟩
  show Q14 Z ar k vs h0 n0 _ T6.heap _
  rw [e6]
  exact ⟨_, rfl, N0, K4, A3⟩

theorem d15_0 : decode prog_5_method_7_code 0 = .ok (.aload_n 0, 1) := by decide +kernel
theorem d15_1 : decode prog_5_method_7_code 1 = .ok (.invokevirtual 76, 3) := by decide +kernel
theorem d15_4 : decode prog_5_method_7_code 4 = .ok (.ifCond .ne 7, 3) := by decide +kernel
theorem d15_7 : decode prog_5_method_7_code 7 = .ok (.invokestatic 80, 3) := by decide +kernel
theorem d15_10 : decode prog_5_method_7_code 10 = .ok (.areturn, 1) := by decide +kernel
theorem pn15 : plainName "com/example/measured_slack/measuredslack/DurationUnit" = true := by first | (simp [plainName, overriddenIn]; done) | decide +kernel
theorem pd15_0 : parseMethodDescriptor "()I" = some ⟨[], some .int⟩ := by decide +kernel
theorem pd15_1 : parseMethodDescriptor "()Ljava/util/Optional;" = some ⟨[], some (.object "java/util/Optional")⟩ := by decide +kernel
theorem ef15 (m : MethodId) (x0 : Addr) : entryFrame m #[(.ref x0)] 1 = mkF m 0 #[.val (.ref x0)] [] := by first | (simp [entryFrame, mkF, argsToLocals, Value.category]; done) | rfl
def Q15 (Z : State) (a : Addr) (em : Addr) (h0 : Heap) (n0 : Nat) (v : Option Value) (h : Heap) (L : List Loc) : Prop := v = some (.ref em) ∧ Fr n0 L ∧ h = h0
set_option maxRecDepth 65536 in
set_option maxHeartbeats 40000000 in
theorem rm15 (l : Launch) (Z : State) (a0 : Array Value) (hw : ∀ d ∈ tables_1, d.before a0 Z = true) (ws : List Jvm.Cond) (a : Addr) (em : Addr) (h0 : Heap) (n0 : Nat) (Z0 : n0 ≤ h0.size) (FO : Fld Z h0 a "java/lang/Enum" "ordinal" "I" (.int 0)) (E_a : Exa Z h0 a "com/example/measured_slack/measuredslack/DurationUnit") (S_E : Sta Z h0 "java/util/Optional" "EMPTY" "Ljava/util/Optional;" (.ref em)) :
    MetFree l (⟨"com/example/measured_slack/measuredslack/DurationUnit", "perLargerUnit", "()Ljava/util/Optional;"⟩ : MethodName) (head1 (Jvm.Cond.code (⟨"com/example/measured_slack/measuredslack/DurationUnit", "perLargerUnit", "()Ljava/util/Optional;"⟩ : MethodName) prog_5_method_7_code 1 (some (.object "java/util/Optional")) :: ws) ({ frames := 1, cells := 0, slots := 0, locals := 12 } : Room)) (fun aq Uq => aq = #[(.ref a)] ∧ Z.Warmed39 Uq.vm ∧ Uq.heap = h0) (fun _ _ _ _ _ => True) (fun _ Uq oq Uq' => ∃ vq Lq, oq = .returned vq ∧ Q15 Z a em h0 n0 vq Uq'.heap Lq ∧ FrameEnd Uq oq Uq' Lq ({ frames := 1, cells := 0, slots := 0, locals := 12 } : Room).cells ({ frames := 1, cells := 0, slots := 0, locals := 12 } : Room).slots) := by
  refine MetFree.of_bodySF (plainFor_of_name pn15) hisR ?_
  intro p e s m args below meth c s₁ Bd hml0 hP hK
  obtain ⟨rfl, hZ, hh⟩ := hP
  have hx := Bd.exec
  have hby := Bd.bytes
  have hml : c.maxLocals = 1 := hml0
  have hown : s.vm.findClass "com/example/measured_slack/measuredslack/DurationUnit" = some m.cls := findClass_of_methodNamed Bd.named
  have hnm := (name_of_methodNamed Bd.named Bd.method).1
  have X0 : Stand p l e ({ frames := 1, cells := 0, slots := 0, locals := 12 } : Room) s m #[(.ref a)] below meth c s₁ [] 0 0 := Stand.of_body Bd
  have e0 : s₁.heap = h0 := by rw [← hh, Bd.state]; rfl
  have N0 := Fr.nil n0
  obtain ⟨A, hA⟩ : ∃ A, A = s₁.setTop (entryFrame m #[(.ref a)] 1) := ⟨_, rfl⟩
  rw [← hA]
  have g0 : Gz p.tables e below A s₁ (mkF m 0 #[.val (.ref a)] []) := fun tq kq => by rw [hA]; exact castTop (ef15 m a) kq
  have g1 : Gz p.tables e below A s₁ (mkF m 1 #[.val (.ref a)] [(.ref a)]) := fun tq kq => g0 tq (XS.aloadN X0.here hx rfl (hb hby d15_0) rfl rfl kq)
  obtain ⟨cq2, kq2, q2a, q2b, q2c⟩ := isOf hZ e0 E_a
  obtain ⟨_, _, ⟨T2, L2, k2, n2⟩, -, X2, ⟨Lc2, hQ2, l2, y2, z2⟩, st2⟩ := X0.virtualBackUp hx (x := (⟨"com/example/measured_slack/measuredslack/DurationUnit", "ordinal", "()I"⟩ : MethodName)) (y := (⟨"java/lang/Enum", "ordinal", "()I"⟩ : MethodName)) (owner := "java/lang/Enum") hown (mvT hZ (hw _ (List.mem_of_getElem? (i := 10) rfl))) (mvT hZ (hw _ (List.mem_of_getElem? (i := 11) rfl))) (mvT hZ (hw _ (List.mem_of_getElem? (i := 12) rfl))) (by decide) (mvT hZ (hw _ (List.mem_of_getElem? (i := 14) rfl))) (mvT hZ (hw _ (List.mem_of_getElem? (i := 13) rfl))) (backOf (W := 0) (rm1 l Z a0 hw [] a (0 : Int32) h0 n0 Z0 FO) hZ (hw _ (List.mem_of_getElem? (i := 16) rfl)) (hw _ (List.mem_of_getElem? (i := 15) rfl)) (by decide) (by decide)) q2a q2c (g := (mkF m 1 #[.val (.ref a)] [(.ref a)])) rfl (by rw [hml]; rfl) (Steps.refl _) (argsL := []) (rest := []) (lenOf pd15_0 rfl) rfl (by show 2 * 0 + _ ≤ _; exact Nat.le_of_eq rfl) (hb hby d15_1) (fun _ _ => ⟨rfl, e0, (by decide : 0 + 0 ≤ _), (by decide : 0 + 0 ≤ _)⟩)
  dsimp only [Pt.U, Pt.locs, Pt.cells, Pt.slots] at X2 l2 y2 z2 st2 hQ2
  subst l2 y2 z2
  obtain ⟨rfl, N2q, e2⟩ := hQ2
  have N2 := Fr.app N0 N2q
  have g3 : Gz p.tables e below A T2 (mkF m 4 #[.val (.ref a)] [(.int (0 : Int32))]) := fun tq kq => g1 tq (st2.trans kq)
  have g4 : Gz p.tables e below A T2 (mkF m 7 #[.val (.ref a)] []) := fun tq kq => g3 tq (XS.ifNo X2.here hx rfl (hb hby d15_4) rfl ((if0 _ _).trans (teq rfl).2) kq)
  obtain ⟨_, _, ⟨T5, L5, k5, n5⟩, -, X5, ⟨Lc5, hQ5, l5, y5, z5⟩, st5⟩ := Jvm.LawKit.callS X2 hx (y := (⟨"java/util/Optional", "empty", "()Ljava/util/Optional;"⟩ : MethodName)) hown (mvT hZ (hw _ (List.mem_of_getElem? (i := 19) rfl))) (mvT hZ (hw _ (List.mem_of_getElem? (i := 20) rfl))) (mvT hZ (hw _ (List.mem_of_getElem? (i := 21) rfl))) (mvT hZ (hw _ (List.mem_of_getElem? (i := 22) rfl))) (by decide) (backOf (W := 0) (rm2 l Z a0 hw [] em h0 n0 Z0 S_E) hZ (hw _ (List.mem_of_getElem? (i := 22) rfl)) (hw _ (List.mem_of_getElem? (i := 21) rfl)) (by decide) (by decide)) (g := (mkF m 7 #[.val (.ref a)] [])) rfl (by rw [hml]; rfl) (argsL := []) (rest := []) (lenOf pd15_1 rfl) rfl (by show 2 * 0 + _ ≤ _; exact Nat.le_of_eq rfl) (hb hby d15_7) (fun _ _ => ⟨rfl, e2, (by decide : 0 + 0 ≤ _), (by decide : 0 + 0 ≤ _)⟩)
  dsimp only [Pt.U, Pt.locs, Pt.cells, Pt.slots] at X5 l5 y5 z5 st5 hQ5
  subst l5 y5 z5
  obtain ⟨rfl, N5q, e5⟩ := hQ5
  have N5 := Fr.app N2 N5q
  have g6 : Gz p.tables e below A T5 (mkF m 10 #[.val (.ref a)] [(.ref em)]) := fun tq kq => g4 tq (st5 _ kq)
  obtain ⟨fs, hr, hrun, hended, hW, hsame⟩ := X5.leave (v := some (.ref em)) (fun h => by rw [Bd.returns] at h; cases h)
  refine ⟨_, _, g6 _ (retOut X5 hx Bd.returns rfl (Or.inr (Or.inr (Or.inr (Or.inr ⟨rfl, rfl, rfl⟩)))) (hb hby d15_10) hr), hrun, hended, _, _, rfl, ?_, ⟨_, rfl⟩, hW, hsame.mono (by decide) (by decide)⟩
  show Q15 Z a em h0 n0 _ T5.heap _
  rw [e5]
  exact ⟨rfl, N5, rfl⟩

theorem d16_0 : decode prog_5_method_7_code 0 = .ok (.aload_n 0, 1) := by decide +kernel
theorem d16_1 : decode prog_5_method_7_code 1 = .ok (.invokevirtual 76, 3) := by decide +kernel
theorem d16_4 : decode prog_5_method_7_code 4 = .ok (.ifCond .ne 7, 3) := by decide +kernel
theorem d16_11 : decode prog_5_method_7_code 11 = .ok (.invokestatic 52, 3) := by decide +kernel
theorem d16_14 : decode prog_5_method_7_code 14 = .ok (.aload_n 0, 1) := by decide +kernel
theorem d16_15 : decode prog_5_method_7_code 15 = .ok (.invokevirtual 76, 3) := by decide +kernel
theorem d16_18 : decode prog_5_method_7_code 18 = .ok (.iconst 1, 1) := by decide +kernel
theorem d16_19 : decode prog_5_method_7_code 19 = .ok (.isub, 1) := by decide +kernel
theorem d16_20 : decode prog_5_method_7_code 20 = .ok (.aaload, 1) := by decide +kernel
theorem d16_21 : decode prog_5_method_7_code 21 = .ok (.getfield 48, 3) := by decide +kernel
theorem d16_24 : decode prog_5_method_7_code 24 = .ok (.aload_n 0, 1) := by decide +kernel
theorem d16_25 : decode prog_5_method_7_code 25 = .ok (.getfield 48, 3) := by decide +kernel
theorem d16_28 : decode prog_5_method_7_code 28 = .ok (.ldiv, 1) := by decide +kernel
theorem d16_29 : decode prog_5_method_7_code 29 = .ok (.invokestatic 85, 3) := by decide +kernel
theorem d16_32 : decode prog_5_method_7_code 32 = .ok (.invokestatic 90, 3) := by decide +kernel
theorem d16_35 : decode prog_5_method_7_code 35 = .ok (.areturn, 1) := by decide +kernel
theorem pn16 : plainName "com/example/measured_slack/measuredslack/DurationUnit" = true := by first | (simp [plainName, overriddenIn]; done) | decide +kernel
theorem pd16_0 : parseMethodDescriptor "()I" = some ⟨[], some .int⟩ := by decide +kernel
theorem pd16_1 : parseMethodDescriptor "()[Lcom/example/measured_slack/measuredslack/DurationUnit;" = some ⟨[], some (.array (.object "com/example/measured_slack/measuredslack/DurationUnit"))⟩ := by decide +kernel
theorem pd16_2 : parseMethodDescriptor "(J)Ljava/lang/Long;" = some ⟨[.long], some (.object "java/lang/Long")⟩ := by decide +kernel
theorem pd16_3 : parseMethodDescriptor "(Ljava/lang/Object;)Ljava/util/Optional;" = some ⟨[(.object "java/lang/Object")], some (.object "java/util/Optional")⟩ := by decide +kernel
theorem ef16 (m : MethodId) (x0 : Addr) : entryFrame m #[(.ref x0)] 1 = mkF m 0 #[.val (.ref x0)] [] := by first | (simp [entryFrame, mkF, argsToLocals, Value.category]; done) | rfl
def Q16 (Z : State) (a : Addr) (o : Int32) (ar : Addr) (k : ClassId) (w : Nat → Addr) (pv : Addr) (x : Int64) (y : Int64) (q : Int64) (h0 : Heap) (n0 : Nat) (v : Option Value) (h : Heap) (L : List Loc) : Prop := ∃ r b, v = some (.ref r) ∧ Fr n0 L ∧ Ext h0 h ∧ Exa Z h r "java/util/Optional" ∧ Fld Z h r "java/util/Optional" "value" "Ljava/lang/Object;" (.ref b) ∧ Exa Z h b "java/lang/Long" ∧ Fld Z h b "java/lang/Long" "value" "J" (.long q)
set_option maxRecDepth 65536 in
set_option maxHeartbeats 40000000 in
theorem rm16 (l : Launch) (Z : State) (a0 : Array Value) (hw : ∀ d ∈ tables_1, d.before a0 Z = true) (ws : List Jvm.Cond) (a : Addr) (o : Int32) (ar : Addr) (k : ClassId) (w : Nat → Addr) (pv : Addr) (x : Int64) (y : Int64) (q : Int64) (h0 : Heap) (n0 : Nat) (Z0 : n0 ≤ h0.size) (FO : Fld Z h0 a "java/lang/Enum" "ordinal" "I" (.int o)) (E_a : Exa Z h0 a "com/example/measured_slack/measuredslack/DurationUnit") (S_V : Sta Z h0 "com/example/measured_slack/measuredslack/DurationUnit" "$VALUES" "[Lcom/example/measured_slack/measuredslack/DurationUnit;" (.ref ar)) (V0 : Arv Z h0 ar k (.object "com/example/measured_slack/measuredslack/DurationUnit") (7 : Int32) [(.ref (w 0)), (.ref (w 1)), (.ref (w 2)), (.ref (w 3)), (.ref (w 4)), (.ref (w 5)), (.ref (w 6))] .null) (E0 : Exa Z h0 ar "[Lcom/example/measured_slack/measuredslack/DurationUnit;") (ho : ¬ o = (0 : Int32)) (hinb : ¬ (o - (1 : Int32)) < 0 ∧ (o - (1 : Int32)) < (7 : Int32)) (hget : [(Value.ref (w 0)), (Value.ref (w 1)), (Value.ref (w 2)), (Value.ref (w 3)), (Value.ref (w 4)), (Value.ref (w 5)), (Value.ref (w 6))].getD (o - (1 : Int32)).toNatClampNeg Value.null = .ref pv) (F_p : Fld Z h0 pv "com/example/measured_slack/measuredslack/DurationUnit" "nanos" "J" (.long x)) (F_a : Fld Z h0 a "com/example/measured_slack/measuredslack/DurationUnit" "nanos" "J" (.long y)) (hy : y ≠ 0) (hq : x / y = q) (hq1 : ¬ (q < (-128 : Int64))) (hq2 : (127 : Int64) < q) :
    MetFree l (⟨"com/example/measured_slack/measuredslack/DurationUnit", "perLargerUnit", "()Ljava/util/Optional;"⟩ : MethodName) (head1 (Jvm.Cond.code (⟨"com/example/measured_slack/measuredslack/DurationUnit", "perLargerUnit", "()Ljava/util/Optional;"⟩ : MethodName) prog_5_method_7_code 1 (some (.object "java/util/Optional")) :: ws) ({ frames := 4, cells := 3, slots := 9, locals := 53 } : Room)) (fun aq Uq => aq = #[(.ref a)] ∧ Z.Warmed39 Uq.vm ∧ Uq.heap = h0) (fun _ _ _ _ _ => True) (fun _ Uq oq Uq' => ∃ vq Lq, oq = .returned vq ∧ Q16 Z a o ar k w pv x y q h0 n0 vq Uq'.heap Lq ∧ FrameEnd Uq oq Uq' Lq ({ frames := 4, cells := 3, slots := 9, locals := 53 } : Room).cells ({ frames := 4, cells := 3, slots := 9, locals := 53 } : Room).slots) := by
  refine MetFree.of_bodySF (plainFor_of_name pn16) hisR ?_
  intro p e s m args below meth c s₁ Bd hml0 hP hK
  obtain ⟨rfl, hZ, hh⟩ := hP
  have hx := Bd.exec
  have hby := Bd.bytes
  have hml : c.maxLocals = 1 := hml0
  have hown : s.vm.findClass "com/example/measured_slack/measuredslack/DurationUnit" = some m.cls := findClass_of_methodNamed Bd.named
  have hnm := (name_of_methodNamed Bd.named Bd.method).1
  have X0 : Stand p l e ({ frames := 4, cells := 3, slots := 9, locals := 53 } : Room) s m #[(.ref a)] below meth c s₁ [] 0 0 := Stand.of_body Bd
  have e0 : s₁.heap = h0 := by rw [← hh, Bd.state]; rfl
  have N0 := Fr.nil n0
  obtain ⟨A, hA⟩ : ∃ A, A = s₁.setTop (entryFrame m #[(.ref a)] 1) := ⟨_, rfl⟩
  rw [← hA]
  have g0 : Gz p.tables e below A s₁ (mkF m 0 #[.val (.ref a)] []) := fun tq kq => by rw [hA]; exact castTop (ef16 m a) kq
  have g1 : Gz p.tables e below A s₁ (mkF m 1 #[.val (.ref a)] [(.ref a)]) := fun tq kq => g0 tq (XS.aloadN X0.here hx rfl (hb hby d16_0) rfl rfl kq)
  obtain ⟨cq2, kq2, q2a, q2b, q2c⟩ := isOf hZ e0 E_a
  obtain ⟨_, _, ⟨T2, L2, k2, n2⟩, -, X2, ⟨Lc2, hQ2, l2, y2, z2⟩, st2⟩ := X0.virtualBackUp hx (x := (⟨"com/example/measured_slack/measuredslack/DurationUnit", "ordinal", "()I"⟩ : MethodName)) (y := (⟨"java/lang/Enum", "ordinal", "()I"⟩ : MethodName)) (owner := "java/lang/Enum") hown (mvT hZ (hw _ (List.mem_of_getElem? (i := 10) rfl))) (mvT hZ (hw _ (List.mem_of_getElem? (i := 11) rfl))) (mvT hZ (hw _ (List.mem_of_getElem? (i := 12) rfl))) (by decide) (mvT hZ (hw _ (List.mem_of_getElem? (i := 14) rfl))) (mvT hZ (hw _ (List.mem_of_getElem? (i := 13) rfl))) (backOf (W := 0) (rm1 l Z a0 hw [] a o h0 n0 Z0 FO) hZ (hw _ (List.mem_of_getElem? (i := 16) rfl)) (hw _ (List.mem_of_getElem? (i := 15) rfl)) (by decide) (by decide)) q2a q2c (g := (mkF m 1 #[.val (.ref a)] [(.ref a)])) rfl (by rw [hml]; rfl) (Steps.refl _) (argsL := []) (rest := []) (lenOf pd16_0 rfl) rfl (by show 2 * 0 + _ ≤ _; exact Nat.le_of_eq rfl) (hb hby d16_1) (fun _ _ => ⟨rfl, e0, (by decide : 0 + 0 ≤ _), (by decide : 0 + 0 ≤ _)⟩)
  dsimp only [Pt.U, Pt.locs, Pt.cells, Pt.slots] at X2 l2 y2 z2 st2 hQ2
  subst l2 y2 z2
  obtain ⟨rfl, N2q, e2⟩ := hQ2
  have N2 := Fr.app N0 N2q
  have g3 : Gz p.tables e below A T2 (mkF m 4 #[.val (.ref a)] [(.int o)]) := fun tq kq => g1 tq (st2.trans kq)
  have g4 : Gz p.tables e below A T2 (mkF m 11 #[.val (.ref a)] []) := fun tq kq => g3 tq (XS.ifYes X2.here hx rfl (pc0 := 4) (pc' := 11) rfl (hb hby d16_4) rfl ((if0 _ _).trans (feq ho).2) (by decide) (by decide) kq)
  obtain ⟨_, _, ⟨T5, L5, k5, n5⟩, -, X5, ⟨Lc5, hQ5, l5, y5, z5⟩, st5⟩ := Jvm.LawKit.callS X2 hx (y := (⟨"com/example/measured_slack/measuredslack/DurationUnit", "values", "()[Lcom/example/measured_slack/measuredslack/DurationUnit;"⟩ : MethodName)) hown (mvT hZ (hw _ (List.mem_of_getElem? (i := 34) rfl))) (mvT hZ (hw _ (List.mem_of_getElem? (i := 35) rfl))) (mvT hZ (hw _ (List.mem_of_getElem? (i := 2) rfl))) (mvT hZ (hw _ (List.mem_of_getElem? (i := 36) rfl))) (by decide) (backOf (W := 0) (rm14 l Z a0 hw [] ar k [(.ref (w 0)), (.ref (w 1)), (.ref (w 2)), (.ref (w 3)), (.ref (w 4)), (.ref (w 5)), (.ref (w 6))] h0 n0 Z0 S_V V0 E0) hZ (hw _ (List.mem_of_getElem? (i := 36) rfl)) (hw _ (List.mem_of_getElem? (i := 2) rfl)) (by decide) (by decide)) (g := (mkF m 11 #[.val (.ref a)] [])) rfl (by rw [hml]; rfl) (argsL := []) (rest := []) (lenOf pd16_1 rfl) rfl (by show 2 * 0 + _ ≤ _; exact Nat.le_of_eq rfl) (hb hby d16_11) (fun _ _ => ⟨rfl, e2, (by decide : 0 + 1 ≤ _), (by decide : 0 + 7 ≤ _)⟩)
  dsimp only [Pt.U, Pt.locs, Pt.cells, Pt.slots] at X5 l5 y5 z5 st5 hQ5
  subst l5 y5 z5
  obtain ⟨b5, rfl, N5q, EQ5, VQ5⟩ := hQ5
  have N5 := Fr.app N2 N5q
  have g6 : Gz p.tables e below A T5 (mkF m 14 #[.val (.ref a)] [(.ref b5)]) := fun tq kq => g4 tq (st5 _ kq)
  have K7 := EQ5
  have g8 : Gz p.tables e below A T5 (mkF m 15 #[.val (.ref a)] [(.ref a), (.ref b5)]) := fun tq kq => g6 tq (XS.aloadN X5.here hx rfl (hb hby d16_14) rfl rfl kq)
  obtain ⟨cq9, kq9, q9a, q9b, q9c⟩ := isOf hZ rfl (E_a.ext K7)
  obtain ⟨_, _, ⟨T9, L9, k9, n9⟩, -, X9, ⟨Lc9, hQ9, l9, y9, z9⟩, st9⟩ := X5.virtualBackUp hx (x := (⟨"com/example/measured_slack/measuredslack/DurationUnit", "ordinal", "()I"⟩ : MethodName)) (y := (⟨"java/lang/Enum", "ordinal", "()I"⟩ : MethodName)) (owner := "java/lang/Enum") hown (mvT hZ (hw _ (List.mem_of_getElem? (i := 10) rfl))) (mvT hZ (hw _ (List.mem_of_getElem? (i := 11) rfl))) (mvT hZ (hw _ (List.mem_of_getElem? (i := 12) rfl))) (by decide) (mvT hZ (hw _ (List.mem_of_getElem? (i := 14) rfl))) (mvT hZ (hw _ (List.mem_of_getElem? (i := 13) rfl))) (backOf (W := 1) (rm1 l Z a0 hw [] a o T5.heap n0 (Nat.le_trans Z0 K7.1) (FO.ext K7)) hZ (hw _ (List.mem_of_getElem? (i := 16) rfl)) (hw _ (List.mem_of_getElem? (i := 15) rfl)) (by decide) (by decide)) q9a q9c (g := (mkF m 15 #[.val (.ref a)] [(.ref a), (.ref b5)])) rfl (by rw [hml]; rfl) (Steps.refl _) (argsL := []) (rest := [(.ref b5)]) (lenOf pd16_0 rfl) rfl (by show 2 * 0 + _ ≤ _; exact Nat.le_of_eq rfl) (hb hby d16_15) (fun _ _ => ⟨rfl, rfl, (by decide : 1 + 0 ≤ _), (by decide : 7 + 0 ≤ _)⟩)
  dsimp only [Pt.U, Pt.locs, Pt.cells, Pt.slots] at X9 l9 y9 z9 st9 hQ9
  subst l9 y9 z9
  obtain ⟨rfl, N9q, e9⟩ := hQ9
  have N9 := Fr.app N5 N9q
  have g10 : Gz p.tables e below A T9 (mkF m 18 #[.val (.ref a)] [(.int o), (.ref b5)]) := fun tq kq => g8 tq (st9.trans kq)
  have g11 : Gz p.tables e below A T9 (mkF m 19 #[.val (.ref a)] [(.int (1 : Int32)), (.int o), (.ref b5)]) := fun tq kq => g10 tq (XS.iconst X9.here hx rfl (hb hby d16_18) kq)
  have g12 : Gz p.tables e below A T9 (mkF m 20 #[.val (.ref a)] [(.int (o - (1 : Int32))), (.ref b5)]) := fun tq kq => g11 tq (XS.isub X9.here hx rfl (hb hby d16_19) rfl kq)
  obtain ⟨cl13, Ar13, q13, Sz13, Nn13, Hh13, G13⟩ := id VQ5
  have hin13 : ¬ ((o - (1 : Int32)) < 0 ∨ cl13.slots.size ≤ (o - (1 : Int32)).toNatClampNeg) := inb_of Sz13 hinb
  have hat13 : cl13.slots[(o - (1 : Int32)).toNatClampNeg]? = some (.ref pv) := Has.at Hh13 hin13 hget
  have g14 : Gz p.tables e below A T9 (mkF m 21 #[.val (.ref a)] [(.ref pv)]) := fun tq kq => g12 tq (X9.aaload hx (j := (o - (1 : Int32))) (v := (.ref pv)) (by rw [e9]; exact Ar13.1) (State.isArrayOf_alike hZ.alike Ar13.2.1) rfl Ar13.2.2 hin13 hat13 (g := (mkF m 20 #[.val (.ref a)] [(.int (o - (1 : Int32))), (.ref b5)])) rfl rfl (hb hby d16_20) _ kq)
  obtain ⟨T15, X15, e15, st15⟩ := getF X9 hx hZ hown (host := "") (Or.inl (hw _ (List.mem_of_getElem? (i := 54) rfl))) Via.refl e9 (F_p.ext K7) (g := (mkF m 21 #[.val (.ref a)] [(.ref pv)])) rfl rfl (hb hby d16_21)
  have g16 : Gz p.tables e below A T15 (mkF m 24 #[.val (.ref a)] [(.long x)]) := fun tq kq => g14 tq (st15 tq kq)
  have g17 : Gz p.tables e below A T15 (mkF m 25 #[.val (.ref a)] [(.ref a), (.long x)]) := fun tq kq => g16 tq (XS.aloadN X15.here hx rfl (hb hby d16_24) rfl rfl kq)
  obtain ⟨T18, X18, e18, st18⟩ := getF X15 hx hZ hown (host := "") (Or.inl (hw _ (List.mem_of_getElem? (i := 54) rfl))) Via.refl e15 (F_a.ext K7) (g := (mkF m 25 #[.val (.ref a)] [(.ref a), (.long x)])) rfl rfl (hb hby d16_25)
  have g19 : Gz p.tables e below A T18 (mkF m 28 #[.val (.ref a)] [(.long y), (.long x)]) := fun tq kq => g17 tq (st18 tq kq)
  have g20 : Gz p.tables e below A T18 (mkF m 29 #[.val (.ref a)] [(.long (x / y))]) := fun tq kq => g19 tq (XS.ldiv X18.here hx rfl (hb hby d16_28) rfl hy kq)
  rw [hq] at g20
  obtain ⟨_, _, ⟨T21, L21, k21, n21⟩, -, X21, ⟨Lc21, hQ21, l21, y21, z21⟩, st21⟩ := Jvm.LawKit.callS X18 hx (y := (⟨"java/lang/Long", "valueOf", "(J)Ljava/lang/Long;"⟩ : MethodName)) hown (mvT hZ (hw _ (List.mem_of_getElem? (i := 56) rfl))) (mvT hZ (hw _ (List.mem_of_getElem? (i := 57) rfl))) (mvT hZ (hw _ (List.mem_of_getElem? (i := 58) rfl))) (mvT hZ (hw _ (List.mem_of_getElem? (i := 59) rfl))) (by decide) (backOf (W := 0) (rm10 l Z a0 hw [] q T5.heap n0 (Nat.le_trans Z0 K7.1) hq1 hq2) hZ (hw _ (List.mem_of_getElem? (i := 59) rfl)) (hw _ (List.mem_of_getElem? (i := 58) rfl)) (by decide) (by decide)) (g := (mkF m 29 #[.val (.ref a)] [(.long q)])) rfl (by rw [hml]; rfl) (argsL := [(.long q)]) (rest := []) (lenOf pd16_2 rfl) rfl (by show 2 * 0 + _ ≤ _; exact Nat.le_of_eq rfl) (hb hby d16_29) (fun _ _ => ⟨rfl, e18, (by decide : 1 + 1 ≤ _), (by decide : 7 + 1 ≤ _)⟩)
  dsimp only [Pt.U, Pt.locs, Pt.cells, Pt.slots] at X21 l21 y21 z21 st21 hQ21
  subst l21 y21 z21
  obtain ⟨b21, rfl, N21q, EQ21, EX21, FX21⟩ := hQ21
  have N21 := Fr.app N9 N21q
  have g22 : Gz p.tables e below A T21 (mkF m 32 #[.val (.ref a)] [(.ref b21)]) := fun tq kq => g20 tq (st21 _ kq)
  have K23 := own_extE K7 EQ21
  have VQ5 := VQ5.ext EQ21
  obtain ⟨_, _, ⟨T24, L24, k24, n24⟩, -, X24, ⟨Lc24, hQ24, l24, y24, z24⟩, st24⟩ := Jvm.LawKit.callS X21 hx (y := (⟨"java/util/Optional", "of", "(Ljava/lang/Object;)Ljava/util/Optional;"⟩ : MethodName)) hown (mvT hZ (hw _ (List.mem_of_getElem? (i := 64) rfl))) (mvT hZ (hw _ (List.mem_of_getElem? (i := 65) rfl))) (mvT hZ (hw _ (List.mem_of_getElem? (i := 21) rfl))) (mvT hZ (hw _ (List.mem_of_getElem? (i := 66) rfl))) (by decide) (backOf (W := 0) (rm13 l Z a0 hw [] b21 T21.heap n0 (Nat.le_trans Z0 K23.1)) hZ (hw _ (List.mem_of_getElem? (i := 66) rfl)) (hw _ (List.mem_of_getElem? (i := 21) rfl)) (by decide) (by decide)) (g := (mkF m 32 #[.val (.ref a)] [(.ref b21)])) rfl (by rw [hml]; rfl) (argsL := [(.ref b21)]) (rest := []) (lenOf pd16_3 rfl) rfl (by show 2 * 0 + _ ≤ _; exact Nat.le_of_eq rfl) (hb hby d16_32) (fun _ _ => ⟨rfl, rfl, (by decide : 2 + 1 ≤ _), (by decide : 8 + 1 ≤ _)⟩)
  dsimp only [Pt.U, Pt.locs, Pt.cells, Pt.slots] at X24 l24 y24 z24 st24 hQ24
  subst l24 y24 z24
  obtain ⟨r24, rfl, N24q, EQ24, EX24, FX24⟩ := hQ24
  have N24 := Fr.app N21 N24q
  have g25 : Gz p.tables e below A T24 (mkF m 35 #[.val (.ref a)] [(.ref r24)]) := fun tq kq => g22 tq (st24 _ kq)
  have K26 := own_extE K23 EQ24
  have VQ5 := VQ5.ext EQ24
  have EX21 := EX21.ext EQ24
  have FX21 := FX21.ext EQ24
  obtain ⟨fs, hr, hrun, hended, hW, hsame⟩ := X24.leave (v := some (.ref r24)) (fun h => by rw [Bd.returns] at h; cases h)
  refine ⟨_, _, g25 _ (retOut X24 hx Bd.returns rfl (Or.inr (Or.inr (Or.inr (Or.inr ⟨rfl, rfl, rfl⟩)))) (hb hby d16_35) hr), hrun, hended, _, _, rfl, ?_, ⟨_, rfl⟩, hW, hsame.mono (by decide) (by decide)⟩
  show Q16 Z a o ar k w pv x y q h0 n0 _ T24.heap _
  exact ⟨_, _, rfl, N24, K26, EX24, FX24, EX21, FX21⟩

theorem d17_0 : decode prog_5_method_7_code 0 = .ok (.aload_n 0, 1) := by decide +kernel
theorem d17_1 : decode prog_5_method_7_code 1 = .ok (.invokevirtual 76, 3) := by decide +kernel
theorem d17_4 : decode prog_5_method_7_code 4 = .ok (.ifCond .ne 7, 3) := by decide +kernel
theorem d17_11 : decode prog_5_method_7_code 11 = .ok (.invokestatic 52, 3) := by decide +kernel
theorem d17_14 : decode prog_5_method_7_code 14 = .ok (.aload_n 0, 1) := by decide +kernel
theorem d17_15 : decode prog_5_method_7_code 15 = .ok (.invokevirtual 76, 3) := by decide +kernel
theorem d17_18 : decode prog_5_method_7_code 18 = .ok (.iconst 1, 1) := by decide +kernel
theorem d17_19 : decode prog_5_method_7_code 19 = .ok (.isub, 1) := by decide +kernel
theorem d17_20 : decode prog_5_method_7_code 20 = .ok (.aaload, 1) := by decide +kernel
theorem d17_21 : decode prog_5_method_7_code 21 = .ok (.getfield 48, 3) := by decide +kernel
theorem d17_24 : decode prog_5_method_7_code 24 = .ok (.aload_n 0, 1) := by decide +kernel
theorem d17_25 : decode prog_5_method_7_code 25 = .ok (.getfield 48, 3) := by decide +kernel
theorem d17_28 : decode prog_5_method_7_code 28 = .ok (.ldiv, 1) := by decide +kernel
theorem d17_29 : decode prog_5_method_7_code 29 = .ok (.invokestatic 85, 3) := by decide +kernel
theorem d17_32 : decode prog_5_method_7_code 32 = .ok (.invokestatic 90, 3) := by decide +kernel
theorem d17_35 : decode prog_5_method_7_code 35 = .ok (.areturn, 1) := by decide +kernel
theorem pn17 : plainName "com/example/measured_slack/measuredslack/DurationUnit" = true := by first | (simp [plainName, overriddenIn]; done) | decide +kernel
theorem pd17_0 : parseMethodDescriptor "()I" = some ⟨[], some .int⟩ := by decide +kernel
theorem pd17_1 : parseMethodDescriptor "()[Lcom/example/measured_slack/measuredslack/DurationUnit;" = some ⟨[], some (.array (.object "com/example/measured_slack/measuredslack/DurationUnit"))⟩ := by decide +kernel
theorem pd17_2 : parseMethodDescriptor "(J)Ljava/lang/Long;" = some ⟨[.long], some (.object "java/lang/Long")⟩ := by decide +kernel
theorem pd17_3 : parseMethodDescriptor "(Ljava/lang/Object;)Ljava/util/Optional;" = some ⟨[(.object "java/lang/Object")], some (.object "java/util/Optional")⟩ := by decide +kernel
theorem ef17 (m : MethodId) (x0 : Addr) : entryFrame m #[(.ref x0)] 1 = mkF m 0 #[.val (.ref x0)] [] := by first | (simp [entryFrame, mkF, argsToLocals, Value.category]; done) | rfl
def Q17 (Z : State) (a : Addr) (o : Int32) (ar : Addr) (k : ClassId) (w : Nat → Addr) (pv : Addr) (x : Int64) (y : Int64) (q : Int64) (ca : Addr) (clc : Cell) (j : Int32) (b : Addr) (h0 : Heap) (n0 : Nat) (v : Option Value) (h : Heap) (L : List Loc) : Prop := ∃ r b, v = some (.ref r) ∧ Fr n0 L ∧ Ext h0 h ∧ Exa Z h r "java/util/Optional" ∧ Fld Z h r "java/util/Optional" "value" "Ljava/lang/Object;" (.ref b) ∧ Exa Z h b "java/lang/Long" ∧ Fld Z h b "java/lang/Long" "value" "J" (.long q)
set_option maxRecDepth 65536 in
set_option maxHeartbeats 40000000 in
theorem rm17 (l : Launch) (Z : State) (a0 : Array Value) (hw : ∀ d ∈ tables_1, d.before a0 Z = true) (ws : List Jvm.Cond) (a : Addr) (o : Int32) (ar : Addr) (k : ClassId) (w : Nat → Addr) (pv : Addr) (x : Int64) (y : Int64) (q : Int64) (ca : Addr) (clc : Cell) (j : Int32) (b : Addr) (h0 : Heap) (n0 : Nat) (Z0 : n0 ≤ h0.size) (FO : Fld Z h0 a "java/lang/Enum" "ordinal" "I" (.int o)) (E_a : Exa Z h0 a "com/example/measured_slack/measuredslack/DurationUnit") (S_V : Sta Z h0 "com/example/measured_slack/measuredslack/DurationUnit" "$VALUES" "[Lcom/example/measured_slack/measuredslack/DurationUnit;" (.ref ar)) (V0 : Arv Z h0 ar k (.object "com/example/measured_slack/measuredslack/DurationUnit") (7 : Int32) [(.ref (w 0)), (.ref (w 1)), (.ref (w 2)), (.ref (w 3)), (.ref (w 4)), (.ref (w 5)), (.ref (w 6))] .null) (E0 : Exa Z h0 ar "[Lcom/example/measured_slack/measuredslack/DurationUnit;") (ho : ¬ o = (0 : Int32)) (hinb : ¬ (o - (1 : Int32)) < 0 ∧ (o - (1 : Int32)) < (7 : Int32)) (hget : [(Value.ref (w 0)), (Value.ref (w 1)), (Value.ref (w 2)), (Value.ref (w 3)), (Value.ref (w 4)), (Value.ref (w 5)), (Value.ref (w 6))].getD (o - (1 : Int32)).toNatClampNeg Value.null = .ref pv) (F_p : Fld Z h0 pv "com/example/measured_slack/measuredslack/DurationUnit" "nanos" "J" (.long x)) (F_a : Fld Z h0 a "com/example/measured_slack/measuredslack/DurationUnit" "nanos" "J" (.long y)) (hy : y ≠ 0) (hq : x / y = q) (hq1 : ¬ (q < (-128 : Int64))) (hq2 : ¬ ((127 : Int64) < q)) (S_C : Sta Z h0 "java/lang/Long$LongCache" "cache" "[Ljava/lang/Long;" (.ref ca)) (A_c : Arr Z h0 ca clc (.object "java/lang/Long")) (hj : (q.toInt32) + (128 : Int32) = j) (hin : ¬ (j < 0 ∨ clc.slots.size ≤ j.toNatClampNeg)) (hat : clc.slots[j.toNatClampNeg]? = some (.ref b)) (E_b : Exa Z h0 b "java/lang/Long") (F_b : Fld Z h0 b "java/lang/Long" "value" "J" (.long q)) :
    MetFree l (⟨"com/example/measured_slack/measuredslack/DurationUnit", "perLargerUnit", "()Ljava/util/Optional;"⟩ : MethodName) (head1 (Jvm.Cond.code (⟨"com/example/measured_slack/measuredslack/DurationUnit", "perLargerUnit", "()Ljava/util/Optional;"⟩ : MethodName) prog_5_method_7_code 1 (some (.object "java/util/Optional")) :: ws) ({ frames := 4, cells := 3, slots := 9, locals := 53 } : Room)) (fun aq Uq => aq = #[(.ref a)] ∧ Z.Warmed39 Uq.vm ∧ Uq.heap = h0) (fun _ _ _ _ _ => True) (fun _ Uq oq Uq' => ∃ vq Lq, oq = .returned vq ∧ Q17 Z a o ar k w pv x y q ca clc j b h0 n0 vq Uq'.heap Lq ∧ FrameEnd Uq oq Uq' Lq ({ frames := 4, cells := 3, slots := 9, locals := 53 } : Room).cells ({ frames := 4, cells := 3, slots := 9, locals := 53 } : Room).slots) := by
  refine MetFree.of_bodySF (plainFor_of_name pn17) hisR ?_
  intro p e s m args below meth c s₁ Bd hml0 hP hK
  obtain ⟨rfl, hZ, hh⟩ := hP
  have hx := Bd.exec
  have hby := Bd.bytes
  have hml : c.maxLocals = 1 := hml0
  have hown : s.vm.findClass "com/example/measured_slack/measuredslack/DurationUnit" = some m.cls := findClass_of_methodNamed Bd.named
  have hnm := (name_of_methodNamed Bd.named Bd.method).1
  have X0 : Stand p l e ({ frames := 4, cells := 3, slots := 9, locals := 53 } : Room) s m #[(.ref a)] below meth c s₁ [] 0 0 := Stand.of_body Bd
  have e0 : s₁.heap = h0 := by rw [← hh, Bd.state]; rfl
  have N0 := Fr.nil n0
  obtain ⟨A, hA⟩ : ∃ A, A = s₁.setTop (entryFrame m #[(.ref a)] 1) := ⟨_, rfl⟩
  rw [← hA]
  have g0 : Gz p.tables e below A s₁ (mkF m 0 #[.val (.ref a)] []) := fun tq kq => by rw [hA]; exact castTop (ef17 m a) kq
  have g1 : Gz p.tables e below A s₁ (mkF m 1 #[.val (.ref a)] [(.ref a)]) := fun tq kq => g0 tq (XS.aloadN X0.here hx rfl (hb hby d17_0) rfl rfl kq)
  obtain ⟨cq2, kq2, q2a, q2b, q2c⟩ := isOf hZ e0 E_a
  obtain ⟨_, _, ⟨T2, L2, k2, n2⟩, -, X2, ⟨Lc2, hQ2, l2, y2, z2⟩, st2⟩ := X0.virtualBackUp hx (x := (⟨"com/example/measured_slack/measuredslack/DurationUnit", "ordinal", "()I"⟩ : MethodName)) (y := (⟨"java/lang/Enum", "ordinal", "()I"⟩ : MethodName)) (owner := "java/lang/Enum") hown (mvT hZ (hw _ (List.mem_of_getElem? (i := 10) rfl))) (mvT hZ (hw _ (List.mem_of_getElem? (i := 11) rfl))) (mvT hZ (hw _ (List.mem_of_getElem? (i := 12) rfl))) (by decide) (mvT hZ (hw _ (List.mem_of_getElem? (i := 14) rfl))) (mvT hZ (hw _ (List.mem_of_getElem? (i := 13) rfl))) (backOf (W := 0) (rm1 l Z a0 hw [] a o h0 n0 Z0 FO) hZ (hw _ (List.mem_of_getElem? (i := 16) rfl)) (hw _ (List.mem_of_getElem? (i := 15) rfl)) (by decide) (by decide)) q2a q2c (g := (mkF m 1 #[.val (.ref a)] [(.ref a)])) rfl (by rw [hml]; rfl) (Steps.refl _) (argsL := []) (rest := []) (lenOf pd17_0 rfl) rfl (by show 2 * 0 + _ ≤ _; exact Nat.le_of_eq rfl) (hb hby d17_1) (fun _ _ => ⟨rfl, e0, (by decide : 0 + 0 ≤ _), (by decide : 0 + 0 ≤ _)⟩)
  dsimp only [Pt.U, Pt.locs, Pt.cells, Pt.slots] at X2 l2 y2 z2 st2 hQ2
  subst l2 y2 z2
  obtain ⟨rfl, N2q, e2⟩ := hQ2
  have N2 := Fr.app N0 N2q
  have g3 : Gz p.tables e below A T2 (mkF m 4 #[.val (.ref a)] [(.int o)]) := fun tq kq => g1 tq (st2.trans kq)
  have g4 : Gz p.tables e below A T2 (mkF m 11 #[.val (.ref a)] []) := fun tq kq => g3 tq (XS.ifYes X2.here hx rfl (pc0 := 4) (pc' := 11) rfl (hb hby d17_4) rfl ((if0 _ _).trans (feq ho).2) (by decide) (by decide) kq)
  obtain ⟨_, _, ⟨T5, L5, k5, n5⟩, -, X5, ⟨Lc5, hQ5, l5, y5, z5⟩, st5⟩ := Jvm.LawKit.callS X2 hx (y := (⟨"com/example/measured_slack/measuredslack/DurationUnit", "values", "()[Lcom/example/measured_slack/measuredslack/DurationUnit;"⟩ : MethodName)) hown (mvT hZ (hw _ (List.mem_of_getElem? (i := 34) rfl))) (mvT hZ (hw _ (List.mem_of_getElem? (i := 35) rfl))) (mvT hZ (hw _ (List.mem_of_getElem? (i := 2) rfl))) (mvT hZ (hw _ (List.mem_of_getElem? (i := 36) rfl))) (by decide) (backOf (W := 0) (rm14 l Z a0 hw [] ar k [(.ref (w 0)), (.ref (w 1)), (.ref (w 2)), (.ref (w 3)), (.ref (w 4)), (.ref (w 5)), (.ref (w 6))] h0 n0 Z0 S_V V0 E0) hZ (hw _ (List.mem_of_getElem? (i := 36) rfl)) (hw _ (List.mem_of_getElem? (i := 2) rfl)) (by decide) (by decide)) (g := (mkF m 11 #[.val (.ref a)] [])) rfl (by rw [hml]; rfl) (argsL := []) (rest := []) (lenOf pd17_1 rfl) rfl (by show 2 * 0 + _ ≤ _; exact Nat.le_of_eq rfl) (hb hby d17_11) (fun _ _ => ⟨rfl, e2, (by decide : 0 + 1 ≤ _), (by decide : 0 + 7 ≤ _)⟩)
  dsimp only [Pt.U, Pt.locs, Pt.cells, Pt.slots] at X5 l5 y5 z5 st5 hQ5
  subst l5 y5 z5
  obtain ⟨b5, rfl, N5q, EQ5, VQ5⟩ := hQ5
  have N5 := Fr.app N2 N5q
  have g6 : Gz p.tables e below A T5 (mkF m 14 #[.val (.ref a)] [(.ref b5)]) := fun tq kq => g4 tq (st5 _ kq)
  have K7 := EQ5
  have g8 : Gz p.tables e below A T5 (mkF m 15 #[.val (.ref a)] [(.ref a), (.ref b5)]) := fun tq kq => g6 tq (XS.aloadN X5.here hx rfl (hb hby d17_14) rfl rfl kq)
  obtain ⟨cq9, kq9, q9a, q9b, q9c⟩ := isOf hZ rfl (E_a.ext K7)
  obtain ⟨_, _, ⟨T9, L9, k9, n9⟩, -, X9, ⟨Lc9, hQ9, l9, y9, z9⟩, st9⟩ := X5.virtualBackUp hx (x := (⟨"com/example/measured_slack/measuredslack/DurationUnit", "ordinal", "()I"⟩ : MethodName)) (y := (⟨"java/lang/Enum", "ordinal", "()I"⟩ : MethodName)) (owner := "java/lang/Enum") hown (mvT hZ (hw _ (List.mem_of_getElem? (i := 10) rfl))) (mvT hZ (hw _ (List.mem_of_getElem? (i := 11) rfl))) (mvT hZ (hw _ (List.mem_of_getElem? (i := 12) rfl))) (by decide) (mvT hZ (hw _ (List.mem_of_getElem? (i := 14) rfl))) (mvT hZ (hw _ (List.mem_of_getElem? (i := 13) rfl))) (backOf (W := 1) (rm1 l Z a0 hw [] a o T5.heap n0 (Nat.le_trans Z0 K7.1) (FO.ext K7)) hZ (hw _ (List.mem_of_getElem? (i := 16) rfl)) (hw _ (List.mem_of_getElem? (i := 15) rfl)) (by decide) (by decide)) q9a q9c (g := (mkF m 15 #[.val (.ref a)] [(.ref a), (.ref b5)])) rfl (by rw [hml]; rfl) (Steps.refl _) (argsL := []) (rest := [(.ref b5)]) (lenOf pd17_0 rfl) rfl (by show 2 * 0 + _ ≤ _; exact Nat.le_of_eq rfl) (hb hby d17_15) (fun _ _ => ⟨rfl, rfl, (by decide : 1 + 0 ≤ _), (by decide : 7 + 0 ≤ _)⟩)
  dsimp only [Pt.U, Pt.locs, Pt.cells, Pt.slots] at X9 l9 y9 z9 st9 hQ9
  subst l9 y9 z9
  obtain ⟨rfl, N9q, e9⟩ := hQ9
  have N9 := Fr.app N5 N9q
  have g10 : Gz p.tables e below A T9 (mkF m 18 #[.val (.ref a)] [(.int o), (.ref b5)]) := fun tq kq => g8 tq (st9.trans kq)
  have g11 : Gz p.tables e below A T9 (mkF m 19 #[.val (.ref a)] [(.int (1 : Int32)), (.int o), (.ref b5)]) := fun tq kq => g10 tq (XS.iconst X9.here hx rfl (hb hby d17_18) kq)
  have g12 : Gz p.tables e below A T9 (mkF m 20 #[.val (.ref a)] [(.int (o - (1 : Int32))), (.ref b5)]) := fun tq kq => g11 tq (XS.isub X9.here hx rfl (hb hby d17_19) rfl kq)
  obtain ⟨cl13, Ar13, q13, Sz13, Nn13, Hh13, G13⟩ := id VQ5
  have hin13 : ¬ ((o - (1 : Int32)) < 0 ∨ cl13.slots.size ≤ (o - (1 : Int32)).toNatClampNeg) := inb_of Sz13 hinb
  have hat13 : cl13.slots[(o - (1 : Int32)).toNatClampNeg]? = some (.ref pv) := Has.at Hh13 hin13 hget
  have g14 : Gz p.tables e below A T9 (mkF m 21 #[.val (.ref a)] [(.ref pv)]) := fun tq kq => g12 tq (X9.aaload hx (j := (o - (1 : Int32))) (v := (.ref pv)) (by rw [e9]; exact Ar13.1) (State.isArrayOf_alike hZ.alike Ar13.2.1) rfl Ar13.2.2 hin13 hat13 (g := (mkF m 20 #[.val (.ref a)] [(.int (o - (1 : Int32))), (.ref b5)])) rfl rfl (hb hby d17_20) _ kq)
  obtain ⟨T15, X15, e15, st15⟩ := getF X9 hx hZ hown (host := "") (Or.inl (hw _ (List.mem_of_getElem? (i := 54) rfl))) Via.refl e9 (F_p.ext K7) (g := (mkF m 21 #[.val (.ref a)] [(.ref pv)])) rfl rfl (hb hby d17_21)
  have g16 : Gz p.tables e below A T15 (mkF m 24 #[.val (.ref a)] [(.long x)]) := fun tq kq => g14 tq (st15 tq kq)
  have g17 : Gz p.tables e below A T15 (mkF m 25 #[.val (.ref a)] [(.ref a), (.long x)]) := fun tq kq => g16 tq (XS.aloadN X15.here hx rfl (hb hby d17_24) rfl rfl kq)
  obtain ⟨T18, X18, e18, st18⟩ := getF X15 hx hZ hown (host := "") (Or.inl (hw _ (List.mem_of_getElem? (i := 54) rfl))) Via.refl e15 (F_a.ext K7) (g := (mkF m 25 #[.val (.ref a)] [(.ref a), (.long x)])) rfl rfl (hb hby d17_25)
  have g19 : Gz p.tables e below A T18 (mkF m 28 #[.val (.ref a)] [(.long y), (.long x)]) := fun tq kq => g17 tq (st18 tq kq)
  have g20 : Gz p.tables e below A T18 (mkF m 29 #[.val (.ref a)] [(.long (x / y))]) := fun tq kq => g19 tq (XS.ldiv X18.here hx rfl (hb hby d17_28) rfl hy kq)
  rw [hq] at g20
  obtain ⟨_, _, ⟨T21, L21, k21, n21⟩, -, X21, ⟨Lc21, hQ21, l21, y21, z21⟩, st21⟩ := Jvm.LawKit.callS X18 hx (y := (⟨"java/lang/Long", "valueOf", "(J)Ljava/lang/Long;"⟩ : MethodName)) hown (mvT hZ (hw _ (List.mem_of_getElem? (i := 56) rfl))) (mvT hZ (hw _ (List.mem_of_getElem? (i := 57) rfl))) (mvT hZ (hw _ (List.mem_of_getElem? (i := 58) rfl))) (mvT hZ (hw _ (List.mem_of_getElem? (i := 59) rfl))) (by decide) (backOf (W := 0) (rm11 l Z a0 hw [] q ca clc j b T5.heap n0 (Nat.le_trans Z0 K7.1) hq1 hq2 (S_C.ext K7) (A_c.ext K7) hj hin hat) hZ (hw _ (List.mem_of_getElem? (i := 59) rfl)) (hw _ (List.mem_of_getElem? (i := 58) rfl)) (by decide) (by decide)) (g := (mkF m 29 #[.val (.ref a)] [(.long q)])) rfl (by rw [hml]; rfl) (argsL := [(.long q)]) (rest := []) (lenOf pd17_2 rfl) rfl (by show 2 * 0 + _ ≤ _; exact Nat.le_of_eq rfl) (hb hby d17_29) (fun _ _ => ⟨rfl, e18, (by decide : 1 + 0 ≤ _), (by decide : 7 + 0 ≤ _)⟩)
  dsimp only [Pt.U, Pt.locs, Pt.cells, Pt.slots] at X21 l21 y21 z21 st21 hQ21
  subst l21 y21 z21
  obtain ⟨rfl, N21q, e21⟩ := hQ21
  have N21 := Fr.app N9 N21q
  have g22 : Gz p.tables e below A T21 (mkF m 32 #[.val (.ref a)] [(.ref b)]) := fun tq kq => g20 tq (st21 _ kq)
  obtain ⟨_, _, ⟨T23, L23, k23, n23⟩, -, X23, ⟨Lc23, hQ23, l23, y23, z23⟩, st23⟩ := Jvm.LawKit.callS X21 hx (y := (⟨"java/util/Optional", "of", "(Ljava/lang/Object;)Ljava/util/Optional;"⟩ : MethodName)) hown (mvT hZ (hw _ (List.mem_of_getElem? (i := 64) rfl))) (mvT hZ (hw _ (List.mem_of_getElem? (i := 65) rfl))) (mvT hZ (hw _ (List.mem_of_getElem? (i := 21) rfl))) (mvT hZ (hw _ (List.mem_of_getElem? (i := 66) rfl))) (by decide) (backOf (W := 0) (rm13 l Z a0 hw [] b T5.heap n0 (Nat.le_trans Z0 K7.1)) hZ (hw _ (List.mem_of_getElem? (i := 66) rfl)) (hw _ (List.mem_of_getElem? (i := 21) rfl)) (by decide) (by decide)) (g := (mkF m 32 #[.val (.ref a)] [(.ref b)])) rfl (by rw [hml]; rfl) (argsL := [(.ref b)]) (rest := []) (lenOf pd17_3 rfl) rfl (by show 2 * 0 + _ ≤ _; exact Nat.le_of_eq rfl) (hb hby d17_32) (fun _ _ => ⟨rfl, e21, (by decide : 1 + 1 ≤ _), (by decide : 7 + 1 ≤ _)⟩)
  dsimp only [Pt.U, Pt.locs, Pt.cells, Pt.slots] at X23 l23 y23 z23 st23 hQ23
  subst l23 y23 z23
  obtain ⟨r23, rfl, N23q, EQ23, EX23, FX23⟩ := hQ23
  have N23 := Fr.app N21 N23q
  have g24 : Gz p.tables e below A T23 (mkF m 35 #[.val (.ref a)] [(.ref r23)]) := fun tq kq => g22 tq (st23 _ kq)
  have K25 := own_extE K7 EQ23
  have VQ5 := VQ5.ext EQ23
  have c26 := (E_b.ext K7).ext EQ23
  have c27 := (F_b.ext K7).ext EQ23
  obtain ⟨fs, hr, hrun, hended, hW, hsame⟩ := X23.leave (v := some (.ref r23)) (fun h => by rw [Bd.returns] at h; cases h)
  refine ⟨_, _, g24 _ (retOut X23 hx Bd.returns rfl (Or.inr (Or.inr (Or.inr (Or.inr ⟨rfl, rfl, rfl⟩)))) (hb hby d17_35) hr), hrun, hended, _, _, rfl, ?_, ⟨_, rfl⟩, hW, hsame.mono (by decide) (by decide)⟩
  show Q17 Z a o ar k w pv x y q ca clc j b h0 n0 _ T23.heap _
  exact ⟨_, _, rfl, N23, K25, EX23, FX23, c26, c27⟩

theorem pn0 : plainName "com/example/measured_slack/measuredslack/DurationUnitPerLargerUnitPinLaw" = true := by first | (simp [plainName, overriddenIn]; done) | decide +kernel
theorem pd0_0 : parseMethodDescriptor "()Ljava/util/Optional;" = some ⟨[], some (.object "java/util/Optional")⟩ := by decide +kernel
theorem pd0_1 : parseMethodDescriptor "()Z" = some ⟨[], some .boolean⟩ := by decide +kernel
theorem pd0_2 : parseMethodDescriptor "()Ljava/lang/Object;" = some ⟨[], some (.object "java/lang/Object")⟩ := by decide +kernel
theorem pd0_3 : parseMethodDescriptor "()J" = some ⟨[], some .long⟩ := by decide +kernel
theorem ef0 (m : MethodId) (x0 : Int32) : entryFrame m #[(.int x0)] maxLocals = mkF m 0 #[.val (.int x0), .unset, .unset, .unset, .unset, .unset] [] := by first | (simp [entryFrame, mkF, argsToLocals, Value.category, maxLocals]; done) | rfl
def Q0 (Z : State) (p0 : Int32) (iv : Int32) (w : Nat → Addr) (ar : Addr) (k : ClassId) (em : Addr) (ca : Addr) (clc : Cell) (b152 : Addr) (b188 : Addr) (h0 : Heap) (n0 : Nat) (v : Option Value) (h : Heap) (L : List Loc) : Prop := v = some (.int 1) ∧ Fr n0 L
set_option maxRecDepth 65536 in
set_option maxHeartbeats 40000000 in
theorem rm0 (l : Launch) (Z : State) (a0 : Array Value) (hw : ∀ d ∈ tables_1, d.before a0 Z = true) (ws : List Jvm.Cond) (p0 : Int32) (iv : Int32) (w : Nat → Addr) (ar : Addr) (k : ClassId) (em : Addr) (ca : Addr) (clc : Cell) (b152 : Addr) (b188 : Addr) (h0 : Heap) (n0 : Nat) (Z0 : n0 ≤ h0.size) (hiv : (p0 &&& (2147483647 : Int32)) % (7 : Int32) = iv) (S_DAYS : Sta Z h0 "com/example/measured_slack/measuredslack/DurationUnit" "DAYS" "Lcom/example/measured_slack/measuredslack/DurationUnit;" (.ref (w 0))) (S_HOURS : Sta Z h0 "com/example/measured_slack/measuredslack/DurationUnit" "HOURS" "Lcom/example/measured_slack/measuredslack/DurationUnit;" (.ref (w 1))) (S_MINUTES : Sta Z h0 "com/example/measured_slack/measuredslack/DurationUnit" "MINUTES" "Lcom/example/measured_slack/measuredslack/DurationUnit;" (.ref (w 2))) (S_SECONDS : Sta Z h0 "com/example/measured_slack/measuredslack/DurationUnit" "SECONDS" "Lcom/example/measured_slack/measuredslack/DurationUnit;" (.ref (w 3))) (S_MILLISECONDS : Sta Z h0 "com/example/measured_slack/measuredslack/DurationUnit" "MILLISECONDS" "Lcom/example/measured_slack/measuredslack/DurationUnit;" (.ref (w 4))) (S_MICROSECONDS : Sta Z h0 "com/example/measured_slack/measuredslack/DurationUnit" "MICROSECONDS" "Lcom/example/measured_slack/measuredslack/DurationUnit;" (.ref (w 5))) (S_NANOSECONDS : Sta Z h0 "com/example/measured_slack/measuredslack/DurationUnit" "NANOSECONDS" "Lcom/example/measured_slack/measuredslack/DurationUnit;" (.ref (w 6))) (O_0 : Fld Z h0 (w 0) "java/lang/Enum" "ordinal" "I" (.int 0)) (O_1 : Fld Z h0 (w 1) "java/lang/Enum" "ordinal" "I" (.int 1)) (O_2 : Fld Z h0 (w 2) "java/lang/Enum" "ordinal" "I" (.int 2)) (O_3 : Fld Z h0 (w 3) "java/lang/Enum" "ordinal" "I" (.int 3)) (O_4 : Fld Z h0 (w 4) "java/lang/Enum" "ordinal" "I" (.int 4)) (O_5 : Fld Z h0 (w 5) "java/lang/Enum" "ordinal" "I" (.int 5)) (O_6 : Fld Z h0 (w 6) "java/lang/Enum" "ordinal" "I" (.int 6)) (M_0 : Fld Z h0 (w 0) "com/example/measured_slack/measuredslack/DurationUnit" "nanos" "J" (.long 86400000000000)) (M_1 : Fld Z h0 (w 1) "com/example/measured_slack/measuredslack/DurationUnit" "nanos" "J" (.long 3600000000000)) (M_2 : Fld Z h0 (w 2) "com/example/measured_slack/measuredslack/DurationUnit" "nanos" "J" (.long 60000000000)) (M_3 : Fld Z h0 (w 3) "com/example/measured_slack/measuredslack/DurationUnit" "nanos" "J" (.long 1000000000)) (M_4 : Fld Z h0 (w 4) "com/example/measured_slack/measuredslack/DurationUnit" "nanos" "J" (.long 1000000)) (M_5 : Fld Z h0 (w 5) "com/example/measured_slack/measuredslack/DurationUnit" "nanos" "J" (.long 1000)) (M_6 : Fld Z h0 (w 6) "com/example/measured_slack/measuredslack/DurationUnit" "nanos" "J" (.long 1)) (E_0 : Exa Z h0 (w 0) "com/example/measured_slack/measuredslack/DurationUnit") (E_1 : Exa Z h0 (w 1) "com/example/measured_slack/measuredslack/DurationUnit") (E_2 : Exa Z h0 (w 2) "com/example/measured_slack/measuredslack/DurationUnit") (E_3 : Exa Z h0 (w 3) "com/example/measured_slack/measuredslack/DurationUnit") (E_4 : Exa Z h0 (w 4) "com/example/measured_slack/measuredslack/DurationUnit") (E_5 : Exa Z h0 (w 5) "com/example/measured_slack/measuredslack/DurationUnit") (E_6 : Exa Z h0 (w 6) "com/example/measured_slack/measuredslack/DurationUnit") (S_V : Sta Z h0 "com/example/measured_slack/measuredslack/DurationUnit" "$VALUES" "[Lcom/example/measured_slack/measuredslack/DurationUnit;" (.ref ar)) (V0 : Arv Z h0 ar k (.object "com/example/measured_slack/measuredslack/DurationUnit") (7 : Int32) [(.ref (w 0)), (.ref (w 1)), (.ref (w 2)), (.ref (w 3)), (.ref (w 4)), (.ref (w 5)), (.ref (w 6))] .null) (E0 : Exa Z h0 ar "[Lcom/example/measured_slack/measuredslack/DurationUnit;") (S_E : Sta Z h0 "java/util/Optional" "EMPTY" "Ljava/util/Optional;" (.ref em)) (E_em : Exa Z h0 em "java/util/Optional") (F_em : Fld Z h0 em "java/util/Optional" "value" "Ljava/lang/Object;" .null) (S_C : Sta Z h0 "java/lang/Long$LongCache" "cache" "[Ljava/lang/Long;" (.ref ca)) (A_c : Arr Z h0 ca clc (.object "java/lang/Long")) (hin152 : ¬ ((152 : Int32) < 0 ∨ clc.slots.size ≤ (152 : Int32).toNatClampNeg)) (hin188 : ¬ ((188 : Int32) < 0 ∨ clc.slots.size ≤ (188 : Int32).toNatClampNeg)) (hat152 : clc.slots[(152 : Int32).toNatClampNeg]? = some (.ref b152)) (hat188 : clc.slots[(188 : Int32).toNatClampNeg]? = some (.ref b188)) (E_b152 : Exa Z h0 b152 "java/lang/Long") (E_b188 : Exa Z h0 b188 "java/lang/Long") (F_b152 : Fld Z h0 b152 "java/lang/Long" "value" "J" (.long 24)) (F_b188 : Fld Z h0 b188 "java/lang/Long" "value" "J" (.long 60)) :
    MetFree l x (head1 (Jvm.Cond.code x code maxLocals ret :: ws) room_1) (fun aq Uq => aq = #[(.int p0)] ∧ Z.Warmed39 Uq.vm ∧ Uq.heap = h0) (fun _ _ _ _ _ => True) (fun _ Uq oq Uq' => ∃ vq Lq, oq = .returned vq ∧ Q0 Z p0 iv w ar k em ca clc b152 b188 h0 n0 vq Uq'.heap Lq ∧ FrameEnd Uq oq Uq' Lq room_1.cells room_1.slots) := by
  refine MetFree.of_bodySF (plainFor_of_name pn0) hisR ?_
  intro p e s m args below meth c s₁ Bd hml0 hP hK
  obtain ⟨rfl, hZ, hh⟩ := hP
  have hx := Bd.exec
  have hby := Bd.bytes
  have hml : c.maxLocals = 6 := hml0
  have hown : s.vm.findClass "com/example/measured_slack/measuredslack/DurationUnitPerLargerUnitPinLaw" = some m.cls := findClass_of_methodNamed Bd.named
  have hnm := (name_of_methodNamed Bd.named Bd.method).1
  have X0 : Stand p l e room_1 s m #[(.int p0)] below meth c s₁ [] 0 0 := Stand.of_body Bd
  have e0 : s₁.heap = h0 := by rw [← hh, Bd.state]; rfl
  have N0 := Fr.nil n0
  obtain ⟨A, hA⟩ : ∃ A, A = s₁.setTop (entryFrame m #[(.int p0)] maxLocals) := ⟨_, rfl⟩
  rw [← hA]
  have g0 : Gz p.tables e below A s₁ (mkF m 0 #[.val (.int p0), .unset, .unset, .unset, .unset, .unset] []) := fun tq kq => by rw [hA]; exact castTop (ef0 m p0) kq
  have g1 : Gz p.tables e below A s₁ (mkF m 1 #[.val (.int p0), .unset, .unset, .unset, .unset, .unset] [(.int p0)]) := fun tq kq => g0 tq (XS.iloadN X0.here hx rfl (hb hby at_0) rfl kq)
  have g2 : Gz p.tables e below A s₁ (mkF m 3 #[.val (.int p0), .unset, .unset, .unset, .unset, .unset] [(.int (2147483647 : Int32)), (.int p0)]) := fun tq kq => g1 tq (X0.ldcInt hx hown (mvT hZ (hw _ (List.mem_of_getElem? (i := 0) rfl))) (g := (mkF m 1 #[.val (.int p0), .unset, .unset, .unset, .unset, .unset] [(.int p0)])) rfl (hb hby at_1) _ kq)
  have g3 : Gz p.tables e below A s₁ (mkF m 4 #[.val (.int p0), .unset, .unset, .unset, .unset, .unset] [(.int (p0 &&& (2147483647 : Int32)))]) := fun tq kq => g2 tq (XS.iand X0.here hx rfl (hb hby at_3) rfl kq)
  have g4 : Gz p.tables e below A s₁ (mkF m 6 #[.val (.int p0), .unset, .unset, .unset, .unset, .unset] [(.int (7 : Int32)), (.int (p0 &&& (2147483647 : Int32)))]) := fun tq kq => g3 tq (XS.bipush X0.here hx rfl (hb hby at_4) kq)
  have g5 : Gz p.tables e below A s₁ (mkF m 7 #[.val (.int p0), .unset, .unset, .unset, .unset, .unset] [(.int ((p0 &&& (2147483647 : Int32)) % (7 : Int32)))]) := fun tq kq => g4 tq (iremM X0 hx rfl (hb hby at_6) rfl (by decide) kq)
  rw [hiv] at g5
  have g6 : Gz p.tables e below A s₁ (mkF m 8 #[.val (.int p0), .val (.int iv), .unset, .unset, .unset, .unset] []) := fun tq kq => g5 tq (XS.istoreN X0.here hx rfl (hb hby at_7) rfl (l' := #[.val (.int p0), .val (.int iv), .unset, .unset, .unset, .unset]) rfl kq)
  have g7 : Gz p.tables e below A s₁ (mkF m 9 #[.val (.int p0), .val (.int iv), .unset, .unset, .unset, .unset] [(.int iv)]) := fun tq kq => g6 tq (XS.iloadN X0.here hx rfl (hb hby at_8) rfl kq)
  by_cases hc9 : iv = (0 : Int32)
  · have g8 : Gz p.tables e below A s₁ (mkF m 12 #[.val (.int p0), .val (.int iv), .unset, .unset, .unset, .unset] []) := fun tq kq => g7 tq (XS.ifNo X0.here hx rfl (hb hby at_9) rfl ((if0 _ _).trans (teq hc9).2) kq)
    obtain ⟨T9, X9, e9, st9⟩ := getS2 X0 hx hZ hown (host := "") (Or.inl (hw _ (List.mem_of_getElem? (i := 1) rfl))) Via.refl e0 S_DAYS (g := (mkF m 12 #[.val (.int p0), .val (.int iv), .unset, .unset, .unset, .unset] [])) rfl (hb hby at_12)
    have g10 : Gz p.tables e below A T9 (mkF m 15 #[.val (.int p0), .val (.int iv), .unset, .unset, .unset, .unset] [(.ref (w 0))]) := fun tq kq => g8 tq (st9 tq kq)
    have g11 : Gz p.tables e below A T9 (mkF m 16 #[.val (.int p0), .val (.int iv), .val (.ref (w 0)), .unset, .unset, .unset] []) := fun tq kq => g10 tq (XS.astoreN X9.here hx rfl (hb hby at_15) rfl rfl (l' := #[.val (.int p0), .val (.int iv), .val (.ref (w 0)), .unset, .unset, .unset]) rfl kq)
    have g12 : Gz p.tables e below A T9 (mkF m 19 #[.val (.int p0), .val (.int iv), .val (.ref (w 0)), .unset, .unset, .unset] [(.long (-1 : Int64))]) := fun tq kq => g11 tq (X9.ldc2Long hx hown (mvT hZ (hw _ (List.mem_of_getElem? (i := 4) rfl))) (g := (mkF m 16 #[.val (.int p0), .val (.int iv), .val (.ref (w 0)), .unset, .unset, .unset] [])) rfl (hb hby at_16) _ kq)
    have g13 : Gz p.tables e below A T9 (mkF m 20 #[.val (.int p0), .val (.int iv), .val (.ref (w 0)), .val (.long (-1 : Int64)), .second, .unset] []) := fun tq kq => g12 tq (XS.lstoreN X9.here hx rfl (hb hby at_19) rfl (l' := #[.val (.int p0), .val (.int iv), .val (.ref (w 0)), .val (.long (-1 : Int64)), .second, .unset]) rfl kq)
    have g14 : Gz p.tables e below A T9 (mkF m 111 #[.val (.int p0), .val (.int iv), .val (.ref (w 0)), .val (.long (-1 : Int64)), .second, .unset] []) := fun tq kq => g13 tq (XS.goto X9.here hx rfl (pc0 := 20) (pc' := 111) rfl (hb hby at_20) (by decide) (by decide) kq)
    have g15 : Gz p.tables e below A T9 (mkF m 112 #[.val (.int p0), .val (.int iv), .val (.ref (w 0)), .val (.long (-1 : Int64)), .second, .unset] [(.ref (w 0))]) := fun tq kq => g14 tq (XS.aloadN X9.here hx rfl (hb hby at_111) rfl rfl kq)
    obtain ⟨cq16, kq16, q16a, q16b, q16c⟩ := isOf hZ e9 E_0
    obtain ⟨_, _, ⟨T16, L16, k16, n16⟩, -, X16, ⟨Lc16, hQ16, l16, y16, z16⟩, st16⟩ := X9.virtualBack hx (y := (⟨"com/example/measured_slack/measuredslack/DurationUnit", "perLargerUnit", "()Ljava/util/Optional;"⟩ : MethodName)) (z := (⟨"com/example/measured_slack/measuredslack/DurationUnit", "perLargerUnit", "()Ljava/util/Optional;"⟩ : MethodName)) hown (mvT hZ (hw _ (List.mem_of_getElem? (i := 5) rfl))) (mvT hZ (hw _ (List.mem_of_getElem? (i := 6) rfl))) (notFace_of_selects (args := #[]) (mvT hZ (hw _ (List.mem_of_getElem? (i := 8) rfl)))) (mvT hZ (hw _ (List.mem_of_getElem? (i := 8) rfl))) (mvT hZ (hw _ (List.mem_of_getElem? (i := 7) rfl))) (by decide) (backOf (W := 0) (rm15 l Z a0 hw [] (w 0) em h0 n0 Z0 O_0 E_0 S_E) hZ (hw _ (List.mem_of_getElem? (i := 9) rfl)) (hw _ (List.mem_of_getElem? (i := 2) rfl)) (by decide) (by decide)) q16a q16c (g := (mkF m 112 #[.val (.int p0), .val (.int iv), .val (.ref (w 0)), .val (.long (-1 : Int64)), .second, .unset] [(.ref (w 0))])) rfl (by rw [hml]; rfl) (Steps.refl _) (argsL := []) (rest := []) (lenOf pd0_0 rfl) rfl (by show 2 * 0 + _ ≤ _; exact Nat.le_of_eq rfl) (hb hby at_112) (fun _ _ => ⟨rfl, e9, (by decide : 0 + 0 ≤ _), (by decide : 0 + 0 ≤ _)⟩)
    dsimp only [Pt.U, Pt.locs, Pt.cells, Pt.slots] at X16 l16 y16 z16 st16 hQ16
    subst l16 y16 z16
    obtain ⟨rfl, N16q, e16⟩ := hQ16
    have N16 := Fr.app N0 N16q
    have g17 : Gz p.tables e below A T16 (mkF m 115 #[.val (.int p0), .val (.int iv), .val (.ref (w 0)), .val (.long (-1 : Int64)), .second, .unset] [(.ref em)]) := fun tq kq => g15 tq (st16.trans kq)
    have g18 : Gz p.tables e below A T16 (mkF m 117 #[.val (.int p0), .val (.int iv), .val (.ref (w 0)), .val (.long (-1 : Int64)), .second, .val (.ref em)] []) := fun tq kq => g17 tq (XS.astore X16.here hx rfl (hb hby at_115) rfl rfl (l' := #[.val (.int p0), .val (.int iv), .val (.ref (w 0)), .val (.long (-1 : Int64)), .second, .val (.ref em)]) rfl kq)
    have g19 : Gz p.tables e below A T16 (mkF m 118 #[.val (.int p0), .val (.int iv), .val (.ref (w 0)), .val (.long (-1 : Int64)), .second, .val (.ref em)] [(.int iv)]) := fun tq kq => g18 tq (XS.iloadN X16.here hx rfl (hb hby at_117) rfl kq)
    have g20 : Gz p.tables e below A T16 (mkF m 121 #[.val (.int p0), .val (.int iv), .val (.ref (w 0)), .val (.long (-1 : Int64)), .second, .val (.ref em)] []) := fun tq kq => g19 tq (XS.ifNo X16.here hx rfl (hb hby at_118) rfl ((if0 _ _).trans (teq hc9).2) kq)
    have g21 : Gz p.tables e below A T16 (mkF m 123 #[.val (.int p0), .val (.int iv), .val (.ref (w 0)), .val (.long (-1 : Int64)), .second, .val (.ref em)] [(.ref em)]) := fun tq kq => g20 tq (XS.aload X16.here hx rfl (hb hby at_121) rfl rfl kq)
    obtain ⟨cq22, kq22, q22a, q22b, q22c⟩ := isOf hZ e16 E_em
    obtain ⟨_, _, ⟨T22, L22, k22, n22⟩, -, X22, ⟨Lc22, hQ22, l22, y22, z22⟩, st22⟩ := X16.virtualBack hx (y := (⟨"java/util/Optional", "isPresent", "()Z"⟩ : MethodName)) (z := (⟨"java/util/Optional", "isPresent", "()Z"⟩ : MethodName)) hown (mvT hZ (hw _ (List.mem_of_getElem? (i := 24) rfl))) (mvT hZ (hw _ (List.mem_of_getElem? (i := 25) rfl))) (notFace_of_selects (args := #[]) (mvT hZ (hw _ (List.mem_of_getElem? (i := 27) rfl)))) (mvT hZ (hw _ (List.mem_of_getElem? (i := 27) rfl))) (mvT hZ (hw _ (List.mem_of_getElem? (i := 26) rfl))) (by decide) (backOf (W := 0) (rm3 l Z a0 hw [] em h0 n0 Z0 F_em) hZ (hw _ (List.mem_of_getElem? (i := 28) rfl)) (hw _ (List.mem_of_getElem? (i := 21) rfl)) (by decide) (by decide)) q22a q22c (g := (mkF m 123 #[.val (.int p0), .val (.int iv), .val (.ref (w 0)), .val (.long (-1 : Int64)), .second, .val (.ref em)] [(.ref em)])) rfl (by rw [hml]; rfl) (Steps.refl _) (argsL := []) (rest := []) (lenOf pd0_1 rfl) rfl (by show 2 * 0 + _ ≤ _; exact Nat.le_of_eq rfl) (hb hby at_123) (fun _ _ => ⟨rfl, e16, (by decide : 0 + 0 ≤ _), (by decide : 0 + 0 ≤ _)⟩)
    dsimp only [Pt.U, Pt.locs, Pt.cells, Pt.slots] at X22 l22 y22 z22 st22 hQ22
    subst l22 y22 z22
    obtain ⟨rfl, N22q, e22⟩ := hQ22
    have N22 := Fr.app N16 N22q
    have g23 : Gz p.tables e below A T22 (mkF m 126 #[.val (.int p0), .val (.int iv), .val (.ref (w 0)), .val (.long (-1 : Int64)), .second, .val (.ref em)] [(.int (0 : Int32))]) := fun tq kq => g21 tq (st22.trans kq)
    have g24 : Gz p.tables e below A T22 (mkF m 129 #[.val (.int p0), .val (.int iv), .val (.ref (w 0)), .val (.long (-1 : Int64)), .second, .val (.ref em)] []) := fun tq kq => g23 tq (XS.ifNo X22.here hx rfl (hb hby at_126) rfl ((if0 _ _).trans (teq rfl).2) kq)
    have g25 : Gz p.tables e below A T22 (mkF m 130 #[.val (.int p0), .val (.int iv), .val (.ref (w 0)), .val (.long (-1 : Int64)), .second, .val (.ref em)] [(.int (1 : Int32))]) := fun tq kq => g24 tq (XS.iconst X22.here hx rfl (hb hby at_129) kq)
    have g26 : Gz p.tables e below A T22 (mkF m 134 #[.val (.int p0), .val (.int iv), .val (.ref (w 0)), .val (.long (-1 : Int64)), .second, .val (.ref em)] [(.int (1 : Int32))]) := fun tq kq => g25 tq (XS.goto X22.here hx rfl (pc0 := 130) (pc' := 134) rfl (hb hby at_130) (by decide) (by decide) kq)
    obtain ⟨fs, hr, hrun, hended, hW, hsame⟩ := X22.leave (v := some (.int (1 : Int32))) (fun h => by rw [Bd.returns] at h; cases h)
    refine ⟨_, _, g26 _ (retN X22 hx (t := .boolean) Bd.returns (by simp) (hb hby at_134) hr), hrun, hended, _, _, rfl, ?_, ⟨_, rfl⟩, hW, hsame.mono (by decide) (by decide)⟩
    show Q0 Z p0 iv w ar k em ca clc b152 b188 h0 n0 _ T22.heap _
    rw [e22]
    exact ⟨rfl, N22⟩
  · have g27 : Gz p.tables e below A s₁ (mkF m 23 #[.val (.int p0), .val (.int iv), .unset, .unset, .unset, .unset] []) := fun tq kq => g7 tq (XS.ifYes X0.here hx rfl (pc0 := 9) (pc' := 23) rfl (hb hby at_9) rfl ((if0 _ _).trans (feq hc9).2) (by decide) (by decide) kq)
    have g28 : Gz p.tables e below A s₁ (mkF m 24 #[.val (.int p0), .val (.int iv), .unset, .unset, .unset, .unset] [(.int iv)]) := fun tq kq => g27 tq (XS.iloadN X0.here hx rfl (hb hby at_23) rfl kq)
    have g29 : Gz p.tables e below A s₁ (mkF m 25 #[.val (.int p0), .val (.int iv), .unset, .unset, .unset, .unset] [(.int (1 : Int32)), (.int iv)]) := fun tq kq => g28 tq (XS.iconst X0.here hx rfl (hb hby at_24) kq)
    by_cases hc25 : iv = (1 : Int32)
    · have g30 : Gz p.tables e below A s₁ (mkF m 28 #[.val (.int p0), .val (.int iv), .unset, .unset, .unset, .unset] []) := fun tq kq => g29 tq (XS.icmpNo X0.here hx rfl (hb hby at_25) rfl (teq hc25).2 kq)
      obtain ⟨T31, X31, e31, st31⟩ := getS2 X0 hx hZ hown (host := "") (Or.inl (hw _ (List.mem_of_getElem? (i := 111) rfl))) Via.refl e0 S_HOURS (g := (mkF m 28 #[.val (.int p0), .val (.int iv), .unset, .unset, .unset, .unset] [])) rfl (hb hby at_28)
      have g32 : Gz p.tables e below A T31 (mkF m 31 #[.val (.int p0), .val (.int iv), .unset, .unset, .unset, .unset] [(.ref (w 1))]) := fun tq kq => g30 tq (st31 tq kq)
      have g33 : Gz p.tables e below A T31 (mkF m 32 #[.val (.int p0), .val (.int iv), .val (.ref (w 1)), .unset, .unset, .unset] []) := fun tq kq => g32 tq (XS.astoreN X31.here hx rfl (hb hby at_31) rfl rfl (l' := #[.val (.int p0), .val (.int iv), .val (.ref (w 1)), .unset, .unset, .unset]) rfl kq)
      have g34 : Gz p.tables e below A T31 (mkF m 35 #[.val (.int p0), .val (.int iv), .val (.ref (w 1)), .unset, .unset, .unset] [(.long (24 : Int64))]) := fun tq kq => g33 tq (X31.ldc2Long hx hown (mvT hZ (hw _ (List.mem_of_getElem? (i := 112) rfl))) (g := (mkF m 32 #[.val (.int p0), .val (.int iv), .val (.ref (w 1)), .unset, .unset, .unset] [])) rfl (hb hby at_32) _ kq)
      have g35 : Gz p.tables e below A T31 (mkF m 36 #[.val (.int p0), .val (.int iv), .val (.ref (w 1)), .val (.long (24 : Int64)), .second, .unset] []) := fun tq kq => g34 tq (XS.lstoreN X31.here hx rfl (hb hby at_35) rfl (l' := #[.val (.int p0), .val (.int iv), .val (.ref (w 1)), .val (.long (24 : Int64)), .second, .unset]) rfl kq)
      have g36 : Gz p.tables e below A T31 (mkF m 111 #[.val (.int p0), .val (.int iv), .val (.ref (w 1)), .val (.long (24 : Int64)), .second, .unset] []) := fun tq kq => g35 tq (XS.goto X31.here hx rfl (pc0 := 36) (pc' := 111) rfl (hb hby at_36) (by decide) (by decide) kq)
      have g37 : Gz p.tables e below A T31 (mkF m 112 #[.val (.int p0), .val (.int iv), .val (.ref (w 1)), .val (.long (24 : Int64)), .second, .unset] [(.ref (w 1))]) := fun tq kq => g36 tq (XS.aloadN X31.here hx rfl (hb hby at_111) rfl rfl kq)
      obtain ⟨cq38, kq38, q38a, q38b, q38c⟩ := isOf hZ e31 E_1
      obtain ⟨_, _, ⟨T38, L38, k38, n38⟩, -, X38, ⟨Lc38, hQ38, l38, y38, z38⟩, st38⟩ := X31.virtualBack hx (y := (⟨"com/example/measured_slack/measuredslack/DurationUnit", "perLargerUnit", "()Ljava/util/Optional;"⟩ : MethodName)) (z := (⟨"com/example/measured_slack/measuredslack/DurationUnit", "perLargerUnit", "()Ljava/util/Optional;"⟩ : MethodName)) hown (mvT hZ (hw _ (List.mem_of_getElem? (i := 5) rfl))) (mvT hZ (hw _ (List.mem_of_getElem? (i := 6) rfl))) (notFace_of_selects (args := #[]) (mvT hZ (hw _ (List.mem_of_getElem? (i := 8) rfl)))) (mvT hZ (hw _ (List.mem_of_getElem? (i := 8) rfl))) (mvT hZ (hw _ (List.mem_of_getElem? (i := 7) rfl))) (by decide) (backOf (W := 0) (rm17 l Z a0 hw [] (w 1) 1 ar k w (w 0) 86400000000000 3600000000000 24 ca clc 152 b152 h0 n0 Z0 O_1 E_1 S_V V0 E0 (by decide) ⟨by decide, by decide⟩ rfl M_0 M_1 (by decide) (by decide) (by decide) (by decide) S_C A_c (by decide) hin152 hat152 E_b152 F_b152) hZ (hw _ (List.mem_of_getElem? (i := 9) rfl)) (hw _ (List.mem_of_getElem? (i := 2) rfl)) (by decide) (by decide)) q38a q38c (g := (mkF m 112 #[.val (.int p0), .val (.int iv), .val (.ref (w 1)), .val (.long (24 : Int64)), .second, .unset] [(.ref (w 1))])) rfl (by rw [hml]; rfl) (Steps.refl _) (argsL := []) (rest := []) (lenOf pd0_0 rfl) rfl (by show 2 * 0 + _ ≤ _; exact Nat.le_of_eq rfl) (hb hby at_112) (fun _ _ => ⟨rfl, e31, (by decide : 0 + 3 ≤ _), (by decide : 0 + 9 ≤ _)⟩)
      dsimp only [Pt.U, Pt.locs, Pt.cells, Pt.slots] at X38 l38 y38 z38 st38 hQ38
      subst l38 y38 z38
      obtain ⟨r38, b38, rfl, N38q, EQ38, EX38, FX38, EY38, FY38⟩ := hQ38
      have N38 := Fr.app N0 N38q
      have g39 : Gz p.tables e below A T38 (mkF m 115 #[.val (.int p0), .val (.int iv), .val (.ref (w 1)), .val (.long (24 : Int64)), .second, .unset] [(.ref r38)]) := fun tq kq => g37 tq (st38.trans kq)
      have K40 := EQ38
      have g41 : Gz p.tables e below A T38 (mkF m 117 #[.val (.int p0), .val (.int iv), .val (.ref (w 1)), .val (.long (24 : Int64)), .second, .val (.ref r38)] []) := fun tq kq => g39 tq (XS.astore X38.here hx rfl (hb hby at_115) rfl rfl (l' := #[.val (.int p0), .val (.int iv), .val (.ref (w 1)), .val (.long (24 : Int64)), .second, .val (.ref r38)]) rfl kq)
      have g42 : Gz p.tables e below A T38 (mkF m 118 #[.val (.int p0), .val (.int iv), .val (.ref (w 1)), .val (.long (24 : Int64)), .second, .val (.ref r38)] [(.int iv)]) := fun tq kq => g41 tq (XS.iloadN X38.here hx rfl (hb hby at_117) rfl kq)
      have g43 : Gz p.tables e below A T38 (mkF m 135 #[.val (.int p0), .val (.int iv), .val (.ref (w 1)), .val (.long (24 : Int64)), .second, .val (.ref r38)] []) := fun tq kq => g42 tq (XS.ifYes X38.here hx rfl (pc0 := 118) (pc' := 135) rfl (hb hby at_118) rfl ((if0 _ _).trans (feq hc9).2) (by decide) (by decide) kq)
      have g44 : Gz p.tables e below A T38 (mkF m 137 #[.val (.int p0), .val (.int iv), .val (.ref (w 1)), .val (.long (24 : Int64)), .second, .val (.ref r38)] [(.ref r38)]) := fun tq kq => g43 tq (XS.aload X38.here hx rfl (hb hby at_135) rfl rfl kq)
      obtain ⟨cq45, kq45, q45a, q45b, q45c⟩ := isOf hZ rfl EX38
      obtain ⟨_, _, ⟨T45, L45, k45, n45⟩, -, X45, ⟨Lc45, hQ45, l45, y45, z45⟩, st45⟩ := X38.virtualBack hx (y := (⟨"java/util/Optional", "isPresent", "()Z"⟩ : MethodName)) (z := (⟨"java/util/Optional", "isPresent", "()Z"⟩ : MethodName)) hown (mvT hZ (hw _ (List.mem_of_getElem? (i := 24) rfl))) (mvT hZ (hw _ (List.mem_of_getElem? (i := 25) rfl))) (notFace_of_selects (args := #[]) (mvT hZ (hw _ (List.mem_of_getElem? (i := 27) rfl)))) (mvT hZ (hw _ (List.mem_of_getElem? (i := 27) rfl))) (mvT hZ (hw _ (List.mem_of_getElem? (i := 26) rfl))) (by decide) (backOf (W := 0) (rm4 l Z a0 hw [] r38 b38 T38.heap n0 (Nat.le_trans Z0 K40.1) FX38) hZ (hw _ (List.mem_of_getElem? (i := 28) rfl)) (hw _ (List.mem_of_getElem? (i := 21) rfl)) (by decide) (by decide)) q45a q45c (g := (mkF m 137 #[.val (.int p0), .val (.int iv), .val (.ref (w 1)), .val (.long (24 : Int64)), .second, .val (.ref r38)] [(.ref r38)])) rfl (by rw [hml]; rfl) (Steps.refl _) (argsL := []) (rest := []) (lenOf pd0_1 rfl) rfl (by show 2 * 0 + _ ≤ _; exact Nat.le_of_eq rfl) (hb hby at_137) (fun _ _ => ⟨rfl, rfl, (by decide : 3 + 0 ≤ _), (by decide : 9 + 0 ≤ _)⟩)
      dsimp only [Pt.U, Pt.locs, Pt.cells, Pt.slots] at X45 l45 y45 z45 st45 hQ45
      subst l45 y45 z45
      obtain ⟨rfl, N45q, e45⟩ := hQ45
      have N45 := Fr.app N38 N45q
      have g46 : Gz p.tables e below A T45 (mkF m 140 #[.val (.int p0), .val (.int iv), .val (.ref (w 1)), .val (.long (24 : Int64)), .second, .val (.ref r38)] [(.int (1 : Int32))]) := fun tq kq => g44 tq (st45.trans kq)
      have g47 : Gz p.tables e below A T45 (mkF m 145 #[.val (.int p0), .val (.int iv), .val (.ref (w 1)), .val (.long (24 : Int64)), .second, .val (.ref r38)] []) := fun tq kq => g46 tq (XS.ifYes X45.here hx rfl (pc0 := 140) (pc' := 145) rfl (hb hby at_140) rfl ((if0 _ _).trans (feq (by decide)).2) (by decide) (by decide) kq)
      have g48 : Gz p.tables e below A T45 (mkF m 147 #[.val (.int p0), .val (.int iv), .val (.ref (w 1)), .val (.long (24 : Int64)), .second, .val (.ref r38)] [(.ref r38)]) := fun tq kq => g47 tq (XS.aload X45.here hx rfl (hb hby at_145) rfl rfl kq)
      obtain ⟨cq49, kq49, q49a, q49b, q49c⟩ := isOf hZ e45 EX38
      obtain ⟨_, _, ⟨T49, L49, k49, n49⟩, -, X49, ⟨Lc49, hQ49, l49, y49, z49⟩, st49⟩ := X45.virtualBack hx (y := (⟨"java/util/Optional", "get", "()Ljava/lang/Object;"⟩ : MethodName)) (z := (⟨"java/util/Optional", "get", "()Ljava/lang/Object;"⟩ : MethodName)) hown (mvT hZ (hw _ (List.mem_of_getElem? (i := 80) rfl))) (mvT hZ (hw _ (List.mem_of_getElem? (i := 81) rfl))) (notFace_of_selects (args := #[]) (mvT hZ (hw _ (List.mem_of_getElem? (i := 83) rfl)))) (mvT hZ (hw _ (List.mem_of_getElem? (i := 83) rfl))) (mvT hZ (hw _ (List.mem_of_getElem? (i := 82) rfl))) (by decide) (backOf (W := 0) (rm5 l Z a0 hw [] r38 b38 T38.heap n0 (Nat.le_trans Z0 K40.1) FX38) hZ (hw _ (List.mem_of_getElem? (i := 84) rfl)) (hw _ (List.mem_of_getElem? (i := 21) rfl)) (by decide) (by decide)) q49a q49c (g := (mkF m 147 #[.val (.int p0), .val (.int iv), .val (.ref (w 1)), .val (.long (24 : Int64)), .second, .val (.ref r38)] [(.ref r38)])) rfl (by rw [hml]; rfl) (Steps.refl _) (argsL := []) (rest := []) (lenOf pd0_2 rfl) rfl (by show 2 * 0 + _ ≤ _; exact Nat.le_of_eq rfl) (hb hby at_147) (fun _ _ => ⟨rfl, e45, (by decide : 3 + 0 ≤ _), (by decide : 9 + 0 ≤ _)⟩)
      dsimp only [Pt.U, Pt.locs, Pt.cells, Pt.slots] at X49 l49 y49 z49 st49 hQ49
      subst l49 y49 z49
      obtain ⟨rfl, N49q, e49⟩ := hQ49
      have N49 := Fr.app N45 N49q
      have g50 : Gz p.tables e below A T49 (mkF m 150 #[.val (.int p0), .val (.int iv), .val (.ref (w 1)), .val (.long (24 : Int64)), .second, .val (.ref r38)] [(.ref b38)]) := fun tq kq => g48 tq (st49.trans kq)
      obtain ⟨T51, X51, e51, st51⟩ := castY X49 hx hZ hown (hw _ (List.mem_of_getElem? (i := 85) rfl)) e49 (Ins.self EY38) (g := (mkF m 150 #[.val (.int p0), .val (.int iv), .val (.ref (w 1)), .val (.long (24 : Int64)), .second, .val (.ref r38)] [(.ref b38)])) rfl rfl (hb hby at_150)
      have g52 : Gz p.tables e below A T51 (mkF m 153 #[.val (.int p0), .val (.int iv), .val (.ref (w 1)), .val (.long (24 : Int64)), .second, .val (.ref r38)] [(.ref b38)]) := fun tq kq => g50 tq (st51 tq kq)
      obtain ⟨cq53, kq53, q53a, q53b, q53c⟩ := isOf hZ e51 EY38
      obtain ⟨_, _, ⟨T53, L53, k53, n53⟩, -, X53, ⟨Lc53, hQ53, l53, y53, z53⟩, st53⟩ := X51.virtualBack hx (y := (⟨"java/lang/Long", "longValue", "()J"⟩ : MethodName)) (z := (⟨"java/lang/Long", "longValue", "()J"⟩ : MethodName)) hown (mvT hZ (hw _ (List.mem_of_getElem? (i := 87) rfl))) (mvT hZ (hw _ (List.mem_of_getElem? (i := 88) rfl))) (notFace_of_selects (args := #[]) (mvT hZ (hw _ (List.mem_of_getElem? (i := 90) rfl)))) (mvT hZ (hw _ (List.mem_of_getElem? (i := 90) rfl))) (mvT hZ (hw _ (List.mem_of_getElem? (i := 89) rfl))) (by decide) (backOf (W := 0) (rm6 l Z a0 hw [] b38 24 T38.heap n0 (Nat.le_trans Z0 K40.1) FY38) hZ (hw _ (List.mem_of_getElem? (i := 91) rfl)) (hw _ (List.mem_of_getElem? (i := 58) rfl)) (by decide) (by decide)) q53a q53c (g := (mkF m 153 #[.val (.int p0), .val (.int iv), .val (.ref (w 1)), .val (.long (24 : Int64)), .second, .val (.ref r38)] [(.ref b38)])) rfl (by rw [hml]; rfl) (Steps.refl _) (argsL := []) (rest := []) (lenOf pd0_3 rfl) rfl (by show 2 * 0 + _ ≤ _; exact Nat.le_of_eq rfl) (hb hby at_153) (fun _ _ => ⟨rfl, e51, (by decide : 3 + 0 ≤ _), (by decide : 9 + 0 ≤ _)⟩)
      dsimp only [Pt.U, Pt.locs, Pt.cells, Pt.slots] at X53 l53 y53 z53 st53 hQ53
      subst l53 y53 z53
      obtain ⟨rfl, N53q, e53⟩ := hQ53
      have N53 := Fr.app N49 N53q
      have g54 : Gz p.tables e below A T53 (mkF m 156 #[.val (.int p0), .val (.int iv), .val (.ref (w 1)), .val (.long (24 : Int64)), .second, .val (.ref r38)] [(.long (24 : Int64))]) := fun tq kq => g52 tq (st53.trans kq)
      have g55 : Gz p.tables e below A T53 (mkF m 157 #[.val (.int p0), .val (.int iv), .val (.ref (w 1)), .val (.long (24 : Int64)), .second, .val (.ref r38)] [(.long (24 : Int64)), (.long (24 : Int64))]) := fun tq kq => g54 tq (XS.lloadN X53.here hx rfl (hb hby at_156) rfl kq)
      have g56 : Gz p.tables e below A T53 (mkF m 158 #[.val (.int p0), .val (.int iv), .val (.ref (w 1)), .val (.long (24 : Int64)), .second, .val (.ref r38)] [(.int (lcmpW (24 : Int64) (24 : Int64)))]) := fun tq kq => g55 tq (XS.lcmp X53.here hx rfl (hb hby at_157) rfl kq)
      have g57 : Gz p.tables e below A T53 (mkF m 161 #[.val (.int p0), .val (.int iv), .val (.ref (w 1)), .val (.long (24 : Int64)), .second, .val (.ref r38)] []) := fun tq kq => g56 tq (XS.ifNo X53.here hx rfl (hb hby at_158) rfl ((if0 _ _).trans (teq ((lw_eq _ _).mpr rfl)).2) kq)
      have g58 : Gz p.tables e below A T53 (mkF m 162 #[.val (.int p0), .val (.int iv), .val (.ref (w 1)), .val (.long (24 : Int64)), .second, .val (.ref r38)] [(.int (1 : Int32))]) := fun tq kq => g57 tq (XS.iconst X53.here hx rfl (hb hby at_161) kq)
      have g59 : Gz p.tables e below A T53 (mkF m 166 #[.val (.int p0), .val (.int iv), .val (.ref (w 1)), .val (.long (24 : Int64)), .second, .val (.ref r38)] [(.int (1 : Int32))]) := fun tq kq => g58 tq (XS.goto X53.here hx rfl (pc0 := 162) (pc' := 166) rfl (hb hby at_162) (by decide) (by decide) kq)
      obtain ⟨fs, hr, hrun, hended, hW, hsame⟩ := X53.leave (v := some (.int (1 : Int32))) (fun h => by rw [Bd.returns] at h; cases h)
      refine ⟨_, _, g59 _ (retN X53 hx (t := .boolean) Bd.returns (by simp) (hb hby at_166) hr), hrun, hended, _, _, rfl, ?_, ⟨_, rfl⟩, hW, hsame.mono (by decide) (by decide)⟩
      show Q0 Z p0 iv w ar k em ca clc b152 b188 h0 n0 _ T53.heap _
      rw [e53]
      exact ⟨rfl, N53⟩
    · have g60 : Gz p.tables e below A s₁ (mkF m 39 #[.val (.int p0), .val (.int iv), .unset, .unset, .unset, .unset] []) := fun tq kq => g29 tq (XS.icmpYes X0.here hx rfl (pc0 := 25) (pc' := 39) rfl (hb hby at_25) rfl (feq hc25).2 (by decide) (by decide) kq)
      have g61 : Gz p.tables e below A s₁ (mkF m 40 #[.val (.int p0), .val (.int iv), .unset, .unset, .unset, .unset] [(.int iv)]) := fun tq kq => g60 tq (XS.iloadN X0.here hx rfl (hb hby at_39) rfl kq)
      have g62 : Gz p.tables e below A s₁ (mkF m 41 #[.val (.int p0), .val (.int iv), .unset, .unset, .unset, .unset] [(.int (2 : Int32)), (.int iv)]) := fun tq kq => g61 tq (XS.iconst X0.here hx rfl (hb hby at_40) kq)
      by_cases hc41 : iv = (2 : Int32)
      · have g63 : Gz p.tables e below A s₁ (mkF m 44 #[.val (.int p0), .val (.int iv), .unset, .unset, .unset, .unset] []) := fun tq kq => g62 tq (XS.icmpNo X0.here hx rfl (hb hby at_41) rfl (teq hc41).2 kq)
        obtain ⟨T64, X64, e64, st64⟩ := getS2 X0 hx hZ hown (host := "") (Or.inl (hw _ (List.mem_of_getElem? (i := 110) rfl))) Via.refl e0 S_MINUTES (g := (mkF m 44 #[.val (.int p0), .val (.int iv), .unset, .unset, .unset, .unset] [])) rfl (hb hby at_44)
        have g65 : Gz p.tables e below A T64 (mkF m 47 #[.val (.int p0), .val (.int iv), .unset, .unset, .unset, .unset] [(.ref (w 2))]) := fun tq kq => g63 tq (st64 tq kq)
        have g66 : Gz p.tables e below A T64 (mkF m 48 #[.val (.int p0), .val (.int iv), .val (.ref (w 2)), .unset, .unset, .unset] []) := fun tq kq => g65 tq (XS.astoreN X64.here hx rfl (hb hby at_47) rfl rfl (l' := #[.val (.int p0), .val (.int iv), .val (.ref (w 2)), .unset, .unset, .unset]) rfl kq)
        have g67 : Gz p.tables e below A T64 (mkF m 51 #[.val (.int p0), .val (.int iv), .val (.ref (w 2)), .unset, .unset, .unset] [(.long (60 : Int64))]) := fun tq kq => g66 tq (X64.ldc2Long hx hown (mvT hZ (hw _ (List.mem_of_getElem? (i := 33) rfl))) (g := (mkF m 48 #[.val (.int p0), .val (.int iv), .val (.ref (w 2)), .unset, .unset, .unset] [])) rfl (hb hby at_48) _ kq)
        have g68 : Gz p.tables e below A T64 (mkF m 52 #[.val (.int p0), .val (.int iv), .val (.ref (w 2)), .val (.long (60 : Int64)), .second, .unset] []) := fun tq kq => g67 tq (XS.lstoreN X64.here hx rfl (hb hby at_51) rfl (l' := #[.val (.int p0), .val (.int iv), .val (.ref (w 2)), .val (.long (60 : Int64)), .second, .unset]) rfl kq)
        have g69 : Gz p.tables e below A T64 (mkF m 111 #[.val (.int p0), .val (.int iv), .val (.ref (w 2)), .val (.long (60 : Int64)), .second, .unset] []) := fun tq kq => g68 tq (XS.goto X64.here hx rfl (pc0 := 52) (pc' := 111) rfl (hb hby at_52) (by decide) (by decide) kq)
        have g70 : Gz p.tables e below A T64 (mkF m 112 #[.val (.int p0), .val (.int iv), .val (.ref (w 2)), .val (.long (60 : Int64)), .second, .unset] [(.ref (w 2))]) := fun tq kq => g69 tq (XS.aloadN X64.here hx rfl (hb hby at_111) rfl rfl kq)
        obtain ⟨cq71, kq71, q71a, q71b, q71c⟩ := isOf hZ e64 E_2
        obtain ⟨_, _, ⟨T71, L71, k71, n71⟩, -, X71, ⟨Lc71, hQ71, l71, y71, z71⟩, st71⟩ := X64.virtualBack hx (y := (⟨"com/example/measured_slack/measuredslack/DurationUnit", "perLargerUnit", "()Ljava/util/Optional;"⟩ : MethodName)) (z := (⟨"com/example/measured_slack/measuredslack/DurationUnit", "perLargerUnit", "()Ljava/util/Optional;"⟩ : MethodName)) hown (mvT hZ (hw _ (List.mem_of_getElem? (i := 5) rfl))) (mvT hZ (hw _ (List.mem_of_getElem? (i := 6) rfl))) (notFace_of_selects (args := #[]) (mvT hZ (hw _ (List.mem_of_getElem? (i := 8) rfl)))) (mvT hZ (hw _ (List.mem_of_getElem? (i := 8) rfl))) (mvT hZ (hw _ (List.mem_of_getElem? (i := 7) rfl))) (by decide) (backOf (W := 0) (rm17 l Z a0 hw [] (w 2) 2 ar k w (w 1) 3600000000000 60000000000 60 ca clc 188 b188 h0 n0 Z0 O_2 E_2 S_V V0 E0 (by decide) ⟨by decide, by decide⟩ rfl M_1 M_2 (by decide) (by decide) (by decide) (by decide) S_C A_c (by decide) hin188 hat188 E_b188 F_b188) hZ (hw _ (List.mem_of_getElem? (i := 9) rfl)) (hw _ (List.mem_of_getElem? (i := 2) rfl)) (by decide) (by decide)) q71a q71c (g := (mkF m 112 #[.val (.int p0), .val (.int iv), .val (.ref (w 2)), .val (.long (60 : Int64)), .second, .unset] [(.ref (w 2))])) rfl (by rw [hml]; rfl) (Steps.refl _) (argsL := []) (rest := []) (lenOf pd0_0 rfl) rfl (by show 2 * 0 + _ ≤ _; exact Nat.le_of_eq rfl) (hb hby at_112) (fun _ _ => ⟨rfl, e64, (by decide : 0 + 3 ≤ _), (by decide : 0 + 9 ≤ _)⟩)
        dsimp only [Pt.U, Pt.locs, Pt.cells, Pt.slots] at X71 l71 y71 z71 st71 hQ71
        subst l71 y71 z71
        obtain ⟨r71, b71, rfl, N71q, EQ71, EX71, FX71, EY71, FY71⟩ := hQ71
        have N71 := Fr.app N0 N71q
        have g72 : Gz p.tables e below A T71 (mkF m 115 #[.val (.int p0), .val (.int iv), .val (.ref (w 2)), .val (.long (60 : Int64)), .second, .unset] [(.ref r71)]) := fun tq kq => g70 tq (st71.trans kq)
        have K73 := EQ71
        have g74 : Gz p.tables e below A T71 (mkF m 117 #[.val (.int p0), .val (.int iv), .val (.ref (w 2)), .val (.long (60 : Int64)), .second, .val (.ref r71)] []) := fun tq kq => g72 tq (XS.astore X71.here hx rfl (hb hby at_115) rfl rfl (l' := #[.val (.int p0), .val (.int iv), .val (.ref (w 2)), .val (.long (60 : Int64)), .second, .val (.ref r71)]) rfl kq)
        have g75 : Gz p.tables e below A T71 (mkF m 118 #[.val (.int p0), .val (.int iv), .val (.ref (w 2)), .val (.long (60 : Int64)), .second, .val (.ref r71)] [(.int iv)]) := fun tq kq => g74 tq (XS.iloadN X71.here hx rfl (hb hby at_117) rfl kq)
        have g76 : Gz p.tables e below A T71 (mkF m 135 #[.val (.int p0), .val (.int iv), .val (.ref (w 2)), .val (.long (60 : Int64)), .second, .val (.ref r71)] []) := fun tq kq => g75 tq (XS.ifYes X71.here hx rfl (pc0 := 118) (pc' := 135) rfl (hb hby at_118) rfl ((if0 _ _).trans (feq hc9).2) (by decide) (by decide) kq)
        have g77 : Gz p.tables e below A T71 (mkF m 137 #[.val (.int p0), .val (.int iv), .val (.ref (w 2)), .val (.long (60 : Int64)), .second, .val (.ref r71)] [(.ref r71)]) := fun tq kq => g76 tq (XS.aload X71.here hx rfl (hb hby at_135) rfl rfl kq)
        obtain ⟨cq78, kq78, q78a, q78b, q78c⟩ := isOf hZ rfl EX71
        obtain ⟨_, _, ⟨T78, L78, k78, n78⟩, -, X78, ⟨Lc78, hQ78, l78, y78, z78⟩, st78⟩ := X71.virtualBack hx (y := (⟨"java/util/Optional", "isPresent", "()Z"⟩ : MethodName)) (z := (⟨"java/util/Optional", "isPresent", "()Z"⟩ : MethodName)) hown (mvT hZ (hw _ (List.mem_of_getElem? (i := 24) rfl))) (mvT hZ (hw _ (List.mem_of_getElem? (i := 25) rfl))) (notFace_of_selects (args := #[]) (mvT hZ (hw _ (List.mem_of_getElem? (i := 27) rfl)))) (mvT hZ (hw _ (List.mem_of_getElem? (i := 27) rfl))) (mvT hZ (hw _ (List.mem_of_getElem? (i := 26) rfl))) (by decide) (backOf (W := 0) (rm4 l Z a0 hw [] r71 b71 T71.heap n0 (Nat.le_trans Z0 K73.1) FX71) hZ (hw _ (List.mem_of_getElem? (i := 28) rfl)) (hw _ (List.mem_of_getElem? (i := 21) rfl)) (by decide) (by decide)) q78a q78c (g := (mkF m 137 #[.val (.int p0), .val (.int iv), .val (.ref (w 2)), .val (.long (60 : Int64)), .second, .val (.ref r71)] [(.ref r71)])) rfl (by rw [hml]; rfl) (Steps.refl _) (argsL := []) (rest := []) (lenOf pd0_1 rfl) rfl (by show 2 * 0 + _ ≤ _; exact Nat.le_of_eq rfl) (hb hby at_137) (fun _ _ => ⟨rfl, rfl, (by decide : 3 + 0 ≤ _), (by decide : 9 + 0 ≤ _)⟩)
        dsimp only [Pt.U, Pt.locs, Pt.cells, Pt.slots] at X78 l78 y78 z78 st78 hQ78
        subst l78 y78 z78
        obtain ⟨rfl, N78q, e78⟩ := hQ78
        have N78 := Fr.app N71 N78q
        have g79 : Gz p.tables e below A T78 (mkF m 140 #[.val (.int p0), .val (.int iv), .val (.ref (w 2)), .val (.long (60 : Int64)), .second, .val (.ref r71)] [(.int (1 : Int32))]) := fun tq kq => g77 tq (st78.trans kq)
        have g80 : Gz p.tables e below A T78 (mkF m 145 #[.val (.int p0), .val (.int iv), .val (.ref (w 2)), .val (.long (60 : Int64)), .second, .val (.ref r71)] []) := fun tq kq => g79 tq (XS.ifYes X78.here hx rfl (pc0 := 140) (pc' := 145) rfl (hb hby at_140) rfl ((if0 _ _).trans (feq (by decide)).2) (by decide) (by decide) kq)
        have g81 : Gz p.tables e below A T78 (mkF m 147 #[.val (.int p0), .val (.int iv), .val (.ref (w 2)), .val (.long (60 : Int64)), .second, .val (.ref r71)] [(.ref r71)]) := fun tq kq => g80 tq (XS.aload X78.here hx rfl (hb hby at_145) rfl rfl kq)
        obtain ⟨cq82, kq82, q82a, q82b, q82c⟩ := isOf hZ e78 EX71
        obtain ⟨_, _, ⟨T82, L82, k82, n82⟩, -, X82, ⟨Lc82, hQ82, l82, y82, z82⟩, st82⟩ := X78.virtualBack hx (y := (⟨"java/util/Optional", "get", "()Ljava/lang/Object;"⟩ : MethodName)) (z := (⟨"java/util/Optional", "get", "()Ljava/lang/Object;"⟩ : MethodName)) hown (mvT hZ (hw _ (List.mem_of_getElem? (i := 80) rfl))) (mvT hZ (hw _ (List.mem_of_getElem? (i := 81) rfl))) (notFace_of_selects (args := #[]) (mvT hZ (hw _ (List.mem_of_getElem? (i := 83) rfl)))) (mvT hZ (hw _ (List.mem_of_getElem? (i := 83) rfl))) (mvT hZ (hw _ (List.mem_of_getElem? (i := 82) rfl))) (by decide) (backOf (W := 0) (rm5 l Z a0 hw [] r71 b71 T71.heap n0 (Nat.le_trans Z0 K73.1) FX71) hZ (hw _ (List.mem_of_getElem? (i := 84) rfl)) (hw _ (List.mem_of_getElem? (i := 21) rfl)) (by decide) (by decide)) q82a q82c (g := (mkF m 147 #[.val (.int p0), .val (.int iv), .val (.ref (w 2)), .val (.long (60 : Int64)), .second, .val (.ref r71)] [(.ref r71)])) rfl (by rw [hml]; rfl) (Steps.refl _) (argsL := []) (rest := []) (lenOf pd0_2 rfl) rfl (by show 2 * 0 + _ ≤ _; exact Nat.le_of_eq rfl) (hb hby at_147) (fun _ _ => ⟨rfl, e78, (by decide : 3 + 0 ≤ _), (by decide : 9 + 0 ≤ _)⟩)
        dsimp only [Pt.U, Pt.locs, Pt.cells, Pt.slots] at X82 l82 y82 z82 st82 hQ82
        subst l82 y82 z82
        obtain ⟨rfl, N82q, e82⟩ := hQ82
        have N82 := Fr.app N78 N82q
        have g83 : Gz p.tables e below A T82 (mkF m 150 #[.val (.int p0), .val (.int iv), .val (.ref (w 2)), .val (.long (60 : Int64)), .second, .val (.ref r71)] [(.ref b71)]) := fun tq kq => g81 tq (st82.trans kq)
        obtain ⟨T84, X84, e84, st84⟩ := castY X82 hx hZ hown (hw _ (List.mem_of_getElem? (i := 85) rfl)) e82 (Ins.self EY71) (g := (mkF m 150 #[.val (.int p0), .val (.int iv), .val (.ref (w 2)), .val (.long (60 : Int64)), .second, .val (.ref r71)] [(.ref b71)])) rfl rfl (hb hby at_150)
        have g85 : Gz p.tables e below A T84 (mkF m 153 #[.val (.int p0), .val (.int iv), .val (.ref (w 2)), .val (.long (60 : Int64)), .second, .val (.ref r71)] [(.ref b71)]) := fun tq kq => g83 tq (st84 tq kq)
        obtain ⟨cq86, kq86, q86a, q86b, q86c⟩ := isOf hZ e84 EY71
        obtain ⟨_, _, ⟨T86, L86, k86, n86⟩, -, X86, ⟨Lc86, hQ86, l86, y86, z86⟩, st86⟩ := X84.virtualBack hx (y := (⟨"java/lang/Long", "longValue", "()J"⟩ : MethodName)) (z := (⟨"java/lang/Long", "longValue", "()J"⟩ : MethodName)) hown (mvT hZ (hw _ (List.mem_of_getElem? (i := 87) rfl))) (mvT hZ (hw _ (List.mem_of_getElem? (i := 88) rfl))) (notFace_of_selects (args := #[]) (mvT hZ (hw _ (List.mem_of_getElem? (i := 90) rfl)))) (mvT hZ (hw _ (List.mem_of_getElem? (i := 90) rfl))) (mvT hZ (hw _ (List.mem_of_getElem? (i := 89) rfl))) (by decide) (backOf (W := 0) (rm6 l Z a0 hw [] b71 60 T71.heap n0 (Nat.le_trans Z0 K73.1) FY71) hZ (hw _ (List.mem_of_getElem? (i := 91) rfl)) (hw _ (List.mem_of_getElem? (i := 58) rfl)) (by decide) (by decide)) q86a q86c (g := (mkF m 153 #[.val (.int p0), .val (.int iv), .val (.ref (w 2)), .val (.long (60 : Int64)), .second, .val (.ref r71)] [(.ref b71)])) rfl (by rw [hml]; rfl) (Steps.refl _) (argsL := []) (rest := []) (lenOf pd0_3 rfl) rfl (by show 2 * 0 + _ ≤ _; exact Nat.le_of_eq rfl) (hb hby at_153) (fun _ _ => ⟨rfl, e84, (by decide : 3 + 0 ≤ _), (by decide : 9 + 0 ≤ _)⟩)
        dsimp only [Pt.U, Pt.locs, Pt.cells, Pt.slots] at X86 l86 y86 z86 st86 hQ86
        subst l86 y86 z86
        obtain ⟨rfl, N86q, e86⟩ := hQ86
        have N86 := Fr.app N82 N86q
        have g87 : Gz p.tables e below A T86 (mkF m 156 #[.val (.int p0), .val (.int iv), .val (.ref (w 2)), .val (.long (60 : Int64)), .second, .val (.ref r71)] [(.long (60 : Int64))]) := fun tq kq => g85 tq (st86.trans kq)
        have g88 : Gz p.tables e below A T86 (mkF m 157 #[.val (.int p0), .val (.int iv), .val (.ref (w 2)), .val (.long (60 : Int64)), .second, .val (.ref r71)] [(.long (60 : Int64)), (.long (60 : Int64))]) := fun tq kq => g87 tq (XS.lloadN X86.here hx rfl (hb hby at_156) rfl kq)
        have g89 : Gz p.tables e below A T86 (mkF m 158 #[.val (.int p0), .val (.int iv), .val (.ref (w 2)), .val (.long (60 : Int64)), .second, .val (.ref r71)] [(.int (lcmpW (60 : Int64) (60 : Int64)))]) := fun tq kq => g88 tq (XS.lcmp X86.here hx rfl (hb hby at_157) rfl kq)
        have g90 : Gz p.tables e below A T86 (mkF m 161 #[.val (.int p0), .val (.int iv), .val (.ref (w 2)), .val (.long (60 : Int64)), .second, .val (.ref r71)] []) := fun tq kq => g89 tq (XS.ifNo X86.here hx rfl (hb hby at_158) rfl ((if0 _ _).trans (teq ((lw_eq _ _).mpr rfl)).2) kq)
        have g91 : Gz p.tables e below A T86 (mkF m 162 #[.val (.int p0), .val (.int iv), .val (.ref (w 2)), .val (.long (60 : Int64)), .second, .val (.ref r71)] [(.int (1 : Int32))]) := fun tq kq => g90 tq (XS.iconst X86.here hx rfl (hb hby at_161) kq)
        have g92 : Gz p.tables e below A T86 (mkF m 166 #[.val (.int p0), .val (.int iv), .val (.ref (w 2)), .val (.long (60 : Int64)), .second, .val (.ref r71)] [(.int (1 : Int32))]) := fun tq kq => g91 tq (XS.goto X86.here hx rfl (pc0 := 162) (pc' := 166) rfl (hb hby at_162) (by decide) (by decide) kq)
        obtain ⟨fs, hr, hrun, hended, hW, hsame⟩ := X86.leave (v := some (.int (1 : Int32))) (fun h => by rw [Bd.returns] at h; cases h)
        refine ⟨_, _, g92 _ (retN X86 hx (t := .boolean) Bd.returns (by simp) (hb hby at_166) hr), hrun, hended, _, _, rfl, ?_, ⟨_, rfl⟩, hW, hsame.mono (by decide) (by decide)⟩
        show Q0 Z p0 iv w ar k em ca clc b152 b188 h0 n0 _ T86.heap _
        rw [e86]
        exact ⟨rfl, N86⟩
      · have g93 : Gz p.tables e below A s₁ (mkF m 55 #[.val (.int p0), .val (.int iv), .unset, .unset, .unset, .unset] []) := fun tq kq => g62 tq (XS.icmpYes X0.here hx rfl (pc0 := 41) (pc' := 55) rfl (hb hby at_41) rfl (feq hc41).2 (by decide) (by decide) kq)
        have g94 : Gz p.tables e below A s₁ (mkF m 56 #[.val (.int p0), .val (.int iv), .unset, .unset, .unset, .unset] [(.int iv)]) := fun tq kq => g93 tq (XS.iloadN X0.here hx rfl (hb hby at_55) rfl kq)
        have g95 : Gz p.tables e below A s₁ (mkF m 57 #[.val (.int p0), .val (.int iv), .unset, .unset, .unset, .unset] [(.int (3 : Int32)), (.int iv)]) := fun tq kq => g94 tq (XS.iconst X0.here hx rfl (hb hby at_56) kq)
        by_cases hc57 : iv = (3 : Int32)
        · have g96 : Gz p.tables e below A s₁ (mkF m 60 #[.val (.int p0), .val (.int iv), .unset, .unset, .unset, .unset] []) := fun tq kq => g95 tq (XS.icmpNo X0.here hx rfl (hb hby at_57) rfl (teq hc57).2 kq)
          obtain ⟨T97, X97, e97, st97⟩ := getS2 X0 hx hZ hown (host := "") (Or.inl (hw _ (List.mem_of_getElem? (i := 31) rfl))) Via.refl e0 S_SECONDS (g := (mkF m 60 #[.val (.int p0), .val (.int iv), .unset, .unset, .unset, .unset] [])) rfl (hb hby at_60)
          have g98 : Gz p.tables e below A T97 (mkF m 63 #[.val (.int p0), .val (.int iv), .unset, .unset, .unset, .unset] [(.ref (w 3))]) := fun tq kq => g96 tq (st97 tq kq)
          have g99 : Gz p.tables e below A T97 (mkF m 64 #[.val (.int p0), .val (.int iv), .val (.ref (w 3)), .unset, .unset, .unset] []) := fun tq kq => g98 tq (XS.astoreN X97.here hx rfl (hb hby at_63) rfl rfl (l' := #[.val (.int p0), .val (.int iv), .val (.ref (w 3)), .unset, .unset, .unset]) rfl kq)
          have g100 : Gz p.tables e below A T97 (mkF m 67 #[.val (.int p0), .val (.int iv), .val (.ref (w 3)), .unset, .unset, .unset] [(.long (60 : Int64))]) := fun tq kq => g99 tq (X97.ldc2Long hx hown (mvT hZ (hw _ (List.mem_of_getElem? (i := 33) rfl))) (g := (mkF m 64 #[.val (.int p0), .val (.int iv), .val (.ref (w 3)), .unset, .unset, .unset] [])) rfl (hb hby at_64) _ kq)
          have g101 : Gz p.tables e below A T97 (mkF m 68 #[.val (.int p0), .val (.int iv), .val (.ref (w 3)), .val (.long (60 : Int64)), .second, .unset] []) := fun tq kq => g100 tq (XS.lstoreN X97.here hx rfl (hb hby at_67) rfl (l' := #[.val (.int p0), .val (.int iv), .val (.ref (w 3)), .val (.long (60 : Int64)), .second, .unset]) rfl kq)
          have g102 : Gz p.tables e below A T97 (mkF m 111 #[.val (.int p0), .val (.int iv), .val (.ref (w 3)), .val (.long (60 : Int64)), .second, .unset] []) := fun tq kq => g101 tq (XS.goto X97.here hx rfl (pc0 := 68) (pc' := 111) rfl (hb hby at_68) (by decide) (by decide) kq)
          have g103 : Gz p.tables e below A T97 (mkF m 112 #[.val (.int p0), .val (.int iv), .val (.ref (w 3)), .val (.long (60 : Int64)), .second, .unset] [(.ref (w 3))]) := fun tq kq => g102 tq (XS.aloadN X97.here hx rfl (hb hby at_111) rfl rfl kq)
          obtain ⟨cq104, kq104, q104a, q104b, q104c⟩ := isOf hZ e97 E_3
          obtain ⟨_, _, ⟨T104, L104, k104, n104⟩, -, X104, ⟨Lc104, hQ104, l104, y104, z104⟩, st104⟩ := X97.virtualBack hx (y := (⟨"com/example/measured_slack/measuredslack/DurationUnit", "perLargerUnit", "()Ljava/util/Optional;"⟩ : MethodName)) (z := (⟨"com/example/measured_slack/measuredslack/DurationUnit", "perLargerUnit", "()Ljava/util/Optional;"⟩ : MethodName)) hown (mvT hZ (hw _ (List.mem_of_getElem? (i := 5) rfl))) (mvT hZ (hw _ (List.mem_of_getElem? (i := 6) rfl))) (notFace_of_selects (args := #[]) (mvT hZ (hw _ (List.mem_of_getElem? (i := 8) rfl)))) (mvT hZ (hw _ (List.mem_of_getElem? (i := 8) rfl))) (mvT hZ (hw _ (List.mem_of_getElem? (i := 7) rfl))) (by decide) (backOf (W := 0) (rm17 l Z a0 hw [] (w 3) 3 ar k w (w 2) 60000000000 1000000000 60 ca clc 188 b188 h0 n0 Z0 O_3 E_3 S_V V0 E0 (by decide) ⟨by decide, by decide⟩ rfl M_2 M_3 (by decide) (by decide) (by decide) (by decide) S_C A_c (by decide) hin188 hat188 E_b188 F_b188) hZ (hw _ (List.mem_of_getElem? (i := 9) rfl)) (hw _ (List.mem_of_getElem? (i := 2) rfl)) (by decide) (by decide)) q104a q104c (g := (mkF m 112 #[.val (.int p0), .val (.int iv), .val (.ref (w 3)), .val (.long (60 : Int64)), .second, .unset] [(.ref (w 3))])) rfl (by rw [hml]; rfl) (Steps.refl _) (argsL := []) (rest := []) (lenOf pd0_0 rfl) rfl (by show 2 * 0 + _ ≤ _; exact Nat.le_of_eq rfl) (hb hby at_112) (fun _ _ => ⟨rfl, e97, (by decide : 0 + 3 ≤ _), (by decide : 0 + 9 ≤ _)⟩)
          dsimp only [Pt.U, Pt.locs, Pt.cells, Pt.slots] at X104 l104 y104 z104 st104 hQ104
          subst l104 y104 z104
          obtain ⟨r104, b104, rfl, N104q, EQ104, EX104, FX104, EY104, FY104⟩ := hQ104
          have N104 := Fr.app N0 N104q
          have g105 : Gz p.tables e below A T104 (mkF m 115 #[.val (.int p0), .val (.int iv), .val (.ref (w 3)), .val (.long (60 : Int64)), .second, .unset] [(.ref r104)]) := fun tq kq => g103 tq (st104.trans kq)
          have K106 := EQ104
          have g107 : Gz p.tables e below A T104 (mkF m 117 #[.val (.int p0), .val (.int iv), .val (.ref (w 3)), .val (.long (60 : Int64)), .second, .val (.ref r104)] []) := fun tq kq => g105 tq (XS.astore X104.here hx rfl (hb hby at_115) rfl rfl (l' := #[.val (.int p0), .val (.int iv), .val (.ref (w 3)), .val (.long (60 : Int64)), .second, .val (.ref r104)]) rfl kq)
          have g108 : Gz p.tables e below A T104 (mkF m 118 #[.val (.int p0), .val (.int iv), .val (.ref (w 3)), .val (.long (60 : Int64)), .second, .val (.ref r104)] [(.int iv)]) := fun tq kq => g107 tq (XS.iloadN X104.here hx rfl (hb hby at_117) rfl kq)
          have g109 : Gz p.tables e below A T104 (mkF m 135 #[.val (.int p0), .val (.int iv), .val (.ref (w 3)), .val (.long (60 : Int64)), .second, .val (.ref r104)] []) := fun tq kq => g108 tq (XS.ifYes X104.here hx rfl (pc0 := 118) (pc' := 135) rfl (hb hby at_118) rfl ((if0 _ _).trans (feq hc9).2) (by decide) (by decide) kq)
          have g110 : Gz p.tables e below A T104 (mkF m 137 #[.val (.int p0), .val (.int iv), .val (.ref (w 3)), .val (.long (60 : Int64)), .second, .val (.ref r104)] [(.ref r104)]) := fun tq kq => g109 tq (XS.aload X104.here hx rfl (hb hby at_135) rfl rfl kq)
          obtain ⟨cq111, kq111, q111a, q111b, q111c⟩ := isOf hZ rfl EX104
          obtain ⟨_, _, ⟨T111, L111, k111, n111⟩, -, X111, ⟨Lc111, hQ111, l111, y111, z111⟩, st111⟩ := X104.virtualBack hx (y := (⟨"java/util/Optional", "isPresent", "()Z"⟩ : MethodName)) (z := (⟨"java/util/Optional", "isPresent", "()Z"⟩ : MethodName)) hown (mvT hZ (hw _ (List.mem_of_getElem? (i := 24) rfl))) (mvT hZ (hw _ (List.mem_of_getElem? (i := 25) rfl))) (notFace_of_selects (args := #[]) (mvT hZ (hw _ (List.mem_of_getElem? (i := 27) rfl)))) (mvT hZ (hw _ (List.mem_of_getElem? (i := 27) rfl))) (mvT hZ (hw _ (List.mem_of_getElem? (i := 26) rfl))) (by decide) (backOf (W := 0) (rm4 l Z a0 hw [] r104 b104 T104.heap n0 (Nat.le_trans Z0 K106.1) FX104) hZ (hw _ (List.mem_of_getElem? (i := 28) rfl)) (hw _ (List.mem_of_getElem? (i := 21) rfl)) (by decide) (by decide)) q111a q111c (g := (mkF m 137 #[.val (.int p0), .val (.int iv), .val (.ref (w 3)), .val (.long (60 : Int64)), .second, .val (.ref r104)] [(.ref r104)])) rfl (by rw [hml]; rfl) (Steps.refl _) (argsL := []) (rest := []) (lenOf pd0_1 rfl) rfl (by show 2 * 0 + _ ≤ _; exact Nat.le_of_eq rfl) (hb hby at_137) (fun _ _ => ⟨rfl, rfl, (by decide : 3 + 0 ≤ _), (by decide : 9 + 0 ≤ _)⟩)
          dsimp only [Pt.U, Pt.locs, Pt.cells, Pt.slots] at X111 l111 y111 z111 st111 hQ111
          subst l111 y111 z111
          obtain ⟨rfl, N111q, e111⟩ := hQ111
          have N111 := Fr.app N104 N111q
          have g112 : Gz p.tables e below A T111 (mkF m 140 #[.val (.int p0), .val (.int iv), .val (.ref (w 3)), .val (.long (60 : Int64)), .second, .val (.ref r104)] [(.int (1 : Int32))]) := fun tq kq => g110 tq (st111.trans kq)
          have g113 : Gz p.tables e below A T111 (mkF m 145 #[.val (.int p0), .val (.int iv), .val (.ref (w 3)), .val (.long (60 : Int64)), .second, .val (.ref r104)] []) := fun tq kq => g112 tq (XS.ifYes X111.here hx rfl (pc0 := 140) (pc' := 145) rfl (hb hby at_140) rfl ((if0 _ _).trans (feq (by decide)).2) (by decide) (by decide) kq)
          have g114 : Gz p.tables e below A T111 (mkF m 147 #[.val (.int p0), .val (.int iv), .val (.ref (w 3)), .val (.long (60 : Int64)), .second, .val (.ref r104)] [(.ref r104)]) := fun tq kq => g113 tq (XS.aload X111.here hx rfl (hb hby at_145) rfl rfl kq)
          obtain ⟨cq115, kq115, q115a, q115b, q115c⟩ := isOf hZ e111 EX104
          obtain ⟨_, _, ⟨T115, L115, k115, n115⟩, -, X115, ⟨Lc115, hQ115, l115, y115, z115⟩, st115⟩ := X111.virtualBack hx (y := (⟨"java/util/Optional", "get", "()Ljava/lang/Object;"⟩ : MethodName)) (z := (⟨"java/util/Optional", "get", "()Ljava/lang/Object;"⟩ : MethodName)) hown (mvT hZ (hw _ (List.mem_of_getElem? (i := 80) rfl))) (mvT hZ (hw _ (List.mem_of_getElem? (i := 81) rfl))) (notFace_of_selects (args := #[]) (mvT hZ (hw _ (List.mem_of_getElem? (i := 83) rfl)))) (mvT hZ (hw _ (List.mem_of_getElem? (i := 83) rfl))) (mvT hZ (hw _ (List.mem_of_getElem? (i := 82) rfl))) (by decide) (backOf (W := 0) (rm5 l Z a0 hw [] r104 b104 T104.heap n0 (Nat.le_trans Z0 K106.1) FX104) hZ (hw _ (List.mem_of_getElem? (i := 84) rfl)) (hw _ (List.mem_of_getElem? (i := 21) rfl)) (by decide) (by decide)) q115a q115c (g := (mkF m 147 #[.val (.int p0), .val (.int iv), .val (.ref (w 3)), .val (.long (60 : Int64)), .second, .val (.ref r104)] [(.ref r104)])) rfl (by rw [hml]; rfl) (Steps.refl _) (argsL := []) (rest := []) (lenOf pd0_2 rfl) rfl (by show 2 * 0 + _ ≤ _; exact Nat.le_of_eq rfl) (hb hby at_147) (fun _ _ => ⟨rfl, e111, (by decide : 3 + 0 ≤ _), (by decide : 9 + 0 ≤ _)⟩)
          dsimp only [Pt.U, Pt.locs, Pt.cells, Pt.slots] at X115 l115 y115 z115 st115 hQ115
          subst l115 y115 z115
          obtain ⟨rfl, N115q, e115⟩ := hQ115
          have N115 := Fr.app N111 N115q
          have g116 : Gz p.tables e below A T115 (mkF m 150 #[.val (.int p0), .val (.int iv), .val (.ref (w 3)), .val (.long (60 : Int64)), .second, .val (.ref r104)] [(.ref b104)]) := fun tq kq => g114 tq (st115.trans kq)
          obtain ⟨T117, X117, e117, st117⟩ := castY X115 hx hZ hown (hw _ (List.mem_of_getElem? (i := 85) rfl)) e115 (Ins.self EY104) (g := (mkF m 150 #[.val (.int p0), .val (.int iv), .val (.ref (w 3)), .val (.long (60 : Int64)), .second, .val (.ref r104)] [(.ref b104)])) rfl rfl (hb hby at_150)
          have g118 : Gz p.tables e below A T117 (mkF m 153 #[.val (.int p0), .val (.int iv), .val (.ref (w 3)), .val (.long (60 : Int64)), .second, .val (.ref r104)] [(.ref b104)]) := fun tq kq => g116 tq (st117 tq kq)
          obtain ⟨cq119, kq119, q119a, q119b, q119c⟩ := isOf hZ e117 EY104
          obtain ⟨_, _, ⟨T119, L119, k119, n119⟩, -, X119, ⟨Lc119, hQ119, l119, y119, z119⟩, st119⟩ := X117.virtualBack hx (y := (⟨"java/lang/Long", "longValue", "()J"⟩ : MethodName)) (z := (⟨"java/lang/Long", "longValue", "()J"⟩ : MethodName)) hown (mvT hZ (hw _ (List.mem_of_getElem? (i := 87) rfl))) (mvT hZ (hw _ (List.mem_of_getElem? (i := 88) rfl))) (notFace_of_selects (args := #[]) (mvT hZ (hw _ (List.mem_of_getElem? (i := 90) rfl)))) (mvT hZ (hw _ (List.mem_of_getElem? (i := 90) rfl))) (mvT hZ (hw _ (List.mem_of_getElem? (i := 89) rfl))) (by decide) (backOf (W := 0) (rm6 l Z a0 hw [] b104 60 T104.heap n0 (Nat.le_trans Z0 K106.1) FY104) hZ (hw _ (List.mem_of_getElem? (i := 91) rfl)) (hw _ (List.mem_of_getElem? (i := 58) rfl)) (by decide) (by decide)) q119a q119c (g := (mkF m 153 #[.val (.int p0), .val (.int iv), .val (.ref (w 3)), .val (.long (60 : Int64)), .second, .val (.ref r104)] [(.ref b104)])) rfl (by rw [hml]; rfl) (Steps.refl _) (argsL := []) (rest := []) (lenOf pd0_3 rfl) rfl (by show 2 * 0 + _ ≤ _; exact Nat.le_of_eq rfl) (hb hby at_153) (fun _ _ => ⟨rfl, e117, (by decide : 3 + 0 ≤ _), (by decide : 9 + 0 ≤ _)⟩)
          dsimp only [Pt.U, Pt.locs, Pt.cells, Pt.slots] at X119 l119 y119 z119 st119 hQ119
          subst l119 y119 z119
          obtain ⟨rfl, N119q, e119⟩ := hQ119
          have N119 := Fr.app N115 N119q
          have g120 : Gz p.tables e below A T119 (mkF m 156 #[.val (.int p0), .val (.int iv), .val (.ref (w 3)), .val (.long (60 : Int64)), .second, .val (.ref r104)] [(.long (60 : Int64))]) := fun tq kq => g118 tq (st119.trans kq)
          have g121 : Gz p.tables e below A T119 (mkF m 157 #[.val (.int p0), .val (.int iv), .val (.ref (w 3)), .val (.long (60 : Int64)), .second, .val (.ref r104)] [(.long (60 : Int64)), (.long (60 : Int64))]) := fun tq kq => g120 tq (XS.lloadN X119.here hx rfl (hb hby at_156) rfl kq)
          have g122 : Gz p.tables e below A T119 (mkF m 158 #[.val (.int p0), .val (.int iv), .val (.ref (w 3)), .val (.long (60 : Int64)), .second, .val (.ref r104)] [(.int (lcmpW (60 : Int64) (60 : Int64)))]) := fun tq kq => g121 tq (XS.lcmp X119.here hx rfl (hb hby at_157) rfl kq)
          have g123 : Gz p.tables e below A T119 (mkF m 161 #[.val (.int p0), .val (.int iv), .val (.ref (w 3)), .val (.long (60 : Int64)), .second, .val (.ref r104)] []) := fun tq kq => g122 tq (XS.ifNo X119.here hx rfl (hb hby at_158) rfl ((if0 _ _).trans (teq ((lw_eq _ _).mpr rfl)).2) kq)
          have g124 : Gz p.tables e below A T119 (mkF m 162 #[.val (.int p0), .val (.int iv), .val (.ref (w 3)), .val (.long (60 : Int64)), .second, .val (.ref r104)] [(.int (1 : Int32))]) := fun tq kq => g123 tq (XS.iconst X119.here hx rfl (hb hby at_161) kq)
          have g125 : Gz p.tables e below A T119 (mkF m 166 #[.val (.int p0), .val (.int iv), .val (.ref (w 3)), .val (.long (60 : Int64)), .second, .val (.ref r104)] [(.int (1 : Int32))]) := fun tq kq => g124 tq (XS.goto X119.here hx rfl (pc0 := 162) (pc' := 166) rfl (hb hby at_162) (by decide) (by decide) kq)
          obtain ⟨fs, hr, hrun, hended, hW, hsame⟩ := X119.leave (v := some (.int (1 : Int32))) (fun h => by rw [Bd.returns] at h; cases h)
          refine ⟨_, _, g125 _ (retN X119 hx (t := .boolean) Bd.returns (by simp) (hb hby at_166) hr), hrun, hended, _, _, rfl, ?_, ⟨_, rfl⟩, hW, hsame.mono (by decide) (by decide)⟩
          show Q0 Z p0 iv w ar k em ca clc b152 b188 h0 n0 _ T119.heap _
          rw [e119]
          exact ⟨rfl, N119⟩
        · have g126 : Gz p.tables e below A s₁ (mkF m 71 #[.val (.int p0), .val (.int iv), .unset, .unset, .unset, .unset] []) := fun tq kq => g95 tq (XS.icmpYes X0.here hx rfl (pc0 := 57) (pc' := 71) rfl (hb hby at_57) rfl (feq hc57).2 (by decide) (by decide) kq)
          have g127 : Gz p.tables e below A s₁ (mkF m 72 #[.val (.int p0), .val (.int iv), .unset, .unset, .unset, .unset] [(.int iv)]) := fun tq kq => g126 tq (XS.iloadN X0.here hx rfl (hb hby at_71) rfl kq)
          have g128 : Gz p.tables e below A s₁ (mkF m 73 #[.val (.int p0), .val (.int iv), .unset, .unset, .unset, .unset] [(.int (4 : Int32)), (.int iv)]) := fun tq kq => g127 tq (XS.iconst X0.here hx rfl (hb hby at_72) kq)
          by_cases hc73 : iv = (4 : Int32)
          · have g129 : Gz p.tables e below A s₁ (mkF m 76 #[.val (.int p0), .val (.int iv), .unset, .unset, .unset, .unset] []) := fun tq kq => g128 tq (XS.icmpNo X0.here hx rfl (hb hby at_73) rfl (teq hc73).2 kq)
            obtain ⟨T130, X130, e130, st130⟩ := getS2 X0 hx hZ hown (host := "") (Or.inl (hw _ (List.mem_of_getElem? (i := 109) rfl))) Via.refl e0 S_MILLISECONDS (g := (mkF m 76 #[.val (.int p0), .val (.int iv), .unset, .unset, .unset, .unset] [])) rfl (hb hby at_76)
            have g131 : Gz p.tables e below A T130 (mkF m 79 #[.val (.int p0), .val (.int iv), .unset, .unset, .unset, .unset] [(.ref (w 4))]) := fun tq kq => g129 tq (st130 tq kq)
            have g132 : Gz p.tables e below A T130 (mkF m 80 #[.val (.int p0), .val (.int iv), .val (.ref (w 4)), .unset, .unset, .unset] []) := fun tq kq => g131 tq (XS.astoreN X130.here hx rfl (hb hby at_79) rfl rfl (l' := #[.val (.int p0), .val (.int iv), .val (.ref (w 4)), .unset, .unset, .unset]) rfl kq)
            have g133 : Gz p.tables e below A T130 (mkF m 83 #[.val (.int p0), .val (.int iv), .val (.ref (w 4)), .unset, .unset, .unset] [(.long (1000 : Int64))]) := fun tq kq => g132 tq (X130.ldc2Long hx hown (mvT hZ (hw _ (List.mem_of_getElem? (i := 95) rfl))) (g := (mkF m 80 #[.val (.int p0), .val (.int iv), .val (.ref (w 4)), .unset, .unset, .unset] [])) rfl (hb hby at_80) _ kq)
            have g134 : Gz p.tables e below A T130 (mkF m 84 #[.val (.int p0), .val (.int iv), .val (.ref (w 4)), .val (.long (1000 : Int64)), .second, .unset] []) := fun tq kq => g133 tq (XS.lstoreN X130.here hx rfl (hb hby at_83) rfl (l' := #[.val (.int p0), .val (.int iv), .val (.ref (w 4)), .val (.long (1000 : Int64)), .second, .unset]) rfl kq)
            have g135 : Gz p.tables e below A T130 (mkF m 111 #[.val (.int p0), .val (.int iv), .val (.ref (w 4)), .val (.long (1000 : Int64)), .second, .unset] []) := fun tq kq => g134 tq (XS.goto X130.here hx rfl (pc0 := 84) (pc' := 111) rfl (hb hby at_84) (by decide) (by decide) kq)
            have g136 : Gz p.tables e below A T130 (mkF m 112 #[.val (.int p0), .val (.int iv), .val (.ref (w 4)), .val (.long (1000 : Int64)), .second, .unset] [(.ref (w 4))]) := fun tq kq => g135 tq (XS.aloadN X130.here hx rfl (hb hby at_111) rfl rfl kq)
            obtain ⟨cq137, kq137, q137a, q137b, q137c⟩ := isOf hZ e130 E_4
            obtain ⟨_, _, ⟨T137, L137, k137, n137⟩, -, X137, ⟨Lc137, hQ137, l137, y137, z137⟩, st137⟩ := X130.virtualBack hx (y := (⟨"com/example/measured_slack/measuredslack/DurationUnit", "perLargerUnit", "()Ljava/util/Optional;"⟩ : MethodName)) (z := (⟨"com/example/measured_slack/measuredslack/DurationUnit", "perLargerUnit", "()Ljava/util/Optional;"⟩ : MethodName)) hown (mvT hZ (hw _ (List.mem_of_getElem? (i := 5) rfl))) (mvT hZ (hw _ (List.mem_of_getElem? (i := 6) rfl))) (notFace_of_selects (args := #[]) (mvT hZ (hw _ (List.mem_of_getElem? (i := 8) rfl)))) (mvT hZ (hw _ (List.mem_of_getElem? (i := 8) rfl))) (mvT hZ (hw _ (List.mem_of_getElem? (i := 7) rfl))) (by decide) (backOf (W := 0) (rm16 l Z a0 hw [] (w 4) 4 ar k w (w 3) 1000000000 1000000 1000 h0 n0 Z0 O_4 E_4 S_V V0 E0 (by decide) ⟨by decide, by decide⟩ rfl M_3 M_4 (by decide) (by decide) (by decide) (by decide)) hZ (hw _ (List.mem_of_getElem? (i := 9) rfl)) (hw _ (List.mem_of_getElem? (i := 2) rfl)) (by decide) (by decide)) q137a q137c (g := (mkF m 112 #[.val (.int p0), .val (.int iv), .val (.ref (w 4)), .val (.long (1000 : Int64)), .second, .unset] [(.ref (w 4))])) rfl (by rw [hml]; rfl) (Steps.refl _) (argsL := []) (rest := []) (lenOf pd0_0 rfl) rfl (by show 2 * 0 + _ ≤ _; exact Nat.le_of_eq rfl) (hb hby at_112) (fun _ _ => ⟨rfl, e130, (by decide : 0 + 3 ≤ _), (by decide : 0 + 9 ≤ _)⟩)
            dsimp only [Pt.U, Pt.locs, Pt.cells, Pt.slots] at X137 l137 y137 z137 st137 hQ137
            subst l137 y137 z137
            obtain ⟨r137, b137, rfl, N137q, EQ137, EX137, FX137, EY137, FY137⟩ := hQ137
            have N137 := Fr.app N0 N137q
            have g138 : Gz p.tables e below A T137 (mkF m 115 #[.val (.int p0), .val (.int iv), .val (.ref (w 4)), .val (.long (1000 : Int64)), .second, .unset] [(.ref r137)]) := fun tq kq => g136 tq (st137.trans kq)
            have K139 := EQ137
            have g140 : Gz p.tables e below A T137 (mkF m 117 #[.val (.int p0), .val (.int iv), .val (.ref (w 4)), .val (.long (1000 : Int64)), .second, .val (.ref r137)] []) := fun tq kq => g138 tq (XS.astore X137.here hx rfl (hb hby at_115) rfl rfl (l' := #[.val (.int p0), .val (.int iv), .val (.ref (w 4)), .val (.long (1000 : Int64)), .second, .val (.ref r137)]) rfl kq)
            have g141 : Gz p.tables e below A T137 (mkF m 118 #[.val (.int p0), .val (.int iv), .val (.ref (w 4)), .val (.long (1000 : Int64)), .second, .val (.ref r137)] [(.int iv)]) := fun tq kq => g140 tq (XS.iloadN X137.here hx rfl (hb hby at_117) rfl kq)
            have g142 : Gz p.tables e below A T137 (mkF m 135 #[.val (.int p0), .val (.int iv), .val (.ref (w 4)), .val (.long (1000 : Int64)), .second, .val (.ref r137)] []) := fun tq kq => g141 tq (XS.ifYes X137.here hx rfl (pc0 := 118) (pc' := 135) rfl (hb hby at_118) rfl ((if0 _ _).trans (feq hc9).2) (by decide) (by decide) kq)
            have g143 : Gz p.tables e below A T137 (mkF m 137 #[.val (.int p0), .val (.int iv), .val (.ref (w 4)), .val (.long (1000 : Int64)), .second, .val (.ref r137)] [(.ref r137)]) := fun tq kq => g142 tq (XS.aload X137.here hx rfl (hb hby at_135) rfl rfl kq)
            obtain ⟨cq144, kq144, q144a, q144b, q144c⟩ := isOf hZ rfl EX137
            obtain ⟨_, _, ⟨T144, L144, k144, n144⟩, -, X144, ⟨Lc144, hQ144, l144, y144, z144⟩, st144⟩ := X137.virtualBack hx (y := (⟨"java/util/Optional", "isPresent", "()Z"⟩ : MethodName)) (z := (⟨"java/util/Optional", "isPresent", "()Z"⟩ : MethodName)) hown (mvT hZ (hw _ (List.mem_of_getElem? (i := 24) rfl))) (mvT hZ (hw _ (List.mem_of_getElem? (i := 25) rfl))) (notFace_of_selects (args := #[]) (mvT hZ (hw _ (List.mem_of_getElem? (i := 27) rfl)))) (mvT hZ (hw _ (List.mem_of_getElem? (i := 27) rfl))) (mvT hZ (hw _ (List.mem_of_getElem? (i := 26) rfl))) (by decide) (backOf (W := 0) (rm4 l Z a0 hw [] r137 b137 T137.heap n0 (Nat.le_trans Z0 K139.1) FX137) hZ (hw _ (List.mem_of_getElem? (i := 28) rfl)) (hw _ (List.mem_of_getElem? (i := 21) rfl)) (by decide) (by decide)) q144a q144c (g := (mkF m 137 #[.val (.int p0), .val (.int iv), .val (.ref (w 4)), .val (.long (1000 : Int64)), .second, .val (.ref r137)] [(.ref r137)])) rfl (by rw [hml]; rfl) (Steps.refl _) (argsL := []) (rest := []) (lenOf pd0_1 rfl) rfl (by show 2 * 0 + _ ≤ _; exact Nat.le_of_eq rfl) (hb hby at_137) (fun _ _ => ⟨rfl, rfl, (by decide : 3 + 0 ≤ _), (by decide : 9 + 0 ≤ _)⟩)
            dsimp only [Pt.U, Pt.locs, Pt.cells, Pt.slots] at X144 l144 y144 z144 st144 hQ144
            subst l144 y144 z144
            obtain ⟨rfl, N144q, e144⟩ := hQ144
            have N144 := Fr.app N137 N144q
            have g145 : Gz p.tables e below A T144 (mkF m 140 #[.val (.int p0), .val (.int iv), .val (.ref (w 4)), .val (.long (1000 : Int64)), .second, .val (.ref r137)] [(.int (1 : Int32))]) := fun tq kq => g143 tq (st144.trans kq)
            have g146 : Gz p.tables e below A T144 (mkF m 145 #[.val (.int p0), .val (.int iv), .val (.ref (w 4)), .val (.long (1000 : Int64)), .second, .val (.ref r137)] []) := fun tq kq => g145 tq (XS.ifYes X144.here hx rfl (pc0 := 140) (pc' := 145) rfl (hb hby at_140) rfl ((if0 _ _).trans (feq (by decide)).2) (by decide) (by decide) kq)
            have g147 : Gz p.tables e below A T144 (mkF m 147 #[.val (.int p0), .val (.int iv), .val (.ref (w 4)), .val (.long (1000 : Int64)), .second, .val (.ref r137)] [(.ref r137)]) := fun tq kq => g146 tq (XS.aload X144.here hx rfl (hb hby at_145) rfl rfl kq)
            obtain ⟨cq148, kq148, q148a, q148b, q148c⟩ := isOf hZ e144 EX137
            obtain ⟨_, _, ⟨T148, L148, k148, n148⟩, -, X148, ⟨Lc148, hQ148, l148, y148, z148⟩, st148⟩ := X144.virtualBack hx (y := (⟨"java/util/Optional", "get", "()Ljava/lang/Object;"⟩ : MethodName)) (z := (⟨"java/util/Optional", "get", "()Ljava/lang/Object;"⟩ : MethodName)) hown (mvT hZ (hw _ (List.mem_of_getElem? (i := 80) rfl))) (mvT hZ (hw _ (List.mem_of_getElem? (i := 81) rfl))) (notFace_of_selects (args := #[]) (mvT hZ (hw _ (List.mem_of_getElem? (i := 83) rfl)))) (mvT hZ (hw _ (List.mem_of_getElem? (i := 83) rfl))) (mvT hZ (hw _ (List.mem_of_getElem? (i := 82) rfl))) (by decide) (backOf (W := 0) (rm5 l Z a0 hw [] r137 b137 T137.heap n0 (Nat.le_trans Z0 K139.1) FX137) hZ (hw _ (List.mem_of_getElem? (i := 84) rfl)) (hw _ (List.mem_of_getElem? (i := 21) rfl)) (by decide) (by decide)) q148a q148c (g := (mkF m 147 #[.val (.int p0), .val (.int iv), .val (.ref (w 4)), .val (.long (1000 : Int64)), .second, .val (.ref r137)] [(.ref r137)])) rfl (by rw [hml]; rfl) (Steps.refl _) (argsL := []) (rest := []) (lenOf pd0_2 rfl) rfl (by show 2 * 0 + _ ≤ _; exact Nat.le_of_eq rfl) (hb hby at_147) (fun _ _ => ⟨rfl, e144, (by decide : 3 + 0 ≤ _), (by decide : 9 + 0 ≤ _)⟩)
            dsimp only [Pt.U, Pt.locs, Pt.cells, Pt.slots] at X148 l148 y148 z148 st148 hQ148
            subst l148 y148 z148
            obtain ⟨rfl, N148q, e148⟩ := hQ148
            have N148 := Fr.app N144 N148q
            have g149 : Gz p.tables e below A T148 (mkF m 150 #[.val (.int p0), .val (.int iv), .val (.ref (w 4)), .val (.long (1000 : Int64)), .second, .val (.ref r137)] [(.ref b137)]) := fun tq kq => g147 tq (st148.trans kq)
            obtain ⟨T150, X150, e150, st150⟩ := castY X148 hx hZ hown (hw _ (List.mem_of_getElem? (i := 85) rfl)) e148 (Ins.self EY137) (g := (mkF m 150 #[.val (.int p0), .val (.int iv), .val (.ref (w 4)), .val (.long (1000 : Int64)), .second, .val (.ref r137)] [(.ref b137)])) rfl rfl (hb hby at_150)
            have g151 : Gz p.tables e below A T150 (mkF m 153 #[.val (.int p0), .val (.int iv), .val (.ref (w 4)), .val (.long (1000 : Int64)), .second, .val (.ref r137)] [(.ref b137)]) := fun tq kq => g149 tq (st150 tq kq)
            obtain ⟨cq152, kq152, q152a, q152b, q152c⟩ := isOf hZ e150 EY137
            obtain ⟨_, _, ⟨T152, L152, k152, n152⟩, -, X152, ⟨Lc152, hQ152, l152, y152, z152⟩, st152⟩ := X150.virtualBack hx (y := (⟨"java/lang/Long", "longValue", "()J"⟩ : MethodName)) (z := (⟨"java/lang/Long", "longValue", "()J"⟩ : MethodName)) hown (mvT hZ (hw _ (List.mem_of_getElem? (i := 87) rfl))) (mvT hZ (hw _ (List.mem_of_getElem? (i := 88) rfl))) (notFace_of_selects (args := #[]) (mvT hZ (hw _ (List.mem_of_getElem? (i := 90) rfl)))) (mvT hZ (hw _ (List.mem_of_getElem? (i := 90) rfl))) (mvT hZ (hw _ (List.mem_of_getElem? (i := 89) rfl))) (by decide) (backOf (W := 0) (rm6 l Z a0 hw [] b137 1000 T137.heap n0 (Nat.le_trans Z0 K139.1) FY137) hZ (hw _ (List.mem_of_getElem? (i := 91) rfl)) (hw _ (List.mem_of_getElem? (i := 58) rfl)) (by decide) (by decide)) q152a q152c (g := (mkF m 153 #[.val (.int p0), .val (.int iv), .val (.ref (w 4)), .val (.long (1000 : Int64)), .second, .val (.ref r137)] [(.ref b137)])) rfl (by rw [hml]; rfl) (Steps.refl _) (argsL := []) (rest := []) (lenOf pd0_3 rfl) rfl (by show 2 * 0 + _ ≤ _; exact Nat.le_of_eq rfl) (hb hby at_153) (fun _ _ => ⟨rfl, e150, (by decide : 3 + 0 ≤ _), (by decide : 9 + 0 ≤ _)⟩)
            dsimp only [Pt.U, Pt.locs, Pt.cells, Pt.slots] at X152 l152 y152 z152 st152 hQ152
            subst l152 y152 z152
            obtain ⟨rfl, N152q, e152⟩ := hQ152
            have N152 := Fr.app N148 N152q
            have g153 : Gz p.tables e below A T152 (mkF m 156 #[.val (.int p0), .val (.int iv), .val (.ref (w 4)), .val (.long (1000 : Int64)), .second, .val (.ref r137)] [(.long (1000 : Int64))]) := fun tq kq => g151 tq (st152.trans kq)
            have g154 : Gz p.tables e below A T152 (mkF m 157 #[.val (.int p0), .val (.int iv), .val (.ref (w 4)), .val (.long (1000 : Int64)), .second, .val (.ref r137)] [(.long (1000 : Int64)), (.long (1000 : Int64))]) := fun tq kq => g153 tq (XS.lloadN X152.here hx rfl (hb hby at_156) rfl kq)
            have g155 : Gz p.tables e below A T152 (mkF m 158 #[.val (.int p0), .val (.int iv), .val (.ref (w 4)), .val (.long (1000 : Int64)), .second, .val (.ref r137)] [(.int (lcmpW (1000 : Int64) (1000 : Int64)))]) := fun tq kq => g154 tq (XS.lcmp X152.here hx rfl (hb hby at_157) rfl kq)
            have g156 : Gz p.tables e below A T152 (mkF m 161 #[.val (.int p0), .val (.int iv), .val (.ref (w 4)), .val (.long (1000 : Int64)), .second, .val (.ref r137)] []) := fun tq kq => g155 tq (XS.ifNo X152.here hx rfl (hb hby at_158) rfl ((if0 _ _).trans (teq ((lw_eq _ _).mpr rfl)).2) kq)
            have g157 : Gz p.tables e below A T152 (mkF m 162 #[.val (.int p0), .val (.int iv), .val (.ref (w 4)), .val (.long (1000 : Int64)), .second, .val (.ref r137)] [(.int (1 : Int32))]) := fun tq kq => g156 tq (XS.iconst X152.here hx rfl (hb hby at_161) kq)
            have g158 : Gz p.tables e below A T152 (mkF m 166 #[.val (.int p0), .val (.int iv), .val (.ref (w 4)), .val (.long (1000 : Int64)), .second, .val (.ref r137)] [(.int (1 : Int32))]) := fun tq kq => g157 tq (XS.goto X152.here hx rfl (pc0 := 162) (pc' := 166) rfl (hb hby at_162) (by decide) (by decide) kq)
            obtain ⟨fs, hr, hrun, hended, hW, hsame⟩ := X152.leave (v := some (.int (1 : Int32))) (fun h => by rw [Bd.returns] at h; cases h)
            refine ⟨_, _, g158 _ (retN X152 hx (t := .boolean) Bd.returns (by simp) (hb hby at_166) hr), hrun, hended, _, _, rfl, ?_, ⟨_, rfl⟩, hW, hsame.mono (by decide) (by decide)⟩
            show Q0 Z p0 iv w ar k em ca clc b152 b188 h0 n0 _ T152.heap _
            rw [e152]
            exact ⟨rfl, N152⟩
          · have g159 : Gz p.tables e below A s₁ (mkF m 87 #[.val (.int p0), .val (.int iv), .unset, .unset, .unset, .unset] []) := fun tq kq => g128 tq (XS.icmpYes X0.here hx rfl (pc0 := 73) (pc' := 87) rfl (hb hby at_73) rfl (feq hc73).2 (by decide) (by decide) kq)
            have g160 : Gz p.tables e below A s₁ (mkF m 88 #[.val (.int p0), .val (.int iv), .unset, .unset, .unset, .unset] [(.int iv)]) := fun tq kq => g159 tq (XS.iloadN X0.here hx rfl (hb hby at_87) rfl kq)
            have g161 : Gz p.tables e below A s₁ (mkF m 89 #[.val (.int p0), .val (.int iv), .unset, .unset, .unset, .unset] [(.int (5 : Int32)), (.int iv)]) := fun tq kq => g160 tq (XS.iconst X0.here hx rfl (hb hby at_88) kq)
            by_cases hc89 : iv = (5 : Int32)
            · have g162 : Gz p.tables e below A s₁ (mkF m 92 #[.val (.int p0), .val (.int iv), .unset, .unset, .unset, .unset] []) := fun tq kq => g161 tq (XS.icmpNo X0.here hx rfl (hb hby at_89) rfl (teq hc89).2 kq)
              obtain ⟨T163, X163, e163, st163⟩ := getS2 X0 hx hZ hown (host := "") (Or.inl (hw _ (List.mem_of_getElem? (i := 94) rfl))) Via.refl e0 S_MICROSECONDS (g := (mkF m 92 #[.val (.int p0), .val (.int iv), .unset, .unset, .unset, .unset] [])) rfl (hb hby at_92)
              have g164 : Gz p.tables e below A T163 (mkF m 95 #[.val (.int p0), .val (.int iv), .unset, .unset, .unset, .unset] [(.ref (w 5))]) := fun tq kq => g162 tq (st163 tq kq)
              have g165 : Gz p.tables e below A T163 (mkF m 96 #[.val (.int p0), .val (.int iv), .val (.ref (w 5)), .unset, .unset, .unset] []) := fun tq kq => g164 tq (XS.astoreN X163.here hx rfl (hb hby at_95) rfl rfl (l' := #[.val (.int p0), .val (.int iv), .val (.ref (w 5)), .unset, .unset, .unset]) rfl kq)
              have g166 : Gz p.tables e below A T163 (mkF m 99 #[.val (.int p0), .val (.int iv), .val (.ref (w 5)), .unset, .unset, .unset] [(.long (1000 : Int64))]) := fun tq kq => g165 tq (X163.ldc2Long hx hown (mvT hZ (hw _ (List.mem_of_getElem? (i := 95) rfl))) (g := (mkF m 96 #[.val (.int p0), .val (.int iv), .val (.ref (w 5)), .unset, .unset, .unset] [])) rfl (hb hby at_96) _ kq)
              have g167 : Gz p.tables e below A T163 (mkF m 100 #[.val (.int p0), .val (.int iv), .val (.ref (w 5)), .val (.long (1000 : Int64)), .second, .unset] []) := fun tq kq => g166 tq (XS.lstoreN X163.here hx rfl (hb hby at_99) rfl (l' := #[.val (.int p0), .val (.int iv), .val (.ref (w 5)), .val (.long (1000 : Int64)), .second, .unset]) rfl kq)
              have g168 : Gz p.tables e below A T163 (mkF m 111 #[.val (.int p0), .val (.int iv), .val (.ref (w 5)), .val (.long (1000 : Int64)), .second, .unset] []) := fun tq kq => g167 tq (XS.goto X163.here hx rfl (pc0 := 100) (pc' := 111) rfl (hb hby at_100) (by decide) (by decide) kq)
              have g169 : Gz p.tables e below A T163 (mkF m 112 #[.val (.int p0), .val (.int iv), .val (.ref (w 5)), .val (.long (1000 : Int64)), .second, .unset] [(.ref (w 5))]) := fun tq kq => g168 tq (XS.aloadN X163.here hx rfl (hb hby at_111) rfl rfl kq)
              obtain ⟨cq170, kq170, q170a, q170b, q170c⟩ := isOf hZ e163 E_5
              obtain ⟨_, _, ⟨T170, L170, k170, n170⟩, -, X170, ⟨Lc170, hQ170, l170, y170, z170⟩, st170⟩ := X163.virtualBack hx (y := (⟨"com/example/measured_slack/measuredslack/DurationUnit", "perLargerUnit", "()Ljava/util/Optional;"⟩ : MethodName)) (z := (⟨"com/example/measured_slack/measuredslack/DurationUnit", "perLargerUnit", "()Ljava/util/Optional;"⟩ : MethodName)) hown (mvT hZ (hw _ (List.mem_of_getElem? (i := 5) rfl))) (mvT hZ (hw _ (List.mem_of_getElem? (i := 6) rfl))) (notFace_of_selects (args := #[]) (mvT hZ (hw _ (List.mem_of_getElem? (i := 8) rfl)))) (mvT hZ (hw _ (List.mem_of_getElem? (i := 8) rfl))) (mvT hZ (hw _ (List.mem_of_getElem? (i := 7) rfl))) (by decide) (backOf (W := 0) (rm16 l Z a0 hw [] (w 5) 5 ar k w (w 4) 1000000 1000 1000 h0 n0 Z0 O_5 E_5 S_V V0 E0 (by decide) ⟨by decide, by decide⟩ rfl M_4 M_5 (by decide) (by decide) (by decide) (by decide)) hZ (hw _ (List.mem_of_getElem? (i := 9) rfl)) (hw _ (List.mem_of_getElem? (i := 2) rfl)) (by decide) (by decide)) q170a q170c (g := (mkF m 112 #[.val (.int p0), .val (.int iv), .val (.ref (w 5)), .val (.long (1000 : Int64)), .second, .unset] [(.ref (w 5))])) rfl (by rw [hml]; rfl) (Steps.refl _) (argsL := []) (rest := []) (lenOf pd0_0 rfl) rfl (by show 2 * 0 + _ ≤ _; exact Nat.le_of_eq rfl) (hb hby at_112) (fun _ _ => ⟨rfl, e163, (by decide : 0 + 3 ≤ _), (by decide : 0 + 9 ≤ _)⟩)
              dsimp only [Pt.U, Pt.locs, Pt.cells, Pt.slots] at X170 l170 y170 z170 st170 hQ170
              subst l170 y170 z170
              obtain ⟨r170, b170, rfl, N170q, EQ170, EX170, FX170, EY170, FY170⟩ := hQ170
              have N170 := Fr.app N0 N170q
              have g171 : Gz p.tables e below A T170 (mkF m 115 #[.val (.int p0), .val (.int iv), .val (.ref (w 5)), .val (.long (1000 : Int64)), .second, .unset] [(.ref r170)]) := fun tq kq => g169 tq (st170.trans kq)
              have K172 := EQ170
              have g173 : Gz p.tables e below A T170 (mkF m 117 #[.val (.int p0), .val (.int iv), .val (.ref (w 5)), .val (.long (1000 : Int64)), .second, .val (.ref r170)] []) := fun tq kq => g171 tq (XS.astore X170.here hx rfl (hb hby at_115) rfl rfl (l' := #[.val (.int p0), .val (.int iv), .val (.ref (w 5)), .val (.long (1000 : Int64)), .second, .val (.ref r170)]) rfl kq)
              have g174 : Gz p.tables e below A T170 (mkF m 118 #[.val (.int p0), .val (.int iv), .val (.ref (w 5)), .val (.long (1000 : Int64)), .second, .val (.ref r170)] [(.int iv)]) := fun tq kq => g173 tq (XS.iloadN X170.here hx rfl (hb hby at_117) rfl kq)
              have g175 : Gz p.tables e below A T170 (mkF m 135 #[.val (.int p0), .val (.int iv), .val (.ref (w 5)), .val (.long (1000 : Int64)), .second, .val (.ref r170)] []) := fun tq kq => g174 tq (XS.ifYes X170.here hx rfl (pc0 := 118) (pc' := 135) rfl (hb hby at_118) rfl ((if0 _ _).trans (feq hc9).2) (by decide) (by decide) kq)
              have g176 : Gz p.tables e below A T170 (mkF m 137 #[.val (.int p0), .val (.int iv), .val (.ref (w 5)), .val (.long (1000 : Int64)), .second, .val (.ref r170)] [(.ref r170)]) := fun tq kq => g175 tq (XS.aload X170.here hx rfl (hb hby at_135) rfl rfl kq)
              obtain ⟨cq177, kq177, q177a, q177b, q177c⟩ := isOf hZ rfl EX170
              obtain ⟨_, _, ⟨T177, L177, k177, n177⟩, -, X177, ⟨Lc177, hQ177, l177, y177, z177⟩, st177⟩ := X170.virtualBack hx (y := (⟨"java/util/Optional", "isPresent", "()Z"⟩ : MethodName)) (z := (⟨"java/util/Optional", "isPresent", "()Z"⟩ : MethodName)) hown (mvT hZ (hw _ (List.mem_of_getElem? (i := 24) rfl))) (mvT hZ (hw _ (List.mem_of_getElem? (i := 25) rfl))) (notFace_of_selects (args := #[]) (mvT hZ (hw _ (List.mem_of_getElem? (i := 27) rfl)))) (mvT hZ (hw _ (List.mem_of_getElem? (i := 27) rfl))) (mvT hZ (hw _ (List.mem_of_getElem? (i := 26) rfl))) (by decide) (backOf (W := 0) (rm4 l Z a0 hw [] r170 b170 T170.heap n0 (Nat.le_trans Z0 K172.1) FX170) hZ (hw _ (List.mem_of_getElem? (i := 28) rfl)) (hw _ (List.mem_of_getElem? (i := 21) rfl)) (by decide) (by decide)) q177a q177c (g := (mkF m 137 #[.val (.int p0), .val (.int iv), .val (.ref (w 5)), .val (.long (1000 : Int64)), .second, .val (.ref r170)] [(.ref r170)])) rfl (by rw [hml]; rfl) (Steps.refl _) (argsL := []) (rest := []) (lenOf pd0_1 rfl) rfl (by show 2 * 0 + _ ≤ _; exact Nat.le_of_eq rfl) (hb hby at_137) (fun _ _ => ⟨rfl, rfl, (by decide : 3 + 0 ≤ _), (by decide : 9 + 0 ≤ _)⟩)
              dsimp only [Pt.U, Pt.locs, Pt.cells, Pt.slots] at X177 l177 y177 z177 st177 hQ177
              subst l177 y177 z177
              obtain ⟨rfl, N177q, e177⟩ := hQ177
              have N177 := Fr.app N170 N177q
              have g178 : Gz p.tables e below A T177 (mkF m 140 #[.val (.int p0), .val (.int iv), .val (.ref (w 5)), .val (.long (1000 : Int64)), .second, .val (.ref r170)] [(.int (1 : Int32))]) := fun tq kq => g176 tq (st177.trans kq)
              have g179 : Gz p.tables e below A T177 (mkF m 145 #[.val (.int p0), .val (.int iv), .val (.ref (w 5)), .val (.long (1000 : Int64)), .second, .val (.ref r170)] []) := fun tq kq => g178 tq (XS.ifYes X177.here hx rfl (pc0 := 140) (pc' := 145) rfl (hb hby at_140) rfl ((if0 _ _).trans (feq (by decide)).2) (by decide) (by decide) kq)
              have g180 : Gz p.tables e below A T177 (mkF m 147 #[.val (.int p0), .val (.int iv), .val (.ref (w 5)), .val (.long (1000 : Int64)), .second, .val (.ref r170)] [(.ref r170)]) := fun tq kq => g179 tq (XS.aload X177.here hx rfl (hb hby at_145) rfl rfl kq)
              obtain ⟨cq181, kq181, q181a, q181b, q181c⟩ := isOf hZ e177 EX170
              obtain ⟨_, _, ⟨T181, L181, k181, n181⟩, -, X181, ⟨Lc181, hQ181, l181, y181, z181⟩, st181⟩ := X177.virtualBack hx (y := (⟨"java/util/Optional", "get", "()Ljava/lang/Object;"⟩ : MethodName)) (z := (⟨"java/util/Optional", "get", "()Ljava/lang/Object;"⟩ : MethodName)) hown (mvT hZ (hw _ (List.mem_of_getElem? (i := 80) rfl))) (mvT hZ (hw _ (List.mem_of_getElem? (i := 81) rfl))) (notFace_of_selects (args := #[]) (mvT hZ (hw _ (List.mem_of_getElem? (i := 83) rfl)))) (mvT hZ (hw _ (List.mem_of_getElem? (i := 83) rfl))) (mvT hZ (hw _ (List.mem_of_getElem? (i := 82) rfl))) (by decide) (backOf (W := 0) (rm5 l Z a0 hw [] r170 b170 T170.heap n0 (Nat.le_trans Z0 K172.1) FX170) hZ (hw _ (List.mem_of_getElem? (i := 84) rfl)) (hw _ (List.mem_of_getElem? (i := 21) rfl)) (by decide) (by decide)) q181a q181c (g := (mkF m 147 #[.val (.int p0), .val (.int iv), .val (.ref (w 5)), .val (.long (1000 : Int64)), .second, .val (.ref r170)] [(.ref r170)])) rfl (by rw [hml]; rfl) (Steps.refl _) (argsL := []) (rest := []) (lenOf pd0_2 rfl) rfl (by show 2 * 0 + _ ≤ _; exact Nat.le_of_eq rfl) (hb hby at_147) (fun _ _ => ⟨rfl, e177, (by decide : 3 + 0 ≤ _), (by decide : 9 + 0 ≤ _)⟩)
              dsimp only [Pt.U, Pt.locs, Pt.cells, Pt.slots] at X181 l181 y181 z181 st181 hQ181
              subst l181 y181 z181
              obtain ⟨rfl, N181q, e181⟩ := hQ181
              have N181 := Fr.app N177 N181q
              have g182 : Gz p.tables e below A T181 (mkF m 150 #[.val (.int p0), .val (.int iv), .val (.ref (w 5)), .val (.long (1000 : Int64)), .second, .val (.ref r170)] [(.ref b170)]) := fun tq kq => g180 tq (st181.trans kq)
              obtain ⟨T183, X183, e183, st183⟩ := castY X181 hx hZ hown (hw _ (List.mem_of_getElem? (i := 85) rfl)) e181 (Ins.self EY170) (g := (mkF m 150 #[.val (.int p0), .val (.int iv), .val (.ref (w 5)), .val (.long (1000 : Int64)), .second, .val (.ref r170)] [(.ref b170)])) rfl rfl (hb hby at_150)
              have g184 : Gz p.tables e below A T183 (mkF m 153 #[.val (.int p0), .val (.int iv), .val (.ref (w 5)), .val (.long (1000 : Int64)), .second, .val (.ref r170)] [(.ref b170)]) := fun tq kq => g182 tq (st183 tq kq)
              obtain ⟨cq185, kq185, q185a, q185b, q185c⟩ := isOf hZ e183 EY170
              obtain ⟨_, _, ⟨T185, L185, k185, n185⟩, -, X185, ⟨Lc185, hQ185, l185, y185, z185⟩, st185⟩ := X183.virtualBack hx (y := (⟨"java/lang/Long", "longValue", "()J"⟩ : MethodName)) (z := (⟨"java/lang/Long", "longValue", "()J"⟩ : MethodName)) hown (mvT hZ (hw _ (List.mem_of_getElem? (i := 87) rfl))) (mvT hZ (hw _ (List.mem_of_getElem? (i := 88) rfl))) (notFace_of_selects (args := #[]) (mvT hZ (hw _ (List.mem_of_getElem? (i := 90) rfl)))) (mvT hZ (hw _ (List.mem_of_getElem? (i := 90) rfl))) (mvT hZ (hw _ (List.mem_of_getElem? (i := 89) rfl))) (by decide) (backOf (W := 0) (rm6 l Z a0 hw [] b170 1000 T170.heap n0 (Nat.le_trans Z0 K172.1) FY170) hZ (hw _ (List.mem_of_getElem? (i := 91) rfl)) (hw _ (List.mem_of_getElem? (i := 58) rfl)) (by decide) (by decide)) q185a q185c (g := (mkF m 153 #[.val (.int p0), .val (.int iv), .val (.ref (w 5)), .val (.long (1000 : Int64)), .second, .val (.ref r170)] [(.ref b170)])) rfl (by rw [hml]; rfl) (Steps.refl _) (argsL := []) (rest := []) (lenOf pd0_3 rfl) rfl (by show 2 * 0 + _ ≤ _; exact Nat.le_of_eq rfl) (hb hby at_153) (fun _ _ => ⟨rfl, e183, (by decide : 3 + 0 ≤ _), (by decide : 9 + 0 ≤ _)⟩)
              dsimp only [Pt.U, Pt.locs, Pt.cells, Pt.slots] at X185 l185 y185 z185 st185 hQ185
              subst l185 y185 z185
              obtain ⟨rfl, N185q, e185⟩ := hQ185
              have N185 := Fr.app N181 N185q
              have g186 : Gz p.tables e below A T185 (mkF m 156 #[.val (.int p0), .val (.int iv), .val (.ref (w 5)), .val (.long (1000 : Int64)), .second, .val (.ref r170)] [(.long (1000 : Int64))]) := fun tq kq => g184 tq (st185.trans kq)
              have g187 : Gz p.tables e below A T185 (mkF m 157 #[.val (.int p0), .val (.int iv), .val (.ref (w 5)), .val (.long (1000 : Int64)), .second, .val (.ref r170)] [(.long (1000 : Int64)), (.long (1000 : Int64))]) := fun tq kq => g186 tq (XS.lloadN X185.here hx rfl (hb hby at_156) rfl kq)
              have g188 : Gz p.tables e below A T185 (mkF m 158 #[.val (.int p0), .val (.int iv), .val (.ref (w 5)), .val (.long (1000 : Int64)), .second, .val (.ref r170)] [(.int (lcmpW (1000 : Int64) (1000 : Int64)))]) := fun tq kq => g187 tq (XS.lcmp X185.here hx rfl (hb hby at_157) rfl kq)
              have g189 : Gz p.tables e below A T185 (mkF m 161 #[.val (.int p0), .val (.int iv), .val (.ref (w 5)), .val (.long (1000 : Int64)), .second, .val (.ref r170)] []) := fun tq kq => g188 tq (XS.ifNo X185.here hx rfl (hb hby at_158) rfl ((if0 _ _).trans (teq ((lw_eq _ _).mpr rfl)).2) kq)
              have g190 : Gz p.tables e below A T185 (mkF m 162 #[.val (.int p0), .val (.int iv), .val (.ref (w 5)), .val (.long (1000 : Int64)), .second, .val (.ref r170)] [(.int (1 : Int32))]) := fun tq kq => g189 tq (XS.iconst X185.here hx rfl (hb hby at_161) kq)
              have g191 : Gz p.tables e below A T185 (mkF m 166 #[.val (.int p0), .val (.int iv), .val (.ref (w 5)), .val (.long (1000 : Int64)), .second, .val (.ref r170)] [(.int (1 : Int32))]) := fun tq kq => g190 tq (XS.goto X185.here hx rfl (pc0 := 162) (pc' := 166) rfl (hb hby at_162) (by decide) (by decide) kq)
              obtain ⟨fs, hr, hrun, hended, hW, hsame⟩ := X185.leave (v := some (.int (1 : Int32))) (fun h => by rw [Bd.returns] at h; cases h)
              refine ⟨_, _, g191 _ (retN X185 hx (t := .boolean) Bd.returns (by simp) (hb hby at_166) hr), hrun, hended, _, _, rfl, ?_, ⟨_, rfl⟩, hW, hsame.mono (by decide) (by decide)⟩
              show Q0 Z p0 iv w ar k em ca clc b152 b188 h0 n0 _ T185.heap _
              rw [e185]
              exact ⟨rfl, N185⟩
            · have g192 : Gz p.tables e below A s₁ (mkF m 103 #[.val (.int p0), .val (.int iv), .unset, .unset, .unset, .unset] []) := fun tq kq => g161 tq (XS.icmpYes X0.here hx rfl (pc0 := 89) (pc' := 103) rfl (hb hby at_89) rfl (feq hc89).2 (by decide) (by decide) kq)
              obtain ⟨T193, X193, e193, st193⟩ := getS2 X0 hx hZ hown (host := "") (Or.inl (hw _ (List.mem_of_getElem? (i := 108) rfl))) Via.refl e0 S_NANOSECONDS (g := (mkF m 103 #[.val (.int p0), .val (.int iv), .unset, .unset, .unset, .unset] [])) rfl (hb hby at_103)
              have g194 : Gz p.tables e below A T193 (mkF m 106 #[.val (.int p0), .val (.int iv), .unset, .unset, .unset, .unset] [(.ref (w 6))]) := fun tq kq => g192 tq (st193 tq kq)
              have g195 : Gz p.tables e below A T193 (mkF m 107 #[.val (.int p0), .val (.int iv), .val (.ref (w 6)), .unset, .unset, .unset] []) := fun tq kq => g194 tq (XS.astoreN X193.here hx rfl (hb hby at_106) rfl rfl (l' := #[.val (.int p0), .val (.int iv), .val (.ref (w 6)), .unset, .unset, .unset]) rfl kq)
              have g196 : Gz p.tables e below A T193 (mkF m 110 #[.val (.int p0), .val (.int iv), .val (.ref (w 6)), .unset, .unset, .unset] [(.long (1000 : Int64))]) := fun tq kq => g195 tq (X193.ldc2Long hx hown (mvT hZ (hw _ (List.mem_of_getElem? (i := 95) rfl))) (g := (mkF m 107 #[.val (.int p0), .val (.int iv), .val (.ref (w 6)), .unset, .unset, .unset] [])) rfl (hb hby at_107) _ kq)
              have g197 : Gz p.tables e below A T193 (mkF m 111 #[.val (.int p0), .val (.int iv), .val (.ref (w 6)), .val (.long (1000 : Int64)), .second, .unset] []) := fun tq kq => g196 tq (XS.lstoreN X193.here hx rfl (hb hby at_110) rfl (l' := #[.val (.int p0), .val (.int iv), .val (.ref (w 6)), .val (.long (1000 : Int64)), .second, .unset]) rfl kq)
              have g198 : Gz p.tables e below A T193 (mkF m 112 #[.val (.int p0), .val (.int iv), .val (.ref (w 6)), .val (.long (1000 : Int64)), .second, .unset] [(.ref (w 6))]) := fun tq kq => g197 tq (XS.aloadN X193.here hx rfl (hb hby at_111) rfl rfl kq)
              obtain ⟨cq199, kq199, q199a, q199b, q199c⟩ := isOf hZ e193 E_6
              obtain ⟨_, _, ⟨T199, L199, k199, n199⟩, -, X199, ⟨Lc199, hQ199, l199, y199, z199⟩, st199⟩ := X193.virtualBack hx (y := (⟨"com/example/measured_slack/measuredslack/DurationUnit", "perLargerUnit", "()Ljava/util/Optional;"⟩ : MethodName)) (z := (⟨"com/example/measured_slack/measuredslack/DurationUnit", "perLargerUnit", "()Ljava/util/Optional;"⟩ : MethodName)) hown (mvT hZ (hw _ (List.mem_of_getElem? (i := 5) rfl))) (mvT hZ (hw _ (List.mem_of_getElem? (i := 6) rfl))) (notFace_of_selects (args := #[]) (mvT hZ (hw _ (List.mem_of_getElem? (i := 8) rfl)))) (mvT hZ (hw _ (List.mem_of_getElem? (i := 8) rfl))) (mvT hZ (hw _ (List.mem_of_getElem? (i := 7) rfl))) (by decide) (backOf (W := 0) (rm16 l Z a0 hw [] (w 6) 6 ar k w (w 5) 1000 1 1000 h0 n0 Z0 O_6 E_6 S_V V0 E0 (by decide) ⟨by decide, by decide⟩ rfl M_5 M_6 (by decide) (by decide) (by decide) (by decide)) hZ (hw _ (List.mem_of_getElem? (i := 9) rfl)) (hw _ (List.mem_of_getElem? (i := 2) rfl)) (by decide) (by decide)) q199a q199c (g := (mkF m 112 #[.val (.int p0), .val (.int iv), .val (.ref (w 6)), .val (.long (1000 : Int64)), .second, .unset] [(.ref (w 6))])) rfl (by rw [hml]; rfl) (Steps.refl _) (argsL := []) (rest := []) (lenOf pd0_0 rfl) rfl (by show 2 * 0 + _ ≤ _; exact Nat.le_of_eq rfl) (hb hby at_112) (fun _ _ => ⟨rfl, e193, (by decide : 0 + 3 ≤ _), (by decide : 0 + 9 ≤ _)⟩)
              dsimp only [Pt.U, Pt.locs, Pt.cells, Pt.slots] at X199 l199 y199 z199 st199 hQ199
              subst l199 y199 z199
              obtain ⟨r199, b199, rfl, N199q, EQ199, EX199, FX199, EY199, FY199⟩ := hQ199
              have N199 := Fr.app N0 N199q
              have g200 : Gz p.tables e below A T199 (mkF m 115 #[.val (.int p0), .val (.int iv), .val (.ref (w 6)), .val (.long (1000 : Int64)), .second, .unset] [(.ref r199)]) := fun tq kq => g198 tq (st199.trans kq)
              have K201 := EQ199
              have g202 : Gz p.tables e below A T199 (mkF m 117 #[.val (.int p0), .val (.int iv), .val (.ref (w 6)), .val (.long (1000 : Int64)), .second, .val (.ref r199)] []) := fun tq kq => g200 tq (XS.astore X199.here hx rfl (hb hby at_115) rfl rfl (l' := #[.val (.int p0), .val (.int iv), .val (.ref (w 6)), .val (.long (1000 : Int64)), .second, .val (.ref r199)]) rfl kq)
              have g203 : Gz p.tables e below A T199 (mkF m 118 #[.val (.int p0), .val (.int iv), .val (.ref (w 6)), .val (.long (1000 : Int64)), .second, .val (.ref r199)] [(.int iv)]) := fun tq kq => g202 tq (XS.iloadN X199.here hx rfl (hb hby at_117) rfl kq)
              have g204 : Gz p.tables e below A T199 (mkF m 135 #[.val (.int p0), .val (.int iv), .val (.ref (w 6)), .val (.long (1000 : Int64)), .second, .val (.ref r199)] []) := fun tq kq => g203 tq (XS.ifYes X199.here hx rfl (pc0 := 118) (pc' := 135) rfl (hb hby at_118) rfl ((if0 _ _).trans (feq hc9).2) (by decide) (by decide) kq)
              have g205 : Gz p.tables e below A T199 (mkF m 137 #[.val (.int p0), .val (.int iv), .val (.ref (w 6)), .val (.long (1000 : Int64)), .second, .val (.ref r199)] [(.ref r199)]) := fun tq kq => g204 tq (XS.aload X199.here hx rfl (hb hby at_135) rfl rfl kq)
              obtain ⟨cq206, kq206, q206a, q206b, q206c⟩ := isOf hZ rfl EX199
              obtain ⟨_, _, ⟨T206, L206, k206, n206⟩, -, X206, ⟨Lc206, hQ206, l206, y206, z206⟩, st206⟩ := X199.virtualBack hx (y := (⟨"java/util/Optional", "isPresent", "()Z"⟩ : MethodName)) (z := (⟨"java/util/Optional", "isPresent", "()Z"⟩ : MethodName)) hown (mvT hZ (hw _ (List.mem_of_getElem? (i := 24) rfl))) (mvT hZ (hw _ (List.mem_of_getElem? (i := 25) rfl))) (notFace_of_selects (args := #[]) (mvT hZ (hw _ (List.mem_of_getElem? (i := 27) rfl)))) (mvT hZ (hw _ (List.mem_of_getElem? (i := 27) rfl))) (mvT hZ (hw _ (List.mem_of_getElem? (i := 26) rfl))) (by decide) (backOf (W := 0) (rm4 l Z a0 hw [] r199 b199 T199.heap n0 (Nat.le_trans Z0 K201.1) FX199) hZ (hw _ (List.mem_of_getElem? (i := 28) rfl)) (hw _ (List.mem_of_getElem? (i := 21) rfl)) (by decide) (by decide)) q206a q206c (g := (mkF m 137 #[.val (.int p0), .val (.int iv), .val (.ref (w 6)), .val (.long (1000 : Int64)), .second, .val (.ref r199)] [(.ref r199)])) rfl (by rw [hml]; rfl) (Steps.refl _) (argsL := []) (rest := []) (lenOf pd0_1 rfl) rfl (by show 2 * 0 + _ ≤ _; exact Nat.le_of_eq rfl) (hb hby at_137) (fun _ _ => ⟨rfl, rfl, (by decide : 3 + 0 ≤ _), (by decide : 9 + 0 ≤ _)⟩)
              dsimp only [Pt.U, Pt.locs, Pt.cells, Pt.slots] at X206 l206 y206 z206 st206 hQ206
              subst l206 y206 z206
              obtain ⟨rfl, N206q, e206⟩ := hQ206
              have N206 := Fr.app N199 N206q
              have g207 : Gz p.tables e below A T206 (mkF m 140 #[.val (.int p0), .val (.int iv), .val (.ref (w 6)), .val (.long (1000 : Int64)), .second, .val (.ref r199)] [(.int (1 : Int32))]) := fun tq kq => g205 tq (st206.trans kq)
              have g208 : Gz p.tables e below A T206 (mkF m 145 #[.val (.int p0), .val (.int iv), .val (.ref (w 6)), .val (.long (1000 : Int64)), .second, .val (.ref r199)] []) := fun tq kq => g207 tq (XS.ifYes X206.here hx rfl (pc0 := 140) (pc' := 145) rfl (hb hby at_140) rfl ((if0 _ _).trans (feq (by decide)).2) (by decide) (by decide) kq)
              have g209 : Gz p.tables e below A T206 (mkF m 147 #[.val (.int p0), .val (.int iv), .val (.ref (w 6)), .val (.long (1000 : Int64)), .second, .val (.ref r199)] [(.ref r199)]) := fun tq kq => g208 tq (XS.aload X206.here hx rfl (hb hby at_145) rfl rfl kq)
              obtain ⟨cq210, kq210, q210a, q210b, q210c⟩ := isOf hZ e206 EX199
              obtain ⟨_, _, ⟨T210, L210, k210, n210⟩, -, X210, ⟨Lc210, hQ210, l210, y210, z210⟩, st210⟩ := X206.virtualBack hx (y := (⟨"java/util/Optional", "get", "()Ljava/lang/Object;"⟩ : MethodName)) (z := (⟨"java/util/Optional", "get", "()Ljava/lang/Object;"⟩ : MethodName)) hown (mvT hZ (hw _ (List.mem_of_getElem? (i := 80) rfl))) (mvT hZ (hw _ (List.mem_of_getElem? (i := 81) rfl))) (notFace_of_selects (args := #[]) (mvT hZ (hw _ (List.mem_of_getElem? (i := 83) rfl)))) (mvT hZ (hw _ (List.mem_of_getElem? (i := 83) rfl))) (mvT hZ (hw _ (List.mem_of_getElem? (i := 82) rfl))) (by decide) (backOf (W := 0) (rm5 l Z a0 hw [] r199 b199 T199.heap n0 (Nat.le_trans Z0 K201.1) FX199) hZ (hw _ (List.mem_of_getElem? (i := 84) rfl)) (hw _ (List.mem_of_getElem? (i := 21) rfl)) (by decide) (by decide)) q210a q210c (g := (mkF m 147 #[.val (.int p0), .val (.int iv), .val (.ref (w 6)), .val (.long (1000 : Int64)), .second, .val (.ref r199)] [(.ref r199)])) rfl (by rw [hml]; rfl) (Steps.refl _) (argsL := []) (rest := []) (lenOf pd0_2 rfl) rfl (by show 2 * 0 + _ ≤ _; exact Nat.le_of_eq rfl) (hb hby at_147) (fun _ _ => ⟨rfl, e206, (by decide : 3 + 0 ≤ _), (by decide : 9 + 0 ≤ _)⟩)
              dsimp only [Pt.U, Pt.locs, Pt.cells, Pt.slots] at X210 l210 y210 z210 st210 hQ210
              subst l210 y210 z210
              obtain ⟨rfl, N210q, e210⟩ := hQ210
              have N210 := Fr.app N206 N210q
              have g211 : Gz p.tables e below A T210 (mkF m 150 #[.val (.int p0), .val (.int iv), .val (.ref (w 6)), .val (.long (1000 : Int64)), .second, .val (.ref r199)] [(.ref b199)]) := fun tq kq => g209 tq (st210.trans kq)
              obtain ⟨T212, X212, e212, st212⟩ := castY X210 hx hZ hown (hw _ (List.mem_of_getElem? (i := 85) rfl)) e210 (Ins.self EY199) (g := (mkF m 150 #[.val (.int p0), .val (.int iv), .val (.ref (w 6)), .val (.long (1000 : Int64)), .second, .val (.ref r199)] [(.ref b199)])) rfl rfl (hb hby at_150)
              have g213 : Gz p.tables e below A T212 (mkF m 153 #[.val (.int p0), .val (.int iv), .val (.ref (w 6)), .val (.long (1000 : Int64)), .second, .val (.ref r199)] [(.ref b199)]) := fun tq kq => g211 tq (st212 tq kq)
              obtain ⟨cq214, kq214, q214a, q214b, q214c⟩ := isOf hZ e212 EY199
              obtain ⟨_, _, ⟨T214, L214, k214, n214⟩, -, X214, ⟨Lc214, hQ214, l214, y214, z214⟩, st214⟩ := X212.virtualBack hx (y := (⟨"java/lang/Long", "longValue", "()J"⟩ : MethodName)) (z := (⟨"java/lang/Long", "longValue", "()J"⟩ : MethodName)) hown (mvT hZ (hw _ (List.mem_of_getElem? (i := 87) rfl))) (mvT hZ (hw _ (List.mem_of_getElem? (i := 88) rfl))) (notFace_of_selects (args := #[]) (mvT hZ (hw _ (List.mem_of_getElem? (i := 90) rfl)))) (mvT hZ (hw _ (List.mem_of_getElem? (i := 90) rfl))) (mvT hZ (hw _ (List.mem_of_getElem? (i := 89) rfl))) (by decide) (backOf (W := 0) (rm6 l Z a0 hw [] b199 1000 T199.heap n0 (Nat.le_trans Z0 K201.1) FY199) hZ (hw _ (List.mem_of_getElem? (i := 91) rfl)) (hw _ (List.mem_of_getElem? (i := 58) rfl)) (by decide) (by decide)) q214a q214c (g := (mkF m 153 #[.val (.int p0), .val (.int iv), .val (.ref (w 6)), .val (.long (1000 : Int64)), .second, .val (.ref r199)] [(.ref b199)])) rfl (by rw [hml]; rfl) (Steps.refl _) (argsL := []) (rest := []) (lenOf pd0_3 rfl) rfl (by show 2 * 0 + _ ≤ _; exact Nat.le_of_eq rfl) (hb hby at_153) (fun _ _ => ⟨rfl, e212, (by decide : 3 + 0 ≤ _), (by decide : 9 + 0 ≤ _)⟩)
              dsimp only [Pt.U, Pt.locs, Pt.cells, Pt.slots] at X214 l214 y214 z214 st214 hQ214
              subst l214 y214 z214
              obtain ⟨rfl, N214q, e214⟩ := hQ214
              have N214 := Fr.app N210 N214q
              have g215 : Gz p.tables e below A T214 (mkF m 156 #[.val (.int p0), .val (.int iv), .val (.ref (w 6)), .val (.long (1000 : Int64)), .second, .val (.ref r199)] [(.long (1000 : Int64))]) := fun tq kq => g213 tq (st214.trans kq)
              have g216 : Gz p.tables e below A T214 (mkF m 157 #[.val (.int p0), .val (.int iv), .val (.ref (w 6)), .val (.long (1000 : Int64)), .second, .val (.ref r199)] [(.long (1000 : Int64)), (.long (1000 : Int64))]) := fun tq kq => g215 tq (XS.lloadN X214.here hx rfl (hb hby at_156) rfl kq)
              have g217 : Gz p.tables e below A T214 (mkF m 158 #[.val (.int p0), .val (.int iv), .val (.ref (w 6)), .val (.long (1000 : Int64)), .second, .val (.ref r199)] [(.int (lcmpW (1000 : Int64) (1000 : Int64)))]) := fun tq kq => g216 tq (XS.lcmp X214.here hx rfl (hb hby at_157) rfl kq)
              have g218 : Gz p.tables e below A T214 (mkF m 161 #[.val (.int p0), .val (.int iv), .val (.ref (w 6)), .val (.long (1000 : Int64)), .second, .val (.ref r199)] []) := fun tq kq => g217 tq (XS.ifNo X214.here hx rfl (hb hby at_158) rfl ((if0 _ _).trans (teq ((lw_eq _ _).mpr rfl)).2) kq)
              have g219 : Gz p.tables e below A T214 (mkF m 162 #[.val (.int p0), .val (.int iv), .val (.ref (w 6)), .val (.long (1000 : Int64)), .second, .val (.ref r199)] [(.int (1 : Int32))]) := fun tq kq => g218 tq (XS.iconst X214.here hx rfl (hb hby at_161) kq)
              have g220 : Gz p.tables e below A T214 (mkF m 166 #[.val (.int p0), .val (.int iv), .val (.ref (w 6)), .val (.long (1000 : Int64)), .second, .val (.ref r199)] [(.int (1 : Int32))]) := fun tq kq => g219 tq (XS.goto X214.here hx rfl (pc0 := 162) (pc' := 166) rfl (hb hby at_162) (by decide) (by decide) kq)
              obtain ⟨fs, hr, hrun, hended, hW, hsame⟩ := X214.leave (v := some (.int (1 : Int32))) (fun h => by rw [Bd.returns] at h; cases h)
              refine ⟨_, _, g220 _ (retN X214 hx (t := .boolean) Bd.returns (by simp) (hb hby at_166) hr), hrun, hended, _, _, rfl, ?_, ⟨_, rfl⟩, hW, hsame.mono (by decide) (by decide)⟩
              show Q0 Z p0 iv w ar k em ca clc b152 b188 h0 n0 _ T214.heap _
              rw [e214]
              exact ⟨rfl, N214⟩

set_option maxRecDepth 65536 in
set_option maxHeartbeats 40000000 in
theorem comes_1 {Post : Tables → Env → Array Value → State → Outcome → State → Prop} (hpost : ∀ tb e args s v u, (limb_1_1.after args s (.returned v) u = true ∧ limb_1_2.after args s (.returned v) u = true ∧ True) → FrameEnd s (.returned v) u (Jvm.fieldLocs frame_1_writes args s ++ Jvm.arrayLocs frame_1_arrays args s ++ Jvm.staticLocs frame_1_statics s) 16 128 → Post tb e args s (.returned v) u) :
    ArmFor flags0 classFile x code maxLocals ret World_1 tables_1 room_1 Calls_1 rest_1 Pre_1 Post := by
  intro l hfl _ _ p e ha hc hk s m args below hf hA hF happ hP
  obtain ⟨hcalls, hrest, hpre⟩ := hP
  obtain ⟨-, -, -, hnamed, -, -, -, hat⟩ := (Spec.applies_iff hf).mp happ
  obtain ⟨hg, hn⟩ := and_e (Cond.before_iff.mp (show (Jvm.Cond.and given_1 narrow_1).before args s = true from hpre))
  obtain ⟨hcnt, hg⟩ := and_e hg
  have ga0 := hg
  obtain ⟨w0, rfl⟩ : ∃ w0 : Value, args = #[w0] := by
    have hs : args.size = 1 := by simpa [Cond.value, given_1] using hcnt
    obtain ⟨L⟩ := args
    match L, hs with
    | [w0], _ => exact ⟨w0, rfl⟩
  have hw := fun d (hd : d ∈ tables_1) => atoms_spec (ws := Jvm.Cond.code x code maxLocals ret :: tables_1) hat d (List.mem_cons_of_mem _ hd)
  have hfit : Fit s := fun {y c} hc i hi => by
    obtain ⟨ha, rfl⟩ := Array.getElem?_eq_some_iff.mp hc
    have q := List.all_eq_true.mp ((Array.all_eq_true_iff_forall_mem.mp hF) _ (Array.getElem_mem ha)) i (List.mem_range.mpr hi)
    simpa [Array.getElem?_eq_getElem hi] using q
  obtain ⟨hsets, hown0⟩ := atoms_of _ (rest_1_c_eq ▸ (show rest_1_c.before _ s = true from hrest))
  obtain ⟨i0, ei0⟩ := is_v ga0
  obtain rfl : w0 = (.int i0) := Option.some.inj ei0
  obtain ⟨c0, hn⟩ := and_e hn
  obtain ⟨c1, hn⟩ := and_e hn
  obtain ⟨c2, hn⟩ := and_e hn
  obtain ⟨c3, hn⟩ := and_e hn
  obtain ⟨c4, hn⟩ := and_e hn
  obtain ⟨c5, hn⟩ := and_e hn
  obtain ⟨c6, hn⟩ := and_e hn
  obtain ⟨c7, hn⟩ := and_e hn
  obtain ⟨c8, hn⟩ := and_e hn
  obtain ⟨c9, hn⟩ := and_e hn
  obtain ⟨c10, hn⟩ := and_e hn
  obtain ⟨c11, hn⟩ := and_e hn
  obtain ⟨c12, hn⟩ := and_e hn
  obtain ⟨c13, hn⟩ := and_e hn
  obtain ⟨c14, hn⟩ := and_e hn
  obtain ⟨c15, hn⟩ := and_e hn
  obtain ⟨c16, hn⟩ := and_e hn
  obtain ⟨c17, hn⟩ := and_e hn
  obtain ⟨c18, hn⟩ := and_e hn
  obtain ⟨c19, hn⟩ := and_e hn
  obtain ⟨c20, hn⟩ := and_e hn
  obtain ⟨c21, hn⟩ := and_e hn
  obtain ⟨c22, hn⟩ := and_e hn
  obtain ⟨c23, hn⟩ := and_e hn
  obtain ⟨c24, hn⟩ := and_e hn
  obtain ⟨c25, hn⟩ := and_e hn
  obtain ⟨c26, hn⟩ := and_e hn
  obtain ⟨c27, hn⟩ := and_e hn
  obtain ⟨c28, hn⟩ := and_e hn
  obtain ⟨c29, hn⟩ := and_e hn
  have c30 := hn
  obtain ⟨w_DAYS, ev_DAYS⟩ := exa_v c0
  have E_DAYS := Exa.start ev_DAYS c0
  have S_DAYS : Sta s s.heap "com/example/measured_slack/measuredslack/DurationUnit" "DAYS" "Lcom/example/measured_slack/measuredslack/DurationUnit;" (.ref w_DAYS) := Sta.start ev_DAYS (Or.inr ⟨(hw _ (List.mem_of_getElem? (i := 2) rfl)), (hw _ (List.mem_of_getElem? (i := 3) rfl))⟩)
  obtain ⟨w_SECONDS, ev_SECONDS⟩ := exa_v c2
  have E_SECONDS := Exa.start ev_SECONDS c2
  have S_SECONDS : Sta s s.heap "com/example/measured_slack/measuredslack/DurationUnit" "SECONDS" "Lcom/example/measured_slack/measuredslack/DurationUnit;" (.ref w_SECONDS) := Sta.start ev_SECONDS (Or.inr ⟨(hw _ (List.mem_of_getElem? (i := 2) rfl)), (hw _ (List.mem_of_getElem? (i := 32) rfl))⟩)
  obtain ⟨w__VALUES, ev__VALUES⟩ := exa_v c5
  have E__VALUES := Exa.start ev__VALUES c5
  have S__VALUES : Sta s s.heap "com/example/measured_slack/measuredslack/DurationUnit" "$VALUES" "[Lcom/example/measured_slack/measuredslack/DurationUnit;" (.ref w__VALUES) := Sta.start ev__VALUES (Or.inr ⟨(hw _ (List.mem_of_getElem? (i := 2) rfl)), (hw _ (List.mem_of_getElem? (i := 38) rfl))⟩)
  obtain ⟨w_HOURS, ev_HOURS⟩ := exa_v c8
  have E_HOURS := Exa.start ev_HOURS c8
  have S_HOURS : Sta s s.heap "com/example/measured_slack/measuredslack/DurationUnit" "HOURS" "Lcom/example/measured_slack/measuredslack/DurationUnit;" (.ref w_HOURS) := Sta.start ev_HOURS (Or.inr ⟨(hw _ (List.mem_of_getElem? (i := 2) rfl)), (hw _ (List.mem_of_getElem? (i := 46) rfl))⟩)
  obtain ⟨w_MINUTES, ev_MINUTES⟩ := exa_v c10
  have E_MINUTES := Exa.start ev_MINUTES c10
  have S_MINUTES : Sta s s.heap "com/example/measured_slack/measuredslack/DurationUnit" "MINUTES" "Lcom/example/measured_slack/measuredslack/DurationUnit;" (.ref w_MINUTES) := Sta.start ev_MINUTES (Or.inr ⟨(hw _ (List.mem_of_getElem? (i := 2) rfl)), (hw _ (List.mem_of_getElem? (i := 47) rfl))⟩)
  obtain ⟨w_MILLISECONDS, ev_MILLISECONDS⟩ := exa_v c13
  have E_MILLISECONDS := Exa.start ev_MILLISECONDS c13
  have S_MILLISECONDS : Sta s s.heap "com/example/measured_slack/measuredslack/DurationUnit" "MILLISECONDS" "Lcom/example/measured_slack/measuredslack/DurationUnit;" (.ref w_MILLISECONDS) := Sta.start ev_MILLISECONDS (Or.inr ⟨(hw _ (List.mem_of_getElem? (i := 2) rfl)), (hw _ (List.mem_of_getElem? (i := 48) rfl))⟩)
  obtain ⟨w_MICROSECONDS, ev_MICROSECONDS⟩ := exa_v c15
  have E_MICROSECONDS := Exa.start ev_MICROSECONDS c15
  have S_MICROSECONDS : Sta s s.heap "com/example/measured_slack/measuredslack/DurationUnit" "MICROSECONDS" "Lcom/example/measured_slack/measuredslack/DurationUnit;" (.ref w_MICROSECONDS) := Sta.start ev_MICROSECONDS (Or.inr ⟨(hw _ (List.mem_of_getElem? (i := 2) rfl)), (hw _ (List.mem_of_getElem? (i := 49) rfl))⟩)
  obtain ⟨w_NANOSECONDS, ev_NANOSECONDS⟩ := exa_v c17
  have E_NANOSECONDS := Exa.start ev_NANOSECONDS c17
  have S_NANOSECONDS : Sta s s.heap "com/example/measured_slack/measuredslack/DurationUnit" "NANOSECONDS" "Lcom/example/measured_slack/measuredslack/DurationUnit;" (.ref w_NANOSECONDS) := Sta.start ev_NANOSECONDS (Or.inr ⟨(hw _ (List.mem_of_getElem? (i := 2) rfl)), (hw _ (List.mem_of_getElem? (i := 50) rfl))⟩)
  have F_DAYS_ordinal := own_fldI c1 ev_DAYS
  have F_SECONDS_ordinal := own_fldI c3 ev_SECONDS
  have F_MINUTES_nanos := own_fldJ c19 ev_MINUTES
  have F_SECONDS_nanos := own_fldJ c20 ev_SECONDS
  have F_MICROSECONDS_ordinal := own_fldI c21 ev_MICROSECONDS
  have F_MILLISECONDS_nanos := own_fldJ c22 ev_MILLISECONDS
  have F_MICROSECONDS_nanos := own_fldJ c23 ev_MICROSECONDS
  have F_NANOSECONDS_ordinal := own_fldI c24 ev_NANOSECONDS
  have F_NANOSECONDS_nanos := own_fldJ c25 ev_NANOSECONDS
  have F_MILLISECONDS_ordinal := own_fldI c26 ev_MILLISECONDS
  have F_MINUTES_ordinal := own_fldI c27 ev_MINUTES
  have F_HOURS_nanos := own_fldJ c28 ev_HOURS
  have F_HOURS_ordinal := own_fldI c29 ev_HOURS
  have F_DAYS_nanos := own_fldJ c30 ev_DAYS
  obtain ⟨cl, A0⟩ := Arr.start ev__VALUES c4
  have hat0 := Arr.fin (Vm.Alike.refl _) A0
  obtain ⟨hsz, hlen⟩ := own_len (own_eqI c6) ev__VALUES hat0
  have at0 := (elem_in (own_eqRef c7 ev_DAYS) ev__VALUES (Term.int_eval 0) A0.1).2
  have at1 := (elem_in (own_eqRef c9 ev_HOURS) ev__VALUES (Term.int_eval 1) A0.1).2
  have at2 := (elem_in (own_eqRef c11 ev_MINUTES) ev__VALUES (Term.int_eval 2) A0.1).2
  have at3 := (elem_in (own_eqRef c12 ev_SECONDS) ev__VALUES (Term.int_eval 3) A0.1).2
  have at4 := (elem_in (own_eqRef c14 ev_MILLISECONDS) ev__VALUES (Term.int_eval 4) A0.1).2
  have at5 := (elem_in (own_eqRef c16 ev_MICROSECONDS) ev__VALUES (Term.int_eval 5) A0.1).2
  have at6 := (elem_in (own_eqRef c18 ev_NANOSECONDS) ev__VALUES (Term.int_eval 6) A0.1).2
  have V0 : Arv s s.heap w__VALUES cl.cls (.object "com/example/measured_slack/measuredslack/DurationUnit") (7 : Int32) [.ref w_DAYS, .ref w_HOURS, .ref w_MINUTES, .ref w_SECONDS, .ref w_MILLISECONDS, .ref w_MICROSECONDS, .ref w_NANOSECONDS] .null := Arv.start hfit A0 hsz hlen (by decide) rfl ⟨at0, at1, at2, at3, at4, at5, at6, trivial⟩
  obtain ⟨em, ev_em⟩ := exa_v (Cond.before_iff.mp (hsets _ (List.mem_of_getElem? (i := 2) rfl)))
  have E_em := Exa.start ev_em (Cond.before_iff.mp (hsets _ (List.mem_of_getElem? (i := 2) rfl)))
  have F_em := own_fldN (Cond.before_iff.mp (hsets _ (List.mem_of_getElem? (i := 3) rfl))) ev_em
  have S_E : Sta s s.heap "java/util/Optional" "EMPTY" "Ljava/util/Optional;" (.ref em) := Sta.start ev_em (Or.inl (hsets _ (List.mem_of_getElem? (i := 1) rfl)))
  obtain ⟨ca, ev_ca⟩ := exa_v (Cond.before_iff.mp (hsets _ (List.mem_of_getElem? (i := 7) rfl)))
  have S_C : Sta s s.heap "java/lang/Long$LongCache" "cache" "[Ljava/lang/Long;" (.ref ca) := Sta.start ev_ca (Or.inl (hsets _ (List.mem_of_getElem? (i := 5) rfl)))
  obtain ⟨clc, A_c⟩ := Arr.start ev_ca (Cond.before_iff.mp (hsets _ (List.mem_of_getElem? (i := 6) rfl)))
  have hatc := Arr.fin (Vm.Alike.refl _) A_c
  obtain ⟨hszc, hlenc⟩ := own_len (own_eqI (Cond.before_iff.mp (hsets _ (List.mem_of_getElem? (i := 8) rfl)))) ev_ca hatc
  have hsz256 : clc.slots.size = 256 := own_size hszc hlenc (by decide)
  have hall := Cond.all_elim ev_ca hatc (Cond.before_iff.mp (hsets _ (List.mem_of_getElem? (i := 9) rfl)))
  obtain ⟨x152, y152⟩ := and_e (hall 152 (by omega))
  obtain ⟨b152, eb152⟩ := exa_v x152
  have E_b152 := exa_at eb152 x152
  have F_b152 : Fld s s.heap b152 "java/lang/Long" "value" "J" (.long 24) := own_fldL y152 eb152 rfl
  have hei152 := elem_in eb152 (show (Term.static "java/lang/Long$LongCache" "cache" "[Ljava/lang/Long;").eval _ s none [152] s = some (.ref ca) from ev_ca) (idx_at (j := (152 : Int32)) (by decide)) A_c.1
  obtain ⟨x188, y188⟩ := and_e (hall 188 (by omega))
  obtain ⟨b188, eb188⟩ := exa_v x188
  have E_b188 := exa_at eb188 x188
  have F_b188 : Fld s s.heap b188 "java/lang/Long" "value" "J" (.long 60) := own_fldL y188 eb188 rfl
  have hei188 := elem_in eb188 (show (Term.static "java/lang/Long$LongCache" "cache" "[Ljava/lang/Long;").eval _ s none [188] s = some (.ref ca) from ev_ca) (idx_at (j := (188 : Int32)) (by decide)) A_c.1
  obtain ⟨n, o, h1, h2, h3, _, L, rfl, ⟨rfl, N⟩, hq⟩ := rm0 l s _ hw tables_1 i0 _ (fun k => [w_DAYS, w_HOURS, w_MINUTES, w_SECONDS, w_MILLISECONDS, w_MICROSECONDS, w_NANOSECONDS].getD k 0) w__VALUES _ em ca clc b152 b188 s.heap s.heap.size (Nat.le_refl _) rfl S_DAYS S_HOURS S_MINUTES S_SECONDS S_MILLISECONDS S_MICROSECONDS S_NANOSECONDS F_DAYS_ordinal F_HOURS_ordinal F_MINUTES_ordinal F_SECONDS_ordinal F_MILLISECONDS_ordinal F_MICROSECONDS_ordinal F_NANOSECONDS_ordinal F_DAYS_nanos F_HOURS_nanos F_MINUTES_nanos F_SECONDS_nanos F_MILLISECONDS_nanos F_MICROSECONDS_nanos F_NANOSECONDS_nanos E_DAYS E_HOURS E_MINUTES E_SECONDS E_MILLISECONDS E_MICROSECONDS E_NANOSECONDS S__VALUES V0 E__VALUES S_E E_em F_em S_C A_c hei152.1 hei188.1 hei152.2 hei188.2 E_b152 E_b188 F_b152 F_b188 p e ha hc hk s m _ below hf ((Spec.applies_iff_loose hf).mp happ).1 ⟨rfl, State.Warmed39.refl s, rfl⟩ trivial
  refine ⟨n, _, h1, h2, h3, hpost _ _ _ _ _ _ ⟨Cond.after_iff.mpr rfl, Cond.after_iff.mpr (eq_i res_at (Term.int_eval (1)) rfl), trivial⟩ ⟨hq.1, hq.2.1, (hq.2.2.sift fun y hy => Or.inr (N y hy)).mono (by decide) (by decide)⟩⟩
theorem main_1_1 : Claimed_1_1 := comes_1 fun _ _ _ _ _ _ h hF => ⟨h.1, hF⟩
theorem main_1_2 : Claimed_1_2 := comes_1 fun _ _ _ _ _ _ h hF => ⟨h.2.1, hF⟩
end Jvm.Pilot.@@N@@
namespace Jvm.Pilot.@@N@@
open Jvm Jvm.ClassFile Sem Op Lib Jvm.Free Jvm.Stand Jvm.Pilot.@@N@@.Jvm.D
/-! MADE BY PROGRAM (witnessworld.py) out of the Statement's table words and the real class files: 20 classes; the members and pool entries that the words name. The judged class is class 1, her method 1. -/
namespace start1
open Jvm.ClassFile
def u (s : String) : CpInfo := .utf8 (stringToUtf16 s)
/-- a pool by its gaps: so many unusable entries, then the entry; so many at the end -/
def gap : Nat → List CpInfo → List CpInfo
  | 0, r => r
  | n + 1, r => .unusable :: gap n r
def poolList (es : List (Nat × CpInfo)) (last : Nat) : List CpInfo := es.foldr (fun e r => gap e.1 (e.2 :: r)) (gap last [])
def pool (es : List (Nat × CpInfo)) (last : Nat) : Array CpInfo := ⟨poolList es last⟩
def fileOf (pool : Array CpInfo) (this : Nat) (attrs : Array Attribute := #[]) (ms : Array MethodInfo := #[]) (fl : Nat := 33) (sup : Nat := 0) (ifs : Array Nat := #[]) (fds : Array FieldInfo := #[]) : ClassFile where
  minorVersion := 0
  majorVersion := 65
  constantPool := pool
  accessFlags := fl
  thisClass := this
  superClass := sup
  interfaces := ifs
  fields := fds
  methods := ms
  attributes := attrs
def plain (name : String) (sup : Option ClassId) : Class where
  name := name
  kind := .ordinary
  loader := none
  accessFlags := 33
  super := sup
  interfaces := #[]
  cf := none
  fields := #[]
  methods := #[]
  instanceTypes := #[]
  staticTypes := #[]
  resolved := #[]
  callSites := []
  init := .initialized
  statics := none
  mirror := none

def pool0 : Array CpInfo := pool [(5, u "<init>"), (0, u "()V"), (1, .class_ 10), (1, u "java/lang/Object"), (85, u "clone"), (0, u "()Ljava/lang/Object;")] 26

def k0c0 : Code := { maxStack := 0, maxLocals := 1, code := object_method_1_code, exceptionTable := #[], attributes := #[] }
def k0m0 : Method := { name := "<init>", desc := "()V", sig := { parameters := [], returnType := none }, accessFlags := 1, code := some k0c0 }
def k0m1 : Method := { name := "clone", desc := "()Ljava/lang/Object;", sig := { parameters := [], returnType := some (.object "java/lang/Object") }, accessFlags := 260, code := none }
/-- java/lang/Object -/
def k0 : Class := { plain "java/lang/Object" none with
  accessFlags := 33
  interfaces := #[]
  cf := some (fileOf pool0 8 #[] #[{ accessFlags := 1, nameIndex := 5, descriptorIndex := 6, attributes := #[] }, { accessFlags := 260, nameIndex := 96, descriptorIndex := 97, attributes := #[] }] 33 0 #[] #[])
  fields := #[]
  methods := #[k0m0, k0m1]
  instanceTypes := #[]
  staticTypes := #[]
  resolved := Array.replicate 124 none
  statics := none }

def pool1 : Array CpInfo := pool [(2, .class_ 4), (1, u "java/lang/Object"), (0, u "<init>"), (0, u "()V"), (0, .integer 2147483647), (0, .fieldref 9 10), (0, .class_ 11), (0, .nameAndType 12 13), (0, u "com/example/measured_slack/measuredslack/DurationUnit"), (0, u "DAYS"), (0, u "Lcom/example/measured_slack/measuredslack/DurationUnit;"), (0, .long 18446744073709551615), (1, .fieldref 9 17), (0, .nameAndType 18 13), (0, u "HOURS"), (0, .long 24), (1, .fieldref 9 22), (0, .nameAndType 23 13), (0, u "MINUTES"), (0, .long 60), (1, .fieldref 9 27), (0, .nameAndType 28 13), (0, u "SECONDS"), (0, .fieldref 9 30), (0, .nameAndType 31 13), (0, u "MILLISECONDS"), (0, .long 1000), (1, .fieldref 9 35), (0, .nameAndType 36 13), (0, u "MICROSECONDS"), (0, .fieldref 9 38), (0, .nameAndType 39 13), (0, u "NANOSECONDS"), (0, .methodref 9 41), (0, .nameAndType 42 43), (0, u "perLargerUnit"), (0, u "()Ljava/util/Optional;"), (0, .methodref 45 46), (0, .class_ 47), (0, .nameAndType 48 49), (0, u "java/util/Optional"), (0, u "isPresent"), (0, u "()Z"), (0, .methodref 45 51), (0, .nameAndType 52 53), (0, u "get"), (0, u "()Ljava/lang/Object;"), (0, .class_ 55), (0, u "java/lang/Long"), (0, .methodref 54 57), (0, .nameAndType 58 59), (0, u "longValue"), (0, u "()J"), (0, .class_ 61), (0, u "com/example/measured_slack/measuredslack/DurationUnitPerLargerUnitPinLaw"), (2, u "law"), (0, u "(I)Z")] 3

def k1m0 : Method := { name := "<init>", desc := "()V", sig := { parameters := [], returnType := none }, accessFlags := 1, code := none }
def k1c1 : Code := { maxStack := 4, maxLocals := 6, code := code, exceptionTable := #[], attributes := #[] }
def k1m1 : Method := { name := "law", desc := "(I)Z", sig := { parameters := [.int], returnType := some .boolean }, accessFlags := 9, code := some k1c1 }
/-- com/example/measured_slack/measuredslack/DurationUnitPerLargerUnitPinLaw -/
def k1 : Class := { plain "com/example/measured_slack/measuredslack/DurationUnitPerLargerUnitPinLaw" (some 0) with
  accessFlags := 49
  interfaces := #[]
  cf := some (fileOf pool1 60 #[] #[{ accessFlags := 1, nameIndex := 5, descriptorIndex := 6, attributes := #[] }, { accessFlags := 9, nameIndex := 64, descriptorIndex := 65, attributes := #[] }] 49 2 #[] #[])
  fields := #[]
  methods := #[k1m0, k1m1]
  instanceTypes := #[]
  staticTypes := #[]
  resolved := Array.replicate 69 none
  statics := none }

def pool2 : Array CpInfo := pool [(1, .class_ 2), (0, u "java/lang/constant/Constable"), (0, .class_ 4), (0, u "java/lang/Object")] 6

/-- java/lang/constant/Constable -/
def k2 : Class := { plain "java/lang/constant/Constable" (some 0) with
  accessFlags := 1537
  interfaces := #[]
  cf := some (fileOf pool2 1 #[] #[] 1537 3 #[] #[])
  fields := #[]
  methods := #[]
  instanceTypes := #[]
  staticTypes := #[]
  resolved := Array.replicate 11 none
  statics := none }

def pool3 : Array CpInfo := pool [(1, .class_ 2), (0, u "java/lang/Comparable"), (0, .class_ 4), (0, u "java/lang/Object")] 7

/-- java/lang/Comparable -/
def k3 : Class := { plain "java/lang/Comparable" (some 0) with
  accessFlags := 1537
  interfaces := #[]
  cf := some (fileOf pool3 1 #[] #[] 1537 3 #[] #[])
  fields := #[]
  methods := #[]
  instanceTypes := #[]
  staticTypes := #[]
  resolved := Array.replicate 12 none
  statics := none }

def pool4 : Array CpInfo := pool [(1, .class_ 2), (0, u "java/io/Serializable"), (0, .class_ 4), (0, u "java/lang/Object")] 2

/-- java/io/Serializable -/
def k4 : Class := { plain "java/io/Serializable" (some 0) with
  accessFlags := 1537
  interfaces := #[]
  cf := some (fileOf pool4 1 #[] #[] 1537 3 #[] #[])
  fields := #[]
  methods := #[]
  instanceTypes := #[]
  staticTypes := #[]
  resolved := Array.replicate 7 none
  statics := none }

def pool5 : Array CpInfo := pool [(2, .class_ 4), (1, u "java/lang/Enum"), (0, u "name"), (0, u "Ljava/lang/String;"), (0, .fieldref 2 8), (0, .nameAndType 9 10), (0, u "ordinal"), (0, u "I"), (1, .class_ 14), (1, u "java/lang/Object"), (4, u "hash"), (86, .class_ 108), (1, u "java/lang/Enum$EnumDesc"), (2, .class_ 112), (0, u "java/lang/constant/Constable"), (0, .class_ 114), (0, u "java/lang/Comparable"), (0, .class_ 116), (0, u "java/io/Serializable"), (9, u "()I")] 77

def k5c0 : Code := { maxStack := 1, maxLocals := 1, code := jdk_37_method_2_code, exceptionTable := #[], attributes := #[] }
def k5m0 : Method := { name := "ordinal", desc := "()I", sig := { parameters := [], returnType := some .int }, accessFlags := 17, code := some k5c0 }
/-- java/lang/Enum -/
def k5 : Class := { plain "java/lang/Enum" (some 0) with
  accessFlags := 1057
  interfaces := #[2, 3, 4]
  cf := some (fileOf pool5 2 #[.nestMembers #[106]] #[{ accessFlags := 17, nameIndex := 9, descriptorIndex := 126, attributes := #[] }] 1057 12 #[111, 113, 115] #[{ accessFlags := 18, nameIndex := 5, descriptorIndex := 6, attributes := #[] }, { accessFlags := 18, nameIndex := 9, descriptorIndex := 10, attributes := #[] }, { accessFlags := 2, nameIndex := 19, descriptorIndex := 10, attributes := #[] }])
  fields := #[{ name := "name", type := (.object "java/lang/String"), accessFlags := 18, slot := 0, constantValue := 0 }, { name := "ordinal", type := .int, accessFlags := 18, slot := 1, constantValue := 0 }, { name := "hash", type := .int, accessFlags := 2, slot := 2, constantValue := 0 }]
  methods := #[k5m0]
  instanceTypes := #[(.object "java/lang/String"), .int, .int]
  staticTypes := #[]
  resolved := Array.replicate 204 none
  statics := none }

def pool6 : Array CpInfo := pool [(1, .class_ 2), (0, u "com/example/measured_slack/measuredslack/DurationUnit"), (2, u "DAYS"), (0, u "Lcom/example/measured_slack/measuredslack/DurationUnit;"), (2, u "HOURS"), (2, u "MINUTES"), (2, u "SECONDS"), (2, u "MILLISECONDS"), (2, u "MICROSECONDS"), (2, u "NANOSECONDS"), (0, .fieldref 1 26), (0, .nameAndType 27 28), (0, u "$VALUES"), (0, u "[Lcom/example/measured_slack/measuredslack/DurationUnit;"), (0, .methodref 30 31), (0, .class_ 28), (0, .nameAndType 32 33), (0, u "clone"), (0, u "()Ljava/lang/Object;"), (1, .class_ 37), (1, u "java/lang/Enum"), (0, u "valueOf"), (7, u "symbol"), (0, u "Ljava/lang/String;"), (0, .fieldref 1 49), (0, .nameAndType 50 51), (0, u "nanos"), (0, u "J"), (0, .methodref 1 53), (0, .nameAndType 54 55), (0, u "values"), (0, u "()[Lcom/example/measured_slack/measuredslack/DurationUnit;"), (19, u "()Ljava/util/Optional;"), (0, .methodref 1 77), (0, .nameAndType 78 79), (0, u "ordinal"), (0, u "()I"), (0, .methodref 81 82), (0, .class_ 83), (0, .nameAndType 84 75), (0, u "java/util/Optional"), (0, u "empty"), (0, .methodref 86 87), (0, .class_ 88), (0, .nameAndType 38 89), (0, u "java/lang/Long"), (0, u "(J)Ljava/lang/Long;"), (0, .methodref 81 91), (0, .nameAndType 92 93), (0, u "of"), (0, u "(Ljava/lang/Object;)Ljava/util/Optional;"), (56, u "perLargerUnit")] 29

def k6c0 : Code := { maxStack := 1, maxLocals := 0, code := prog_5_method_1_code, exceptionTable := #[], attributes := #[] }
def k6m0 : Method := { name := "values", desc := "()[Lcom/example/measured_slack/measuredslack/DurationUnit;", sig := { parameters := [], returnType := some (.array (.object "com/example/measured_slack/measuredslack/DurationUnit")) }, accessFlags := 9, code := some k6c0 }
def k6c1 : Code := { maxStack := 4, maxLocals := 1, code := prog_5_method_7_code, exceptionTable := #[], attributes := #[] }
def k6m1 : Method := { name := "perLargerUnit", desc := "()Ljava/util/Optional;", sig := { parameters := [], returnType := some (.object "java/util/Optional") }, accessFlags := 0, code := some k6c1 }
/-- com/example/measured_slack/measuredslack/DurationUnit -/
def k6 : Class := { plain "com/example/measured_slack/measuredslack/DurationUnit" (some 5) with
  accessFlags := 16433
  interfaces := #[]
  cf := some (fileOf pool6 1 #[] #[{ accessFlags := 9, nameIndex := 54, descriptorIndex := 55, attributes := #[] }, { accessFlags := 0, nameIndex := 150, descriptorIndex := 75, attributes := #[] }] 16433 35 #[] #[{ accessFlags := 16409, nameIndex := 5, descriptorIndex := 6, attributes := #[] }, { accessFlags := 16409, nameIndex := 9, descriptorIndex := 6, attributes := #[] }, { accessFlags := 16409, nameIndex := 12, descriptorIndex := 6, attributes := #[] }, { accessFlags := 16409, nameIndex := 15, descriptorIndex := 6, attributes := #[] }, { accessFlags := 16409, nameIndex := 18, descriptorIndex := 6, attributes := #[] }, { accessFlags := 16409, nameIndex := 21, descriptorIndex := 6, attributes := #[] }, { accessFlags := 16409, nameIndex := 24, descriptorIndex := 6, attributes := #[] }, { accessFlags := 18, nameIndex := 46, descriptorIndex := 47, attributes := #[] }, { accessFlags := 18, nameIndex := 50, descriptorIndex := 51, attributes := #[] }, { accessFlags := 4122, nameIndex := 27, descriptorIndex := 28, attributes := #[] }])
  fields := #[{ name := "DAYS", type := (.object "com/example/measured_slack/measuredslack/DurationUnit"), accessFlags := 16409, slot := 0, constantValue := 0 }, { name := "HOURS", type := (.object "com/example/measured_slack/measuredslack/DurationUnit"), accessFlags := 16409, slot := 1, constantValue := 0 }, { name := "MINUTES", type := (.object "com/example/measured_slack/measuredslack/DurationUnit"), accessFlags := 16409, slot := 2, constantValue := 0 }, { name := "SECONDS", type := (.object "com/example/measured_slack/measuredslack/DurationUnit"), accessFlags := 16409, slot := 3, constantValue := 0 }, { name := "MILLISECONDS", type := (.object "com/example/measured_slack/measuredslack/DurationUnit"), accessFlags := 16409, slot := 4, constantValue := 0 }, { name := "MICROSECONDS", type := (.object "com/example/measured_slack/measuredslack/DurationUnit"), accessFlags := 16409, slot := 5, constantValue := 0 }, { name := "NANOSECONDS", type := (.object "com/example/measured_slack/measuredslack/DurationUnit"), accessFlags := 16409, slot := 6, constantValue := 0 }, { name := "symbol", type := (.object "java/lang/String"), accessFlags := 18, slot := 3, constantValue := 0 }, { name := "nanos", type := .long, accessFlags := 18, slot := 4, constantValue := 0 }, { name := "$VALUES", type := (.array (.object "com/example/measured_slack/measuredslack/DurationUnit")), accessFlags := 4122, slot := 7, constantValue := 0 }]
  methods := #[k6m0, k6m1]
  instanceTypes := #[(.object "java/lang/String"), .int, .int, (.object "java/lang/String"), .long]
  staticTypes := #[(.object "com/example/measured_slack/measuredslack/DurationUnit"), (.object "com/example/measured_slack/measuredslack/DurationUnit"), (.object "com/example/measured_slack/measuredslack/DurationUnit"), (.object "com/example/measured_slack/measuredslack/DurationUnit"), (.object "com/example/measured_slack/measuredslack/DurationUnit"), (.object "com/example/measured_slack/measuredslack/DurationUnit"), (.object "com/example/measured_slack/measuredslack/DurationUnit"), (.array (.object "com/example/measured_slack/measuredslack/DurationUnit"))]
  resolved := Array.replicate 180 none
  statics := some 0 }

def pool7 : Array CpInfo := pool [(1, .fieldref 2 3), (0, .class_ 4), (0, .nameAndType 5 6), (0, u "java/util/Optional"), (0, u "EMPTY"), (0, u "Ljava/util/Optional;"), (0, .methodref 8 9), (0, .class_ 10), (0, .nameAndType 11 12), (0, u "java/lang/Object"), (0, u "<init>"), (0, u "()V"), (0, .fieldref 2 14), (0, .nameAndType 15 16), (0, u "value"), (0, u "Ljava/lang/Object;"), (0, .methodref 18 19), (0, .class_ 20), (0, .nameAndType 21 22), (0, u "java/util/Objects"), (0, u "requireNonNull"), (0, u "(Ljava/lang/Object;)Ljava/lang/Object;"), (0, .methodref 2 24), (0, .nameAndType 11 25), (0, u "(Ljava/lang/Object;)V"), (20, u "()Z"), (8, u "empty"), (0, u "()Ljava/util/Optional;"), (8, u "(Ljava/lang/Object;)Ljava/util/Optional;"), (2, u "isPresent"), (4, u "get"), (0, u "()Ljava/lang/Object;"), (7, u "of")] 104

def k7c0 : Code := { maxStack := 1, maxLocals := 1, code := jdk_32_method_1_code, exceptionTable := #[], attributes := #[] }
def k7m0 : Method := { name := "empty", desc := "()Ljava/util/Optional;", sig := { parameters := [], returnType := some (.object "java/util/Optional") }, accessFlags := 9, code := some k7c0 }
def k7c1 : Code := { maxStack := 2, maxLocals := 2, code := jdk_32_method_2_code, exceptionTable := #[], attributes := #[] }
def k7m1 : Method := { name := "<init>", desc := "(Ljava/lang/Object;)V", sig := { parameters := [(.object "java/lang/Object")], returnType := none }, accessFlags := 2, code := some k7c1 }
def k7c2 : Code := { maxStack := 3, maxLocals := 1, code := jdk_32_method_3_code, exceptionTable := #[], attributes := #[] }
def k7m2 : Method := { name := "of", desc := "(Ljava/lang/Object;)Ljava/util/Optional;", sig := { parameters := [(.object "java/lang/Object")], returnType := some (.object "java/util/Optional") }, accessFlags := 9, code := some k7c2 }
def k7c3 : Code := { maxStack := 3, maxLocals := 1, code := jdk_32_method_5_code, exceptionTable := #[], attributes := #[] }
def k7m3 : Method := { name := "get", desc := "()Ljava/lang/Object;", sig := { parameters := [], returnType := some (.object "java/lang/Object") }, accessFlags := 1, code := some k7c3 }
def k7c4 : Code := { maxStack := 1, maxLocals := 1, code := jdk_32_method_6_code, exceptionTable := #[], attributes := #[] }
def k7m4 : Method := { name := "isPresent", desc := "()Z", sig := { parameters := [], returnType := some .boolean }, accessFlags := 1, code := some k7c4 }
/-- java/util/Optional -/
def k7 : Class := { plain "java/util/Optional" (some 0) with
  accessFlags := 49
  interfaces := #[]
  cf := some (fileOf pool7 2 #[] #[{ accessFlags := 9, nameIndex := 55, descriptorIndex := 56, attributes := #[] }, { accessFlags := 2, nameIndex := 11, descriptorIndex := 25, attributes := #[] }, { accessFlags := 9, nameIndex := 82, descriptorIndex := 65, attributes := #[] }, { accessFlags := 1, nameIndex := 73, descriptorIndex := 74, attributes := #[] }, { accessFlags := 1, nameIndex := 68, descriptorIndex := 46, attributes := #[] }] 49 8 #[] #[{ accessFlags := 26, nameIndex := 5, descriptorIndex := 6, attributes := #[] }, { accessFlags := 18, nameIndex := 15, descriptorIndex := 16, attributes := #[] }])
  fields := #[{ name := "EMPTY", type := (.object "java/util/Optional"), accessFlags := 26, slot := 0, constantValue := 0 }, { name := "value", type := (.object "java/lang/Object"), accessFlags := 18, slot := 0, constantValue := 0 }]
  methods := #[k7m0, k7m1, k7m2, k7m3, k7m4]
  instanceTypes := #[(.object "java/lang/Object")]
  staticTypes := #[(.object "java/util/Optional")]
  resolved := Array.replicate 187 none
  statics := some 1 }

def pool8 : Array CpInfo := pool [(1, .class_ 2), (0, u "java/lang/Cloneable"), (0, .class_ 4), (0, u "java/lang/Object")] 2

/-- java/lang/Cloneable -/
def k8 : Class := { plain "java/lang/Cloneable" (some 0) with
  accessFlags := 1537
  interfaces := #[]
  cf := some (fileOf pool8 1 #[] #[] 1537 3 #[] #[])
  fields := #[]
  methods := #[]
  instanceTypes := #[]
  staticTypes := #[]
  resolved := Array.replicate 7 none
  statics := none }

def pool9 : Array CpInfo := pool [(1, .methodref 2 3), (0, .class_ 4), (0, .nameAndType 5 6), (0, u "java/lang/Object"), (0, u "<init>"), (0, u "()V"), (1, .class_ 10), (1, u "java/lang/Number"), (2, .class_ 14), (0, u "java/io/Serializable"), (0, u "serialVersionUID"), (0, u "J")] 20

def k9c0 : Code := { maxStack := 1, maxLocals := 1, code := jdk_18_method_1_code, exceptionTable := #[], attributes := #[] }
def k9m0 : Method := { name := "<init>", desc := "()V", sig := { parameters := [], returnType := none }, accessFlags := 1, code := some k9c0 }
/-- java/lang/Number -/
def k9 : Class := { plain "java/lang/Number" (some 0) with
  accessFlags := 1057
  interfaces := #[4]
  cf := some (fileOf pool9 8 #[] #[{ accessFlags := 1, nameIndex := 5, descriptorIndex := 6, attributes := #[] }] 1057 2 #[13] #[{ accessFlags := 26, nameIndex := 15, descriptorIndex := 16, attributes := #[] }])
  fields := #[{ name := "serialVersionUID", type := .long, accessFlags := 26, slot := 0, constantValue := 0 }]
  methods := #[k9m0]
  instanceTypes := #[]
  staticTypes := #[.long]
  resolved := Array.replicate 37 none
  statics := none }

def pool10 : Array CpInfo := pool [(1, .class_ 2), (0, u "java/lang/constant/ConstantDesc"), (0, .class_ 4), (0, u "java/lang/Object")] 32

/-- java/lang/constant/ConstantDesc -/
def k10 : Class := { plain "java/lang/constant/ConstantDesc" (some 0) with
  accessFlags := 1537
  interfaces := #[]
  cf := some (fileOf pool10 1 #[] #[] 1537 3 #[] #[])
  fields := #[]
  methods := #[]
  instanceTypes := #[]
  staticTypes := #[]
  resolved := Array.replicate 37 none
  statics := none }

def pool11 : Array CpInfo := pool [(1, .class_ 2), (0, u "java/lang/Long"), (55, .nameAndType 59 60), (0, u "<init>"), (0, u "()V"), (24, u "valueOf"), (143, u "(J)Ljava/lang/Long;"), (0, .long 18446744073709551488), (1, .long 127), (1, .fieldref 235 236), (0, .class_ 237), (0, .nameAndType 238 239), (0, u "java/lang/Long$LongCache"), (0, u "cache"), (0, u "[Ljava/lang/Long;"), (0, .methodref 1 241), (0, .nameAndType 59 242), (0, u "(J)V"), (27, .methodref 271 58), (0, .class_ 272), (0, u "java/lang/Number"), (0, .fieldref 1 274), (0, .nameAndType 275 276), (0, u "value"), (0, u "J"), (5, u "longValue"), (0, u "()J"), (77, u "TYPE"), (0, u "Ljava/lang/Class;"), (0, .class_ 364), (0, u "java/lang/Comparable"), (0, .class_ 366), (0, u "java/lang/constant/Constable"), (0, .class_ 368), (0, u "java/lang/constant/ConstantDesc"), (0, u "MIN_VALUE"), (1, u "MAX_VALUE"), (4, u "SIZE"), (0, u "I"), (1, u "BYTES"), (1, u "serialVersionUID")] 142

def k11c0 : Code := { maxStack := 4, maxLocals := 3, code := jdk_35_method_24_code, exceptionTable := #[], attributes := #[] }
def k11m0 : Method := { name := "valueOf", desc := "(J)Ljava/lang/Long;", sig := { parameters := [.long], returnType := some (.object "java/lang/Long") }, accessFlags := 9, code := some k11c0 }
def k11c1 : Code := { maxStack := 3, maxLocals := 3, code := jdk_35_method_26_code, exceptionTable := #[], attributes := #[] }
def k11m1 : Method := { name := "<init>", desc := "(J)V", sig := { parameters := [.long], returnType := none }, accessFlags := 1, code := some k11c1 }
def k11c2 : Code := { maxStack := 2, maxLocals := 1, code := jdk_35_method_31_code, exceptionTable := #[], attributes := #[] }
def k11m2 : Method := { name := "longValue", desc := "()J", sig := { parameters := [], returnType := some .long }, accessFlags := 1, code := some k11c2 }
/-- java/lang/Long -/
def k11 : Class := { plain "java/lang/Long" (some 9) with
  accessFlags := 49
  interfaces := #[3, 2, 10]
  cf := some (fileOf pool11 1 #[.nestMembers #[235]] #[{ accessFlags := 9, nameIndex := 85, descriptorIndex := 229, attributes := #[] }, { accessFlags := 1, nameIndex := 59, descriptorIndex := 242, attributes := #[] }, { accessFlags := 1, nameIndex := 282, descriptorIndex := 283, attributes := #[] }] 49 271 #[363, 365, 367] #[{ accessFlags := 25, nameIndex := 369, descriptorIndex := 276, attributes := #[] }, { accessFlags := 25, nameIndex := 371, descriptorIndex := 276, attributes := #[] }, { accessFlags := 25, nameIndex := 361, descriptorIndex := 362, attributes := #[] }, { accessFlags := 18, nameIndex := 275, descriptorIndex := 276, attributes := #[] }, { accessFlags := 25, nameIndex := 376, descriptorIndex := 377, attributes := #[] }, { accessFlags := 25, nameIndex := 379, descriptorIndex := 377, attributes := #[] }, { accessFlags := 26, nameIndex := 381, descriptorIndex := 276, attributes := #[] }])
  fields := #[{ name := "MIN_VALUE", type := .long, accessFlags := 25, slot := 0, constantValue := 0 }, { name := "MAX_VALUE", type := .long, accessFlags := 25, slot := 1, constantValue := 0 }, { name := "TYPE", type := (.object "java/lang/Class"), accessFlags := 25, slot := 2, constantValue := 0 }, { name := "value", type := .long, accessFlags := 18, slot := 0, constantValue := 0 }, { name := "SIZE", type := .int, accessFlags := 25, slot := 3, constantValue := 0 }, { name := "BYTES", type := .int, accessFlags := 25, slot := 4, constantValue := 0 }, { name := "serialVersionUID", type := .long, accessFlags := 26, slot := 5, constantValue := 0 }]
  methods := #[k11m0, k11m1, k11m2]
  instanceTypes := #[.long]
  staticTypes := #[.long, .long, (.object "java/lang/Class"), .int, .int, .long]
  resolved := Array.replicate 524 none
  statics := none }

def pool12 : Array CpInfo := pool [(2, .class_ 4), (1, u "java/lang/Object"), (0, u "<init>"), (0, u "()V"), (0, .class_ 8), (0, u "java/lang/Long"), (7, .class_ 18), (1, u "java/lang/Long$LongCache"), (0, u "$assertionsDisabled"), (0, u "Z"), (8, u "archivedCache"), (0, u "[Ljava/lang/Long;"), (7, u "cache")] 24

def k12m0 : Method := { name := "<init>", desc := "()V", sig := { parameters := [], returnType := none }, accessFlags := 2, code := none }
/-- java/lang/Long$LongCache -/
def k12 : Class := { plain "java/lang/Long$LongCache" (some 0) with
  accessFlags := 48
  interfaces := #[]
  cf := some (fileOf pool12 16 #[.nestHost 7] #[{ accessFlags := 2, nameIndex := 5, descriptorIndex := 6, attributes := #[] }] 48 2 #[] #[{ accessFlags := 24, nameIndex := 38, descriptorIndex := 30, attributes := #[] }, { accessFlags := 8, nameIndex := 29, descriptorIndex := 30, attributes := #[] }, { accessFlags := 4120, nameIndex := 19, descriptorIndex := 20, attributes := #[] }])
  fields := #[{ name := "cache", type := (.array (.object "java/lang/Long")), accessFlags := 24, slot := 0, constantValue := 0 }, { name := "archivedCache", type := (.array (.object "java/lang/Long")), accessFlags := 8, slot := 1, constantValue := 0 }, { name := "$assertionsDisabled", type := .boolean, accessFlags := 4120, slot := 2, constantValue := 0 }]
  methods := #[k12m0]
  instanceTypes := #[]
  staticTypes := #[(.array (.object "java/lang/Long")), (.array (.object "java/lang/Long")), .boolean]
  resolved := Array.replicate 63 none
  statics := some 2 }

def pool13 : Array CpInfo := pool [(2, .class_ 4), (1, u "java/lang/Object"), (0, u "<init>"), (0, u "()V"), (35, .class_ 44), (1, u "java/util/Objects"), (0, u "requireNonNull"), (0, u "(Ljava/lang/Object;)Ljava/lang/Object;")] 137

def k13m0 : Method := { name := "<init>", desc := "()V", sig := { parameters := [], returnType := none }, accessFlags := 2, code := none }
def k13c1 : Code := { maxStack := 2, maxLocals := 1, code := jdk_31_method_10_code, exceptionTable := #[], attributes := #[] }
def k13m1 : Method := { name := "requireNonNull", desc := "(Ljava/lang/Object;)Ljava/lang/Object;", sig := { parameters := [(.object "java/lang/Object")], returnType := some (.object "java/lang/Object") }, accessFlags := 9, code := some k13c1 }
/-- java/util/Objects -/
def k13 : Class := { plain "java/util/Objects" (some 0) with
  accessFlags := 49
  interfaces := #[]
  cf := some (fileOf pool13 42 #[] #[{ accessFlags := 2, nameIndex := 5, descriptorIndex := 6, attributes := #[] }, { accessFlags := 9, nameIndex := 45, descriptorIndex := 46, attributes := #[] }] 49 2 #[] #[])
  fields := #[]
  methods := #[k13m0, k13m1]
  instanceTypes := #[]
  staticTypes := #[]
  resolved := Array.replicate 184 none
  statics := none }

/-- the primitive byte -/
def k14 : Class := { plain "byte" none with kind := .primitive 'B', accessFlags := 0x411 }
/-- [B -/
def k15 : Class := { plain "[B" (some 0) with kind := .array 14 .byte, interfaces := #[8, 4], accessFlags := 1041 }

/-- the primitive int -/
def k16 : Class := { plain "int" none with kind := .primitive 'I', accessFlags := 0x411 }
/-- [I -/
def k17 : Class := { plain "[I" (some 0) with kind := .array 16 .int, interfaces := #[8, 4], accessFlags := 1041 }

/-- [Lcom/example/measured_slack/measuredslack/DurationUnit; -/
def k18 : Class := { plain "[Lcom/example/measured_slack/measuredslack/DurationUnit;" (some 0) with kind := .array 6 (.object "com/example/measured_slack/measuredslack/DurationUnit"), interfaces := #[8, 4], accessFlags := 1041 }

/-- [Ljava/lang/Long; -/
def k19 : Class := { plain "[Ljava/lang/Long;" (some 0) with kind := .array 11 (.object "java/lang/Long"), interfaces := #[8, 4], accessFlags := 1041 }

def heap : Heap := #[{ cls := 6, slots := #[.ref 5, .ref 6, .ref 7, .ref 8, .ref 9, .ref 10, .ref 11, .ref 3], vm := .statics 6 },
  { cls := 7, slots := #[.ref 268], vm := .statics 7 },
  { cls := 12, slots := #[.ref 4, .null, .int 0], vm := .statics 12 },
  { cls := 18, slots := #[.ref 5, .ref 6, .ref 7, .ref 8, .ref 9, .ref 10, .ref 11], vm := .none },
  { cls := 19, slots := #[.ref 12, .ref 13, .ref 14, .ref 15, .ref 16, .ref 17, .ref 18, .ref 19, .ref 20, .ref 21, .ref 22, .ref 23, .ref 24, .ref 25, .ref 26, .ref 27, .ref 28, .ref 29, .ref 30, .ref 31, .ref 32, .ref 33, .ref 34, .ref 35, .ref 36, .ref 37, .ref 38, .ref 39, .ref 40, .ref 41, .ref 42, .ref 43, .ref 44, .ref 45, .ref 46, .ref 47, .ref 48, .ref 49, .ref 50, .ref 51, .ref 52, .ref 53, .ref 54, .ref 55, .ref 56, .ref 57, .ref 58, .ref 59, .ref 60, .ref 61, .ref 62, .ref 63, .ref 64, .ref 65, .ref 66, .ref 67, .ref 68, .ref 69, .ref 70, .ref 71, .ref 72, .ref 73, .ref 74, .ref 75, .ref 76, .ref 77, .ref 78, .ref 79, .ref 80, .ref 81, .ref 82, .ref 83, .ref 84, .ref 85, .ref 86, .ref 87, .ref 88, .ref 89, .ref 90, .ref 91, .ref 92, .ref 93, .ref 94, .ref 95, .ref 96, .ref 97, .ref 98, .ref 99, .ref 100, .ref 101, .ref 102, .ref 103, .ref 104, .ref 105, .ref 106, .ref 107, .ref 108, .ref 109, .ref 110, .ref 111, .ref 112, .ref 113, .ref 114, .ref 115, .ref 116, .ref 117, .ref 118, .ref 119, .ref 120, .ref 121, .ref 122, .ref 123, .ref 124, .ref 125, .ref 126, .ref 127, .ref 128, .ref 129, .ref 130, .ref 131, .ref 132, .ref 133, .ref 134, .ref 135, .ref 136, .ref 137, .ref 138, .ref 139, .ref 140, .ref 141, .ref 142, .ref 143, .ref 144, .ref 145, .ref 146, .ref 147, .ref 148, .ref 149, .ref 150, .ref 151, .ref 152, .ref 153, .ref 154, .ref 155, .ref 156, .ref 157, .ref 158, .ref 159, .ref 160, .ref 161, .ref 162, .ref 163, .ref 164, .ref 165, .ref 166, .ref 167, .ref 168, .ref 169, .ref 170, .ref 171, .ref 172, .ref 173, .ref 174, .ref 175, .ref 176, .ref 177, .ref 178, .ref 179, .ref 180, .ref 181, .ref 182, .ref 183, .ref 184, .ref 185, .ref 186, .ref 187, .ref 188, .ref 189, .ref 190, .ref 191, .ref 192, .ref 193, .ref 194, .ref 195, .ref 196, .ref 197, .ref 198, .ref 199, .ref 200, .ref 201, .ref 202, .ref 203, .ref 204, .ref 205, .ref 206, .ref 207, .ref 208, .ref 209, .ref 210, .ref 211, .ref 212, .ref 213, .ref 214, .ref 215, .ref 216, .ref 217, .ref 218, .ref 219, .ref 220, .ref 221, .ref 222, .ref 223, .ref 224, .ref 225, .ref 226, .ref 227, .ref 228, .ref 229, .ref 230, .ref 231, .ref 232, .ref 233, .ref 234, .ref 235, .ref 236, .ref 237, .ref 238, .ref 239, .ref 240, .ref 241, .ref 242, .ref 243, .ref 244, .ref 245, .ref 246, .ref 247, .ref 248, .ref 249, .ref 250, .ref 251, .ref 252, .ref 253, .ref 254, .ref 255, .ref 256, .ref 257, .ref 258, .ref 259, .ref 260, .ref 261, .ref 262, .ref 263, .ref 264, .ref 265, .ref 266, .ref 267], vm := .none },
  { cls := 6, slots := #[.null, .int 0, .int 0, .null, .long 86400000000000], vm := .none },
  { cls := 6, slots := #[.null, .int 1, .int 0, .null, .long 3600000000000], vm := .none },
  { cls := 6, slots := #[.null, .int 2, .int 0, .null, .long 60000000000], vm := .none },
  { cls := 6, slots := #[.null, .int 3, .int 0, .null, .long 1000000000], vm := .none },
  { cls := 6, slots := #[.null, .int 4, .int 0, .null, .long 1000000], vm := .none },
  { cls := 6, slots := #[.null, .int 5, .int 0, .null, .long 1000], vm := .none },
  { cls := 6, slots := #[.null, .int 6, .int 0, .null, .long 1], vm := .none },
  { cls := 11, slots := #[.long (-128)], vm := .none },
  { cls := 11, slots := #[.long (-127)], vm := .none },
  { cls := 11, slots := #[.long (-126)], vm := .none },
  { cls := 11, slots := #[.long (-125)], vm := .none },
  { cls := 11, slots := #[.long (-124)], vm := .none },
  { cls := 11, slots := #[.long (-123)], vm := .none },
  { cls := 11, slots := #[.long (-122)], vm := .none },
  { cls := 11, slots := #[.long (-121)], vm := .none },
  { cls := 11, slots := #[.long (-120)], vm := .none },
  { cls := 11, slots := #[.long (-119)], vm := .none },
  { cls := 11, slots := #[.long (-118)], vm := .none },
  { cls := 11, slots := #[.long (-117)], vm := .none },
  { cls := 11, slots := #[.long (-116)], vm := .none },
  { cls := 11, slots := #[.long (-115)], vm := .none },
  { cls := 11, slots := #[.long (-114)], vm := .none },
  { cls := 11, slots := #[.long (-113)], vm := .none },
  { cls := 11, slots := #[.long (-112)], vm := .none },
  { cls := 11, slots := #[.long (-111)], vm := .none },
  { cls := 11, slots := #[.long (-110)], vm := .none },
  { cls := 11, slots := #[.long (-109)], vm := .none },
  { cls := 11, slots := #[.long (-108)], vm := .none },
  { cls := 11, slots := #[.long (-107)], vm := .none },
  { cls := 11, slots := #[.long (-106)], vm := .none },
  { cls := 11, slots := #[.long (-105)], vm := .none },
  { cls := 11, slots := #[.long (-104)], vm := .none },
  { cls := 11, slots := #[.long (-103)], vm := .none },
  { cls := 11, slots := #[.long (-102)], vm := .none },
  { cls := 11, slots := #[.long (-101)], vm := .none },
  { cls := 11, slots := #[.long (-100)], vm := .none },
  { cls := 11, slots := #[.long (-99)], vm := .none },
  { cls := 11, slots := #[.long (-98)], vm := .none },
  { cls := 11, slots := #[.long (-97)], vm := .none },
  { cls := 11, slots := #[.long (-96)], vm := .none },
  { cls := 11, slots := #[.long (-95)], vm := .none },
  { cls := 11, slots := #[.long (-94)], vm := .none },
  { cls := 11, slots := #[.long (-93)], vm := .none },
  { cls := 11, slots := #[.long (-92)], vm := .none },
  { cls := 11, slots := #[.long (-91)], vm := .none },
  { cls := 11, slots := #[.long (-90)], vm := .none },
  { cls := 11, slots := #[.long (-89)], vm := .none },
  { cls := 11, slots := #[.long (-88)], vm := .none },
  { cls := 11, slots := #[.long (-87)], vm := .none },
  { cls := 11, slots := #[.long (-86)], vm := .none },
  { cls := 11, slots := #[.long (-85)], vm := .none },
  { cls := 11, slots := #[.long (-84)], vm := .none },
  { cls := 11, slots := #[.long (-83)], vm := .none },
  { cls := 11, slots := #[.long (-82)], vm := .none },
  { cls := 11, slots := #[.long (-81)], vm := .none },
  { cls := 11, slots := #[.long (-80)], vm := .none },
  { cls := 11, slots := #[.long (-79)], vm := .none },
  { cls := 11, slots := #[.long (-78)], vm := .none },
  { cls := 11, slots := #[.long (-77)], vm := .none },
  { cls := 11, slots := #[.long (-76)], vm := .none },
  { cls := 11, slots := #[.long (-75)], vm := .none },
  { cls := 11, slots := #[.long (-74)], vm := .none },
  { cls := 11, slots := #[.long (-73)], vm := .none },
  { cls := 11, slots := #[.long (-72)], vm := .none },
  { cls := 11, slots := #[.long (-71)], vm := .none },
  { cls := 11, slots := #[.long (-70)], vm := .none },
  { cls := 11, slots := #[.long (-69)], vm := .none },
  { cls := 11, slots := #[.long (-68)], vm := .none },
  { cls := 11, slots := #[.long (-67)], vm := .none },
  { cls := 11, slots := #[.long (-66)], vm := .none },
  { cls := 11, slots := #[.long (-65)], vm := .none },
  { cls := 11, slots := #[.long (-64)], vm := .none },
  { cls := 11, slots := #[.long (-63)], vm := .none },
  { cls := 11, slots := #[.long (-62)], vm := .none },
  { cls := 11, slots := #[.long (-61)], vm := .none },
  { cls := 11, slots := #[.long (-60)], vm := .none },
  { cls := 11, slots := #[.long (-59)], vm := .none },
  { cls := 11, slots := #[.long (-58)], vm := .none },
  { cls := 11, slots := #[.long (-57)], vm := .none },
  { cls := 11, slots := #[.long (-56)], vm := .none },
  { cls := 11, slots := #[.long (-55)], vm := .none },
  { cls := 11, slots := #[.long (-54)], vm := .none },
  { cls := 11, slots := #[.long (-53)], vm := .none },
  { cls := 11, slots := #[.long (-52)], vm := .none },
  { cls := 11, slots := #[.long (-51)], vm := .none },
  { cls := 11, slots := #[.long (-50)], vm := .none },
  { cls := 11, slots := #[.long (-49)], vm := .none },
  { cls := 11, slots := #[.long (-48)], vm := .none },
  { cls := 11, slots := #[.long (-47)], vm := .none },
  { cls := 11, slots := #[.long (-46)], vm := .none },
  { cls := 11, slots := #[.long (-45)], vm := .none },
  { cls := 11, slots := #[.long (-44)], vm := .none },
  { cls := 11, slots := #[.long (-43)], vm := .none },
  { cls := 11, slots := #[.long (-42)], vm := .none },
  { cls := 11, slots := #[.long (-41)], vm := .none },
  { cls := 11, slots := #[.long (-40)], vm := .none },
  { cls := 11, slots := #[.long (-39)], vm := .none },
  { cls := 11, slots := #[.long (-38)], vm := .none },
  { cls := 11, slots := #[.long (-37)], vm := .none },
  { cls := 11, slots := #[.long (-36)], vm := .none },
  { cls := 11, slots := #[.long (-35)], vm := .none },
  { cls := 11, slots := #[.long (-34)], vm := .none },
  { cls := 11, slots := #[.long (-33)], vm := .none },
  { cls := 11, slots := #[.long (-32)], vm := .none },
  { cls := 11, slots := #[.long (-31)], vm := .none },
  { cls := 11, slots := #[.long (-30)], vm := .none },
  { cls := 11, slots := #[.long (-29)], vm := .none },
  { cls := 11, slots := #[.long (-28)], vm := .none },
  { cls := 11, slots := #[.long (-27)], vm := .none },
  { cls := 11, slots := #[.long (-26)], vm := .none },
  { cls := 11, slots := #[.long (-25)], vm := .none },
  { cls := 11, slots := #[.long (-24)], vm := .none },
  { cls := 11, slots := #[.long (-23)], vm := .none },
  { cls := 11, slots := #[.long (-22)], vm := .none },
  { cls := 11, slots := #[.long (-21)], vm := .none },
  { cls := 11, slots := #[.long (-20)], vm := .none },
  { cls := 11, slots := #[.long (-19)], vm := .none },
  { cls := 11, slots := #[.long (-18)], vm := .none },
  { cls := 11, slots := #[.long (-17)], vm := .none },
  { cls := 11, slots := #[.long (-16)], vm := .none },
  { cls := 11, slots := #[.long (-15)], vm := .none },
  { cls := 11, slots := #[.long (-14)], vm := .none },
  { cls := 11, slots := #[.long (-13)], vm := .none },
  { cls := 11, slots := #[.long (-12)], vm := .none },
  { cls := 11, slots := #[.long (-11)], vm := .none },
  { cls := 11, slots := #[.long (-10)], vm := .none },
  { cls := 11, slots := #[.long (-9)], vm := .none },
  { cls := 11, slots := #[.long (-8)], vm := .none },
  { cls := 11, slots := #[.long (-7)], vm := .none },
  { cls := 11, slots := #[.long (-6)], vm := .none },
  { cls := 11, slots := #[.long (-5)], vm := .none },
  { cls := 11, slots := #[.long (-4)], vm := .none },
  { cls := 11, slots := #[.long (-3)], vm := .none },
  { cls := 11, slots := #[.long (-2)], vm := .none },
  { cls := 11, slots := #[.long (-1)], vm := .none },
  { cls := 11, slots := #[.long (0)], vm := .none },
  { cls := 11, slots := #[.long (1)], vm := .none },
  { cls := 11, slots := #[.long (2)], vm := .none },
  { cls := 11, slots := #[.long (3)], vm := .none },
  { cls := 11, slots := #[.long (4)], vm := .none },
  { cls := 11, slots := #[.long (5)], vm := .none },
  { cls := 11, slots := #[.long (6)], vm := .none },
  { cls := 11, slots := #[.long (7)], vm := .none },
  { cls := 11, slots := #[.long (8)], vm := .none },
  { cls := 11, slots := #[.long (9)], vm := .none },
  { cls := 11, slots := #[.long (10)], vm := .none },
  { cls := 11, slots := #[.long (11)], vm := .none },
  { cls := 11, slots := #[.long (12)], vm := .none },
  { cls := 11, slots := #[.long (13)], vm := .none },
  { cls := 11, slots := #[.long (14)], vm := .none },
  { cls := 11, slots := #[.long (15)], vm := .none },
  { cls := 11, slots := #[.long (16)], vm := .none },
  { cls := 11, slots := #[.long (17)], vm := .none },
  { cls := 11, slots := #[.long (18)], vm := .none },
  { cls := 11, slots := #[.long (19)], vm := .none },
  { cls := 11, slots := #[.long (20)], vm := .none },
  { cls := 11, slots := #[.long (21)], vm := .none },
  { cls := 11, slots := #[.long (22)], vm := .none },
  { cls := 11, slots := #[.long (23)], vm := .none },
  { cls := 11, slots := #[.long (24)], vm := .none },
  { cls := 11, slots := #[.long (25)], vm := .none },
  { cls := 11, slots := #[.long (26)], vm := .none },
  { cls := 11, slots := #[.long (27)], vm := .none },
  { cls := 11, slots := #[.long (28)], vm := .none },
  { cls := 11, slots := #[.long (29)], vm := .none },
  { cls := 11, slots := #[.long (30)], vm := .none },
  { cls := 11, slots := #[.long (31)], vm := .none },
  { cls := 11, slots := #[.long (32)], vm := .none },
  { cls := 11, slots := #[.long (33)], vm := .none },
  { cls := 11, slots := #[.long (34)], vm := .none },
  { cls := 11, slots := #[.long (35)], vm := .none },
  { cls := 11, slots := #[.long (36)], vm := .none },
  { cls := 11, slots := #[.long (37)], vm := .none },
  { cls := 11, slots := #[.long (38)], vm := .none },
  { cls := 11, slots := #[.long (39)], vm := .none },
  { cls := 11, slots := #[.long (40)], vm := .none },
  { cls := 11, slots := #[.long (41)], vm := .none },
  { cls := 11, slots := #[.long (42)], vm := .none },
  { cls := 11, slots := #[.long (43)], vm := .none },
  { cls := 11, slots := #[.long (44)], vm := .none },
  { cls := 11, slots := #[.long (45)], vm := .none },
  { cls := 11, slots := #[.long (46)], vm := .none },
  { cls := 11, slots := #[.long (47)], vm := .none },
  { cls := 11, slots := #[.long (48)], vm := .none },
  { cls := 11, slots := #[.long (49)], vm := .none },
  { cls := 11, slots := #[.long (50)], vm := .none },
  { cls := 11, slots := #[.long (51)], vm := .none },
  { cls := 11, slots := #[.long (52)], vm := .none },
  { cls := 11, slots := #[.long (53)], vm := .none },
  { cls := 11, slots := #[.long (54)], vm := .none },
  { cls := 11, slots := #[.long (55)], vm := .none },
  { cls := 11, slots := #[.long (56)], vm := .none },
  { cls := 11, slots := #[.long (57)], vm := .none },
  { cls := 11, slots := #[.long (58)], vm := .none },
  { cls := 11, slots := #[.long (59)], vm := .none },
  { cls := 11, slots := #[.long (60)], vm := .none },
  { cls := 11, slots := #[.long (61)], vm := .none },
  { cls := 11, slots := #[.long (62)], vm := .none },
  { cls := 11, slots := #[.long (63)], vm := .none },
  { cls := 11, slots := #[.long (64)], vm := .none },
  { cls := 11, slots := #[.long (65)], vm := .none },
  { cls := 11, slots := #[.long (66)], vm := .none },
  { cls := 11, slots := #[.long (67)], vm := .none },
  { cls := 11, slots := #[.long (68)], vm := .none },
  { cls := 11, slots := #[.long (69)], vm := .none },
  { cls := 11, slots := #[.long (70)], vm := .none },
  { cls := 11, slots := #[.long (71)], vm := .none },
  { cls := 11, slots := #[.long (72)], vm := .none },
  { cls := 11, slots := #[.long (73)], vm := .none },
  { cls := 11, slots := #[.long (74)], vm := .none },
  { cls := 11, slots := #[.long (75)], vm := .none },
  { cls := 11, slots := #[.long (76)], vm := .none },
  { cls := 11, slots := #[.long (77)], vm := .none },
  { cls := 11, slots := #[.long (78)], vm := .none },
  { cls := 11, slots := #[.long (79)], vm := .none },
  { cls := 11, slots := #[.long (80)], vm := .none },
  { cls := 11, slots := #[.long (81)], vm := .none },
  { cls := 11, slots := #[.long (82)], vm := .none },
  { cls := 11, slots := #[.long (83)], vm := .none },
  { cls := 11, slots := #[.long (84)], vm := .none },
  { cls := 11, slots := #[.long (85)], vm := .none },
  { cls := 11, slots := #[.long (86)], vm := .none },
  { cls := 11, slots := #[.long (87)], vm := .none },
  { cls := 11, slots := #[.long (88)], vm := .none },
  { cls := 11, slots := #[.long (89)], vm := .none },
  { cls := 11, slots := #[.long (90)], vm := .none },
  { cls := 11, slots := #[.long (91)], vm := .none },
  { cls := 11, slots := #[.long (92)], vm := .none },
  { cls := 11, slots := #[.long (93)], vm := .none },
  { cls := 11, slots := #[.long (94)], vm := .none },
  { cls := 11, slots := #[.long (95)], vm := .none },
  { cls := 11, slots := #[.long (96)], vm := .none },
  { cls := 11, slots := #[.long (97)], vm := .none },
  { cls := 11, slots := #[.long (98)], vm := .none },
  { cls := 11, slots := #[.long (99)], vm := .none },
  { cls := 11, slots := #[.long (100)], vm := .none },
  { cls := 11, slots := #[.long (101)], vm := .none },
  { cls := 11, slots := #[.long (102)], vm := .none },
  { cls := 11, slots := #[.long (103)], vm := .none },
  { cls := 11, slots := #[.long (104)], vm := .none },
  { cls := 11, slots := #[.long (105)], vm := .none },
  { cls := 11, slots := #[.long (106)], vm := .none },
  { cls := 11, slots := #[.long (107)], vm := .none },
  { cls := 11, slots := #[.long (108)], vm := .none },
  { cls := 11, slots := #[.long (109)], vm := .none },
  { cls := 11, slots := #[.long (110)], vm := .none },
  { cls := 11, slots := #[.long (111)], vm := .none },
  { cls := 11, slots := #[.long (112)], vm := .none },
  { cls := 11, slots := #[.long (113)], vm := .none },
  { cls := 11, slots := #[.long (114)], vm := .none },
  { cls := 11, slots := #[.long (115)], vm := .none },
  { cls := 11, slots := #[.long (116)], vm := .none },
  { cls := 11, slots := #[.long (117)], vm := .none },
  { cls := 11, slots := #[.long (118)], vm := .none },
  { cls := 11, slots := #[.long (119)], vm := .none },
  { cls := 11, slots := #[.long (120)], vm := .none },
  { cls := 11, slots := #[.long (121)], vm := .none },
  { cls := 11, slots := #[.long (122)], vm := .none },
  { cls := 11, slots := #[.long (123)], vm := .none },
  { cls := 11, slots := #[.long (124)], vm := .none },
  { cls := 11, slots := #[.long (125)], vm := .none },
  { cls := 11, slots := #[.long (126)], vm := .none },
  { cls := 11, slots := #[.long (127)], vm := .none },
  { cls := 7, slots := #[.null], vm := .none }]
def classes : Array Class := #[k0, k1, k2, k3, k4, k5, k6, k7, k8, k9, k10, k11, k12, k13, k14, k15, k16, k17, k18, k19]
def interned : List (Array UInt16 × Addr) := []
def slotsUsed : Nat := 567
def theMethod : MethodId := ⟨1, 1⟩
def args0 : Array Value := #[.int 5]
def aboutOver (below : List Frame) : State where
  vm := { classes := classes, interned := interned.toArray }
  heap := heap
  slotsUsed := slotsUsed
  threads := #[{ frames := .invoking theMethod args0 :: below }]
def below0 : List Frame := [.native { method := ⟨0, 0⟩, args := #[] }]
def about1 : State := aboutOver below0
def p0 : Program := .bare "" "" ""
def e0 : Env := launch0.env 0 0 0
theorem w_frames : about1.frames = Frame.invoking theMethod args0 :: below0 := rfl
set_option maxRecDepth 65536 in
theorem w_args : argsFit about1.vm theMethod args0 = true := by decide +kernel
set_option maxRecDepth 65536 in
theorem w_heap : heapFits about1 = true := by decide +kernel
set_option maxRecDepth 65536 in
theorem w_runnable : about1.curStatus? = some .runnable := by decide +kernel
set_option maxRecDepth 65536 in
theorem w_alone : about1.alone = true := by decide +kernel
set_option maxRecDepth 65536 in
theorem w_named : about1.methodNamed? x = some theMethod := by decide +kernel
set_option maxRecDepth 65536 in
theorem w_hears : about1.hears theMethod below0 = true := by decide +kernel
set_option maxRecDepth 65536 in
theorem w_ripe : about1.ripe theMethod args0 below0 = true := by decide +kernel
theorem w_running : about1.status = .running := rfl
set_option maxRecDepth 65536 in
theorem w_room : about1.hasRoom e0.platform room_1 = true :=
  launch0.hasRoom_least _ room_1 (by decide +kernel) (by decide +kernel) (by decide +kernel) (by decide +kernel) (by decide +kernel) (by decide +kernel)
theorem allAtoms_all (ts : List Jvm.Cond) (a : Array Jvm.Value) (st : Jvm.State) : (allAtoms ts).before a st = ts.all (fun c => c.before a st) := by
  induction ts with
  | nil => rfl
  | cons c t ih =>
    show (Jvm.Cond.and c (allAtoms t)).before a st = _
    rw [Jvm.Cond.before_and, ih, List.all_cons]
def words1 : List Jvm.Cond := Jvm.Cond.code x code maxLocals ret :: tables_1
/-- a 'code' word, met by the world's own term for the bytes: nothing is compared byte by byte -/
theorem code_word {y : MethodName} {bytes : ByteArray} {mx : Nat} {rt : Option FieldType} {a : Array Value} {s : State} {m : MethodId} {meth : Method} {c : Code} (h1 : s.methodNamed? y = some m) (h2 : s.vm.method? m = some meth) (h3 : meth.code = some c) (h4 : c.code = bytes)
    (h5 : (c.maxLocals == mx && c.exceptionTable.isEmpty && decide (c.maxStack ≤ mostOperands) && decide (meth.sig.returnType = rt) && !meth.locks && decide (parseMethodDescriptor y.desc = some meth.sig)) = true) : (Jvm.Cond.code y bytes mx rt).before a s = true := by
  simp only [Bool.and_eq_true, beq_iff_eq, Bool.not_eq_true', decide_eq_true_eq] at h5
  obtain ⟨⟨⟨⟨⟨g1, g2⟩, g3⟩, g4⟩, g5⟩, g6⟩ := h5
  simp [Cond.before, Cond.holds, Cond.value, h1, h2, h3, h4, g1, g2, g3, g4, g5, g6]
def isCode : Jvm.Cond → Bool
  | .code _ _ _ _ => true
  | _ => false
theorem all_split {L : List Jvm.Cond} {P : Jvm.Cond → Bool} (h1 : L.all (fun c => isCode c || P c) = true) (h2 : ∀ c ∈ L.filter isCode, P c = true) : L.all P = true := by
  refine List.all_eq_true.mpr fun c hc => ?_
  have h := List.all_eq_true.mp h1 c hc
  rcases Bool.eq_false_or_eq_true (isCode c) with hi | hi
  · exact h2 c (List.mem_filter.mpr ⟨hc, hi⟩)
  · simpa [hi] using h
set_option maxRecDepth 65536 in
theorem w_c0 : (Jvm.Cond.code x code maxLocals ret).before args0 about1 = true := code_word (m := ⟨1, 1⟩) (meth := k1m1) (c := k1c1) (by decide +kernel) rfl rfl rfl (by decide +kernel)
set_option maxRecDepth 65536 in
theorem w_c1 : (Jvm.Cond.code ({ cls := "com/example/measured_slack/measuredslack/DurationUnit", name := "perLargerUnit", desc := "()Ljava/util/Optional;" } : Jvm.MethodName) prog_5_method_7_code (1 : Nat) (Option.some (Jvm.ClassFile.FieldType.object "java/util/Optional"))).before args0 about1 = true := code_word (m := ⟨6, 1⟩) (meth := k6m1) (c := k6c1) (by decide +kernel) rfl rfl rfl (by decide +kernel)
set_option maxRecDepth 65536 in
theorem w_c2 : (Jvm.Cond.code ({ cls := "java/lang/Enum", name := "ordinal", desc := "()I" } : Jvm.MethodName) jdk_37_method_2_code (1 : Nat) (Option.some Jvm.ClassFile.FieldType.int)).before args0 about1 = true := code_word (m := ⟨5, 0⟩) (meth := k5m0) (c := k5c0) (by decide +kernel) rfl rfl rfl (by decide +kernel)
set_option maxRecDepth 65536 in
theorem w_c3 : (Jvm.Cond.code ({ cls := "java/util/Optional", name := "empty", desc := "()Ljava/util/Optional;" } : Jvm.MethodName) jdk_32_method_1_code (1 : Nat) (Option.some (Jvm.ClassFile.FieldType.object "java/util/Optional"))).before args0 about1 = true := code_word (m := ⟨7, 0⟩) (meth := k7m0) (c := k7c0) (by decide +kernel) rfl rfl rfl (by decide +kernel)
set_option maxRecDepth 65536 in
theorem w_c4 : (Jvm.Cond.code ({ cls := "java/util/Optional", name := "isPresent", desc := "()Z" } : Jvm.MethodName) jdk_32_method_6_code (1 : Nat) (Option.some Jvm.ClassFile.FieldType.boolean)).before args0 about1 = true := code_word (m := ⟨7, 4⟩) (meth := k7m4) (c := k7c4) (by decide +kernel) rfl rfl rfl (by decide +kernel)
set_option maxRecDepth 65536 in
theorem w_c5 : (Jvm.Cond.code ({ cls := "com/example/measured_slack/measuredslack/DurationUnit", name := "values", desc := "()[Lcom/example/measured_slack/measuredslack/DurationUnit;" } : Jvm.MethodName) prog_5_method_1_code (0 : Nat) (Option.some (Jvm.ClassFile.FieldType.array (Jvm.ClassFile.FieldType.object "com/example/measured_slack/measuredslack/DurationUnit")))).before args0 about1 = true := code_word (m := ⟨6, 0⟩) (meth := k6m0) (c := k6c0) (by decide +kernel) rfl rfl rfl (by decide +kernel)
set_option maxRecDepth 65536 in
theorem w_c6 : (Jvm.Cond.code ({ cls := "java/lang/Long", name := "valueOf", desc := "(J)Ljava/lang/Long;" } : Jvm.MethodName) jdk_35_method_24_code (3 : Nat) (Option.some (Jvm.ClassFile.FieldType.object "java/lang/Long"))).before args0 about1 = true := code_word (m := ⟨11, 0⟩) (meth := k11m0) (c := k11c0) (by decide +kernel) rfl rfl rfl (by decide +kernel)
set_option maxRecDepth 65536 in
theorem w_c7 : (Jvm.Cond.code ({ cls := "java/util/Optional", name := "of", desc := "(Ljava/lang/Object;)Ljava/util/Optional;" } : Jvm.MethodName) jdk_32_method_3_code (1 : Nat) (Option.some (Jvm.ClassFile.FieldType.object "java/util/Optional"))).before args0 about1 = true := code_word (m := ⟨7, 2⟩) (meth := k7m2) (c := k7c2) (by decide +kernel) rfl rfl rfl (by decide +kernel)
set_option maxRecDepth 65536 in
theorem w_c8 : (Jvm.Cond.code ({ cls := "java/util/Objects", name := "requireNonNull", desc := "(Ljava/lang/Object;)Ljava/lang/Object;" } : Jvm.MethodName) jdk_31_method_10_code (1 : Nat) (Option.some (Jvm.ClassFile.FieldType.object "java/lang/Object"))).before args0 about1 = true := code_word (m := ⟨13, 1⟩) (meth := k13m1) (c := k13c1) (by decide +kernel) rfl rfl rfl (by decide +kernel)
set_option maxRecDepth 65536 in
theorem w_c9 : (Jvm.Cond.code ({ cls := "java/util/Optional", name := "<init>", desc := "(Ljava/lang/Object;)V" } : Jvm.MethodName) jdk_32_method_2_code (2 : Nat) (Option.none : Option Jvm.ClassFile.FieldType)).before args0 about1 = true := code_word (m := ⟨7, 1⟩) (meth := k7m1) (c := k7c1) (by decide +kernel) rfl rfl rfl (by decide +kernel)
set_option maxRecDepth 65536 in
theorem w_c10 : (Jvm.Cond.code ({ cls := "java/lang/Object", name := "<init>", desc := "()V" } : Jvm.MethodName) object_method_1_code (1 : Nat) (Option.none : Option Jvm.ClassFile.FieldType)).before args0 about1 = true := code_word (m := ⟨0, 0⟩) (meth := k0m0) (c := k0c0) (by decide +kernel) rfl rfl rfl (by decide +kernel)
set_option maxRecDepth 65536 in
theorem w_c11 : (Jvm.Cond.code ({ cls := "java/util/Optional", name := "get", desc := "()Ljava/lang/Object;" } : Jvm.MethodName) jdk_32_method_5_code (1 : Nat) (Option.some (Jvm.ClassFile.FieldType.object "java/lang/Object"))).before args0 about1 = true := code_word (m := ⟨7, 3⟩) (meth := k7m3) (c := k7c3) (by decide +kernel) rfl rfl rfl (by decide +kernel)
set_option maxRecDepth 65536 in
theorem w_c12 : (Jvm.Cond.code ({ cls := "java/lang/Long", name := "longValue", desc := "()J" } : Jvm.MethodName) jdk_35_method_31_code (1 : Nat) (Option.some Jvm.ClassFile.FieldType.long)).before args0 about1 = true := code_word (m := ⟨11, 2⟩) (meth := k11m2) (c := k11c2) (by decide +kernel) rfl rfl rfl (by decide +kernel)
set_option maxRecDepth 65536 in
theorem w_c13 : (Jvm.Cond.code ({ cls := "java/lang/Long", name := "<init>", desc := "(J)V" } : Jvm.MethodName) jdk_35_method_26_code (3 : Nat) (Option.none : Option Jvm.ClassFile.FieldType)).before args0 about1 = true := code_word (m := ⟨11, 1⟩) (meth := k11m1) (c := k11c1) (by decide +kernel) rfl rfl rfl (by decide +kernel)
set_option maxRecDepth 65536 in
theorem w_c14 : (Jvm.Cond.code ({ cls := "java/lang/Number", name := "<init>", desc := "()V" } : Jvm.MethodName) jdk_18_method_1_code (1 : Nat) (Option.none : Option Jvm.ClassFile.FieldType)).before args0 about1 = true := code_word (m := ⟨9, 0⟩) (meth := k9m0) (c := k9c0) (by decide +kernel) rfl rfl rfl (by decide +kernel)
def codes1 : List Jvm.Cond := [Jvm.Cond.code x code maxLocals ret, Jvm.Cond.code ({ cls := "com/example/measured_slack/measuredslack/DurationUnit", name := "perLargerUnit", desc := "()Ljava/util/Optional;" } : Jvm.MethodName) prog_5_method_7_code (1 : Nat) (Option.some (Jvm.ClassFile.FieldType.object "java/util/Optional")), Jvm.Cond.code ({ cls := "java/lang/Enum", name := "ordinal", desc := "()I" } : Jvm.MethodName) jdk_37_method_2_code (1 : Nat) (Option.some Jvm.ClassFile.FieldType.int), Jvm.Cond.code ({ cls := "java/util/Optional", name := "empty", desc := "()Ljava/util/Optional;" } : Jvm.MethodName) jdk_32_method_1_code (1 : Nat) (Option.some (Jvm.ClassFile.FieldType.object "java/util/Optional")), Jvm.Cond.code ({ cls := "java/util/Optional", name := "isPresent", desc := "()Z" } : Jvm.MethodName) jdk_32_method_6_code (1 : Nat) (Option.some Jvm.ClassFile.FieldType.boolean), Jvm.Cond.code ({ cls := "com/example/measured_slack/measuredslack/DurationUnit", name := "values", desc := "()[Lcom/example/measured_slack/measuredslack/DurationUnit;" } : Jvm.MethodName) prog_5_method_1_code (0 : Nat) (Option.some (Jvm.ClassFile.FieldType.array (Jvm.ClassFile.FieldType.object "com/example/measured_slack/measuredslack/DurationUnit"))), Jvm.Cond.code ({ cls := "java/lang/Long", name := "valueOf", desc := "(J)Ljava/lang/Long;" } : Jvm.MethodName) jdk_35_method_24_code (3 : Nat) (Option.some (Jvm.ClassFile.FieldType.object "java/lang/Long")), Jvm.Cond.code ({ cls := "java/util/Optional", name := "of", desc := "(Ljava/lang/Object;)Ljava/util/Optional;" } : Jvm.MethodName) jdk_32_method_3_code (1 : Nat) (Option.some (Jvm.ClassFile.FieldType.object "java/util/Optional")), Jvm.Cond.code ({ cls := "java/util/Objects", name := "requireNonNull", desc := "(Ljava/lang/Object;)Ljava/lang/Object;" } : Jvm.MethodName) jdk_31_method_10_code (1 : Nat) (Option.some (Jvm.ClassFile.FieldType.object "java/lang/Object")), Jvm.Cond.code ({ cls := "java/util/Optional", name := "<init>", desc := "(Ljava/lang/Object;)V" } : Jvm.MethodName) jdk_32_method_2_code (2 : Nat) (Option.none : Option Jvm.ClassFile.FieldType), Jvm.Cond.code ({ cls := "java/lang/Object", name := "<init>", desc := "()V" } : Jvm.MethodName) object_method_1_code (1 : Nat) (Option.none : Option Jvm.ClassFile.FieldType), Jvm.Cond.code ({ cls := "java/util/Optional", name := "get", desc := "()Ljava/lang/Object;" } : Jvm.MethodName) jdk_32_method_5_code (1 : Nat) (Option.some (Jvm.ClassFile.FieldType.object "java/lang/Object")), Jvm.Cond.code ({ cls := "java/lang/Long", name := "longValue", desc := "()J" } : Jvm.MethodName) jdk_35_method_31_code (1 : Nat) (Option.some Jvm.ClassFile.FieldType.long), Jvm.Cond.code ({ cls := "java/lang/Long", name := "<init>", desc := "(J)V" } : Jvm.MethodName) jdk_35_method_26_code (3 : Nat) (Option.none : Option Jvm.ClassFile.FieldType), Jvm.Cond.code ({ cls := "java/lang/Number", name := "<init>", desc := "()V" } : Jvm.MethodName) jdk_18_method_1_code (1 : Nat) (Option.none : Option Jvm.ClassFile.FieldType)]
set_option maxRecDepth 65536 in
theorem codes_eq : words1.filter isCode = codes1 := rfl
theorem w_codes : ∀ c ∈ words1.filter isCode, c.before args0 about1 = true := by
  rw [codes_eq]
  intro c hc
  simp only [codes1, List.mem_cons, List.not_mem_nil, or_false] at hc
  rcases hc with rfl | rfl | rfl | rfl | rfl | rfl | rfl | rfl | rfl | rfl | rfl | rfl | rfl | rfl | rfl
  · exact w_c0
  · exact w_c1
  · exact w_c2
  · exact w_c3
  · exact w_c4
  · exact w_c5
  · exact w_c6
  · exact w_c7
  · exact w_c8
  · exact w_c9
  · exact w_c10
  · exact w_c11
  · exact w_c12
  · exact w_c13
  · exact w_c14
set_option maxRecDepth 65536 in
theorem w_t1 : (words1.take 24).all (fun c => isCode c || c.before args0 about1) = true := by decide +kernel
set_option maxRecDepth 65536 in
theorem w_t2 : ((words1.drop 24).take 24).all (fun c => isCode c || c.before args0 about1) = true := by decide +kernel
set_option maxRecDepth 65536 in
theorem w_t3 : (((words1.drop 24).drop 24).take 24).all (fun c => isCode c || c.before args0 about1) = true := by decide +kernel
set_option maxRecDepth 65536 in
theorem w_t4 : ((((words1.drop 24).drop 24).drop 24).take 24).all (fun c => isCode c || c.before args0 about1) = true := by decide +kernel
set_option maxRecDepth 65536 in
theorem w_t5 : ((((words1.drop 24).drop 24).drop 24).drop 24).all (fun c => isCode c || c.before args0 about1) = true := by decide +kernel
theorem w_tables : (allAtoms (Jvm.Cond.code x code maxLocals ret :: tables_1)).before args0 about1 = true := by
  rw [allAtoms_all]
  show words1.all (fun c => c.before args0 about1) = true
  refine all_split ?_ w_codes
  rw [← List.take_append_drop 24 words1, List.all_append, w_t1, ← List.take_append_drop 24 (words1.drop 24), List.all_append, w_t2, ← List.take_append_drop 24 ((words1.drop 24).drop 24), List.all_append, w_t3, ← List.take_append_drop 24 (((words1.drop 24).drop 24).drop 24), List.all_append, w_t4, w_t5]
  rfl
set_option maxRecDepth 65536 in
theorem w_rest : rest_1_c.before args0 about1 = true := by decide +kernel
set_option maxRecDepth 65536 in
theorem w_case : (Jvm.Cond.and given_1 narrow_1).before args0 about1 = true := by decide +kernel
theorem w_applies : (headSpec (Jvm.Cond.code x code maxLocals ret :: tables_1) room_1).applies x e0.platform about1 = true :=
  (Spec.applies_iff w_frames).mpr ⟨w_running, w_runnable, w_alone, w_named, w_hears, w_ripe, w_room, w_tables⟩
theorem atStart : AtStart classFile x code maxLocals ret World_1 tables_1 room_1 Calls_1 rest_1 Pre_1 launch0 p0 e0 about1 theMethod args0 below0 :=
  ⟨lists_1, trivial, launch0.admits_env _ _ _, launch0.least_env, fairChoices_fair.cas, fairChoices_fair.clock, w_frames, w_args, w_heap, w_applies, trivial, w_rest, w_case⟩
end start1
theorem witness_1 : WitnessClaimed_1 := ⟨start1.p0, start1.e0, start1.about1, start1.theMethod, start1.args0, start1.below0, start1.atStart⟩
end Jvm.Pilot.@@N@@
