import JvmDerived
import JvmDerived.Pilot.@@N@@Statement
import JvmDerived.Pilot.@@N@@Code
set_option linter.unusedVariables false
set_option linter.unusedSimpArgs false
namespace Jvm.Pilot.@@N@@
open Jvm Jvm.ClassFile Sem Op Lib Jvm.Free Jvm.Stand Jvm.LawKit Jvm.RoadKit Bundle Jvm.Pilot.@@N@@.Jvm.D
/-- whoever comes on from (T, g) comes from A -/
abbrev Gz (tb : Tables) (e : Env) (below : List Frame) (A T : State) (g : JFrame) : Prop := ∀ t, Steps tb e below (T.setTop g) t → Steps tb e below A t
theorem own_eqI {args : Array Value} {first s : State} {o : Option Outcome} {idx : List Nat} {a : Term} {n : Int32} (h : (Jvm.Cond.eq a (.int n)).value args first o s idx = some true) : a.eval args first o idx s = some (.int n) := by
  simp only [Cond.value, Term.eval] at h
  cases ha : a.eval args first o idx s with
  | none => simp [ha] at h
  | some x => cases x <;> simp [ha] at h ⊢ <;> exact h
theorem own_eqJ {args : Array Value} {first s : State} {o : Option Outcome} {idx : List Nat} {a : Term} {n : Int64} (h : (Jvm.Cond.eq a (.long n)).value args first o s idx = some true) : a.eval args first o idx s = some (.long n) := by
  simp only [Cond.value, Term.eval] at h
  cases ha : a.eval args first o idx s with
  | none => simp [ha] at h
  | some x => cases x <;> simp [ha] at h ⊢ <;> exact h
theorem own_eqR {args : Array Value} {first s : State} {o : Option Outcome} {idx : List Nat} {a b : Term} {x y : Addr} (h : (Jvm.Cond.eq a b).value args first o s idx = some true) (ha : a.eval args first o idx s = some (.ref x)) (hb : b.eval args first o idx s = some (.ref y)) : x = y := by
  simp only [Cond.value, ha, hb] at h
  simpa using h
theorem own_fldI {args : Array Value} {s : State} {t : Term} {C f d : String} {n : Int32} {x : Addr} (h : (Jvm.Cond.eq (.field t C f d) (.int n)).value args s none s [] = some true) (ht : t.eval args s none [] s = some (.ref x)) : Fld s s.heap x C f d (.int n) :=
  Fld.start (by rw [← fld_at (C := C) (n := f) (dd := d) ht]; exact own_eqI h)
theorem own_fldJ {args : Array Value} {s : State} {t : Term} {C f d : String} {n : Int64} {x : Addr} (h : (Jvm.Cond.eq (.field t C f d) (.long n)).value args s none s [] = some true) (ht : t.eval args s none [] s = some (.ref x)) : Fld s s.heap x C f d (.long n) :=
  Fld.start (by rw [← fld_at (C := C) (n := f) (dd := d) ht]; exact own_eqJ h)
theorem own_fldN {args : Array Value} {s : State} {t : Term} {C f d : String} {x : Addr} (h : (Jvm.Cond.eq (.field t C f d) .null).value args s none s [] = some true) (ht : t.eval args s none [] s = some (.ref x)) : Fld s s.heap x C f d .null :=
  Fld.start (by rw [← fld_at (C := C) (n := f) (dd := d) ht]; exact null_v h)
theorem own_ext {h0 h : Heap} (K : Keep h0 h []) : Ext h0 h := ⟨K.1, fun x c q => K.2.1 x c q nin0⟩
theorem own_keep {h0 h : Heap} (E : Ext h0 h) : Keep h0 h [] := (Keep.refl h0 []).ext E
theorem own_extE {h0 h h' : Heap} (K : Ext h0 h) (E : Ext h h') : Ext h0 h' := ⟨Nat.le_trans K.1 E.1, fun a c q => E.2 a c (K.2 a c q)⟩
theorem own_extW {h0 h h' : Heap} {a : Addr} {sl : Nat} {v : Value} (K : Ext h0 h) (W : Wr h h' a sl v) (q : h0.size ≤ a) : Ext h0 h' := own_ext ((own_keep K).wr W (Or.inr q))
theorem own_refl (h : Heap) : Ext h h := ⟨Nat.le_refl _, fun _ _ q => q⟩
theorem own_extK {h0 h h' : Heap} {ws : List Addr} (K : Ext h0 h) (Q : Keep h h' ws) (q : ∀ x ∈ ws, h0.size ≤ x) : Ext h0 h' := ⟨Nat.le_trans K.1 Q.1, fun a c hc => Q.2.1 a c (K.2 a c hc) fun z => absurd (Array.getElem?_eq_some_iff.mp hc).1 (Nat.not_lt.mpr (q a z))⟩
theorem own_getR {p : Program} {l : Launch} {e : Env} {R : Room} {s : State} {m : MethodId} {args : Array Value} {below : List Frame} {meth : Method} {c : Code} {T : State} {locs : List Loc} {cells slots : Nat} {Z : State} {a0 : Array Value} {h : Heap}
    (X : Stand p l e R s m args below meth c T locs cells slots) (hx : p.tables.exec = Jvm.exec) (hZ : Z.Warmed39 s.vm) {own O n d : String} {index : Nat} (hown : s.vm.findClass own = some m.cls) (w : (Cond.fieldRef own index O n d).before a0 Z = true) (eT : T.heap = h) {a : Addr} {v : Value} (F : Fld Z h a O n d v)
    {g : JFrame} (hg : g.method = m) {rest : List Value} (hs : g.stack = .ref a :: rest) (hd : decode c.code g.pc = .ok (.getfield index, 3)) : ∀ target, Steps p.tables e below (T.setTop { g with pc := g.pc + 3, stack := v :: rest }) target → Steps p.tables e below (T.setTop g) target := by
  obtain ⟨cell, cf, k, i, f, h1, h2, h3, h4, -, -, h7⟩ := F
  have hT : Z.Warmed39 T.vm := wtrans hZ X.warmed
  have w1 : (Cond.fieldRef own index O n d).before a0 (Z.setVm T.vm) = true := Cond.fieldRef_warmed39 hT w
  have hownT : (Z.setVm T.vm).vm.findClass own = some m.cls := by show T.vm.findClass own = _; rw [X.warmed.alike.findClass]; exact hown
  obtain ⟨c', k', i', f', hi, hready⟩ := Cond.fieldRef_spec (s := Z.setVm T.vm) hownT w1
  obtain ⟨k'', hi', -⟩ := State.fieldFound?_setVm (s := Z) hT.alike h2
  cases hi.symm.trans hi'
  exact fun target ht => (X.getfieldR hx hg hready h3 hs (by rw [eT]; exact h1) h4 h7 hd (Steps.refl _)).trans ht
theorem own_eqRef {args : Array Value} {first s : State} {o : Option Outcome} {idx : List Nat} {a b : Term} {y : Addr} (h : (Jvm.Cond.eq a b).value args first o s idx = some true) (hb : b.eval args first o idx s = some (.ref y)) : a.eval args first o idx s = some (.ref y) := by
  simp only [Cond.value, hb] at h
  cases ha : a.eval args first o idx s with
  | none => simp [ha] at h
  | some x => cases x <;> simp [ha] at h ⊢ <;> exact h
theorem own_fldR {args : Array Value} {s : State} {t u : Term} {C f d : String} {x y : Addr} (h : (Jvm.Cond.eq (.field t C f d) u).value args s none s [] = some true) (ht : t.eval args s none [] s = some (.ref x)) (hu : u.eval args s none [] s = some (.ref y)) : Fld s s.heap x C f d (.ref y) :=
  Fld.start (by rw [← fld_at (C := C) (n := f) (dd := d) ht]; exact own_eqRef h hu)
theorem own_len {args : Array Value} {s : State} {t : Term} {a : Addr} {cl : Cell} {z : Int32} (h : (Term.length t).eval args s none [] s = some (.int z)) (ht : t.eval args s none [] s = some (.ref a)) (ha : s.arrayAt? a = some cl) : cl.slots.size < 2 ^ 31 ∧ cl.slots.size.toInt32 = z := by
  simp only [Term.eval, ht, ha, Option.bind_eq_bind, Option.bind_some] at h
  split at h
  · rename_i q; exact ⟨q, by simpa using h⟩
  · cases h
theorem own_fldL {args : Array Value} {s : State} {idx : List Nat} {t u : Term} {C f d : String} {n : Int64} {x : Addr} (h : (Jvm.Cond.eq (.field t C f d) u).value args s none s idx = some true) (ht : t.eval args s none idx s = some (.ref x)) (hu : u.eval args s none idx s = some (.long n)) : Fld s s.heap x C f d (.long n) :=
  Fld.start (by
    rw [← fld_at (C := C) (n := f) (dd := d) ht]
    simp only [Cond.value, hu] at h
    cases ha : (Term.field t C f d).eval args s none idx s with
    | none => simp [ha] at h
    | some x => cases x <;> simp [ha] at h ⊢ <;> exact h)
theorem own_fldI2 {args : Array Value} {s : State} {idx : List Nat} {t u : Term} {C f d : String} {n : Int32} {x : Addr} (h : (Jvm.Cond.eq (.field t C f d) u).value args s none s idx = some true) (ht : t.eval args s none idx s = some (.ref x)) (hu : u.eval args s none idx s = some (.int n)) : Fld s s.heap x C f d (.int n) :=
  Fld.start (by
    rw [← fld_at (C := C) (n := f) (dd := d) ht]
    simp only [Cond.value, hu] at h
    cases ha : (Term.field t C f d).eval args s none idx s with
    | none => simp [ha] at h
    | some x => cases x <;> simp [ha] at h ⊢ <;> exact h)
theorem own_selp {s : State} {args : Array Value} {y z : MethodName} (hsel : (Cond.selects z.cls z z).before args s = true) (hcls : z.cls = y.cls) (hpriv : s.PrivateAt y) (hinst : (Cond.instanceMethod y).before args s = true) (hy : y.cls ≠ "java/lang/invoke/MethodHandle" ∧ y.cls ≠ "java/lang/invoke/VarHandle") : (Cond.selects y.cls y y).before args s = true := by
  obtain ⟨c2, r2, m2, q1, q2, q3, q4, kP, hkP, hkPi⟩ := Cond.selects_spec hsel
  exact selects_self_of_private (hcls ▸ findClass_of_methodNamed q3) hkP hkPi hpriv hinst hy
theorem own_nat {z : Int32} (h : 0 ≤ z.toInt) : z.toInt = z.toNatClampNeg := (Int.toNat_of_nonneg h).symm
theorem own_inb {z n : Int32} (N : Int) (hn : n.toInt = N) (h1 : 0 ≤ z.toInt) (h2 : z.toInt < N) : ¬ z < 0 ∧ z < n := by
  rw [Int32.lt_iff_toInt_lt, Int32.lt_iff_toInt_lt, hn]
  exact ⟨by have q : (0 : Int32).toInt = 0 := (by decide); omega, h2⟩
theorem own_inj {Z : State} {h : Heap} {C f d : String} {w : Nat → Addr} {n : Nat} (ho : ∀ k, k < n → Fld Z h (w k) C f d (.int k.toInt32)) (hn : n < 2 ^ 31) : ∀ i j, i < n → j < n → w i = w j → i = j := fun i j hi hj q => Classical.byContradiction fun ne => Fld.ne (ho i hi) (ho j hj) (fun z => ne (by
    have z1 : i.toInt32.toInt = j.toInt32.toInt := by rw [Value.int.inj z]
    rw [len_toInt (by omega), len_toInt (by omega)] at z1
    omega)) q
theorem own_mask (k : Int32) : 0 ≤ (k &&& 2147483647).toInt ∧ (k &&& 2147483647).toInt < 2147483648 := by
  have h1 : (k &&& 2147483647).toInt = ((k &&& 2147483647).toBitVec).toInt := rfl
  have h2 : (k &&& 2147483647).toBitVec = k.toBitVec &&& 2147483647#32 := rfl
  rw [h1, h2]
  have h3 : (k.toBitVec &&& 2147483647#32).msb = false := by rw [BitVec.msb_and, show (2147483647#32).msb = false from by decide, Bool.and_false]
  rw [BitVec.toInt_eq_toNat_of_msb h3]
  have h4 := BitVec.isLt (k.toBitVec &&& 2147483647#32)
  rw [BitVec.msb_eq_decide] at h3
  simp at h3 ⊢
  omega
theorem own_rem (k n : Int32) (N : Int) (hn : n.toInt = N) (hN : 0 < N) : 0 ≤ ((k &&& 2147483647) % n).toInt ∧ ((k &&& 2147483647) % n).toInt < N := by
  have h := own_mask k
  rw [Int32.toInt_mod, hn]
  generalize (k &&& 2147483647).toInt = z at h
  rw [Int.tmod_eq_emod_of_nonneg h.1]
  exact ⟨Int.emod_nonneg _ (by omega), Int.emod_lt_of_pos _ hN⟩
theorem own_i32_ne {x y : Int32} (h : ¬ x = y) : x.toInt ≠ y.toInt := fun q => h (Int32.toInt_inj.mp q)
theorem own_lt {x y : Int32} (h : x < y) : x.toInt < y.toInt := Int32.lt_iff_toInt_lt.mp h
theorem own_nlt {x y : Int32} (h : ¬ x < y) : y.toInt ≤ x.toInt := by rw [Int32.lt_iff_toInt_lt] at h; omega

theorem d1_0 : decode method_2_code 0 = .ok (.iload_n 0, 1) := by decide +kernel
theorem d1_1 : decode method_2_code 1 = .ok (.ifCond .ne 7, 3) := by decide +kernel
theorem d1_4 : decode method_2_code 4 = .ok (.getstatic 7, 3) := by decide +kernel
theorem d1_7 : decode method_2_code 7 = .ok (.areturn, 1) := by decide +kernel
theorem d1_8 : decode method_2_code 8 = .ok (.iload_n 0, 1) := by decide +kernel
theorem d1_9 : decode method_2_code 9 = .ok (.iconst 1, 1) := by decide +kernel
theorem d1_10 : decode method_2_code 10 = .ok (.if_icmp .ne 7, 3) := by decide +kernel
theorem d1_13 : decode method_2_code 13 = .ok (.getstatic 13, 3) := by decide +kernel
theorem d1_16 : decode method_2_code 16 = .ok (.areturn, 1) := by decide +kernel
theorem d1_17 : decode method_2_code 17 = .ok (.iload_n 0, 1) := by decide +kernel
theorem d1_18 : decode method_2_code 18 = .ok (.iconst 2, 1) := by decide +kernel
theorem d1_19 : decode method_2_code 19 = .ok (.if_icmp .ne 7, 3) := by decide +kernel
theorem d1_22 : decode method_2_code 22 = .ok (.getstatic 16, 3) := by decide +kernel
theorem d1_25 : decode method_2_code 25 = .ok (.areturn, 1) := by decide +kernel
theorem d1_26 : decode method_2_code 26 = .ok (.iload_n 0, 1) := by decide +kernel
theorem d1_27 : decode method_2_code 27 = .ok (.iconst 3, 1) := by decide +kernel
theorem d1_28 : decode method_2_code 28 = .ok (.if_icmp .ne 7, 3) := by decide +kernel
theorem d1_31 : decode method_2_code 31 = .ok (.getstatic 19, 3) := by decide +kernel
theorem d1_34 : decode method_2_code 34 = .ok (.areturn, 1) := by decide +kernel
theorem d1_35 : decode method_2_code 35 = .ok (.iload_n 0, 1) := by decide +kernel
theorem d1_36 : decode method_2_code 36 = .ok (.iconst 4, 1) := by decide +kernel
theorem d1_37 : decode method_2_code 37 = .ok (.if_icmp .ne 7, 3) := by decide +kernel
theorem d1_40 : decode method_2_code 40 = .ok (.getstatic 22, 3) := by decide +kernel
theorem d1_43 : decode method_2_code 43 = .ok (.areturn, 1) := by decide +kernel
theorem d1_44 : decode method_2_code 44 = .ok (.getstatic 25, 3) := by decide +kernel
theorem d1_47 : decode method_2_code 47 = .ok (.areturn, 1) := by decide +kernel
theorem pn1 : plainName "com/example/orrery/orrery/types/SqlTypeComparableWithPinLaw" = true := by first | (simp [plainName, overriddenIn]; done) | decide +kernel
theorem ef1 (m : MethodId) (x0 : Int32) : entryFrame m #[(.int x0)] 1 = mkF m 0 #[.val (.int x0)] [] := by first | (simp [entryFrame, mkF, argsToLocals, Value.category]; done) | rfl
def Q1 (Z : State) (p1 : Int32) (w : Nat → Addr) (h0 : Heap) (n0 : Nat) (v : Option Value) (h : Heap) (L : List Loc) : Prop := ∃ j, v = some (.ref (w j)) ∧ Fr n0 L ∧ h = h0 ∧ j < 6 ∧ p1.toInt = j
set_option maxRecDepth 65536 in
set_option maxHeartbeats 40000000 in
theorem rm1 (l : Launch) (Z : State) (a0 : Array Value) (hw : ∀ d ∈ tables_1, d.before a0 Z = true) (ws : List Jvm.Cond) (p1 : Int32) (w : Nat → Addr) (h0 : Heap) (n0 : Nat) (Z0 : n0 ≤ h0.size) (S_BIGINT : Sta Z h0 "com/example/orrery/orrery/types/SqlType$Kind" "BIGINT" "Lcom/example/orrery/orrery/types/SqlType$Kind;" (.ref (w 0))) (S_INTEGER : Sta Z h0 "com/example/orrery/orrery/types/SqlType$Kind" "INTEGER" "Lcom/example/orrery/orrery/types/SqlType$Kind;" (.ref (w 1))) (S_DECIMAL : Sta Z h0 "com/example/orrery/orrery/types/SqlType$Kind" "DECIMAL" "Lcom/example/orrery/orrery/types/SqlType$Kind;" (.ref (w 2))) (S_DATE : Sta Z h0 "com/example/orrery/orrery/types/SqlType$Kind" "DATE" "Lcom/example/orrery/orrery/types/SqlType$Kind;" (.ref (w 3))) (S_CHAR : Sta Z h0 "com/example/orrery/orrery/types/SqlType$Kind" "CHAR" "Lcom/example/orrery/orrery/types/SqlType$Kind;" (.ref (w 4))) (S_VARCHAR : Sta Z h0 "com/example/orrery/orrery/types/SqlType$Kind" "VARCHAR" "Lcom/example/orrery/orrery/types/SqlType$Kind;" (.ref (w 5))) (hlo : 0 ≤ p1.toInt) (hhi : p1.toInt < 6) :
    MetFree l (⟨"com/example/orrery/orrery/types/SqlTypeComparableWithPinLaw", "kindOf", "(I)Lcom/example/orrery/orrery/types/SqlType$Kind;"⟩ : MethodName) (head1 (Jvm.Cond.code (⟨"com/example/orrery/orrery/types/SqlTypeComparableWithPinLaw", "kindOf", "(I)Lcom/example/orrery/orrery/types/SqlType$Kind;"⟩ : MethodName) method_2_code 1 (some (.object "com/example/orrery/orrery/types/SqlType$Kind")) :: ws) ({ frames := 0, cells := 0, slots := 0, locals := 0 } : Room)) (fun aq Uq => aq = #[(.int p1)] ∧ Z.Warmed39 Uq.vm ∧ Uq.heap = h0) (fun _ _ _ _ _ => True) (fun _ Uq oq Uq' => ∃ vq Lq, oq = .returned vq ∧ Q1 Z p1 w h0 n0 vq Uq'.heap Lq ∧ FrameEnd Uq oq Uq' Lq ({ frames := 0, cells := 0, slots := 0, locals := 0 } : Room).cells ({ frames := 0, cells := 0, slots := 0, locals := 0 } : Room).slots) := by
  refine MetFree.of_bodySF (plainFor_of_name pn1) hisR ?_
  intro p e s m args below meth c s₁ Bd hml0 hP hK
  obtain ⟨rfl, hZ, hh⟩ := hP
  have hx := Bd.exec
  have hby := Bd.bytes
  have hml : c.maxLocals = 1 := hml0
  have hown : s.vm.findClass "com/example/orrery/orrery/types/SqlTypeComparableWithPinLaw" = some m.cls := findClass_of_methodNamed Bd.named
  have hnm := (name_of_methodNamed Bd.named Bd.method).1
  have X0 : Stand p l e ({ frames := 0, cells := 0, slots := 0, locals := 0 } : Room) s m #[(.int p1)] below meth c s₁ [] 0 0 := Stand.of_body Bd
  have e0 : s₁.heap = h0 := by rw [← hh, Bd.state]; rfl
  have N0 := Fr.nil n0
  obtain ⟨A, hA⟩ : ∃ A, A = s₁.setTop (entryFrame m #[(.int p1)] 1) := ⟨_, rfl⟩
  rw [← hA]
  have g0 : Gz p.tables e below A s₁ (mkF m 0 #[.val (.int p1)] []) := fun tq kq => by rw [hA]; exact castTop (ef1 m p1) kq
  have g1 : Gz p.tables e below A s₁ (mkF m 1 #[.val (.int p1)] [(.int p1)]) := fun tq kq => g0 tq (XS.iloadN X0.here hx rfl (hb hby d1_0) rfl kq)
  by_cases hc1 : p1 = (0 : Int32)
  · have g2 : Gz p.tables e below A s₁ (mkF m 4 #[.val (.int p1)] []) := fun tq kq => g1 tq (XS.ifNo X0.here hx rfl (hb hby d1_1) rfl ((if0 _ _).trans (teq hc1).2) kq)
    obtain ⟨T3, X3, e3, st3⟩ := getS2 X0 hx hZ hown (host := "") (Or.inl (hw _ (List.mem_of_getElem? (i := 8) rfl))) Via.refl e0 S_BIGINT (g := (mkF m 4 #[.val (.int p1)] [])) rfl (hb hby d1_4)
    have g4 : Gz p.tables e below A T3 (mkF m 7 #[.val (.int p1)] [(.ref (w 0))]) := fun tq kq => g2 tq (st3 tq kq)
    obtain ⟨fs, hr, hrun, hended, hW, hsame⟩ := X3.leave (v := some (.ref (w 0))) (fun h => by rw [Bd.returns] at h; cases h)
    refine ⟨_, _, g4 _ (retOut X3 hx Bd.returns rfl (Or.inr (Or.inr (Or.inr (Or.inr ⟨rfl, rfl, rfl⟩)))) (hb hby d1_7) hr), hrun, hended, _, _, rfl, ?_, ⟨_, rfl⟩, hW, hsame.mono (by decide) (by decide)⟩
    show Q1 Z p1 w h0 n0 _ T3.heap _
    rw [e3]
    exact ⟨0, rfl, N0, rfl, by decide, by rw [hc1]; decide⟩
  · have g5 : Gz p.tables e below A s₁ (mkF m 8 #[.val (.int p1)] []) := fun tq kq => g1 tq (XS.ifYes X0.here hx rfl (pc0 := 1) (pc' := 8) rfl (hb hby d1_1) rfl ((if0 _ _).trans (feq hc1).2) (by decide) (by decide) kq)
    have g6 : Gz p.tables e below A s₁ (mkF m 9 #[.val (.int p1)] [(.int p1)]) := fun tq kq => g5 tq (XS.iloadN X0.here hx rfl (hb hby d1_8) rfl kq)
    have g7 : Gz p.tables e below A s₁ (mkF m 10 #[.val (.int p1)] [(.int (1 : Int32)), (.int p1)]) := fun tq kq => g6 tq (XS.iconst X0.here hx rfl (hb hby d1_9) kq)
    by_cases hc10 : p1 = (1 : Int32)
    · have g8 : Gz p.tables e below A s₁ (mkF m 13 #[.val (.int p1)] []) := fun tq kq => g7 tq (XS.icmpNo X0.here hx rfl (hb hby d1_10) rfl (teq hc10).2 kq)
      obtain ⟨T9, X9, e9, st9⟩ := getS2 X0 hx hZ hown (host := "") (Or.inl (hw _ (List.mem_of_getElem? (i := 52) rfl))) Via.refl e0 S_INTEGER (g := (mkF m 13 #[.val (.int p1)] [])) rfl (hb hby d1_13)
      have g10 : Gz p.tables e below A T9 (mkF m 16 #[.val (.int p1)] [(.ref (w 1))]) := fun tq kq => g8 tq (st9 tq kq)
      obtain ⟨fs, hr, hrun, hended, hW, hsame⟩ := X9.leave (v := some (.ref (w 1))) (fun h => by rw [Bd.returns] at h; cases h)
      refine ⟨_, _, g10 _ (retOut X9 hx Bd.returns rfl (Or.inr (Or.inr (Or.inr (Or.inr ⟨rfl, rfl, rfl⟩)))) (hb hby d1_16) hr), hrun, hended, _, _, rfl, ?_, ⟨_, rfl⟩, hW, hsame.mono (by decide) (by decide)⟩
      show Q1 Z p1 w h0 n0 _ T9.heap _
      rw [e9]
      exact ⟨1, rfl, N0, rfl, by decide, by rw [hc10]; decide⟩
    · have g11 : Gz p.tables e below A s₁ (mkF m 17 #[.val (.int p1)] []) := fun tq kq => g7 tq (XS.icmpYes X0.here hx rfl (pc0 := 10) (pc' := 17) rfl (hb hby d1_10) rfl (feq hc10).2 (by decide) (by decide) kq)
      have g12 : Gz p.tables e below A s₁ (mkF m 18 #[.val (.int p1)] [(.int p1)]) := fun tq kq => g11 tq (XS.iloadN X0.here hx rfl (hb hby d1_17) rfl kq)
      have g13 : Gz p.tables e below A s₁ (mkF m 19 #[.val (.int p1)] [(.int (2 : Int32)), (.int p1)]) := fun tq kq => g12 tq (XS.iconst X0.here hx rfl (hb hby d1_18) kq)
      by_cases hc19 : p1 = (2 : Int32)
      · have g14 : Gz p.tables e below A s₁ (mkF m 22 #[.val (.int p1)] []) := fun tq kq => g13 tq (XS.icmpNo X0.here hx rfl (hb hby d1_19) rfl (teq hc19).2 kq)
        obtain ⟨T15, X15, e15, st15⟩ := getS2 X0 hx hZ hown (host := "") (Or.inl (hw _ (List.mem_of_getElem? (i := 50) rfl))) Via.refl e0 S_DECIMAL (g := (mkF m 22 #[.val (.int p1)] [])) rfl (hb hby d1_22)
        have g16 : Gz p.tables e below A T15 (mkF m 25 #[.val (.int p1)] [(.ref (w 2))]) := fun tq kq => g14 tq (st15 tq kq)
        obtain ⟨fs, hr, hrun, hended, hW, hsame⟩ := X15.leave (v := some (.ref (w 2))) (fun h => by rw [Bd.returns] at h; cases h)
        refine ⟨_, _, g16 _ (retOut X15 hx Bd.returns rfl (Or.inr (Or.inr (Or.inr (Or.inr ⟨rfl, rfl, rfl⟩)))) (hb hby d1_25) hr), hrun, hended, _, _, rfl, ?_, ⟨_, rfl⟩, hW, hsame.mono (by decide) (by decide)⟩
        show Q1 Z p1 w h0 n0 _ T15.heap _
        rw [e15]
        exact ⟨2, rfl, N0, rfl, by decide, by rw [hc19]; decide⟩
      · have g17 : Gz p.tables e below A s₁ (mkF m 26 #[.val (.int p1)] []) := fun tq kq => g13 tq (XS.icmpYes X0.here hx rfl (pc0 := 19) (pc' := 26) rfl (hb hby d1_19) rfl (feq hc19).2 (by decide) (by decide) kq)
        have g18 : Gz p.tables e below A s₁ (mkF m 27 #[.val (.int p1)] [(.int p1)]) := fun tq kq => g17 tq (XS.iloadN X0.here hx rfl (hb hby d1_26) rfl kq)
        have g19 : Gz p.tables e below A s₁ (mkF m 28 #[.val (.int p1)] [(.int (3 : Int32)), (.int p1)]) := fun tq kq => g18 tq (XS.iconst X0.here hx rfl (hb hby d1_27) kq)
        by_cases hc28 : p1 = (3 : Int32)
        · have g20 : Gz p.tables e below A s₁ (mkF m 31 #[.val (.int p1)] []) := fun tq kq => g19 tq (XS.icmpNo X0.here hx rfl (hb hby d1_28) rfl (teq hc28).2 kq)
          obtain ⟨T21, X21, e21, st21⟩ := getS2 X0 hx hZ hown (host := "") (Or.inl (hw _ (List.mem_of_getElem? (i := 30) rfl))) Via.refl e0 S_DATE (g := (mkF m 31 #[.val (.int p1)] [])) rfl (hb hby d1_31)
          have g22 : Gz p.tables e below A T21 (mkF m 34 #[.val (.int p1)] [(.ref (w 3))]) := fun tq kq => g20 tq (st21 tq kq)
          obtain ⟨fs, hr, hrun, hended, hW, hsame⟩ := X21.leave (v := some (.ref (w 3))) (fun h => by rw [Bd.returns] at h; cases h)
          refine ⟨_, _, g22 _ (retOut X21 hx Bd.returns rfl (Or.inr (Or.inr (Or.inr (Or.inr ⟨rfl, rfl, rfl⟩)))) (hb hby d1_34) hr), hrun, hended, _, _, rfl, ?_, ⟨_, rfl⟩, hW, hsame.mono (by decide) (by decide)⟩
          show Q1 Z p1 w h0 n0 _ T21.heap _
          rw [e21]
          exact ⟨3, rfl, N0, rfl, by decide, by rw [hc28]; decide⟩
        · have g23 : Gz p.tables e below A s₁ (mkF m 35 #[.val (.int p1)] []) := fun tq kq => g19 tq (XS.icmpYes X0.here hx rfl (pc0 := 28) (pc' := 35) rfl (hb hby d1_28) rfl (feq hc28).2 (by decide) (by decide) kq)
          have g24 : Gz p.tables e below A s₁ (mkF m 36 #[.val (.int p1)] [(.int p1)]) := fun tq kq => g23 tq (XS.iloadN X0.here hx rfl (hb hby d1_35) rfl kq)
          have g25 : Gz p.tables e below A s₁ (mkF m 37 #[.val (.int p1)] [(.int (4 : Int32)), (.int p1)]) := fun tq kq => g24 tq (XS.iconst X0.here hx rfl (hb hby d1_36) kq)
          by_cases hc37 : p1 = (4 : Int32)
          · have g26 : Gz p.tables e below A s₁ (mkF m 40 #[.val (.int p1)] []) := fun tq kq => g25 tq (XS.icmpNo X0.here hx rfl (hb hby d1_37) rfl (teq hc37).2 kq)
            obtain ⟨T27, X27, e27, st27⟩ := getS2 X0 hx hZ hown (host := "") (Or.inl (hw _ (List.mem_of_getElem? (i := 45) rfl))) Via.refl e0 S_CHAR (g := (mkF m 40 #[.val (.int p1)] [])) rfl (hb hby d1_40)
            have g28 : Gz p.tables e below A T27 (mkF m 43 #[.val (.int p1)] [(.ref (w 4))]) := fun tq kq => g26 tq (st27 tq kq)
            obtain ⟨fs, hr, hrun, hended, hW, hsame⟩ := X27.leave (v := some (.ref (w 4))) (fun h => by rw [Bd.returns] at h; cases h)
            refine ⟨_, _, g28 _ (retOut X27 hx Bd.returns rfl (Or.inr (Or.inr (Or.inr (Or.inr ⟨rfl, rfl, rfl⟩)))) (hb hby d1_43) hr), hrun, hended, _, _, rfl, ?_, ⟨_, rfl⟩, hW, hsame.mono (by decide) (by decide)⟩
            show Q1 Z p1 w h0 n0 _ T27.heap _
            rw [e27]
            exact ⟨4, rfl, N0, rfl, by decide, by rw [hc37]; decide⟩
          · have g29 : Gz p.tables e below A s₁ (mkF m 44 #[.val (.int p1)] []) := fun tq kq => g25 tq (XS.icmpYes X0.here hx rfl (pc0 := 37) (pc' := 44) rfl (hb hby d1_37) rfl (feq hc37).2 (by decide) (by decide) kq)
            obtain ⟨T30, X30, e30, st30⟩ := getS2 X0 hx hZ hown (host := "") (Or.inl (hw _ (List.mem_of_getElem? (i := 48) rfl))) Via.refl e0 S_VARCHAR (g := (mkF m 44 #[.val (.int p1)] [])) rfl (hb hby d1_44)
            have g31 : Gz p.tables e below A T30 (mkF m 47 #[.val (.int p1)] [(.ref (w 5))]) := fun tq kq => g29 tq (st30 tq kq)
            obtain ⟨fs, hr, hrun, hended, hW, hsame⟩ := X30.leave (v := some (.ref (w 5))) (fun h => by rw [Bd.returns] at h; cases h)
            refine ⟨_, _, g31 _ (retOut X30 hx Bd.returns rfl (Or.inr (Or.inr (Or.inr (Or.inr ⟨rfl, rfl, rfl⟩)))) (hb hby d1_47) hr), hrun, hended, _, _, rfl, ?_, ⟨_, rfl⟩, hW, hsame.mono (by decide) (by decide)⟩
            show Q1 Z p1 w h0 n0 _ T30.heap _
            rw [e30]
            have n0 : p1.toInt ≠ 0 := own_i32_ne hc1
            have n1 : p1.toInt ≠ 1 := own_i32_ne hc10
            have n2 : p1.toInt ≠ 2 := own_i32_ne hc19
            have n3 : p1.toInt ≠ 3 := own_i32_ne hc28
            have n4 : p1.toInt ≠ 4 := own_i32_ne hc37
            exact ⟨5, rfl, N0, rfl, by decide, by omega⟩

def own_fam (j : Nat) : Int32 := if j ≤ 2 then 0 else if j = 3 then 1 else 2

theorem d2_0 : decode method_3_code 0 = .ok (.iload_n 0, 1) := by decide +kernel
theorem d2_1 : decode method_3_code 1 = .ok (.iconst 2, 1) := by decide +kernel
theorem d2_2 : decode method_3_code 2 = .ok (.if_icmp .gt 5, 3) := by decide +kernel
theorem d2_5 : decode method_3_code 5 = .ok (.iconst 0, 1) := by decide +kernel
theorem d2_6 : decode method_3_code 6 = .ok (.ireturn, 1) := by decide +kernel
theorem d2_7 : decode method_3_code 7 = .ok (.iload_n 0, 1) := by decide +kernel
theorem d2_8 : decode method_3_code 8 = .ok (.iconst 3, 1) := by decide +kernel
theorem d2_9 : decode method_3_code 9 = .ok (.if_icmp .ne 5, 3) := by decide +kernel
theorem d2_12 : decode method_3_code 12 = .ok (.iconst 1, 1) := by decide +kernel
theorem d2_13 : decode method_3_code 13 = .ok (.ireturn, 1) := by decide +kernel
theorem d2_14 : decode method_3_code 14 = .ok (.iconst 2, 1) := by decide +kernel
theorem d2_15 : decode method_3_code 15 = .ok (.ireturn, 1) := by decide +kernel
theorem pn2 : plainName "com/example/orrery/orrery/types/SqlTypeComparableWithPinLaw" = true := by first | (simp [plainName, overriddenIn]; done) | decide +kernel
theorem ef2 (m : MethodId) (x0 : Int32) : entryFrame m #[(.int x0)] 1 = mkF m 0 #[.val (.int x0)] [] := by first | (simp [entryFrame, mkF, argsToLocals, Value.category]; done) | rfl
def Q2 (Z : State) (p1 : Int32) (j : Nat) (h0 : Heap) (n0 : Nat) (v : Option Value) (h : Heap) (L : List Loc) : Prop := v = some (.int (own_fam j)) ∧ Fr n0 L ∧ h = h0
set_option maxRecDepth 65536 in
set_option maxHeartbeats 40000000 in
theorem rm2 (l : Launch) (Z : State) (a0 : Array Value) (hw : ∀ d ∈ tables_1, d.before a0 Z = true) (ws : List Jvm.Cond) (p1 : Int32) (j : Nat) (h0 : Heap) (n0 : Nat) (Z0 : n0 ≤ h0.size) (hij : p1.toInt = j) :
    MetFree l (⟨"com/example/orrery/orrery/types/SqlTypeComparableWithPinLaw", "familyOf", "(I)I"⟩ : MethodName) (head1 (Jvm.Cond.code (⟨"com/example/orrery/orrery/types/SqlTypeComparableWithPinLaw", "familyOf", "(I)I"⟩ : MethodName) method_3_code 1 (some .int) :: ws) ({ frames := 0, cells := 0, slots := 0, locals := 0 } : Room)) (fun aq Uq => aq = #[(.int p1)] ∧ Z.Warmed39 Uq.vm ∧ Uq.heap = h0) (fun _ _ _ _ _ => True) (fun _ Uq oq Uq' => ∃ vq Lq, oq = .returned vq ∧ Q2 Z p1 j h0 n0 vq Uq'.heap Lq ∧ FrameEnd Uq oq Uq' Lq ({ frames := 0, cells := 0, slots := 0, locals := 0 } : Room).cells ({ frames := 0, cells := 0, slots := 0, locals := 0 } : Room).slots) := by
  refine MetFree.of_bodySF (plainFor_of_name pn2) hisR ?_
  intro p e s m args below meth c s₁ Bd hml0 hP hK
  obtain ⟨rfl, hZ, hh⟩ := hP
  have hx := Bd.exec
  have hby := Bd.bytes
  have hml : c.maxLocals = 1 := hml0
  have hown : s.vm.findClass "com/example/orrery/orrery/types/SqlTypeComparableWithPinLaw" = some m.cls := findClass_of_methodNamed Bd.named
  have hnm := (name_of_methodNamed Bd.named Bd.method).1
  have X0 : Stand p l e ({ frames := 0, cells := 0, slots := 0, locals := 0 } : Room) s m #[(.int p1)] below meth c s₁ [] 0 0 := Stand.of_body Bd
  have e0 : s₁.heap = h0 := by rw [← hh, Bd.state]; rfl
  have N0 := Fr.nil n0
  obtain ⟨A, hA⟩ : ∃ A, A = s₁.setTop (entryFrame m #[(.int p1)] 1) := ⟨_, rfl⟩
  rw [← hA]
  have g0 : Gz p.tables e below A s₁ (mkF m 0 #[.val (.int p1)] []) := fun tq kq => by rw [hA]; exact castTop (ef2 m p1) kq
  have g1 : Gz p.tables e below A s₁ (mkF m 1 #[.val (.int p1)] [(.int p1)]) := fun tq kq => g0 tq (XS.iloadN X0.here hx rfl (hb hby d2_0) rfl kq)
  have g2 : Gz p.tables e below A s₁ (mkF m 2 #[.val (.int p1)] [(.int (2 : Int32)), (.int p1)]) := fun tq kq => g1 tq (XS.iconst X0.here hx rfl (hb hby d2_1) kq)
  by_cases hc2 : (2 : Int32) < p1
  · have g3 : Gz p.tables e below A s₁ (mkF m 7 #[.val (.int p1)] []) := fun tq kq => g2 tq (XS.icmpYes X0.here hx rfl (pc0 := 2) (pc' := 7) rfl (hb hby d2_2) rfl (tlt hc2).2.2.1 (by decide) (by decide) kq)
    have g4 : Gz p.tables e below A s₁ (mkF m 8 #[.val (.int p1)] [(.int p1)]) := fun tq kq => g3 tq (XS.iloadN X0.here hx rfl (hb hby d2_7) rfl kq)
    have g5 : Gz p.tables e below A s₁ (mkF m 9 #[.val (.int p1)] [(.int (3 : Int32)), (.int p1)]) := fun tq kq => g4 tq (XS.iconst X0.here hx rfl (hb hby d2_8) kq)
    by_cases hc9 : p1 = (3 : Int32)
    · have g6 : Gz p.tables e below A s₁ (mkF m 12 #[.val (.int p1)] []) := fun tq kq => g5 tq (XS.icmpNo X0.here hx rfl (hb hby d2_9) rfl (teq hc9).2 kq)
      have g7 : Gz p.tables e below A s₁ (mkF m 13 #[.val (.int p1)] [(.int (1 : Int32))]) := fun tq kq => g6 tq (XS.iconst X0.here hx rfl (hb hby d2_12) kq)
      obtain ⟨fs, hr, hrun, hended, hW, hsame⟩ := X0.leave (v := some (.int (1 : Int32))) (fun h => by rw [Bd.returns] at h; cases h)
      refine ⟨_, _, g7 _ (retOut X0 hx Bd.returns rfl (Or.inl ⟨rfl, Or.inl rfl, _, rfl⟩) (hb hby d2_13) hr), hrun, hended, _, _, rfl, ?_, ⟨_, rfl⟩, hW, hsame.mono (by decide) (by decide)⟩
      show Q2 Z p1 j h0 n0 _ s₁.heap _
      rw [e0]
      have z2 : (2 : Int32).toInt = 2 := by decide
      have z3 : (3 : Int32).toInt = 3 := by decide
      rw [hc9] at hij
      exact ⟨by unfold own_fam; rw [if_neg (by omega), if_pos (by omega)], N0, rfl⟩
    · have g8 : Gz p.tables e below A s₁ (mkF m 14 #[.val (.int p1)] []) := fun tq kq => g5 tq (XS.icmpYes X0.here hx rfl (pc0 := 9) (pc' := 14) rfl (hb hby d2_9) rfl (feq hc9).2 (by decide) (by decide) kq)
      have g9 : Gz p.tables e below A s₁ (mkF m 15 #[.val (.int p1)] [(.int (2 : Int32))]) := fun tq kq => g8 tq (XS.iconst X0.here hx rfl (hb hby d2_14) kq)
      obtain ⟨fs, hr, hrun, hended, hW, hsame⟩ := X0.leave (v := some (.int (2 : Int32))) (fun h => by rw [Bd.returns] at h; cases h)
      refine ⟨_, _, g9 _ (retOut X0 hx Bd.returns rfl (Or.inl ⟨rfl, Or.inl rfl, _, rfl⟩) (hb hby d2_15) hr), hrun, hended, _, _, rfl, ?_, ⟨_, rfl⟩, hW, hsame.mono (by decide) (by decide)⟩
      show Q2 Z p1 j h0 n0 _ s₁.heap _
      rw [e0]
      have z2 : (2 : Int32).toInt = 2 := by decide
      have z3 : (3 : Int32).toInt = 3 := by decide
      have q := own_lt hc2
      have q' := own_i32_ne hc9
      exact ⟨by unfold own_fam; rw [if_neg (by omega), if_neg (by omega)], N0, rfl⟩
  · have g10 : Gz p.tables e below A s₁ (mkF m 5 #[.val (.int p1)] []) := fun tq kq => g2 tq (XS.icmpNo X0.here hx rfl (hb hby d2_2) rfl (flt hc2).2.2.1 kq)
    have g11 : Gz p.tables e below A s₁ (mkF m 6 #[.val (.int p1)] [(.int (0 : Int32))]) := fun tq kq => g10 tq (XS.iconst X0.here hx rfl (hb hby d2_5) kq)
    obtain ⟨fs, hr, hrun, hended, hW, hsame⟩ := X0.leave (v := some (.int (0 : Int32))) (fun h => by rw [Bd.returns] at h; cases h)
    refine ⟨_, _, g11 _ (retOut X0 hx Bd.returns rfl (Or.inl ⟨rfl, Or.inl rfl, _, rfl⟩) (hb hby d2_6) hr), hrun, hended, _, _, rfl, ?_, ⟨_, rfl⟩, hW, hsame.mono (by decide) (by decide)⟩
    show Q2 Z p1 j h0 n0 _ s₁.heap _
    rw [e0]
    have z2 : (2 : Int32).toInt = 2 := by decide
    have z3 : (3 : Int32).toInt = 3 := by decide
    have q := own_nlt hc2
    exact ⟨by unfold own_fam; rw [if_pos (by omega)], N0, rfl⟩

theorem d3_0 : decode jdk_30_method_1_code 0 = .ok (.aload_n 0, 1) := by decide +kernel
theorem d3_1 : decode jdk_30_method_1_code 1 = .ok (.invokespecial 1, 3) := by decide +kernel
theorem d3_4 : decode jdk_30_method_1_code 4 = .ok (.return_, 1) := by decide +kernel
theorem pn3 : plainName "java/lang/Record" = true := by first | (simp [plainName, overriddenIn]; done) | decide +kernel
theorem ef3 (m : MethodId) (x0 : Addr) : entryFrame m #[(.ref x0)] 1 = mkF m 0 #[.val (.ref x0)] [] := by first | (simp [entryFrame, mkF, argsToLocals, Value.category]; done) | rfl
def Q3 (Z : State) (a : Addr) (h0 : Heap) (n0 : Nat) (v : Option Value) (h : Heap) (L : List Loc) : Prop := v = none ∧ Fr n0 L ∧ h = h0
set_option maxRecDepth 65536 in
set_option maxHeartbeats 40000000 in
theorem rm3 (l : Launch) (Z : State) (a0 : Array Value) (hw : ∀ d ∈ tables_1, d.before a0 Z = true) (ws : List Jvm.Cond) (a : Addr) (h0 : Heap) (n0 : Nat) (Z0 : n0 ≤ h0.size) :
    MetFree l (⟨"java/lang/Record", "<init>", "()V"⟩ : MethodName) (head1 (Jvm.Cond.code (⟨"java/lang/Record", "<init>", "()V"⟩ : MethodName) jdk_30_method_1_code 1 none :: ws) ({ frames := 1, cells := 0, slots := 0, locals := 12 } : Room)) (fun aq Uq => aq = #[(.ref a)] ∧ Z.Warmed39 Uq.vm ∧ Uq.heap = h0) (fun _ _ _ _ _ => True) (fun _ Uq oq Uq' => ∃ vq Lq, oq = .returned vq ∧ Q3 Z a h0 n0 vq Uq'.heap Lq ∧ FrameEnd Uq oq Uq' Lq ({ frames := 1, cells := 0, slots := 0, locals := 12 } : Room).cells ({ frames := 1, cells := 0, slots := 0, locals := 12 } : Room).slots) := by
  refine MetFree.of_bodySF (plainFor_of_name pn3) hisR ?_
  intro p e s m args below meth c s₁ Bd hml0 hP hK
  obtain ⟨rfl, hZ, hh⟩ := hP
  have hx := Bd.exec
  have hby := Bd.bytes
  have hml : c.maxLocals = 1 := hml0
  have hown : s.vm.findClass "java/lang/Record" = some m.cls := findClass_of_methodNamed Bd.named
  have hnm := (name_of_methodNamed Bd.named Bd.method).1
  have X0 : Stand p l e ({ frames := 1, cells := 0, slots := 0, locals := 12 } : Room) s m #[(.ref a)] below meth c s₁ [] 0 0 := Stand.of_body Bd
  have e0 : s₁.heap = h0 := by rw [← hh, Bd.state]; rfl
  have N0 := Fr.nil n0
  obtain ⟨A, hA⟩ : ∃ A, A = s₁.setTop (entryFrame m #[(.ref a)] 1) := ⟨_, rfl⟩
  rw [← hA]
  have g0 : Gz p.tables e below A s₁ (mkF m 0 #[.val (.ref a)] []) := fun tq kq => by rw [hA]; exact castTop (ef3 m a) kq
  have g1 : Gz p.tables e below A s₁ (mkF m 1 #[.val (.ref a)] [(.ref a)]) := fun tq kq => g0 tq (XS.aloadN X0.here hx rfl (hb hby d3_0) rfl rfl kq)
  obtain ⟨T2, X2, e2, st2⟩ := initO X0 hx hZ hown (hw _ (List.mem_of_getElem? (i := 19) rfl)) (hw _ (List.mem_of_getElem? (i := 20) rfl)) (hw _ (List.mem_of_getElem? (i := 21) rfl)) e0 (g := (mkF m 1 #[.val (.ref a)] [(.ref a)])) rfl (by rw [hml]; rfl) rfl (hb hby d3_1) (by decide) (W := 0) (by show 2 * 0 + _ ≤ _; exact Nat.le_of_eq rfl) (by decide)
  have g3 : Gz p.tables e below A T2 (mkF m 4 #[.val (.ref a)] []) := fun tq kq => g1 tq (st2 tq kq)
  obtain ⟨fs, hr, hrun, hended, hW, hsame⟩ := X2.leave (v := none) (fun _ => rfl)
  refine ⟨_, _, g3 _ (X2.returnOut hx Bd.returns (hb hby d3_4) hr), hrun, hended, _, _, rfl, ?_, ⟨_, rfl⟩, hW, hsame.mono (by decide) (by decide)⟩
  show Q3 Z a h0 n0 _ T2.heap _
  rw [e2]
  exact ⟨rfl, N0, rfl⟩

theorem d4_0 : decode prog_120_method_1_code 0 = .ok (.aload_n 0, 1) := by decide +kernel
theorem d4_1 : decode prog_120_method_1_code 1 = .ok (.invokespecial 1, 3) := by decide +kernel
theorem d4_4 : decode prog_120_method_1_code 4 = .ok (.aload_n 0, 1) := by decide +kernel
theorem d4_5 : decode prog_120_method_1_code 5 = .ok (.aload_n 1, 1) := by decide +kernel
theorem d4_6 : decode prog_120_method_1_code 6 = .ok (.putfield 7, 3) := by decide +kernel
theorem d4_9 : decode prog_120_method_1_code 9 = .ok (.aload_n 0, 1) := by decide +kernel
theorem d4_10 : decode prog_120_method_1_code 10 = .ok (.iload_n 2, 1) := by decide +kernel
theorem d4_11 : decode prog_120_method_1_code 11 = .ok (.putfield 13, 3) := by decide +kernel
theorem d4_14 : decode prog_120_method_1_code 14 = .ok (.aload_n 0, 1) := by decide +kernel
theorem d4_15 : decode prog_120_method_1_code 15 = .ok (.iload_n 3, 1) := by decide +kernel
theorem d4_16 : decode prog_120_method_1_code 16 = .ok (.putfield 17, 3) := by decide +kernel
theorem d4_19 : decode prog_120_method_1_code 19 = .ok (.aload_n 0, 1) := by decide +kernel
theorem d4_20 : decode prog_120_method_1_code 20 = .ok (.iload 4, 2) := by decide +kernel
theorem d4_22 : decode prog_120_method_1_code 22 = .ok (.putfield 20, 3) := by decide +kernel
theorem d4_25 : decode prog_120_method_1_code 25 = .ok (.return_, 1) := by decide +kernel
theorem pn4 : plainName "com/example/orrery/orrery/types/SqlType" = true := by first | (simp [plainName, overriddenIn]; done) | decide +kernel
theorem pd4_0 : parseMethodDescriptor "()V" = some ⟨[], none⟩ := by decide +kernel
theorem ef4 (m : MethodId) (x0 : Addr) (x1 : Addr) (x2 : Int32) (x3 : Int32) (x4 : Int32) : entryFrame m #[(.ref x0), (.ref x1), (.int x2), (.int x3), (.int x4)] 5 = mkF m 0 #[.val (.ref x0), .val (.ref x1), .val (.int x2), .val (.int x3), .val (.int x4)] [] := by first | (simp [entryFrame, mkF, argsToLocals, Value.category]; done) | rfl
def Q4 (Z : State) (a : Addr) (k : Addr) (x : Int32) (y : Int32) (z : Int32) (h0 : Heap) (n0 : Nat) (v : Option Value) (h : Heap) (L : List Loc) : Prop := v = none ∧ Fr n0 L ∧ Keep h0 h [a] ∧ Exa Z h a "com/example/orrery/orrery/types/SqlType" ∧ Fld Z h a "com/example/orrery/orrery/types/SqlType" "kind" "Lcom/example/orrery/orrery/types/SqlType$Kind;" (.ref k)
set_option maxRecDepth 65536 in
set_option maxHeartbeats 40000000 in
theorem rm4 (l : Launch) (Z : State) (a0 : Array Value) (hw : ∀ d ∈ tables_1, d.before a0 Z = true) (ws : List Jvm.Cond) (a : Addr) (k : Addr) (x : Int32) (y : Int32) (z : Int32) (h0 : Heap) (n0 : Nat) (Z0 : n0 ≤ h0.size) (E_a : Exa Z h0 a "com/example/orrery/orrery/types/SqlType") (F_kind : Fld Z h0 a "com/example/orrery/orrery/types/SqlType" "kind" "Lcom/example/orrery/orrery/types/SqlType$Kind;" .null) (F_precision : Fld Z h0 a "com/example/orrery/orrery/types/SqlType" "precision" "I" (.int (0 : Int32))) (F_scale : Fld Z h0 a "com/example/orrery/orrery/types/SqlType" "scale" "I" (.int (0 : Int32))) (F_length : Fld Z h0 a "com/example/orrery/orrery/types/SqlType" "length" "I" (.int (0 : Int32))) (g_a : n0 ≤ a) :
    MetFree l (⟨"com/example/orrery/orrery/types/SqlType", "<init>", "(Lcom/example/orrery/orrery/types/SqlType$Kind;III)V"⟩ : MethodName) (head1 (Jvm.Cond.code (⟨"com/example/orrery/orrery/types/SqlType", "<init>", "(Lcom/example/orrery/orrery/types/SqlType$Kind;III)V"⟩ : MethodName) prog_120_method_1_code 5 none :: ws) ({ frames := 2, cells := 0, slots := 0, locals := 24 } : Room)) (fun aq Uq => aq = #[(.ref a), (.ref k), (.int x), (.int y), (.int z)] ∧ Z.Warmed39 Uq.vm ∧ Uq.heap = h0) (fun _ _ _ _ _ => True) (fun _ Uq oq Uq' => ∃ vq Lq, oq = .returned vq ∧ Q4 Z a k x y z h0 n0 vq Uq'.heap Lq ∧ FrameEnd Uq oq Uq' Lq ({ frames := 2, cells := 0, slots := 0, locals := 24 } : Room).cells ({ frames := 2, cells := 0, slots := 0, locals := 24 } : Room).slots) := by
  refine MetFree.of_bodySF (plainFor_of_name pn4) hisR ?_
  intro p e s m args below meth c s₁ Bd hml0 hP hK
  obtain ⟨rfl, hZ, hh⟩ := hP
  have hx := Bd.exec
  have hby := Bd.bytes
  have hml : c.maxLocals = 5 := hml0
  have hown : s.vm.findClass "com/example/orrery/orrery/types/SqlType" = some m.cls := findClass_of_methodNamed Bd.named
  have hnm := (name_of_methodNamed Bd.named Bd.method).1
  have X0 : Stand p l e ({ frames := 2, cells := 0, slots := 0, locals := 24 } : Room) s m #[(.ref a), (.ref k), (.int x), (.int y), (.int z)] below meth c s₁ [] 0 0 := Stand.of_body Bd
  have e0 : s₁.heap = h0 := by rw [← hh, Bd.state]; rfl
  have N0 := Fr.nil n0
  obtain ⟨A, hA⟩ : ∃ A, A = s₁.setTop (entryFrame m #[(.ref a), (.ref k), (.int x), (.int y), (.int z)] 5) := ⟨_, rfl⟩
  rw [← hA]
  have g0 : Gz p.tables e below A s₁ (mkF m 0 #[.val (.ref a), .val (.ref k), .val (.int x), .val (.int y), .val (.int z)] []) := fun tq kq => by rw [hA]; exact castTop (ef4 m a k x y z) kq
  have KW0 := Keep.refl h0 [a]
  have g1 : Gz p.tables e below A s₁ (mkF m 1 #[.val (.ref a), .val (.ref k), .val (.int x), .val (.int y), .val (.int z)] [(.ref a)]) := fun tq kq => g0 tq (XS.aloadN X0.here hx rfl (hb hby d4_0) rfl rfl kq)
  obtain ⟨_, _, ⟨T2, L2, k2, n2⟩, -, X2, ⟨Lc2, hQ2, l2, y2, z2⟩, st2⟩ := X0.specialBack hx (y := (⟨"java/lang/Record", "<init>", "()V"⟩ : MethodName)) rfl hown (mvT hZ (hw _ (List.mem_of_getElem? (i := 14) rfl))) (mvT hZ (hw _ (List.mem_of_getElem? (i := 15) rfl))) (mvT hZ (hw _ (List.mem_of_getElem? (i := 18) rfl))) (by decide) (backOf (W := 0) (rm3 l Z a0 hw [] a h0 n0 Z0) hZ (hw _ (List.mem_of_getElem? (i := 18) rfl)) (hw _ (List.mem_of_getElem? (i := 17) rfl)) (by decide) (by decide)) (g := (mkF m 1 #[.val (.ref a), .val (.ref k), .val (.int x), .val (.int y), .val (.int z)] [(.ref a)])) rfl (by rw [hml]; rfl) (Steps.refl _) (a := a) (argsL := []) (rest := []) (lenOf pd4_0 rfl) rfl (by show 2 * 0 + _ ≤ _; exact Nat.le_of_eq rfl) (hb hby d4_1) (fun _ _ => ⟨rfl, e0, (by decide : 0 + 0 ≤ _), (by decide : 0 + 0 ≤ _)⟩)
  dsimp only [Pt.U, Pt.locs, Pt.cells, Pt.slots] at X2 l2 y2 z2 st2 hQ2
  subst l2 y2 z2
  obtain ⟨rfl, N2q, e2⟩ := hQ2
  have N2 := Fr.app N0 N2q
  have g3 : Gz p.tables e below A T2 (mkF m 4 #[.val (.ref a), .val (.ref k), .val (.int x), .val (.int y), .val (.int z)] []) := fun tq kq => g1 tq (st2.trans kq)
  have g4 : Gz p.tables e below A T2 (mkF m 5 #[.val (.ref a), .val (.ref k), .val (.int x), .val (.int y), .val (.int z)] [(.ref a)]) := fun tq kq => g3 tq (XS.aloadN X2.here hx rfl (hb hby d4_4) rfl rfl kq)
  have g5 : Gz p.tables e below A T2 (mkF m 6 #[.val (.ref a), .val (.ref k), .val (.int x), .val (.int y), .val (.int z)] [(.ref k), (.ref a)]) := fun tq kq => g4 tq (XS.aloadN X2.here hx rfl (hb hby d4_5) rfl rfl kq)
  obtain ⟨T6, h6, X6, e6, W6, st6⟩ := putF X2 hx hZ hown (host := "") (Or.inl (hw _ (List.mem_of_getElem? (i := 22) rfl))) Via.refl e2 F_kind E_a (Or.inr ⟨(hw _ (List.mem_of_getElem? (i := 23) rfl)), rfl, hnm⟩) (hw _ (List.mem_of_getElem? (i := 2) rfl)) (ty := (.object "com/example/orrery/orrery/types/SqlType$Kind")) (by decide) rfl rfl (g := (mkF m 6 #[.val (.ref a), .val (.ref k), .val (.int x), .val (.int y), .val (.int z)] [(.ref k), (.ref a)])) rfl rfl (hb hby d4_6)
  have KW7 := KW0.wr W6 (Or.inl (List.mem_of_getElem? (i := 0) rfl))
  have E_a := E_a.wr W6
  have F_kind := F_kind.same W6
  have F_precision := F_precision.other W6 (Or.inr (slot_ne (Or.inr (hw _ (List.mem_of_getElem? (i := 25) rfl))) (Or.inr (hw _ (List.mem_of_getElem? (i := 23) rfl))) (by decide) (t := .int) (t' := (.object "com/example/orrery/orrery/types/SqlType$Kind")) (by decide) (by decide)))
  have F_scale := F_scale.other W6 (Or.inr (slot_ne (Or.inr (hw _ (List.mem_of_getElem? (i := 27) rfl))) (Or.inr (hw _ (List.mem_of_getElem? (i := 23) rfl))) (by decide) (t := .int) (t' := (.object "com/example/orrery/orrery/types/SqlType$Kind")) (by decide) (by decide)))
  have F_length := F_length.other W6 (Or.inr (slot_ne (Or.inr (hw _ (List.mem_of_getElem? (i := 29) rfl))) (Or.inr (hw _ (List.mem_of_getElem? (i := 23) rfl))) (by decide) (t := .int) (t' := (.object "com/example/orrery/orrery/types/SqlType$Kind")) (by decide) (by decide)))
  have N6 := Fr.snoc X6 N2 g_a
  have g8 : Gz p.tables e below A T6 (mkF m 9 #[.val (.ref a), .val (.ref k), .val (.int x), .val (.int y), .val (.int z)] []) := fun tq kq => g5 tq (st6 tq kq)
  have g9 : Gz p.tables e below A T6 (mkF m 10 #[.val (.ref a), .val (.ref k), .val (.int x), .val (.int y), .val (.int z)] [(.ref a)]) := fun tq kq => g8 tq (XS.aloadN X6.here hx rfl (hb hby d4_9) rfl rfl kq)
  have g10 : Gz p.tables e below A T6 (mkF m 11 #[.val (.ref a), .val (.ref k), .val (.int x), .val (.int y), .val (.int z)] [(.int x), (.ref a)]) := fun tq kq => g9 tq (XS.iloadN X6.here hx rfl (hb hby d4_10) rfl kq)
  obtain ⟨T11, h11, X11, e11, W11, st11⟩ := putF X6 hx hZ hown (host := "") (Or.inl (hw _ (List.mem_of_getElem? (i := 24) rfl))) Via.refl e6 F_precision E_a (Or.inr ⟨(hw _ (List.mem_of_getElem? (i := 25) rfl)), rfl, hnm⟩) (hw _ (List.mem_of_getElem? (i := 2) rfl)) (ty := .int) (by decide) rfl rfl (g := (mkF m 11 #[.val (.ref a), .val (.ref k), .val (.int x), .val (.int y), .val (.int z)] [(.int x), (.ref a)])) rfl rfl (hb hby d4_11)
  have KW12 := KW7.wr W11 (Or.inl (List.mem_of_getElem? (i := 0) rfl))
  have E_a := E_a.wr W11
  have F_kind := F_kind.other W11 (Or.inr (slot_ne (Or.inr (hw _ (List.mem_of_getElem? (i := 23) rfl))) (Or.inr (hw _ (List.mem_of_getElem? (i := 25) rfl))) (by decide) (t := (.object "com/example/orrery/orrery/types/SqlType$Kind")) (t' := .int) (by decide) (by decide)))
  have F_precision := F_precision.same W11
  have F_scale := F_scale.other W11 (Or.inr (slot_ne (Or.inr (hw _ (List.mem_of_getElem? (i := 27) rfl))) (Or.inr (hw _ (List.mem_of_getElem? (i := 25) rfl))) (by decide) (t := .int) (t' := .int) (by decide) (by decide)))
  have F_length := F_length.other W11 (Or.inr (slot_ne (Or.inr (hw _ (List.mem_of_getElem? (i := 29) rfl))) (Or.inr (hw _ (List.mem_of_getElem? (i := 25) rfl))) (by decide) (t := .int) (t' := .int) (by decide) (by decide)))
  have N11 := Fr.snoc X11 N6 g_a
  have g13 : Gz p.tables e below A T11 (mkF m 14 #[.val (.ref a), .val (.ref k), .val (.int x), .val (.int y), .val (.int z)] []) := fun tq kq => g10 tq (st11 tq kq)
  have g14 : Gz p.tables e below A T11 (mkF m 15 #[.val (.ref a), .val (.ref k), .val (.int x), .val (.int y), .val (.int z)] [(.ref a)]) := fun tq kq => g13 tq (XS.aloadN X11.here hx rfl (hb hby d4_14) rfl rfl kq)
  have g15 : Gz p.tables e below A T11 (mkF m 16 #[.val (.ref a), .val (.ref k), .val (.int x), .val (.int y), .val (.int z)] [(.int y), (.ref a)]) := fun tq kq => g14 tq (XS.iloadN X11.here hx rfl (hb hby d4_15) rfl kq)
  obtain ⟨T16, h16, X16, e16, W16, st16⟩ := putF X11 hx hZ hown (host := "") (Or.inl (hw _ (List.mem_of_getElem? (i := 26) rfl))) Via.refl e11 F_scale E_a (Or.inr ⟨(hw _ (List.mem_of_getElem? (i := 27) rfl)), rfl, hnm⟩) (hw _ (List.mem_of_getElem? (i := 2) rfl)) (ty := .int) (by decide) rfl rfl (g := (mkF m 16 #[.val (.ref a), .val (.ref k), .val (.int x), .val (.int y), .val (.int z)] [(.int y), (.ref a)])) rfl rfl (hb hby d4_16)
  have KW17 := KW12.wr W16 (Or.inl (List.mem_of_getElem? (i := 0) rfl))
  have E_a := E_a.wr W16
  have F_kind := F_kind.other W16 (Or.inr (slot_ne (Or.inr (hw _ (List.mem_of_getElem? (i := 23) rfl))) (Or.inr (hw _ (List.mem_of_getElem? (i := 27) rfl))) (by decide) (t := (.object "com/example/orrery/orrery/types/SqlType$Kind")) (t' := .int) (by decide) (by decide)))
  have F_precision := F_precision.other W16 (Or.inr (slot_ne (Or.inr (hw _ (List.mem_of_getElem? (i := 25) rfl))) (Or.inr (hw _ (List.mem_of_getElem? (i := 27) rfl))) (by decide) (t := .int) (t' := .int) (by decide) (by decide)))
  have F_scale := F_scale.same W16
  have F_length := F_length.other W16 (Or.inr (slot_ne (Or.inr (hw _ (List.mem_of_getElem? (i := 29) rfl))) (Or.inr (hw _ (List.mem_of_getElem? (i := 27) rfl))) (by decide) (t := .int) (t' := .int) (by decide) (by decide)))
  have N16 := Fr.snoc X16 N11 g_a
  have g18 : Gz p.tables e below A T16 (mkF m 19 #[.val (.ref a), .val (.ref k), .val (.int x), .val (.int y), .val (.int z)] []) := fun tq kq => g15 tq (st16 tq kq)
  have g19 : Gz p.tables e below A T16 (mkF m 20 #[.val (.ref a), .val (.ref k), .val (.int x), .val (.int y), .val (.int z)] [(.ref a)]) := fun tq kq => g18 tq (XS.aloadN X16.here hx rfl (hb hby d4_19) rfl rfl kq)
  have g20 : Gz p.tables e below A T16 (mkF m 22 #[.val (.ref a), .val (.ref k), .val (.int x), .val (.int y), .val (.int z)] [(.int z), (.ref a)]) := fun tq kq => g19 tq (XS.iload X16.here hx rfl (hb hby d4_20) rfl kq)
  obtain ⟨T21, h21, X21, e21, W21, st21⟩ := putF X16 hx hZ hown (host := "") (Or.inl (hw _ (List.mem_of_getElem? (i := 28) rfl))) Via.refl e16 F_length E_a (Or.inr ⟨(hw _ (List.mem_of_getElem? (i := 29) rfl)), rfl, hnm⟩) (hw _ (List.mem_of_getElem? (i := 2) rfl)) (ty := .int) (by decide) rfl rfl (g := (mkF m 22 #[.val (.ref a), .val (.ref k), .val (.int x), .val (.int y), .val (.int z)] [(.int z), (.ref a)])) rfl rfl (hb hby d4_22)
  have KW22 := KW17.wr W21 (Or.inl (List.mem_of_getElem? (i := 0) rfl))
  have E_a := E_a.wr W21
  have F_kind := F_kind.other W21 (Or.inr (slot_ne (Or.inr (hw _ (List.mem_of_getElem? (i := 23) rfl))) (Or.inr (hw _ (List.mem_of_getElem? (i := 29) rfl))) (by decide) (t := (.object "com/example/orrery/orrery/types/SqlType$Kind")) (t' := .int) (by decide) (by decide)))
  have F_precision := F_precision.other W21 (Or.inr (slot_ne (Or.inr (hw _ (List.mem_of_getElem? (i := 25) rfl))) (Or.inr (hw _ (List.mem_of_getElem? (i := 29) rfl))) (by decide) (t := .int) (t' := .int) (by decide) (by decide)))
  have F_scale := F_scale.other W21 (Or.inr (slot_ne (Or.inr (hw _ (List.mem_of_getElem? (i := 27) rfl))) (Or.inr (hw _ (List.mem_of_getElem? (i := 29) rfl))) (by decide) (t := .int) (t' := .int) (by decide) (by decide)))
  have F_length := F_length.same W21
  have N21 := Fr.snoc X21 N16 g_a
  have g23 : Gz p.tables e below A T21 (mkF m 25 #[.val (.ref a), .val (.ref k), .val (.int x), .val (.int y), .val (.int z)] []) := fun tq kq => g20 tq (st21 tq kq)
  obtain ⟨fs, hr, hrun, hended, hW, hsame⟩ := X21.leave (v := none) (fun _ => rfl)
  refine ⟨_, _, g23 _ (X21.returnOut hx Bd.returns (hb hby d4_25) hr), hrun, hended, _, _, rfl, ?_, ⟨_, rfl⟩, hW, hsame.mono (by decide) (by decide)⟩
  show Q4 Z a k x y z h0 n0 _ T21.heap _
  rw [e21]
  exact ⟨rfl, N21, KW22, E_a, F_kind⟩

theorem d5_0 : decode prog_120_method_8_code 0 = .ok (.aload_n 0, 1) := by decide +kernel
theorem d5_1 : decode prog_120_method_8_code 1 = .ok (.getfield 7, 3) := by decide +kernel
theorem d5_4 : decode prog_120_method_8_code 4 = .ok (.getfield 172, 3) := by decide +kernel
theorem d5_7 : decode prog_120_method_8_code 7 = .ok (.aload_n 1, 1) := by decide +kernel
theorem d5_8 : decode prog_120_method_8_code 8 = .ok (.getfield 7, 3) := by decide +kernel
theorem d5_11 : decode prog_120_method_8_code 11 = .ok (.getfield 172, 3) := by decide +kernel
theorem d5_14 : decode prog_120_method_8_code 14 = .ok (.if_acmp .ne 7, 3) := by decide +kernel
theorem d5_17 : decode prog_120_method_8_code 17 = .ok (.iconst 1, 1) := by decide +kernel
theorem d5_18 : decode prog_120_method_8_code 18 = .ok (.goto 4, 3) := by decide +kernel
theorem d5_21 : decode prog_120_method_8_code 21 = .ok (.iconst 0, 1) := by decide +kernel
theorem d5_22 : decode prog_120_method_8_code 22 = .ok (.ireturn, 1) := by decide +kernel
theorem pn5 : plainName "com/example/orrery/orrery/types/SqlType" = true := by first | (simp [plainName, overriddenIn]; done) | decide +kernel
theorem ef5 (m : MethodId) (x0 : Addr) (x1 : Addr) : entryFrame m #[(.ref x0), (.ref x1)] 2 = mkF m 0 #[.val (.ref x0), .val (.ref x1)] [] := by first | (simp [entryFrame, mkF, argsToLocals, Value.category]; done) | rfl
def Q5 (Z : State) (a : Addr) (b : Addr) (ka : Addr) (kb : Addr) (fa : Addr) (fb : Addr) (bb : Int32) (h0 : Heap) (n0 : Nat) (v : Option Value) (h : Heap) (L : List Loc) : Prop := v = some (.int bb) ∧ Fr n0 L ∧ h = h0
set_option maxRecDepth 65536 in
set_option maxHeartbeats 40000000 in
theorem rm5 (l : Launch) (Z : State) (a0 : Array Value) (hw : ∀ d ∈ tables_1, d.before a0 Z = true) (ws : List Jvm.Cond) (a : Addr) (b : Addr) (ka : Addr) (kb : Addr) (fa : Addr) (fb : Addr) (bb : Int32) (h0 : Heap) (n0 : Nat) (Z0 : n0 ≤ h0.size) (Fa : Fld Z h0 a "com/example/orrery/orrery/types/SqlType" "kind" "Lcom/example/orrery/orrery/types/SqlType$Kind;" (.ref ka)) (Fb : Fld Z h0 b "com/example/orrery/orrery/types/SqlType" "kind" "Lcom/example/orrery/orrery/types/SqlType$Kind;" (.ref kb)) (Ga : Fld Z h0 ka "com/example/orrery/orrery/types/SqlType$Kind" "family" "Lcom/example/orrery/orrery/types/SqlType$Family;" (.ref fa)) (Gb : Fld Z h0 kb "com/example/orrery/orrery/types/SqlType$Kind" "family" "Lcom/example/orrery/orrery/types/SqlType$Family;" (.ref fb)) (hbb : (fa = fb ∧ bb = 1) ∨ (¬ fa = fb ∧ bb = 0)) :
    MetFree l (⟨"com/example/orrery/orrery/types/SqlType", "comparableWith", "(Lcom/example/orrery/orrery/types/SqlType;)Z"⟩ : MethodName) (head1 (Jvm.Cond.code (⟨"com/example/orrery/orrery/types/SqlType", "comparableWith", "(Lcom/example/orrery/orrery/types/SqlType;)Z"⟩ : MethodName) prog_120_method_8_code 2 (some .boolean) :: ws) ({ frames := 0, cells := 0, slots := 0, locals := 0 } : Room)) (fun aq Uq => aq = #[(.ref a), (.ref b)] ∧ Z.Warmed39 Uq.vm ∧ Uq.heap = h0) (fun _ _ _ _ _ => True) (fun _ Uq oq Uq' => ∃ vq Lq, oq = .returned vq ∧ Q5 Z a b ka kb fa fb bb h0 n0 vq Uq'.heap Lq ∧ FrameEnd Uq oq Uq' Lq ({ frames := 0, cells := 0, slots := 0, locals := 0 } : Room).cells ({ frames := 0, cells := 0, slots := 0, locals := 0 } : Room).slots) := by
  refine MetFree.of_bodySF (plainFor_of_name pn5) hisR ?_
  intro p e s m args below meth c s₁ Bd hml0 hP hK
  obtain ⟨rfl, hZ, hh⟩ := hP
  have hx := Bd.exec
  have hby := Bd.bytes
  have hml : c.maxLocals = 2 := hml0
  have hown : s.vm.findClass "com/example/orrery/orrery/types/SqlType" = some m.cls := findClass_of_methodNamed Bd.named
  have hnm := (name_of_methodNamed Bd.named Bd.method).1
  have X0 : Stand p l e ({ frames := 0, cells := 0, slots := 0, locals := 0 } : Room) s m #[(.ref a), (.ref b)] below meth c s₁ [] 0 0 := Stand.of_body Bd
  have e0 : s₁.heap = h0 := by rw [← hh, Bd.state]; rfl
  have N0 := Fr.nil n0
  obtain ⟨A, hA⟩ : ∃ A, A = s₁.setTop (entryFrame m #[(.ref a), (.ref b)] 2) := ⟨_, rfl⟩
  rw [← hA]
  have g0 : Gz p.tables e below A s₁ (mkF m 0 #[.val (.ref a), .val (.ref b)] []) := fun tq kq => by rw [hA]; exact castTop (ef5 m a b) kq
  have g1 : Gz p.tables e below A s₁ (mkF m 1 #[.val (.ref a), .val (.ref b)] [(.ref a)]) := fun tq kq => g0 tq (XS.aloadN X0.here hx rfl (hb hby d5_0) rfl rfl kq)
  obtain ⟨T2, X2, e2, st2⟩ := getF X0 hx hZ hown (host := "") (Or.inl (hw _ (List.mem_of_getElem? (i := 22) rfl))) Via.refl e0 Fa (g := (mkF m 1 #[.val (.ref a), .val (.ref b)] [(.ref a)])) rfl rfl (hb hby d5_1)
  have g3 : Gz p.tables e below A T2 (mkF m 4 #[.val (.ref a), .val (.ref b)] [(.ref ka)]) := fun tq kq => g1 tq (st2 tq kq)
  have g4 : Gz p.tables e below A T2 (mkF m 7 #[.val (.ref a), .val (.ref b)] [(.ref fa)]) := fun tq kq => g3 tq (own_getR X2 hx hZ hown (hw _ (List.mem_of_getElem? (i := 40) rfl)) e2 Ga (g := (mkF m 4 #[.val (.ref a), .val (.ref b)] [(.ref ka)])) rfl rfl (hb hby d5_4) tq kq)
  have g5 : Gz p.tables e below A T2 (mkF m 8 #[.val (.ref a), .val (.ref b)] [(.ref b), (.ref fa)]) := fun tq kq => g4 tq (XS.aloadN X2.here hx rfl (hb hby d5_7) rfl rfl kq)
  obtain ⟨T6, X6, e6, st6⟩ := getF X2 hx hZ hown (host := "") (Or.inl (hw _ (List.mem_of_getElem? (i := 22) rfl))) Via.refl e2 Fb (g := (mkF m 8 #[.val (.ref a), .val (.ref b)] [(.ref b), (.ref fa)])) rfl rfl (hb hby d5_8)
  have g7 : Gz p.tables e below A T6 (mkF m 11 #[.val (.ref a), .val (.ref b)] [(.ref kb), (.ref fa)]) := fun tq kq => g5 tq (st6 tq kq)
  have g8 : Gz p.tables e below A T6 (mkF m 14 #[.val (.ref a), .val (.ref b)] [(.ref fb), (.ref fa)]) := fun tq kq => g7 tq (own_getR X6 hx hZ hown (hw _ (List.mem_of_getElem? (i := 40) rfl)) e6 Gb (g := (mkF m 11 #[.val (.ref a), .val (.ref b)] [(.ref kb), (.ref fa)])) rfl rfl (hb hby d5_11) tq kq)
  by_cases hc14 : fa = fb
  · have g9 : Gz p.tables e below A T6 (mkF m 17 #[.val (.ref a), .val (.ref b)] []) := fun tq kq => g8 tq (Jvm.RoadKit.acmp (g := (mkF m 14 #[.val (.ref a), .val (.ref b)] [(.ref fb), (.ref fa)])) X6 hx rfl rfl rfl (pc0 := 14) (pc' := 17) (same := true) rfl (hb hby d5_14) rfl (decide_eq_true (congrArg Value.ref hc14)) (by decide) (by decide) kq)
    have g10 : Gz p.tables e below A T6 (mkF m 18 #[.val (.ref a), .val (.ref b)] [(.int (1 : Int32))]) := fun tq kq => g9 tq (XS.iconst X6.here hx rfl (hb hby d5_17) kq)
    have g11 : Gz p.tables e below A T6 (mkF m 22 #[.val (.ref a), .val (.ref b)] [(.int (1 : Int32))]) := fun tq kq => g10 tq (XS.goto X6.here hx rfl (pc0 := 18) (pc' := 22) rfl (hb hby d5_18) (by decide) (by decide) kq)
    obtain ⟨fs, hr, hrun, hended, hW, hsame⟩ := X6.leave (v := some (.int (1 : Int32))) (fun h => by rw [Bd.returns] at h; cases h)
    refine ⟨_, _, g11 _ (retN X6 hx (t := .boolean) Bd.returns (by simp) (hb hby d5_22) hr), hrun, hended, _, _, rfl, ?_, ⟨_, rfl⟩, hW, hsame.mono (by decide) (by decide)⟩
    show Q5 Z a b ka kb fa fb bb h0 n0 _ T6.heap _
    rw [e6]
    obtain rfl : bb = 1 := (hbb.resolve_right (fun z => z.1 hc14)).2
    exact ⟨rfl, N0, rfl⟩
  · have g12 : Gz p.tables e below A T6 (mkF m 21 #[.val (.ref a), .val (.ref b)] []) := fun tq kq => g8 tq (Jvm.RoadKit.acmp (g := (mkF m 14 #[.val (.ref a), .val (.ref b)] [(.ref fb), (.ref fa)])) X6 hx rfl rfl rfl (pc0 := 14) (pc' := 21) (same := false) rfl (hb hby d5_14) rfl (decide_eq_false fun q => hc14 (Value.ref.inj q)) (by decide) (by decide) kq)
    have g13 : Gz p.tables e below A T6 (mkF m 22 #[.val (.ref a), .val (.ref b)] [(.int (0 : Int32))]) := fun tq kq => g12 tq (XS.iconst X6.here hx rfl (hb hby d5_21) kq)
    obtain ⟨fs, hr, hrun, hended, hW, hsame⟩ := X6.leave (v := some (.int (0 : Int32))) (fun h => by rw [Bd.returns] at h; cases h)
    refine ⟨_, _, g13 _ (retN X6 hx (t := .boolean) Bd.returns (by simp) (hb hby d5_22) hr), hrun, hended, _, _, rfl, ?_, ⟨_, rfl⟩, hW, hsame.mono (by decide) (by decide)⟩
    show Q5 Z a b ka kb fa fb bb h0 n0 _ T6.heap _
    rw [e6]
    obtain rfl : bb = 0 := (hbb.resolve_left (fun z => hc14 z.1)).2
    exact ⟨rfl, N0, rfl⟩

theorem pn0 : plainName "com/example/orrery/orrery/types/SqlTypeComparableWithPinLaw" = true := by first | (simp [plainName, overriddenIn]; done) | decide +kernel
theorem pd0_0 : parseMethodDescriptor "(I)Lcom/example/orrery/orrery/types/SqlType$Kind;" = some ⟨[.int], some (.object "com/example/orrery/orrery/types/SqlType$Kind")⟩ := by decide +kernel
theorem pd0_1 : parseMethodDescriptor "(Lcom/example/orrery/orrery/types/SqlType$Kind;III)V" = some ⟨[(.object "com/example/orrery/orrery/types/SqlType$Kind"), .int, .int, .int], none⟩ := by decide +kernel
theorem pd0_2 : parseMethodDescriptor "(I)I" = some ⟨[.int], some .int⟩ := by decide +kernel
theorem pd0_3 : parseMethodDescriptor "(Lcom/example/orrery/orrery/types/SqlType;)Z" = some ⟨[(.object "com/example/orrery/orrery/types/SqlType")], some .boolean⟩ := by decide +kernel
theorem ef0 (m : MethodId) (x0 : Int32) (x1 : Int32) (x2 : Int32) (x3 : Int32) (x4 : Int32) (x5 : Int32) : entryFrame m #[(.int x0), (.int x1), (.int x2), (.int x3), (.int x4), (.int x5)] maxLocals = mkF m 0 #[.val (.int x0), .val (.int x1), .val (.int x2), .val (.int x3), .val (.int x4), .val (.int x5), .unset, .unset, .unset, .unset, .unset] [] := by first | (simp [entryFrame, mkF, argsToLocals, Value.category, maxLocals]; done) | rfl
def Q0 (Z : State) (p0 : Int32) (p1 : Int32) (p2 : Int32) (p3 : Int32) (p4 : Int32) (p5 : Int32) (w : Nat → Addr) (f : Nat → Addr) (iva : Int32) (ivb : Int32) (h0 : Heap) (n0 : Nat) (v : Option Value) (h : Heap) (L : List Loc) : Prop := v = some (.int 1) ∧ Fr n0 L
set_option maxRecDepth 65536 in
set_option maxHeartbeats 40000000 in
theorem rm0 (l : Launch) (Z : State) (a0 : Array Value) (hw : ∀ d ∈ tables_1, d.before a0 Z = true) (ws : List Jvm.Cond) (p0 : Int32) (p1 : Int32) (p2 : Int32) (p3 : Int32) (p4 : Int32) (p5 : Int32) (w : Nat → Addr) (f : Nat → Addr) (iva : Int32) (ivb : Int32) (h0 : Heap) (n0 : Nat) (Z0 : n0 ≤ h0.size) (S_BIGINT : Sta Z h0 "com/example/orrery/orrery/types/SqlType$Kind" "BIGINT" "Lcom/example/orrery/orrery/types/SqlType$Kind;" (.ref (w 0))) (S_INTEGER : Sta Z h0 "com/example/orrery/orrery/types/SqlType$Kind" "INTEGER" "Lcom/example/orrery/orrery/types/SqlType$Kind;" (.ref (w 1))) (S_DECIMAL : Sta Z h0 "com/example/orrery/orrery/types/SqlType$Kind" "DECIMAL" "Lcom/example/orrery/orrery/types/SqlType$Kind;" (.ref (w 2))) (S_DATE : Sta Z h0 "com/example/orrery/orrery/types/SqlType$Kind" "DATE" "Lcom/example/orrery/orrery/types/SqlType$Kind;" (.ref (w 3))) (S_CHAR : Sta Z h0 "com/example/orrery/orrery/types/SqlType$Kind" "CHAR" "Lcom/example/orrery/orrery/types/SqlType$Kind;" (.ref (w 4))) (S_VARCHAR : Sta Z h0 "com/example/orrery/orrery/types/SqlType$Kind" "VARCHAR" "Lcom/example/orrery/orrery/types/SqlType$Kind;" (.ref (w 5))) (hiva : (p0 &&& (2147483647 : Int32)) % (6 : Int32) = iva) (hivb : (p1 &&& (2147483647 : Int32)) % (6 : Int32) = ivb) (hloa : 0 ≤ iva.toInt) (hhia : iva.toInt < 6) (hlob : 0 ≤ ivb.toInt) (hhib : ivb.toInt < 6) (hG : ∀ j, j < 6 → Fld Z h0 (w j) "com/example/orrery/orrery/types/SqlType$Kind" "family" "Lcom/example/orrery/orrery/types/SqlType$Family;" (.ref (f j))) (hfam : ∀ i j, i < 6 → j < 6 → (f i = f j ↔ own_fam i = own_fam j)) :
    MetFree l x (head1 (Jvm.Cond.code x code maxLocals ret :: ws) room_1) (fun aq Uq => aq = #[(.int p0), (.int p1), (.int p2), (.int p3), (.int p4), (.int p5)] ∧ Z.Warmed39 Uq.vm ∧ Uq.heap = h0) (fun _ _ _ _ _ => True) (fun _ Uq oq Uq' => ∃ vq Lq, oq = .returned vq ∧ Q0 Z p0 p1 p2 p3 p4 p5 w f iva ivb h0 n0 vq Uq'.heap Lq ∧ FrameEnd Uq oq Uq' Lq room_1.cells room_1.slots) := by
  refine MetFree.of_bodySF (plainFor_of_name pn0) hisR ?_
  intro p e s m args below meth c s₁ Bd hml0 hP hK
  obtain ⟨rfl, hZ, hh⟩ := hP
  have hx := Bd.exec
  have hby := Bd.bytes
  have hml : c.maxLocals = 11 := hml0
  have hown : s.vm.findClass "com/example/orrery/orrery/types/SqlTypeComparableWithPinLaw" = some m.cls := findClass_of_methodNamed Bd.named
  have hnm := (name_of_methodNamed Bd.named Bd.method).1
  have X0 : Stand p l e room_1 s m #[(.int p0), (.int p1), (.int p2), (.int p3), (.int p4), (.int p5)] below meth c s₁ [] 0 0 := Stand.of_body Bd
  have e0 : s₁.heap = h0 := by rw [← hh, Bd.state]; rfl
  have N0 := Fr.nil n0
  obtain ⟨A, hA⟩ : ∃ A, A = s₁.setTop (entryFrame m #[(.int p0), (.int p1), (.int p2), (.int p3), (.int p4), (.int p5)] maxLocals) := ⟨_, rfl⟩
  rw [← hA]
  have g0 : Gz p.tables e below A s₁ (mkF m 0 #[.val (.int p0), .val (.int p1), .val (.int p2), .val (.int p3), .val (.int p4), .val (.int p5), .unset, .unset, .unset, .unset, .unset] []) := fun tq kq => by rw [hA]; exact castTop (ef0 m p0 p1 p2 p3 p4 p5) kq
  have g1 : Gz p.tables e below A s₁ (mkF m 1 #[.val (.int p0), .val (.int p1), .val (.int p2), .val (.int p3), .val (.int p4), .val (.int p5), .unset, .unset, .unset, .unset, .unset] [(.int p0)]) := fun tq kq => g0 tq (XS.iloadN X0.here hx rfl (hb hby at_0) rfl kq)
  have g2 : Gz p.tables e below A s₁ (mkF m 3 #[.val (.int p0), .val (.int p1), .val (.int p2), .val (.int p3), .val (.int p4), .val (.int p5), .unset, .unset, .unset, .unset, .unset] [(.int (2147483647 : Int32)), (.int p0)]) := fun tq kq => g1 tq (X0.ldcInt hx hown (mvT hZ (hw _ (List.mem_of_getElem? (i := 0) rfl))) (g := (mkF m 1 #[.val (.int p0), .val (.int p1), .val (.int p2), .val (.int p3), .val (.int p4), .val (.int p5), .unset, .unset, .unset, .unset, .unset] [(.int p0)])) rfl (hb hby at_1) _ kq)
  have g3 : Gz p.tables e below A s₁ (mkF m 4 #[.val (.int p0), .val (.int p1), .val (.int p2), .val (.int p3), .val (.int p4), .val (.int p5), .unset, .unset, .unset, .unset, .unset] [(.int (p0 &&& (2147483647 : Int32)))]) := fun tq kq => g2 tq (XS.iand X0.here hx rfl (hb hby at_3) rfl kq)
  have g4 : Gz p.tables e below A s₁ (mkF m 6 #[.val (.int p0), .val (.int p1), .val (.int p2), .val (.int p3), .val (.int p4), .val (.int p5), .unset, .unset, .unset, .unset, .unset] [(.int (6 : Int32)), (.int (p0 &&& (2147483647 : Int32)))]) := fun tq kq => g3 tq (XS.bipush X0.here hx rfl (hb hby at_4) kq)
  have g5 : Gz p.tables e below A s₁ (mkF m 7 #[.val (.int p0), .val (.int p1), .val (.int p2), .val (.int p3), .val (.int p4), .val (.int p5), .unset, .unset, .unset, .unset, .unset] [(.int ((p0 &&& (2147483647 : Int32)) % (6 : Int32)))]) := fun tq kq => g4 tq (iremM X0 hx rfl (hb hby at_6) rfl (by decide) kq)
  rw [hiva] at g5
  have g6 : Gz p.tables e below A s₁ (mkF m 9 #[.val (.int p0), .val (.int p1), .val (.int p2), .val (.int p3), .val (.int p4), .val (.int p5), .val (.int iva), .unset, .unset, .unset, .unset] []) := fun tq kq => g5 tq (XS.istore X0.here hx rfl (hb hby at_7) rfl (l' := #[.val (.int p0), .val (.int p1), .val (.int p2), .val (.int p3), .val (.int p4), .val (.int p5), .val (.int iva), .unset, .unset, .unset, .unset]) rfl kq)
  have g7 : Gz p.tables e below A s₁ (mkF m 10 #[.val (.int p0), .val (.int p1), .val (.int p2), .val (.int p3), .val (.int p4), .val (.int p5), .val (.int iva), .unset, .unset, .unset, .unset] [(.int p1)]) := fun tq kq => g6 tq (XS.iloadN X0.here hx rfl (hb hby at_9) rfl kq)
  have g8 : Gz p.tables e below A s₁ (mkF m 12 #[.val (.int p0), .val (.int p1), .val (.int p2), .val (.int p3), .val (.int p4), .val (.int p5), .val (.int iva), .unset, .unset, .unset, .unset] [(.int (2147483647 : Int32)), (.int p1)]) := fun tq kq => g7 tq (X0.ldcInt hx hown (mvT hZ (hw _ (List.mem_of_getElem? (i := 0) rfl))) (g := (mkF m 10 #[.val (.int p0), .val (.int p1), .val (.int p2), .val (.int p3), .val (.int p4), .val (.int p5), .val (.int iva), .unset, .unset, .unset, .unset] [(.int p1)])) rfl (hb hby at_10) _ kq)
  have g9 : Gz p.tables e below A s₁ (mkF m 13 #[.val (.int p0), .val (.int p1), .val (.int p2), .val (.int p3), .val (.int p4), .val (.int p5), .val (.int iva), .unset, .unset, .unset, .unset] [(.int (p1 &&& (2147483647 : Int32)))]) := fun tq kq => g8 tq (XS.iand X0.here hx rfl (hb hby at_12) rfl kq)
  have g10 : Gz p.tables e below A s₁ (mkF m 15 #[.val (.int p0), .val (.int p1), .val (.int p2), .val (.int p3), .val (.int p4), .val (.int p5), .val (.int iva), .unset, .unset, .unset, .unset] [(.int (6 : Int32)), (.int (p1 &&& (2147483647 : Int32)))]) := fun tq kq => g9 tq (XS.bipush X0.here hx rfl (hb hby at_13) kq)
  have g11 : Gz p.tables e below A s₁ (mkF m 16 #[.val (.int p0), .val (.int p1), .val (.int p2), .val (.int p3), .val (.int p4), .val (.int p5), .val (.int iva), .unset, .unset, .unset, .unset] [(.int ((p1 &&& (2147483647 : Int32)) % (6 : Int32)))]) := fun tq kq => g10 tq (iremM X0 hx rfl (hb hby at_15) rfl (by decide) kq)
  rw [hivb] at g11
  have g12 : Gz p.tables e below A s₁ (mkF m 18 #[.val (.int p0), .val (.int p1), .val (.int p2), .val (.int p3), .val (.int p4), .val (.int p5), .val (.int iva), .val (.int ivb), .unset, .unset, .unset] []) := fun tq kq => g11 tq (XS.istore X0.here hx rfl (hb hby at_16) rfl (l' := #[.val (.int p0), .val (.int p1), .val (.int p2), .val (.int p3), .val (.int p4), .val (.int p5), .val (.int iva), .val (.int ivb), .unset, .unset, .unset]) rfl kq)
  obtain ⟨T13, h13, X13, e13, E13, A13, D13, -, st13⟩ := newO X0 hx hZ hown (hw _ (List.mem_of_getElem? (i := 1) rfl)) (hw _ (List.mem_of_getElem? (i := 2) rfl)) (hw _ (List.mem_of_getElem? (i := 3) rfl)) e0 (g := (mkF m 18 #[.val (.int p0), .val (.int p1), .val (.int p2), .val (.int p3), .val (.int p4), .val (.int p5), .val (.int iva), .val (.int ivb), .unset, .unset, .unset] [])) rfl (hb hby at_18) (by decide) (by decide)
  obtain ⟨b13, gb13⟩ : ∃ z, z = h0.size := ⟨_, rfl⟩
  rw [← gb13] at A13 D13 st13
  have sz_b13 : h0.size ≤ b13 := Nat.le_of_eq gb13.symm
  have g_b13 : n0 ≤ b13 := Nat.le_trans Z0 sz_b13
  have K14 := E13
  have F_kind_b13 : Fld Z h13 b13 "com/example/orrery/orrery/types/SqlType" "kind" "Lcom/example/orrery/orrery/types/SqlType$Kind;" .null := D13 (Or.inr (hw _ (List.mem_of_getElem? (i := 23) rfl))) (ty := (.object "com/example/orrery/orrery/types/SqlType$Kind")) (by decide)
  have F_precision_b13 : Fld Z h13 b13 "com/example/orrery/orrery/types/SqlType" "precision" "I" (.int (0 : Int32)) := D13 (Or.inr (hw _ (List.mem_of_getElem? (i := 25) rfl))) (ty := .int) (by decide)
  have F_scale_b13 : Fld Z h13 b13 "com/example/orrery/orrery/types/SqlType" "scale" "I" (.int (0 : Int32)) := D13 (Or.inr (hw _ (List.mem_of_getElem? (i := 27) rfl))) (ty := .int) (by decide)
  have F_length_b13 : Fld Z h13 b13 "com/example/orrery/orrery/types/SqlType" "length" "I" (.int (0 : Int32)) := D13 (Or.inr (hw _ (List.mem_of_getElem? (i := 29) rfl))) (ty := .int) (by decide)
  have g15 : Gz p.tables e below A T13 (mkF m 21 #[.val (.int p0), .val (.int p1), .val (.int p2), .val (.int p3), .val (.int p4), .val (.int p5), .val (.int iva), .val (.int ivb), .unset, .unset, .unset] [(.ref b13)]) := fun tq kq => g12 tq (st13 tq kq)
  have g16 : Gz p.tables e below A T13 (mkF m 22 #[.val (.int p0), .val (.int p1), .val (.int p2), .val (.int p3), .val (.int p4), .val (.int p5), .val (.int iva), .val (.int ivb), .unset, .unset, .unset] [(.ref b13), (.ref b13)]) := fun tq kq => g15 tq (XS.dup X13.here hx rfl (hb hby at_21) rfl rfl kq)
  have g17 : Gz p.tables e below A T13 (mkF m 24 #[.val (.int p0), .val (.int p1), .val (.int p2), .val (.int p3), .val (.int p4), .val (.int p5), .val (.int iva), .val (.int ivb), .unset, .unset, .unset] [(.int iva), (.ref b13), (.ref b13)]) := fun tq kq => g16 tq (XS.iload X13.here hx rfl (hb hby at_22) rfl kq)
  obtain ⟨_, _, ⟨T18, L18, k18, n18⟩, -, X18, ⟨Lc18, hQ18, l18, y18, z18⟩, st18⟩ := Jvm.LawKit.callS X13 hx (y := (⟨"com/example/orrery/orrery/types/SqlTypeComparableWithPinLaw", "kindOf", "(I)Lcom/example/orrery/orrery/types/SqlType$Kind;"⟩ : MethodName)) hown (mvT hZ (hw _ (List.mem_of_getElem? (i := 4) rfl))) (mvT hZ (hw _ (List.mem_of_getElem? (i := 5) rfl))) (mvT hZ (hw _ (List.mem_of_getElem? (i := 6) rfl))) (mvT hZ (hw _ (List.mem_of_getElem? (i := 7) rfl))) (by decide) (backOf (W := 2) (rm1 l Z a0 hw [] iva w h13 n0 (Nat.le_trans Z0 K14.1) (S_BIGINT.ext K14) (S_INTEGER.ext K14) (S_DECIMAL.ext K14) (S_DATE.ext K14) (S_CHAR.ext K14) (S_VARCHAR.ext K14) hloa hhia) hZ (hw _ (List.mem_of_getElem? (i := 7) rfl)) (hw _ (List.mem_of_getElem? (i := 6) rfl)) (by decide) (by decide)) (g := (mkF m 24 #[.val (.int p0), .val (.int p1), .val (.int p2), .val (.int p3), .val (.int p4), .val (.int p5), .val (.int iva), .val (.int ivb), .unset, .unset, .unset] [(.int iva), (.ref b13), (.ref b13)])) rfl (by rw [hml]; rfl) (argsL := [(.int iva)]) (rest := [(.ref b13), (.ref b13)]) (lenOf pd0_0 rfl) rfl (by show 2 * 0 + _ ≤ _; exact Nat.le_of_eq rfl) (hb hby at_24) (fun _ _ => ⟨rfl, e13, (by decide : 1 + 0 ≤ _), (by decide : 4 + 0 ≤ _)⟩)
  dsimp only [Pt.U, Pt.locs, Pt.cells, Pt.slots] at X18 l18 y18 z18 st18 hQ18
  subst l18 y18 z18
  obtain ⟨ja, rfl, N18q, e18, hja, hija⟩ := hQ18
  have N18 := Fr.app N0 N18q
  have g19 : Gz p.tables e below A T18 (mkF m 27 #[.val (.int p0), .val (.int p1), .val (.int p2), .val (.int p3), .val (.int p4), .val (.int p5), .val (.int iva), .val (.int ivb), .unset, .unset, .unset] [(.ref (w ja)), (.ref b13), (.ref b13)]) := fun tq kq => g17 tq (st18 _ kq)
  have g20 : Gz p.tables e below A T18 (mkF m 28 #[.val (.int p0), .val (.int p1), .val (.int p2), .val (.int p3), .val (.int p4), .val (.int p5), .val (.int iva), .val (.int ivb), .unset, .unset, .unset] [(.int p2), (.ref (w ja)), (.ref b13), (.ref b13)]) := fun tq kq => g19 tq (XS.iloadN X18.here hx rfl (hb hby at_27) rfl kq)
  have g21 : Gz p.tables e below A T18 (mkF m 29 #[.val (.int p0), .val (.int p1), .val (.int p2), .val (.int p3), .val (.int p4), .val (.int p5), .val (.int iva), .val (.int ivb), .unset, .unset, .unset] [(.int p3), (.int p2), (.ref (w ja)), (.ref b13), (.ref b13)]) := fun tq kq => g20 tq (XS.iloadN X18.here hx rfl (hb hby at_28) rfl kq)
  have g22 : Gz p.tables e below A T18 (mkF m 31 #[.val (.int p0), .val (.int p1), .val (.int p2), .val (.int p3), .val (.int p4), .val (.int p5), .val (.int iva), .val (.int ivb), .unset, .unset, .unset] [(.int p4), (.int p3), (.int p2), (.ref (w ja)), (.ref b13), (.ref b13)]) := fun tq kq => g21 tq (XS.iload X18.here hx rfl (hb hby at_29) rfl kq)
  obtain ⟨_, _, ⟨T23, L23, k23, n23⟩, -, X23, ⟨Lc23, hQ23, l23, y23, z23⟩, st23⟩ := X18.specialBack hx (y := (⟨"com/example/orrery/orrery/types/SqlType", "<init>", "(Lcom/example/orrery/orrery/types/SqlType$Kind;III)V"⟩ : MethodName)) rfl hown (mvT hZ (hw _ (List.mem_of_getElem? (i := 11) rfl))) (mvT hZ (hw _ (List.mem_of_getElem? (i := 12) rfl))) (mvT hZ (hw _ (List.mem_of_getElem? (i := 13) rfl))) (by decide) (backOf (W := 1) (rm4 l Z a0 hw [] b13 (w ja) p2 p3 p4 h13 n0 (Nat.le_trans Z0 K14.1) A13 F_kind_b13 F_precision_b13 F_scale_b13 F_length_b13 g_b13) hZ (hw _ (List.mem_of_getElem? (i := 13) rfl)) (hw _ (List.mem_of_getElem? (i := 3) rfl)) (by decide) (by decide)) (g := (mkF m 31 #[.val (.int p0), .val (.int p1), .val (.int p2), .val (.int p3), .val (.int p4), .val (.int p5), .val (.int iva), .val (.int ivb), .unset, .unset, .unset] [(.int p4), (.int p3), (.int p2), (.ref (w ja)), (.ref b13), (.ref b13)])) rfl (by rw [hml]; rfl) (Steps.refl _) (a := b13) (argsL := [(.ref (w ja)), (.int p2), (.int p3), (.int p4)]) (rest := [(.ref b13)]) (lenOf pd0_1 rfl) rfl (by show 2 * 0 + _ ≤ _; exact Nat.le_of_eq rfl) (hb hby at_31) (fun _ _ => ⟨rfl, e18, (by decide : 1 + 0 ≤ _), (by decide : 4 + 0 ≤ _)⟩)
  dsimp only [Pt.U, Pt.locs, Pt.cells, Pt.slots] at X23 l23 y23 z23 st23 hQ23
  subst l23 y23 z23
  obtain ⟨rfl, N23q, KQ23, EQ23, FQ23⟩ := hQ23
  have N23 := Fr.app N18 N23q
  have g24 : Gz p.tables e below A T23 (mkF m 34 #[.val (.int p0), .val (.int p1), .val (.int p2), .val (.int p3), .val (.int p4), .val (.int p5), .val (.int iva), .val (.int ivb), .unset, .unset, .unset] [(.ref b13)]) := fun tq kq => g22 tq (st23.trans kq)
  have K25 := own_extK K14 KQ23 (allS sz_b13 all0)
  have g26 : Gz p.tables e below A T23 (mkF m 36 #[.val (.int p0), .val (.int p1), .val (.int p2), .val (.int p3), .val (.int p4), .val (.int p5), .val (.int iva), .val (.int ivb), .val (.ref b13), .unset, .unset] []) := fun tq kq => g24 tq (XS.astore X23.here hx rfl (hb hby at_34) rfl rfl (l' := #[.val (.int p0), .val (.int p1), .val (.int p2), .val (.int p3), .val (.int p4), .val (.int p5), .val (.int iva), .val (.int ivb), .val (.ref b13), .unset, .unset]) rfl kq)
  obtain ⟨T27, h27, X27, e27, E27, A27, D27, -, st27⟩ := newO X23 hx hZ hown (hw _ (List.mem_of_getElem? (i := 1) rfl)) (hw _ (List.mem_of_getElem? (i := 2) rfl)) (hw _ (List.mem_of_getElem? (i := 3) rfl)) rfl (g := (mkF m 36 #[.val (.int p0), .val (.int p1), .val (.int p2), .val (.int p3), .val (.int p4), .val (.int p5), .val (.int iva), .val (.int ivb), .val (.ref b13), .unset, .unset] [])) rfl (hb hby at_36) (by decide) (by decide)
  obtain ⟨b27, gb27⟩ : ∃ z, z = T23.heap.size := ⟨_, rfl⟩
  rw [← gb27] at A27 D27 st27
  have sz_b27 : h0.size ≤ b27 := Nat.le_trans K25.1 (Nat.le_of_eq gb27.symm)
  have g_b27 : n0 ≤ b27 := Nat.le_trans Z0 sz_b27
  have ne_b13_b27 : b13 ≠ b27 := Nat.ne_of_lt (Nat.lt_of_lt_of_le EQ23.lt (Nat.le_of_eq gb27.symm))
  have K28 := own_extE K25 E27
  have EQ23 := EQ23.ext E27
  have FQ23 := FQ23.ext E27
  have F_kind_b27 : Fld Z h27 b27 "com/example/orrery/orrery/types/SqlType" "kind" "Lcom/example/orrery/orrery/types/SqlType$Kind;" .null := D27 (Or.inr (hw _ (List.mem_of_getElem? (i := 23) rfl))) (ty := (.object "com/example/orrery/orrery/types/SqlType$Kind")) (by decide)
  have F_precision_b27 : Fld Z h27 b27 "com/example/orrery/orrery/types/SqlType" "precision" "I" (.int (0 : Int32)) := D27 (Or.inr (hw _ (List.mem_of_getElem? (i := 25) rfl))) (ty := .int) (by decide)
  have F_scale_b27 : Fld Z h27 b27 "com/example/orrery/orrery/types/SqlType" "scale" "I" (.int (0 : Int32)) := D27 (Or.inr (hw _ (List.mem_of_getElem? (i := 27) rfl))) (ty := .int) (by decide)
  have F_length_b27 : Fld Z h27 b27 "com/example/orrery/orrery/types/SqlType" "length" "I" (.int (0 : Int32)) := D27 (Or.inr (hw _ (List.mem_of_getElem? (i := 29) rfl))) (ty := .int) (by decide)
  have g29 : Gz p.tables e below A T27 (mkF m 39 #[.val (.int p0), .val (.int p1), .val (.int p2), .val (.int p3), .val (.int p4), .val (.int p5), .val (.int iva), .val (.int ivb), .val (.ref b13), .unset, .unset] [(.ref b27)]) := fun tq kq => g26 tq (st27 tq kq)
  have g30 : Gz p.tables e below A T27 (mkF m 40 #[.val (.int p0), .val (.int p1), .val (.int p2), .val (.int p3), .val (.int p4), .val (.int p5), .val (.int iva), .val (.int ivb), .val (.ref b13), .unset, .unset] [(.ref b27), (.ref b27)]) := fun tq kq => g29 tq (XS.dup X27.here hx rfl (hb hby at_39) rfl rfl kq)
  have g31 : Gz p.tables e below A T27 (mkF m 42 #[.val (.int p0), .val (.int p1), .val (.int p2), .val (.int p3), .val (.int p4), .val (.int p5), .val (.int iva), .val (.int ivb), .val (.ref b13), .unset, .unset] [(.int ivb), (.ref b27), (.ref b27)]) := fun tq kq => g30 tq (XS.iload X27.here hx rfl (hb hby at_40) rfl kq)
  obtain ⟨_, _, ⟨T32, L32, k32, n32⟩, -, X32, ⟨Lc32, hQ32, l32, y32, z32⟩, st32⟩ := Jvm.LawKit.callS X27 hx (y := (⟨"com/example/orrery/orrery/types/SqlTypeComparableWithPinLaw", "kindOf", "(I)Lcom/example/orrery/orrery/types/SqlType$Kind;"⟩ : MethodName)) hown (mvT hZ (hw _ (List.mem_of_getElem? (i := 4) rfl))) (mvT hZ (hw _ (List.mem_of_getElem? (i := 5) rfl))) (mvT hZ (hw _ (List.mem_of_getElem? (i := 6) rfl))) (mvT hZ (hw _ (List.mem_of_getElem? (i := 7) rfl))) (by decide) (backOf (W := 2) (rm1 l Z a0 hw [] ivb w h27 n0 (Nat.le_trans Z0 K28.1) (S_BIGINT.ext K28) (S_INTEGER.ext K28) (S_DECIMAL.ext K28) (S_DATE.ext K28) (S_CHAR.ext K28) (S_VARCHAR.ext K28) hlob hhib) hZ (hw _ (List.mem_of_getElem? (i := 7) rfl)) (hw _ (List.mem_of_getElem? (i := 6) rfl)) (by decide) (by decide)) (g := (mkF m 42 #[.val (.int p0), .val (.int p1), .val (.int p2), .val (.int p3), .val (.int p4), .val (.int p5), .val (.int iva), .val (.int ivb), .val (.ref b13), .unset, .unset] [(.int ivb), (.ref b27), (.ref b27)])) rfl (by rw [hml]; rfl) (argsL := [(.int ivb)]) (rest := [(.ref b27), (.ref b27)]) (lenOf pd0_0 rfl) rfl (by show 2 * 0 + _ ≤ _; exact Nat.le_of_eq rfl) (hb hby at_42) (fun _ _ => ⟨rfl, e27, (by decide : 2 + 0 ≤ _), (by decide : 8 + 0 ≤ _)⟩)
  dsimp only [Pt.U, Pt.locs, Pt.cells, Pt.slots] at X32 l32 y32 z32 st32 hQ32
  subst l32 y32 z32
  obtain ⟨jb, rfl, N32q, e32, hjb, hijb⟩ := hQ32
  have N32 := Fr.app N23 N32q
  have g33 : Gz p.tables e below A T32 (mkF m 45 #[.val (.int p0), .val (.int p1), .val (.int p2), .val (.int p3), .val (.int p4), .val (.int p5), .val (.int iva), .val (.int ivb), .val (.ref b13), .unset, .unset] [(.ref (w jb)), (.ref b27), (.ref b27)]) := fun tq kq => g31 tq (st32 _ kq)
  have g34 : Gz p.tables e below A T32 (mkF m 47 #[.val (.int p0), .val (.int p1), .val (.int p2), .val (.int p3), .val (.int p4), .val (.int p5), .val (.int iva), .val (.int ivb), .val (.ref b13), .unset, .unset] [(.int p5), (.ref (w jb)), (.ref b27), (.ref b27)]) := fun tq kq => g33 tq (XS.iload X32.here hx rfl (hb hby at_45) rfl kq)
  have g35 : Gz p.tables e below A T32 (mkF m 49 #[.val (.int p0), .val (.int p1), .val (.int p2), .val (.int p3), .val (.int p4), .val (.int p5), .val (.int iva), .val (.int ivb), .val (.ref b13), .unset, .unset] [(.int p4), (.int p5), (.ref (w jb)), (.ref b27), (.ref b27)]) := fun tq kq => g34 tq (XS.iload X32.here hx rfl (hb hby at_47) rfl kq)
  have g36 : Gz p.tables e below A T32 (mkF m 50 #[.val (.int p0), .val (.int p1), .val (.int p2), .val (.int p3), .val (.int p4), .val (.int p5), .val (.int iva), .val (.int ivb), .val (.ref b13), .unset, .unset] [(.int p2), (.int p4), (.int p5), (.ref (w jb)), (.ref b27), (.ref b27)]) := fun tq kq => g35 tq (XS.iloadN X32.here hx rfl (hb hby at_49) rfl kq)
  obtain ⟨_, _, ⟨T37, L37, k37, n37⟩, -, X37, ⟨Lc37, hQ37, l37, y37, z37⟩, st37⟩ := X32.specialBack hx (y := (⟨"com/example/orrery/orrery/types/SqlType", "<init>", "(Lcom/example/orrery/orrery/types/SqlType$Kind;III)V"⟩ : MethodName)) rfl hown (mvT hZ (hw _ (List.mem_of_getElem? (i := 11) rfl))) (mvT hZ (hw _ (List.mem_of_getElem? (i := 12) rfl))) (mvT hZ (hw _ (List.mem_of_getElem? (i := 13) rfl))) (by decide) (backOf (W := 1) (rm4 l Z a0 hw [] b27 (w jb) p5 p4 p2 h27 n0 (Nat.le_trans Z0 K28.1) A27 F_kind_b27 F_precision_b27 F_scale_b27 F_length_b27 g_b27) hZ (hw _ (List.mem_of_getElem? (i := 13) rfl)) (hw _ (List.mem_of_getElem? (i := 3) rfl)) (by decide) (by decide)) (g := (mkF m 50 #[.val (.int p0), .val (.int p1), .val (.int p2), .val (.int p3), .val (.int p4), .val (.int p5), .val (.int iva), .val (.int ivb), .val (.ref b13), .unset, .unset] [(.int p2), (.int p4), (.int p5), (.ref (w jb)), (.ref b27), (.ref b27)])) rfl (by rw [hml]; rfl) (Steps.refl _) (a := b27) (argsL := [(.ref (w jb)), (.int p5), (.int p4), (.int p2)]) (rest := [(.ref b27)]) (lenOf pd0_1 rfl) rfl (by show 2 * 0 + _ ≤ _; exact Nat.le_of_eq rfl) (hb hby at_50) (fun _ _ => ⟨rfl, e32, (by decide : 2 + 0 ≤ _), (by decide : 8 + 0 ≤ _)⟩)
  dsimp only [Pt.U, Pt.locs, Pt.cells, Pt.slots] at X37 l37 y37 z37 st37 hQ37
  subst l37 y37 z37
  obtain ⟨rfl, N37q, KQ37, EQ37, FQ37⟩ := hQ37
  have N37 := Fr.app N32 N37q
  have g38 : Gz p.tables e below A T37 (mkF m 53 #[.val (.int p0), .val (.int p1), .val (.int p2), .val (.int p3), .val (.int p4), .val (.int p5), .val (.int iva), .val (.int ivb), .val (.ref b13), .unset, .unset] [(.ref b27)]) := fun tq kq => g36 tq (st37.trans kq)
  have K39 := own_extK K28 KQ37 (allS sz_b27 all0)
  have EQ23 := EQ23.keep KQ37
  have FQ23 := FQ23.keep KQ37 (ninS ne_b13_b27 nin0)
  have g40 : Gz p.tables e below A T37 (mkF m 55 #[.val (.int p0), .val (.int p1), .val (.int p2), .val (.int p3), .val (.int p4), .val (.int p5), .val (.int iva), .val (.int ivb), .val (.ref b13), .val (.ref b27), .unset] []) := fun tq kq => g38 tq (XS.astore X37.here hx rfl (hb hby at_53) rfl rfl (l' := #[.val (.int p0), .val (.int p1), .val (.int p2), .val (.int p3), .val (.int p4), .val (.int p5), .val (.int iva), .val (.int ivb), .val (.ref b13), .val (.ref b27), .unset]) rfl kq)
  have g41 : Gz p.tables e below A T37 (mkF m 57 #[.val (.int p0), .val (.int p1), .val (.int p2), .val (.int p3), .val (.int p4), .val (.int p5), .val (.int iva), .val (.int ivb), .val (.ref b13), .val (.ref b27), .unset] [(.int iva)]) := fun tq kq => g40 tq (XS.iload X37.here hx rfl (hb hby at_55) rfl kq)
  obtain ⟨_, _, ⟨T42, L42, k42, n42⟩, -, X42, ⟨Lc42, hQ42, l42, y42, z42⟩, st42⟩ := Jvm.LawKit.callS X37 hx (y := (⟨"com/example/orrery/orrery/types/SqlTypeComparableWithPinLaw", "familyOf", "(I)I"⟩ : MethodName)) hown (mvT hZ (hw _ (List.mem_of_getElem? (i := 32) rfl))) (mvT hZ (hw _ (List.mem_of_getElem? (i := 33) rfl))) (mvT hZ (hw _ (List.mem_of_getElem? (i := 6) rfl))) (mvT hZ (hw _ (List.mem_of_getElem? (i := 34) rfl))) (by decide) (backOf (W := 0) (rm2 l Z a0 hw [] iva ja T37.heap n0 (Nat.le_trans Z0 K39.1) hija) hZ (hw _ (List.mem_of_getElem? (i := 34) rfl)) (hw _ (List.mem_of_getElem? (i := 6) rfl)) (by decide) (by decide)) (g := (mkF m 57 #[.val (.int p0), .val (.int p1), .val (.int p2), .val (.int p3), .val (.int p4), .val (.int p5), .val (.int iva), .val (.int ivb), .val (.ref b13), .val (.ref b27), .unset] [(.int iva)])) rfl (by rw [hml]; rfl) (argsL := [(.int iva)]) (rest := []) (lenOf pd0_2 rfl) rfl (by show 2 * 0 + _ ≤ _; exact Nat.le_of_eq rfl) (hb hby at_57) (fun _ _ => ⟨rfl, rfl, (by decide : 2 + 0 ≤ _), (by decide : 8 + 0 ≤ _)⟩)
  dsimp only [Pt.U, Pt.locs, Pt.cells, Pt.slots] at X42 l42 y42 z42 st42 hQ42
  subst l42 y42 z42
  obtain ⟨rfl, N42q, e42⟩ := hQ42
  have N42 := Fr.app N37 N42q
  have g43 : Gz p.tables e below A T42 (mkF m 60 #[.val (.int p0), .val (.int p1), .val (.int p2), .val (.int p3), .val (.int p4), .val (.int p5), .val (.int iva), .val (.int ivb), .val (.ref b13), .val (.ref b27), .unset] [(.int (own_fam ja))]) := fun tq kq => g41 tq (st42 _ kq)
  have g44 : Gz p.tables e below A T42 (mkF m 62 #[.val (.int p0), .val (.int p1), .val (.int p2), .val (.int p3), .val (.int p4), .val (.int p5), .val (.int iva), .val (.int ivb), .val (.ref b13), .val (.ref b27), .unset] [(.int ivb), (.int (own_fam ja))]) := fun tq kq => g43 tq (XS.iload X42.here hx rfl (hb hby at_60) rfl kq)
  obtain ⟨_, _, ⟨T45, L45, k45, n45⟩, -, X45, ⟨Lc45, hQ45, l45, y45, z45⟩, st45⟩ := Jvm.LawKit.callS X42 hx (y := (⟨"com/example/orrery/orrery/types/SqlTypeComparableWithPinLaw", "familyOf", "(I)I"⟩ : MethodName)) hown (mvT hZ (hw _ (List.mem_of_getElem? (i := 32) rfl))) (mvT hZ (hw _ (List.mem_of_getElem? (i := 33) rfl))) (mvT hZ (hw _ (List.mem_of_getElem? (i := 6) rfl))) (mvT hZ (hw _ (List.mem_of_getElem? (i := 34) rfl))) (by decide) (backOf (W := 1) (rm2 l Z a0 hw [] ivb jb T37.heap n0 (Nat.le_trans Z0 K39.1) hijb) hZ (hw _ (List.mem_of_getElem? (i := 34) rfl)) (hw _ (List.mem_of_getElem? (i := 6) rfl)) (by decide) (by decide)) (g := (mkF m 62 #[.val (.int p0), .val (.int p1), .val (.int p2), .val (.int p3), .val (.int p4), .val (.int p5), .val (.int iva), .val (.int ivb), .val (.ref b13), .val (.ref b27), .unset] [(.int ivb), (.int (own_fam ja))])) rfl (by rw [hml]; rfl) (argsL := [(.int ivb)]) (rest := [(.int (own_fam ja))]) (lenOf pd0_2 rfl) rfl (by show 2 * 0 + _ ≤ _; exact Nat.le_of_eq rfl) (hb hby at_62) (fun _ _ => ⟨rfl, e42, (by decide : 2 + 0 ≤ _), (by decide : 8 + 0 ≤ _)⟩)
  dsimp only [Pt.U, Pt.locs, Pt.cells, Pt.slots] at X45 l45 y45 z45 st45 hQ45
  subst l45 y45 z45
  obtain ⟨rfl, N45q, e45⟩ := hQ45
  have N45 := Fr.app N42 N45q
  have g46 : Gz p.tables e below A T45 (mkF m 65 #[.val (.int p0), .val (.int p1), .val (.int p2), .val (.int p3), .val (.int p4), .val (.int p5), .val (.int iva), .val (.int ivb), .val (.ref b13), .val (.ref b27), .unset] [(.int (own_fam jb)), (.int (own_fam ja))]) := fun tq kq => g44 tq (st45 _ kq)
  by_cases hc65 : (own_fam ja) = (own_fam jb)
  · have g47 : Gz p.tables e below A T45 (mkF m 68 #[.val (.int p0), .val (.int p1), .val (.int p2), .val (.int p3), .val (.int p4), .val (.int p5), .val (.int iva), .val (.int ivb), .val (.ref b13), .val (.ref b27), .unset] []) := fun tq kq => g46 tq (XS.icmpNo X45.here hx rfl (hb hby at_65) rfl (teq hc65).2 kq)
    have g48 : Gz p.tables e below A T45 (mkF m 69 #[.val (.int p0), .val (.int p1), .val (.int p2), .val (.int p3), .val (.int p4), .val (.int p5), .val (.int iva), .val (.int ivb), .val (.ref b13), .val (.ref b27), .unset] [(.int (1 : Int32))]) := fun tq kq => g47 tq (XS.iconst X45.here hx rfl (hb hby at_68) kq)
    have g49 : Gz p.tables e below A T45 (mkF m 73 #[.val (.int p0), .val (.int p1), .val (.int p2), .val (.int p3), .val (.int p4), .val (.int p5), .val (.int iva), .val (.int ivb), .val (.ref b13), .val (.ref b27), .unset] [(.int (1 : Int32))]) := fun tq kq => g48 tq (XS.goto X45.here hx rfl (pc0 := 69) (pc' := 73) rfl (hb hby at_69) (by decide) (by decide) kq)
    have g50 : Gz p.tables e below A T45 (mkF m 75 #[.val (.int p0), .val (.int p1), .val (.int p2), .val (.int p3), .val (.int p4), .val (.int p5), .val (.int iva), .val (.int ivb), .val (.ref b13), .val (.ref b27), .val (.int (1 : Int32))] []) := fun tq kq => g49 tq (XS.istore X45.here hx rfl (hb hby at_73) rfl (l' := #[.val (.int p0), .val (.int p1), .val (.int p2), .val (.int p3), .val (.int p4), .val (.int p5), .val (.int iva), .val (.int ivb), .val (.ref b13), .val (.ref b27), .val (.int (1 : Int32))]) rfl kq)
    have g51 : Gz p.tables e below A T45 (mkF m 77 #[.val (.int p0), .val (.int p1), .val (.int p2), .val (.int p3), .val (.int p4), .val (.int p5), .val (.int iva), .val (.int ivb), .val (.ref b13), .val (.ref b27), .val (.int (1 : Int32))] [(.ref b13)]) := fun tq kq => g50 tq (XS.aload X45.here hx rfl (hb hby at_75) rfl rfl kq)
    have g52 : Gz p.tables e below A T45 (mkF m 79 #[.val (.int p0), .val (.int p1), .val (.int p2), .val (.int p3), .val (.int p4), .val (.int p5), .val (.int iva), .val (.int ivb), .val (.ref b13), .val (.ref b27), .val (.int (1 : Int32))] [(.ref b27), (.ref b13)]) := fun tq kq => g51 tq (XS.aload X45.here hx rfl (hb hby at_77) rfl rfl kq)
    obtain ⟨cq53, kq53, q53a, q53b, q53c⟩ := isOf hZ e45 EQ23
    obtain ⟨_, _, ⟨T53, L53, k53, n53⟩, -, X53, ⟨Lc53, hQ53, l53, y53, z53⟩, st53⟩ := X45.virtualBack hx (y := (⟨"com/example/orrery/orrery/types/SqlType", "comparableWith", "(Lcom/example/orrery/orrery/types/SqlType;)Z"⟩ : MethodName)) (z := (⟨"com/example/orrery/orrery/types/SqlType", "comparableWith", "(Lcom/example/orrery/orrery/types/SqlType;)Z"⟩ : MethodName)) hown (mvT hZ (hw _ (List.mem_of_getElem? (i := 35) rfl))) (mvT hZ (hw _ (List.mem_of_getElem? (i := 36) rfl))) (notFace_of_selects (args := #[]) (mvT hZ (hw _ (List.mem_of_getElem? (i := 38) rfl)))) (mvT hZ (hw _ (List.mem_of_getElem? (i := 38) rfl))) (mvT hZ (hw _ (List.mem_of_getElem? (i := 37) rfl))) (by decide) (backOf (W := 0) (rm5 l Z a0 hw [] b13 b27 (w ja) (w jb) (f ja) (f jb) (1 : Int32) T37.heap n0 (Nat.le_trans Z0 K39.1) FQ23 FQ37 ((hG ja hja).ext K39) ((hG jb hjb).ext K39) (Or.inl ⟨(hfam ja jb hja hjb).mpr hc65, rfl⟩)) hZ (hw _ (List.mem_of_getElem? (i := 39) rfl)) (hw _ (List.mem_of_getElem? (i := 3) rfl)) (by decide) (by decide)) q53a q53c (g := (mkF m 79 #[.val (.int p0), .val (.int p1), .val (.int p2), .val (.int p3), .val (.int p4), .val (.int p5), .val (.int iva), .val (.int ivb), .val (.ref b13), .val (.ref b27), .val (.int (1 : Int32))] [(.ref b27), (.ref b13)])) rfl (by rw [hml]; rfl) (Steps.refl _) (argsL := [(.ref b27)]) (rest := []) (lenOf pd0_3 rfl) rfl (by show 2 * 0 + _ ≤ _; exact Nat.le_of_eq rfl) (hb hby at_79) (fun _ _ => ⟨rfl, e45, (by decide : 2 + 0 ≤ _), (by decide : 8 + 0 ≤ _)⟩)
    dsimp only [Pt.U, Pt.locs, Pt.cells, Pt.slots] at X53 l53 y53 z53 st53 hQ53
    subst l53 y53 z53
    obtain ⟨rfl, N53q, e53⟩ := hQ53
    have N53 := Fr.app N45 N53q
    have g54 : Gz p.tables e below A T53 (mkF m 82 #[.val (.int p0), .val (.int p1), .val (.int p2), .val (.int p3), .val (.int p4), .val (.int p5), .val (.int iva), .val (.int ivb), .val (.ref b13), .val (.ref b27), .val (.int (1 : Int32))] [(.int (1 : Int32))]) := fun tq kq => g52 tq (st53.trans kq)
    have g55 : Gz p.tables e below A T53 (mkF m 84 #[.val (.int p0), .val (.int p1), .val (.int p2), .val (.int p3), .val (.int p4), .val (.int p5), .val (.int iva), .val (.int ivb), .val (.ref b13), .val (.ref b27), .val (.int (1 : Int32))] [(.int (1 : Int32)), (.int (1 : Int32))]) := fun tq kq => g54 tq (XS.iload X53.here hx rfl (hb hby at_82) rfl kq)
    have g56 : Gz p.tables e below A T53 (mkF m 87 #[.val (.int p0), .val (.int p1), .val (.int p2), .val (.int p3), .val (.int p4), .val (.int p5), .val (.int iva), .val (.int ivb), .val (.ref b13), .val (.ref b27), .val (.int (1 : Int32))] []) := fun tq kq => g55 tq (XS.icmpNo X53.here hx rfl (hb hby at_84) rfl (teq rfl).2 kq)
    have g57 : Gz p.tables e below A T53 (mkF m 89 #[.val (.int p0), .val (.int p1), .val (.int p2), .val (.int p3), .val (.int p4), .val (.int p5), .val (.int iva), .val (.int ivb), .val (.ref b13), .val (.ref b27), .val (.int (1 : Int32))] [(.ref b27)]) := fun tq kq => g56 tq (XS.aload X53.here hx rfl (hb hby at_87) rfl rfl kq)
    have g58 : Gz p.tables e below A T53 (mkF m 91 #[.val (.int p0), .val (.int p1), .val (.int p2), .val (.int p3), .val (.int p4), .val (.int p5), .val (.int iva), .val (.int ivb), .val (.ref b13), .val (.ref b27), .val (.int (1 : Int32))] [(.ref b13), (.ref b27)]) := fun tq kq => g57 tq (XS.aload X53.here hx rfl (hb hby at_89) rfl rfl kq)
    obtain ⟨cq59, kq59, q59a, q59b, q59c⟩ := isOf hZ e53 EQ37
    obtain ⟨_, _, ⟨T59, L59, k59, n59⟩, -, X59, ⟨Lc59, hQ59, l59, y59, z59⟩, st59⟩ := X53.virtualBack hx (y := (⟨"com/example/orrery/orrery/types/SqlType", "comparableWith", "(Lcom/example/orrery/orrery/types/SqlType;)Z"⟩ : MethodName)) (z := (⟨"com/example/orrery/orrery/types/SqlType", "comparableWith", "(Lcom/example/orrery/orrery/types/SqlType;)Z"⟩ : MethodName)) hown (mvT hZ (hw _ (List.mem_of_getElem? (i := 35) rfl))) (mvT hZ (hw _ (List.mem_of_getElem? (i := 36) rfl))) (notFace_of_selects (args := #[]) (mvT hZ (hw _ (List.mem_of_getElem? (i := 38) rfl)))) (mvT hZ (hw _ (List.mem_of_getElem? (i := 38) rfl))) (mvT hZ (hw _ (List.mem_of_getElem? (i := 37) rfl))) (by decide) (backOf (W := 0) (rm5 l Z a0 hw [] b27 b13 (w jb) (w ja) (f jb) (f ja) (1 : Int32) T37.heap n0 (Nat.le_trans Z0 K39.1) FQ37 FQ23 ((hG jb hjb).ext K39) ((hG ja hja).ext K39) (Or.inl ⟨(hfam jb ja hjb hja).mpr hc65.symm, rfl⟩)) hZ (hw _ (List.mem_of_getElem? (i := 39) rfl)) (hw _ (List.mem_of_getElem? (i := 3) rfl)) (by decide) (by decide)) q59a q59c (g := (mkF m 91 #[.val (.int p0), .val (.int p1), .val (.int p2), .val (.int p3), .val (.int p4), .val (.int p5), .val (.int iva), .val (.int ivb), .val (.ref b13), .val (.ref b27), .val (.int (1 : Int32))] [(.ref b13), (.ref b27)])) rfl (by rw [hml]; rfl) (Steps.refl _) (argsL := [(.ref b13)]) (rest := []) (lenOf pd0_3 rfl) rfl (by show 2 * 0 + _ ≤ _; exact Nat.le_of_eq rfl) (hb hby at_91) (fun _ _ => ⟨rfl, e53, (by decide : 2 + 0 ≤ _), (by decide : 8 + 0 ≤ _)⟩)
    dsimp only [Pt.U, Pt.locs, Pt.cells, Pt.slots] at X59 l59 y59 z59 st59 hQ59
    subst l59 y59 z59
    obtain ⟨rfl, N59q, e59⟩ := hQ59
    have N59 := Fr.app N53 N59q
    have g60 : Gz p.tables e below A T59 (mkF m 94 #[.val (.int p0), .val (.int p1), .val (.int p2), .val (.int p3), .val (.int p4), .val (.int p5), .val (.int iva), .val (.int ivb), .val (.ref b13), .val (.ref b27), .val (.int (1 : Int32))] [(.int (1 : Int32))]) := fun tq kq => g58 tq (st59.trans kq)
    have g61 : Gz p.tables e below A T59 (mkF m 96 #[.val (.int p0), .val (.int p1), .val (.int p2), .val (.int p3), .val (.int p4), .val (.int p5), .val (.int iva), .val (.int ivb), .val (.ref b13), .val (.ref b27), .val (.int (1 : Int32))] [(.int (1 : Int32)), (.int (1 : Int32))]) := fun tq kq => g60 tq (XS.iload X59.here hx rfl (hb hby at_94) rfl kq)
    have g62 : Gz p.tables e below A T59 (mkF m 99 #[.val (.int p0), .val (.int p1), .val (.int p2), .val (.int p3), .val (.int p4), .val (.int p5), .val (.int iva), .val (.int ivb), .val (.ref b13), .val (.ref b27), .val (.int (1 : Int32))] []) := fun tq kq => g61 tq (XS.icmpNo X59.here hx rfl (hb hby at_96) rfl (teq rfl).2 kq)
    have g63 : Gz p.tables e below A T59 (mkF m 100 #[.val (.int p0), .val (.int p1), .val (.int p2), .val (.int p3), .val (.int p4), .val (.int p5), .val (.int iva), .val (.int ivb), .val (.ref b13), .val (.ref b27), .val (.int (1 : Int32))] [(.int (1 : Int32))]) := fun tq kq => g62 tq (XS.iconst X59.here hx rfl (hb hby at_99) kq)
    have g64 : Gz p.tables e below A T59 (mkF m 104 #[.val (.int p0), .val (.int p1), .val (.int p2), .val (.int p3), .val (.int p4), .val (.int p5), .val (.int iva), .val (.int ivb), .val (.ref b13), .val (.ref b27), .val (.int (1 : Int32))] [(.int (1 : Int32))]) := fun tq kq => g63 tq (XS.goto X59.here hx rfl (pc0 := 100) (pc' := 104) rfl (hb hby at_100) (by decide) (by decide) kq)
    obtain ⟨fs, hr, hrun, hended, hW, hsame⟩ := X59.leave (v := some (.int (1 : Int32))) (fun h => by rw [Bd.returns] at h; cases h)
    refine ⟨_, _, g64 _ (retN X59 hx (t := .boolean) Bd.returns (by simp) (hb hby at_104) hr), hrun, hended, _, _, rfl, ?_, ⟨_, rfl⟩, hW, hsame.mono (by decide) (by decide)⟩
    show Q0 Z p0 p1 p2 p3 p4 p5 w f iva ivb h0 n0 _ T59.heap _
    rw [e59]
    exact ⟨rfl, N59⟩
  · have g65 : Gz p.tables e below A T45 (mkF m 72 #[.val (.int p0), .val (.int p1), .val (.int p2), .val (.int p3), .val (.int p4), .val (.int p5), .val (.int iva), .val (.int ivb), .val (.ref b13), .val (.ref b27), .unset] []) := fun tq kq => g46 tq (XS.icmpYes X45.here hx rfl (pc0 := 65) (pc' := 72) rfl (hb hby at_65) rfl (feq hc65).2 (by decide) (by decide) kq)
    have g66 : Gz p.tables e below A T45 (mkF m 73 #[.val (.int p0), .val (.int p1), .val (.int p2), .val (.int p3), .val (.int p4), .val (.int p5), .val (.int iva), .val (.int ivb), .val (.ref b13), .val (.ref b27), .unset] [(.int (0 : Int32))]) := fun tq kq => g65 tq (XS.iconst X45.here hx rfl (hb hby at_72) kq)
    have g67 : Gz p.tables e below A T45 (mkF m 75 #[.val (.int p0), .val (.int p1), .val (.int p2), .val (.int p3), .val (.int p4), .val (.int p5), .val (.int iva), .val (.int ivb), .val (.ref b13), .val (.ref b27), .val (.int (0 : Int32))] []) := fun tq kq => g66 tq (XS.istore X45.here hx rfl (hb hby at_73) rfl (l' := #[.val (.int p0), .val (.int p1), .val (.int p2), .val (.int p3), .val (.int p4), .val (.int p5), .val (.int iva), .val (.int ivb), .val (.ref b13), .val (.ref b27), .val (.int (0 : Int32))]) rfl kq)
    have g68 : Gz p.tables e below A T45 (mkF m 77 #[.val (.int p0), .val (.int p1), .val (.int p2), .val (.int p3), .val (.int p4), .val (.int p5), .val (.int iva), .val (.int ivb), .val (.ref b13), .val (.ref b27), .val (.int (0 : Int32))] [(.ref b13)]) := fun tq kq => g67 tq (XS.aload X45.here hx rfl (hb hby at_75) rfl rfl kq)
    have g69 : Gz p.tables e below A T45 (mkF m 79 #[.val (.int p0), .val (.int p1), .val (.int p2), .val (.int p3), .val (.int p4), .val (.int p5), .val (.int iva), .val (.int ivb), .val (.ref b13), .val (.ref b27), .val (.int (0 : Int32))] [(.ref b27), (.ref b13)]) := fun tq kq => g68 tq (XS.aload X45.here hx rfl (hb hby at_77) rfl rfl kq)
    obtain ⟨cq70, kq70, q70a, q70b, q70c⟩ := isOf hZ e45 EQ23
    obtain ⟨_, _, ⟨T70, L70, k70, n70⟩, -, X70, ⟨Lc70, hQ70, l70, y70, z70⟩, st70⟩ := X45.virtualBack hx (y := (⟨"com/example/orrery/orrery/types/SqlType", "comparableWith", "(Lcom/example/orrery/orrery/types/SqlType;)Z"⟩ : MethodName)) (z := (⟨"com/example/orrery/orrery/types/SqlType", "comparableWith", "(Lcom/example/orrery/orrery/types/SqlType;)Z"⟩ : MethodName)) hown (mvT hZ (hw _ (List.mem_of_getElem? (i := 35) rfl))) (mvT hZ (hw _ (List.mem_of_getElem? (i := 36) rfl))) (notFace_of_selects (args := #[]) (mvT hZ (hw _ (List.mem_of_getElem? (i := 38) rfl)))) (mvT hZ (hw _ (List.mem_of_getElem? (i := 38) rfl))) (mvT hZ (hw _ (List.mem_of_getElem? (i := 37) rfl))) (by decide) (backOf (W := 0) (rm5 l Z a0 hw [] b13 b27 (w ja) (w jb) (f ja) (f jb) (0 : Int32) T37.heap n0 (Nat.le_trans Z0 K39.1) FQ23 FQ37 ((hG ja hja).ext K39) ((hG jb hjb).ext K39) (Or.inr ⟨fun q => hc65 ((hfam ja jb hja hjb).mp q), rfl⟩)) hZ (hw _ (List.mem_of_getElem? (i := 39) rfl)) (hw _ (List.mem_of_getElem? (i := 3) rfl)) (by decide) (by decide)) q70a q70c (g := (mkF m 79 #[.val (.int p0), .val (.int p1), .val (.int p2), .val (.int p3), .val (.int p4), .val (.int p5), .val (.int iva), .val (.int ivb), .val (.ref b13), .val (.ref b27), .val (.int (0 : Int32))] [(.ref b27), (.ref b13)])) rfl (by rw [hml]; rfl) (Steps.refl _) (argsL := [(.ref b27)]) (rest := []) (lenOf pd0_3 rfl) rfl (by show 2 * 0 + _ ≤ _; exact Nat.le_of_eq rfl) (hb hby at_79) (fun _ _ => ⟨rfl, e45, (by decide : 2 + 0 ≤ _), (by decide : 8 + 0 ≤ _)⟩)
    dsimp only [Pt.U, Pt.locs, Pt.cells, Pt.slots] at X70 l70 y70 z70 st70 hQ70
    subst l70 y70 z70
    obtain ⟨rfl, N70q, e70⟩ := hQ70
    have N70 := Fr.app N45 N70q
    have g71 : Gz p.tables e below A T70 (mkF m 82 #[.val (.int p0), .val (.int p1), .val (.int p2), .val (.int p3), .val (.int p4), .val (.int p5), .val (.int iva), .val (.int ivb), .val (.ref b13), .val (.ref b27), .val (.int (0 : Int32))] [(.int (0 : Int32))]) := fun tq kq => g69 tq (st70.trans kq)
    have g72 : Gz p.tables e below A T70 (mkF m 84 #[.val (.int p0), .val (.int p1), .val (.int p2), .val (.int p3), .val (.int p4), .val (.int p5), .val (.int iva), .val (.int ivb), .val (.ref b13), .val (.ref b27), .val (.int (0 : Int32))] [(.int (0 : Int32)), (.int (0 : Int32))]) := fun tq kq => g71 tq (XS.iload X70.here hx rfl (hb hby at_82) rfl kq)
    have g73 : Gz p.tables e below A T70 (mkF m 87 #[.val (.int p0), .val (.int p1), .val (.int p2), .val (.int p3), .val (.int p4), .val (.int p5), .val (.int iva), .val (.int ivb), .val (.ref b13), .val (.ref b27), .val (.int (0 : Int32))] []) := fun tq kq => g72 tq (XS.icmpNo X70.here hx rfl (hb hby at_84) rfl (teq rfl).2 kq)
    have g74 : Gz p.tables e below A T70 (mkF m 89 #[.val (.int p0), .val (.int p1), .val (.int p2), .val (.int p3), .val (.int p4), .val (.int p5), .val (.int iva), .val (.int ivb), .val (.ref b13), .val (.ref b27), .val (.int (0 : Int32))] [(.ref b27)]) := fun tq kq => g73 tq (XS.aload X70.here hx rfl (hb hby at_87) rfl rfl kq)
    have g75 : Gz p.tables e below A T70 (mkF m 91 #[.val (.int p0), .val (.int p1), .val (.int p2), .val (.int p3), .val (.int p4), .val (.int p5), .val (.int iva), .val (.int ivb), .val (.ref b13), .val (.ref b27), .val (.int (0 : Int32))] [(.ref b13), (.ref b27)]) := fun tq kq => g74 tq (XS.aload X70.here hx rfl (hb hby at_89) rfl rfl kq)
    obtain ⟨cq76, kq76, q76a, q76b, q76c⟩ := isOf hZ e70 EQ37
    obtain ⟨_, _, ⟨T76, L76, k76, n76⟩, -, X76, ⟨Lc76, hQ76, l76, y76, z76⟩, st76⟩ := X70.virtualBack hx (y := (⟨"com/example/orrery/orrery/types/SqlType", "comparableWith", "(Lcom/example/orrery/orrery/types/SqlType;)Z"⟩ : MethodName)) (z := (⟨"com/example/orrery/orrery/types/SqlType", "comparableWith", "(Lcom/example/orrery/orrery/types/SqlType;)Z"⟩ : MethodName)) hown (mvT hZ (hw _ (List.mem_of_getElem? (i := 35) rfl))) (mvT hZ (hw _ (List.mem_of_getElem? (i := 36) rfl))) (notFace_of_selects (args := #[]) (mvT hZ (hw _ (List.mem_of_getElem? (i := 38) rfl)))) (mvT hZ (hw _ (List.mem_of_getElem? (i := 38) rfl))) (mvT hZ (hw _ (List.mem_of_getElem? (i := 37) rfl))) (by decide) (backOf (W := 0) (rm5 l Z a0 hw [] b27 b13 (w jb) (w ja) (f jb) (f ja) (0 : Int32) T37.heap n0 (Nat.le_trans Z0 K39.1) FQ37 FQ23 ((hG jb hjb).ext K39) ((hG ja hja).ext K39) (Or.inr ⟨fun q => hc65 ((hfam jb ja hjb hja).mp q).symm, rfl⟩)) hZ (hw _ (List.mem_of_getElem? (i := 39) rfl)) (hw _ (List.mem_of_getElem? (i := 3) rfl)) (by decide) (by decide)) q76a q76c (g := (mkF m 91 #[.val (.int p0), .val (.int p1), .val (.int p2), .val (.int p3), .val (.int p4), .val (.int p5), .val (.int iva), .val (.int ivb), .val (.ref b13), .val (.ref b27), .val (.int (0 : Int32))] [(.ref b13), (.ref b27)])) rfl (by rw [hml]; rfl) (Steps.refl _) (argsL := [(.ref b13)]) (rest := []) (lenOf pd0_3 rfl) rfl (by show 2 * 0 + _ ≤ _; exact Nat.le_of_eq rfl) (hb hby at_91) (fun _ _ => ⟨rfl, e70, (by decide : 2 + 0 ≤ _), (by decide : 8 + 0 ≤ _)⟩)
    dsimp only [Pt.U, Pt.locs, Pt.cells, Pt.slots] at X76 l76 y76 z76 st76 hQ76
    subst l76 y76 z76
    obtain ⟨rfl, N76q, e76⟩ := hQ76
    have N76 := Fr.app N70 N76q
    have g77 : Gz p.tables e below A T76 (mkF m 94 #[.val (.int p0), .val (.int p1), .val (.int p2), .val (.int p3), .val (.int p4), .val (.int p5), .val (.int iva), .val (.int ivb), .val (.ref b13), .val (.ref b27), .val (.int (0 : Int32))] [(.int (0 : Int32))]) := fun tq kq => g75 tq (st76.trans kq)
    have g78 : Gz p.tables e below A T76 (mkF m 96 #[.val (.int p0), .val (.int p1), .val (.int p2), .val (.int p3), .val (.int p4), .val (.int p5), .val (.int iva), .val (.int ivb), .val (.ref b13), .val (.ref b27), .val (.int (0 : Int32))] [(.int (0 : Int32)), (.int (0 : Int32))]) := fun tq kq => g77 tq (XS.iload X76.here hx rfl (hb hby at_94) rfl kq)
    have g79 : Gz p.tables e below A T76 (mkF m 99 #[.val (.int p0), .val (.int p1), .val (.int p2), .val (.int p3), .val (.int p4), .val (.int p5), .val (.int iva), .val (.int ivb), .val (.ref b13), .val (.ref b27), .val (.int (0 : Int32))] []) := fun tq kq => g78 tq (XS.icmpNo X76.here hx rfl (hb hby at_96) rfl (teq rfl).2 kq)
    have g80 : Gz p.tables e below A T76 (mkF m 100 #[.val (.int p0), .val (.int p1), .val (.int p2), .val (.int p3), .val (.int p4), .val (.int p5), .val (.int iva), .val (.int ivb), .val (.ref b13), .val (.ref b27), .val (.int (0 : Int32))] [(.int (1 : Int32))]) := fun tq kq => g79 tq (XS.iconst X76.here hx rfl (hb hby at_99) kq)
    have g81 : Gz p.tables e below A T76 (mkF m 104 #[.val (.int p0), .val (.int p1), .val (.int p2), .val (.int p3), .val (.int p4), .val (.int p5), .val (.int iva), .val (.int ivb), .val (.ref b13), .val (.ref b27), .val (.int (0 : Int32))] [(.int (1 : Int32))]) := fun tq kq => g80 tq (XS.goto X76.here hx rfl (pc0 := 100) (pc' := 104) rfl (hb hby at_100) (by decide) (by decide) kq)
    obtain ⟨fs, hr, hrun, hended, hW, hsame⟩ := X76.leave (v := some (.int (1 : Int32))) (fun h => by rw [Bd.returns] at h; cases h)
    refine ⟨_, _, g81 _ (retN X76 hx (t := .boolean) Bd.returns (by simp) (hb hby at_104) hr), hrun, hended, _, _, rfl, ?_, ⟨_, rfl⟩, hW, hsame.mono (by decide) (by decide)⟩
    show Q0 Z p0 p1 p2 p3 p4 p5 w f iva ivb h0 n0 _ T76.heap _
    rw [e76]
    exact ⟨rfl, N76⟩

set_option maxRecDepth 65536 in
set_option maxHeartbeats 40000000 in
theorem comes_1 {Post : Tables → Env → Array Value → State → Outcome → State → Prop} (hpost : ∀ tb e args s v u, (limb_1_1.after args s (.returned v) u = true ∧ limb_1_2.after args s (.returned v) u = true ∧ True) → FrameEnd s (.returned v) u (Jvm.fieldLocs frame_1_writes args s ++ Jvm.arrayLocs frame_1_arrays args s ++ Jvm.staticLocs frame_1_statics s) 16 128 → Post tb e args s (.returned v) u) :
    ArmFor flags0 classFile x code maxLocals ret World_1 tables_1 room_1 Calls_1 rest_1 Pre_1 Post := by
  intro l hfl _ _ p e ha hc hk s m args below hf hA hF happ hP
  obtain ⟨hcalls, hrest, hpre⟩ := hP
  obtain ⟨-, -, -, hnamed, -, -, -, hat⟩ := (Spec.applies_iff hf).mp happ
  obtain ⟨hg, hn⟩ := and_e (Cond.before_iff.mp (show (Jvm.Cond.and given_1 narrow_1).before args s = true from hpre))
  obtain ⟨hcnt, hg⟩ := and_e hg
  obtain ⟨ga0, hg⟩ := and_e hg
  obtain ⟨ga1, hg⟩ := and_e hg
  obtain ⟨ga2, hg⟩ := and_e hg
  obtain ⟨ga3, hg⟩ := and_e hg
  obtain ⟨ga4, hg⟩ := and_e hg
  have ga5 := hg
  obtain ⟨w0, w1, w2, w3, w4, w5, rfl⟩ : ∃ w0 w1 w2 w3 w4 w5 : Value, args = #[w0, w1, w2, w3, w4, w5] := by
    have hs : args.size = 6 := by simpa [Cond.value, given_1] using hcnt
    obtain ⟨L⟩ := args
    match L, hs with
    | [w0, w1, w2, w3, w4, w5], _ => exact ⟨w0, w1, w2, w3, w4, w5, rfl⟩
  have hw := fun d (hd : d ∈ tables_1) => atoms_spec (ws := Jvm.Cond.code x code maxLocals ret :: tables_1) hat d (List.mem_cons_of_mem _ hd)
  have hfit : Fit s := fun {y c} hc i hi => by
    obtain ⟨ha, rfl⟩ := Array.getElem?_eq_some_iff.mp hc
    have q := List.all_eq_true.mp ((Array.all_eq_true_iff_forall_mem.mp hF) _ (Array.getElem_mem ha)) i (List.mem_range.mpr hi)
    simpa [Array.getElem?_eq_getElem hi] using q
  obtain ⟨i0, ei0⟩ := is_v ga0
  obtain rfl : w0 = (.int i0) := Option.some.inj ei0
  obtain ⟨i1, ei1⟩ := is_v ga1
  obtain rfl : w1 = (.int i1) := Option.some.inj ei1
  obtain ⟨i2, ei2⟩ := is_v ga2
  obtain rfl : w2 = (.int i2) := Option.some.inj ei2
  obtain ⟨i3, ei3⟩ := is_v ga3
  obtain rfl : w3 = (.int i3) := Option.some.inj ei3
  obtain ⟨i4, ei4⟩ := is_v ga4
  obtain rfl : w4 = (.int i4) := Option.some.inj ei4
  obtain ⟨i5, ei5⟩ := is_v ga5
  obtain rfl : w5 = (.int i5) := Option.some.inj ei5
  obtain ⟨c0, hn⟩ := and_e hn
  obtain ⟨c1, hn⟩ := and_e hn
  obtain ⟨c2, hn⟩ := and_e hn
  obtain ⟨c3, hn⟩ := and_e hn
  obtain ⟨c4, hn⟩ := and_e hn
  obtain ⟨c5, hn⟩ := and_e hn
  obtain ⟨c6, hn⟩ := and_e hn
  obtain ⟨c7, hn⟩ := and_e hn
  obtain ⟨c8, hn⟩ := and_e hn
  obtain ⟨c9, hn⟩ := and_e hn
  obtain ⟨c10, hn⟩ := and_e hn
  obtain ⟨c11, hn⟩ := and_e hn
  obtain ⟨c12, hn⟩ := and_e hn
  obtain ⟨c13, hn⟩ := and_e hn
  obtain ⟨c14, hn⟩ := and_e hn
  obtain ⟨c15, hn⟩ := and_e hn
  obtain ⟨c16, hn⟩ := and_e hn
  have c17 := hn
  obtain ⟨w_BIGINT, ev_BIGINT⟩ := exa_v c0
  have E_BIGINT := Exa.start ev_BIGINT c0
  have S_BIGINT : Sta s s.heap "com/example/orrery/orrery/types/SqlType$Kind" "BIGINT" "Lcom/example/orrery/orrery/types/SqlType$Kind;" (.ref w_BIGINT) := Sta.start ev_BIGINT (Or.inr ⟨(hw _ (List.mem_of_getElem? (i := 9) rfl)), (hw _ (List.mem_of_getElem? (i := 10) rfl))⟩)
  obtain ⟨w_Kind_DATE, ev_Kind_DATE⟩ := exa_v c1
  have E_Kind_DATE := Exa.start ev_Kind_DATE c1
  have S_Kind_DATE : Sta s s.heap "com/example/orrery/orrery/types/SqlType$Kind" "DATE" "Lcom/example/orrery/orrery/types/SqlType$Kind;" (.ref w_Kind_DATE) := Sta.start ev_Kind_DATE (Or.inr ⟨(hw _ (List.mem_of_getElem? (i := 9) rfl)), (hw _ (List.mem_of_getElem? (i := 31) rfl))⟩)
  obtain ⟨w_NUMBER, ev_NUMBER⟩ := exa_v c2
  have E_NUMBER := Exa.start ev_NUMBER c2
  have S_NUMBER : Sta s s.heap "com/example/orrery/orrery/types/SqlType$Family" "NUMBER" "Lcom/example/orrery/orrery/types/SqlType$Family;" (.ref w_NUMBER) := Sta.start ev_NUMBER (Or.inr ⟨(hw _ (List.mem_of_getElem? (i := 42) rfl)), (hw _ (List.mem_of_getElem? (i := 43) rfl))⟩)
  obtain ⟨w_Family_DATE, ev_Family_DATE⟩ := exa_v c4
  have E_Family_DATE := Exa.start ev_Family_DATE c4
  have S_Family_DATE : Sta s s.heap "com/example/orrery/orrery/types/SqlType$Family" "DATE" "Lcom/example/orrery/orrery/types/SqlType$Family;" (.ref w_Family_DATE) := Sta.start ev_Family_DATE (Or.inr ⟨(hw _ (List.mem_of_getElem? (i := 42) rfl)), (hw _ (List.mem_of_getElem? (i := 44) rfl))⟩)
  obtain ⟨w_CHAR, ev_CHAR⟩ := exa_v c8
  have E_CHAR := Exa.start ev_CHAR c8
  have S_CHAR : Sta s s.heap "com/example/orrery/orrery/types/SqlType$Kind" "CHAR" "Lcom/example/orrery/orrery/types/SqlType$Kind;" (.ref w_CHAR) := Sta.start ev_CHAR (Or.inr ⟨(hw _ (List.mem_of_getElem? (i := 9) rfl)), (hw _ (List.mem_of_getElem? (i := 46) rfl))⟩)
  obtain ⟨w_TEXT, ev_TEXT⟩ := exa_v c9
  have E_TEXT := Exa.start ev_TEXT c9
  have S_TEXT : Sta s s.heap "com/example/orrery/orrery/types/SqlType$Family" "TEXT" "Lcom/example/orrery/orrery/types/SqlType$Family;" (.ref w_TEXT) := Sta.start ev_TEXT (Or.inr ⟨(hw _ (List.mem_of_getElem? (i := 42) rfl)), (hw _ (List.mem_of_getElem? (i := 47) rfl))⟩)
  obtain ⟨w_VARCHAR, ev_VARCHAR⟩ := exa_v c11
  have E_VARCHAR := Exa.start ev_VARCHAR c11
  have S_VARCHAR : Sta s s.heap "com/example/orrery/orrery/types/SqlType$Kind" "VARCHAR" "Lcom/example/orrery/orrery/types/SqlType$Kind;" (.ref w_VARCHAR) := Sta.start ev_VARCHAR (Or.inr ⟨(hw _ (List.mem_of_getElem? (i := 9) rfl)), (hw _ (List.mem_of_getElem? (i := 49) rfl))⟩)
  obtain ⟨w_DECIMAL, ev_DECIMAL⟩ := exa_v c14
  have E_DECIMAL := Exa.start ev_DECIMAL c14
  have S_DECIMAL : Sta s s.heap "com/example/orrery/orrery/types/SqlType$Kind" "DECIMAL" "Lcom/example/orrery/orrery/types/SqlType$Kind;" (.ref w_DECIMAL) := Sta.start ev_DECIMAL (Or.inr ⟨(hw _ (List.mem_of_getElem? (i := 9) rfl)), (hw _ (List.mem_of_getElem? (i := 51) rfl))⟩)
  obtain ⟨w_INTEGER, ev_INTEGER⟩ := exa_v c16
  have E_INTEGER := Exa.start ev_INTEGER c16
  have S_INTEGER : Sta s s.heap "com/example/orrery/orrery/types/SqlType$Kind" "INTEGER" "Lcom/example/orrery/orrery/types/SqlType$Kind;" (.ref w_INTEGER) := Sta.start ev_INTEGER (Or.inr ⟨(hw _ (List.mem_of_getElem? (i := 9) rfl)), (hw _ (List.mem_of_getElem? (i := 53) rfl))⟩)
  have F_NUMBER_ordinal := own_fldI c6 ev_NUMBER
  have F_Family_DATE_ordinal := own_fldI c7 ev_Family_DATE
  have F_TEXT_ordinal := own_fldI c13 ev_TEXT
  have F_BIGINT_family := own_fldR c3 ev_BIGINT ev_NUMBER
  have F_Kind_DATE_family := own_fldR c5 ev_Kind_DATE ev_Family_DATE
  have F_CHAR_family := own_fldR c10 ev_CHAR ev_TEXT
  have F_VARCHAR_family := own_fldR c12 ev_VARCHAR ev_TEXT
  have F_DECIMAL_family := own_fldR c15 ev_DECIMAL ev_NUMBER
  have F_INTEGER_family := own_fldR c17 ev_INTEGER ev_NUMBER
  obtain ⟨w, hwd⟩ : ∃ w : Nat → Addr, w = (fun k => [w_BIGINT, w_INTEGER, w_DECIMAL, w_Kind_DATE, w_CHAR, w_VARCHAR].getD k 0) := ⟨_, rfl⟩
  obtain ⟨f, hfd⟩ : ∃ f : Nat → Addr, f = (fun k => [w_NUMBER, w_NUMBER, w_NUMBER, w_Family_DATE, w_TEXT, w_TEXT].getD k 0) := ⟨_, rfl⟩
  have hG : ∀ k, k < 6 → Fld s s.heap (w k) "com/example/orrery/orrery/types/SqlType$Kind" "family" "Lcom/example/orrery/orrery/types/SqlType$Family;" (.ref (f k)) := by
    intro k hk
    subst hwd hfd
    match k, hk with
    | 0, _ => exact F_BIGINT_family
    | 1, _ => exact F_INTEGER_family
    | 2, _ => exact F_DECIMAL_family
    | 3, _ => exact F_Kind_DATE_family
    | 4, _ => exact F_CHAR_family
    | 5, _ => exact F_VARCHAR_family
    | k + 6, hk => exact absurd hk (by omega)
  have n1 : w_NUMBER ≠ w_Family_DATE := Fld.ne F_NUMBER_ordinal F_Family_DATE_ordinal (by decide)
  have n2 : w_NUMBER ≠ w_TEXT := Fld.ne F_NUMBER_ordinal F_TEXT_ordinal (by decide)
  have n3 : w_Family_DATE ≠ w_TEXT := Fld.ne F_Family_DATE_ordinal F_TEXT_ordinal (by decide)
  have hfam : ∀ i j, i < 6 → j < 6 → (f i = f j ↔ own_fam i = own_fam j) := by
    intro i j hi hj
    subst hfd
    match i, hi with
    | 0, _ => match j, hj with
      | 0, _ => exact ⟨fun _ => by decide, fun _ => rfl⟩
      | 1, _ => exact ⟨fun _ => by decide, fun _ => rfl⟩
      | 2, _ => exact ⟨fun _ => by decide, fun _ => rfl⟩
      | 3, _ => exact ⟨fun q => absurd q n1, fun q => absurd q (by decide)⟩
      | 4, _ => exact ⟨fun q => absurd q n2, fun q => absurd q (by decide)⟩
      | 5, _ => exact ⟨fun q => absurd q n2, fun q => absurd q (by decide)⟩
      | j + 6, hj => exact absurd hj (by omega)
    | 1, _ => match j, hj with
      | 0, _ => exact ⟨fun _ => by decide, fun _ => rfl⟩
      | 1, _ => exact ⟨fun _ => by decide, fun _ => rfl⟩
      | 2, _ => exact ⟨fun _ => by decide, fun _ => rfl⟩
      | 3, _ => exact ⟨fun q => absurd q n1, fun q => absurd q (by decide)⟩
      | 4, _ => exact ⟨fun q => absurd q n2, fun q => absurd q (by decide)⟩
      | 5, _ => exact ⟨fun q => absurd q n2, fun q => absurd q (by decide)⟩
      | j + 6, hj => exact absurd hj (by omega)
    | 2, _ => match j, hj with
      | 0, _ => exact ⟨fun _ => by decide, fun _ => rfl⟩
      | 1, _ => exact ⟨fun _ => by decide, fun _ => rfl⟩
      | 2, _ => exact ⟨fun _ => by decide, fun _ => rfl⟩
      | 3, _ => exact ⟨fun q => absurd q n1, fun q => absurd q (by decide)⟩
      | 4, _ => exact ⟨fun q => absurd q n2, fun q => absurd q (by decide)⟩
      | 5, _ => exact ⟨fun q => absurd q n2, fun q => absurd q (by decide)⟩
      | j + 6, hj => exact absurd hj (by omega)
    | 3, _ => match j, hj with
      | 0, _ => exact ⟨fun q => absurd q n1.symm, fun q => absurd q (by decide)⟩
      | 1, _ => exact ⟨fun q => absurd q n1.symm, fun q => absurd q (by decide)⟩
      | 2, _ => exact ⟨fun q => absurd q n1.symm, fun q => absurd q (by decide)⟩
      | 3, _ => exact ⟨fun _ => by decide, fun _ => rfl⟩
      | 4, _ => exact ⟨fun q => absurd q n3, fun q => absurd q (by decide)⟩
      | 5, _ => exact ⟨fun q => absurd q n3, fun q => absurd q (by decide)⟩
      | j + 6, hj => exact absurd hj (by omega)
    | 4, _ => match j, hj with
      | 0, _ => exact ⟨fun q => absurd q n2.symm, fun q => absurd q (by decide)⟩
      | 1, _ => exact ⟨fun q => absurd q n2.symm, fun q => absurd q (by decide)⟩
      | 2, _ => exact ⟨fun q => absurd q n2.symm, fun q => absurd q (by decide)⟩
      | 3, _ => exact ⟨fun q => absurd q n3.symm, fun q => absurd q (by decide)⟩
      | 4, _ => exact ⟨fun _ => by decide, fun _ => rfl⟩
      | 5, _ => exact ⟨fun _ => by decide, fun _ => rfl⟩
      | j + 6, hj => exact absurd hj (by omega)
    | 5, _ => match j, hj with
      | 0, _ => exact ⟨fun q => absurd q n2.symm, fun q => absurd q (by decide)⟩
      | 1, _ => exact ⟨fun q => absurd q n2.symm, fun q => absurd q (by decide)⟩
      | 2, _ => exact ⟨fun q => absurd q n2.symm, fun q => absurd q (by decide)⟩
      | 3, _ => exact ⟨fun q => absurd q n3.symm, fun q => absurd q (by decide)⟩
      | 4, _ => exact ⟨fun _ => by decide, fun _ => rfl⟩
      | 5, _ => exact ⟨fun _ => by decide, fun _ => rfl⟩
      | j + 6, hj => exact absurd hj (by omega)
    | i + 6, hi => exact absurd hi (by omega)
  have hra := own_rem i0 6 6 (by decide) (by decide)
  have hrb := own_rem i1 6 6 (by decide) (by decide)
  have T_BIGINT : Sta s s.heap "com/example/orrery/orrery/types/SqlType$Kind" "BIGINT" "Lcom/example/orrery/orrery/types/SqlType$Kind;" (.ref (w 0)) := by subst hwd; exact S_BIGINT
  have T_INTEGER : Sta s s.heap "com/example/orrery/orrery/types/SqlType$Kind" "INTEGER" "Lcom/example/orrery/orrery/types/SqlType$Kind;" (.ref (w 1)) := by subst hwd; exact S_INTEGER
  have T_DECIMAL : Sta s s.heap "com/example/orrery/orrery/types/SqlType$Kind" "DECIMAL" "Lcom/example/orrery/orrery/types/SqlType$Kind;" (.ref (w 2)) := by subst hwd; exact S_DECIMAL
  have T_DATE : Sta s s.heap "com/example/orrery/orrery/types/SqlType$Kind" "DATE" "Lcom/example/orrery/orrery/types/SqlType$Kind;" (.ref (w 3)) := by subst hwd; exact S_Kind_DATE
  have T_CHAR : Sta s s.heap "com/example/orrery/orrery/types/SqlType$Kind" "CHAR" "Lcom/example/orrery/orrery/types/SqlType$Kind;" (.ref (w 4)) := by subst hwd; exact S_CHAR
  have T_VARCHAR : Sta s s.heap "com/example/orrery/orrery/types/SqlType$Kind" "VARCHAR" "Lcom/example/orrery/orrery/types/SqlType$Kind;" (.ref (w 5)) := by subst hwd; exact S_VARCHAR
  obtain ⟨n, o, h1, h2, h3, _, L, rfl, ⟨rfl, N⟩, hq⟩ := rm0 l s _ hw tables_1 i0 i1 i2 i3 i4 i5 w f _ _ s.heap s.heap.size (Nat.le_refl _) T_BIGINT T_INTEGER T_DECIMAL T_DATE T_CHAR T_VARCHAR rfl rfl hra.1 hra.2 hrb.1 hrb.2 hG hfam p e ha hc hk s m _ below hf ((Spec.applies_iff_loose hf).mp happ).1 ⟨rfl, State.Warmed39.refl s, rfl⟩ trivial
  refine ⟨n, _, h1, h2, h3, hpost _ _ _ _ _ _ ⟨Cond.after_iff.mpr rfl, Cond.after_iff.mpr (eq_i res_at (Term.int_eval (1)) rfl), trivial⟩ ⟨hq.1, hq.2.1, (hq.2.2.sift fun y hy => Or.inr (N y hy)).mono (by decide) (by decide)⟩⟩
theorem main_1_1 : Claimed_1_1 := comes_1 fun _ _ _ _ _ _ h hF => ⟨h.1, hF⟩
theorem main_1_2 : Claimed_1_2 := comes_1 fun _ _ _ _ _ _ h hF => ⟨h.2.1, hF⟩
end Jvm.Pilot.@@N@@
namespace Jvm.Pilot.@@N@@
open Jvm Jvm.ClassFile Sem Op Lib Jvm.Free Jvm.Stand Jvm.Pilot.@@N@@.Jvm.D
/-! MADE BY PROGRAM (witnessworld.py) out of the Statement's table words and the real class files: 15 classes; the members and pool entries that the words name. The judged class is class 1, her method 3. -/
namespace start1
open Jvm.ClassFile
def u (s : String) : CpInfo := .utf8 (stringToUtf16 s)
/-- a pool by its gaps: so many unusable entries, then the entry; so many at the end -/
def gap : Nat → List CpInfo → List CpInfo
  | 0, r => r
  | n + 1, r => .unusable :: gap n r
def poolList (es : List (Nat × CpInfo)) (last : Nat) : List CpInfo := es.foldr (fun e r => gap e.1 (e.2 :: r)) (gap last [])
def pool (es : List (Nat × CpInfo)) (last : Nat) : Array CpInfo := ⟨poolList es last⟩
def fileOf (pool : Array CpInfo) (this : Nat) (attrs : Array Attribute := #[]) (ms : Array MethodInfo := #[]) (fl : Nat := 33) (sup : Nat := 0) (ifs : Array Nat := #[]) (fds : Array FieldInfo := #[]) : ClassFile where
  minorVersion := 0
  majorVersion := 65
  constantPool := pool
  accessFlags := fl
  thisClass := this
  superClass := sup
  interfaces := ifs
  fields := fds
  methods := ms
  attributes := attrs
def plain (name : String) (sup : Option ClassId) : Class where
  name := name
  kind := .ordinary
  loader := none
  accessFlags := 33
  super := sup
  interfaces := #[]
  cf := none
  fields := #[]
  methods := #[]
  instanceTypes := #[]
  staticTypes := #[]
  resolved := #[]
  callSites := []
  init := .initialized
  statics := none
  mirror := none

def pool0 : Array CpInfo := pool [(5, u "<init>"), (0, u "()V"), (1, .class_ 10), (1, u "java/lang/Object")] 113

def k0c0 : Code := { maxStack := 0, maxLocals := 1, code := object_method_1_code, exceptionTable := #[], attributes := #[] }
def k0m0 : Method := { name := "<init>", desc := "()V", sig := { parameters := [], returnType := none }, accessFlags := 1, code := some k0c0 }
/-- java/lang/Object -/
def k0 : Class := { plain "java/lang/Object" none with
  accessFlags := 33
  interfaces := #[]
  cf := some (fileOf pool0 8 #[] #[{ accessFlags := 1, nameIndex := 5, descriptorIndex := 6, attributes := #[] }] 33 0 #[] #[])
  fields := #[]
  methods := #[k0m0]
  instanceTypes := #[]
  staticTypes := #[]
  resolved := Array.replicate 124 none
  statics := none }

def pool1 : Array CpInfo := pool [(2, .class_ 4), (1, u "java/lang/Object"), (0, u "<init>"), (0, u "()V"), (0, .fieldref 8 9), (0, .class_ 10), (0, .nameAndType 11 12), (0, u "com/example/orrery/orrery/types/SqlType$Kind"), (0, u "BIGINT"), (0, u "Lcom/example/orrery/orrery/types/SqlType$Kind;"), (0, .fieldref 8 14), (0, .nameAndType 15 12), (0, u "INTEGER"), (0, .fieldref 8 17), (0, .nameAndType 18 12), (0, u "DECIMAL"), (0, .fieldref 8 20), (0, .nameAndType 21 12), (0, u "DATE"), (0, .fieldref 8 23), (0, .nameAndType 24 12), (0, u "CHAR"), (0, .fieldref 8 26), (0, .nameAndType 27 12), (0, u "VARCHAR"), (0, .integer 2147483647), (0, .class_ 30), (0, u "com/example/orrery/orrery/types/SqlType"), (0, .methodref 32 33), (0, .class_ 34), (0, .nameAndType 35 36), (0, u "com/example/orrery/orrery/types/SqlTypeComparableWithPinLaw"), (0, u "kindOf"), (0, u "(I)Lcom/example/orrery/orrery/types/SqlType$Kind;"), (0, .methodref 29 38), (0, .nameAndType 5 39), (0, u "(Lcom/example/orrery/orrery/types/SqlType$Kind;III)V"), (0, .methodref 32 41), (0, .nameAndType 42 43), (0, u "familyOf"), (0, u "(I)I"), (0, .methodref 29 45), (0, .nameAndType 46 47), (0, u "comparableWith"), (0, u "(Lcom/example/orrery/orrery/types/SqlType;)Z"), (3, u "law"), (0, u "(IIIIII)Z")] 4

def k1m0 : Method := { name := "<init>", desc := "()V", sig := { parameters := [], returnType := none }, accessFlags := 2, code := none }
def k1c1 : Code := { maxStack := 2, maxLocals := 1, code := method_2_code, exceptionTable := #[], attributes := #[] }
def k1m1 : Method := { name := "kindOf", desc := "(I)Lcom/example/orrery/orrery/types/SqlType$Kind;", sig := { parameters := [.int], returnType := some (.object "com/example/orrery/orrery/types/SqlType$Kind") }, accessFlags := 10, code := some k1c1 }
def k1c2 : Code := { maxStack := 2, maxLocals := 1, code := method_3_code, exceptionTable := #[], attributes := #[] }
def k1m2 : Method := { name := "familyOf", desc := "(I)I", sig := { parameters := [.int], returnType := some .int }, accessFlags := 10, code := some k1c2 }
def k1c3 : Code := { maxStack := 6, maxLocals := 11, code := code, exceptionTable := #[], attributes := #[] }
def k1m3 : Method := { name := "law", desc := "(IIIIII)Z", sig := { parameters := [.int, .int, .int, .int, .int, .int], returnType := some .boolean }, accessFlags := 9, code := some k1c3 }
/-- com/example/orrery/orrery/types/SqlTypeComparableWithPinLaw -/
def k1 : Class := { plain "com/example/orrery/orrery/types/SqlTypeComparableWithPinLaw" (some 0) with
  accessFlags := 49
  interfaces := #[]
  cf := some (fileOf pool1 32 #[] #[{ accessFlags := 2, nameIndex := 5, descriptorIndex := 6, attributes := #[] }, { accessFlags := 10, nameIndex := 35, descriptorIndex := 36, attributes := #[] }, { accessFlags := 10, nameIndex := 42, descriptorIndex := 43, attributes := #[] }, { accessFlags := 9, nameIndex := 51, descriptorIndex := 52, attributes := #[] }] 49 2 #[] #[])
  fields := #[]
  methods := #[k1m0, k1m1, k1m2, k1m3]
  instanceTypes := #[]
  staticTypes := #[]
  resolved := Array.replicate 57 none
  statics := none }

def pool2 : Array CpInfo := pool [(1, .methodref 2 3), (0, .class_ 4), (0, .nameAndType 5 6), (0, u "java/lang/Object"), (0, u "<init>"), (0, u "()V"), (0, .class_ 8), (0, u "java/lang/Record")] 13

def k2c0 : Code := { maxStack := 1, maxLocals := 1, code := jdk_30_method_1_code, exceptionTable := #[], attributes := #[] }
def k2m0 : Method := { name := "<init>", desc := "()V", sig := { parameters := [], returnType := none }, accessFlags := 4, code := some k2c0 }
/-- java/lang/Record -/
def k2 : Class := { plain "java/lang/Record" (some 0) with
  accessFlags := 1057
  interfaces := #[]
  cf := some (fileOf pool2 7 #[] #[{ accessFlags := 4, nameIndex := 5, descriptorIndex := 6, attributes := #[] }] 1057 2 #[] #[])
  fields := #[]
  methods := #[k2m0]
  instanceTypes := #[]
  staticTypes := #[]
  resolved := Array.replicate 22 none
  statics := none }

def pool3 : Array CpInfo := pool [(1, .methodref 2 3), (0, .class_ 4), (0, .nameAndType 5 6), (0, u "java/lang/Record"), (0, u "<init>"), (0, u "()V"), (0, .fieldref 8 9), (0, .class_ 10), (0, .nameAndType 11 12), (0, u "com/example/orrery/orrery/types/SqlType"), (0, u "kind"), (0, u "Lcom/example/orrery/orrery/types/SqlType$Kind;"), (0, .fieldref 8 14), (0, .nameAndType 15 16), (0, u "precision"), (0, u "I"), (0, .fieldref 8 18), (0, .nameAndType 19 16), (0, u "scale"), (0, .fieldref 8 21), (0, .nameAndType 22 16), (0, u "length"), (10, .class_ 35), (1, u "com/example/orrery/orrery/types/SqlType$Kind"), (3, u "(Lcom/example/orrery/orrery/types/SqlType$Kind;III)V"), (11, u "SPELLING"), (0, u "Ljava/util/regex/Pattern;"), (47, u "BIGINT"), (5, u "INTEGER"), (1, u "DATE"), (7, u "Lcom/example/orrery/orrery/types/SqlType;"), (55, .fieldref 33 173), (0, .nameAndType 174 175), (0, u "family"), (0, u "Lcom/example/orrery/orrery/types/SqlType$Family;"), (1, .class_ 179), (1, u "com/example/orrery/orrery/types/SqlType$Family"), (32, u "MAX_DECIMAL_PRECISION"), (11, u "comparableWith"), (0, u "(Lcom/example/orrery/orrery/types/SqlType;)Z")] 49

def k3c0 : Code := { maxStack := 2, maxLocals := 5, code := prog_120_method_1_code, exceptionTable := #[], attributes := #[] }
def k3m0 : Method := { name := "<init>", desc := "(Lcom/example/orrery/orrery/types/SqlType$Kind;III)V", sig := { parameters := [(.object "com/example/orrery/orrery/types/SqlType$Kind"), .int, .int, .int], returnType := none }, accessFlags := 1, code := some k3c0 }
def k3c1 : Code := { maxStack := 2, maxLocals := 2, code := prog_120_method_8_code, exceptionTable := #[], attributes := #[] }
def k3m1 : Method := { name := "comparableWith", desc := "(Lcom/example/orrery/orrery/types/SqlType;)Z", sig := { parameters := [(.object "com/example/orrery/orrery/types/SqlType")], returnType := some .boolean }, accessFlags := 1, code := some k3c1 }
/-- com/example/orrery/orrery/types/SqlType -/
def k3 : Class := { plain "com/example/orrery/orrery/types/SqlType" (some 2) with
  accessFlags := 49
  interfaces := #[]
  cf := some (fileOf pool3 8 #[.nestMembers #[177, 33]] #[{ accessFlags := 1, nameIndex := 5, descriptorIndex := 39, attributes := #[] }, { accessFlags := 1, nameIndex := 224, descriptorIndex := 225, attributes := #[] }] 49 2 #[] #[{ accessFlags := 18, nameIndex := 11, descriptorIndex := 12, attributes := #[] }, { accessFlags := 18, nameIndex := 15, descriptorIndex := 16, attributes := #[] }, { accessFlags := 18, nameIndex := 19, descriptorIndex := 16, attributes := #[] }, { accessFlags := 18, nameIndex := 22, descriptorIndex := 16, attributes := #[] }, { accessFlags := 25, nameIndex := 212, descriptorIndex := 16, attributes := #[] }, { accessFlags := 25, nameIndex := 100, descriptorIndex := 116, attributes := #[] }, { accessFlags := 25, nameIndex := 106, descriptorIndex := 116, attributes := #[] }, { accessFlags := 25, nameIndex := 108, descriptorIndex := 116, attributes := #[] }, { accessFlags := 26, nameIndex := 51, descriptorIndex := 52, attributes := #[] }])
  fields := #[{ name := "kind", type := (.object "com/example/orrery/orrery/types/SqlType$Kind"), accessFlags := 18, slot := 0, constantValue := 0 }, { name := "precision", type := .int, accessFlags := 18, slot := 1, constantValue := 0 }, { name := "scale", type := .int, accessFlags := 18, slot := 2, constantValue := 0 }, { name := "length", type := .int, accessFlags := 18, slot := 3, constantValue := 0 }, { name := "MAX_DECIMAL_PRECISION", type := .int, accessFlags := 25, slot := 0, constantValue := 0 }, { name := "BIGINT", type := (.object "com/example/orrery/orrery/types/SqlType"), accessFlags := 25, slot := 1, constantValue := 0 }, { name := "INTEGER", type := (.object "com/example/orrery/orrery/types/SqlType"), accessFlags := 25, slot := 2, constantValue := 0 }, { name := "DATE", type := (.object "com/example/orrery/orrery/types/SqlType"), accessFlags := 25, slot := 3, constantValue := 0 }, { name := "SPELLING", type := (.object "java/util/regex/Pattern"), accessFlags := 26, slot := 4, constantValue := 0 }]
  methods := #[k3m0, k3m1]
  instanceTypes := #[(.object "com/example/orrery/orrery/types/SqlType$Kind"), .int, .int, .int]
  staticTypes := #[.int, (.object "com/example/orrery/orrery/types/SqlType"), (.object "com/example/orrery/orrery/types/SqlType"), (.object "com/example/orrery/orrery/types/SqlType"), (.object "java/util/regex/Pattern")]
  resolved := Array.replicate 172 none ++ #[some (.field 8 6)] ++ Array.replicate 102 none
  statics := none }

def pool4 : Array CpInfo := pool [(1, .class_ 2), (0, u "java/lang/constant/Constable"), (0, .class_ 4), (0, u "java/lang/Object")] 6

/-- java/lang/constant/Constable -/
def k4 : Class := { plain "java/lang/constant/Constable" (some 0) with
  accessFlags := 1537
  interfaces := #[]
  cf := some (fileOf pool4 1 #[] #[] 1537 3 #[] #[])
  fields := #[]
  methods := #[]
  instanceTypes := #[]
  staticTypes := #[]
  resolved := Array.replicate 11 none
  statics := none }

def pool5 : Array CpInfo := pool [(1, .class_ 2), (0, u "java/lang/Comparable"), (0, .class_ 4), (0, u "java/lang/Object")] 7

/-- java/lang/Comparable -/
def k5 : Class := { plain "java/lang/Comparable" (some 0) with
  accessFlags := 1537
  interfaces := #[]
  cf := some (fileOf pool5 1 #[] #[] 1537 3 #[] #[])
  fields := #[]
  methods := #[]
  instanceTypes := #[]
  staticTypes := #[]
  resolved := Array.replicate 12 none
  statics := none }

def pool6 : Array CpInfo := pool [(1, .class_ 2), (0, u "java/io/Serializable"), (0, .class_ 4), (0, u "java/lang/Object")] 2

/-- java/io/Serializable -/
def k6 : Class := { plain "java/io/Serializable" (some 0) with
  accessFlags := 1537
  interfaces := #[]
  cf := some (fileOf pool6 1 #[] #[] 1537 3 #[] #[])
  fields := #[]
  methods := #[]
  instanceTypes := #[]
  staticTypes := #[]
  resolved := Array.replicate 7 none
  statics := none }

def pool7 : Array CpInfo := pool [(2, .class_ 4), (1, u "java/lang/Enum"), (0, u "name"), (0, u "Ljava/lang/String;"), (2, u "ordinal"), (0, u "I"), (1, .class_ 14), (1, u "java/lang/Object"), (4, u "hash"), (86, .class_ 108), (1, u "java/lang/Enum$EnumDesc"), (2, .class_ 112), (0, u "java/lang/constant/Constable"), (0, .class_ 114), (0, u "java/lang/Comparable"), (0, .class_ 116), (0, u "java/io/Serializable")] 87

/-- java/lang/Enum -/
def k7 : Class := { plain "java/lang/Enum" (some 0) with
  accessFlags := 1057
  interfaces := #[4, 5, 6]
  cf := some (fileOf pool7 2 #[.nestMembers #[106]] #[] 1057 12 #[111, 113, 115] #[{ accessFlags := 18, nameIndex := 5, descriptorIndex := 6, attributes := #[] }, { accessFlags := 18, nameIndex := 9, descriptorIndex := 10, attributes := #[] }, { accessFlags := 2, nameIndex := 19, descriptorIndex := 10, attributes := #[] }])
  fields := #[{ name := "name", type := (.object "java/lang/String"), accessFlags := 18, slot := 0, constantValue := 0 }, { name := "ordinal", type := .int, accessFlags := 18, slot := 1, constantValue := 0 }, { name := "hash", type := .int, accessFlags := 2, slot := 2, constantValue := 0 }]
  methods := #[]
  instanceTypes := #[(.object "java/lang/String"), .int, .int]
  staticTypes := #[]
  resolved := Array.replicate 204 none
  statics := none }

def pool8 : Array CpInfo := pool [(1, .class_ 2), (0, u "com/example/orrery/orrery/types/SqlType$Kind"), (2, u "BIGINT"), (0, u "Lcom/example/orrery/orrery/types/SqlType$Kind;"), (2, u "INTEGER"), (2, u "DECIMAL"), (2, u "DATE"), (2, u "CHAR"), (2, u "VARCHAR"), (2, u "$VALUES"), (0, u "[Lcom/example/orrery/orrery/types/SqlType$Kind;"), (6, .class_ 34), (1, u "java/lang/Enum"), (8, u "family"), (0, u "Lcom/example/orrery/orrery/types/SqlType$Family;"), (36, .class_ 82), (0, u "com/example/orrery/orrery/types/SqlType")] 3

/-- com/example/orrery/orrery/types/SqlType$Kind -/
def k8 : Class := { plain "com/example/orrery/orrery/types/SqlType$Kind" (some 7) with
  accessFlags := 16433
  interfaces := #[]
  cf := some (fileOf pool8 1 #[.nestHost 81] #[] 16433 32 #[] #[{ accessFlags := 16409, nameIndex := 5, descriptorIndex := 6, attributes := #[] }, { accessFlags := 16409, nameIndex := 9, descriptorIndex := 6, attributes := #[] }, { accessFlags := 16409, nameIndex := 12, descriptorIndex := 6, attributes := #[] }, { accessFlags := 16409, nameIndex := 15, descriptorIndex := 6, attributes := #[] }, { accessFlags := 16409, nameIndex := 18, descriptorIndex := 6, attributes := #[] }, { accessFlags := 16409, nameIndex := 21, descriptorIndex := 6, attributes := #[] }, { accessFlags := 18, nameIndex := 43, descriptorIndex := 44, attributes := #[] }, { accessFlags := 4122, nameIndex := 24, descriptorIndex := 25, attributes := #[] }])
  fields := #[{ name := "BIGINT", type := (.object "com/example/orrery/orrery/types/SqlType$Kind"), accessFlags := 16409, slot := 0, constantValue := 0 }, { name := "INTEGER", type := (.object "com/example/orrery/orrery/types/SqlType$Kind"), accessFlags := 16409, slot := 1, constantValue := 0 }, { name := "DECIMAL", type := (.object "com/example/orrery/orrery/types/SqlType$Kind"), accessFlags := 16409, slot := 2, constantValue := 0 }, { name := "DATE", type := (.object "com/example/orrery/orrery/types/SqlType$Kind"), accessFlags := 16409, slot := 3, constantValue := 0 }, { name := "CHAR", type := (.object "com/example/orrery/orrery/types/SqlType$Kind"), accessFlags := 16409, slot := 4, constantValue := 0 }, { name := "VARCHAR", type := (.object "com/example/orrery/orrery/types/SqlType$Kind"), accessFlags := 16409, slot := 5, constantValue := 0 }, { name := "family", type := (.object "com/example/orrery/orrery/types/SqlType$Family"), accessFlags := 18, slot := 3, constantValue := 0 }, { name := "$VALUES", type := (.array (.object "com/example/orrery/orrery/types/SqlType$Kind")), accessFlags := 4122, slot := 6, constantValue := 0 }]
  methods := #[]
  instanceTypes := #[(.object "java/lang/String"), .int, .int, (.object "com/example/orrery/orrery/types/SqlType$Family")]
  staticTypes := #[(.object "com/example/orrery/orrery/types/SqlType$Kind"), (.object "com/example/orrery/orrery/types/SqlType$Kind"), (.object "com/example/orrery/orrery/types/SqlType$Kind"), (.object "com/example/orrery/orrery/types/SqlType$Kind"), (.object "com/example/orrery/orrery/types/SqlType$Kind"), (.object "com/example/orrery/orrery/types/SqlType$Kind"), (.array (.object "com/example/orrery/orrery/types/SqlType$Kind"))]
  resolved := Array.replicate 86 none
  statics := some 0 }

def pool9 : Array CpInfo := pool [(1, .class_ 2), (0, u "com/example/orrery/orrery/types/SqlType$Family"), (2, u "NUMBER"), (0, u "Lcom/example/orrery/orrery/types/SqlType$Family;"), (2, u "TEXT"), (2, u "DATE"), (2, u "$VALUES"), (0, u "[Lcom/example/orrery/orrery/types/SqlType$Family;"), (6, .class_ 25), (1, u "java/lang/Enum"), (26, .class_ 53), (0, u "com/example/orrery/orrery/types/SqlType")] 2

/-- com/example/orrery/orrery/types/SqlType$Family -/
def k9 : Class := { plain "com/example/orrery/orrery/types/SqlType$Family" (some 7) with
  accessFlags := 16432
  interfaces := #[]
  cf := some (fileOf pool9 1 #[.nestHost 52] #[] 16432 23 #[] #[{ accessFlags := 16409, nameIndex := 5, descriptorIndex := 6, attributes := #[] }, { accessFlags := 16409, nameIndex := 9, descriptorIndex := 6, attributes := #[] }, { accessFlags := 16409, nameIndex := 12, descriptorIndex := 6, attributes := #[] }, { accessFlags := 4122, nameIndex := 15, descriptorIndex := 16, attributes := #[] }])
  fields := #[{ name := "NUMBER", type := (.object "com/example/orrery/orrery/types/SqlType$Family"), accessFlags := 16409, slot := 0, constantValue := 0 }, { name := "TEXT", type := (.object "com/example/orrery/orrery/types/SqlType$Family"), accessFlags := 16409, slot := 1, constantValue := 0 }, { name := "DATE", type := (.object "com/example/orrery/orrery/types/SqlType$Family"), accessFlags := 16409, slot := 2, constantValue := 0 }, { name := "$VALUES", type := (.array (.object "com/example/orrery/orrery/types/SqlType$Family")), accessFlags := 4122, slot := 3, constantValue := 0 }]
  methods := #[]
  instanceTypes := #[(.object "java/lang/String"), .int, .int]
  staticTypes := #[(.object "com/example/orrery/orrery/types/SqlType$Family"), (.object "com/example/orrery/orrery/types/SqlType$Family"), (.object "com/example/orrery/orrery/types/SqlType$Family"), (.array (.object "com/example/orrery/orrery/types/SqlType$Family"))]
  resolved := Array.replicate 56 none
  statics := some 1 }

def pool10 : Array CpInfo := pool [(1, u "java/lang/Cloneable"), (0, .class_ 1), (0, u "java/lang/Object"), (0, .class_ 3)] 3

/-- java/lang/Cloneable -/
def k10 : Class := { plain "java/lang/Cloneable" (some 0) with
  accessFlags := 1537
  interfaces := #[]
  cf := some (fileOf pool10 2 #[] #[] 1537 4 #[] #[])
  fields := #[]
  methods := #[]
  instanceTypes := #[]
  staticTypes := #[]
  resolved := Array.replicate 8 none
  statics := none }

/-- the primitive byte -/
def k11 : Class := { plain "byte" none with kind := .primitive 'B', accessFlags := 0x411 }
/-- [B -/
def k12 : Class := { plain "[B" (some 0) with kind := .array 11 .byte, interfaces := #[10, 6], accessFlags := 1041 }

/-- the primitive int -/
def k13 : Class := { plain "int" none with kind := .primitive 'I', accessFlags := 0x411 }
/-- [I -/
def k14 : Class := { plain "[I" (some 0) with kind := .array 13 .int, interfaces := #[10, 6], accessFlags := 1041 }

def heap : Heap := #[{ cls := 8, slots := #[.ref 5, .ref 6, .ref 7, .ref 8, .ref 9, .ref 10, .null], vm := .statics 8 },
  { cls := 9, slots := #[.ref 2, .ref 3, .ref 4, .null], vm := .statics 9 },
  { cls := 9, slots := #[.null, .int 0, .int 0], vm := .none },
  { cls := 9, slots := #[.null, .int 1, .int 0], vm := .none },
  { cls := 9, slots := #[.null, .int 2, .int 0], vm := .none },
  { cls := 8, slots := #[.null, .int 0, .int 0, .ref 2], vm := .none },
  { cls := 8, slots := #[.null, .int 1, .int 0, .ref 2], vm := .none },
  { cls := 8, slots := #[.null, .int 2, .int 0, .ref 2], vm := .none },
  { cls := 8, slots := #[.null, .int 3, .int 0, .ref 4], vm := .none },
  { cls := 8, slots := #[.null, .int 4, .int 0, .ref 3], vm := .none },
  { cls := 8, slots := #[.null, .int 5, .int 0, .ref 3], vm := .none }]
def classes : Array Class := #[k0, k1, k2, k3, k4, k5, k6, k7, k8, k9, k10, k11, k12, k13, k14]
def interned : List (Array UInt16 × Addr) := []
def slotsUsed : Nat := 44
def theMethod : MethodId := ⟨1, 3⟩
def args0 : Array Value := #[.int 3, .int 4, .int 5, .int 6, .int 7, .int 8]
def aboutOver (below : List Frame) : State where
  vm := { classes := classes, interned := interned.toArray }
  heap := heap
  slotsUsed := slotsUsed
  threads := #[{ frames := .invoking theMethod args0 :: below }]
def below0 : List Frame := [.native { method := ⟨0, 0⟩, args := #[] }]
def about1 : State := aboutOver below0
def p0 : Program := .bare "" "" ""
def e0 : Env := launch0.env 0 0 0
theorem w_frames : about1.frames = Frame.invoking theMethod args0 :: below0 := rfl
set_option maxRecDepth 65536 in
theorem w_args : argsFit about1.vm theMethod args0 = true := by decide +kernel
set_option maxRecDepth 65536 in
theorem w_heap : heapFits about1 = true := by decide +kernel
set_option maxRecDepth 65536 in
theorem w_runnable : about1.curStatus? = some .runnable := by decide +kernel
set_option maxRecDepth 65536 in
theorem w_alone : about1.alone = true := by decide +kernel
set_option maxRecDepth 65536 in
theorem w_named : about1.methodNamed? x = some theMethod := by decide +kernel
set_option maxRecDepth 65536 in
theorem w_hears : about1.hears theMethod below0 = true := by decide +kernel
set_option maxRecDepth 65536 in
theorem w_ripe : about1.ripe theMethod args0 below0 = true := by decide +kernel
theorem w_running : about1.status = .running := rfl
set_option maxRecDepth 65536 in
theorem w_room : about1.hasRoom e0.platform room_1 = true :=
  launch0.hasRoom_least _ room_1 (by decide +kernel) (by decide +kernel) (by decide +kernel) (by decide +kernel) (by decide +kernel) (by decide +kernel)
theorem allAtoms_all (ts : List Jvm.Cond) (a : Array Jvm.Value) (st : Jvm.State) : (allAtoms ts).before a st = ts.all (fun c => c.before a st) := by
  induction ts with
  | nil => rfl
  | cons c t ih =>
    show (Jvm.Cond.and c (allAtoms t)).before a st = _
    rw [Jvm.Cond.before_and, ih, List.all_cons]
def words1 : List Jvm.Cond := Jvm.Cond.code x code maxLocals ret :: tables_1
/-- a 'code' word, met by the world's own term for the bytes: nothing is compared byte by byte -/
theorem code_word {y : MethodName} {bytes : ByteArray} {mx : Nat} {rt : Option FieldType} {a : Array Value} {s : State} {m : MethodId} {meth : Method} {c : Code} (h1 : s.methodNamed? y = some m) (h2 : s.vm.method? m = some meth) (h3 : meth.code = some c) (h4 : c.code = bytes)
    (h5 : (c.maxLocals == mx && c.exceptionTable.isEmpty && decide (c.maxStack ≤ mostOperands) && decide (meth.sig.returnType = rt) && !meth.locks && decide (parseMethodDescriptor y.desc = some meth.sig)) = true) : (Jvm.Cond.code y bytes mx rt).before a s = true := by
  simp only [Bool.and_eq_true, beq_iff_eq, Bool.not_eq_true', decide_eq_true_eq] at h5
  obtain ⟨⟨⟨⟨⟨g1, g2⟩, g3⟩, g4⟩, g5⟩, g6⟩ := h5
  simp [Cond.before, Cond.holds, Cond.value, h1, h2, h3, h4, g1, g2, g3, g4, g5, g6]
def isCode : Jvm.Cond → Bool
  | .code _ _ _ _ => true
  | _ => false
theorem all_split {L : List Jvm.Cond} {P : Jvm.Cond → Bool} (h1 : L.all (fun c => isCode c || P c) = true) (h2 : ∀ c ∈ L.filter isCode, P c = true) : L.all P = true := by
  refine List.all_eq_true.mpr fun c hc => ?_
  have h := List.all_eq_true.mp h1 c hc
  rcases Bool.eq_false_or_eq_true (isCode c) with hi | hi
  · exact h2 c (List.mem_filter.mpr ⟨hc, hi⟩)
  · simpa [hi] using h
set_option maxRecDepth 65536 in
theorem w_c0 : (Jvm.Cond.code x code maxLocals ret).before args0 about1 = true := code_word (m := ⟨1, 3⟩) (meth := k1m3) (c := k1c3) (by decide +kernel) rfl rfl rfl (by decide +kernel)
set_option maxRecDepth 65536 in
theorem w_c1 : (Jvm.Cond.code ({ cls := "com/example/orrery/orrery/types/SqlTypeComparableWithPinLaw", name := "kindOf", desc := "(I)Lcom/example/orrery/orrery/types/SqlType$Kind;" } : Jvm.MethodName) method_2_code (1 : Nat) (Option.some (Jvm.ClassFile.FieldType.object "com/example/orrery/orrery/types/SqlType$Kind"))).before args0 about1 = true := code_word (m := ⟨1, 1⟩) (meth := k1m1) (c := k1c1) (by decide +kernel) rfl rfl rfl (by decide +kernel)
set_option maxRecDepth 65536 in
theorem w_c2 : (Jvm.Cond.code ({ cls := "com/example/orrery/orrery/types/SqlType", name := "<init>", desc := "(Lcom/example/orrery/orrery/types/SqlType$Kind;III)V" } : Jvm.MethodName) prog_120_method_1_code (5 : Nat) (Option.none : Option Jvm.ClassFile.FieldType)).before args0 about1 = true := code_word (m := ⟨3, 0⟩) (meth := k3m0) (c := k3c0) (by decide +kernel) rfl rfl rfl (by decide +kernel)
set_option maxRecDepth 65536 in
theorem w_c3 : (Jvm.Cond.code ({ cls := "java/lang/Record", name := "<init>", desc := "()V" } : Jvm.MethodName) jdk_30_method_1_code (1 : Nat) (Option.none : Option Jvm.ClassFile.FieldType)).before args0 about1 = true := code_word (m := ⟨2, 0⟩) (meth := k2m0) (c := k2c0) (by decide +kernel) rfl rfl rfl (by decide +kernel)
set_option maxRecDepth 65536 in
theorem w_c4 : (Jvm.Cond.code ({ cls := "java/lang/Object", name := "<init>", desc := "()V" } : Jvm.MethodName) object_method_1_code (1 : Nat) (Option.none : Option Jvm.ClassFile.FieldType)).before args0 about1 = true := code_word (m := ⟨0, 0⟩) (meth := k0m0) (c := k0c0) (by decide +kernel) rfl rfl rfl (by decide +kernel)
set_option maxRecDepth 65536 in
theorem w_c5 : (Jvm.Cond.code ({ cls := "com/example/orrery/orrery/types/SqlTypeComparableWithPinLaw", name := "familyOf", desc := "(I)I" } : Jvm.MethodName) method_3_code (1 : Nat) (Option.some Jvm.ClassFile.FieldType.int)).before args0 about1 = true := code_word (m := ⟨1, 2⟩) (meth := k1m2) (c := k1c2) (by decide +kernel) rfl rfl rfl (by decide +kernel)
set_option maxRecDepth 65536 in
theorem w_c6 : (Jvm.Cond.code ({ cls := "com/example/orrery/orrery/types/SqlType", name := "comparableWith", desc := "(Lcom/example/orrery/orrery/types/SqlType;)Z" } : Jvm.MethodName) prog_120_method_8_code (2 : Nat) (Option.some Jvm.ClassFile.FieldType.boolean)).before args0 about1 = true := code_word (m := ⟨3, 1⟩) (meth := k3m1) (c := k3c1) (by decide +kernel) rfl rfl rfl (by decide +kernel)
def codes1 : List Jvm.Cond := [Jvm.Cond.code x code maxLocals ret, Jvm.Cond.code ({ cls := "com/example/orrery/orrery/types/SqlTypeComparableWithPinLaw", name := "kindOf", desc := "(I)Lcom/example/orrery/orrery/types/SqlType$Kind;" } : Jvm.MethodName) method_2_code (1 : Nat) (Option.some (Jvm.ClassFile.FieldType.object "com/example/orrery/orrery/types/SqlType$Kind")), Jvm.Cond.code ({ cls := "com/example/orrery/orrery/types/SqlType", name := "<init>", desc := "(Lcom/example/orrery/orrery/types/SqlType$Kind;III)V" } : Jvm.MethodName) prog_120_method_1_code (5 : Nat) (Option.none : Option Jvm.ClassFile.FieldType), Jvm.Cond.code ({ cls := "java/lang/Record", name := "<init>", desc := "()V" } : Jvm.MethodName) jdk_30_method_1_code (1 : Nat) (Option.none : Option Jvm.ClassFile.FieldType), Jvm.Cond.code ({ cls := "java/lang/Object", name := "<init>", desc := "()V" } : Jvm.MethodName) object_method_1_code (1 : Nat) (Option.none : Option Jvm.ClassFile.FieldType), Jvm.Cond.code ({ cls := "com/example/orrery/orrery/types/SqlTypeComparableWithPinLaw", name := "familyOf", desc := "(I)I" } : Jvm.MethodName) method_3_code (1 : Nat) (Option.some Jvm.ClassFile.FieldType.int), Jvm.Cond.code ({ cls := "com/example/orrery/orrery/types/SqlType", name := "comparableWith", desc := "(Lcom/example/orrery/orrery/types/SqlType;)Z" } : Jvm.MethodName) prog_120_method_8_code (2 : Nat) (Option.some Jvm.ClassFile.FieldType.boolean)]
set_option maxRecDepth 65536 in
theorem codes_eq : words1.filter isCode = codes1 := rfl
theorem w_codes : ∀ c ∈ words1.filter isCode, c.before args0 about1 = true := by
  rw [codes_eq]
  intro c hc
  simp only [codes1, List.mem_cons, List.not_mem_nil, or_false] at hc
  rcases hc with rfl | rfl | rfl | rfl | rfl | rfl | rfl
  · exact w_c0
  · exact w_c1
  · exact w_c2
  · exact w_c3
  · exact w_c4
  · exact w_c5
  · exact w_c6
set_option maxRecDepth 65536 in
theorem w_t1 : (words1.take 24).all (fun c => isCode c || c.before args0 about1) = true := by decide +kernel
set_option maxRecDepth 65536 in
theorem w_t2 : ((words1.drop 24).take 24).all (fun c => isCode c || c.before args0 about1) = true := by decide +kernel
set_option maxRecDepth 65536 in
theorem w_t3 : ((words1.drop 24).drop 24).all (fun c => isCode c || c.before args0 about1) = true := by decide +kernel
theorem w_tables : (allAtoms (Jvm.Cond.code x code maxLocals ret :: tables_1)).before args0 about1 = true := by
  rw [allAtoms_all]
  show words1.all (fun c => c.before args0 about1) = true
  refine all_split ?_ w_codes
  rw [← List.take_append_drop 24 words1, List.all_append, w_t1, ← List.take_append_drop 24 (words1.drop 24), List.all_append, w_t2, w_t3]
  rfl
set_option maxRecDepth 65536 in
theorem w_case : (Jvm.Cond.and given_1 narrow_1).before args0 about1 = true := by decide +kernel
theorem w_applies : (headSpec (Jvm.Cond.code x code maxLocals ret :: tables_1) room_1).applies x e0.platform about1 = true :=
  (Spec.applies_iff w_frames).mpr ⟨w_running, w_runnable, w_alone, w_named, w_hears, w_ripe, w_room, w_tables⟩
theorem atStart : AtStart classFile x code maxLocals ret World_1 tables_1 room_1 Calls_1 rest_1 Pre_1 launch0 p0 e0 about1 theMethod args0 below0 :=
  ⟨lists_1, trivial, launch0.admits_env _ _ _, launch0.least_env, fairChoices_fair.cas, fairChoices_fair.clock, w_frames, w_args, w_heap, w_applies, trivial, trivial, w_case⟩
end start1
theorem witness_1 : WitnessClaimed_1 := ⟨start1.p0, start1.e0, start1.about1, start1.theMethod, start1.args0, start1.below0, start1.atStart⟩
end Jvm.Pilot.@@N@@
