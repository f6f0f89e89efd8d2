import JvmDerived
import JvmDerived.Pilot.@@N@@Statement
import JvmDerived.Pilot.@@N@@Code
set_option linter.unusedVariables false
set_option linter.unusedSimpArgs false
namespace Jvm.Pilot.@@N@@
open Jvm Jvm.ClassFile Sem Op Lib Jvm.Free Jvm.Stand Jvm.LawKit Jvm.RoadKit Bundle Jvm.Pilot.@@N@@.Jvm.D
/-- whoever comes on from (T, g) comes from A -/
abbrev Gz (tb : Tables) (e : Env) (below : List Frame) (A T : State) (g : JFrame) : Prop := ∀ t, Steps tb e below (T.setTop g) t → Steps tb e below A t
theorem own_eqI {args : Array Value} {first s : State} {o : Option Outcome} {idx : List Nat} {a : Term} {n : Int32} (h : (Jvm.Cond.eq a (.int n)).value args first o s idx = some true) : a.eval args first o idx s = some (.int n) := by
  simp only [Cond.value, Term.eval] at h
  cases ha : a.eval args first o idx s with
  | none => simp [ha] at h
  | some x => cases x <;> simp [ha] at h ⊢ <;> exact h
theorem own_eqJ {args : Array Value} {first s : State} {o : Option Outcome} {idx : List Nat} {a : Term} {n : Int64} (h : (Jvm.Cond.eq a (.long n)).value args first o s idx = some true) : a.eval args first o idx s = some (.long n) := by
  simp only [Cond.value, Term.eval] at h
  cases ha : a.eval args first o idx s with
  | none => simp [ha] at h
  | some x => cases x <;> simp [ha] at h ⊢ <;> exact h
theorem own_eqR {args : Array Value} {first s : State} {o : Option Outcome} {idx : List Nat} {a b : Term} {x y : Addr} (h : (Jvm.Cond.eq a b).value args first o s idx = some true) (ha : a.eval args first o idx s = some (.ref x)) (hb : b.eval args first o idx s = some (.ref y)) : x = y := by
  simp only [Cond.value, ha, hb] at h
  simpa using h
theorem own_fldI {args : Array Value} {s : State} {t : Term} {C f d : String} {n : Int32} {x : Addr} (h : (Jvm.Cond.eq (.field t C f d) (.int n)).value args s none s [] = some true) (ht : t.eval args s none [] s = some (.ref x)) : Fld s s.heap x C f d (.int n) :=
  Fld.start (by rw [← fld_at (C := C) (n := f) (dd := d) ht]; exact own_eqI h)
theorem own_fldJ {args : Array Value} {s : State} {t : Term} {C f d : String} {n : Int64} {x : Addr} (h : (Jvm.Cond.eq (.field t C f d) (.long n)).value args s none s [] = some true) (ht : t.eval args s none [] s = some (.ref x)) : Fld s s.heap x C f d (.long n) :=
  Fld.start (by rw [← fld_at (C := C) (n := f) (dd := d) ht]; exact own_eqJ h)
theorem own_fldN {args : Array Value} {s : State} {t : Term} {C f d : String} {x : Addr} (h : (Jvm.Cond.eq (.field t C f d) .null).value args s none s [] = some true) (ht : t.eval args s none [] s = some (.ref x)) : Fld s s.heap x C f d .null :=
  Fld.start (by rw [← fld_at (C := C) (n := f) (dd := d) ht]; exact null_v h)
theorem own_ext {h0 h : Heap} (K : Keep h0 h []) : Ext h0 h := ⟨K.1, fun x c q => K.2.1 x c q nin0⟩
theorem own_keep {h0 h : Heap} (E : Ext h0 h) : Keep h0 h [] := (Keep.refl h0 []).ext E
theorem own_extE {h0 h h' : Heap} (K : Ext h0 h) (E : Ext h h') : Ext h0 h' := ⟨Nat.le_trans K.1 E.1, fun a c q => E.2 a c (K.2 a c q)⟩
theorem own_extW {h0 h h' : Heap} {a : Addr} {sl : Nat} {v : Value} (K : Ext h0 h) (W : Wr h h' a sl v) (q : h0.size ≤ a) : Ext h0 h' := own_ext ((own_keep K).wr W (Or.inr q))
theorem own_refl (h : Heap) : Ext h h := ⟨Nat.le_refl _, fun _ _ q => q⟩
theorem own_extK {h0 h h' : Heap} {ws : List Addr} (K : Ext h0 h) (Q : Keep h h' ws) (q : ∀ x ∈ ws, h0.size ≤ x) : Ext h0 h' := ⟨Nat.le_trans K.1 Q.1, fun a c hc => Q.2.1 a c (K.2 a c hc) fun z => absurd (Array.getElem?_eq_some_iff.mp hc).1 (Nat.not_lt.mpr (q a z))⟩
theorem own_getR {p : Program} {l : Launch} {e : Env} {R : Room} {s : State} {m : MethodId} {args : Array Value} {below : List Frame} {meth : Method} {c : Code} {T : State} {locs : List Loc} {cells slots : Nat} {Z : State} {a0 : Array Value} {h : Heap}
    (X : Stand p l e R s m args below meth c T locs cells slots) (hx : p.tables.exec = Jvm.exec) (hZ : Z.Warmed39 s.vm) {own O n d : String} {index : Nat} (hown : s.vm.findClass own = some m.cls) (w : (Cond.fieldRef own index O n d).before a0 Z = true) (eT : T.heap = h) {a : Addr} {v : Value} (F : Fld Z h a O n d v)
    {g : JFrame} (hg : g.method = m) {rest : List Value} (hs : g.stack = .ref a :: rest) (hd : decode c.code g.pc = .ok (.getfield index, 3)) : ∀ target, Steps p.tables e below (T.setTop { g with pc := g.pc + 3, stack := v :: rest }) target → Steps p.tables e below (T.setTop g) target := by
  obtain ⟨cell, cf, k, i, f, h1, h2, h3, h4, -, -, h7⟩ := F
  have hT : Z.Warmed39 T.vm := wtrans hZ X.warmed
  have w1 : (Cond.fieldRef own index O n d).before a0 (Z.setVm T.vm) = true := Cond.fieldRef_warmed39 hT w
  have hownT : (Z.setVm T.vm).vm.findClass own = some m.cls := by show T.vm.findClass own = _; rw [X.warmed.alike.findClass]; exact hown
  obtain ⟨c', k', i', f', hi, hready⟩ := Cond.fieldRef_spec (s := Z.setVm T.vm) hownT w1
  obtain ⟨k'', hi', -⟩ := State.fieldFound?_setVm (s := Z) hT.alike h2
  cases hi.symm.trans hi'
  exact fun target ht => (X.getfieldR hx hg hready h3 hs (by rw [eT]; exact h1) h4 h7 hd (Steps.refl _)).trans ht
theorem own_eqRef {args : Array Value} {first s : State} {o : Option Outcome} {idx : List Nat} {a b : Term} {y : Addr} (h : (Jvm.Cond.eq a b).value args first o s idx = some true) (hb : b.eval args first o idx s = some (.ref y)) : a.eval args first o idx s = some (.ref y) := by
  simp only [Cond.value, hb] at h
  cases ha : a.eval args first o idx s with
  | none => simp [ha] at h
  | some x => cases x <;> simp [ha] at h ⊢ <;> exact h
theorem own_fldR {args : Array Value} {s : State} {t u : Term} {C f d : String} {x y : Addr} (h : (Jvm.Cond.eq (.field t C f d) u).value args s none s [] = some true) (ht : t.eval args s none [] s = some (.ref x)) (hu : u.eval args s none [] s = some (.ref y)) : Fld s s.heap x C f d (.ref y) :=
  Fld.start (by rw [← fld_at (C := C) (n := f) (dd := d) ht]; exact own_eqRef h hu)
theorem own_len {args : Array Value} {s : State} {t : Term} {a : Addr} {cl : Cell} {z : Int32} (h : (Term.length t).eval args s none [] s = some (.int z)) (ht : t.eval args s none [] s = some (.ref a)) (ha : s.arrayAt? a = some cl) : cl.slots.size < 2 ^ 31 ∧ cl.slots.size.toInt32 = z := by
  simp only [Term.eval, ht, ha, Option.bind_eq_bind, Option.bind_some] at h
  split at h
  · rename_i q; exact ⟨q, by simpa using h⟩
  · cases h
theorem own_fldL {args : Array Value} {s : State} {idx : List Nat} {t u : Term} {C f d : String} {n : Int64} {x : Addr} (h : (Jvm.Cond.eq (.field t C f d) u).value args s none s idx = some true) (ht : t.eval args s none idx s = some (.ref x)) (hu : u.eval args s none idx s = some (.long n)) : Fld s s.heap x C f d (.long n) :=
  Fld.start (by
    rw [← fld_at (C := C) (n := f) (dd := d) ht]
    simp only [Cond.value, hu] at h
    cases ha : (Term.field t C f d).eval args s none idx s with
    | none => simp [ha] at h
    | some x => cases x <;> simp [ha] at h ⊢ <;> exact h)
theorem own_fldI2 {args : Array Value} {s : State} {idx : List Nat} {t u : Term} {C f d : String} {n : Int32} {x : Addr} (h : (Jvm.Cond.eq (.field t C f d) u).value args s none s idx = some true) (ht : t.eval args s none idx s = some (.ref x)) (hu : u.eval args s none idx s = some (.int n)) : Fld s s.heap x C f d (.int n) :=
  Fld.start (by
    rw [← fld_at (C := C) (n := f) (dd := d) ht]
    simp only [Cond.value, hu] at h
    cases ha : (Term.field t C f d).eval args s none idx s with
    | none => simp [ha] at h
    | some x => cases x <;> simp [ha] at h ⊢ <;> exact h)
theorem own_selp {s : State} {args : Array Value} {y z : MethodName} (hsel : (Cond.selects z.cls z z).before args s = true) (hcls : z.cls = y.cls) (hpriv : s.PrivateAt y) (hinst : (Cond.instanceMethod y).before args s = true) (hy : y.cls ≠ "java/lang/invoke/MethodHandle" ∧ y.cls ≠ "java/lang/invoke/VarHandle") : (Cond.selects y.cls y y).before args s = true := by
  obtain ⟨c2, r2, m2, q1, q2, q3, q4, kP, hkP, hkPi⟩ := Cond.selects_spec hsel
  exact selects_self_of_private (hcls ▸ findClass_of_methodNamed q3) hkP hkPi hpriv hinst hy
theorem own_nat {z : Int32} (h : 0 ≤ z.toInt) : z.toInt = z.toNatClampNeg := (Int.toNat_of_nonneg h).symm
theorem own_inb {z n : Int32} (N : Int) (hn : n.toInt = N) (h1 : 0 ≤ z.toInt) (h2 : z.toInt < N) : ¬ z < 0 ∧ z < n := by
  rw [Int32.lt_iff_toInt_lt, Int32.lt_iff_toInt_lt, hn]
  exact ⟨by have q : (0 : Int32).toInt = 0 := (by decide); omega, h2⟩
theorem own_inj {Z : State} {h : Heap} {C f d : String} {w : Nat → Addr} {n : Nat} (ho : ∀ k, k < n → Fld Z h (w k) C f d (.int k.toInt32)) (hn : n < 2 ^ 31) : ∀ i j, i < n → j < n → w i = w j → i = j := fun i j hi hj q => Classical.byContradiction fun ne => Fld.ne (ho i hi) (ho j hj) (fun z => ne (by
    have z1 : i.toInt32.toInt = j.toInt32.toInt := by rw [Value.int.inj z]
    rw [len_toInt (by omega), len_toInt (by omega)] at z1
    omega)) q
theorem own_mask (k : Int32) : 0 ≤ (k &&& 2147483647).toInt ∧ (k &&& 2147483647).toInt < 2147483648 := by
  have h1 : (k &&& 2147483647).toInt = ((k &&& 2147483647).toBitVec).toInt := rfl
  have h2 : (k &&& 2147483647).toBitVec = k.toBitVec &&& 2147483647#32 := rfl
  rw [h1, h2]
  have h3 : (k.toBitVec &&& 2147483647#32).msb = false := by rw [BitVec.msb_and, show (2147483647#32).msb = false from by decide, Bool.and_false]
  rw [BitVec.toInt_eq_toNat_of_msb h3]
  have h4 := BitVec.isLt (k.toBitVec &&& 2147483647#32)
  rw [BitVec.msb_eq_decide] at h3
  simp at h3 ⊢
  omega
theorem own_rem (k n : Int32) (N : Int) (hn : n.toInt = N) (hN : 0 < N) : 0 ≤ ((k &&& 2147483647) % n).toInt ∧ ((k &&& 2147483647) % n).toInt < N := by
  have h := own_mask k
  rw [Int32.toInt_mod, hn]
  generalize (k &&& 2147483647).toInt = z at h
  rw [Int.tmod_eq_emod_of_nonneg h.1]
  exact ⟨Int.emod_nonneg _ (by omega), Int.emod_lt_of_pos _ hN⟩
theorem own_i32_ne {x y : Int32} (h : ¬ x = y) : x.toInt ≠ y.toInt := fun q => h (Int32.toInt_inj.mp q)
theorem own_lt {x y : Int32} (h : x < y) : x.toInt < y.toInt := Int32.lt_iff_toInt_lt.mp h
theorem own_nlt {x y : Int32} (h : ¬ x < y) : y.toInt ≤ x.toInt := by rw [Int32.lt_iff_toInt_lt] at h; omega

def own_kind (el : Nat → Addr) (b : Int32) : Value := if b = 73 then Value.ref (el 0) else if b = 68 then Value.ref (el 1) else if b = 66 then Value.ref (el 2) else if b = 83 then Value.ref (el 3) else if b = 76 then Value.ref (el 4) else Value.null

theorem d1_0 : decode prog_28_method_1_code 0 = .ok (.getstatic 19, 3) := by decide +kernel
theorem d1_3 : decode prog_28_method_1_code 3 = .ok (.invokevirtual 23, 3) := by decide +kernel
theorem d1_6 : decode prog_28_method_1_code 6 = .ok (.checkcast 24, 3) := by decide +kernel
theorem d1_9 : decode prog_28_method_1_code 9 = .ok (.areturn, 1) := by decide +kernel
theorem pn1 : plainName "com/example/statecraft/statecraft/preferences/ValueKind" = true := by first | (simp [plainName, overriddenIn]; done) | decide +kernel
theorem ef1 (m : MethodId)  : entryFrame m #[] 0 = mkF m 0 #[] [] := by first | (simp [entryFrame, mkF, argsToLocals, Value.category]; done) | rfl
def Q1 (Z : State) (a : Addr) (k : ClassId) (vs : List Value) (h0 : Heap) (n0 : Nat) (v : Option Value) (h : Heap) (L : List Loc) : Prop := ∃ b, v = some (.ref b) ∧ Fr n0 L ∧ Ext h0 h ∧ Arv Z h b k (.object "com/example/statecraft/statecraft/preferences/ValueKind") (5 : Int32) vs .null
set_option maxRecDepth 65536 in
set_option maxHeartbeats 40000000 in
theorem rm1 (l : Launch) (Z : State) (a0 : Array Value) (hw : ∀ d ∈ tables_1, d.before a0 Z = true) (ws : List Jvm.Cond) (a : Addr) (k : ClassId) (vs : List Value) (h0 : Heap) (n0 : Nat) (Z0 : n0 ≤ h0.size) (S_V : Sta Z h0 "com/example/statecraft/statecraft/preferences/ValueKind" "$VALUES" "[Lcom/example/statecraft/statecraft/preferences/ValueKind;" (.ref a)) (V0 : Arv Z h0 a k (.object "com/example/statecraft/statecraft/preferences/ValueKind") (5 : Int32) vs .null) (E0 : Exa Z h0 a "[Lcom/example/statecraft/statecraft/preferences/ValueKind;") :
    MetFree l (⟨"com/example/statecraft/statecraft/preferences/ValueKind", "values", "()[Lcom/example/statecraft/statecraft/preferences/ValueKind;"⟩ : MethodName) (head1 (Jvm.Cond.code (⟨"com/example/statecraft/statecraft/preferences/ValueKind", "values", "()[Lcom/example/statecraft/statecraft/preferences/ValueKind;"⟩ : MethodName) prog_28_method_1_code 0 (some (.array (.object "com/example/statecraft/statecraft/preferences/ValueKind"))) :: ws) ({ frames := 1, cells := 1, slots := 5, locals := 14 } : Room)) (fun aq Uq => aq = #[] ∧ Z.Warmed39 Uq.vm ∧ Uq.heap = h0) (fun _ _ _ _ _ => True) (fun _ Uq oq Uq' => ∃ vq Lq, oq = .returned vq ∧ Q1 Z a k vs h0 n0 vq Uq'.heap Lq ∧ FrameEnd Uq oq Uq' Lq ({ frames := 1, cells := 1, slots := 5, locals := 14 } : Room).cells ({ frames := 1, cells := 1, slots := 5, locals := 14 } : Room).slots) := by
  refine MetFree.of_bodySF (plainFor_of_name pn1) hisR ?_
  intro p e s m args below meth c s₁ Bd hml0 hP hK
  obtain ⟨rfl, hZ, hh⟩ := hP
  have hx := Bd.exec
  have hby := Bd.bytes
  have hml : c.maxLocals = 0 := hml0
  have hown : s.vm.findClass "com/example/statecraft/statecraft/preferences/ValueKind" = some m.cls := findClass_of_methodNamed Bd.named
  have hnm := (name_of_methodNamed Bd.named Bd.method).1
  have X0 : Stand p l e ({ frames := 1, cells := 1, slots := 5, locals := 14 } : Room) s m #[] below meth c s₁ [] 0 0 := Stand.of_body Bd
  have e0 : s₁.heap = h0 := by rw [← hh, Bd.state]; rfl
  have N0 := Fr.nil n0
  obtain ⟨A, hA⟩ : ∃ A, A = s₁.setTop (entryFrame m #[] 0) := ⟨_, rfl⟩
  rw [← hA]
  have g0 : Gz p.tables e below A s₁ (mkF m 0 #[] []) := fun tq kq => by rw [hA]; exact castTop (ef1 m) kq
  obtain ⟨T1, X1, e1, st1⟩ := getS2 X0 hx hZ hown (host := "") (Or.inl (hw _ (List.mem_of_getElem? (i := 7) rfl))) Via.refl e0 S_V (g := (mkF m 0 #[] [])) rfl (hb hby d1_0)
  have g2 : Gz p.tables e below A T1 (mkF m 3 #[] [(.ref a)]) := fun tq kq => g0 tq (st1 tq kq)
  obtain ⟨T3, h3, X3, e3, E3, A3, C3, st3⟩ := cloneH X1 hx hZ hown (hw _ (List.mem_of_getElem? (i := 9) rfl)) (hw _ (List.mem_of_getElem? (i := 10) rfl)) (hw _ (List.mem_of_getElem? (i := 14) rfl)) (hw _ (List.mem_of_getElem? (i := 12) rfl)) (hw _ (List.mem_of_getElem? (i := 13) rfl)) (hw _ (List.mem_of_getElem? (i := 15) rfl)) e1 (Arv.arh V0) E0 (g := (mkF m 3 #[] [(.ref a)])) rfl (by rw [hml]; rfl) rfl (hb hby d1_3) (by decide) (W := 0) (by show 2 * 0 + _ ≤ _; exact Nat.le_of_eq rfl) (by decide) (cap := 5) (by decide) (by decide) (by decide)
  obtain ⟨b3, gb3⟩ : ∃ z, z = h0.size := ⟨_, rfl⟩
  rw [← gb3] at A3 C3 st3
  have sz_b3 : h0.size ≤ b3 := Nat.le_of_eq gb3.symm
  have g_b3 : n0 ≤ b3 := Nat.le_trans Z0 sz_b3
  have K4 := E3
  have g5 : Gz p.tables e below A T3 (mkF m 6 #[] [(.ref b3)]) := fun tq kq => g2 tq (st3 tq kq)
  obtain ⟨T6, X6, e6, st6⟩ := castY X3 hx hZ hown (hw _ (List.mem_of_getElem? (i := 17) rfl)) e3 (Ins.self C3) (g := (mkF m 6 #[] [(.ref b3)])) rfl rfl (hb hby d1_6)
  have g7 : Gz p.tables e below A T6 (mkF m 9 #[] [(.ref b3)]) := fun tq kq => g5 tq (st6 tq kq)
  obtain ⟨fs, hr, hrun, hended, hW, hsame⟩ := X6.leave (v := some (.ref b3)) (fun h => by rw [Bd.returns] at h; cases h)
  refine ⟨_, _, g7 _ (retOut X6 hx Bd.returns rfl (Or.inr (Or.inr (Or.inr (Or.inr ⟨rfl, rfl, rfl⟩)))) (hb hby d1_9) hr), hrun, hended, _, _, rfl, ?_, ⟨_, rfl⟩, hW, hsame.mono (by decide) (by decide)⟩
  show Q1 Z a k vs h0 n0 _ T6.heap _
  rw [e6]
  exact ⟨b3, rfl, N0, K4, A3⟩

theorem d2_0 : decode prog_28_method_7_code 0 = .ok (.invokestatic 50, 3) := by decide +kernel
theorem d2_3 : decode prog_28_method_7_code 3 = .ok (.astore_n 1, 1) := by decide +kernel
theorem d2_4 : decode prog_28_method_7_code 4 = .ok (.aload_n 1, 1) := by decide +kernel
theorem d2_5 : decode prog_28_method_7_code 5 = .ok (.arraylength, 1) := by decide +kernel
theorem d2_6 : decode prog_28_method_7_code 6 = .ok (.istore_n 2, 1) := by decide +kernel
theorem d2_7 : decode prog_28_method_7_code 7 = .ok (.iconst 0, 1) := by decide +kernel
theorem d2_8 : decode prog_28_method_7_code 8 = .ok (.istore_n 3, 1) := by decide +kernel
theorem d2_9 : decode prog_28_method_7_code 9 = .ok (.iload_n 3, 1) := by decide +kernel
theorem d2_10 : decode prog_28_method_7_code 10 = .ok (.iload_n 2, 1) := by decide +kernel
theorem d2_11 : decode prog_28_method_7_code 11 = .ok (.if_icmp .ge 26, 3) := by decide +kernel
theorem d2_14 : decode prog_28_method_7_code 14 = .ok (.aload_n 1, 1) := by decide +kernel
theorem d2_15 : decode prog_28_method_7_code 15 = .ok (.iload_n 3, 1) := by decide +kernel
theorem d2_16 : decode prog_28_method_7_code 16 = .ok (.aaload, 1) := by decide +kernel
theorem d2_17 : decode prog_28_method_7_code 17 = .ok (.astore 4, 2) := by decide +kernel
theorem d2_19 : decode prog_28_method_7_code 19 = .ok (.aload 4, 2) := by decide +kernel
theorem d2_21 : decode prog_28_method_7_code 21 = .ok (.getfield 38, 3) := by decide +kernel
theorem d2_24 : decode prog_28_method_7_code 24 = .ok (.iload_n 0, 1) := by decide +kernel
theorem d2_25 : decode prog_28_method_7_code 25 = .ok (.if_icmp .ne 6, 3) := by decide +kernel
theorem d2_28 : decode prog_28_method_7_code 28 = .ok (.aload 4, 2) := by decide +kernel
theorem d2_30 : decode prog_28_method_7_code 30 = .ok (.areturn, 1) := by decide +kernel
theorem d2_31 : decode prog_28_method_7_code 31 = .ok (.iinc 3 1, 3) := by decide +kernel
theorem d2_34 : decode prog_28_method_7_code 34 = .ok (.goto (-25), 3) := by decide +kernel
theorem d2_37 : decode prog_28_method_7_code 37 = .ok (.aconst_null, 1) := by decide +kernel
theorem d2_38 : decode prog_28_method_7_code 38 = .ok (.areturn, 1) := by decide +kernel
theorem pn2 : plainName "com/example/statecraft/statecraft/preferences/ValueKind" = true := by first | (simp [plainName, overriddenIn]; done) | decide +kernel
theorem pd2_0 : parseMethodDescriptor "()[Lcom/example/statecraft/statecraft/preferences/ValueKind;" = some ⟨[], some (.array (.object "com/example/statecraft/statecraft/preferences/ValueKind"))⟩ := by decide +kernel
theorem ef2 (m : MethodId) (x0 : Int32) : entryFrame m #[(.int x0)] 5 = mkF m 0 #[.val (.int x0), .unset, .unset, .unset, .unset] [] := by first | (simp [entryFrame, mkF, argsToLocals, Value.category]; done) | rfl
def Q2 (Z : State) (p1 : Int32) (a : Addr) (k : ClassId) (el : Nat → Addr) (val : Value) (h0 : Heap) (n0 : Nat) (v : Option Value) (h : Heap) (L : List Loc) : Prop := v = some val ∧ Fr n0 L ∧ Ext h0 h
set_option maxRecDepth 65536 in
set_option maxHeartbeats 40000000 in
theorem rm2 (l : Launch) (Z : State) (a0 : Array Value) (hw : ∀ d ∈ tables_1, d.before a0 Z = true) (ws : List Jvm.Cond) (p1 : Int32) (a : Addr) (k : ClassId) (el : Nat → Addr) (val : Value) (h0 : Heap) (n0 : Nat) (Z0 : n0 ≤ h0.size) (S_V : Sta Z h0 "com/example/statecraft/statecraft/preferences/ValueKind" "$VALUES" "[Lcom/example/statecraft/statecraft/preferences/ValueKind;" (.ref a)) (V0 : Arv Z h0 a k (.object "com/example/statecraft/statecraft/preferences/ValueKind") (5 : Int32) [(.ref (el 0)), (.ref (el 1)), (.ref (el 2)), (.ref (el 3)), (.ref (el 4))] .null) (E0 : Exa Z h0 a "[Lcom/example/statecraft/statecraft/preferences/ValueKind;") (F0 : Fld Z h0 (el 0) "com/example/statecraft/statecraft/preferences/ValueKind" "tag" "B" (.int 73)) (F1 : Fld Z h0 (el 1) "com/example/statecraft/statecraft/preferences/ValueKind" "tag" "B" (.int 68)) (F2 : Fld Z h0 (el 2) "com/example/statecraft/statecraft/preferences/ValueKind" "tag" "B" (.int 66)) (F3 : Fld Z h0 (el 3) "com/example/statecraft/statecraft/preferences/ValueKind" "tag" "B" (.int 83)) (F4 : Fld Z h0 (el 4) "com/example/statecraft/statecraft/preferences/ValueKind" "tag" "B" (.int 76)) (hval : own_kind el p1 = val) :
    MetFree l (⟨"com/example/statecraft/statecraft/preferences/ValueKind", "ofTag", "(B)Lcom/example/statecraft/statecraft/preferences/ValueKind;"⟩ : MethodName) (head1 (Jvm.Cond.code (⟨"com/example/statecraft/statecraft/preferences/ValueKind", "ofTag", "(B)Lcom/example/statecraft/statecraft/preferences/ValueKind;"⟩ : MethodName) prog_28_method_7_code 5 (some (.object "com/example/statecraft/statecraft/preferences/ValueKind")) :: ws) ({ frames := 2, cells := 1, slots := 5, locals := 25 } : Room)) (fun aq Uq => aq = #[(.int p1)] ∧ Z.Warmed39 Uq.vm ∧ Uq.heap = h0) (fun _ _ _ _ _ => True) (fun _ Uq oq Uq' => ∃ vq Lq, oq = .returned vq ∧ Q2 Z p1 a k el val h0 n0 vq Uq'.heap Lq ∧ FrameEnd Uq oq Uq' Lq ({ frames := 2, cells := 1, slots := 5, locals := 25 } : Room).cells ({ frames := 2, cells := 1, slots := 5, locals := 25 } : Room).slots) := by
  refine MetFree.of_bodySF (plainFor_of_name pn2) hisR ?_
  intro p e s m args below meth c s₁ Bd hml0 hP hK
  obtain ⟨rfl, hZ, hh⟩ := hP
  have hx := Bd.exec
  have hby := Bd.bytes
  have hml : c.maxLocals = 5 := hml0
  have hown : s.vm.findClass "com/example/statecraft/statecraft/preferences/ValueKind" = some m.cls := findClass_of_methodNamed Bd.named
  have hnm := (name_of_methodNamed Bd.named Bd.method).1
  have X0 : Stand p l e ({ frames := 2, cells := 1, slots := 5, locals := 25 } : Room) s m #[(.int p1)] below meth c s₁ [] 0 0 := Stand.of_body Bd
  have e0 : s₁.heap = h0 := by rw [← hh, Bd.state]; rfl
  have N0 := Fr.nil n0
  obtain ⟨A, hA⟩ : ∃ A, A = s₁.setTop (entryFrame m #[(.int p1)] 5) := ⟨_, rfl⟩
  rw [← hA]
  have g0 : Gz p.tables e below A s₁ (mkF m 0 #[.val (.int p1), .unset, .unset, .unset, .unset] []) := fun tq kq => by rw [hA]; exact castTop (ef2 m p1) kq
  obtain ⟨_, _, ⟨T1, L1, k1, n1⟩, -, X1, ⟨Lc1, hQ1, l1, y1, z1⟩, st1⟩ := Jvm.LawKit.callS X0 hx (y := (⟨"com/example/statecraft/statecraft/preferences/ValueKind", "values", "()[Lcom/example/statecraft/statecraft/preferences/ValueKind;"⟩ : MethodName)) hown (mvT hZ (hw _ (List.mem_of_getElem? (i := 4) rfl))) (mvT hZ (hw _ (List.mem_of_getElem? (i := 5) rfl))) (mvT hZ (hw _ (List.mem_of_getElem? (i := 2) rfl))) (mvT hZ (hw _ (List.mem_of_getElem? (i := 6) rfl))) (by decide) (backOf (W := 0) (rm1 l Z a0 hw [] a k [(.ref (el 0)), (.ref (el 1)), (.ref (el 2)), (.ref (el 3)), (.ref (el 4))] h0 n0 Z0 S_V V0 E0) hZ (hw _ (List.mem_of_getElem? (i := 6) rfl)) (hw _ (List.mem_of_getElem? (i := 2) rfl)) (by decide) (by decide)) (g := (mkF m 0 #[.val (.int p1), .unset, .unset, .unset, .unset] [])) rfl (by rw [hml]; rfl) (argsL := []) (rest := []) (lenOf pd2_0 rfl) rfl (by show 2 * 0 + _ ≤ _; exact Nat.le_of_eq rfl) (hb hby d2_0) (fun _ _ => ⟨rfl, e0, (by decide : 0 + 1 ≤ _), (by decide : 0 + 5 ≤ _)⟩)
  dsimp only [Pt.U, Pt.locs, Pt.cells, Pt.slots] at X1 l1 y1 z1 st1 hQ1
  subst l1 y1 z1
  obtain ⟨b1, rfl, N1q, EQ1, VQ1⟩ := hQ1
  have N1 := Fr.app N0 N1q
  have g2 : Gz p.tables e below A T1 (mkF m 3 #[.val (.int p1), .unset, .unset, .unset, .unset] [(.ref b1)]) := fun tq kq => g0 tq (st1 _ kq)
  have K3 := EQ1
  have g4 : Gz p.tables e below A T1 (mkF m 4 #[.val (.int p1), .val (.ref b1), .unset, .unset, .unset] []) := fun tq kq => g2 tq (XS.astoreN X1.here hx rfl (hb hby d2_3) rfl rfl (l' := #[.val (.int p1), .val (.ref b1), .unset, .unset, .unset]) rfl kq)
  have g5 : Gz p.tables e below A T1 (mkF m 5 #[.val (.int p1), .val (.ref b1), .unset, .unset, .unset] [(.ref b1)]) := fun tq kq => g4 tq (XS.aloadN X1.here hx rfl (hb hby d2_4) rfl rfl kq)
  obtain ⟨cl6, Ar6, q6, Sz6, Nn6, Hh6, G6⟩ := id VQ1
  have g7 : Gz p.tables e below A T1 (mkF m 6 #[.val (.int p1), .val (.ref b1), .unset, .unset, .unset] [(.int (5 : Int32))]) := fun tq kq => g5 tq (X1.arraylength hx Ar6.1 (State.isArrayOf_alike hZ.alike Ar6.2.1) (g := (mkF m 5 #[.val (.int p1), .val (.ref b1), .unset, .unset, .unset] [(.ref b1)])) rfl rfl (hb hby d2_5) _ (by rw [len_of Sz6 Nn6]; exact kq))
  have g8 : Gz p.tables e below A T1 (mkF m 7 #[.val (.int p1), .val (.ref b1), .val (.int (5 : Int32)), .unset, .unset] []) := fun tq kq => g7 tq (XS.istoreN X1.here hx rfl (hb hby d2_6) rfl (l' := #[.val (.int p1), .val (.ref b1), .val (.int (5 : Int32)), .unset, .unset]) rfl kq)
  have g9 : Gz p.tables e below A T1 (mkF m 8 #[.val (.int p1), .val (.ref b1), .val (.int (5 : Int32)), .unset, .unset] [(.int (0 : Int32))]) := fun tq kq => g8 tq (XS.iconst X1.here hx rfl (hb hby d2_7) kq)
  have g10 : Gz p.tables e below A T1 (mkF m 9 #[.val (.int p1), .val (.ref b1), .val (.int (5 : Int32)), .val (.int (0 : Int32)), .unset] []) := fun tq kq => g9 tq (XS.istoreN X1.here hx rfl (hb hby d2_8) rfl (l' := #[.val (.int p1), .val (.ref b1), .val (.int (5 : Int32)), .val (.int (0 : Int32)), .unset]) rfl kq)
  have g11 : Gz p.tables e below A T1 (mkF m 10 #[.val (.int p1), .val (.ref b1), .val (.int (5 : Int32)), .val (.int (0 : Int32)), .unset] [(.int (0 : Int32))]) := fun tq kq => g10 tq (XS.iloadN X1.here hx rfl (hb hby d2_9) rfl kq)
  have g12 : Gz p.tables e below A T1 (mkF m 11 #[.val (.int p1), .val (.ref b1), .val (.int (5 : Int32)), .val (.int (0 : Int32)), .unset] [(.int (5 : Int32)), (.int (0 : Int32))]) := fun tq kq => g11 tq (XS.iloadN X1.here hx rfl (hb hby d2_10) rfl kq)
  have g13 : Gz p.tables e below A T1 (mkF m 14 #[.val (.int p1), .val (.ref b1), .val (.int (5 : Int32)), .val (.int (0 : Int32)), .unset] []) := fun tq kq => g12 tq (XS.icmpNo X1.here hx rfl (hb hby d2_11) rfl (tlt (by decide)).2.1 kq)
  have g14 : Gz p.tables e below A T1 (mkF m 15 #[.val (.int p1), .val (.ref b1), .val (.int (5 : Int32)), .val (.int (0 : Int32)), .unset] [(.ref b1)]) := fun tq kq => g13 tq (XS.aloadN X1.here hx rfl (hb hby d2_14) rfl rfl kq)
  have g15 : Gz p.tables e below A T1 (mkF m 16 #[.val (.int p1), .val (.ref b1), .val (.int (5 : Int32)), .val (.int (0 : Int32)), .unset] [(.int (0 : Int32)), (.ref b1)]) := fun tq kq => g14 tq (XS.iloadN X1.here hx rfl (hb hby d2_15) rfl kq)
  obtain ⟨cl16, Ar16, q16, Sz16, Nn16, Hh16, G16⟩ := id VQ1
  have hin16 : ¬ ((0 : Int32) < 0 ∨ cl16.slots.size ≤ (0 : Int32).toNatClampNeg) := inb_of Sz16 ⟨by decide, by decide⟩
  have hat16 : cl16.slots[(0 : Int32).toNatClampNeg]? = some (.ref (el 0)) := Has.at Hh16 hin16 rfl
  have g17 : Gz p.tables e below A T1 (mkF m 17 #[.val (.int p1), .val (.ref b1), .val (.int (5 : Int32)), .val (.int (0 : Int32)), .unset] [(.ref (el 0))]) := fun tq kq => g15 tq (X1.aaload hx (j := (0 : Int32)) (v := (.ref (el 0))) Ar16.1 (State.isArrayOf_alike hZ.alike Ar16.2.1) rfl Ar16.2.2 hin16 hat16 (g := (mkF m 16 #[.val (.int p1), .val (.ref b1), .val (.int (5 : Int32)), .val (.int (0 : Int32)), .unset] [(.int (0 : Int32)), (.ref b1)])) rfl rfl (hb hby d2_16) _ kq)
  have g18 : Gz p.tables e below A T1 (mkF m 19 #[.val (.int p1), .val (.ref b1), .val (.int (5 : Int32)), .val (.int (0 : Int32)), .val (.ref (el 0))] []) := fun tq kq => g17 tq (XS.astore X1.here hx rfl (hb hby d2_17) rfl rfl (l' := #[.val (.int p1), .val (.ref b1), .val (.int (5 : Int32)), .val (.int (0 : Int32)), .val (.ref (el 0))]) rfl kq)
  have g19 : Gz p.tables e below A T1 (mkF m 21 #[.val (.int p1), .val (.ref b1), .val (.int (5 : Int32)), .val (.int (0 : Int32)), .val (.ref (el 0))] [(.ref (el 0))]) := fun tq kq => g18 tq (XS.aload X1.here hx rfl (hb hby d2_19) rfl rfl kq)
  obtain ⟨T20, X20, e20, st20⟩ := getF X1 hx hZ hown (host := "") (Or.inl (hw _ (List.mem_of_getElem? (i := 19) rfl))) Via.refl rfl (F0.ext K3) (g := (mkF m 21 #[.val (.int p1), .val (.ref b1), .val (.int (5 : Int32)), .val (.int (0 : Int32)), .val (.ref (el 0))] [(.ref (el 0))])) rfl rfl (hb hby d2_21)
  have g21 : Gz p.tables e below A T20 (mkF m 24 #[.val (.int p1), .val (.ref b1), .val (.int (5 : Int32)), .val (.int (0 : Int32)), .val (.ref (el 0))] [(.int (73 : Int32))]) := fun tq kq => g19 tq (st20 tq kq)
  have g22 : Gz p.tables e below A T20 (mkF m 25 #[.val (.int p1), .val (.ref b1), .val (.int (5 : Int32)), .val (.int (0 : Int32)), .val (.ref (el 0))] [(.int p1), (.int (73 : Int32))]) := fun tq kq => g21 tq (XS.iloadN X20.here hx rfl (hb hby d2_24) rfl kq)
  by_cases hc25 : (73 : Int32) = p1
  · have g23 : Gz p.tables e below A T20 (mkF m 28 #[.val (.int p1), .val (.ref b1), .val (.int (5 : Int32)), .val (.int (0 : Int32)), .val (.ref (el 0))] []) := fun tq kq => g22 tq (XS.icmpNo X20.here hx rfl (hb hby d2_25) rfl (teq hc25).2 kq)
    have g24 : Gz p.tables e below A T20 (mkF m 30 #[.val (.int p1), .val (.ref b1), .val (.int (5 : Int32)), .val (.int (0 : Int32)), .val (.ref (el 0))] [(.ref (el 0))]) := fun tq kq => g23 tq (XS.aload X20.here hx rfl (hb hby d2_28) rfl rfl kq)
    obtain ⟨fs, hr, hrun, hended, hW, hsame⟩ := X20.leave (v := some (.ref (el 0))) (fun h => by rw [Bd.returns] at h; cases h)
    refine ⟨_, _, g24 _ (retOut X20 hx Bd.returns rfl (Or.inr (Or.inr (Or.inr (Or.inr ⟨rfl, rfl, rfl⟩)))) (hb hby d2_30) hr), hrun, hended, _, _, rfl, ?_, ⟨_, rfl⟩, hW, hsame.mono (by decide) (by decide)⟩
    show Q2 Z p1 a k el val h0 n0 _ T20.heap _
    rw [e20]
    exact ⟨by rw [← hval]; unfold own_kind; rw [if_pos hc25.symm], N1, K3⟩
  · have g25 : Gz p.tables e below A T20 (mkF m 31 #[.val (.int p1), .val (.ref b1), .val (.int (5 : Int32)), .val (.int (0 : Int32)), .val (.ref (el 0))] []) := fun tq kq => g22 tq (XS.icmpYes X20.here hx rfl (pc0 := 25) (pc' := 31) rfl (hb hby d2_25) rfl (feq hc25).2 (by decide) (by decide) kq)
    have g26 : Gz p.tables e below A T20 (mkF m 34 #[.val (.int p1), .val (.ref b1), .val (.int (5 : Int32)), .val (.int (1 : Int32)), .val (.ref (el 0))] []) := fun tq kq => g25 tq (XS.iinc X20.here hx rfl (hb hby d2_31) rfl (l' := #[.val (.int p1), .val (.ref b1), .val (.int (5 : Int32)), .val (.int (1 : Int32)), .val (.ref (el 0))]) rfl kq)
    have g27 : Gz p.tables e below A T20 (mkF m 9 #[.val (.int p1), .val (.ref b1), .val (.int (5 : Int32)), .val (.int (1 : Int32)), .val (.ref (el 0))] []) := fun tq kq => g26 tq (XS.goto X20.here hx rfl (pc0 := 34) (pc' := 9) rfl (hb hby d2_34) (by decide) (by decide) kq)
    have g28 : Gz p.tables e below A T20 (mkF m 10 #[.val (.int p1), .val (.ref b1), .val (.int (5 : Int32)), .val (.int (1 : Int32)), .val (.ref (el 0))] [(.int (1 : Int32))]) := fun tq kq => g27 tq (XS.iloadN X20.here hx rfl (hb hby d2_9) rfl kq)
    have g29 : Gz p.tables e below A T20 (mkF m 11 #[.val (.int p1), .val (.ref b1), .val (.int (5 : Int32)), .val (.int (1 : Int32)), .val (.ref (el 0))] [(.int (5 : Int32)), (.int (1 : Int32))]) := fun tq kq => g28 tq (XS.iloadN X20.here hx rfl (hb hby d2_10) rfl kq)
    have g30 : Gz p.tables e below A T20 (mkF m 14 #[.val (.int p1), .val (.ref b1), .val (.int (5 : Int32)), .val (.int (1 : Int32)), .val (.ref (el 0))] []) := fun tq kq => g29 tq (XS.icmpNo X20.here hx rfl (hb hby d2_11) rfl (tlt (by decide)).2.1 kq)
    have g31 : Gz p.tables e below A T20 (mkF m 15 #[.val (.int p1), .val (.ref b1), .val (.int (5 : Int32)), .val (.int (1 : Int32)), .val (.ref (el 0))] [(.ref b1)]) := fun tq kq => g30 tq (XS.aloadN X20.here hx rfl (hb hby d2_14) rfl rfl kq)
    have g32 : Gz p.tables e below A T20 (mkF m 16 #[.val (.int p1), .val (.ref b1), .val (.int (5 : Int32)), .val (.int (1 : Int32)), .val (.ref (el 0))] [(.int (1 : Int32)), (.ref b1)]) := fun tq kq => g31 tq (XS.iloadN X20.here hx rfl (hb hby d2_15) rfl kq)
    obtain ⟨cl33, Ar33, q33, Sz33, Nn33, Hh33, G33⟩ := id VQ1
    have hin33 : ¬ ((1 : Int32) < 0 ∨ cl33.slots.size ≤ (1 : Int32).toNatClampNeg) := inb_of Sz33 ⟨by decide, by decide⟩
    have hat33 : cl33.slots[(1 : Int32).toNatClampNeg]? = some (.ref (el 1)) := Has.at Hh33 hin33 rfl
    have g34 : Gz p.tables e below A T20 (mkF m 17 #[.val (.int p1), .val (.ref b1), .val (.int (5 : Int32)), .val (.int (1 : Int32)), .val (.ref (el 0))] [(.ref (el 1))]) := fun tq kq => g32 tq (X20.aaload hx (j := (1 : Int32)) (v := (.ref (el 1))) (by rw [e20]; exact Ar33.1) (State.isArrayOf_alike hZ.alike Ar33.2.1) rfl Ar33.2.2 hin33 hat33 (g := (mkF m 16 #[.val (.int p1), .val (.ref b1), .val (.int (5 : Int32)), .val (.int (1 : Int32)), .val (.ref (el 0))] [(.int (1 : Int32)), (.ref b1)])) rfl rfl (hb hby d2_16) _ kq)
    have g35 : Gz p.tables e below A T20 (mkF m 19 #[.val (.int p1), .val (.ref b1), .val (.int (5 : Int32)), .val (.int (1 : Int32)), .val (.ref (el 1))] []) := fun tq kq => g34 tq (XS.astore X20.here hx rfl (hb hby d2_17) rfl rfl (l' := #[.val (.int p1), .val (.ref b1), .val (.int (5 : Int32)), .val (.int (1 : Int32)), .val (.ref (el 1))]) rfl kq)
    have g36 : Gz p.tables e below A T20 (mkF m 21 #[.val (.int p1), .val (.ref b1), .val (.int (5 : Int32)), .val (.int (1 : Int32)), .val (.ref (el 1))] [(.ref (el 1))]) := fun tq kq => g35 tq (XS.aload X20.here hx rfl (hb hby d2_19) rfl rfl kq)
    obtain ⟨T37, X37, e37, st37⟩ := getF X20 hx hZ hown (host := "") (Or.inl (hw _ (List.mem_of_getElem? (i := 19) rfl))) Via.refl e20 (F1.ext K3) (g := (mkF m 21 #[.val (.int p1), .val (.ref b1), .val (.int (5 : Int32)), .val (.int (1 : Int32)), .val (.ref (el 1))] [(.ref (el 1))])) rfl rfl (hb hby d2_21)
    have g38 : Gz p.tables e below A T37 (mkF m 24 #[.val (.int p1), .val (.ref b1), .val (.int (5 : Int32)), .val (.int (1 : Int32)), .val (.ref (el 1))] [(.int (68 : Int32))]) := fun tq kq => g36 tq (st37 tq kq)
    have g39 : Gz p.tables e below A T37 (mkF m 25 #[.val (.int p1), .val (.ref b1), .val (.int (5 : Int32)), .val (.int (1 : Int32)), .val (.ref (el 1))] [(.int p1), (.int (68 : Int32))]) := fun tq kq => g38 tq (XS.iloadN X37.here hx rfl (hb hby d2_24) rfl kq)
    by_cases hc25_1 : (68 : Int32) = p1
    · have g40 : Gz p.tables e below A T37 (mkF m 28 #[.val (.int p1), .val (.ref b1), .val (.int (5 : Int32)), .val (.int (1 : Int32)), .val (.ref (el 1))] []) := fun tq kq => g39 tq (XS.icmpNo X37.here hx rfl (hb hby d2_25) rfl (teq hc25_1).2 kq)
      have g41 : Gz p.tables e below A T37 (mkF m 30 #[.val (.int p1), .val (.ref b1), .val (.int (5 : Int32)), .val (.int (1 : Int32)), .val (.ref (el 1))] [(.ref (el 1))]) := fun tq kq => g40 tq (XS.aload X37.here hx rfl (hb hby d2_28) rfl rfl kq)
      obtain ⟨fs, hr, hrun, hended, hW, hsame⟩ := X37.leave (v := some (.ref (el 1))) (fun h => by rw [Bd.returns] at h; cases h)
      refine ⟨_, _, g41 _ (retOut X37 hx Bd.returns rfl (Or.inr (Or.inr (Or.inr (Or.inr ⟨rfl, rfl, rfl⟩)))) (hb hby d2_30) hr), hrun, hended, _, _, rfl, ?_, ⟨_, rfl⟩, hW, hsame.mono (by decide) (by decide)⟩
      show Q2 Z p1 a k el val h0 n0 _ T37.heap _
      rw [e37]
      exact ⟨by rw [← hval]; unfold own_kind; rw [if_neg (fun q => hc25 q.symm), if_pos hc25_1.symm], N1, K3⟩
    · have g42 : Gz p.tables e below A T37 (mkF m 31 #[.val (.int p1), .val (.ref b1), .val (.int (5 : Int32)), .val (.int (1 : Int32)), .val (.ref (el 1))] []) := fun tq kq => g39 tq (XS.icmpYes X37.here hx rfl (pc0 := 25) (pc' := 31) rfl (hb hby d2_25) rfl (feq hc25_1).2 (by decide) (by decide) kq)
      have g43 : Gz p.tables e below A T37 (mkF m 34 #[.val (.int p1), .val (.ref b1), .val (.int (5 : Int32)), .val (.int (2 : Int32)), .val (.ref (el 1))] []) := fun tq kq => g42 tq (XS.iinc X37.here hx rfl (hb hby d2_31) rfl (l' := #[.val (.int p1), .val (.ref b1), .val (.int (5 : Int32)), .val (.int (2 : Int32)), .val (.ref (el 1))]) rfl kq)
      have g44 : Gz p.tables e below A T37 (mkF m 9 #[.val (.int p1), .val (.ref b1), .val (.int (5 : Int32)), .val (.int (2 : Int32)), .val (.ref (el 1))] []) := fun tq kq => g43 tq (XS.goto X37.here hx rfl (pc0 := 34) (pc' := 9) rfl (hb hby d2_34) (by decide) (by decide) kq)
      have g45 : Gz p.tables e below A T37 (mkF m 10 #[.val (.int p1), .val (.ref b1), .val (.int (5 : Int32)), .val (.int (2 : Int32)), .val (.ref (el 1))] [(.int (2 : Int32))]) := fun tq kq => g44 tq (XS.iloadN X37.here hx rfl (hb hby d2_9) rfl kq)
      have g46 : Gz p.tables e below A T37 (mkF m 11 #[.val (.int p1), .val (.ref b1), .val (.int (5 : Int32)), .val (.int (2 : Int32)), .val (.ref (el 1))] [(.int (5 : Int32)), (.int (2 : Int32))]) := fun tq kq => g45 tq (XS.iloadN X37.here hx rfl (hb hby d2_10) rfl kq)
      have g47 : Gz p.tables e below A T37 (mkF m 14 #[.val (.int p1), .val (.ref b1), .val (.int (5 : Int32)), .val (.int (2 : Int32)), .val (.ref (el 1))] []) := fun tq kq => g46 tq (XS.icmpNo X37.here hx rfl (hb hby d2_11) rfl (tlt (by decide)).2.1 kq)
      have g48 : Gz p.tables e below A T37 (mkF m 15 #[.val (.int p1), .val (.ref b1), .val (.int (5 : Int32)), .val (.int (2 : Int32)), .val (.ref (el 1))] [(.ref b1)]) := fun tq kq => g47 tq (XS.aloadN X37.here hx rfl (hb hby d2_14) rfl rfl kq)
      have g49 : Gz p.tables e below A T37 (mkF m 16 #[.val (.int p1), .val (.ref b1), .val (.int (5 : Int32)), .val (.int (2 : Int32)), .val (.ref (el 1))] [(.int (2 : Int32)), (.ref b1)]) := fun tq kq => g48 tq (XS.iloadN X37.here hx rfl (hb hby d2_15) rfl kq)
      obtain ⟨cl50, Ar50, q50, Sz50, Nn50, Hh50, G50⟩ := id VQ1
      have hin50 : ¬ ((2 : Int32) < 0 ∨ cl50.slots.size ≤ (2 : Int32).toNatClampNeg) := inb_of Sz50 ⟨by decide, by decide⟩
      have hat50 : cl50.slots[(2 : Int32).toNatClampNeg]? = some (.ref (el 2)) := Has.at Hh50 hin50 rfl
      have g51 : Gz p.tables e below A T37 (mkF m 17 #[.val (.int p1), .val (.ref b1), .val (.int (5 : Int32)), .val (.int (2 : Int32)), .val (.ref (el 1))] [(.ref (el 2))]) := fun tq kq => g49 tq (X37.aaload hx (j := (2 : Int32)) (v := (.ref (el 2))) (by rw [e37]; exact Ar50.1) (State.isArrayOf_alike hZ.alike Ar50.2.1) rfl Ar50.2.2 hin50 hat50 (g := (mkF m 16 #[.val (.int p1), .val (.ref b1), .val (.int (5 : Int32)), .val (.int (2 : Int32)), .val (.ref (el 1))] [(.int (2 : Int32)), (.ref b1)])) rfl rfl (hb hby d2_16) _ kq)
      have g52 : Gz p.tables e below A T37 (mkF m 19 #[.val (.int p1), .val (.ref b1), .val (.int (5 : Int32)), .val (.int (2 : Int32)), .val (.ref (el 2))] []) := fun tq kq => g51 tq (XS.astore X37.here hx rfl (hb hby d2_17) rfl rfl (l' := #[.val (.int p1), .val (.ref b1), .val (.int (5 : Int32)), .val (.int (2 : Int32)), .val (.ref (el 2))]) rfl kq)
      have g53 : Gz p.tables e below A T37 (mkF m 21 #[.val (.int p1), .val (.ref b1), .val (.int (5 : Int32)), .val (.int (2 : Int32)), .val (.ref (el 2))] [(.ref (el 2))]) := fun tq kq => g52 tq (XS.aload X37.here hx rfl (hb hby d2_19) rfl rfl kq)
      obtain ⟨T54, X54, e54, st54⟩ := getF X37 hx hZ hown (host := "") (Or.inl (hw _ (List.mem_of_getElem? (i := 19) rfl))) Via.refl e37 (F2.ext K3) (g := (mkF m 21 #[.val (.int p1), .val (.ref b1), .val (.int (5 : Int32)), .val (.int (2 : Int32)), .val (.ref (el 2))] [(.ref (el 2))])) rfl rfl (hb hby d2_21)
      have g55 : Gz p.tables e below A T54 (mkF m 24 #[.val (.int p1), .val (.ref b1), .val (.int (5 : Int32)), .val (.int (2 : Int32)), .val (.ref (el 2))] [(.int (66 : Int32))]) := fun tq kq => g53 tq (st54 tq kq)
      have g56 : Gz p.tables e below A T54 (mkF m 25 #[.val (.int p1), .val (.ref b1), .val (.int (5 : Int32)), .val (.int (2 : Int32)), .val (.ref (el 2))] [(.int p1), (.int (66 : Int32))]) := fun tq kq => g55 tq (XS.iloadN X54.here hx rfl (hb hby d2_24) rfl kq)
      by_cases hc25_2 : (66 : Int32) = p1
      · have g57 : Gz p.tables e below A T54 (mkF m 28 #[.val (.int p1), .val (.ref b1), .val (.int (5 : Int32)), .val (.int (2 : Int32)), .val (.ref (el 2))] []) := fun tq kq => g56 tq (XS.icmpNo X54.here hx rfl (hb hby d2_25) rfl (teq hc25_2).2 kq)
        have g58 : Gz p.tables e below A T54 (mkF m 30 #[.val (.int p1), .val (.ref b1), .val (.int (5 : Int32)), .val (.int (2 : Int32)), .val (.ref (el 2))] [(.ref (el 2))]) := fun tq kq => g57 tq (XS.aload X54.here hx rfl (hb hby d2_28) rfl rfl kq)
        obtain ⟨fs, hr, hrun, hended, hW, hsame⟩ := X54.leave (v := some (.ref (el 2))) (fun h => by rw [Bd.returns] at h; cases h)
        refine ⟨_, _, g58 _ (retOut X54 hx Bd.returns rfl (Or.inr (Or.inr (Or.inr (Or.inr ⟨rfl, rfl, rfl⟩)))) (hb hby d2_30) hr), hrun, hended, _, _, rfl, ?_, ⟨_, rfl⟩, hW, hsame.mono (by decide) (by decide)⟩
        show Q2 Z p1 a k el val h0 n0 _ T54.heap _
        rw [e54]
        exact ⟨by rw [← hval]; unfold own_kind; rw [if_neg (fun q => hc25 q.symm), if_neg (fun q => hc25_1 q.symm), if_pos hc25_2.symm], N1, K3⟩
      · have g59 : Gz p.tables e below A T54 (mkF m 31 #[.val (.int p1), .val (.ref b1), .val (.int (5 : Int32)), .val (.int (2 : Int32)), .val (.ref (el 2))] []) := fun tq kq => g56 tq (XS.icmpYes X54.here hx rfl (pc0 := 25) (pc' := 31) rfl (hb hby d2_25) rfl (feq hc25_2).2 (by decide) (by decide) kq)
        have g60 : Gz p.tables e below A T54 (mkF m 34 #[.val (.int p1), .val (.ref b1), .val (.int (5 : Int32)), .val (.int (3 : Int32)), .val (.ref (el 2))] []) := fun tq kq => g59 tq (XS.iinc X54.here hx rfl (hb hby d2_31) rfl (l' := #[.val (.int p1), .val (.ref b1), .val (.int (5 : Int32)), .val (.int (3 : Int32)), .val (.ref (el 2))]) rfl kq)
        have g61 : Gz p.tables e below A T54 (mkF m 9 #[.val (.int p1), .val (.ref b1), .val (.int (5 : Int32)), .val (.int (3 : Int32)), .val (.ref (el 2))] []) := fun tq kq => g60 tq (XS.goto X54.here hx rfl (pc0 := 34) (pc' := 9) rfl (hb hby d2_34) (by decide) (by decide) kq)
        have g62 : Gz p.tables e below A T54 (mkF m 10 #[.val (.int p1), .val (.ref b1), .val (.int (5 : Int32)), .val (.int (3 : Int32)), .val (.ref (el 2))] [(.int (3 : Int32))]) := fun tq kq => g61 tq (XS.iloadN X54.here hx rfl (hb hby d2_9) rfl kq)
        have g63 : Gz p.tables e below A T54 (mkF m 11 #[.val (.int p1), .val (.ref b1), .val (.int (5 : Int32)), .val (.int (3 : Int32)), .val (.ref (el 2))] [(.int (5 : Int32)), (.int (3 : Int32))]) := fun tq kq => g62 tq (XS.iloadN X54.here hx rfl (hb hby d2_10) rfl kq)
        have g64 : Gz p.tables e below A T54 (mkF m 14 #[.val (.int p1), .val (.ref b1), .val (.int (5 : Int32)), .val (.int (3 : Int32)), .val (.ref (el 2))] []) := fun tq kq => g63 tq (XS.icmpNo X54.here hx rfl (hb hby d2_11) rfl (tlt (by decide)).2.1 kq)
        have g65 : Gz p.tables e below A T54 (mkF m 15 #[.val (.int p1), .val (.ref b1), .val (.int (5 : Int32)), .val (.int (3 : Int32)), .val (.ref (el 2))] [(.ref b1)]) := fun tq kq => g64 tq (XS.aloadN X54.here hx rfl (hb hby d2_14) rfl rfl kq)
        have g66 : Gz p.tables e below A T54 (mkF m 16 #[.val (.int p1), .val (.ref b1), .val (.int (5 : Int32)), .val (.int (3 : Int32)), .val (.ref (el 2))] [(.int (3 : Int32)), (.ref b1)]) := fun tq kq => g65 tq (XS.iloadN X54.here hx rfl (hb hby d2_15) rfl kq)
        obtain ⟨cl67, Ar67, q67, Sz67, Nn67, Hh67, G67⟩ := id VQ1
        have hin67 : ¬ ((3 : Int32) < 0 ∨ cl67.slots.size ≤ (3 : Int32).toNatClampNeg) := inb_of Sz67 ⟨by decide, by decide⟩
        have hat67 : cl67.slots[(3 : Int32).toNatClampNeg]? = some (.ref (el 3)) := Has.at Hh67 hin67 rfl
        have g68 : Gz p.tables e below A T54 (mkF m 17 #[.val (.int p1), .val (.ref b1), .val (.int (5 : Int32)), .val (.int (3 : Int32)), .val (.ref (el 2))] [(.ref (el 3))]) := fun tq kq => g66 tq (X54.aaload hx (j := (3 : Int32)) (v := (.ref (el 3))) (by rw [e54]; exact Ar67.1) (State.isArrayOf_alike hZ.alike Ar67.2.1) rfl Ar67.2.2 hin67 hat67 (g := (mkF m 16 #[.val (.int p1), .val (.ref b1), .val (.int (5 : Int32)), .val (.int (3 : Int32)), .val (.ref (el 2))] [(.int (3 : Int32)), (.ref b1)])) rfl rfl (hb hby d2_16) _ kq)
        have g69 : Gz p.tables e below A T54 (mkF m 19 #[.val (.int p1), .val (.ref b1), .val (.int (5 : Int32)), .val (.int (3 : Int32)), .val (.ref (el 3))] []) := fun tq kq => g68 tq (XS.astore X54.here hx rfl (hb hby d2_17) rfl rfl (l' := #[.val (.int p1), .val (.ref b1), .val (.int (5 : Int32)), .val (.int (3 : Int32)), .val (.ref (el 3))]) rfl kq)
        have g70 : Gz p.tables e below A T54 (mkF m 21 #[.val (.int p1), .val (.ref b1), .val (.int (5 : Int32)), .val (.int (3 : Int32)), .val (.ref (el 3))] [(.ref (el 3))]) := fun tq kq => g69 tq (XS.aload X54.here hx rfl (hb hby d2_19) rfl rfl kq)
        obtain ⟨T71, X71, e71, st71⟩ := getF X54 hx hZ hown (host := "") (Or.inl (hw _ (List.mem_of_getElem? (i := 19) rfl))) Via.refl e54 (F3.ext K3) (g := (mkF m 21 #[.val (.int p1), .val (.ref b1), .val (.int (5 : Int32)), .val (.int (3 : Int32)), .val (.ref (el 3))] [(.ref (el 3))])) rfl rfl (hb hby d2_21)
        have g72 : Gz p.tables e below A T71 (mkF m 24 #[.val (.int p1), .val (.ref b1), .val (.int (5 : Int32)), .val (.int (3 : Int32)), .val (.ref (el 3))] [(.int (83 : Int32))]) := fun tq kq => g70 tq (st71 tq kq)
        have g73 : Gz p.tables e below A T71 (mkF m 25 #[.val (.int p1), .val (.ref b1), .val (.int (5 : Int32)), .val (.int (3 : Int32)), .val (.ref (el 3))] [(.int p1), (.int (83 : Int32))]) := fun tq kq => g72 tq (XS.iloadN X71.here hx rfl (hb hby d2_24) rfl kq)
        by_cases hc25_3 : (83 : Int32) = p1
        · have g74 : Gz p.tables e below A T71 (mkF m 28 #[.val (.int p1), .val (.ref b1), .val (.int (5 : Int32)), .val (.int (3 : Int32)), .val (.ref (el 3))] []) := fun tq kq => g73 tq (XS.icmpNo X71.here hx rfl (hb hby d2_25) rfl (teq hc25_3).2 kq)
          have g75 : Gz p.tables e below A T71 (mkF m 30 #[.val (.int p1), .val (.ref b1), .val (.int (5 : Int32)), .val (.int (3 : Int32)), .val (.ref (el 3))] [(.ref (el 3))]) := fun tq kq => g74 tq (XS.aload X71.here hx rfl (hb hby d2_28) rfl rfl kq)
          obtain ⟨fs, hr, hrun, hended, hW, hsame⟩ := X71.leave (v := some (.ref (el 3))) (fun h => by rw [Bd.returns] at h; cases h)
          refine ⟨_, _, g75 _ (retOut X71 hx Bd.returns rfl (Or.inr (Or.inr (Or.inr (Or.inr ⟨rfl, rfl, rfl⟩)))) (hb hby d2_30) hr), hrun, hended, _, _, rfl, ?_, ⟨_, rfl⟩, hW, hsame.mono (by decide) (by decide)⟩
          show Q2 Z p1 a k el val h0 n0 _ T71.heap _
          rw [e71]
          exact ⟨by rw [← hval]; unfold own_kind; rw [if_neg (fun q => hc25 q.symm), if_neg (fun q => hc25_1 q.symm), if_neg (fun q => hc25_2 q.symm), if_pos hc25_3.symm], N1, K3⟩
        · have g76 : Gz p.tables e below A T71 (mkF m 31 #[.val (.int p1), .val (.ref b1), .val (.int (5 : Int32)), .val (.int (3 : Int32)), .val (.ref (el 3))] []) := fun tq kq => g73 tq (XS.icmpYes X71.here hx rfl (pc0 := 25) (pc' := 31) rfl (hb hby d2_25) rfl (feq hc25_3).2 (by decide) (by decide) kq)
          have g77 : Gz p.tables e below A T71 (mkF m 34 #[.val (.int p1), .val (.ref b1), .val (.int (5 : Int32)), .val (.int (4 : Int32)), .val (.ref (el 3))] []) := fun tq kq => g76 tq (XS.iinc X71.here hx rfl (hb hby d2_31) rfl (l' := #[.val (.int p1), .val (.ref b1), .val (.int (5 : Int32)), .val (.int (4 : Int32)), .val (.ref (el 3))]) rfl kq)
          have g78 : Gz p.tables e below A T71 (mkF m 9 #[.val (.int p1), .val (.ref b1), .val (.int (5 : Int32)), .val (.int (4 : Int32)), .val (.ref (el 3))] []) := fun tq kq => g77 tq (XS.goto X71.here hx rfl (pc0 := 34) (pc' := 9) rfl (hb hby d2_34) (by decide) (by decide) kq)
          have g79 : Gz p.tables e below A T71 (mkF m 10 #[.val (.int p1), .val (.ref b1), .val (.int (5 : Int32)), .val (.int (4 : Int32)), .val (.ref (el 3))] [(.int (4 : Int32))]) := fun tq kq => g78 tq (XS.iloadN X71.here hx rfl (hb hby d2_9) rfl kq)
          have g80 : Gz p.tables e below A T71 (mkF m 11 #[.val (.int p1), .val (.ref b1), .val (.int (5 : Int32)), .val (.int (4 : Int32)), .val (.ref (el 3))] [(.int (5 : Int32)), (.int (4 : Int32))]) := fun tq kq => g79 tq (XS.iloadN X71.here hx rfl (hb hby d2_10) rfl kq)
          have g81 : Gz p.tables e below A T71 (mkF m 14 #[.val (.int p1), .val (.ref b1), .val (.int (5 : Int32)), .val (.int (4 : Int32)), .val (.ref (el 3))] []) := fun tq kq => g80 tq (XS.icmpNo X71.here hx rfl (hb hby d2_11) rfl (tlt (by decide)).2.1 kq)
          have g82 : Gz p.tables e below A T71 (mkF m 15 #[.val (.int p1), .val (.ref b1), .val (.int (5 : Int32)), .val (.int (4 : Int32)), .val (.ref (el 3))] [(.ref b1)]) := fun tq kq => g81 tq (XS.aloadN X71.here hx rfl (hb hby d2_14) rfl rfl kq)
          have g83 : Gz p.tables e below A T71 (mkF m 16 #[.val (.int p1), .val (.ref b1), .val (.int (5 : Int32)), .val (.int (4 : Int32)), .val (.ref (el 3))] [(.int (4 : Int32)), (.ref b1)]) := fun tq kq => g82 tq (XS.iloadN X71.here hx rfl (hb hby d2_15) rfl kq)
          obtain ⟨cl84, Ar84, q84, Sz84, Nn84, Hh84, G84⟩ := id VQ1
          have hin84 : ¬ ((4 : Int32) < 0 ∨ cl84.slots.size ≤ (4 : Int32).toNatClampNeg) := inb_of Sz84 ⟨by decide, by decide⟩
          have hat84 : cl84.slots[(4 : Int32).toNatClampNeg]? = some (.ref (el 4)) := Has.at Hh84 hin84 rfl
          have g85 : Gz p.tables e below A T71 (mkF m 17 #[.val (.int p1), .val (.ref b1), .val (.int (5 : Int32)), .val (.int (4 : Int32)), .val (.ref (el 3))] [(.ref (el 4))]) := fun tq kq => g83 tq (X71.aaload hx (j := (4 : Int32)) (v := (.ref (el 4))) (by rw [e71]; exact Ar84.1) (State.isArrayOf_alike hZ.alike Ar84.2.1) rfl Ar84.2.2 hin84 hat84 (g := (mkF m 16 #[.val (.int p1), .val (.ref b1), .val (.int (5 : Int32)), .val (.int (4 : Int32)), .val (.ref (el 3))] [(.int (4 : Int32)), (.ref b1)])) rfl rfl (hb hby d2_16) _ kq)
          have g86 : Gz p.tables e below A T71 (mkF m 19 #[.val (.int p1), .val (.ref b1), .val (.int (5 : Int32)), .val (.int (4 : Int32)), .val (.ref (el 4))] []) := fun tq kq => g85 tq (XS.astore X71.here hx rfl (hb hby d2_17) rfl rfl (l' := #[.val (.int p1), .val (.ref b1), .val (.int (5 : Int32)), .val (.int (4 : Int32)), .val (.ref (el 4))]) rfl kq)
          have g87 : Gz p.tables e below A T71 (mkF m 21 #[.val (.int p1), .val (.ref b1), .val (.int (5 : Int32)), .val (.int (4 : Int32)), .val (.ref (el 4))] [(.ref (el 4))]) := fun tq kq => g86 tq (XS.aload X71.here hx rfl (hb hby d2_19) rfl rfl kq)
          obtain ⟨T88, X88, e88, st88⟩ := getF X71 hx hZ hown (host := "") (Or.inl (hw _ (List.mem_of_getElem? (i := 19) rfl))) Via.refl e71 (F4.ext K3) (g := (mkF m 21 #[.val (.int p1), .val (.ref b1), .val (.int (5 : Int32)), .val (.int (4 : Int32)), .val (.ref (el 4))] [(.ref (el 4))])) rfl rfl (hb hby d2_21)
          have g89 : Gz p.tables e below A T88 (mkF m 24 #[.val (.int p1), .val (.ref b1), .val (.int (5 : Int32)), .val (.int (4 : Int32)), .val (.ref (el 4))] [(.int (76 : Int32))]) := fun tq kq => g87 tq (st88 tq kq)
          have g90 : Gz p.tables e below A T88 (mkF m 25 #[.val (.int p1), .val (.ref b1), .val (.int (5 : Int32)), .val (.int (4 : Int32)), .val (.ref (el 4))] [(.int p1), (.int (76 : Int32))]) := fun tq kq => g89 tq (XS.iloadN X88.here hx rfl (hb hby d2_24) rfl kq)
          by_cases hc25_4 : (76 : Int32) = p1
          · have g91 : Gz p.tables e below A T88 (mkF m 28 #[.val (.int p1), .val (.ref b1), .val (.int (5 : Int32)), .val (.int (4 : Int32)), .val (.ref (el 4))] []) := fun tq kq => g90 tq (XS.icmpNo X88.here hx rfl (hb hby d2_25) rfl (teq hc25_4).2 kq)
            have g92 : Gz p.tables e below A T88 (mkF m 30 #[.val (.int p1), .val (.ref b1), .val (.int (5 : Int32)), .val (.int (4 : Int32)), .val (.ref (el 4))] [(.ref (el 4))]) := fun tq kq => g91 tq (XS.aload X88.here hx rfl (hb hby d2_28) rfl rfl kq)
            obtain ⟨fs, hr, hrun, hended, hW, hsame⟩ := X88.leave (v := some (.ref (el 4))) (fun h => by rw [Bd.returns] at h; cases h)
            refine ⟨_, _, g92 _ (retOut X88 hx Bd.returns rfl (Or.inr (Or.inr (Or.inr (Or.inr ⟨rfl, rfl, rfl⟩)))) (hb hby d2_30) hr), hrun, hended, _, _, rfl, ?_, ⟨_, rfl⟩, hW, hsame.mono (by decide) (by decide)⟩
            show Q2 Z p1 a k el val h0 n0 _ T88.heap _
            rw [e88]
            exact ⟨by rw [← hval]; unfold own_kind; rw [if_neg (fun q => hc25 q.symm), if_neg (fun q => hc25_1 q.symm), if_neg (fun q => hc25_2 q.symm), if_neg (fun q => hc25_3 q.symm), if_pos hc25_4.symm], N1, K3⟩
          · have g93 : Gz p.tables e below A T88 (mkF m 31 #[.val (.int p1), .val (.ref b1), .val (.int (5 : Int32)), .val (.int (4 : Int32)), .val (.ref (el 4))] []) := fun tq kq => g90 tq (XS.icmpYes X88.here hx rfl (pc0 := 25) (pc' := 31) rfl (hb hby d2_25) rfl (feq hc25_4).2 (by decide) (by decide) kq)
            have g94 : Gz p.tables e below A T88 (mkF m 34 #[.val (.int p1), .val (.ref b1), .val (.int (5 : Int32)), .val (.int (5 : Int32)), .val (.ref (el 4))] []) := fun tq kq => g93 tq (XS.iinc X88.here hx rfl (hb hby d2_31) rfl (l' := #[.val (.int p1), .val (.ref b1), .val (.int (5 : Int32)), .val (.int (5 : Int32)), .val (.ref (el 4))]) rfl kq)
            have g95 : Gz p.tables e below A T88 (mkF m 9 #[.val (.int p1), .val (.ref b1), .val (.int (5 : Int32)), .val (.int (5 : Int32)), .val (.ref (el 4))] []) := fun tq kq => g94 tq (XS.goto X88.here hx rfl (pc0 := 34) (pc' := 9) rfl (hb hby d2_34) (by decide) (by decide) kq)
            have g96 : Gz p.tables e below A T88 (mkF m 10 #[.val (.int p1), .val (.ref b1), .val (.int (5 : Int32)), .val (.int (5 : Int32)), .val (.ref (el 4))] [(.int (5 : Int32))]) := fun tq kq => g95 tq (XS.iloadN X88.here hx rfl (hb hby d2_9) rfl kq)
            have g97 : Gz p.tables e below A T88 (mkF m 11 #[.val (.int p1), .val (.ref b1), .val (.int (5 : Int32)), .val (.int (5 : Int32)), .val (.ref (el 4))] [(.int (5 : Int32)), (.int (5 : Int32))]) := fun tq kq => g96 tq (XS.iloadN X88.here hx rfl (hb hby d2_10) rfl kq)
            have g98 : Gz p.tables e below A T88 (mkF m 37 #[.val (.int p1), .val (.ref b1), .val (.int (5 : Int32)), .val (.int (5 : Int32)), .val (.ref (el 4))] []) := fun tq kq => g97 tq (XS.icmpYes X88.here hx rfl (pc0 := 11) (pc' := 37) rfl (hb hby d2_11) rfl (flt (by decide)).2.1 (by decide) (by decide) kq)
            have g99 : Gz p.tables e below A T88 (mkF m 38 #[.val (.int p1), .val (.ref b1), .val (.int (5 : Int32)), .val (.int (5 : Int32)), .val (.ref (el 4))] [.null]) := fun tq kq => g98 tq (XS.aconstNull X88.here hx rfl (hb hby d2_37) kq)
            obtain ⟨fs, hr, hrun, hended, hW, hsame⟩ := X88.leave (v := some .null) (fun h => by rw [Bd.returns] at h; cases h)
            refine ⟨_, _, g99 _ (retOut X88 hx Bd.returns rfl (Or.inr (Or.inr (Or.inr (Or.inr ⟨rfl, rfl, rfl⟩)))) (hb hby d2_38) hr), hrun, hended, _, _, rfl, ?_, ⟨_, rfl⟩, hW, hsame.mono (by decide) (by decide)⟩
            show Q2 Z p1 a k el val h0 n0 _ T88.heap _
            rw [e88]
            exact ⟨by rw [← hval]; unfold own_kind; rw [if_neg (fun q => hc25 q.symm), if_neg (fun q => hc25_1 q.symm), if_neg (fun q => hc25_2 q.symm), if_neg (fun q => hc25_3 q.symm), if_neg (fun q => hc25_4 q.symm)], N1, K3⟩

theorem d3_0 : decode method_3_code 0 = .ok (.iload_n 0, 1) := by decide +kernel
theorem d3_1 : decode method_3_code 1 = .ok (.bipush 73, 2) := by decide +kernel
theorem d3_3 : decode method_3_code 3 = .ok (.if_icmp .ne 7, 3) := by decide +kernel
theorem d3_6 : decode method_3_code 6 = .ok (.getstatic 18, 3) := by decide +kernel
theorem d3_9 : decode method_3_code 9 = .ok (.areturn, 1) := by decide +kernel
theorem d3_10 : decode method_3_code 10 = .ok (.iload_n 0, 1) := by decide +kernel
theorem d3_11 : decode method_3_code 11 = .ok (.bipush 68, 2) := by decide +kernel
theorem d3_13 : decode method_3_code 13 = .ok (.if_icmp .ne 7, 3) := by decide +kernel
theorem d3_16 : decode method_3_code 16 = .ok (.getstatic 22, 3) := by decide +kernel
theorem d3_19 : decode method_3_code 19 = .ok (.areturn, 1) := by decide +kernel
theorem d3_20 : decode method_3_code 20 = .ok (.iload_n 0, 1) := by decide +kernel
theorem d3_21 : decode method_3_code 21 = .ok (.bipush 66, 2) := by decide +kernel
theorem d3_23 : decode method_3_code 23 = .ok (.if_icmp .ne 7, 3) := by decide +kernel
theorem d3_26 : decode method_3_code 26 = .ok (.getstatic 25, 3) := by decide +kernel
theorem d3_29 : decode method_3_code 29 = .ok (.areturn, 1) := by decide +kernel
theorem d3_30 : decode method_3_code 30 = .ok (.iload_n 0, 1) := by decide +kernel
theorem d3_31 : decode method_3_code 31 = .ok (.bipush 83, 2) := by decide +kernel
theorem d3_33 : decode method_3_code 33 = .ok (.if_icmp .ne 7, 3) := by decide +kernel
theorem d3_36 : decode method_3_code 36 = .ok (.getstatic 28, 3) := by decide +kernel
theorem d3_39 : decode method_3_code 39 = .ok (.areturn, 1) := by decide +kernel
theorem d3_40 : decode method_3_code 40 = .ok (.iload_n 0, 1) := by decide +kernel
theorem d3_41 : decode method_3_code 41 = .ok (.bipush 76, 2) := by decide +kernel
theorem d3_43 : decode method_3_code 43 = .ok (.if_icmp .ne 7, 3) := by decide +kernel
theorem d3_46 : decode method_3_code 46 = .ok (.getstatic 31, 3) := by decide +kernel
theorem d3_49 : decode method_3_code 49 = .ok (.areturn, 1) := by decide +kernel
theorem d3_50 : decode method_3_code 50 = .ok (.aconst_null, 1) := by decide +kernel
theorem d3_51 : decode method_3_code 51 = .ok (.areturn, 1) := by decide +kernel
theorem pn3 : plainName "com/example/statecraft/statecraft/preferences/ValueKindOfTagPinLaw" = true := by first | (simp [plainName, overriddenIn]; done) | decide +kernel
theorem ef3 (m : MethodId) (x0 : Int32) : entryFrame m #[(.int x0)] 1 = mkF m 0 #[.val (.int x0)] [] := by first | (simp [entryFrame, mkF, argsToLocals, Value.category]; done) | rfl
def Q3 (Z : State) (p1 : Int32) (el : Nat → Addr) (val : Value) (h0 : Heap) (n0 : Nat) (v : Option Value) (h : Heap) (L : List Loc) : Prop := v = some val ∧ Fr n0 L ∧ h = h0
set_option maxRecDepth 65536 in
set_option maxHeartbeats 40000000 in
theorem rm3 (l : Launch) (Z : State) (a0 : Array Value) (hw : ∀ d ∈ tables_1, d.before a0 Z = true) (ws : List Jvm.Cond) (p1 : Int32) (el : Nat → Addr) (val : Value) (h0 : Heap) (n0 : Nat) (Z0 : n0 ≤ h0.size) (S_INT : Sta Z h0 "com/example/statecraft/statecraft/preferences/ValueKind" "INT" "Lcom/example/statecraft/statecraft/preferences/ValueKind;" (.ref (el 0))) (S_DOUBLE : Sta Z h0 "com/example/statecraft/statecraft/preferences/ValueKind" "DOUBLE" "Lcom/example/statecraft/statecraft/preferences/ValueKind;" (.ref (el 1))) (S_BOOLEAN : Sta Z h0 "com/example/statecraft/statecraft/preferences/ValueKind" "BOOLEAN" "Lcom/example/statecraft/statecraft/preferences/ValueKind;" (.ref (el 2))) (S_STRING : Sta Z h0 "com/example/statecraft/statecraft/preferences/ValueKind" "STRING" "Lcom/example/statecraft/statecraft/preferences/ValueKind;" (.ref (el 3))) (S_STRING_LIST : Sta Z h0 "com/example/statecraft/statecraft/preferences/ValueKind" "STRING_LIST" "Lcom/example/statecraft/statecraft/preferences/ValueKind;" (.ref (el 4))) (hval : own_kind el p1 = val) :
    MetFree l (⟨"com/example/statecraft/statecraft/preferences/ValueKindOfTagPinLaw", "expected", "(B)Lcom/example/statecraft/statecraft/preferences/ValueKind;"⟩ : MethodName) (head1 (Jvm.Cond.code (⟨"com/example/statecraft/statecraft/preferences/ValueKindOfTagPinLaw", "expected", "(B)Lcom/example/statecraft/statecraft/preferences/ValueKind;"⟩ : MethodName) method_3_code 1 (some (.object "com/example/statecraft/statecraft/preferences/ValueKind")) :: ws) ({ frames := 0, cells := 0, slots := 0, locals := 0 } : Room)) (fun aq Uq => aq = #[(.int p1)] ∧ Z.Warmed39 Uq.vm ∧ Uq.heap = h0) (fun _ _ _ _ _ => True) (fun _ Uq oq Uq' => ∃ vq Lq, oq = .returned vq ∧ Q3 Z p1 el val h0 n0 vq Uq'.heap Lq ∧ FrameEnd Uq oq Uq' Lq ({ frames := 0, cells := 0, slots := 0, locals := 0 } : Room).cells ({ frames := 0, cells := 0, slots := 0, locals := 0 } : Room).slots) := by
  refine MetFree.of_bodySF (plainFor_of_name pn3) hisR ?_
  intro p e s m args below meth c s₁ Bd hml0 hP hK
  obtain ⟨rfl, hZ, hh⟩ := hP
  have hx := Bd.exec
  have hby := Bd.bytes
  have hml : c.maxLocals = 1 := hml0
  have hown : s.vm.findClass "com/example/statecraft/statecraft/preferences/ValueKindOfTagPinLaw" = some m.cls := findClass_of_methodNamed Bd.named
  have hnm := (name_of_methodNamed Bd.named Bd.method).1
  have X0 : Stand p l e ({ frames := 0, cells := 0, slots := 0, locals := 0 } : Room) s m #[(.int p1)] below meth c s₁ [] 0 0 := Stand.of_body Bd
  have e0 : s₁.heap = h0 := by rw [← hh, Bd.state]; rfl
  have N0 := Fr.nil n0
  obtain ⟨A, hA⟩ : ∃ A, A = s₁.setTop (entryFrame m #[(.int p1)] 1) := ⟨_, rfl⟩
  rw [← hA]
  have g0 : Gz p.tables e below A s₁ (mkF m 0 #[.val (.int p1)] []) := fun tq kq => by rw [hA]; exact castTop (ef3 m p1) kq
  have g1 : Gz p.tables e below A s₁ (mkF m 1 #[.val (.int p1)] [(.int p1)]) := fun tq kq => g0 tq (XS.iloadN X0.here hx rfl (hb hby d3_0) rfl kq)
  have g2 : Gz p.tables e below A s₁ (mkF m 3 #[.val (.int p1)] [(.int (73 : Int32)), (.int p1)]) := fun tq kq => g1 tq (XS.bipush X0.here hx rfl (hb hby d3_1) kq)
  by_cases hc3 : p1 = (73 : Int32)
  · have g3 : Gz p.tables e below A s₁ (mkF m 6 #[.val (.int p1)] []) := fun tq kq => g2 tq (XS.icmpNo X0.here hx rfl (hb hby d3_3) rfl (teq hc3).2 kq)
    obtain ⟨T4, X4, e4, st4⟩ := getS2 X0 hx hZ hown (host := "") (Or.inl (hw _ (List.mem_of_getElem? (i := 25) rfl))) Via.refl e0 S_INT (g := (mkF m 6 #[.val (.int p1)] [])) rfl (hb hby d3_6)
    have g5 : Gz p.tables e below A T4 (mkF m 9 #[.val (.int p1)] [(.ref (el 0))]) := fun tq kq => g3 tq (st4 tq kq)
    obtain ⟨fs, hr, hrun, hended, hW, hsame⟩ := X4.leave (v := some (.ref (el 0))) (fun h => by rw [Bd.returns] at h; cases h)
    refine ⟨_, _, g5 _ (retOut X4 hx Bd.returns rfl (Or.inr (Or.inr (Or.inr (Or.inr ⟨rfl, rfl, rfl⟩)))) (hb hby d3_9) hr), hrun, hended, _, _, rfl, ?_, ⟨_, rfl⟩, hW, hsame.mono (by decide) (by decide)⟩
    show Q3 Z p1 el val h0 n0 _ T4.heap _
    rw [e4]
    exact ⟨by rw [← hval]; unfold own_kind; rw [if_pos hc3], N0, rfl⟩
  · have g6 : Gz p.tables e below A s₁ (mkF m 10 #[.val (.int p1)] []) := fun tq kq => g2 tq (XS.icmpYes X0.here hx rfl (pc0 := 3) (pc' := 10) rfl (hb hby d3_3) rfl (feq hc3).2 (by decide) (by decide) kq)
    have g7 : Gz p.tables e below A s₁ (mkF m 11 #[.val (.int p1)] [(.int p1)]) := fun tq kq => g6 tq (XS.iloadN X0.here hx rfl (hb hby d3_10) rfl kq)
    have g8 : Gz p.tables e below A s₁ (mkF m 13 #[.val (.int p1)] [(.int (68 : Int32)), (.int p1)]) := fun tq kq => g7 tq (XS.bipush X0.here hx rfl (hb hby d3_11) kq)
    by_cases hc13 : p1 = (68 : Int32)
    · have g9 : Gz p.tables e below A s₁ (mkF m 16 #[.val (.int p1)] []) := fun tq kq => g8 tq (XS.icmpNo X0.here hx rfl (hb hby d3_13) rfl (teq hc13).2 kq)
      obtain ⟨T10, X10, e10, st10⟩ := getS2 X0 hx hZ hown (host := "") (Or.inl (hw _ (List.mem_of_getElem? (i := 35) rfl))) Via.refl e0 S_DOUBLE (g := (mkF m 16 #[.val (.int p1)] [])) rfl (hb hby d3_16)
      have g11 : Gz p.tables e below A T10 (mkF m 19 #[.val (.int p1)] [(.ref (el 1))]) := fun tq kq => g9 tq (st10 tq kq)
      obtain ⟨fs, hr, hrun, hended, hW, hsame⟩ := X10.leave (v := some (.ref (el 1))) (fun h => by rw [Bd.returns] at h; cases h)
      refine ⟨_, _, g11 _ (retOut X10 hx Bd.returns rfl (Or.inr (Or.inr (Or.inr (Or.inr ⟨rfl, rfl, rfl⟩)))) (hb hby d3_19) hr), hrun, hended, _, _, rfl, ?_, ⟨_, rfl⟩, hW, hsame.mono (by decide) (by decide)⟩
      show Q3 Z p1 el val h0 n0 _ T10.heap _
      rw [e10]
      exact ⟨by rw [← hval]; unfold own_kind; rw [if_neg hc3, if_pos hc13], N0, rfl⟩
    · have g12 : Gz p.tables e below A s₁ (mkF m 20 #[.val (.int p1)] []) := fun tq kq => g8 tq (XS.icmpYes X0.here hx rfl (pc0 := 13) (pc' := 20) rfl (hb hby d3_13) rfl (feq hc13).2 (by decide) (by decide) kq)
      have g13 : Gz p.tables e below A s₁ (mkF m 21 #[.val (.int p1)] [(.int p1)]) := fun tq kq => g12 tq (XS.iloadN X0.here hx rfl (hb hby d3_20) rfl kq)
      have g14 : Gz p.tables e below A s₁ (mkF m 23 #[.val (.int p1)] [(.int (66 : Int32)), (.int p1)]) := fun tq kq => g13 tq (XS.bipush X0.here hx rfl (hb hby d3_21) kq)
      by_cases hc23 : p1 = (66 : Int32)
      · have g15 : Gz p.tables e below A s₁ (mkF m 26 #[.val (.int p1)] []) := fun tq kq => g14 tq (XS.icmpNo X0.here hx rfl (hb hby d3_23) rfl (teq hc23).2 kq)
        obtain ⟨T16, X16, e16, st16⟩ := getS2 X0 hx hZ hown (host := "") (Or.inl (hw _ (List.mem_of_getElem? (i := 37) rfl))) Via.refl e0 S_BOOLEAN (g := (mkF m 26 #[.val (.int p1)] [])) rfl (hb hby d3_26)
        have g17 : Gz p.tables e below A T16 (mkF m 29 #[.val (.int p1)] [(.ref (el 2))]) := fun tq kq => g15 tq (st16 tq kq)
        obtain ⟨fs, hr, hrun, hended, hW, hsame⟩ := X16.leave (v := some (.ref (el 2))) (fun h => by rw [Bd.returns] at h; cases h)
        refine ⟨_, _, g17 _ (retOut X16 hx Bd.returns rfl (Or.inr (Or.inr (Or.inr (Or.inr ⟨rfl, rfl, rfl⟩)))) (hb hby d3_29) hr), hrun, hended, _, _, rfl, ?_, ⟨_, rfl⟩, hW, hsame.mono (by decide) (by decide)⟩
        show Q3 Z p1 el val h0 n0 _ T16.heap _
        rw [e16]
        exact ⟨by rw [← hval]; unfold own_kind; rw [if_neg hc3, if_neg hc13, if_pos hc23], N0, rfl⟩
      · have g18 : Gz p.tables e below A s₁ (mkF m 30 #[.val (.int p1)] []) := fun tq kq => g14 tq (XS.icmpYes X0.here hx rfl (pc0 := 23) (pc' := 30) rfl (hb hby d3_23) rfl (feq hc23).2 (by decide) (by decide) kq)
        have g19 : Gz p.tables e below A s₁ (mkF m 31 #[.val (.int p1)] [(.int p1)]) := fun tq kq => g18 tq (XS.iloadN X0.here hx rfl (hb hby d3_30) rfl kq)
        have g20 : Gz p.tables e below A s₁ (mkF m 33 #[.val (.int p1)] [(.int (83 : Int32)), (.int p1)]) := fun tq kq => g19 tq (XS.bipush X0.here hx rfl (hb hby d3_31) kq)
        by_cases hc33 : p1 = (83 : Int32)
        · have g21 : Gz p.tables e below A s₁ (mkF m 36 #[.val (.int p1)] []) := fun tq kq => g20 tq (XS.icmpNo X0.here hx rfl (hb hby d3_33) rfl (teq hc33).2 kq)
          obtain ⟨T22, X22, e22, st22⟩ := getS2 X0 hx hZ hown (host := "") (Or.inl (hw _ (List.mem_of_getElem? (i := 33) rfl))) Via.refl e0 S_STRING (g := (mkF m 36 #[.val (.int p1)] [])) rfl (hb hby d3_36)
          have g23 : Gz p.tables e below A T22 (mkF m 39 #[.val (.int p1)] [(.ref (el 3))]) := fun tq kq => g21 tq (st22 tq kq)
          obtain ⟨fs, hr, hrun, hended, hW, hsame⟩ := X22.leave (v := some (.ref (el 3))) (fun h => by rw [Bd.returns] at h; cases h)
          refine ⟨_, _, g23 _ (retOut X22 hx Bd.returns rfl (Or.inr (Or.inr (Or.inr (Or.inr ⟨rfl, rfl, rfl⟩)))) (hb hby d3_39) hr), hrun, hended, _, _, rfl, ?_, ⟨_, rfl⟩, hW, hsame.mono (by decide) (by decide)⟩
          show Q3 Z p1 el val h0 n0 _ T22.heap _
          rw [e22]
          exact ⟨by rw [← hval]; unfold own_kind; rw [if_neg hc3, if_neg hc13, if_neg hc23, if_pos hc33], N0, rfl⟩
        · have g24 : Gz p.tables e below A s₁ (mkF m 40 #[.val (.int p1)] []) := fun tq kq => g20 tq (XS.icmpYes X0.here hx rfl (pc0 := 33) (pc' := 40) rfl (hb hby d3_33) rfl (feq hc33).2 (by decide) (by decide) kq)
          have g25 : Gz p.tables e below A s₁ (mkF m 41 #[.val (.int p1)] [(.int p1)]) := fun tq kq => g24 tq (XS.iloadN X0.here hx rfl (hb hby d3_40) rfl kq)
          have g26 : Gz p.tables e below A s₁ (mkF m 43 #[.val (.int p1)] [(.int (76 : Int32)), (.int p1)]) := fun tq kq => g25 tq (XS.bipush X0.here hx rfl (hb hby d3_41) kq)
          by_cases hc43 : p1 = (76 : Int32)
          · have g27 : Gz p.tables e below A s₁ (mkF m 46 #[.val (.int p1)] []) := fun tq kq => g26 tq (XS.icmpNo X0.here hx rfl (hb hby d3_43) rfl (teq hc43).2 kq)
            obtain ⟨T28, X28, e28, st28⟩ := getS2 X0 hx hZ hown (host := "") (Or.inl (hw _ (List.mem_of_getElem? (i := 31) rfl))) Via.refl e0 S_STRING_LIST (g := (mkF m 46 #[.val (.int p1)] [])) rfl (hb hby d3_46)
            have g29 : Gz p.tables e below A T28 (mkF m 49 #[.val (.int p1)] [(.ref (el 4))]) := fun tq kq => g27 tq (st28 tq kq)
            obtain ⟨fs, hr, hrun, hended, hW, hsame⟩ := X28.leave (v := some (.ref (el 4))) (fun h => by rw [Bd.returns] at h; cases h)
            refine ⟨_, _, g29 _ (retOut X28 hx Bd.returns rfl (Or.inr (Or.inr (Or.inr (Or.inr ⟨rfl, rfl, rfl⟩)))) (hb hby d3_49) hr), hrun, hended, _, _, rfl, ?_, ⟨_, rfl⟩, hW, hsame.mono (by decide) (by decide)⟩
            show Q3 Z p1 el val h0 n0 _ T28.heap _
            rw [e28]
            exact ⟨by rw [← hval]; unfold own_kind; rw [if_neg hc3, if_neg hc13, if_neg hc23, if_neg hc33, if_pos hc43], N0, rfl⟩
          · have g30 : Gz p.tables e below A s₁ (mkF m 50 #[.val (.int p1)] []) := fun tq kq => g26 tq (XS.icmpYes X0.here hx rfl (pc0 := 43) (pc' := 50) rfl (hb hby d3_43) rfl (feq hc43).2 (by decide) (by decide) kq)
            have g31 : Gz p.tables e below A s₁ (mkF m 51 #[.val (.int p1)] [.null]) := fun tq kq => g30 tq (XS.aconstNull X0.here hx rfl (hb hby d3_50) kq)
            obtain ⟨fs, hr, hrun, hended, hW, hsame⟩ := X0.leave (v := some .null) (fun h => by rw [Bd.returns] at h; cases h)
            refine ⟨_, _, g31 _ (retOut X0 hx Bd.returns rfl (Or.inr (Or.inr (Or.inr (Or.inr ⟨rfl, rfl, rfl⟩)))) (hb hby d3_51) hr), hrun, hended, _, _, rfl, ?_, ⟨_, rfl⟩, hW, hsame.mono (by decide) (by decide)⟩
            show Q3 Z p1 el val h0 n0 _ s₁.heap _
            rw [e0]
            exact ⟨by rw [← hval]; unfold own_kind; rw [if_neg hc3, if_neg hc13, if_neg hc23, if_neg hc33, if_neg hc43], N0, rfl⟩

theorem own_cases (el : Nat → Addr) (b : Int32) : own_kind el b = .ref (el 0) ∨ own_kind el b = .ref (el 1) ∨ own_kind el b = .ref (el 2) ∨ own_kind el b = .ref (el 3) ∨ own_kind el b = .ref (el 4) ∨ own_kind el b = .null := by
  unfold own_kind
  by_cases h0 : b = 73
  · exact Or.inl (by rw [if_pos h0])
  by_cases h1 : b = 68
  · exact Or.inr (Or.inl (by rw [if_neg h0, if_pos h1]))
  by_cases h2 : b = 66
  · exact Or.inr (Or.inr (Or.inl (by rw [if_neg h0, if_neg h1, if_pos h2])))
  by_cases h3 : b = 83
  · exact Or.inr (Or.inr (Or.inr (Or.inl (by rw [if_neg h0, if_neg h1, if_neg h2, if_pos h3]))))
  by_cases h4 : b = 76
  · exact Or.inr (Or.inr (Or.inr (Or.inr (Or.inl (by rw [if_neg h0, if_neg h1, if_neg h2, if_neg h3, if_pos h4])))))
  · exact Or.inr (Or.inr (Or.inr (Or.inr (Or.inr (by rw [if_neg h0, if_neg h1, if_neg h2, if_neg h3, if_neg h4])))))

theorem pn0 : plainName "com/example/statecraft/statecraft/preferences/ValueKindOfTagPinLaw" = true := by first | (simp [plainName, overriddenIn]; done) | decide +kernel
theorem pd0_0 : parseMethodDescriptor "(B)Lcom/example/statecraft/statecraft/preferences/ValueKind;" = some ⟨[.byte], some (.object "com/example/statecraft/statecraft/preferences/ValueKind")⟩ := by decide +kernel
theorem ef0 (m : MethodId) (x0 : Int32) (x1 : Int32) : entryFrame m #[(.int x0), (.int x1)] maxLocals = mkF m 0 #[.val (.int x0), .val (.int x1), .unset, .unset, .unset] [] := by first | (simp [entryFrame, mkF, argsToLocals, Value.category, maxLocals]; done) | rfl
def Q0 (Z : State) (p0 : Int32) (p1 : Int32) (a : Addr) (k : ClassId) (el : Nat → Addr) (h0 : Heap) (n0 : Nat) (v : Option Value) (h : Heap) (L : List Loc) : Prop := v = some (.int 1) ∧ Fr n0 L
set_option maxRecDepth 65536 in
set_option maxHeartbeats 40000000 in
theorem rm0 (l : Launch) (Z : State) (a0 : Array Value) (hw : ∀ d ∈ tables_1, d.before a0 Z = true) (ws : List Jvm.Cond) (p0 : Int32) (p1 : Int32) (a : Addr) (k : ClassId) (el : Nat → Addr) (h0 : Heap) (n0 : Nat) (Z0 : n0 ≤ h0.size) (S_V : Sta Z h0 "com/example/statecraft/statecraft/preferences/ValueKind" "$VALUES" "[Lcom/example/statecraft/statecraft/preferences/ValueKind;" (.ref a)) (V0 : Arv Z h0 a k (.object "com/example/statecraft/statecraft/preferences/ValueKind") (5 : Int32) [(.ref (el 0)), (.ref (el 1)), (.ref (el 2)), (.ref (el 3)), (.ref (el 4))] .null) (E0 : Exa Z h0 a "[Lcom/example/statecraft/statecraft/preferences/ValueKind;") (F0 : Fld Z h0 (el 0) "com/example/statecraft/statecraft/preferences/ValueKind" "tag" "B" (.int 73)) (F1 : Fld Z h0 (el 1) "com/example/statecraft/statecraft/preferences/ValueKind" "tag" "B" (.int 68)) (F2 : Fld Z h0 (el 2) "com/example/statecraft/statecraft/preferences/ValueKind" "tag" "B" (.int 66)) (F3 : Fld Z h0 (el 3) "com/example/statecraft/statecraft/preferences/ValueKind" "tag" "B" (.int 83)) (F4 : Fld Z h0 (el 4) "com/example/statecraft/statecraft/preferences/ValueKind" "tag" "B" (.int 76)) (S_INT : Sta Z h0 "com/example/statecraft/statecraft/preferences/ValueKind" "INT" "Lcom/example/statecraft/statecraft/preferences/ValueKind;" (.ref (el 0))) (S_DOUBLE : Sta Z h0 "com/example/statecraft/statecraft/preferences/ValueKind" "DOUBLE" "Lcom/example/statecraft/statecraft/preferences/ValueKind;" (.ref (el 1))) (S_BOOLEAN : Sta Z h0 "com/example/statecraft/statecraft/preferences/ValueKind" "BOOLEAN" "Lcom/example/statecraft/statecraft/preferences/ValueKind;" (.ref (el 2))) (S_STRING : Sta Z h0 "com/example/statecraft/statecraft/preferences/ValueKind" "STRING" "Lcom/example/statecraft/statecraft/preferences/ValueKind;" (.ref (el 3))) (S_STRING_LIST : Sta Z h0 "com/example/statecraft/statecraft/preferences/ValueKind" "STRING_LIST" "Lcom/example/statecraft/statecraft/preferences/ValueKind;" (.ref (el 4))) :
    MetFree l x (head1 (Jvm.Cond.code x code maxLocals ret :: ws) room_1) (fun aq Uq => aq = #[(.int p0), (.int p1)] ∧ Z.Warmed39 Uq.vm ∧ Uq.heap = h0) (fun _ _ _ _ _ => True) (fun _ Uq oq Uq' => ∃ vq Lq, oq = .returned vq ∧ Q0 Z p0 p1 a k el h0 n0 vq Uq'.heap Lq ∧ FrameEnd Uq oq Uq' Lq room_1.cells room_1.slots) := by
  refine MetFree.of_bodySF (plainFor_of_name pn0) hisR ?_
  intro p e s m args below meth c s₁ Bd hml0 hP hK
  obtain ⟨rfl, hZ, hh⟩ := hP
  have hx := Bd.exec
  have hby := Bd.bytes
  have hml : c.maxLocals = 5 := hml0
  have hown : s.vm.findClass "com/example/statecraft/statecraft/preferences/ValueKindOfTagPinLaw" = some m.cls := findClass_of_methodNamed Bd.named
  have hnm := (name_of_methodNamed Bd.named Bd.method).1
  have X0 : Stand p l e room_1 s m #[(.int p0), (.int p1)] below meth c s₁ [] 0 0 := Stand.of_body Bd
  have e0 : s₁.heap = h0 := by rw [← hh, Bd.state]; rfl
  have N0 := Fr.nil n0
  obtain ⟨A, hA⟩ : ∃ A, A = s₁.setTop (entryFrame m #[(.int p0), (.int p1)] maxLocals) := ⟨_, rfl⟩
  rw [← hA]
  have g0 : Gz p.tables e below A s₁ (mkF m 0 #[.val (.int p0), .val (.int p1), .unset, .unset, .unset] []) := fun tq kq => by rw [hA]; exact castTop (ef0 m p0 p1) kq
  have g1 : Gz p.tables e below A s₁ (mkF m 1 #[.val (.int p0), .val (.int p1), .unset, .unset, .unset] [(.int p0)]) := fun tq kq => g0 tq (XS.iloadN X0.here hx rfl (hb hby at_0) rfl kq)
  have g2 : Gz p.tables e below A s₁ (mkF m 3 #[.val (.int p0), .val (.int p1), .unset, .unset, .unset] [(.int (7 : Int32)), (.int p0)]) := fun tq kq => g1 tq (XS.bipush X0.here hx rfl (hb hby at_1) kq)
  have g3 : Gz p.tables e below A s₁ (mkF m 4 #[.val (.int p0), .val (.int p1), .unset, .unset, .unset] [(.int (p0 &&& (7 : Int32)))]) := fun tq kq => g2 tq (XS.iand X0.here hx rfl (hb hby at_3) rfl kq)
  have g4 : Gz p.tables e below A s₁ (mkF m 5 #[.val (.int p0), .val (.int p1), .val (.int (p0 &&& (7 : Int32))), .unset, .unset] []) := fun tq kq => g3 tq (XS.istoreN X0.here hx rfl (hb hby at_4) rfl (l' := #[.val (.int p0), .val (.int p1), .val (.int (p0 &&& (7 : Int32))), .unset, .unset]) rfl kq)
  have g5 : Gz p.tables e below A s₁ (mkF m 6 #[.val (.int p0), .val (.int p1), .val (.int (p0 &&& (7 : Int32))), .unset, .unset] [(.int (p0 &&& (7 : Int32)))]) := fun tq kq => g4 tq (XS.iloadN X0.here hx rfl (hb hby at_5) rfl kq)
  by_cases hc6 : (p0 &&& (7 : Int32)) = (0 : Int32)
  · have g6 : Gz p.tables e below A s₁ (mkF m 9 #[.val (.int p0), .val (.int p1), .val (.int (p0 &&& (7 : Int32))), .unset, .unset] []) := fun tq kq => g5 tq (XS.ifNo X0.here hx rfl (hb hby at_6) rfl ((if0 _ _).trans (teq hc6).2) kq)
    have g7 : Gz p.tables e below A s₁ (mkF m 11 #[.val (.int p0), .val (.int p1), .val (.int (p0 &&& (7 : Int32))), .unset, .unset] [(.int (73 : Int32))]) := fun tq kq => g6 tq (XS.bipush X0.here hx rfl (hb hby at_9) kq)
    have g8 : Gz p.tables e below A s₁ (mkF m 12 #[.val (.int p0), .val (.int p1), .val (.int (p0 &&& (7 : Int32))), .val (.int (73 : Int32)), .unset] []) := fun tq kq => g7 tq (XS.istoreN X0.here hx rfl (hb hby at_11) rfl (l' := #[.val (.int p0), .val (.int p1), .val (.int (p0 &&& (7 : Int32))), .val (.int (73 : Int32)), .unset]) rfl kq)
    have g9 : Gz p.tables e below A s₁ (mkF m 62 #[.val (.int p0), .val (.int p1), .val (.int (p0 &&& (7 : Int32))), .val (.int (73 : Int32)), .unset] []) := fun tq kq => g8 tq (XS.goto X0.here hx rfl (pc0 := 12) (pc' := 62) rfl (hb hby at_12) (by decide) (by decide) kq)
    have g10 : Gz p.tables e below A s₁ (mkF m 63 #[.val (.int p0), .val (.int p1), .val (.int (p0 &&& (7 : Int32))), .val (.int (73 : Int32)), .unset] [(.int (73 : Int32))]) := fun tq kq => g9 tq (XS.iloadN X0.here hx rfl (hb hby at_62) rfl kq)
    have hval : own_kind el (73 : Int32) = .ref (el 0) := rfl
    obtain ⟨_, _, ⟨T11, L11, k11, n11⟩, -, X11, ⟨Lc11, hQ11, l11, y11, z11⟩, st11⟩ := Jvm.LawKit.callS X0 hx (y := (⟨"com/example/statecraft/statecraft/preferences/ValueKind", "ofTag", "(B)Lcom/example/statecraft/statecraft/preferences/ValueKind;"⟩ : MethodName)) hown (mvT hZ (hw _ (List.mem_of_getElem? (i := 0) rfl))) (mvT hZ (hw _ (List.mem_of_getElem? (i := 1) rfl))) (mvT hZ (hw _ (List.mem_of_getElem? (i := 2) rfl))) (mvT hZ (hw _ (List.mem_of_getElem? (i := 3) rfl))) (by decide) (backOf (W := 0) (rm2 l Z a0 hw [] (73 : Int32) a k el (.ref (el 0)) h0 n0 Z0 S_V V0 E0 F0 F1 F2 F3 F4 hval) hZ (hw _ (List.mem_of_getElem? (i := 3) rfl)) (hw _ (List.mem_of_getElem? (i := 2) rfl)) (by decide) (by decide)) (g := (mkF m 63 #[.val (.int p0), .val (.int p1), .val (.int (p0 &&& (7 : Int32))), .val (.int (73 : Int32)), .unset] [(.int (73 : Int32))])) rfl (by rw [hml]; rfl) (argsL := [(.int (73 : Int32))]) (rest := []) (lenOf pd0_0 rfl) rfl (by show 2 * 0 + _ ≤ _; exact Nat.le_of_eq rfl) (hb hby at_63) (fun _ _ => ⟨rfl, e0, (by decide : 0 + 1 ≤ _), (by decide : 0 + 5 ≤ _)⟩)
    dsimp only [Pt.U, Pt.locs, Pt.cells, Pt.slots] at X11 l11 y11 z11 st11 hQ11
    subst l11 y11 z11
    obtain ⟨rfl, N11q, EQ11⟩ := hQ11
    have N11 := Fr.app N0 N11q
    have g12 : Gz p.tables e below A T11 (mkF m 66 #[.val (.int p0), .val (.int p1), .val (.int (p0 &&& (7 : Int32))), .val (.int (73 : Int32)), .unset] [(.ref (el 0))]) := fun tq kq => g10 tq (st11 _ kq)
    have K13 := EQ11
    have g14 : Gz p.tables e below A T11 (mkF m 68 #[.val (.int p0), .val (.int p1), .val (.int (p0 &&& (7 : Int32))), .val (.int (73 : Int32)), .val (.ref (el 0))] []) := fun tq kq => g12 tq (XS.astore X11.here hx rfl (hb hby at_66) rfl rfl (l' := #[.val (.int p0), .val (.int p1), .val (.int (p0 &&& (7 : Int32))), .val (.int (73 : Int32)), .val (.ref (el 0))]) rfl kq)
    have g15 : Gz p.tables e below A T11 (mkF m 70 #[.val (.int p0), .val (.int p1), .val (.int (p0 &&& (7 : Int32))), .val (.int (73 : Int32)), .val (.ref (el 0))] [(.ref (el 0))]) := fun tq kq => g14 tq (XS.aload X11.here hx rfl (hb hby at_68) rfl rfl kq)
    have g16 : Gz p.tables e below A T11 (mkF m 71 #[.val (.int p0), .val (.int p1), .val (.int (p0 &&& (7 : Int32))), .val (.int (73 : Int32)), .val (.ref (el 0))] [(.int (73 : Int32)), (.ref (el 0))]) := fun tq kq => g15 tq (XS.iloadN X11.here hx rfl (hb hby at_70) rfl kq)
    obtain ⟨_, _, ⟨T17, L17, k17, n17⟩, -, X17, ⟨Lc17, hQ17, l17, y17, z17⟩, st17⟩ := Jvm.LawKit.callS X11 hx (y := (⟨"com/example/statecraft/statecraft/preferences/ValueKindOfTagPinLaw", "expected", "(B)Lcom/example/statecraft/statecraft/preferences/ValueKind;"⟩ : MethodName)) hown (mvT hZ (hw _ (List.mem_of_getElem? (i := 21) rfl))) (mvT hZ (hw _ (List.mem_of_getElem? (i := 22) rfl))) (mvT hZ (hw _ (List.mem_of_getElem? (i := 23) rfl))) (mvT hZ (hw _ (List.mem_of_getElem? (i := 24) rfl))) (by decide) (backOf (W := 1) (rm3 l Z a0 hw [] (73 : Int32) el (.ref (el 0)) T11.heap n0 (Nat.le_trans Z0 K13.1) (S_INT.ext K13) (S_DOUBLE.ext K13) (S_BOOLEAN.ext K13) (S_STRING.ext K13) (S_STRING_LIST.ext K13) hval) hZ (hw _ (List.mem_of_getElem? (i := 24) rfl)) (hw _ (List.mem_of_getElem? (i := 23) rfl)) (by decide) (by decide)) (g := (mkF m 71 #[.val (.int p0), .val (.int p1), .val (.int (p0 &&& (7 : Int32))), .val (.int (73 : Int32)), .val (.ref (el 0))] [(.int (73 : Int32)), (.ref (el 0))])) rfl (by rw [hml]; rfl) (argsL := [(.int (73 : Int32))]) (rest := [(.ref (el 0))]) (lenOf pd0_0 rfl) rfl (by show 2 * 0 + _ ≤ _; exact Nat.le_of_eq rfl) (hb hby at_71) (fun _ _ => ⟨rfl, rfl, (by decide : 1 + 0 ≤ _), (by decide : 5 + 0 ≤ _)⟩)
    dsimp only [Pt.U, Pt.locs, Pt.cells, Pt.slots] at X17 l17 y17 z17 st17 hQ17
    subst l17 y17 z17
    obtain ⟨rfl, N17q, e17⟩ := hQ17
    have N17 := Fr.app N11 N17q
    have g18 : Gz p.tables e below A T17 (mkF m 74 #[.val (.int p0), .val (.int p1), .val (.int (p0 &&& (7 : Int32))), .val (.int (73 : Int32)), .val (.ref (el 0))] [(.ref (el 0)), (.ref (el 0))]) := fun tq kq => g16 tq (st17 _ kq)
    have g19 : Gz p.tables e below A T17 (mkF m 77 #[.val (.int p0), .val (.int p1), .val (.int (p0 &&& (7 : Int32))), .val (.int (73 : Int32)), .val (.ref (el 0))] []) := fun tq kq => g18 tq (Jvm.RoadKit.acmp (g := (mkF m 74 #[.val (.int p0), .val (.int p1), .val (.int (p0 &&& (7 : Int32))), .val (.int (73 : Int32)), .val (.ref (el 0))] [(.ref (el 0)), (.ref (el 0))])) X17 hx rfl rfl rfl (pc0 := 74) (pc' := 77) (same := true) rfl (hb hby at_74) rfl (decide_eq_true rfl) (by decide) (by decide) kq)
    have g20 : Gz p.tables e below A T17 (mkF m 78 #[.val (.int p0), .val (.int p1), .val (.int (p0 &&& (7 : Int32))), .val (.int (73 : Int32)), .val (.ref (el 0))] [(.int (1 : Int32))]) := fun tq kq => g19 tq (XS.iconst X17.here hx rfl (hb hby at_77) kq)
    have g21 : Gz p.tables e below A T17 (mkF m 82 #[.val (.int p0), .val (.int p1), .val (.int (p0 &&& (7 : Int32))), .val (.int (73 : Int32)), .val (.ref (el 0))] [(.int (1 : Int32))]) := fun tq kq => g20 tq (XS.goto X17.here hx rfl (pc0 := 78) (pc' := 82) rfl (hb hby at_78) (by decide) (by decide) kq)
    obtain ⟨fs, hr, hrun, hended, hW, hsame⟩ := X17.leave (v := some (.int (1 : Int32))) (fun h => by rw [Bd.returns] at h; cases h)
    refine ⟨_, _, g21 _ (retN X17 hx (t := .boolean) Bd.returns (by simp) (hb hby at_82) hr), hrun, hended, _, _, rfl, ?_, ⟨_, rfl⟩, hW, hsame.mono (by decide) (by decide)⟩
    show Q0 Z p0 p1 a k el h0 n0 _ T17.heap _
    rw [e17]
    exact ⟨rfl, N17⟩
  · have g22 : Gz p.tables e below A s₁ (mkF m 15 #[.val (.int p0), .val (.int p1), .val (.int (p0 &&& (7 : Int32))), .unset, .unset] []) := fun tq kq => g5 tq (XS.ifYes X0.here hx rfl (pc0 := 6) (pc' := 15) rfl (hb hby at_6) rfl ((if0 _ _).trans (feq hc6).2) (by decide) (by decide) kq)
    have g23 : Gz p.tables e below A s₁ (mkF m 16 #[.val (.int p0), .val (.int p1), .val (.int (p0 &&& (7 : Int32))), .unset, .unset] [(.int (p0 &&& (7 : Int32)))]) := fun tq kq => g22 tq (XS.iloadN X0.here hx rfl (hb hby at_15) rfl kq)
    have g24 : Gz p.tables e below A s₁ (mkF m 17 #[.val (.int p0), .val (.int p1), .val (.int (p0 &&& (7 : Int32))), .unset, .unset] [(.int (1 : Int32)), (.int (p0 &&& (7 : Int32)))]) := fun tq kq => g23 tq (XS.iconst X0.here hx rfl (hb hby at_16) kq)
    by_cases hc17 : (p0 &&& (7 : Int32)) = (1 : Int32)
    · have g25 : Gz p.tables e below A s₁ (mkF m 20 #[.val (.int p0), .val (.int p1), .val (.int (p0 &&& (7 : Int32))), .unset, .unset] []) := fun tq kq => g24 tq (XS.icmpNo X0.here hx rfl (hb hby at_17) rfl (teq hc17).2 kq)
      have g26 : Gz p.tables e below A s₁ (mkF m 22 #[.val (.int p0), .val (.int p1), .val (.int (p0 &&& (7 : Int32))), .unset, .unset] [(.int (68 : Int32))]) := fun tq kq => g25 tq (XS.bipush X0.here hx rfl (hb hby at_20) kq)
      have g27 : Gz p.tables e below A s₁ (mkF m 23 #[.val (.int p0), .val (.int p1), .val (.int (p0 &&& (7 : Int32))), .val (.int (68 : Int32)), .unset] []) := fun tq kq => g26 tq (XS.istoreN X0.here hx rfl (hb hby at_22) rfl (l' := #[.val (.int p0), .val (.int p1), .val (.int (p0 &&& (7 : Int32))), .val (.int (68 : Int32)), .unset]) rfl kq)
      have g28 : Gz p.tables e below A s₁ (mkF m 62 #[.val (.int p0), .val (.int p1), .val (.int (p0 &&& (7 : Int32))), .val (.int (68 : Int32)), .unset] []) := fun tq kq => g27 tq (XS.goto X0.here hx rfl (pc0 := 23) (pc' := 62) rfl (hb hby at_23) (by decide) (by decide) kq)
      have g29 : Gz p.tables e below A s₁ (mkF m 63 #[.val (.int p0), .val (.int p1), .val (.int (p0 &&& (7 : Int32))), .val (.int (68 : Int32)), .unset] [(.int (68 : Int32))]) := fun tq kq => g28 tq (XS.iloadN X0.here hx rfl (hb hby at_62) rfl kq)
      have hval : own_kind el (68 : Int32) = .ref (el 1) := rfl
      obtain ⟨_, _, ⟨T30, L30, k30, n30⟩, -, X30, ⟨Lc30, hQ30, l30, y30, z30⟩, st30⟩ := Jvm.LawKit.callS X0 hx (y := (⟨"com/example/statecraft/statecraft/preferences/ValueKind", "ofTag", "(B)Lcom/example/statecraft/statecraft/preferences/ValueKind;"⟩ : MethodName)) hown (mvT hZ (hw _ (List.mem_of_getElem? (i := 0) rfl))) (mvT hZ (hw _ (List.mem_of_getElem? (i := 1) rfl))) (mvT hZ (hw _ (List.mem_of_getElem? (i := 2) rfl))) (mvT hZ (hw _ (List.mem_of_getElem? (i := 3) rfl))) (by decide) (backOf (W := 0) (rm2 l Z a0 hw [] (68 : Int32) a k el (.ref (el 1)) h0 n0 Z0 S_V V0 E0 F0 F1 F2 F3 F4 hval) hZ (hw _ (List.mem_of_getElem? (i := 3) rfl)) (hw _ (List.mem_of_getElem? (i := 2) rfl)) (by decide) (by decide)) (g := (mkF m 63 #[.val (.int p0), .val (.int p1), .val (.int (p0 &&& (7 : Int32))), .val (.int (68 : Int32)), .unset] [(.int (68 : Int32))])) rfl (by rw [hml]; rfl) (argsL := [(.int (68 : Int32))]) (rest := []) (lenOf pd0_0 rfl) rfl (by show 2 * 0 + _ ≤ _; exact Nat.le_of_eq rfl) (hb hby at_63) (fun _ _ => ⟨rfl, e0, (by decide : 0 + 1 ≤ _), (by decide : 0 + 5 ≤ _)⟩)
      dsimp only [Pt.U, Pt.locs, Pt.cells, Pt.slots] at X30 l30 y30 z30 st30 hQ30
      subst l30 y30 z30
      obtain ⟨rfl, N30q, EQ30⟩ := hQ30
      have N30 := Fr.app N0 N30q
      have g31 : Gz p.tables e below A T30 (mkF m 66 #[.val (.int p0), .val (.int p1), .val (.int (p0 &&& (7 : Int32))), .val (.int (68 : Int32)), .unset] [(.ref (el 1))]) := fun tq kq => g29 tq (st30 _ kq)
      have K32 := EQ30
      have g33 : Gz p.tables e below A T30 (mkF m 68 #[.val (.int p0), .val (.int p1), .val (.int (p0 &&& (7 : Int32))), .val (.int (68 : Int32)), .val (.ref (el 1))] []) := fun tq kq => g31 tq (XS.astore X30.here hx rfl (hb hby at_66) rfl rfl (l' := #[.val (.int p0), .val (.int p1), .val (.int (p0 &&& (7 : Int32))), .val (.int (68 : Int32)), .val (.ref (el 1))]) rfl kq)
      have g34 : Gz p.tables e below A T30 (mkF m 70 #[.val (.int p0), .val (.int p1), .val (.int (p0 &&& (7 : Int32))), .val (.int (68 : Int32)), .val (.ref (el 1))] [(.ref (el 1))]) := fun tq kq => g33 tq (XS.aload X30.here hx rfl (hb hby at_68) rfl rfl kq)
      have g35 : Gz p.tables e below A T30 (mkF m 71 #[.val (.int p0), .val (.int p1), .val (.int (p0 &&& (7 : Int32))), .val (.int (68 : Int32)), .val (.ref (el 1))] [(.int (68 : Int32)), (.ref (el 1))]) := fun tq kq => g34 tq (XS.iloadN X30.here hx rfl (hb hby at_70) rfl kq)
      obtain ⟨_, _, ⟨T36, L36, k36, n36⟩, -, X36, ⟨Lc36, hQ36, l36, y36, z36⟩, st36⟩ := Jvm.LawKit.callS X30 hx (y := (⟨"com/example/statecraft/statecraft/preferences/ValueKindOfTagPinLaw", "expected", "(B)Lcom/example/statecraft/statecraft/preferences/ValueKind;"⟩ : MethodName)) hown (mvT hZ (hw _ (List.mem_of_getElem? (i := 21) rfl))) (mvT hZ (hw _ (List.mem_of_getElem? (i := 22) rfl))) (mvT hZ (hw _ (List.mem_of_getElem? (i := 23) rfl))) (mvT hZ (hw _ (List.mem_of_getElem? (i := 24) rfl))) (by decide) (backOf (W := 1) (rm3 l Z a0 hw [] (68 : Int32) el (.ref (el 1)) T30.heap n0 (Nat.le_trans Z0 K32.1) (S_INT.ext K32) (S_DOUBLE.ext K32) (S_BOOLEAN.ext K32) (S_STRING.ext K32) (S_STRING_LIST.ext K32) hval) hZ (hw _ (List.mem_of_getElem? (i := 24) rfl)) (hw _ (List.mem_of_getElem? (i := 23) rfl)) (by decide) (by decide)) (g := (mkF m 71 #[.val (.int p0), .val (.int p1), .val (.int (p0 &&& (7 : Int32))), .val (.int (68 : Int32)), .val (.ref (el 1))] [(.int (68 : Int32)), (.ref (el 1))])) rfl (by rw [hml]; rfl) (argsL := [(.int (68 : Int32))]) (rest := [(.ref (el 1))]) (lenOf pd0_0 rfl) rfl (by show 2 * 0 + _ ≤ _; exact Nat.le_of_eq rfl) (hb hby at_71) (fun _ _ => ⟨rfl, rfl, (by decide : 1 + 0 ≤ _), (by decide : 5 + 0 ≤ _)⟩)
      dsimp only [Pt.U, Pt.locs, Pt.cells, Pt.slots] at X36 l36 y36 z36 st36 hQ36
      subst l36 y36 z36
      obtain ⟨rfl, N36q, e36⟩ := hQ36
      have N36 := Fr.app N30 N36q
      have g37 : Gz p.tables e below A T36 (mkF m 74 #[.val (.int p0), .val (.int p1), .val (.int (p0 &&& (7 : Int32))), .val (.int (68 : Int32)), .val (.ref (el 1))] [(.ref (el 1)), (.ref (el 1))]) := fun tq kq => g35 tq (st36 _ kq)
      have g38 : Gz p.tables e below A T36 (mkF m 77 #[.val (.int p0), .val (.int p1), .val (.int (p0 &&& (7 : Int32))), .val (.int (68 : Int32)), .val (.ref (el 1))] []) := fun tq kq => g37 tq (Jvm.RoadKit.acmp (g := (mkF m 74 #[.val (.int p0), .val (.int p1), .val (.int (p0 &&& (7 : Int32))), .val (.int (68 : Int32)), .val (.ref (el 1))] [(.ref (el 1)), (.ref (el 1))])) X36 hx rfl rfl rfl (pc0 := 74) (pc' := 77) (same := true) rfl (hb hby at_74) rfl (decide_eq_true rfl) (by decide) (by decide) kq)
      have g39 : Gz p.tables e below A T36 (mkF m 78 #[.val (.int p0), .val (.int p1), .val (.int (p0 &&& (7 : Int32))), .val (.int (68 : Int32)), .val (.ref (el 1))] [(.int (1 : Int32))]) := fun tq kq => g38 tq (XS.iconst X36.here hx rfl (hb hby at_77) kq)
      have g40 : Gz p.tables e below A T36 (mkF m 82 #[.val (.int p0), .val (.int p1), .val (.int (p0 &&& (7 : Int32))), .val (.int (68 : Int32)), .val (.ref (el 1))] [(.int (1 : Int32))]) := fun tq kq => g39 tq (XS.goto X36.here hx rfl (pc0 := 78) (pc' := 82) rfl (hb hby at_78) (by decide) (by decide) kq)
      obtain ⟨fs, hr, hrun, hended, hW, hsame⟩ := X36.leave (v := some (.int (1 : Int32))) (fun h => by rw [Bd.returns] at h; cases h)
      refine ⟨_, _, g40 _ (retN X36 hx (t := .boolean) Bd.returns (by simp) (hb hby at_82) hr), hrun, hended, _, _, rfl, ?_, ⟨_, rfl⟩, hW, hsame.mono (by decide) (by decide)⟩
      show Q0 Z p0 p1 a k el h0 n0 _ T36.heap _
      rw [e36]
      exact ⟨rfl, N36⟩
    · have g41 : Gz p.tables e below A s₁ (mkF m 26 #[.val (.int p0), .val (.int p1), .val (.int (p0 &&& (7 : Int32))), .unset, .unset] []) := fun tq kq => g24 tq (XS.icmpYes X0.here hx rfl (pc0 := 17) (pc' := 26) rfl (hb hby at_17) rfl (feq hc17).2 (by decide) (by decide) kq)
      have g42 : Gz p.tables e below A s₁ (mkF m 27 #[.val (.int p0), .val (.int p1), .val (.int (p0 &&& (7 : Int32))), .unset, .unset] [(.int (p0 &&& (7 : Int32)))]) := fun tq kq => g41 tq (XS.iloadN X0.here hx rfl (hb hby at_26) rfl kq)
      have g43 : Gz p.tables e below A s₁ (mkF m 28 #[.val (.int p0), .val (.int p1), .val (.int (p0 &&& (7 : Int32))), .unset, .unset] [(.int (2 : Int32)), (.int (p0 &&& (7 : Int32)))]) := fun tq kq => g42 tq (XS.iconst X0.here hx rfl (hb hby at_27) kq)
      by_cases hc28 : (p0 &&& (7 : Int32)) = (2 : Int32)
      · have g44 : Gz p.tables e below A s₁ (mkF m 31 #[.val (.int p0), .val (.int p1), .val (.int (p0 &&& (7 : Int32))), .unset, .unset] []) := fun tq kq => g43 tq (XS.icmpNo X0.here hx rfl (hb hby at_28) rfl (teq hc28).2 kq)
        have g45 : Gz p.tables e below A s₁ (mkF m 33 #[.val (.int p0), .val (.int p1), .val (.int (p0 &&& (7 : Int32))), .unset, .unset] [(.int (66 : Int32))]) := fun tq kq => g44 tq (XS.bipush X0.here hx rfl (hb hby at_31) kq)
        have g46 : Gz p.tables e below A s₁ (mkF m 34 #[.val (.int p0), .val (.int p1), .val (.int (p0 &&& (7 : Int32))), .val (.int (66 : Int32)), .unset] []) := fun tq kq => g45 tq (XS.istoreN X0.here hx rfl (hb hby at_33) rfl (l' := #[.val (.int p0), .val (.int p1), .val (.int (p0 &&& (7 : Int32))), .val (.int (66 : Int32)), .unset]) rfl kq)
        have g47 : Gz p.tables e below A s₁ (mkF m 62 #[.val (.int p0), .val (.int p1), .val (.int (p0 &&& (7 : Int32))), .val (.int (66 : Int32)), .unset] []) := fun tq kq => g46 tq (XS.goto X0.here hx rfl (pc0 := 34) (pc' := 62) rfl (hb hby at_34) (by decide) (by decide) kq)
        have g48 : Gz p.tables e below A s₁ (mkF m 63 #[.val (.int p0), .val (.int p1), .val (.int (p0 &&& (7 : Int32))), .val (.int (66 : Int32)), .unset] [(.int (66 : Int32))]) := fun tq kq => g47 tq (XS.iloadN X0.here hx rfl (hb hby at_62) rfl kq)
        have hval : own_kind el (66 : Int32) = .ref (el 2) := rfl
        obtain ⟨_, _, ⟨T49, L49, k49, n49⟩, -, X49, ⟨Lc49, hQ49, l49, y49, z49⟩, st49⟩ := Jvm.LawKit.callS X0 hx (y := (⟨"com/example/statecraft/statecraft/preferences/ValueKind", "ofTag", "(B)Lcom/example/statecraft/statecraft/preferences/ValueKind;"⟩ : MethodName)) hown (mvT hZ (hw _ (List.mem_of_getElem? (i := 0) rfl))) (mvT hZ (hw _ (List.mem_of_getElem? (i := 1) rfl))) (mvT hZ (hw _ (List.mem_of_getElem? (i := 2) rfl))) (mvT hZ (hw _ (List.mem_of_getElem? (i := 3) rfl))) (by decide) (backOf (W := 0) (rm2 l Z a0 hw [] (66 : Int32) a k el (.ref (el 2)) h0 n0 Z0 S_V V0 E0 F0 F1 F2 F3 F4 hval) hZ (hw _ (List.mem_of_getElem? (i := 3) rfl)) (hw _ (List.mem_of_getElem? (i := 2) rfl)) (by decide) (by decide)) (g := (mkF m 63 #[.val (.int p0), .val (.int p1), .val (.int (p0 &&& (7 : Int32))), .val (.int (66 : Int32)), .unset] [(.int (66 : Int32))])) rfl (by rw [hml]; rfl) (argsL := [(.int (66 : Int32))]) (rest := []) (lenOf pd0_0 rfl) rfl (by show 2 * 0 + _ ≤ _; exact Nat.le_of_eq rfl) (hb hby at_63) (fun _ _ => ⟨rfl, e0, (by decide : 0 + 1 ≤ _), (by decide : 0 + 5 ≤ _)⟩)
        dsimp only [Pt.U, Pt.locs, Pt.cells, Pt.slots] at X49 l49 y49 z49 st49 hQ49
        subst l49 y49 z49
        obtain ⟨rfl, N49q, EQ49⟩ := hQ49
        have N49 := Fr.app N0 N49q
        have g50 : Gz p.tables e below A T49 (mkF m 66 #[.val (.int p0), .val (.int p1), .val (.int (p0 &&& (7 : Int32))), .val (.int (66 : Int32)), .unset] [(.ref (el 2))]) := fun tq kq => g48 tq (st49 _ kq)
        have K51 := EQ49
        have g52 : Gz p.tables e below A T49 (mkF m 68 #[.val (.int p0), .val (.int p1), .val (.int (p0 &&& (7 : Int32))), .val (.int (66 : Int32)), .val (.ref (el 2))] []) := fun tq kq => g50 tq (XS.astore X49.here hx rfl (hb hby at_66) rfl rfl (l' := #[.val (.int p0), .val (.int p1), .val (.int (p0 &&& (7 : Int32))), .val (.int (66 : Int32)), .val (.ref (el 2))]) rfl kq)
        have g53 : Gz p.tables e below A T49 (mkF m 70 #[.val (.int p0), .val (.int p1), .val (.int (p0 &&& (7 : Int32))), .val (.int (66 : Int32)), .val (.ref (el 2))] [(.ref (el 2))]) := fun tq kq => g52 tq (XS.aload X49.here hx rfl (hb hby at_68) rfl rfl kq)
        have g54 : Gz p.tables e below A T49 (mkF m 71 #[.val (.int p0), .val (.int p1), .val (.int (p0 &&& (7 : Int32))), .val (.int (66 : Int32)), .val (.ref (el 2))] [(.int (66 : Int32)), (.ref (el 2))]) := fun tq kq => g53 tq (XS.iloadN X49.here hx rfl (hb hby at_70) rfl kq)
        obtain ⟨_, _, ⟨T55, L55, k55, n55⟩, -, X55, ⟨Lc55, hQ55, l55, y55, z55⟩, st55⟩ := Jvm.LawKit.callS X49 hx (y := (⟨"com/example/statecraft/statecraft/preferences/ValueKindOfTagPinLaw", "expected", "(B)Lcom/example/statecraft/statecraft/preferences/ValueKind;"⟩ : MethodName)) hown (mvT hZ (hw _ (List.mem_of_getElem? (i := 21) rfl))) (mvT hZ (hw _ (List.mem_of_getElem? (i := 22) rfl))) (mvT hZ (hw _ (List.mem_of_getElem? (i := 23) rfl))) (mvT hZ (hw _ (List.mem_of_getElem? (i := 24) rfl))) (by decide) (backOf (W := 1) (rm3 l Z a0 hw [] (66 : Int32) el (.ref (el 2)) T49.heap n0 (Nat.le_trans Z0 K51.1) (S_INT.ext K51) (S_DOUBLE.ext K51) (S_BOOLEAN.ext K51) (S_STRING.ext K51) (S_STRING_LIST.ext K51) hval) hZ (hw _ (List.mem_of_getElem? (i := 24) rfl)) (hw _ (List.mem_of_getElem? (i := 23) rfl)) (by decide) (by decide)) (g := (mkF m 71 #[.val (.int p0), .val (.int p1), .val (.int (p0 &&& (7 : Int32))), .val (.int (66 : Int32)), .val (.ref (el 2))] [(.int (66 : Int32)), (.ref (el 2))])) rfl (by rw [hml]; rfl) (argsL := [(.int (66 : Int32))]) (rest := [(.ref (el 2))]) (lenOf pd0_0 rfl) rfl (by show 2 * 0 + _ ≤ _; exact Nat.le_of_eq rfl) (hb hby at_71) (fun _ _ => ⟨rfl, rfl, (by decide : 1 + 0 ≤ _), (by decide : 5 + 0 ≤ _)⟩)
        dsimp only [Pt.U, Pt.locs, Pt.cells, Pt.slots] at X55 l55 y55 z55 st55 hQ55
        subst l55 y55 z55
        obtain ⟨rfl, N55q, e55⟩ := hQ55
        have N55 := Fr.app N49 N55q
        have g56 : Gz p.tables e below A T55 (mkF m 74 #[.val (.int p0), .val (.int p1), .val (.int (p0 &&& (7 : Int32))), .val (.int (66 : Int32)), .val (.ref (el 2))] [(.ref (el 2)), (.ref (el 2))]) := fun tq kq => g54 tq (st55 _ kq)
        have g57 : Gz p.tables e below A T55 (mkF m 77 #[.val (.int p0), .val (.int p1), .val (.int (p0 &&& (7 : Int32))), .val (.int (66 : Int32)), .val (.ref (el 2))] []) := fun tq kq => g56 tq (Jvm.RoadKit.acmp (g := (mkF m 74 #[.val (.int p0), .val (.int p1), .val (.int (p0 &&& (7 : Int32))), .val (.int (66 : Int32)), .val (.ref (el 2))] [(.ref (el 2)), (.ref (el 2))])) X55 hx rfl rfl rfl (pc0 := 74) (pc' := 77) (same := true) rfl (hb hby at_74) rfl (decide_eq_true rfl) (by decide) (by decide) kq)
        have g58 : Gz p.tables e below A T55 (mkF m 78 #[.val (.int p0), .val (.int p1), .val (.int (p0 &&& (7 : Int32))), .val (.int (66 : Int32)), .val (.ref (el 2))] [(.int (1 : Int32))]) := fun tq kq => g57 tq (XS.iconst X55.here hx rfl (hb hby at_77) kq)
        have g59 : Gz p.tables e below A T55 (mkF m 82 #[.val (.int p0), .val (.int p1), .val (.int (p0 &&& (7 : Int32))), .val (.int (66 : Int32)), .val (.ref (el 2))] [(.int (1 : Int32))]) := fun tq kq => g58 tq (XS.goto X55.here hx rfl (pc0 := 78) (pc' := 82) rfl (hb hby at_78) (by decide) (by decide) kq)
        obtain ⟨fs, hr, hrun, hended, hW, hsame⟩ := X55.leave (v := some (.int (1 : Int32))) (fun h => by rw [Bd.returns] at h; cases h)
        refine ⟨_, _, g59 _ (retN X55 hx (t := .boolean) Bd.returns (by simp) (hb hby at_82) hr), hrun, hended, _, _, rfl, ?_, ⟨_, rfl⟩, hW, hsame.mono (by decide) (by decide)⟩
        show Q0 Z p0 p1 a k el h0 n0 _ T55.heap _
        rw [e55]
        exact ⟨rfl, N55⟩
      · have g60 : Gz p.tables e below A s₁ (mkF m 37 #[.val (.int p0), .val (.int p1), .val (.int (p0 &&& (7 : Int32))), .unset, .unset] []) := fun tq kq => g43 tq (XS.icmpYes X0.here hx rfl (pc0 := 28) (pc' := 37) rfl (hb hby at_28) rfl (feq hc28).2 (by decide) (by decide) kq)
        have g61 : Gz p.tables e below A s₁ (mkF m 38 #[.val (.int p0), .val (.int p1), .val (.int (p0 &&& (7 : Int32))), .unset, .unset] [(.int (p0 &&& (7 : Int32)))]) := fun tq kq => g60 tq (XS.iloadN X0.here hx rfl (hb hby at_37) rfl kq)
        have g62 : Gz p.tables e below A s₁ (mkF m 39 #[.val (.int p0), .val (.int p1), .val (.int (p0 &&& (7 : Int32))), .unset, .unset] [(.int (3 : Int32)), (.int (p0 &&& (7 : Int32)))]) := fun tq kq => g61 tq (XS.iconst X0.here hx rfl (hb hby at_38) kq)
        by_cases hc39 : (p0 &&& (7 : Int32)) = (3 : Int32)
        · have g63 : Gz p.tables e below A s₁ (mkF m 42 #[.val (.int p0), .val (.int p1), .val (.int (p0 &&& (7 : Int32))), .unset, .unset] []) := fun tq kq => g62 tq (XS.icmpNo X0.here hx rfl (hb hby at_39) rfl (teq hc39).2 kq)
          have g64 : Gz p.tables e below A s₁ (mkF m 44 #[.val (.int p0), .val (.int p1), .val (.int (p0 &&& (7 : Int32))), .unset, .unset] [(.int (83 : Int32))]) := fun tq kq => g63 tq (XS.bipush X0.here hx rfl (hb hby at_42) kq)
          have g65 : Gz p.tables e below A s₁ (mkF m 45 #[.val (.int p0), .val (.int p1), .val (.int (p0 &&& (7 : Int32))), .val (.int (83 : Int32)), .unset] []) := fun tq kq => g64 tq (XS.istoreN X0.here hx rfl (hb hby at_44) rfl (l' := #[.val (.int p0), .val (.int p1), .val (.int (p0 &&& (7 : Int32))), .val (.int (83 : Int32)), .unset]) rfl kq)
          have g66 : Gz p.tables e below A s₁ (mkF m 62 #[.val (.int p0), .val (.int p1), .val (.int (p0 &&& (7 : Int32))), .val (.int (83 : Int32)), .unset] []) := fun tq kq => g65 tq (XS.goto X0.here hx rfl (pc0 := 45) (pc' := 62) rfl (hb hby at_45) (by decide) (by decide) kq)
          have g67 : Gz p.tables e below A s₁ (mkF m 63 #[.val (.int p0), .val (.int p1), .val (.int (p0 &&& (7 : Int32))), .val (.int (83 : Int32)), .unset] [(.int (83 : Int32))]) := fun tq kq => g66 tq (XS.iloadN X0.here hx rfl (hb hby at_62) rfl kq)
          have hval : own_kind el (83 : Int32) = .ref (el 3) := rfl
          obtain ⟨_, _, ⟨T68, L68, k68, n68⟩, -, X68, ⟨Lc68, hQ68, l68, y68, z68⟩, st68⟩ := Jvm.LawKit.callS X0 hx (y := (⟨"com/example/statecraft/statecraft/preferences/ValueKind", "ofTag", "(B)Lcom/example/statecraft/statecraft/preferences/ValueKind;"⟩ : MethodName)) hown (mvT hZ (hw _ (List.mem_of_getElem? (i := 0) rfl))) (mvT hZ (hw _ (List.mem_of_getElem? (i := 1) rfl))) (mvT hZ (hw _ (List.mem_of_getElem? (i := 2) rfl))) (mvT hZ (hw _ (List.mem_of_getElem? (i := 3) rfl))) (by decide) (backOf (W := 0) (rm2 l Z a0 hw [] (83 : Int32) a k el (.ref (el 3)) h0 n0 Z0 S_V V0 E0 F0 F1 F2 F3 F4 hval) hZ (hw _ (List.mem_of_getElem? (i := 3) rfl)) (hw _ (List.mem_of_getElem? (i := 2) rfl)) (by decide) (by decide)) (g := (mkF m 63 #[.val (.int p0), .val (.int p1), .val (.int (p0 &&& (7 : Int32))), .val (.int (83 : Int32)), .unset] [(.int (83 : Int32))])) rfl (by rw [hml]; rfl) (argsL := [(.int (83 : Int32))]) (rest := []) (lenOf pd0_0 rfl) rfl (by show 2 * 0 + _ ≤ _; exact Nat.le_of_eq rfl) (hb hby at_63) (fun _ _ => ⟨rfl, e0, (by decide : 0 + 1 ≤ _), (by decide : 0 + 5 ≤ _)⟩)
          dsimp only [Pt.U, Pt.locs, Pt.cells, Pt.slots] at X68 l68 y68 z68 st68 hQ68
          subst l68 y68 z68
          obtain ⟨rfl, N68q, EQ68⟩ := hQ68
          have N68 := Fr.app N0 N68q
          have g69 : Gz p.tables e below A T68 (mkF m 66 #[.val (.int p0), .val (.int p1), .val (.int (p0 &&& (7 : Int32))), .val (.int (83 : Int32)), .unset] [(.ref (el 3))]) := fun tq kq => g67 tq (st68 _ kq)
          have K70 := EQ68
          have g71 : Gz p.tables e below A T68 (mkF m 68 #[.val (.int p0), .val (.int p1), .val (.int (p0 &&& (7 : Int32))), .val (.int (83 : Int32)), .val (.ref (el 3))] []) := fun tq kq => g69 tq (XS.astore X68.here hx rfl (hb hby at_66) rfl rfl (l' := #[.val (.int p0), .val (.int p1), .val (.int (p0 &&& (7 : Int32))), .val (.int (83 : Int32)), .val (.ref (el 3))]) rfl kq)
          have g72 : Gz p.tables e below A T68 (mkF m 70 #[.val (.int p0), .val (.int p1), .val (.int (p0 &&& (7 : Int32))), .val (.int (83 : Int32)), .val (.ref (el 3))] [(.ref (el 3))]) := fun tq kq => g71 tq (XS.aload X68.here hx rfl (hb hby at_68) rfl rfl kq)
          have g73 : Gz p.tables e below A T68 (mkF m 71 #[.val (.int p0), .val (.int p1), .val (.int (p0 &&& (7 : Int32))), .val (.int (83 : Int32)), .val (.ref (el 3))] [(.int (83 : Int32)), (.ref (el 3))]) := fun tq kq => g72 tq (XS.iloadN X68.here hx rfl (hb hby at_70) rfl kq)
          obtain ⟨_, _, ⟨T74, L74, k74, n74⟩, -, X74, ⟨Lc74, hQ74, l74, y74, z74⟩, st74⟩ := Jvm.LawKit.callS X68 hx (y := (⟨"com/example/statecraft/statecraft/preferences/ValueKindOfTagPinLaw", "expected", "(B)Lcom/example/statecraft/statecraft/preferences/ValueKind;"⟩ : MethodName)) hown (mvT hZ (hw _ (List.mem_of_getElem? (i := 21) rfl))) (mvT hZ (hw _ (List.mem_of_getElem? (i := 22) rfl))) (mvT hZ (hw _ (List.mem_of_getElem? (i := 23) rfl))) (mvT hZ (hw _ (List.mem_of_getElem? (i := 24) rfl))) (by decide) (backOf (W := 1) (rm3 l Z a0 hw [] (83 : Int32) el (.ref (el 3)) T68.heap n0 (Nat.le_trans Z0 K70.1) (S_INT.ext K70) (S_DOUBLE.ext K70) (S_BOOLEAN.ext K70) (S_STRING.ext K70) (S_STRING_LIST.ext K70) hval) hZ (hw _ (List.mem_of_getElem? (i := 24) rfl)) (hw _ (List.mem_of_getElem? (i := 23) rfl)) (by decide) (by decide)) (g := (mkF m 71 #[.val (.int p0), .val (.int p1), .val (.int (p0 &&& (7 : Int32))), .val (.int (83 : Int32)), .val (.ref (el 3))] [(.int (83 : Int32)), (.ref (el 3))])) rfl (by rw [hml]; rfl) (argsL := [(.int (83 : Int32))]) (rest := [(.ref (el 3))]) (lenOf pd0_0 rfl) rfl (by show 2 * 0 + _ ≤ _; exact Nat.le_of_eq rfl) (hb hby at_71) (fun _ _ => ⟨rfl, rfl, (by decide : 1 + 0 ≤ _), (by decide : 5 + 0 ≤ _)⟩)
          dsimp only [Pt.U, Pt.locs, Pt.cells, Pt.slots] at X74 l74 y74 z74 st74 hQ74
          subst l74 y74 z74
          obtain ⟨rfl, N74q, e74⟩ := hQ74
          have N74 := Fr.app N68 N74q
          have g75 : Gz p.tables e below A T74 (mkF m 74 #[.val (.int p0), .val (.int p1), .val (.int (p0 &&& (7 : Int32))), .val (.int (83 : Int32)), .val (.ref (el 3))] [(.ref (el 3)), (.ref (el 3))]) := fun tq kq => g73 tq (st74 _ kq)
          have g76 : Gz p.tables e below A T74 (mkF m 77 #[.val (.int p0), .val (.int p1), .val (.int (p0 &&& (7 : Int32))), .val (.int (83 : Int32)), .val (.ref (el 3))] []) := fun tq kq => g75 tq (Jvm.RoadKit.acmp (g := (mkF m 74 #[.val (.int p0), .val (.int p1), .val (.int (p0 &&& (7 : Int32))), .val (.int (83 : Int32)), .val (.ref (el 3))] [(.ref (el 3)), (.ref (el 3))])) X74 hx rfl rfl rfl (pc0 := 74) (pc' := 77) (same := true) rfl (hb hby at_74) rfl (decide_eq_true rfl) (by decide) (by decide) kq)
          have g77 : Gz p.tables e below A T74 (mkF m 78 #[.val (.int p0), .val (.int p1), .val (.int (p0 &&& (7 : Int32))), .val (.int (83 : Int32)), .val (.ref (el 3))] [(.int (1 : Int32))]) := fun tq kq => g76 tq (XS.iconst X74.here hx rfl (hb hby at_77) kq)
          have g78 : Gz p.tables e below A T74 (mkF m 82 #[.val (.int p0), .val (.int p1), .val (.int (p0 &&& (7 : Int32))), .val (.int (83 : Int32)), .val (.ref (el 3))] [(.int (1 : Int32))]) := fun tq kq => g77 tq (XS.goto X74.here hx rfl (pc0 := 78) (pc' := 82) rfl (hb hby at_78) (by decide) (by decide) kq)
          obtain ⟨fs, hr, hrun, hended, hW, hsame⟩ := X74.leave (v := some (.int (1 : Int32))) (fun h => by rw [Bd.returns] at h; cases h)
          refine ⟨_, _, g78 _ (retN X74 hx (t := .boolean) Bd.returns (by simp) (hb hby at_82) hr), hrun, hended, _, _, rfl, ?_, ⟨_, rfl⟩, hW, hsame.mono (by decide) (by decide)⟩
          show Q0 Z p0 p1 a k el h0 n0 _ T74.heap _
          rw [e74]
          exact ⟨rfl, N74⟩
        · have g79 : Gz p.tables e below A s₁ (mkF m 48 #[.val (.int p0), .val (.int p1), .val (.int (p0 &&& (7 : Int32))), .unset, .unset] []) := fun tq kq => g62 tq (XS.icmpYes X0.here hx rfl (pc0 := 39) (pc' := 48) rfl (hb hby at_39) rfl (feq hc39).2 (by decide) (by decide) kq)
          have g80 : Gz p.tables e below A s₁ (mkF m 49 #[.val (.int p0), .val (.int p1), .val (.int (p0 &&& (7 : Int32))), .unset, .unset] [(.int (p0 &&& (7 : Int32)))]) := fun tq kq => g79 tq (XS.iloadN X0.here hx rfl (hb hby at_48) rfl kq)
          have g81 : Gz p.tables e below A s₁ (mkF m 50 #[.val (.int p0), .val (.int p1), .val (.int (p0 &&& (7 : Int32))), .unset, .unset] [(.int (4 : Int32)), (.int (p0 &&& (7 : Int32)))]) := fun tq kq => g80 tq (XS.iconst X0.here hx rfl (hb hby at_49) kq)
          by_cases hc50 : (p0 &&& (7 : Int32)) = (4 : Int32)
          · have g82 : Gz p.tables e below A s₁ (mkF m 53 #[.val (.int p0), .val (.int p1), .val (.int (p0 &&& (7 : Int32))), .unset, .unset] []) := fun tq kq => g81 tq (XS.icmpNo X0.here hx rfl (hb hby at_50) rfl (teq hc50).2 kq)
            have g83 : Gz p.tables e below A s₁ (mkF m 55 #[.val (.int p0), .val (.int p1), .val (.int (p0 &&& (7 : Int32))), .unset, .unset] [(.int (76 : Int32))]) := fun tq kq => g82 tq (XS.bipush X0.here hx rfl (hb hby at_53) kq)
            have g84 : Gz p.tables e below A s₁ (mkF m 56 #[.val (.int p0), .val (.int p1), .val (.int (p0 &&& (7 : Int32))), .val (.int (76 : Int32)), .unset] []) := fun tq kq => g83 tq (XS.istoreN X0.here hx rfl (hb hby at_55) rfl (l' := #[.val (.int p0), .val (.int p1), .val (.int (p0 &&& (7 : Int32))), .val (.int (76 : Int32)), .unset]) rfl kq)
            have g85 : Gz p.tables e below A s₁ (mkF m 62 #[.val (.int p0), .val (.int p1), .val (.int (p0 &&& (7 : Int32))), .val (.int (76 : Int32)), .unset] []) := fun tq kq => g84 tq (XS.goto X0.here hx rfl (pc0 := 56) (pc' := 62) rfl (hb hby at_56) (by decide) (by decide) kq)
            have g86 : Gz p.tables e below A s₁ (mkF m 63 #[.val (.int p0), .val (.int p1), .val (.int (p0 &&& (7 : Int32))), .val (.int (76 : Int32)), .unset] [(.int (76 : Int32))]) := fun tq kq => g85 tq (XS.iloadN X0.here hx rfl (hb hby at_62) rfl kq)
            have hval : own_kind el (76 : Int32) = .ref (el 4) := rfl
            obtain ⟨_, _, ⟨T87, L87, k87, n87⟩, -, X87, ⟨Lc87, hQ87, l87, y87, z87⟩, st87⟩ := Jvm.LawKit.callS X0 hx (y := (⟨"com/example/statecraft/statecraft/preferences/ValueKind", "ofTag", "(B)Lcom/example/statecraft/statecraft/preferences/ValueKind;"⟩ : MethodName)) hown (mvT hZ (hw _ (List.mem_of_getElem? (i := 0) rfl))) (mvT hZ (hw _ (List.mem_of_getElem? (i := 1) rfl))) (mvT hZ (hw _ (List.mem_of_getElem? (i := 2) rfl))) (mvT hZ (hw _ (List.mem_of_getElem? (i := 3) rfl))) (by decide) (backOf (W := 0) (rm2 l Z a0 hw [] (76 : Int32) a k el (.ref (el 4)) h0 n0 Z0 S_V V0 E0 F0 F1 F2 F3 F4 hval) hZ (hw _ (List.mem_of_getElem? (i := 3) rfl)) (hw _ (List.mem_of_getElem? (i := 2) rfl)) (by decide) (by decide)) (g := (mkF m 63 #[.val (.int p0), .val (.int p1), .val (.int (p0 &&& (7 : Int32))), .val (.int (76 : Int32)), .unset] [(.int (76 : Int32))])) rfl (by rw [hml]; rfl) (argsL := [(.int (76 : Int32))]) (rest := []) (lenOf pd0_0 rfl) rfl (by show 2 * 0 + _ ≤ _; exact Nat.le_of_eq rfl) (hb hby at_63) (fun _ _ => ⟨rfl, e0, (by decide : 0 + 1 ≤ _), (by decide : 0 + 5 ≤ _)⟩)
            dsimp only [Pt.U, Pt.locs, Pt.cells, Pt.slots] at X87 l87 y87 z87 st87 hQ87
            subst l87 y87 z87
            obtain ⟨rfl, N87q, EQ87⟩ := hQ87
            have N87 := Fr.app N0 N87q
            have g88 : Gz p.tables e below A T87 (mkF m 66 #[.val (.int p0), .val (.int p1), .val (.int (p0 &&& (7 : Int32))), .val (.int (76 : Int32)), .unset] [(.ref (el 4))]) := fun tq kq => g86 tq (st87 _ kq)
            have K89 := EQ87
            have g90 : Gz p.tables e below A T87 (mkF m 68 #[.val (.int p0), .val (.int p1), .val (.int (p0 &&& (7 : Int32))), .val (.int (76 : Int32)), .val (.ref (el 4))] []) := fun tq kq => g88 tq (XS.astore X87.here hx rfl (hb hby at_66) rfl rfl (l' := #[.val (.int p0), .val (.int p1), .val (.int (p0 &&& (7 : Int32))), .val (.int (76 : Int32)), .val (.ref (el 4))]) rfl kq)
            have g91 : Gz p.tables e below A T87 (mkF m 70 #[.val (.int p0), .val (.int p1), .val (.int (p0 &&& (7 : Int32))), .val (.int (76 : Int32)), .val (.ref (el 4))] [(.ref (el 4))]) := fun tq kq => g90 tq (XS.aload X87.here hx rfl (hb hby at_68) rfl rfl kq)
            have g92 : Gz p.tables e below A T87 (mkF m 71 #[.val (.int p0), .val (.int p1), .val (.int (p0 &&& (7 : Int32))), .val (.int (76 : Int32)), .val (.ref (el 4))] [(.int (76 : Int32)), (.ref (el 4))]) := fun tq kq => g91 tq (XS.iloadN X87.here hx rfl (hb hby at_70) rfl kq)
            obtain ⟨_, _, ⟨T93, L93, k93, n93⟩, -, X93, ⟨Lc93, hQ93, l93, y93, z93⟩, st93⟩ := Jvm.LawKit.callS X87 hx (y := (⟨"com/example/statecraft/statecraft/preferences/ValueKindOfTagPinLaw", "expected", "(B)Lcom/example/statecraft/statecraft/preferences/ValueKind;"⟩ : MethodName)) hown (mvT hZ (hw _ (List.mem_of_getElem? (i := 21) rfl))) (mvT hZ (hw _ (List.mem_of_getElem? (i := 22) rfl))) (mvT hZ (hw _ (List.mem_of_getElem? (i := 23) rfl))) (mvT hZ (hw _ (List.mem_of_getElem? (i := 24) rfl))) (by decide) (backOf (W := 1) (rm3 l Z a0 hw [] (76 : Int32) el (.ref (el 4)) T87.heap n0 (Nat.le_trans Z0 K89.1) (S_INT.ext K89) (S_DOUBLE.ext K89) (S_BOOLEAN.ext K89) (S_STRING.ext K89) (S_STRING_LIST.ext K89) hval) hZ (hw _ (List.mem_of_getElem? (i := 24) rfl)) (hw _ (List.mem_of_getElem? (i := 23) rfl)) (by decide) (by decide)) (g := (mkF m 71 #[.val (.int p0), .val (.int p1), .val (.int (p0 &&& (7 : Int32))), .val (.int (76 : Int32)), .val (.ref (el 4))] [(.int (76 : Int32)), (.ref (el 4))])) rfl (by rw [hml]; rfl) (argsL := [(.int (76 : Int32))]) (rest := [(.ref (el 4))]) (lenOf pd0_0 rfl) rfl (by show 2 * 0 + _ ≤ _; exact Nat.le_of_eq rfl) (hb hby at_71) (fun _ _ => ⟨rfl, rfl, (by decide : 1 + 0 ≤ _), (by decide : 5 + 0 ≤ _)⟩)
            dsimp only [Pt.U, Pt.locs, Pt.cells, Pt.slots] at X93 l93 y93 z93 st93 hQ93
            subst l93 y93 z93
            obtain ⟨rfl, N93q, e93⟩ := hQ93
            have N93 := Fr.app N87 N93q
            have g94 : Gz p.tables e below A T93 (mkF m 74 #[.val (.int p0), .val (.int p1), .val (.int (p0 &&& (7 : Int32))), .val (.int (76 : Int32)), .val (.ref (el 4))] [(.ref (el 4)), (.ref (el 4))]) := fun tq kq => g92 tq (st93 _ kq)
            have g95 : Gz p.tables e below A T93 (mkF m 77 #[.val (.int p0), .val (.int p1), .val (.int (p0 &&& (7 : Int32))), .val (.int (76 : Int32)), .val (.ref (el 4))] []) := fun tq kq => g94 tq (Jvm.RoadKit.acmp (g := (mkF m 74 #[.val (.int p0), .val (.int p1), .val (.int (p0 &&& (7 : Int32))), .val (.int (76 : Int32)), .val (.ref (el 4))] [(.ref (el 4)), (.ref (el 4))])) X93 hx rfl rfl rfl (pc0 := 74) (pc' := 77) (same := true) rfl (hb hby at_74) rfl (decide_eq_true rfl) (by decide) (by decide) kq)
            have g96 : Gz p.tables e below A T93 (mkF m 78 #[.val (.int p0), .val (.int p1), .val (.int (p0 &&& (7 : Int32))), .val (.int (76 : Int32)), .val (.ref (el 4))] [(.int (1 : Int32))]) := fun tq kq => g95 tq (XS.iconst X93.here hx rfl (hb hby at_77) kq)
            have g97 : Gz p.tables e below A T93 (mkF m 82 #[.val (.int p0), .val (.int p1), .val (.int (p0 &&& (7 : Int32))), .val (.int (76 : Int32)), .val (.ref (el 4))] [(.int (1 : Int32))]) := fun tq kq => g96 tq (XS.goto X93.here hx rfl (pc0 := 78) (pc' := 82) rfl (hb hby at_78) (by decide) (by decide) kq)
            obtain ⟨fs, hr, hrun, hended, hW, hsame⟩ := X93.leave (v := some (.int (1 : Int32))) (fun h => by rw [Bd.returns] at h; cases h)
            refine ⟨_, _, g97 _ (retN X93 hx (t := .boolean) Bd.returns (by simp) (hb hby at_82) hr), hrun, hended, _, _, rfl, ?_, ⟨_, rfl⟩, hW, hsame.mono (by decide) (by decide)⟩
            show Q0 Z p0 p1 a k el h0 n0 _ T93.heap _
            rw [e93]
            exact ⟨rfl, N93⟩
          · have g98 : Gz p.tables e below A s₁ (mkF m 59 #[.val (.int p0), .val (.int p1), .val (.int (p0 &&& (7 : Int32))), .unset, .unset] []) := fun tq kq => g81 tq (XS.icmpYes X0.here hx rfl (pc0 := 50) (pc' := 59) rfl (hb hby at_50) rfl (feq hc50).2 (by decide) (by decide) kq)
            have g99 : Gz p.tables e below A s₁ (mkF m 60 #[.val (.int p0), .val (.int p1), .val (.int (p0 &&& (7 : Int32))), .unset, .unset] [(.int p1)]) := fun tq kq => g98 tq (XS.iloadN X0.here hx rfl (hb hby at_59) rfl kq)
            have g100 : Gz p.tables e below A s₁ (mkF m 61 #[.val (.int p0), .val (.int p1), .val (.int (p0 &&& (7 : Int32))), .unset, .unset] [(.int (p1.toInt8.toInt32))]) := fun tq kq => g99 tq (XS.i2b X0.here hx rfl (hb hby at_60) rfl kq)
            have g101 : Gz p.tables e below A s₁ (mkF m 62 #[.val (.int p0), .val (.int p1), .val (.int (p0 &&& (7 : Int32))), .val (.int (p1.toInt8.toInt32)), .unset] []) := fun tq kq => g100 tq (XS.istoreN X0.here hx rfl (hb hby at_61) rfl (l' := #[.val (.int p0), .val (.int p1), .val (.int (p0 &&& (7 : Int32))), .val (.int (p1.toInt8.toInt32)), .unset]) rfl kq)
            have g102 : Gz p.tables e below A s₁ (mkF m 63 #[.val (.int p0), .val (.int p1), .val (.int (p0 &&& (7 : Int32))), .val (.int (p1.toInt8.toInt32)), .unset] [(.int (p1.toInt8.toInt32))]) := fun tq kq => g101 tq (XS.iloadN X0.here hx rfl (hb hby at_62) rfl kq)
            rcases own_cases el (p1.toInt8.toInt32) with hval | hval | hval | hval | hval | hval
            · obtain ⟨_, _, ⟨T103, L103, k103, n103⟩, -, X103, ⟨Lc103, hQ103, l103, y103, z103⟩, st103⟩ := Jvm.LawKit.callS X0 hx (y := (⟨"com/example/statecraft/statecraft/preferences/ValueKind", "ofTag", "(B)Lcom/example/statecraft/statecraft/preferences/ValueKind;"⟩ : MethodName)) hown (mvT hZ (hw _ (List.mem_of_getElem? (i := 0) rfl))) (mvT hZ (hw _ (List.mem_of_getElem? (i := 1) rfl))) (mvT hZ (hw _ (List.mem_of_getElem? (i := 2) rfl))) (mvT hZ (hw _ (List.mem_of_getElem? (i := 3) rfl))) (by decide) (backOf (W := 0) (rm2 l Z a0 hw [] (p1.toInt8.toInt32) a k el (.ref (el 0)) h0 n0 Z0 S_V V0 E0 F0 F1 F2 F3 F4 hval) hZ (hw _ (List.mem_of_getElem? (i := 3) rfl)) (hw _ (List.mem_of_getElem? (i := 2) rfl)) (by decide) (by decide)) (g := (mkF m 63 #[.val (.int p0), .val (.int p1), .val (.int (p0 &&& (7 : Int32))), .val (.int (p1.toInt8.toInt32)), .unset] [(.int (p1.toInt8.toInt32))])) rfl (by rw [hml]; rfl) (argsL := [(.int (p1.toInt8.toInt32))]) (rest := []) (lenOf pd0_0 rfl) rfl (by show 2 * 0 + _ ≤ _; exact Nat.le_of_eq rfl) (hb hby at_63) (fun _ _ => ⟨rfl, e0, (by decide : 0 + 1 ≤ _), (by decide : 0 + 5 ≤ _)⟩)
              dsimp only [Pt.U, Pt.locs, Pt.cells, Pt.slots] at X103 l103 y103 z103 st103 hQ103
              subst l103 y103 z103
              obtain ⟨rfl, N103q, EQ103⟩ := hQ103
              have N103 := Fr.app N0 N103q
              have g104 : Gz p.tables e below A T103 (mkF m 66 #[.val (.int p0), .val (.int p1), .val (.int (p0 &&& (7 : Int32))), .val (.int (p1.toInt8.toInt32)), .unset] [(.ref (el 0))]) := fun tq kq => g102 tq (st103 _ kq)
              have K105 := EQ103
              have g106 : Gz p.tables e below A T103 (mkF m 68 #[.val (.int p0), .val (.int p1), .val (.int (p0 &&& (7 : Int32))), .val (.int (p1.toInt8.toInt32)), .val (.ref (el 0))] []) := fun tq kq => g104 tq (XS.astore X103.here hx rfl (hb hby at_66) rfl rfl (l' := #[.val (.int p0), .val (.int p1), .val (.int (p0 &&& (7 : Int32))), .val (.int (p1.toInt8.toInt32)), .val (.ref (el 0))]) rfl kq)
              have g107 : Gz p.tables e below A T103 (mkF m 70 #[.val (.int p0), .val (.int p1), .val (.int (p0 &&& (7 : Int32))), .val (.int (p1.toInt8.toInt32)), .val (.ref (el 0))] [(.ref (el 0))]) := fun tq kq => g106 tq (XS.aload X103.here hx rfl (hb hby at_68) rfl rfl kq)
              have g108 : Gz p.tables e below A T103 (mkF m 71 #[.val (.int p0), .val (.int p1), .val (.int (p0 &&& (7 : Int32))), .val (.int (p1.toInt8.toInt32)), .val (.ref (el 0))] [(.int (p1.toInt8.toInt32)), (.ref (el 0))]) := fun tq kq => g107 tq (XS.iloadN X103.here hx rfl (hb hby at_70) rfl kq)
              obtain ⟨_, _, ⟨T109, L109, k109, n109⟩, -, X109, ⟨Lc109, hQ109, l109, y109, z109⟩, st109⟩ := Jvm.LawKit.callS X103 hx (y := (⟨"com/example/statecraft/statecraft/preferences/ValueKindOfTagPinLaw", "expected", "(B)Lcom/example/statecraft/statecraft/preferences/ValueKind;"⟩ : MethodName)) hown (mvT hZ (hw _ (List.mem_of_getElem? (i := 21) rfl))) (mvT hZ (hw _ (List.mem_of_getElem? (i := 22) rfl))) (mvT hZ (hw _ (List.mem_of_getElem? (i := 23) rfl))) (mvT hZ (hw _ (List.mem_of_getElem? (i := 24) rfl))) (by decide) (backOf (W := 1) (rm3 l Z a0 hw [] (p1.toInt8.toInt32) el (.ref (el 0)) T103.heap n0 (Nat.le_trans Z0 K105.1) (S_INT.ext K105) (S_DOUBLE.ext K105) (S_BOOLEAN.ext K105) (S_STRING.ext K105) (S_STRING_LIST.ext K105) hval) hZ (hw _ (List.mem_of_getElem? (i := 24) rfl)) (hw _ (List.mem_of_getElem? (i := 23) rfl)) (by decide) (by decide)) (g := (mkF m 71 #[.val (.int p0), .val (.int p1), .val (.int (p0 &&& (7 : Int32))), .val (.int (p1.toInt8.toInt32)), .val (.ref (el 0))] [(.int (p1.toInt8.toInt32)), (.ref (el 0))])) rfl (by rw [hml]; rfl) (argsL := [(.int (p1.toInt8.toInt32))]) (rest := [(.ref (el 0))]) (lenOf pd0_0 rfl) rfl (by show 2 * 0 + _ ≤ _; exact Nat.le_of_eq rfl) (hb hby at_71) (fun _ _ => ⟨rfl, rfl, (by decide : 1 + 0 ≤ _), (by decide : 5 + 0 ≤ _)⟩)
              dsimp only [Pt.U, Pt.locs, Pt.cells, Pt.slots] at X109 l109 y109 z109 st109 hQ109
              subst l109 y109 z109
              obtain ⟨rfl, N109q, e109⟩ := hQ109
              have N109 := Fr.app N103 N109q
              have g110 : Gz p.tables e below A T109 (mkF m 74 #[.val (.int p0), .val (.int p1), .val (.int (p0 &&& (7 : Int32))), .val (.int (p1.toInt8.toInt32)), .val (.ref (el 0))] [(.ref (el 0)), (.ref (el 0))]) := fun tq kq => g108 tq (st109 _ kq)
              have g111 : Gz p.tables e below A T109 (mkF m 77 #[.val (.int p0), .val (.int p1), .val (.int (p0 &&& (7 : Int32))), .val (.int (p1.toInt8.toInt32)), .val (.ref (el 0))] []) := fun tq kq => g110 tq (Jvm.RoadKit.acmp (g := (mkF m 74 #[.val (.int p0), .val (.int p1), .val (.int (p0 &&& (7 : Int32))), .val (.int (p1.toInt8.toInt32)), .val (.ref (el 0))] [(.ref (el 0)), (.ref (el 0))])) X109 hx rfl rfl rfl (pc0 := 74) (pc' := 77) (same := true) rfl (hb hby at_74) rfl (decide_eq_true rfl) (by decide) (by decide) kq)
              have g112 : Gz p.tables e below A T109 (mkF m 78 #[.val (.int p0), .val (.int p1), .val (.int (p0 &&& (7 : Int32))), .val (.int (p1.toInt8.toInt32)), .val (.ref (el 0))] [(.int (1 : Int32))]) := fun tq kq => g111 tq (XS.iconst X109.here hx rfl (hb hby at_77) kq)
              have g113 : Gz p.tables e below A T109 (mkF m 82 #[.val (.int p0), .val (.int p1), .val (.int (p0 &&& (7 : Int32))), .val (.int (p1.toInt8.toInt32)), .val (.ref (el 0))] [(.int (1 : Int32))]) := fun tq kq => g112 tq (XS.goto X109.here hx rfl (pc0 := 78) (pc' := 82) rfl (hb hby at_78) (by decide) (by decide) kq)
              obtain ⟨fs, hr, hrun, hended, hW, hsame⟩ := X109.leave (v := some (.int (1 : Int32))) (fun h => by rw [Bd.returns] at h; cases h)
              refine ⟨_, _, g113 _ (retN X109 hx (t := .boolean) Bd.returns (by simp) (hb hby at_82) hr), hrun, hended, _, _, rfl, ?_, ⟨_, rfl⟩, hW, hsame.mono (by decide) (by decide)⟩
              show Q0 Z p0 p1 a k el h0 n0 _ T109.heap _
              rw [e109]
              exact ⟨rfl, N109⟩
            · obtain ⟨_, _, ⟨T114, L114, k114, n114⟩, -, X114, ⟨Lc114, hQ114, l114, y114, z114⟩, st114⟩ := Jvm.LawKit.callS X0 hx (y := (⟨"com/example/statecraft/statecraft/preferences/ValueKind", "ofTag", "(B)Lcom/example/statecraft/statecraft/preferences/ValueKind;"⟩ : MethodName)) hown (mvT hZ (hw _ (List.mem_of_getElem? (i := 0) rfl))) (mvT hZ (hw _ (List.mem_of_getElem? (i := 1) rfl))) (mvT hZ (hw _ (List.mem_of_getElem? (i := 2) rfl))) (mvT hZ (hw _ (List.mem_of_getElem? (i := 3) rfl))) (by decide) (backOf (W := 0) (rm2 l Z a0 hw [] (p1.toInt8.toInt32) a k el (.ref (el 1)) h0 n0 Z0 S_V V0 E0 F0 F1 F2 F3 F4 hval) hZ (hw _ (List.mem_of_getElem? (i := 3) rfl)) (hw _ (List.mem_of_getElem? (i := 2) rfl)) (by decide) (by decide)) (g := (mkF m 63 #[.val (.int p0), .val (.int p1), .val (.int (p0 &&& (7 : Int32))), .val (.int (p1.toInt8.toInt32)), .unset] [(.int (p1.toInt8.toInt32))])) rfl (by rw [hml]; rfl) (argsL := [(.int (p1.toInt8.toInt32))]) (rest := []) (lenOf pd0_0 rfl) rfl (by show 2 * 0 + _ ≤ _; exact Nat.le_of_eq rfl) (hb hby at_63) (fun _ _ => ⟨rfl, e0, (by decide : 0 + 1 ≤ _), (by decide : 0 + 5 ≤ _)⟩)
              dsimp only [Pt.U, Pt.locs, Pt.cells, Pt.slots] at X114 l114 y114 z114 st114 hQ114
              subst l114 y114 z114
              obtain ⟨rfl, N114q, EQ114⟩ := hQ114
              have N114 := Fr.app N0 N114q
              have g115 : Gz p.tables e below A T114 (mkF m 66 #[.val (.int p0), .val (.int p1), .val (.int (p0 &&& (7 : Int32))), .val (.int (p1.toInt8.toInt32)), .unset] [(.ref (el 1))]) := fun tq kq => g102 tq (st114 _ kq)
              have K116 := EQ114
              have g117 : Gz p.tables e below A T114 (mkF m 68 #[.val (.int p0), .val (.int p1), .val (.int (p0 &&& (7 : Int32))), .val (.int (p1.toInt8.toInt32)), .val (.ref (el 1))] []) := fun tq kq => g115 tq (XS.astore X114.here hx rfl (hb hby at_66) rfl rfl (l' := #[.val (.int p0), .val (.int p1), .val (.int (p0 &&& (7 : Int32))), .val (.int (p1.toInt8.toInt32)), .val (.ref (el 1))]) rfl kq)
              have g118 : Gz p.tables e below A T114 (mkF m 70 #[.val (.int p0), .val (.int p1), .val (.int (p0 &&& (7 : Int32))), .val (.int (p1.toInt8.toInt32)), .val (.ref (el 1))] [(.ref (el 1))]) := fun tq kq => g117 tq (XS.aload X114.here hx rfl (hb hby at_68) rfl rfl kq)
              have g119 : Gz p.tables e below A T114 (mkF m 71 #[.val (.int p0), .val (.int p1), .val (.int (p0 &&& (7 : Int32))), .val (.int (p1.toInt8.toInt32)), .val (.ref (el 1))] [(.int (p1.toInt8.toInt32)), (.ref (el 1))]) := fun tq kq => g118 tq (XS.iloadN X114.here hx rfl (hb hby at_70) rfl kq)
              obtain ⟨_, _, ⟨T120, L120, k120, n120⟩, -, X120, ⟨Lc120, hQ120, l120, y120, z120⟩, st120⟩ := Jvm.LawKit.callS X114 hx (y := (⟨"com/example/statecraft/statecraft/preferences/ValueKindOfTagPinLaw", "expected", "(B)Lcom/example/statecraft/statecraft/preferences/ValueKind;"⟩ : MethodName)) hown (mvT hZ (hw _ (List.mem_of_getElem? (i := 21) rfl))) (mvT hZ (hw _ (List.mem_of_getElem? (i := 22) rfl))) (mvT hZ (hw _ (List.mem_of_getElem? (i := 23) rfl))) (mvT hZ (hw _ (List.mem_of_getElem? (i := 24) rfl))) (by decide) (backOf (W := 1) (rm3 l Z a0 hw [] (p1.toInt8.toInt32) el (.ref (el 1)) T114.heap n0 (Nat.le_trans Z0 K116.1) (S_INT.ext K116) (S_DOUBLE.ext K116) (S_BOOLEAN.ext K116) (S_STRING.ext K116) (S_STRING_LIST.ext K116) hval) hZ (hw _ (List.mem_of_getElem? (i := 24) rfl)) (hw _ (List.mem_of_getElem? (i := 23) rfl)) (by decide) (by decide)) (g := (mkF m 71 #[.val (.int p0), .val (.int p1), .val (.int (p0 &&& (7 : Int32))), .val (.int (p1.toInt8.toInt32)), .val (.ref (el 1))] [(.int (p1.toInt8.toInt32)), (.ref (el 1))])) rfl (by rw [hml]; rfl) (argsL := [(.int (p1.toInt8.toInt32))]) (rest := [(.ref (el 1))]) (lenOf pd0_0 rfl) rfl (by show 2 * 0 + _ ≤ _; exact Nat.le_of_eq rfl) (hb hby at_71) (fun _ _ => ⟨rfl, rfl, (by decide : 1 + 0 ≤ _), (by decide : 5 + 0 ≤ _)⟩)
              dsimp only [Pt.U, Pt.locs, Pt.cells, Pt.slots] at X120 l120 y120 z120 st120 hQ120
              subst l120 y120 z120
              obtain ⟨rfl, N120q, e120⟩ := hQ120
              have N120 := Fr.app N114 N120q
              have g121 : Gz p.tables e below A T120 (mkF m 74 #[.val (.int p0), .val (.int p1), .val (.int (p0 &&& (7 : Int32))), .val (.int (p1.toInt8.toInt32)), .val (.ref (el 1))] [(.ref (el 1)), (.ref (el 1))]) := fun tq kq => g119 tq (st120 _ kq)
              have g122 : Gz p.tables e below A T120 (mkF m 77 #[.val (.int p0), .val (.int p1), .val (.int (p0 &&& (7 : Int32))), .val (.int (p1.toInt8.toInt32)), .val (.ref (el 1))] []) := fun tq kq => g121 tq (Jvm.RoadKit.acmp (g := (mkF m 74 #[.val (.int p0), .val (.int p1), .val (.int (p0 &&& (7 : Int32))), .val (.int (p1.toInt8.toInt32)), .val (.ref (el 1))] [(.ref (el 1)), (.ref (el 1))])) X120 hx rfl rfl rfl (pc0 := 74) (pc' := 77) (same := true) rfl (hb hby at_74) rfl (decide_eq_true rfl) (by decide) (by decide) kq)
              have g123 : Gz p.tables e below A T120 (mkF m 78 #[.val (.int p0), .val (.int p1), .val (.int (p0 &&& (7 : Int32))), .val (.int (p1.toInt8.toInt32)), .val (.ref (el 1))] [(.int (1 : Int32))]) := fun tq kq => g122 tq (XS.iconst X120.here hx rfl (hb hby at_77) kq)
              have g124 : Gz p.tables e below A T120 (mkF m 82 #[.val (.int p0), .val (.int p1), .val (.int (p0 &&& (7 : Int32))), .val (.int (p1.toInt8.toInt32)), .val (.ref (el 1))] [(.int (1 : Int32))]) := fun tq kq => g123 tq (XS.goto X120.here hx rfl (pc0 := 78) (pc' := 82) rfl (hb hby at_78) (by decide) (by decide) kq)
              obtain ⟨fs, hr, hrun, hended, hW, hsame⟩ := X120.leave (v := some (.int (1 : Int32))) (fun h => by rw [Bd.returns] at h; cases h)
              refine ⟨_, _, g124 _ (retN X120 hx (t := .boolean) Bd.returns (by simp) (hb hby at_82) hr), hrun, hended, _, _, rfl, ?_, ⟨_, rfl⟩, hW, hsame.mono (by decide) (by decide)⟩
              show Q0 Z p0 p1 a k el h0 n0 _ T120.heap _
              rw [e120]
              exact ⟨rfl, N120⟩
            · obtain ⟨_, _, ⟨T125, L125, k125, n125⟩, -, X125, ⟨Lc125, hQ125, l125, y125, z125⟩, st125⟩ := Jvm.LawKit.callS X0 hx (y := (⟨"com/example/statecraft/statecraft/preferences/ValueKind", "ofTag", "(B)Lcom/example/statecraft/statecraft/preferences/ValueKind;"⟩ : MethodName)) hown (mvT hZ (hw _ (List.mem_of_getElem? (i := 0) rfl))) (mvT hZ (hw _ (List.mem_of_getElem? (i := 1) rfl))) (mvT hZ (hw _ (List.mem_of_getElem? (i := 2) rfl))) (mvT hZ (hw _ (List.mem_of_getElem? (i := 3) rfl))) (by decide) (backOf (W := 0) (rm2 l Z a0 hw [] (p1.toInt8.toInt32) a k el (.ref (el 2)) h0 n0 Z0 S_V V0 E0 F0 F1 F2 F3 F4 hval) hZ (hw _ (List.mem_of_getElem? (i := 3) rfl)) (hw _ (List.mem_of_getElem? (i := 2) rfl)) (by decide) (by decide)) (g := (mkF m 63 #[.val (.int p0), .val (.int p1), .val (.int (p0 &&& (7 : Int32))), .val (.int (p1.toInt8.toInt32)), .unset] [(.int (p1.toInt8.toInt32))])) rfl (by rw [hml]; rfl) (argsL := [(.int (p1.toInt8.toInt32))]) (rest := []) (lenOf pd0_0 rfl) rfl (by show 2 * 0 + _ ≤ _; exact Nat.le_of_eq rfl) (hb hby at_63) (fun _ _ => ⟨rfl, e0, (by decide : 0 + 1 ≤ _), (by decide : 0 + 5 ≤ _)⟩)
              dsimp only [Pt.U, Pt.locs, Pt.cells, Pt.slots] at X125 l125 y125 z125 st125 hQ125
              subst l125 y125 z125
              obtain ⟨rfl, N125q, EQ125⟩ := hQ125
              have N125 := Fr.app N0 N125q
              have g126 : Gz p.tables e below A T125 (mkF m 66 #[.val (.int p0), .val (.int p1), .val (.int (p0 &&& (7 : Int32))), .val (.int (p1.toInt8.toInt32)), .unset] [(.ref (el 2))]) := fun tq kq => g102 tq (st125 _ kq)
              have K127 := EQ125
              have g128 : Gz p.tables e below A T125 (mkF m 68 #[.val (.int p0), .val (.int p1), .val (.int (p0 &&& (7 : Int32))), .val (.int (p1.toInt8.toInt32)), .val (.ref (el 2))] []) := fun tq kq => g126 tq (XS.astore X125.here hx rfl (hb hby at_66) rfl rfl (l' := #[.val (.int p0), .val (.int p1), .val (.int (p0 &&& (7 : Int32))), .val (.int (p1.toInt8.toInt32)), .val (.ref (el 2))]) rfl kq)
              have g129 : Gz p.tables e below A T125 (mkF m 70 #[.val (.int p0), .val (.int p1), .val (.int (p0 &&& (7 : Int32))), .val (.int (p1.toInt8.toInt32)), .val (.ref (el 2))] [(.ref (el 2))]) := fun tq kq => g128 tq (XS.aload X125.here hx rfl (hb hby at_68) rfl rfl kq)
              have g130 : Gz p.tables e below A T125 (mkF m 71 #[.val (.int p0), .val (.int p1), .val (.int (p0 &&& (7 : Int32))), .val (.int (p1.toInt8.toInt32)), .val (.ref (el 2))] [(.int (p1.toInt8.toInt32)), (.ref (el 2))]) := fun tq kq => g129 tq (XS.iloadN X125.here hx rfl (hb hby at_70) rfl kq)
              obtain ⟨_, _, ⟨T131, L131, k131, n131⟩, -, X131, ⟨Lc131, hQ131, l131, y131, z131⟩, st131⟩ := Jvm.LawKit.callS X125 hx (y := (⟨"com/example/statecraft/statecraft/preferences/ValueKindOfTagPinLaw", "expected", "(B)Lcom/example/statecraft/statecraft/preferences/ValueKind;"⟩ : MethodName)) hown (mvT hZ (hw _ (List.mem_of_getElem? (i := 21) rfl))) (mvT hZ (hw _ (List.mem_of_getElem? (i := 22) rfl))) (mvT hZ (hw _ (List.mem_of_getElem? (i := 23) rfl))) (mvT hZ (hw _ (List.mem_of_getElem? (i := 24) rfl))) (by decide) (backOf (W := 1) (rm3 l Z a0 hw [] (p1.toInt8.toInt32) el (.ref (el 2)) T125.heap n0 (Nat.le_trans Z0 K127.1) (S_INT.ext K127) (S_DOUBLE.ext K127) (S_BOOLEAN.ext K127) (S_STRING.ext K127) (S_STRING_LIST.ext K127) hval) hZ (hw _ (List.mem_of_getElem? (i := 24) rfl)) (hw _ (List.mem_of_getElem? (i := 23) rfl)) (by decide) (by decide)) (g := (mkF m 71 #[.val (.int p0), .val (.int p1), .val (.int (p0 &&& (7 : Int32))), .val (.int (p1.toInt8.toInt32)), .val (.ref (el 2))] [(.int (p1.toInt8.toInt32)), (.ref (el 2))])) rfl (by rw [hml]; rfl) (argsL := [(.int (p1.toInt8.toInt32))]) (rest := [(.ref (el 2))]) (lenOf pd0_0 rfl) rfl (by show 2 * 0 + _ ≤ _; exact Nat.le_of_eq rfl) (hb hby at_71) (fun _ _ => ⟨rfl, rfl, (by decide : 1 + 0 ≤ _), (by decide : 5 + 0 ≤ _)⟩)
              dsimp only [Pt.U, Pt.locs, Pt.cells, Pt.slots] at X131 l131 y131 z131 st131 hQ131
              subst l131 y131 z131
              obtain ⟨rfl, N131q, e131⟩ := hQ131
              have N131 := Fr.app N125 N131q
              have g132 : Gz p.tables e below A T131 (mkF m 74 #[.val (.int p0), .val (.int p1), .val (.int (p0 &&& (7 : Int32))), .val (.int (p1.toInt8.toInt32)), .val (.ref (el 2))] [(.ref (el 2)), (.ref (el 2))]) := fun tq kq => g130 tq (st131 _ kq)
              have g133 : Gz p.tables e below A T131 (mkF m 77 #[.val (.int p0), .val (.int p1), .val (.int (p0 &&& (7 : Int32))), .val (.int (p1.toInt8.toInt32)), .val (.ref (el 2))] []) := fun tq kq => g132 tq (Jvm.RoadKit.acmp (g := (mkF m 74 #[.val (.int p0), .val (.int p1), .val (.int (p0 &&& (7 : Int32))), .val (.int (p1.toInt8.toInt32)), .val (.ref (el 2))] [(.ref (el 2)), (.ref (el 2))])) X131 hx rfl rfl rfl (pc0 := 74) (pc' := 77) (same := true) rfl (hb hby at_74) rfl (decide_eq_true rfl) (by decide) (by decide) kq)
              have g134 : Gz p.tables e below A T131 (mkF m 78 #[.val (.int p0), .val (.int p1), .val (.int (p0 &&& (7 : Int32))), .val (.int (p1.toInt8.toInt32)), .val (.ref (el 2))] [(.int (1 : Int32))]) := fun tq kq => g133 tq (XS.iconst X131.here hx rfl (hb hby at_77) kq)
              have g135 : Gz p.tables e below A T131 (mkF m 82 #[.val (.int p0), .val (.int p1), .val (.int (p0 &&& (7 : Int32))), .val (.int (p1.toInt8.toInt32)), .val (.ref (el 2))] [(.int (1 : Int32))]) := fun tq kq => g134 tq (XS.goto X131.here hx rfl (pc0 := 78) (pc' := 82) rfl (hb hby at_78) (by decide) (by decide) kq)
              obtain ⟨fs, hr, hrun, hended, hW, hsame⟩ := X131.leave (v := some (.int (1 : Int32))) (fun h => by rw [Bd.returns] at h; cases h)
              refine ⟨_, _, g135 _ (retN X131 hx (t := .boolean) Bd.returns (by simp) (hb hby at_82) hr), hrun, hended, _, _, rfl, ?_, ⟨_, rfl⟩, hW, hsame.mono (by decide) (by decide)⟩
              show Q0 Z p0 p1 a k el h0 n0 _ T131.heap _
              rw [e131]
              exact ⟨rfl, N131⟩
            · obtain ⟨_, _, ⟨T136, L136, k136, n136⟩, -, X136, ⟨Lc136, hQ136, l136, y136, z136⟩, st136⟩ := Jvm.LawKit.callS X0 hx (y := (⟨"com/example/statecraft/statecraft/preferences/ValueKind", "ofTag", "(B)Lcom/example/statecraft/statecraft/preferences/ValueKind;"⟩ : MethodName)) hown (mvT hZ (hw _ (List.mem_of_getElem? (i := 0) rfl))) (mvT hZ (hw _ (List.mem_of_getElem? (i := 1) rfl))) (mvT hZ (hw _ (List.mem_of_getElem? (i := 2) rfl))) (mvT hZ (hw _ (List.mem_of_getElem? (i := 3) rfl))) (by decide) (backOf (W := 0) (rm2 l Z a0 hw [] (p1.toInt8.toInt32) a k el (.ref (el 3)) h0 n0 Z0 S_V V0 E0 F0 F1 F2 F3 F4 hval) hZ (hw _ (List.mem_of_getElem? (i := 3) rfl)) (hw _ (List.mem_of_getElem? (i := 2) rfl)) (by decide) (by decide)) (g := (mkF m 63 #[.val (.int p0), .val (.int p1), .val (.int (p0 &&& (7 : Int32))), .val (.int (p1.toInt8.toInt32)), .unset] [(.int (p1.toInt8.toInt32))])) rfl (by rw [hml]; rfl) (argsL := [(.int (p1.toInt8.toInt32))]) (rest := []) (lenOf pd0_0 rfl) rfl (by show 2 * 0 + _ ≤ _; exact Nat.le_of_eq rfl) (hb hby at_63) (fun _ _ => ⟨rfl, e0, (by decide : 0 + 1 ≤ _), (by decide : 0 + 5 ≤ _)⟩)
              dsimp only [Pt.U, Pt.locs, Pt.cells, Pt.slots] at X136 l136 y136 z136 st136 hQ136
              subst l136 y136 z136
              obtain ⟨rfl, N136q, EQ136⟩ := hQ136
              have N136 := Fr.app N0 N136q
              have g137 : Gz p.tables e below A T136 (mkF m 66 #[.val (.int p0), .val (.int p1), .val (.int (p0 &&& (7 : Int32))), .val (.int (p1.toInt8.toInt32)), .unset] [(.ref (el 3))]) := fun tq kq => g102 tq (st136 _ kq)
              have K138 := EQ136
              have g139 : Gz p.tables e below A T136 (mkF m 68 #[.val (.int p0), .val (.int p1), .val (.int (p0 &&& (7 : Int32))), .val (.int (p1.toInt8.toInt32)), .val (.ref (el 3))] []) := fun tq kq => g137 tq (XS.astore X136.here hx rfl (hb hby at_66) rfl rfl (l' := #[.val (.int p0), .val (.int p1), .val (.int (p0 &&& (7 : Int32))), .val (.int (p1.toInt8.toInt32)), .val (.ref (el 3))]) rfl kq)
              have g140 : Gz p.tables e below A T136 (mkF m 70 #[.val (.int p0), .val (.int p1), .val (.int (p0 &&& (7 : Int32))), .val (.int (p1.toInt8.toInt32)), .val (.ref (el 3))] [(.ref (el 3))]) := fun tq kq => g139 tq (XS.aload X136.here hx rfl (hb hby at_68) rfl rfl kq)
              have g141 : Gz p.tables e below A T136 (mkF m 71 #[.val (.int p0), .val (.int p1), .val (.int (p0 &&& (7 : Int32))), .val (.int (p1.toInt8.toInt32)), .val (.ref (el 3))] [(.int (p1.toInt8.toInt32)), (.ref (el 3))]) := fun tq kq => g140 tq (XS.iloadN X136.here hx rfl (hb hby at_70) rfl kq)
              obtain ⟨_, _, ⟨T142, L142, k142, n142⟩, -, X142, ⟨Lc142, hQ142, l142, y142, z142⟩, st142⟩ := Jvm.LawKit.callS X136 hx (y := (⟨"com/example/statecraft/statecraft/preferences/ValueKindOfTagPinLaw", "expected", "(B)Lcom/example/statecraft/statecraft/preferences/ValueKind;"⟩ : MethodName)) hown (mvT hZ (hw _ (List.mem_of_getElem? (i := 21) rfl))) (mvT hZ (hw _ (List.mem_of_getElem? (i := 22) rfl))) (mvT hZ (hw _ (List.mem_of_getElem? (i := 23) rfl))) (mvT hZ (hw _ (List.mem_of_getElem? (i := 24) rfl))) (by decide) (backOf (W := 1) (rm3 l Z a0 hw [] (p1.toInt8.toInt32) el (.ref (el 3)) T136.heap n0 (Nat.le_trans Z0 K138.1) (S_INT.ext K138) (S_DOUBLE.ext K138) (S_BOOLEAN.ext K138) (S_STRING.ext K138) (S_STRING_LIST.ext K138) hval) hZ (hw _ (List.mem_of_getElem? (i := 24) rfl)) (hw _ (List.mem_of_getElem? (i := 23) rfl)) (by decide) (by decide)) (g := (mkF m 71 #[.val (.int p0), .val (.int p1), .val (.int (p0 &&& (7 : Int32))), .val (.int (p1.toInt8.toInt32)), .val (.ref (el 3))] [(.int (p1.toInt8.toInt32)), (.ref (el 3))])) rfl (by rw [hml]; rfl) (argsL := [(.int (p1.toInt8.toInt32))]) (rest := [(.ref (el 3))]) (lenOf pd0_0 rfl) rfl (by show 2 * 0 + _ ≤ _; exact Nat.le_of_eq rfl) (hb hby at_71) (fun _ _ => ⟨rfl, rfl, (by decide : 1 + 0 ≤ _), (by decide : 5 + 0 ≤ _)⟩)
              dsimp only [Pt.U, Pt.locs, Pt.cells, Pt.slots] at X142 l142 y142 z142 st142 hQ142
              subst l142 y142 z142
              obtain ⟨rfl, N142q, e142⟩ := hQ142
              have N142 := Fr.app N136 N142q
              have g143 : Gz p.tables e below A T142 (mkF m 74 #[.val (.int p0), .val (.int p1), .val (.int (p0 &&& (7 : Int32))), .val (.int (p1.toInt8.toInt32)), .val (.ref (el 3))] [(.ref (el 3)), (.ref (el 3))]) := fun tq kq => g141 tq (st142 _ kq)
              have g144 : Gz p.tables e below A T142 (mkF m 77 #[.val (.int p0), .val (.int p1), .val (.int (p0 &&& (7 : Int32))), .val (.int (p1.toInt8.toInt32)), .val (.ref (el 3))] []) := fun tq kq => g143 tq (Jvm.RoadKit.acmp (g := (mkF m 74 #[.val (.int p0), .val (.int p1), .val (.int (p0 &&& (7 : Int32))), .val (.int (p1.toInt8.toInt32)), .val (.ref (el 3))] [(.ref (el 3)), (.ref (el 3))])) X142 hx rfl rfl rfl (pc0 := 74) (pc' := 77) (same := true) rfl (hb hby at_74) rfl (decide_eq_true rfl) (by decide) (by decide) kq)
              have g145 : Gz p.tables e below A T142 (mkF m 78 #[.val (.int p0), .val (.int p1), .val (.int (p0 &&& (7 : Int32))), .val (.int (p1.toInt8.toInt32)), .val (.ref (el 3))] [(.int (1 : Int32))]) := fun tq kq => g144 tq (XS.iconst X142.here hx rfl (hb hby at_77) kq)
              have g146 : Gz p.tables e below A T142 (mkF m 82 #[.val (.int p0), .val (.int p1), .val (.int (p0 &&& (7 : Int32))), .val (.int (p1.toInt8.toInt32)), .val (.ref (el 3))] [(.int (1 : Int32))]) := fun tq kq => g145 tq (XS.goto X142.here hx rfl (pc0 := 78) (pc' := 82) rfl (hb hby at_78) (by decide) (by decide) kq)
              obtain ⟨fs, hr, hrun, hended, hW, hsame⟩ := X142.leave (v := some (.int (1 : Int32))) (fun h => by rw [Bd.returns] at h; cases h)
              refine ⟨_, _, g146 _ (retN X142 hx (t := .boolean) Bd.returns (by simp) (hb hby at_82) hr), hrun, hended, _, _, rfl, ?_, ⟨_, rfl⟩, hW, hsame.mono (by decide) (by decide)⟩
              show Q0 Z p0 p1 a k el h0 n0 _ T142.heap _
              rw [e142]
              exact ⟨rfl, N142⟩
            · obtain ⟨_, _, ⟨T147, L147, k147, n147⟩, -, X147, ⟨Lc147, hQ147, l147, y147, z147⟩, st147⟩ := Jvm.LawKit.callS X0 hx (y := (⟨"com/example/statecraft/statecraft/preferences/ValueKind", "ofTag", "(B)Lcom/example/statecraft/statecraft/preferences/ValueKind;"⟩ : MethodName)) hown (mvT hZ (hw _ (List.mem_of_getElem? (i := 0) rfl))) (mvT hZ (hw _ (List.mem_of_getElem? (i := 1) rfl))) (mvT hZ (hw _ (List.mem_of_getElem? (i := 2) rfl))) (mvT hZ (hw _ (List.mem_of_getElem? (i := 3) rfl))) (by decide) (backOf (W := 0) (rm2 l Z a0 hw [] (p1.toInt8.toInt32) a k el (.ref (el 4)) h0 n0 Z0 S_V V0 E0 F0 F1 F2 F3 F4 hval) hZ (hw _ (List.mem_of_getElem? (i := 3) rfl)) (hw _ (List.mem_of_getElem? (i := 2) rfl)) (by decide) (by decide)) (g := (mkF m 63 #[.val (.int p0), .val (.int p1), .val (.int (p0 &&& (7 : Int32))), .val (.int (p1.toInt8.toInt32)), .unset] [(.int (p1.toInt8.toInt32))])) rfl (by rw [hml]; rfl) (argsL := [(.int (p1.toInt8.toInt32))]) (rest := []) (lenOf pd0_0 rfl) rfl (by show 2 * 0 + _ ≤ _; exact Nat.le_of_eq rfl) (hb hby at_63) (fun _ _ => ⟨rfl, e0, (by decide : 0 + 1 ≤ _), (by decide : 0 + 5 ≤ _)⟩)
              dsimp only [Pt.U, Pt.locs, Pt.cells, Pt.slots] at X147 l147 y147 z147 st147 hQ147
              subst l147 y147 z147
              obtain ⟨rfl, N147q, EQ147⟩ := hQ147
              have N147 := Fr.app N0 N147q
              have g148 : Gz p.tables e below A T147 (mkF m 66 #[.val (.int p0), .val (.int p1), .val (.int (p0 &&& (7 : Int32))), .val (.int (p1.toInt8.toInt32)), .unset] [(.ref (el 4))]) := fun tq kq => g102 tq (st147 _ kq)
              have K149 := EQ147
              have g150 : Gz p.tables e below A T147 (mkF m 68 #[.val (.int p0), .val (.int p1), .val (.int (p0 &&& (7 : Int32))), .val (.int (p1.toInt8.toInt32)), .val (.ref (el 4))] []) := fun tq kq => g148 tq (XS.astore X147.here hx rfl (hb hby at_66) rfl rfl (l' := #[.val (.int p0), .val (.int p1), .val (.int (p0 &&& (7 : Int32))), .val (.int (p1.toInt8.toInt32)), .val (.ref (el 4))]) rfl kq)
              have g151 : Gz p.tables e below A T147 (mkF m 70 #[.val (.int p0), .val (.int p1), .val (.int (p0 &&& (7 : Int32))), .val (.int (p1.toInt8.toInt32)), .val (.ref (el 4))] [(.ref (el 4))]) := fun tq kq => g150 tq (XS.aload X147.here hx rfl (hb hby at_68) rfl rfl kq)
              have g152 : Gz p.tables e below A T147 (mkF m 71 #[.val (.int p0), .val (.int p1), .val (.int (p0 &&& (7 : Int32))), .val (.int (p1.toInt8.toInt32)), .val (.ref (el 4))] [(.int (p1.toInt8.toInt32)), (.ref (el 4))]) := fun tq kq => g151 tq (XS.iloadN X147.here hx rfl (hb hby at_70) rfl kq)
              obtain ⟨_, _, ⟨T153, L153, k153, n153⟩, -, X153, ⟨Lc153, hQ153, l153, y153, z153⟩, st153⟩ := Jvm.LawKit.callS X147 hx (y := (⟨"com/example/statecraft/statecraft/preferences/ValueKindOfTagPinLaw", "expected", "(B)Lcom/example/statecraft/statecraft/preferences/ValueKind;"⟩ : MethodName)) hown (mvT hZ (hw _ (List.mem_of_getElem? (i := 21) rfl))) (mvT hZ (hw _ (List.mem_of_getElem? (i := 22) rfl))) (mvT hZ (hw _ (List.mem_of_getElem? (i := 23) rfl))) (mvT hZ (hw _ (List.mem_of_getElem? (i := 24) rfl))) (by decide) (backOf (W := 1) (rm3 l Z a0 hw [] (p1.toInt8.toInt32) el (.ref (el 4)) T147.heap n0 (Nat.le_trans Z0 K149.1) (S_INT.ext K149) (S_DOUBLE.ext K149) (S_BOOLEAN.ext K149) (S_STRING.ext K149) (S_STRING_LIST.ext K149) hval) hZ (hw _ (List.mem_of_getElem? (i := 24) rfl)) (hw _ (List.mem_of_getElem? (i := 23) rfl)) (by decide) (by decide)) (g := (mkF m 71 #[.val (.int p0), .val (.int p1), .val (.int (p0 &&& (7 : Int32))), .val (.int (p1.toInt8.toInt32)), .val (.ref (el 4))] [(.int (p1.toInt8.toInt32)), (.ref (el 4))])) rfl (by rw [hml]; rfl) (argsL := [(.int (p1.toInt8.toInt32))]) (rest := [(.ref (el 4))]) (lenOf pd0_0 rfl) rfl (by show 2 * 0 + _ ≤ _; exact Nat.le_of_eq rfl) (hb hby at_71) (fun _ _ => ⟨rfl, rfl, (by decide : 1 + 0 ≤ _), (by decide : 5 + 0 ≤ _)⟩)
              dsimp only [Pt.U, Pt.locs, Pt.cells, Pt.slots] at X153 l153 y153 z153 st153 hQ153
              subst l153 y153 z153
              obtain ⟨rfl, N153q, e153⟩ := hQ153
              have N153 := Fr.app N147 N153q
              have g154 : Gz p.tables e below A T153 (mkF m 74 #[.val (.int p0), .val (.int p1), .val (.int (p0 &&& (7 : Int32))), .val (.int (p1.toInt8.toInt32)), .val (.ref (el 4))] [(.ref (el 4)), (.ref (el 4))]) := fun tq kq => g152 tq (st153 _ kq)
              have g155 : Gz p.tables e below A T153 (mkF m 77 #[.val (.int p0), .val (.int p1), .val (.int (p0 &&& (7 : Int32))), .val (.int (p1.toInt8.toInt32)), .val (.ref (el 4))] []) := fun tq kq => g154 tq (Jvm.RoadKit.acmp (g := (mkF m 74 #[.val (.int p0), .val (.int p1), .val (.int (p0 &&& (7 : Int32))), .val (.int (p1.toInt8.toInt32)), .val (.ref (el 4))] [(.ref (el 4)), (.ref (el 4))])) X153 hx rfl rfl rfl (pc0 := 74) (pc' := 77) (same := true) rfl (hb hby at_74) rfl (decide_eq_true rfl) (by decide) (by decide) kq)
              have g156 : Gz p.tables e below A T153 (mkF m 78 #[.val (.int p0), .val (.int p1), .val (.int (p0 &&& (7 : Int32))), .val (.int (p1.toInt8.toInt32)), .val (.ref (el 4))] [(.int (1 : Int32))]) := fun tq kq => g155 tq (XS.iconst X153.here hx rfl (hb hby at_77) kq)
              have g157 : Gz p.tables e below A T153 (mkF m 82 #[.val (.int p0), .val (.int p1), .val (.int (p0 &&& (7 : Int32))), .val (.int (p1.toInt8.toInt32)), .val (.ref (el 4))] [(.int (1 : Int32))]) := fun tq kq => g156 tq (XS.goto X153.here hx rfl (pc0 := 78) (pc' := 82) rfl (hb hby at_78) (by decide) (by decide) kq)
              obtain ⟨fs, hr, hrun, hended, hW, hsame⟩ := X153.leave (v := some (.int (1 : Int32))) (fun h => by rw [Bd.returns] at h; cases h)
              refine ⟨_, _, g157 _ (retN X153 hx (t := .boolean) Bd.returns (by simp) (hb hby at_82) hr), hrun, hended, _, _, rfl, ?_, ⟨_, rfl⟩, hW, hsame.mono (by decide) (by decide)⟩
              show Q0 Z p0 p1 a k el h0 n0 _ T153.heap _
              rw [e153]
              exact ⟨rfl, N153⟩
            · obtain ⟨_, _, ⟨T158, L158, k158, n158⟩, -, X158, ⟨Lc158, hQ158, l158, y158, z158⟩, st158⟩ := Jvm.LawKit.callS X0 hx (y := (⟨"com/example/statecraft/statecraft/preferences/ValueKind", "ofTag", "(B)Lcom/example/statecraft/statecraft/preferences/ValueKind;"⟩ : MethodName)) hown (mvT hZ (hw _ (List.mem_of_getElem? (i := 0) rfl))) (mvT hZ (hw _ (List.mem_of_getElem? (i := 1) rfl))) (mvT hZ (hw _ (List.mem_of_getElem? (i := 2) rfl))) (mvT hZ (hw _ (List.mem_of_getElem? (i := 3) rfl))) (by decide) (backOf (W := 0) (rm2 l Z a0 hw [] (p1.toInt8.toInt32) a k el .null h0 n0 Z0 S_V V0 E0 F0 F1 F2 F3 F4 hval) hZ (hw _ (List.mem_of_getElem? (i := 3) rfl)) (hw _ (List.mem_of_getElem? (i := 2) rfl)) (by decide) (by decide)) (g := (mkF m 63 #[.val (.int p0), .val (.int p1), .val (.int (p0 &&& (7 : Int32))), .val (.int (p1.toInt8.toInt32)), .unset] [(.int (p1.toInt8.toInt32))])) rfl (by rw [hml]; rfl) (argsL := [(.int (p1.toInt8.toInt32))]) (rest := []) (lenOf pd0_0 rfl) rfl (by show 2 * 0 + _ ≤ _; exact Nat.le_of_eq rfl) (hb hby at_63) (fun _ _ => ⟨rfl, e0, (by decide : 0 + 1 ≤ _), (by decide : 0 + 5 ≤ _)⟩)
              dsimp only [Pt.U, Pt.locs, Pt.cells, Pt.slots] at X158 l158 y158 z158 st158 hQ158
              subst l158 y158 z158
              obtain ⟨rfl, N158q, EQ158⟩ := hQ158
              have N158 := Fr.app N0 N158q
              have g159 : Gz p.tables e below A T158 (mkF m 66 #[.val (.int p0), .val (.int p1), .val (.int (p0 &&& (7 : Int32))), .val (.int (p1.toInt8.toInt32)), .unset] [.null]) := fun tq kq => g102 tq (st158 _ kq)
              have K160 := EQ158
              have g161 : Gz p.tables e below A T158 (mkF m 68 #[.val (.int p0), .val (.int p1), .val (.int (p0 &&& (7 : Int32))), .val (.int (p1.toInt8.toInt32)), .val .null] []) := fun tq kq => g159 tq (XS.astore X158.here hx rfl (hb hby at_66) rfl rfl (l' := #[.val (.int p0), .val (.int p1), .val (.int (p0 &&& (7 : Int32))), .val (.int (p1.toInt8.toInt32)), .val .null]) rfl kq)
              have g162 : Gz p.tables e below A T158 (mkF m 70 #[.val (.int p0), .val (.int p1), .val (.int (p0 &&& (7 : Int32))), .val (.int (p1.toInt8.toInt32)), .val .null] [.null]) := fun tq kq => g161 tq (XS.aload X158.here hx rfl (hb hby at_68) rfl rfl kq)
              have g163 : Gz p.tables e below A T158 (mkF m 71 #[.val (.int p0), .val (.int p1), .val (.int (p0 &&& (7 : Int32))), .val (.int (p1.toInt8.toInt32)), .val .null] [(.int (p1.toInt8.toInt32)), .null]) := fun tq kq => g162 tq (XS.iloadN X158.here hx rfl (hb hby at_70) rfl kq)
              obtain ⟨_, _, ⟨T164, L164, k164, n164⟩, -, X164, ⟨Lc164, hQ164, l164, y164, z164⟩, st164⟩ := Jvm.LawKit.callS X158 hx (y := (⟨"com/example/statecraft/statecraft/preferences/ValueKindOfTagPinLaw", "expected", "(B)Lcom/example/statecraft/statecraft/preferences/ValueKind;"⟩ : MethodName)) hown (mvT hZ (hw _ (List.mem_of_getElem? (i := 21) rfl))) (mvT hZ (hw _ (List.mem_of_getElem? (i := 22) rfl))) (mvT hZ (hw _ (List.mem_of_getElem? (i := 23) rfl))) (mvT hZ (hw _ (List.mem_of_getElem? (i := 24) rfl))) (by decide) (backOf (W := 1) (rm3 l Z a0 hw [] (p1.toInt8.toInt32) el .null T158.heap n0 (Nat.le_trans Z0 K160.1) (S_INT.ext K160) (S_DOUBLE.ext K160) (S_BOOLEAN.ext K160) (S_STRING.ext K160) (S_STRING_LIST.ext K160) hval) hZ (hw _ (List.mem_of_getElem? (i := 24) rfl)) (hw _ (List.mem_of_getElem? (i := 23) rfl)) (by decide) (by decide)) (g := (mkF m 71 #[.val (.int p0), .val (.int p1), .val (.int (p0 &&& (7 : Int32))), .val (.int (p1.toInt8.toInt32)), .val .null] [(.int (p1.toInt8.toInt32)), .null])) rfl (by rw [hml]; rfl) (argsL := [(.int (p1.toInt8.toInt32))]) (rest := [.null]) (lenOf pd0_0 rfl) rfl (by show 2 * 0 + _ ≤ _; exact Nat.le_of_eq rfl) (hb hby at_71) (fun _ _ => ⟨rfl, rfl, (by decide : 1 + 0 ≤ _), (by decide : 5 + 0 ≤ _)⟩)
              dsimp only [Pt.U, Pt.locs, Pt.cells, Pt.slots] at X164 l164 y164 z164 st164 hQ164
              subst l164 y164 z164
              obtain ⟨rfl, N164q, e164⟩ := hQ164
              have N164 := Fr.app N158 N164q
              have g165 : Gz p.tables e below A T164 (mkF m 74 #[.val (.int p0), .val (.int p1), .val (.int (p0 &&& (7 : Int32))), .val (.int (p1.toInt8.toInt32)), .val .null] [.null, .null]) := fun tq kq => g163 tq (st164 _ kq)
              have g166 : Gz p.tables e below A T164 (mkF m 77 #[.val (.int p0), .val (.int p1), .val (.int (p0 &&& (7 : Int32))), .val (.int (p1.toInt8.toInt32)), .val .null] []) := fun tq kq => g165 tq (Jvm.RoadKit.acmp (g := (mkF m 74 #[.val (.int p0), .val (.int p1), .val (.int (p0 &&& (7 : Int32))), .val (.int (p1.toInt8.toInt32)), .val .null] [.null, .null])) X164 hx rfl rfl rfl (pc0 := 74) (pc' := 77) (same := true) rfl (hb hby at_74) rfl (decide_eq_true rfl) (by decide) (by decide) kq)
              have g167 : Gz p.tables e below A T164 (mkF m 78 #[.val (.int p0), .val (.int p1), .val (.int (p0 &&& (7 : Int32))), .val (.int (p1.toInt8.toInt32)), .val .null] [(.int (1 : Int32))]) := fun tq kq => g166 tq (XS.iconst X164.here hx rfl (hb hby at_77) kq)
              have g168 : Gz p.tables e below A T164 (mkF m 82 #[.val (.int p0), .val (.int p1), .val (.int (p0 &&& (7 : Int32))), .val (.int (p1.toInt8.toInt32)), .val .null] [(.int (1 : Int32))]) := fun tq kq => g167 tq (XS.goto X164.here hx rfl (pc0 := 78) (pc' := 82) rfl (hb hby at_78) (by decide) (by decide) kq)
              obtain ⟨fs, hr, hrun, hended, hW, hsame⟩ := X164.leave (v := some (.int (1 : Int32))) (fun h => by rw [Bd.returns] at h; cases h)
              refine ⟨_, _, g168 _ (retN X164 hx (t := .boolean) Bd.returns (by simp) (hb hby at_82) hr), hrun, hended, _, _, rfl, ?_, ⟨_, rfl⟩, hW, hsame.mono (by decide) (by decide)⟩
              show Q0 Z p0 p1 a k el h0 n0 _ T164.heap _
              rw [e164]
              exact ⟨rfl, N164⟩

set_option maxRecDepth 65536 in
set_option maxHeartbeats 40000000 in
theorem comes_1 {Post : Tables → Env → Array Value → State → Outcome → State → Prop} (hpost : ∀ tb e args s v u, (limb_1_1.after args s (.returned v) u = true ∧ limb_1_2.after args s (.returned v) u = true ∧ True) → FrameEnd s (.returned v) u (Jvm.fieldLocs frame_1_writes args s ++ Jvm.arrayLocs frame_1_arrays args s ++ Jvm.staticLocs frame_1_statics s) 16 128 → Post tb e args s (.returned v) u) :
    ArmFor flags0 classFile x code maxLocals ret World_1 tables_1 room_1 Calls_1 rest_1 Pre_1 Post := by
  intro l hfl _ _ p e ha hc hk s m args below hf hA hF happ hP
  obtain ⟨hcalls, hrest, hpre⟩ := hP
  obtain ⟨-, -, -, hnamed, -, -, -, hat⟩ := (Spec.applies_iff hf).mp happ
  obtain ⟨hg, hn⟩ := and_e (Cond.before_iff.mp (show (Jvm.Cond.and given_1 narrow_1).before args s = true from hpre))
  obtain ⟨hcnt, hg⟩ := and_e hg
  obtain ⟨ga0, hg⟩ := and_e hg
  have ga1 := hg
  obtain ⟨w0, w1, rfl⟩ : ∃ w0 w1 : Value, args = #[w0, w1] := by
    have hs : args.size = 2 := by simpa [Cond.value, given_1] using hcnt
    obtain ⟨L⟩ := args
    match L, hs with
    | [w0, w1], _ => exact ⟨w0, w1, rfl⟩
  have hw := fun d (hd : d ∈ tables_1) => atoms_spec (ws := Jvm.Cond.code x code maxLocals ret :: tables_1) hat d (List.mem_cons_of_mem _ hd)
  have hfit : Fit s := fun {y c} hc i hi => by
    obtain ⟨ha, rfl⟩ := Array.getElem?_eq_some_iff.mp hc
    have q := List.all_eq_true.mp ((Array.all_eq_true_iff_forall_mem.mp hF) _ (Array.getElem_mem ha)) i (List.mem_range.mpr hi)
    simpa [Array.getElem?_eq_getElem hi] using q
  obtain ⟨i0, ei0⟩ := is_v ga0
  obtain rfl : w0 = (.int i0) := Option.some.inj ei0
  obtain ⟨i1, ei1⟩ := is_v ga1
  obtain rfl : w1 = (.int i1) := Option.some.inj ei1
  obtain ⟨c0, hn⟩ := and_e hn
  obtain ⟨c1, hn⟩ := and_e hn
  obtain ⟨c2, hn⟩ := and_e hn
  obtain ⟨c3, hn⟩ := and_e hn
  obtain ⟨c4, hn⟩ := and_e hn
  obtain ⟨c5, hn⟩ := and_e hn
  obtain ⟨c6, hn⟩ := and_e hn
  obtain ⟨c7, hn⟩ := and_e hn
  obtain ⟨c8, hn⟩ := and_e hn
  obtain ⟨c9, hn⟩ := and_e hn
  obtain ⟨c10, hn⟩ := and_e hn
  obtain ⟨c11, hn⟩ := and_e hn
  obtain ⟨c12, hn⟩ := and_e hn
  obtain ⟨c13, hn⟩ := and_e hn
  obtain ⟨c14, hn⟩ := and_e hn
  obtain ⟨c15, hn⟩ := and_e hn
  obtain ⟨c16, hn⟩ := and_e hn
  have c17 := hn
  obtain ⟨w__VALUES, ev__VALUES⟩ := exa_v c1
  have E__VALUES := Exa.start ev__VALUES c1
  have S__VALUES : Sta s s.heap "com/example/statecraft/statecraft/preferences/ValueKind" "$VALUES" "[Lcom/example/statecraft/statecraft/preferences/ValueKind;" (.ref w__VALUES) := Sta.start ev__VALUES (Or.inr ⟨(hw _ (List.mem_of_getElem? (i := 2) rfl)), (hw _ (List.mem_of_getElem? (i := 8) rfl))⟩)
  obtain ⟨cl, A0⟩ := Arr.start ev__VALUES c0
  have hat0 := Arr.fin (Vm.Alike.refl _) A0
  obtain ⟨hsz, hlen⟩ := own_len (own_eqI c2) ev__VALUES hat0
  obtain ⟨e0, ee0⟩ := exa_v c3
  have at0 := (elem_in ee0 ev__VALUES (Term.int_eval 0) A0.1).2
  have F0 := own_fldI c8 ee0
  have S_INT : Sta s s.heap "com/example/statecraft/statecraft/preferences/ValueKind" "INT" "Lcom/example/statecraft/statecraft/preferences/ValueKind;" (.ref e0) := Sta.start (own_eqRef c9 ee0) (Or.inr ⟨(hw _ (List.mem_of_getElem? (i := 2) rfl)), (hw _ (List.mem_of_getElem? (i := 26) rfl))⟩)
  obtain ⟨e1, ee1⟩ := exa_v c4
  have at1 := (elem_in ee1 ev__VALUES (Term.int_eval 1) A0.1).2
  have F1 := own_fldI c10 ee1
  have S_DOUBLE : Sta s s.heap "com/example/statecraft/statecraft/preferences/ValueKind" "DOUBLE" "Lcom/example/statecraft/statecraft/preferences/ValueKind;" (.ref e1) := Sta.start (own_eqRef c16 ee1) (Or.inr ⟨(hw _ (List.mem_of_getElem? (i := 2) rfl)), (hw _ (List.mem_of_getElem? (i := 36) rfl))⟩)
  obtain ⟨e2, ee2⟩ := exa_v c5
  have at2 := (elem_in ee2 ev__VALUES (Term.int_eval 2) A0.1).2
  have F2 := own_fldI c11 ee2
  have S_BOOLEAN : Sta s s.heap "com/example/statecraft/statecraft/preferences/ValueKind" "BOOLEAN" "Lcom/example/statecraft/statecraft/preferences/ValueKind;" (.ref e2) := Sta.start (own_eqRef c17 ee2) (Or.inr ⟨(hw _ (List.mem_of_getElem? (i := 2) rfl)), (hw _ (List.mem_of_getElem? (i := 38) rfl))⟩)
  obtain ⟨e3, ee3⟩ := exa_v c6
  have at3 := (elem_in ee3 ev__VALUES (Term.int_eval 3) A0.1).2
  have F3 := own_fldI c12 ee3
  have S_STRING : Sta s s.heap "com/example/statecraft/statecraft/preferences/ValueKind" "STRING" "Lcom/example/statecraft/statecraft/preferences/ValueKind;" (.ref e3) := Sta.start (own_eqRef c15 ee3) (Or.inr ⟨(hw _ (List.mem_of_getElem? (i := 2) rfl)), (hw _ (List.mem_of_getElem? (i := 34) rfl))⟩)
  obtain ⟨e4, ee4⟩ := exa_v c7
  have at4 := (elem_in ee4 ev__VALUES (Term.int_eval 4) A0.1).2
  have F4 := own_fldI c13 ee4
  have S_STRING_LIST : Sta s s.heap "com/example/statecraft/statecraft/preferences/ValueKind" "STRING_LIST" "Lcom/example/statecraft/statecraft/preferences/ValueKind;" (.ref e4) := Sta.start (own_eqRef c14 ee4) (Or.inr ⟨(hw _ (List.mem_of_getElem? (i := 2) rfl)), (hw _ (List.mem_of_getElem? (i := 32) rfl))⟩)
  have V0 : Arv s s.heap w__VALUES cl.cls (.object "com/example/statecraft/statecraft/preferences/ValueKind") (5 : Int32) [.ref e0, .ref e1, .ref e2, .ref e3, .ref e4] .null := Arv.start hfit A0 hsz hlen (by decide) rfl ⟨at0, at1, at2, at3, at4, trivial⟩
  obtain ⟨n, o, h1, h2, h3, _, L, rfl, ⟨rfl, N⟩, hq⟩ := rm0 l s _ hw tables_1 i0 i1 w__VALUES _ (fun k => [e0, e1, e2, e3, e4].getD k 0) s.heap s.heap.size (Nat.le_refl _) S__VALUES V0 E__VALUES F0 F1 F2 F3 F4 S_INT S_DOUBLE S_BOOLEAN S_STRING S_STRING_LIST p e ha hc hk s m _ below hf ((Spec.applies_iff_loose hf).mp happ).1 ⟨rfl, State.Warmed39.refl s, rfl⟩ trivial
  refine ⟨n, _, h1, h2, h3, hpost _ _ _ _ _ _ ⟨Cond.after_iff.mpr rfl, Cond.after_iff.mpr (eq_i res_at (Term.int_eval (1)) rfl), trivial⟩ ⟨hq.1, hq.2.1, (hq.2.2.sift fun y hy => Or.inr (N y hy)).mono (by decide) (by decide)⟩⟩
theorem main_1_1 : Claimed_1_1 := comes_1 fun _ _ _ _ _ _ h hF => ⟨h.1, hF⟩
theorem main_1_2 : Claimed_1_2 := comes_1 fun _ _ _ _ _ _ h hF => ⟨h.2.1, hF⟩
end Jvm.Pilot.@@N@@
namespace Jvm.Pilot.@@N@@
open Jvm Jvm.ClassFile Sem Op Lib Jvm.Free Jvm.Stand Jvm.Pilot.@@N@@.Jvm.D
/-! MADE BY PROGRAM (witnessworld.py) out of the Statement's table words and the real class files: 18 classes; the members and pool entries that the words name. The judged class is class 1, her method 1. -/
namespace start1
open Jvm.ClassFile
def u (s : String) : CpInfo := .utf8 (stringToUtf16 s)
/-- a pool by its gaps: so many unusable entries, then the entry; so many at the end -/
def gap : Nat → List CpInfo → List CpInfo
  | 0, r => r
  | n + 1, r => .unusable :: gap n r
def poolList (es : List (Nat × CpInfo)) (last : Nat) : List CpInfo := es.foldr (fun e r => gap e.1 (e.2 :: r)) (gap last [])
def pool (es : List (Nat × CpInfo)) (last : Nat) : Array CpInfo := ⟨poolList es last⟩
def fileOf (pool : Array CpInfo) (this : Nat) (attrs : Array Attribute := #[]) (ms : Array MethodInfo := #[]) (fl : Nat := 33) (sup : Nat := 0) (ifs : Array Nat := #[]) (fds : Array FieldInfo := #[]) : ClassFile where
  minorVersion := 0
  majorVersion := 65
  constantPool := pool
  accessFlags := fl
  thisClass := this
  superClass := sup
  interfaces := ifs
  fields := fds
  methods := ms
  attributes := attrs
def plain (name : String) (sup : Option ClassId) : Class where
  name := name
  kind := .ordinary
  loader := none
  accessFlags := 33
  super := sup
  interfaces := #[]
  cf := none
  fields := #[]
  methods := #[]
  instanceTypes := #[]
  staticTypes := #[]
  resolved := #[]
  callSites := []
  init := .initialized
  statics := none
  mirror := none

def pool0 : Array CpInfo := pool [(5, u "<init>"), (0, u "()V"), (1, .class_ 10), (1, u "java/lang/Object"), (85, u "clone"), (0, u "()Ljava/lang/Object;")] 26

def k0m0 : Method := { name := "<init>", desc := "()V", sig := { parameters := [], returnType := none }, accessFlags := 1, code := none }
def k0m1 : Method := { name := "clone", desc := "()Ljava/lang/Object;", sig := { parameters := [], returnType := some (.object "java/lang/Object") }, accessFlags := 260, code := none }
/-- java/lang/Object -/
def k0 : Class := { plain "java/lang/Object" none with
  accessFlags := 33
  interfaces := #[]
  cf := some (fileOf pool0 8 #[] #[{ accessFlags := 1, nameIndex := 5, descriptorIndex := 6, attributes := #[] }, { accessFlags := 260, nameIndex := 96, descriptorIndex := 97, attributes := #[] }] 33 0 #[] #[])
  fields := #[]
  methods := #[k0m0, k0m1]
  instanceTypes := #[]
  staticTypes := #[]
  resolved := Array.replicate 124 none
  statics := none }

def pool1 : Array CpInfo := pool [(2, .class_ 4), (1, u "java/lang/Object"), (0, u "<init>"), (0, u "()V"), (0, .methodref 8 9), (0, .class_ 10), (0, .nameAndType 11 12), (0, u "com/example/statecraft/statecraft/preferences/ValueKind"), (0, u "ofTag"), (0, u "(B)Lcom/example/statecraft/statecraft/preferences/ValueKind;"), (0, .methodref 14 15), (0, .class_ 16), (0, .nameAndType 17 12), (0, u "com/example/statecraft/statecraft/preferences/ValueKindOfTagPinLaw"), (0, u "expected"), (0, .fieldref 8 19), (0, .nameAndType 20 21), (0, u "INT"), (0, u "Lcom/example/statecraft/statecraft/preferences/ValueKind;"), (0, .fieldref 8 23), (0, .nameAndType 24 21), (0, u "DOUBLE"), (0, .fieldref 8 26), (0, .nameAndType 27 21), (0, u "BOOLEAN"), (0, .fieldref 8 29), (0, .nameAndType 30 21), (0, u "STRING"), (0, .fieldref 8 32), (0, .nameAndType 33 21), (0, u "STRING_LIST"), (2, u "law"), (0, u "(II)Z")] 3

def k1m0 : Method := { name := "<init>", desc := "()V", sig := { parameters := [], returnType := none }, accessFlags := 2, code := none }
def k1c1 : Code := { maxStack := 2, maxLocals := 5, code := code, exceptionTable := #[], attributes := #[] }
def k1m1 : Method := { name := "law", desc := "(II)Z", sig := { parameters := [.int, .int], returnType := some .boolean }, accessFlags := 9, code := some k1c1 }
def k1c2 : Code := { maxStack := 2, maxLocals := 1, code := method_3_code, exceptionTable := #[], attributes := #[] }
def k1m2 : Method := { name := "expected", desc := "(B)Lcom/example/statecraft/statecraft/preferences/ValueKind;", sig := { parameters := [.byte], returnType := some (.object "com/example/statecraft/statecraft/preferences/ValueKind") }, accessFlags := 10, code := some k1c2 }
/-- com/example/statecraft/statecraft/preferences/ValueKindOfTagPinLaw -/
def k1 : Class := { plain "com/example/statecraft/statecraft/preferences/ValueKindOfTagPinLaw" (some 0) with
  accessFlags := 49
  interfaces := #[]
  cf := some (fileOf pool1 14 #[] #[{ accessFlags := 2, nameIndex := 5, descriptorIndex := 6, attributes := #[] }, { accessFlags := 9, nameIndex := 36, descriptorIndex := 37, attributes := #[] }, { accessFlags := 10, nameIndex := 17, descriptorIndex := 12, attributes := #[] }] 49 2 #[] #[])
  fields := #[]
  methods := #[k1m0, k1m1, k1m2]
  instanceTypes := #[]
  staticTypes := #[]
  resolved := Array.replicate 41 none
  statics := none }

def pool2 : Array CpInfo := pool [(1, .class_ 2), (0, u "java/lang/constant/Constable"), (0, .class_ 4), (0, u "java/lang/Object")] 6

/-- java/lang/constant/Constable -/
def k2 : Class := { plain "java/lang/constant/Constable" (some 0) with
  accessFlags := 1537
  interfaces := #[]
  cf := some (fileOf pool2 1 #[] #[] 1537 3 #[] #[])
  fields := #[]
  methods := #[]
  instanceTypes := #[]
  staticTypes := #[]
  resolved := Array.replicate 11 none
  statics := none }

def pool3 : Array CpInfo := pool [(1, .class_ 2), (0, u "java/lang/Comparable"), (0, .class_ 4), (0, u "java/lang/Object")] 7

/-- java/lang/Comparable -/
def k3 : Class := { plain "java/lang/Comparable" (some 0) with
  accessFlags := 1537
  interfaces := #[]
  cf := some (fileOf pool3 1 #[] #[] 1537 3 #[] #[])
  fields := #[]
  methods := #[]
  instanceTypes := #[]
  staticTypes := #[]
  resolved := Array.replicate 12 none
  statics := none }

def pool4 : Array CpInfo := pool [(1, .class_ 2), (0, u "java/io/Serializable"), (0, .class_ 4), (0, u "java/lang/Object")] 2

/-- java/io/Serializable -/
def k4 : Class := { plain "java/io/Serializable" (some 0) with
  accessFlags := 1537
  interfaces := #[]
  cf := some (fileOf pool4 1 #[] #[] 1537 3 #[] #[])
  fields := #[]
  methods := #[]
  instanceTypes := #[]
  staticTypes := #[]
  resolved := Array.replicate 7 none
  statics := none }

def pool5 : Array CpInfo := pool [(2, .class_ 4), (1, u "java/lang/Enum"), (0, u "name"), (0, u "Ljava/lang/String;"), (2, u "ordinal"), (0, u "I"), (1, .class_ 14), (1, u "java/lang/Object"), (4, u "hash"), (86, .class_ 108), (1, u "java/lang/Enum$EnumDesc"), (2, .class_ 112), (0, u "java/lang/constant/Constable"), (0, .class_ 114), (0, u "java/lang/Comparable"), (0, .class_ 116), (0, u "java/io/Serializable")] 87

/-- java/lang/Enum -/
def k5 : Class := { plain "java/lang/Enum" (some 0) with
  accessFlags := 1057
  interfaces := #[2, 3, 4]
  cf := some (fileOf pool5 2 #[.nestMembers #[106]] #[] 1057 12 #[111, 113, 115] #[{ accessFlags := 18, nameIndex := 5, descriptorIndex := 6, attributes := #[] }, { accessFlags := 18, nameIndex := 9, descriptorIndex := 10, attributes := #[] }, { accessFlags := 2, nameIndex := 19, descriptorIndex := 10, attributes := #[] }])
  fields := #[{ name := "name", type := (.object "java/lang/String"), accessFlags := 18, slot := 0, constantValue := 0 }, { name := "ordinal", type := .int, accessFlags := 18, slot := 1, constantValue := 0 }, { name := "hash", type := .int, accessFlags := 2, slot := 2, constantValue := 0 }]
  methods := #[]
  instanceTypes := #[(.object "java/lang/String"), .int, .int]
  staticTypes := #[]
  resolved := Array.replicate 204 none
  statics := none }

def pool6 : Array CpInfo := pool [(1, .class_ 2), (0, u "com/example/statecraft/statecraft/preferences/ValueKind"), (2, u "INT"), (0, u "Lcom/example/statecraft/statecraft/preferences/ValueKind;"), (2, u "DOUBLE"), (2, u "BOOLEAN"), (2, u "STRING"), (2, u "STRING_LIST"), (0, .fieldref 1 20), (0, .nameAndType 21 22), (0, u "$VALUES"), (0, u "[Lcom/example/statecraft/statecraft/preferences/ValueKind;"), (0, .methodref 24 25), (0, .class_ 22), (0, .nameAndType 26 27), (0, u "clone"), (0, u "()Ljava/lang/Object;"), (1, .class_ 31), (1, u "java/lang/Enum"), (6, .fieldref 1 39), (0, .nameAndType 40 41), (0, u "tag"), (0, u "B"), (2, u "type"), (0, u "Ljava/lang/Class;"), (2, u "description"), (0, u "Ljava/lang/String;"), (0, .methodref 1 51), (0, .nameAndType 52 53), (0, u "values"), (0, u "()[Lcom/example/statecraft/statecraft/preferences/ValueKind;"), (26, .class_ 81), (0, u "com/example/statecraft/statecraft/preferences/ValueKind$1"), (8, .class_ 91), (0, u "com/example/statecraft/statecraft/preferences/ValueKind$2"), (6, .class_ 99), (0, u "com/example/statecraft/statecraft/preferences/ValueKind$3"), (6, .class_ 107), (0, u "com/example/statecraft/statecraft/preferences/ValueKind$4"), (4, .class_ 113), (0, u "com/example/statecraft/statecraft/preferences/ValueKind$5"), (26, u "ofTag"), (0, u "(B)Lcom/example/statecraft/statecraft/preferences/ValueKind;")] 27

def k6c0 : Code := { maxStack := 1, maxLocals := 0, code := prog_28_method_1_code, exceptionTable := #[], attributes := #[] }
def k6m0 : Method := { name := "values", desc := "()[Lcom/example/statecraft/statecraft/preferences/ValueKind;", sig := { parameters := [], returnType := some (.array (.object "com/example/statecraft/statecraft/preferences/ValueKind")) }, accessFlags := 9, code := some k6c0 }
def k6c1 : Code := { maxStack := 2, maxLocals := 5, code := prog_28_method_7_code, exceptionTable := #[], attributes := #[] }
def k6m1 : Method := { name := "ofTag", desc := "(B)Lcom/example/statecraft/statecraft/preferences/ValueKind;", sig := { parameters := [.byte], returnType := some (.object "com/example/statecraft/statecraft/preferences/ValueKind") }, accessFlags := 8, code := some k6c1 }
/-- com/example/statecraft/statecraft/preferences/ValueKind -/
def k6 : Class := { plain "com/example/statecraft/statecraft/preferences/ValueKind" (some 5) with
  accessFlags := 17440
  interfaces := #[]
  cf := some (fileOf pool6 1 #[.nestMembers #[112, 106, 98, 90, 80]] #[{ accessFlags := 9, nameIndex := 52, descriptorIndex := 53, attributes := #[] }, { accessFlags := 8, nameIndex := 140, descriptorIndex := 141, attributes := #[] }] 17440 29 #[] #[{ accessFlags := 16409, nameIndex := 5, descriptorIndex := 6, attributes := #[] }, { accessFlags := 16409, nameIndex := 9, descriptorIndex := 6, attributes := #[] }, { accessFlags := 16409, nameIndex := 12, descriptorIndex := 6, attributes := #[] }, { accessFlags := 16409, nameIndex := 15, descriptorIndex := 6, attributes := #[] }, { accessFlags := 16409, nameIndex := 18, descriptorIndex := 6, attributes := #[] }, { accessFlags := 16, nameIndex := 40, descriptorIndex := 41, attributes := #[] }, { accessFlags := 16, nameIndex := 44, descriptorIndex := 45, attributes := #[] }, { accessFlags := 16, nameIndex := 48, descriptorIndex := 49, attributes := #[] }, { accessFlags := 4122, nameIndex := 21, descriptorIndex := 22, attributes := #[] }])
  fields := #[{ name := "INT", type := (.object "com/example/statecraft/statecraft/preferences/ValueKind"), accessFlags := 16409, slot := 0, constantValue := 0 }, { name := "DOUBLE", type := (.object "com/example/statecraft/statecraft/preferences/ValueKind"), accessFlags := 16409, slot := 1, constantValue := 0 }, { name := "BOOLEAN", type := (.object "com/example/statecraft/statecraft/preferences/ValueKind"), accessFlags := 16409, slot := 2, constantValue := 0 }, { name := "STRING", type := (.object "com/example/statecraft/statecraft/preferences/ValueKind"), accessFlags := 16409, slot := 3, constantValue := 0 }, { name := "STRING_LIST", type := (.object "com/example/statecraft/statecraft/preferences/ValueKind"), accessFlags := 16409, slot := 4, constantValue := 0 }, { name := "tag", type := .byte, accessFlags := 16, slot := 3, constantValue := 0 }, { name := "type", type := (.object "java/lang/Class"), accessFlags := 16, slot := 4, constantValue := 0 }, { name := "description", type := (.object "java/lang/String"), accessFlags := 16, slot := 5, constantValue := 0 }, { name := "$VALUES", type := (.array (.object "com/example/statecraft/statecraft/preferences/ValueKind")), accessFlags := 4122, slot := 5, constantValue := 0 }]
  methods := #[k6m0, k6m1]
  instanceTypes := #[(.object "java/lang/String"), .int, .int, .byte, (.object "java/lang/Class"), (.object "java/lang/String")]
  staticTypes := #[(.object "com/example/statecraft/statecraft/preferences/ValueKind"), (.object "com/example/statecraft/statecraft/preferences/ValueKind"), (.object "com/example/statecraft/statecraft/preferences/ValueKind"), (.object "com/example/statecraft/statecraft/preferences/ValueKind"), (.object "com/example/statecraft/statecraft/preferences/ValueKind"), (.array (.object "com/example/statecraft/statecraft/preferences/ValueKind"))]
  resolved := Array.replicate 169 none
  statics := some 0 }

def pool7 : Array CpInfo := pool [(1, .class_ 2), (0, u "java/lang/Cloneable"), (0, .class_ 4), (0, u "java/lang/Object")] 2

/-- java/lang/Cloneable -/
def k7 : Class := { plain "java/lang/Cloneable" (some 0) with
  accessFlags := 1537
  interfaces := #[]
  cf := some (fileOf pool7 1 #[] #[] 1537 3 #[] #[])
  fields := #[]
  methods := #[]
  instanceTypes := #[]
  staticTypes := #[]
  resolved := Array.replicate 7 none
  statics := none }

def pool8 : Array CpInfo := pool [(2, .class_ 4), (1, u "com/example/statecraft/statecraft/preferences/ValueKind"), (23, .class_ 29), (0, u "com/example/statecraft/statecraft/preferences/ValueKind$1")] 18

/-- com/example/statecraft/statecraft/preferences/ValueKind$1 -/
def k8 : Class := { plain "com/example/statecraft/statecraft/preferences/ValueKind$1" (some 6) with
  accessFlags := 16432
  interfaces := #[]
  cf := some (fileOf pool8 28 #[.nestHost 2] #[] 16432 2 #[] #[])
  fields := #[]
  methods := #[]
  instanceTypes := #[(.object "java/lang/String"), .int, .int, .byte, (.object "java/lang/Class"), (.object "java/lang/String")]
  staticTypes := #[]
  resolved := Array.replicate 48 none
  statics := none }

def pool9 : Array CpInfo := pool [(2, .class_ 4), (1, u "com/example/statecraft/statecraft/preferences/ValueKind"), (32, .class_ 38), (0, u "com/example/statecraft/statecraft/preferences/ValueKind$2")] 18

/-- com/example/statecraft/statecraft/preferences/ValueKind$2 -/
def k9 : Class := { plain "com/example/statecraft/statecraft/preferences/ValueKind$2" (some 6) with
  accessFlags := 16432
  interfaces := #[]
  cf := some (fileOf pool9 37 #[.nestHost 2] #[] 16432 2 #[] #[])
  fields := #[]
  methods := #[]
  instanceTypes := #[(.object "java/lang/String"), .int, .int, .byte, (.object "java/lang/Class"), (.object "java/lang/String")]
  staticTypes := #[]
  resolved := Array.replicate 57 none
  statics := none }

def pool10 : Array CpInfo := pool [(2, .class_ 4), (1, u "com/example/statecraft/statecraft/preferences/ValueKind"), (32, .class_ 38), (0, u "com/example/statecraft/statecraft/preferences/ValueKind$3")] 35

/-- com/example/statecraft/statecraft/preferences/ValueKind$3 -/
def k10 : Class := { plain "com/example/statecraft/statecraft/preferences/ValueKind$3" (some 6) with
  accessFlags := 16432
  interfaces := #[]
  cf := some (fileOf pool10 37 #[.nestHost 2] #[] 16432 2 #[] #[])
  fields := #[]
  methods := #[]
  instanceTypes := #[(.object "java/lang/String"), .int, .int, .byte, (.object "java/lang/Class"), (.object "java/lang/String")]
  staticTypes := #[]
  resolved := Array.replicate 74 none
  statics := none }

def pool11 : Array CpInfo := pool [(2, .class_ 4), (1, u "com/example/statecraft/statecraft/preferences/ValueKind"), (16, .class_ 22), (0, u "com/example/statecraft/statecraft/preferences/ValueKind$4")] 16

/-- com/example/statecraft/statecraft/preferences/ValueKind$4 -/
def k11 : Class := { plain "com/example/statecraft/statecraft/preferences/ValueKind$4" (some 6) with
  accessFlags := 16432
  interfaces := #[]
  cf := some (fileOf pool11 21 #[.nestHost 2] #[] 16432 2 #[] #[])
  fields := #[]
  methods := #[]
  instanceTypes := #[(.object "java/lang/String"), .int, .int, .byte, (.object "java/lang/Class"), (.object "java/lang/String")]
  staticTypes := #[]
  resolved := Array.replicate 39 none
  statics := none }

def pool12 : Array CpInfo := pool [(2, .class_ 4), (1, u "com/example/statecraft/statecraft/preferences/ValueKind"), (58, .class_ 64), (0, u "com/example/statecraft/statecraft/preferences/ValueKind$5")] 17

/-- com/example/statecraft/statecraft/preferences/ValueKind$5 -/
def k12 : Class := { plain "com/example/statecraft/statecraft/preferences/ValueKind$5" (some 6) with
  accessFlags := 16432
  interfaces := #[]
  cf := some (fileOf pool12 63 #[.nestHost 2] #[] 16432 2 #[] #[])
  fields := #[]
  methods := #[]
  instanceTypes := #[(.object "java/lang/String"), .int, .int, .byte, (.object "java/lang/Class"), (.object "java/lang/String")]
  staticTypes := #[]
  resolved := Array.replicate 82 none
  statics := none }

/-- the primitive byte -/
def k13 : Class := { plain "byte" none with kind := .primitive 'B', accessFlags := 0x411 }
/-- [B -/
def k14 : Class := { plain "[B" (some 0) with kind := .array 13 .byte, interfaces := #[7, 4], accessFlags := 1041 }

/-- the primitive int -/
def k15 : Class := { plain "int" none with kind := .primitive 'I', accessFlags := 0x411 }
/-- [I -/
def k16 : Class := { plain "[I" (some 0) with kind := .array 15 .int, interfaces := #[7, 4], accessFlags := 1041 }

/-- [Lcom/example/statecraft/statecraft/preferences/ValueKind; -/
def k17 : Class := { plain "[Lcom/example/statecraft/statecraft/preferences/ValueKind;" (some 0) with kind := .array 6 (.object "com/example/statecraft/statecraft/preferences/ValueKind"), interfaces := #[7, 4], accessFlags := 1041 }

def heap : Heap := #[{ cls := 6, slots := #[.ref 2, .ref 3, .ref 4, .ref 5, .ref 6, .ref 1], vm := .statics 6 },
  { cls := 17, slots := #[.ref 2, .ref 3, .ref 4, .ref 5, .ref 6], vm := .none },
  { cls := 8, slots := #[.null, .int 0, .int 0, .int 73, .null, .null], vm := .none },
  { cls := 9, slots := #[.null, .int 1, .int 0, .int 68, .null, .null], vm := .none },
  { cls := 10, slots := #[.null, .int 2, .int 0, .int 66, .null, .null], vm := .none },
  { cls := 11, slots := #[.null, .int 3, .int 0, .int 83, .null, .null], vm := .none },
  { cls := 12, slots := #[.null, .int 4, .int 0, .int 76, .null, .null], vm := .none }]
def classes : Array Class := #[k0, k1, k2, k3, k4, k5, k6, k7, k8, k9, k10, k11, k12, k13, k14, k15, k16, k17]
def interned : List (Array UInt16 × Addr) := []
def slotsUsed : Nat := 41
def theMethod : MethodId := ⟨1, 1⟩
def args0 : Array Value := #[.int 5, .int 7]
def aboutOver (below : List Frame) : State where
  vm := { classes := classes, interned := interned.toArray }
  heap := heap
  slotsUsed := slotsUsed
  threads := #[{ frames := .invoking theMethod args0 :: below }]
def below0 : List Frame := [.native { method := ⟨0, 0⟩, args := #[] }]
def about1 : State := aboutOver below0
def p0 : Program := .bare "" "" ""
def e0 : Env := launch0.env 0 0 0
theorem w_frames : about1.frames = Frame.invoking theMethod args0 :: below0 := rfl
set_option maxRecDepth 65536 in
theorem w_args : argsFit about1.vm theMethod args0 = true := by decide +kernel
set_option maxRecDepth 65536 in
theorem w_heap : heapFits about1 = true := by decide +kernel
set_option maxRecDepth 65536 in
theorem w_runnable : about1.curStatus? = some .runnable := by decide +kernel
set_option maxRecDepth 65536 in
theorem w_alone : about1.alone = true := by decide +kernel
set_option maxRecDepth 65536 in
theorem w_named : about1.methodNamed? x = some theMethod := by decide +kernel
set_option maxRecDepth 65536 in
theorem w_hears : about1.hears theMethod below0 = true := by decide +kernel
set_option maxRecDepth 65536 in
theorem w_ripe : about1.ripe theMethod args0 below0 = true := by decide +kernel
theorem w_running : about1.status = .running := rfl
set_option maxRecDepth 65536 in
theorem w_room : about1.hasRoom e0.platform room_1 = true :=
  launch0.hasRoom_least _ room_1 (by decide +kernel) (by decide +kernel) (by decide +kernel) (by decide +kernel) (by decide +kernel) (by decide +kernel)
theorem allAtoms_all (ts : List Jvm.Cond) (a : Array Jvm.Value) (st : Jvm.State) : (allAtoms ts).before a st = ts.all (fun c => c.before a st) := by
  induction ts with
  | nil => rfl
  | cons c t ih =>
    show (Jvm.Cond.and c (allAtoms t)).before a st = _
    rw [Jvm.Cond.before_and, ih, List.all_cons]
def words1 : List Jvm.Cond := Jvm.Cond.code x code maxLocals ret :: tables_1
/-- a 'code' word, met by the world's own term for the bytes: nothing is compared byte by byte -/
theorem code_word {y : MethodName} {bytes : ByteArray} {mx : Nat} {rt : Option FieldType} {a : Array Value} {s : State} {m : MethodId} {meth : Method} {c : Code} (h1 : s.methodNamed? y = some m) (h2 : s.vm.method? m = some meth) (h3 : meth.code = some c) (h4 : c.code = bytes)
    (h5 : (c.maxLocals == mx && c.exceptionTable.isEmpty && decide (c.maxStack ≤ mostOperands) && decide (meth.sig.returnType = rt) && !meth.locks && decide (parseMethodDescriptor y.desc = some meth.sig)) = true) : (Jvm.Cond.code y bytes mx rt).before a s = true := by
  simp only [Bool.and_eq_true, beq_iff_eq, Bool.not_eq_true', decide_eq_true_eq] at h5
  obtain ⟨⟨⟨⟨⟨g1, g2⟩, g3⟩, g4⟩, g5⟩, g6⟩ := h5
  simp [Cond.before, Cond.holds, Cond.value, h1, h2, h3, h4, g1, g2, g3, g4, g5, g6]
def isCode : Jvm.Cond → Bool
  | .code _ _ _ _ => true
  | _ => false
theorem all_split {L : List Jvm.Cond} {P : Jvm.Cond → Bool} (h1 : L.all (fun c => isCode c || P c) = true) (h2 : ∀ c ∈ L.filter isCode, P c = true) : L.all P = true := by
  refine List.all_eq_true.mpr fun c hc => ?_
  have h := List.all_eq_true.mp h1 c hc
  rcases Bool.eq_false_or_eq_true (isCode c) with hi | hi
  · exact h2 c (List.mem_filter.mpr ⟨hc, hi⟩)
  · simpa [hi] using h
set_option maxRecDepth 65536 in
theorem w_c0 : (Jvm.Cond.code x code maxLocals ret).before args0 about1 = true := code_word (m := ⟨1, 1⟩) (meth := k1m1) (c := k1c1) (by decide +kernel) rfl rfl rfl (by decide +kernel)
set_option maxRecDepth 65536 in
theorem w_c1 : (Jvm.Cond.code ({ cls := "com/example/statecraft/statecraft/preferences/ValueKind", name := "ofTag", desc := "(B)Lcom/example/statecraft/statecraft/preferences/ValueKind;" } : Jvm.MethodName) prog_28_method_7_code (5 : Nat) (Option.some (Jvm.ClassFile.FieldType.object "com/example/statecraft/statecraft/preferences/ValueKind"))).before args0 about1 = true := code_word (m := ⟨6, 1⟩) (meth := k6m1) (c := k6c1) (by decide +kernel) rfl rfl rfl (by decide +kernel)
set_option maxRecDepth 65536 in
theorem w_c2 : (Jvm.Cond.code ({ cls := "com/example/statecraft/statecraft/preferences/ValueKind", name := "values", desc := "()[Lcom/example/statecraft/statecraft/preferences/ValueKind;" } : Jvm.MethodName) prog_28_method_1_code (0 : Nat) (Option.some (Jvm.ClassFile.FieldType.array (Jvm.ClassFile.FieldType.object "com/example/statecraft/statecraft/preferences/ValueKind")))).before args0 about1 = true := code_word (m := ⟨6, 0⟩) (meth := k6m0) (c := k6c0) (by decide +kernel) rfl rfl rfl (by decide +kernel)
set_option maxRecDepth 65536 in
theorem w_c3 : (Jvm.Cond.code ({ cls := "com/example/statecraft/statecraft/preferences/ValueKindOfTagPinLaw", name := "expected", desc := "(B)Lcom/example/statecraft/statecraft/preferences/ValueKind;" } : Jvm.MethodName) method_3_code (1 : Nat) (Option.some (Jvm.ClassFile.FieldType.object "com/example/statecraft/statecraft/preferences/ValueKind"))).before args0 about1 = true := code_word (m := ⟨1, 2⟩) (meth := k1m2) (c := k1c2) (by decide +kernel) rfl rfl rfl (by decide +kernel)
def codes1 : List Jvm.Cond := [Jvm.Cond.code x code maxLocals ret, Jvm.Cond.code ({ cls := "com/example/statecraft/statecraft/preferences/ValueKind", name := "ofTag", desc := "(B)Lcom/example/statecraft/statecraft/preferences/ValueKind;" } : Jvm.MethodName) prog_28_method_7_code (5 : Nat) (Option.some (Jvm.ClassFile.FieldType.object "com/example/statecraft/statecraft/preferences/ValueKind")), Jvm.Cond.code ({ cls := "com/example/statecraft/statecraft/preferences/ValueKind", name := "values", desc := "()[Lcom/example/statecraft/statecraft/preferences/ValueKind;" } : Jvm.MethodName) prog_28_method_1_code (0 : Nat) (Option.some (Jvm.ClassFile.FieldType.array (Jvm.ClassFile.FieldType.object "com/example/statecraft/statecraft/preferences/ValueKind"))), Jvm.Cond.code ({ cls := "com/example/statecraft/statecraft/preferences/ValueKindOfTagPinLaw", name := "expected", desc := "(B)Lcom/example/statecraft/statecraft/preferences/ValueKind;" } : Jvm.MethodName) method_3_code (1 : Nat) (Option.some (Jvm.ClassFile.FieldType.object "com/example/statecraft/statecraft/preferences/ValueKind"))]
set_option maxRecDepth 65536 in
theorem codes_eq : words1.filter isCode = codes1 := rfl
theorem w_codes : ∀ c ∈ words1.filter isCode, c.before args0 about1 = true := by
  rw [codes_eq]
  intro c hc
  simp only [codes1, List.mem_cons, List.not_mem_nil, or_false] at hc
  rcases hc with rfl | rfl | rfl | rfl
  · exact w_c0
  · exact w_c1
  · exact w_c2
  · exact w_c3
set_option maxRecDepth 65536 in
theorem w_t1 : (words1.take 24).all (fun c => isCode c || c.before args0 about1) = true := by decide +kernel
set_option maxRecDepth 65536 in
theorem w_t2 : (words1.drop 24).all (fun c => isCode c || c.before args0 about1) = true := by decide +kernel
theorem w_tables : (allAtoms (Jvm.Cond.code x code maxLocals ret :: tables_1)).before args0 about1 = true := by
  rw [allAtoms_all]
  show words1.all (fun c => c.before args0 about1) = true
  refine all_split ?_ w_codes
  rw [← List.take_append_drop 24 words1, List.all_append, w_t1, w_t2]
  rfl
set_option maxRecDepth 65536 in
theorem w_case : (Jvm.Cond.and given_1 narrow_1).before args0 about1 = true := by decide +kernel
theorem w_applies : (headSpec (Jvm.Cond.code x code maxLocals ret :: tables_1) room_1).applies x e0.platform about1 = true :=
  (Spec.applies_iff w_frames).mpr ⟨w_running, w_runnable, w_alone, w_named, w_hears, w_ripe, w_room, w_tables⟩
theorem atStart : AtStart classFile x code maxLocals ret World_1 tables_1 room_1 Calls_1 rest_1 Pre_1 launch0 p0 e0 about1 theMethod args0 below0 :=
  ⟨lists_1, trivial, launch0.admits_env _ _ _, launch0.least_env, fairChoices_fair.cas, fairChoices_fair.clock, w_frames, w_args, w_heap, w_applies, trivial, trivial, w_case⟩
end start1
theorem witness_1 : WitnessClaimed_1 := ⟨start1.p0, start1.e0, start1.about1, start1.theMethod, start1.args0, start1.below0, start1.atStart⟩
end Jvm.Pilot.@@N@@
