import JvmDerived
import JvmDerived.Pilot.@@N@@Statement
import JvmDerived.Pilot.@@N@@Code
set_option linter.unusedVariables false
set_option linter.unusedSimpArgs false
namespace Jvm.Pilot.@@N@@
open Jvm Jvm.ClassFile Sem Op Lib Jvm.Free Jvm.Stand Jvm.LawKit Jvm.RoadKit Bundle Jvm.Pilot.@@N@@.Jvm.D
/-- whoever comes on from (T, g) comes from A -/
abbrev Gz (tb : Tables) (e : Env) (below : List Frame) (A T : State) (g : JFrame) : Prop := ∀ t, Steps tb e below (T.setTop g) t → Steps tb e below A t
theorem own_eqI {args : Array Value} {first s : State} {o : Option Outcome} {idx : List Nat} {a : Term} {n : Int32} (h : (Jvm.Cond.eq a (.int n)).value args first o s idx = some true) : a.eval args first o idx s = some (.int n) := by
  simp only [Cond.value, Term.eval] at h
  cases ha : a.eval args first o idx s with
  | none => simp [ha] at h
  | some x => cases x <;> simp [ha] at h ⊢ <;> exact h
theorem own_eqJ {args : Array Value} {first s : State} {o : Option Outcome} {idx : List Nat} {a : Term} {n : Int64} (h : (Jvm.Cond.eq a (.long n)).value args first o s idx = some true) : a.eval args first o idx s = some (.long n) := by
  simp only [Cond.value, Term.eval] at h
  cases ha : a.eval args first o idx s with
  | none => simp [ha] at h
  | some x => cases x <;> simp [ha] at h ⊢ <;> exact h
theorem own_eqR {args : Array Value} {first s : State} {o : Option Outcome} {idx : List Nat} {a b : Term} {x y : Addr} (h : (Jvm.Cond.eq a b).value args first o s idx = some true) (ha : a.eval args first o idx s = some (.ref x)) (hb : b.eval args first o idx s = some (.ref y)) : x = y := by
  simp only [Cond.value, ha, hb] at h
  simpa using h
theorem own_fldI {args : Array Value} {s : State} {t : Term} {C f d : String} {n : Int32} {x : Addr} (h : (Jvm.Cond.eq (.field t C f d) (.int n)).value args s none s [] = some true) (ht : t.eval args s none [] s = some (.ref x)) : Fld s s.heap x C f d (.int n) :=
  Fld.start (by rw [← fld_at (C := C) (n := f) (dd := d) ht]; exact own_eqI h)
theorem own_fldJ {args : Array Value} {s : State} {t : Term} {C f d : String} {n : Int64} {x : Addr} (h : (Jvm.Cond.eq (.field t C f d) (.long n)).value args s none s [] = some true) (ht : t.eval args s none [] s = some (.ref x)) : Fld s s.heap x C f d (.long n) :=
  Fld.start (by rw [← fld_at (C := C) (n := f) (dd := d) ht]; exact own_eqJ h)
theorem own_fldN {args : Array Value} {s : State} {t : Term} {C f d : String} {x : Addr} (h : (Jvm.Cond.eq (.field t C f d) .null).value args s none s [] = some true) (ht : t.eval args s none [] s = some (.ref x)) : Fld s s.heap x C f d .null :=
  Fld.start (by rw [← fld_at (C := C) (n := f) (dd := d) ht]; exact null_v h)
theorem own_ext {h0 h : Heap} (K : Keep h0 h []) : Ext h0 h := ⟨K.1, fun x c q => K.2.1 x c q nin0⟩
theorem own_keep {h0 h : Heap} (E : Ext h0 h) : Keep h0 h [] := (Keep.refl h0 []).ext E
theorem own_extE {h0 h h' : Heap} (K : Ext h0 h) (E : Ext h h') : Ext h0 h' := ⟨Nat.le_trans K.1 E.1, fun a c q => E.2 a c (K.2 a c q)⟩
theorem own_extW {h0 h h' : Heap} {a : Addr} {sl : Nat} {v : Value} (K : Ext h0 h) (W : Wr h h' a sl v) (q : h0.size ≤ a) : Ext h0 h' := own_ext ((own_keep K).wr W (Or.inr q))
theorem own_refl (h : Heap) : Ext h h := ⟨Nat.le_refl _, fun _ _ q => q⟩
theorem own_extK {h0 h h' : Heap} {ws : List Addr} (K : Ext h0 h) (Q : Keep h h' ws) (q : ∀ x ∈ ws, h0.size ≤ x) : Ext h0 h' := ⟨Nat.le_trans K.1 Q.1, fun a c hc => Q.2.1 a c (K.2 a c hc) fun z => absurd (Array.getElem?_eq_some_iff.mp hc).1 (Nat.not_lt.mpr (q a z))⟩
theorem own_getR {p : Program} {l : Launch} {e : Env} {R : Room} {s : State} {m : MethodId} {args : Array Value} {below : List Frame} {meth : Method} {c : Code} {T : State} {locs : List Loc} {cells slots : Nat} {Z : State} {a0 : Array Value} {h : Heap}
    (X : Stand p l e R s m args below meth c T locs cells slots) (hx : p.tables.exec = Jvm.exec) (hZ : Z.Warmed39 s.vm) {own O n d : String} {index : Nat} (hown : s.vm.findClass own = some m.cls) (w : (Cond.fieldRef own index O n d).before a0 Z = true) (eT : T.heap = h) {a : Addr} {v : Value} (F : Fld Z h a O n d v)
    {g : JFrame} (hg : g.method = m) {rest : List Value} (hs : g.stack = .ref a :: rest) (hd : decode c.code g.pc = .ok (.getfield index, 3)) : ∀ target, Steps p.tables e below (T.setTop { g with pc := g.pc + 3, stack := v :: rest }) target → Steps p.tables e below (T.setTop g) target := by
  obtain ⟨cell, cf, k, i, f, h1, h2, h3, h4, -, -, h7⟩ := F
  have hT : Z.Warmed39 T.vm := wtrans hZ X.warmed
  have w1 : (Cond.fieldRef own index O n d).before a0 (Z.setVm T.vm) = true := Cond.fieldRef_warmed39 hT w
  have hownT : (Z.setVm T.vm).vm.findClass own = some m.cls := by show T.vm.findClass own = _; rw [X.warmed.alike.findClass]; exact hown
  obtain ⟨c', k', i', f', hi, hready⟩ := Cond.fieldRef_spec (s := Z.setVm T.vm) hownT w1
  obtain ⟨k'', hi', -⟩ := State.fieldFound?_setVm (s := Z) hT.alike h2
  cases hi.symm.trans hi'
  exact fun target ht => (X.getfieldR hx hg hready h3 hs (by rw [eT]; exact h1) h4 h7 hd (Steps.refl _)).trans ht
theorem own_eqRef {args : Array Value} {first s : State} {o : Option Outcome} {idx : List Nat} {a b : Term} {y : Addr} (h : (Jvm.Cond.eq a b).value args first o s idx = some true) (hb : b.eval args first o idx s = some (.ref y)) : a.eval args first o idx s = some (.ref y) := by
  simp only [Cond.value, hb] at h
  cases ha : a.eval args first o idx s with
  | none => simp [ha] at h
  | some x => cases x <;> simp [ha] at h ⊢ <;> exact h
theorem own_fldR {args : Array Value} {s : State} {t u : Term} {C f d : String} {x y : Addr} (h : (Jvm.Cond.eq (.field t C f d) u).value args s none s [] = some true) (ht : t.eval args s none [] s = some (.ref x)) (hu : u.eval args s none [] s = some (.ref y)) : Fld s s.heap x C f d (.ref y) :=
  Fld.start (by rw [← fld_at (C := C) (n := f) (dd := d) ht]; exact own_eqRef h hu)
theorem own_len {args : Array Value} {s : State} {t : Term} {a : Addr} {cl : Cell} {z : Int32} (h : (Term.length t).eval args s none [] s = some (.int z)) (ht : t.eval args s none [] s = some (.ref a)) (ha : s.arrayAt? a = some cl) : cl.slots.size < 2 ^ 31 ∧ cl.slots.size.toInt32 = z := by
  simp only [Term.eval, ht, ha, Option.bind_eq_bind, Option.bind_some] at h
  split at h
  · rename_i q; exact ⟨q, by simpa using h⟩
  · cases h
theorem own_fldL {args : Array Value} {s : State} {idx : List Nat} {t u : Term} {C f d : String} {n : Int64} {x : Addr} (h : (Jvm.Cond.eq (.field t C f d) u).value args s none s idx = some true) (ht : t.eval args s none idx s = some (.ref x)) (hu : u.eval args s none idx s = some (.long n)) : Fld s s.heap x C f d (.long n) :=
  Fld.start (by
    rw [← fld_at (C := C) (n := f) (dd := d) ht]
    simp only [Cond.value, hu] at h
    cases ha : (Term.field t C f d).eval args s none idx s with
    | none => simp [ha] at h
    | some x => cases x <;> simp [ha] at h ⊢ <;> exact h)
theorem own_fldI2 {args : Array Value} {s : State} {idx : List Nat} {t u : Term} {C f d : String} {n : Int32} {x : Addr} (h : (Jvm.Cond.eq (.field t C f d) u).value args s none s idx = some true) (ht : t.eval args s none idx s = some (.ref x)) (hu : u.eval args s none idx s = some (.int n)) : Fld s s.heap x C f d (.int n) :=
  Fld.start (by
    rw [← fld_at (C := C) (n := f) (dd := d) ht]
    simp only [Cond.value, hu] at h
    cases ha : (Term.field t C f d).eval args s none idx s with
    | none => simp [ha] at h
    | some x => cases x <;> simp [ha] at h ⊢ <;> exact h)
theorem own_selp {s : State} {args : Array Value} {y z : MethodName} (hsel : (Cond.selects z.cls z z).before args s = true) (hcls : z.cls = y.cls) (hpriv : s.PrivateAt y) (hinst : (Cond.instanceMethod y).before args s = true) (hy : y.cls ≠ "java/lang/invoke/MethodHandle" ∧ y.cls ≠ "java/lang/invoke/VarHandle") : (Cond.selects y.cls y y).before args s = true := by
  obtain ⟨c2, r2, m2, q1, q2, q3, q4, kP, hkP, hkPi⟩ := Cond.selects_spec hsel
  exact selects_self_of_private (hcls ▸ findClass_of_methodNamed q3) hkP hkPi hpriv hinst hy
theorem own_nat {z : Int32} (h : 0 ≤ z.toInt) : z.toInt = z.toNatClampNeg := (Int.toNat_of_nonneg h).symm
theorem own_inb {z n : Int32} (N : Int) (hn : n.toInt = N) (h1 : 0 ≤ z.toInt) (h2 : z.toInt < N) : ¬ z < 0 ∧ z < n := by
  rw [Int32.lt_iff_toInt_lt, Int32.lt_iff_toInt_lt, hn]
  exact ⟨by have q : (0 : Int32).toInt = 0 := (by decide); omega, h2⟩
theorem own_inj {Z : State} {h : Heap} {C f d : String} {w : Nat → Addr} {n : Nat} (ho : ∀ k, k < n → Fld Z h (w k) C f d (.int k.toInt32)) (hn : n < 2 ^ 31) : ∀ i j, i < n → j < n → w i = w j → i = j := fun i j hi hj q => Classical.byContradiction fun ne => Fld.ne (ho i hi) (ho j hj) (fun z => ne (by
    have z1 : i.toInt32.toInt = j.toInt32.toInt := by rw [Value.int.inj z]
    rw [len_toInt (by omega), len_toInt (by omega)] at z1
    omega)) q
theorem own_mask (k : Int32) : 0 ≤ (k &&& 2147483647).toInt ∧ (k &&& 2147483647).toInt < 2147483648 := by
  have h1 : (k &&& 2147483647).toInt = ((k &&& 2147483647).toBitVec).toInt := rfl
  have h2 : (k &&& 2147483647).toBitVec = k.toBitVec &&& 2147483647#32 := rfl
  rw [h1, h2]
  have h3 : (k.toBitVec &&& 2147483647#32).msb = false := by rw [BitVec.msb_and, show (2147483647#32).msb = false from by decide, Bool.and_false]
  rw [BitVec.toInt_eq_toNat_of_msb h3]
  have h4 := BitVec.isLt (k.toBitVec &&& 2147483647#32)
  rw [BitVec.msb_eq_decide] at h3
  simp at h3 ⊢
  omega
theorem own_rem (k n : Int32) (N : Int) (hn : n.toInt = N) (hN : 0 < N) : 0 ≤ ((k &&& 2147483647) % n).toInt ∧ ((k &&& 2147483647) % n).toInt < N := by
  have h := own_mask k
  rw [Int32.toInt_mod, hn]
  generalize (k &&& 2147483647).toInt = z at h
  rw [Int.tmod_eq_emod_of_nonneg h.1]
  exact ⟨Int.emod_nonneg _ (by omega), Int.emod_lt_of_pos _ hN⟩
theorem own_i32_ne {x y : Int32} (h : ¬ x = y) : x.toInt ≠ y.toInt := fun q => h (Int32.toInt_inj.mp q)
theorem own_lt {x y : Int32} (h : x < y) : x.toInt < y.toInt := Int32.lt_iff_toInt_lt.mp h
theorem own_nlt {x y : Int32} (h : ¬ x < y) : y.toInt ≤ x.toInt := by rw [Int32.lt_iff_toInt_lt] at h; omega

theorem d1_0 : decode prog_17_method_5_code 0 = .ok (.aload_n 0, 1) := by decide +kernel
theorem d1_1 : decode prog_17_method_5_code 1 = .ok (.getstatic 34, 3) := by decide +kernel
theorem d1_4 : decode prog_17_method_5_code 4 = .ok (.if_acmp .eq 14, 3) := by decide +kernel
theorem d1_7 : decode prog_17_method_5_code 7 = .ok (.aload_n 0, 1) := by decide +kernel
theorem d1_8 : decode prog_17_method_5_code 8 = .ok (.getstatic 37, 3) := by decide +kernel
theorem d1_11 : decode prog_17_method_5_code 11 = .ok (.if_acmp .eq 7, 3) := by decide +kernel
theorem d1_14 : decode prog_17_method_5_code 14 = .ok (.iconst 1, 1) := by decide +kernel
theorem d1_15 : decode prog_17_method_5_code 15 = .ok (.goto 4, 3) := by decide +kernel
theorem d1_18 : decode prog_17_method_5_code 18 = .ok (.iconst 0, 1) := by decide +kernel
theorem d1_19 : decode prog_17_method_5_code 19 = .ok (.ireturn, 1) := by decide +kernel
theorem pn1 : plainName "litlex/core/LiteralKind" = true := by first | (simp [plainName, overriddenIn]; done) | decide +kernel
theorem ef1 (m : MethodId) (x0 : Addr) : entryFrame m #[(.ref x0)] 1 = mkF m 0 #[.val (.ref x0)] [] := by first | (simp [entryFrame, mkF, argsToLocals, Value.category]; done) | rfl
def Q1 (Z : State) (w : Nat → Addr) (i : Nat) (b : Int32) (h0 : Heap) (n0 : Nat) (v : Option Value) (h : Heap) (L : List Loc) : Prop := v = some (.int b) ∧ Fr n0 L ∧ h = h0
set_option maxRecDepth 65536 in
set_option maxHeartbeats 40000000 in
theorem rm1 (l : Launch) (Z : State) (a0 : Array Value) (hw : ∀ d ∈ tables_1, d.before a0 Z = true) (ws : List Jvm.Cond) (w : Nat → Addr) (i : Nat) (b : Int32) (h0 : Heap) (n0 : Nat) (Z0 : n0 ≤ h0.size) (S_COMMENT : Sta Z h0 "litlex/core/LiteralKind" "COMMENT" "Llitlex/core/LiteralKind;" (.ref (w 10))) (S_IDENTIFIER : Sta Z h0 "litlex/core/LiteralKind" "IDENTIFIER" "Llitlex/core/LiteralKind;" (.ref (w 11))) (hi : i < 12) (hinj : ∀ i j, i < 12 → j < 12 → w i = w j → i = j) (hbb : (i < 10 ∧ b = 1) ∨ (10 ≤ i ∧ b = 0)) :
    MetFree l (⟨"litlex/core/LiteralKind", "isLiteral", "()Z"⟩ : MethodName) (head1 (Jvm.Cond.code (⟨"litlex/core/LiteralKind", "isLiteral", "()Z"⟩ : MethodName) prog_17_method_5_code 1 (some .boolean) :: ws) ({ frames := 0, cells := 0, slots := 0, locals := 0 } : Room)) (fun aq Uq => aq = #[(.ref (w i))] ∧ Z.Warmed39 Uq.vm ∧ Uq.heap = h0) (fun _ _ _ _ _ => True) (fun _ U o U' => ∃ v L, o = .returned v ∧ Q1 Z w i b h0 n0 v U'.heap L ∧ FrameEnd U o U' L ({ frames := 0, cells := 0, slots := 0, locals := 0 } : Room).cells ({ frames := 0, cells := 0, slots := 0, locals := 0 } : Room).slots) := by
  refine MetFree.of_bodySF (plainFor_of_name pn1) hisR ?_
  intro p e s m args below meth c s₁ Bd hml0 hP hK
  obtain ⟨rfl, hZ, hh⟩ := hP
  have hx := Bd.exec
  have hby := Bd.bytes
  have hml : c.maxLocals = 1 := hml0
  have hown : s.vm.findClass "litlex/core/LiteralKind" = some m.cls := findClass_of_methodNamed Bd.named
  have hnm := (name_of_methodNamed Bd.named Bd.method).1
  have X0 : Stand p l e ({ frames := 0, cells := 0, slots := 0, locals := 0 } : Room) s m #[(.ref (w i))] below meth c s₁ [] 0 0 := Stand.of_body Bd
  have e0 : s₁.heap = h0 := by rw [← hh, Bd.state]; rfl
  have N0 := Fr.nil n0
  obtain ⟨A, hA⟩ : ∃ A, A = s₁.setTop (entryFrame m #[(.ref (w i))] 1) := ⟨_, rfl⟩
  rw [← hA]
  have g0 : Gz p.tables e below A s₁ (mkF m 0 #[.val (.ref (w i))] []) := fun tq kq => by rw [hA]; exact castTop (ef1 m (w i)) kq
  have g1 : Gz p.tables e below A s₁ (mkF m 1 #[.val (.ref (w i))] [(.ref (w i))]) := fun tq kq => g0 tq (XS.aloadN X0.here hx rfl (hb hby d1_0) rfl rfl kq)
  obtain ⟨T2, X2, e2, st2⟩ := getS2 X0 hx hZ hown (host := "") (Or.inl (hw _ (List.mem_of_getElem? (i := 34) rfl))) Via.refl e0 S_COMMENT (g := (mkF m 1 #[.val (.ref (w i))] [(.ref (w i))])) rfl (hb hby d1_1)
  have g3 : Gz p.tables e below A T2 (mkF m 4 #[.val (.ref (w i))] [(.ref (w 10)), (.ref (w i))]) := fun tq kq => g1 tq (st2 tq kq)
  by_cases hc4 : (w i) = (w 10)
  · have g4 : Gz p.tables e below A T2 (mkF m 18 #[.val (.ref (w i))] []) := fun tq kq => g3 tq (Jvm.RoadKit.acmp (g := (mkF m 4 #[.val (.ref (w i))] [(.ref (w 10)), (.ref (w i))])) X2 hx rfl rfl rfl (pc0 := 4) (pc' := 18) (same := true) rfl (hb hby d1_4) rfl (decide_eq_true (congrArg Value.ref hc4)) (by decide) (by decide) kq)
    have g5 : Gz p.tables e below A T2 (mkF m 19 #[.val (.ref (w i))] [(.int (0 : Int32))]) := fun tq kq => g4 tq (XS.iconst X2.here hx rfl (hb hby d1_18) kq)
    obtain ⟨fs, hr, hrun, hended, hW, hsame⟩ := X2.leave (v := some (.int (0 : Int32))) (fun h => by rw [Bd.returns] at h; cases h)
    refine ⟨_, _, g5 _ (retN X2 hx (t := .boolean) Bd.returns (by simp) (hb hby d1_19) hr), hrun, hended, _, _, rfl, ?_, ⟨_, rfl⟩, hW, hsame.mono (by decide) (by decide)⟩
    show Q1 Z w i b h0 n0 _ T2.heap _
    rw [e2]
    have q : 10 ≤ i := by
      first
      | (have q := hinj i 10 hi (by decide) hc4; omega)
      | (have q := hinj i 11 hi (by decide) hc11; omega)
    obtain rfl : b = 0 := (hbb.resolve_left (fun z => absurd z.1 (by omega))).2
    exact ⟨rfl, N0, rfl⟩
  · have g6 : Gz p.tables e below A T2 (mkF m 7 #[.val (.ref (w i))] []) := fun tq kq => g3 tq (Jvm.RoadKit.acmp (g := (mkF m 4 #[.val (.ref (w i))] [(.ref (w 10)), (.ref (w i))])) X2 hx rfl rfl rfl (pc0 := 4) (pc' := 7) (same := false) rfl (hb hby d1_4) rfl (decide_eq_false fun q => hc4 (Value.ref.inj q)) (by decide) (by decide) kq)
    have g7 : Gz p.tables e below A T2 (mkF m 8 #[.val (.ref (w i))] [(.ref (w i))]) := fun tq kq => g6 tq (XS.aloadN X2.here hx rfl (hb hby d1_7) rfl rfl kq)
    obtain ⟨T8, X8, e8, st8⟩ := getS2 X2 hx hZ hown (host := "") (Or.inl (hw _ (List.mem_of_getElem? (i := 35) rfl))) Via.refl e2 S_IDENTIFIER (g := (mkF m 8 #[.val (.ref (w i))] [(.ref (w i))])) rfl (hb hby d1_8)
    have g9 : Gz p.tables e below A T8 (mkF m 11 #[.val (.ref (w i))] [(.ref (w 11)), (.ref (w i))]) := fun tq kq => g7 tq (st8 tq kq)
    by_cases hc11 : (w i) = (w 11)
    · have g10 : Gz p.tables e below A T8 (mkF m 18 #[.val (.ref (w i))] []) := fun tq kq => g9 tq (Jvm.RoadKit.acmp (g := (mkF m 11 #[.val (.ref (w i))] [(.ref (w 11)), (.ref (w i))])) X8 hx rfl rfl rfl (pc0 := 11) (pc' := 18) (same := true) rfl (hb hby d1_11) rfl (decide_eq_true (congrArg Value.ref hc11)) (by decide) (by decide) kq)
      have g11 : Gz p.tables e below A T8 (mkF m 19 #[.val (.ref (w i))] [(.int (0 : Int32))]) := fun tq kq => g10 tq (XS.iconst X8.here hx rfl (hb hby d1_18) kq)
      obtain ⟨fs, hr, hrun, hended, hW, hsame⟩ := X8.leave (v := some (.int (0 : Int32))) (fun h => by rw [Bd.returns] at h; cases h)
      refine ⟨_, _, g11 _ (retN X8 hx (t := .boolean) Bd.returns (by simp) (hb hby d1_19) hr), hrun, hended, _, _, rfl, ?_, ⟨_, rfl⟩, hW, hsame.mono (by decide) (by decide)⟩
      show Q1 Z w i b h0 n0 _ T8.heap _
      rw [e8]
      have q : 10 ≤ i := by
        first
        | (have q := hinj i 10 hi (by decide) hc4; omega)
        | (have q := hinj i 11 hi (by decide) hc11; omega)
      obtain rfl : b = 0 := (hbb.resolve_left (fun z => absurd z.1 (by omega))).2
      exact ⟨rfl, N0, rfl⟩
    · have g12 : Gz p.tables e below A T8 (mkF m 14 #[.val (.ref (w i))] []) := fun tq kq => g9 tq (Jvm.RoadKit.acmp (g := (mkF m 11 #[.val (.ref (w i))] [(.ref (w 11)), (.ref (w i))])) X8 hx rfl rfl rfl (pc0 := 11) (pc' := 14) (same := false) rfl (hb hby d1_11) rfl (decide_eq_false fun q => hc11 (Value.ref.inj q)) (by decide) (by decide) kq)
      have g13 : Gz p.tables e below A T8 (mkF m 15 #[.val (.ref (w i))] [(.int (1 : Int32))]) := fun tq kq => g12 tq (XS.iconst X8.here hx rfl (hb hby d1_14) kq)
      have g14 : Gz p.tables e below A T8 (mkF m 19 #[.val (.ref (w i))] [(.int (1 : Int32))]) := fun tq kq => g13 tq (XS.goto X8.here hx rfl (pc0 := 15) (pc' := 19) rfl (hb hby d1_15) (by decide) (by decide) kq)
      obtain ⟨fs, hr, hrun, hended, hW, hsame⟩ := X8.leave (v := some (.int (1 : Int32))) (fun h => by rw [Bd.returns] at h; cases h)
      refine ⟨_, _, g14 _ (retN X8 hx (t := .boolean) Bd.returns (by simp) (hb hby d1_19) hr), hrun, hended, _, _, rfl, ?_, ⟨_, rfl⟩, hW, hsame.mono (by decide) (by decide)⟩
      show Q1 Z w i b h0 n0 _ T8.heap _
      rw [e8]
      have q0 : i ≠ 10 := fun q => hc4 (by rw [q])
      have q1 : i ≠ 11 := fun q => hc11 (by rw [q])
      obtain rfl : b = 1 := (hbb.resolve_right (fun z => absurd z.1 (by omega))).2
      exact ⟨rfl, N0, rfl⟩

theorem own_list12 (w : Nat → Addr) (j : Nat) (hj : j < 12) : [Value.ref (w 0), Value.ref (w 1), Value.ref (w 2), Value.ref (w 3), Value.ref (w 4), Value.ref (w 5), Value.ref (w 6), Value.ref (w 7), Value.ref (w 8), Value.ref (w 9), Value.ref (w 10), Value.ref (w 11)].getD j Value.null = Value.ref (w j) := by
  match j, hj with
  | 0, _ => rfl
  | 1, _ => rfl
  | 2, _ => rfl
  | 3, _ => rfl
  | 4, _ => rfl
  | 5, _ => rfl
  | 6, _ => rfl
  | 7, _ => rfl
  | 8, _ => rfl
  | 9, _ => rfl
  | 10, _ => rfl
  | 11, _ => rfl
  | j + 12, hj => exact absurd hj (by omega)

theorem pn0 : plainName "litlex/core/LiteralKindIsLiteralPinLaw" = true := by first | (simp [plainName, overriddenIn]; done) | decide +kernel
theorem pd0_0 : parseMethodDescriptor "()Z" = some ⟨[], some .boolean⟩ := by decide +kernel
theorem ef0 (m : MethodId) (x0 : Int32) : entryFrame m #[(.int x0)] maxLocals = mkF m 0 #[.val (.int x0), .unset, .unset, .unset] [] := by first | (simp [entryFrame, mkF, argsToLocals, Value.category, maxLocals]; done) | rfl
def Q0 (Z : State) (p1 : Int32) (w : Nat → Addr) (iv : Int32) (j : Nat) (h0 : Heap) (n0 : Nat) (v : Option Value) (h : Heap) (L : List Loc) : Prop := v = some (.int 1) ∧ Fr n0 L
set_option maxRecDepth 65536 in
set_option maxHeartbeats 40000000 in
theorem rm0 (l : Launch) (Z : State) (a0 : Array Value) (hw : ∀ d ∈ tables_1, d.before a0 Z = true) (ws : List Jvm.Cond) (p1 : Int32) (w : Nat → Addr) (iv : Int32) (j : Nat) (h0 : Heap) (n0 : Nat) (Z0 : n0 ≤ h0.size) (S_CHARACTER : Sta Z h0 "litlex/core/LiteralKind" "CHARACTER" "Llitlex/core/LiteralKind;" (.ref (w 0))) (S_NATIONAL : Sta Z h0 "litlex/core/LiteralKind" "NATIONAL" "Llitlex/core/LiteralKind;" (.ref (w 1))) (S_UNICODE : Sta Z h0 "litlex/core/LiteralKind" "UNICODE" "Llitlex/core/LiteralKind;" (.ref (w 2))) (S_BINARY : Sta Z h0 "litlex/core/LiteralKind" "BINARY" "Llitlex/core/LiteralKind;" (.ref (w 3))) (S_EXACT : Sta Z h0 "litlex/core/LiteralKind" "EXACT" "Llitlex/core/LiteralKind;" (.ref (w 4))) (S_APPROXIMATE : Sta Z h0 "litlex/core/LiteralKind" "APPROXIMATE" "Llitlex/core/LiteralKind;" (.ref (w 5))) (S_DATE : Sta Z h0 "litlex/core/LiteralKind" "DATE" "Llitlex/core/LiteralKind;" (.ref (w 6))) (S_TIME : Sta Z h0 "litlex/core/LiteralKind" "TIME" "Llitlex/core/LiteralKind;" (.ref (w 7))) (S_TIMESTAMP : Sta Z h0 "litlex/core/LiteralKind" "TIMESTAMP" "Llitlex/core/LiteralKind;" (.ref (w 8))) (S_INTERVAL : Sta Z h0 "litlex/core/LiteralKind" "INTERVAL" "Llitlex/core/LiteralKind;" (.ref (w 9))) (S_COMMENT : Sta Z h0 "litlex/core/LiteralKind" "COMMENT" "Llitlex/core/LiteralKind;" (.ref (w 10))) (S_IDENTIFIER : Sta Z h0 "litlex/core/LiteralKind" "IDENTIFIER" "Llitlex/core/LiteralKind;" (.ref (w 11))) (hiv : (p1 &&& (2147483647 : Int32)) % (12 : Int32) = iv) (hlo : 0 ≤ iv.toInt) (hhi : iv.toInt < 12) (hij : iv.toNatClampNeg = j) (hj : j < 12) (hjv : iv.toInt = j) (hinj : ∀ i j, i < 12 → j < 12 → w i = w j → i = j) (hE : ∀ j, j < 12 → Exa Z h0 (w j) "litlex/core/LiteralKind") :
    MetFree l x (head1 (Jvm.Cond.code x code maxLocals ret :: ws) room_1) (fun aq Uq => aq = #[(.int p1)] ∧ Z.Warmed39 Uq.vm ∧ Uq.heap = h0) (fun _ _ _ _ _ => True) (fun _ U o U' => ∃ v L, o = .returned v ∧ Q0 Z p1 w iv j h0 n0 v U'.heap L ∧ FrameEnd U o U' L room_1.cells room_1.slots) := by
  refine MetFree.of_bodySF (plainFor_of_name pn0) hisR ?_
  intro p e s m args below meth c s₁ Bd hml0 hP hK
  obtain ⟨rfl, hZ, hh⟩ := hP
  have hx := Bd.exec
  have hby := Bd.bytes
  have hml : c.maxLocals = 4 := hml0
  have hown : s.vm.findClass "litlex/core/LiteralKindIsLiteralPinLaw" = some m.cls := findClass_of_methodNamed Bd.named
  have hnm := (name_of_methodNamed Bd.named Bd.method).1
  have X0 : Stand p l e room_1 s m #[(.int p1)] below meth c s₁ [] 0 0 := Stand.of_body Bd
  have e0 : s₁.heap = h0 := by rw [← hh, Bd.state]; rfl
  have N0 := Fr.nil n0
  obtain ⟨A, hA⟩ : ∃ A, A = s₁.setTop (entryFrame m #[(.int p1)] maxLocals) := ⟨_, rfl⟩
  rw [← hA]
  have g0 : Gz p.tables e below A s₁ (mkF m 0 #[.val (.int p1), .unset, .unset, .unset] []) := fun tq kq => by rw [hA]; exact castTop (ef0 m p1) kq
  have g1 : Gz p.tables e below A s₁ (mkF m 2 #[.val (.int p1), .unset, .unset, .unset] [(.int (12 : Int32))]) := fun tq kq => g0 tq (XS.bipush X0.here hx rfl (hb hby at_0) kq)
  obtain ⟨T2, h2, k2, X2, e2, E2, A2, O2, st2⟩ := newR X0 hx hZ hown (hw _ (List.mem_of_getElem? (i := 0) rfl)) (hw _ (List.mem_of_getElem? (i := 1) rfl)) e0 (g := (mkF m 2 #[.val (.int p1), .unset, .unset, .unset] [(.int (12 : Int32))])) rfl (hb hby at_2) rfl (by decide) (cap := 12) (by decide) (by decide) (by decide) (by decide)
  obtain ⟨b2, gb2⟩ : ∃ z, z = h0.size := ⟨_, rfl⟩
  rw [← gb2] at A2 st2
  have sz_b2 : h0.size ≤ b2 := Nat.le_of_eq gb2.symm
  have g_b2 : n0 ≤ b2 := Nat.le_trans Z0 sz_b2
  have K3 := E2
  have V_b2 : Arv Z h2 b2 k2 (.object "litlex/core/LiteralKind") (12 : Int32) [.null, .null, .null, .null, .null, .null, .null, .null, .null, .null, .null, .null] .null := (Arv.new A2 (by decide)).pad (pad_rep [] .null 12)
  have g4 : Gz p.tables e below A T2 (mkF m 5 #[.val (.int p1), .unset, .unset, .unset] [(.ref b2)]) := fun tq kq => g1 tq (st2 tq kq)
  have g5 : Gz p.tables e below A T2 (mkF m 6 #[.val (.int p1), .unset, .unset, .unset] [(.ref b2), (.ref b2)]) := fun tq kq => g4 tq (XS.dup X2.here hx rfl (hb hby at_5) rfl rfl kq)
  have g6 : Gz p.tables e below A T2 (mkF m 7 #[.val (.int p1), .unset, .unset, .unset] [(.int (0 : Int32)), (.ref b2), (.ref b2)]) := fun tq kq => g5 tq (XS.iconst X2.here hx rfl (hb hby at_6) kq)
  obtain ⟨T7, X7, e7, st7⟩ := getS2 X2 hx hZ hown (host := "") (Or.inl (hw _ (List.mem_of_getElem? (i := 2) rfl))) Via.refl e2 (S_CHARACTER.ext K3) (g := (mkF m 7 #[.val (.int p1), .unset, .unset, .unset] [(.int (0 : Int32)), (.ref b2), (.ref b2)])) rfl (hb hby at_7)
  have g8 : Gz p.tables e below A T7 (mkF m 10 #[.val (.int p1), .unset, .unset, .unset] [(.ref (w 0)), (.int (0 : Int32)), (.ref b2), (.ref b2)]) := fun tq kq => g6 tq (st7 tq kq)
  obtain ⟨cl9, Ar9, q9, Sz9, Nn9, Hh9, G9⟩ := V_b2
  have hin9 : ¬ ((0 : Int32) < 0 ∨ cl9.slots.size ≤ (0 : Int32).toNatClampNeg) := inb_of Sz9 ⟨by decide, by decide⟩
  obtain ⟨T10, h10, X10, e10, W10, st10⟩ := stR X7 hx hZ e7 Ar9 (j := (0 : Int32)) hin9 rfl (Sto.ofV Ar9 q9 O2 (Ins.self (((hE 0 (by decide)).ext K3)))) (g := (mkF m 10 #[.val (.int p1), .unset, .unset, .unset] [(.ref (w 0)), (.int (0 : Int32)), (.ref b2), (.ref b2)])) rfl rfl (hb hby at_10)
  have V_b2 : Arv Z h10 b2 k2 (.object "litlex/core/LiteralKind") (12 : Int32) [(.ref (w 0)), .null, .null, .null, .null, .null, .null, .null, .null, .null, .null, .null] .null := Arv.set Ar9 q9 Sz9 Nn9 Hh9 G9 rfl W10 0 rfl (Nat.le_of_ble_eq_true rfl)
  have K11 := own_extW K3 W10 sz_b2
  have N10 := Fr.snoc X10 N0 g_b2
  have g12 : Gz p.tables e below A T10 (mkF m 11 #[.val (.int p1), .unset, .unset, .unset] [(.ref b2)]) := fun tq kq => g8 tq (st10 tq kq)
  have g13 : Gz p.tables e below A T10 (mkF m 12 #[.val (.int p1), .unset, .unset, .unset] [(.ref b2), (.ref b2)]) := fun tq kq => g12 tq (XS.dup X10.here hx rfl (hb hby at_11) rfl rfl kq)
  have g14 : Gz p.tables e below A T10 (mkF m 13 #[.val (.int p1), .unset, .unset, .unset] [(.int (1 : Int32)), (.ref b2), (.ref b2)]) := fun tq kq => g13 tq (XS.iconst X10.here hx rfl (hb hby at_12) kq)
  obtain ⟨T15, X15, e15, st15⟩ := getS2 X10 hx hZ hown (host := "") (Or.inl (hw _ (List.mem_of_getElem? (i := 6) rfl))) Via.refl e10 (S_NATIONAL.ext K11) (g := (mkF m 13 #[.val (.int p1), .unset, .unset, .unset] [(.int (1 : Int32)), (.ref b2), (.ref b2)])) rfl (hb hby at_13)
  have g16 : Gz p.tables e below A T15 (mkF m 16 #[.val (.int p1), .unset, .unset, .unset] [(.ref (w 1)), (.int (1 : Int32)), (.ref b2), (.ref b2)]) := fun tq kq => g14 tq (st15 tq kq)
  obtain ⟨cl17, Ar17, q17, Sz17, Nn17, Hh17, G17⟩ := V_b2
  have hin17 : ¬ ((1 : Int32) < 0 ∨ cl17.slots.size ≤ (1 : Int32).toNatClampNeg) := inb_of Sz17 ⟨by decide, by decide⟩
  obtain ⟨T18, h18, X18, e18, W18, st18⟩ := stR X15 hx hZ e15 Ar17 (j := (1 : Int32)) hin17 rfl (Sto.ofV Ar17 q17 O2 (Ins.self (((hE 1 (by decide)).ext K11)))) (g := (mkF m 16 #[.val (.int p1), .unset, .unset, .unset] [(.ref (w 1)), (.int (1 : Int32)), (.ref b2), (.ref b2)])) rfl rfl (hb hby at_16)
  have V_b2 : Arv Z h18 b2 k2 (.object "litlex/core/LiteralKind") (12 : Int32) [(.ref (w 0)), (.ref (w 1)), .null, .null, .null, .null, .null, .null, .null, .null, .null, .null] .null := Arv.set Ar17 q17 Sz17 Nn17 Hh17 G17 rfl W18 1 rfl (Nat.le_of_ble_eq_true rfl)
  have K19 := own_extW K11 W18 sz_b2
  have N18 := Fr.snoc X18 N10 g_b2
  have g20 : Gz p.tables e below A T18 (mkF m 17 #[.val (.int p1), .unset, .unset, .unset] [(.ref b2)]) := fun tq kq => g16 tq (st18 tq kq)
  have g21 : Gz p.tables e below A T18 (mkF m 18 #[.val (.int p1), .unset, .unset, .unset] [(.ref b2), (.ref b2)]) := fun tq kq => g20 tq (XS.dup X18.here hx rfl (hb hby at_17) rfl rfl kq)
  have g22 : Gz p.tables e below A T18 (mkF m 19 #[.val (.int p1), .unset, .unset, .unset] [(.int (2 : Int32)), (.ref b2), (.ref b2)]) := fun tq kq => g21 tq (XS.iconst X18.here hx rfl (hb hby at_18) kq)
  obtain ⟨T23, X23, e23, st23⟩ := getS2 X18 hx hZ hown (host := "") (Or.inl (hw _ (List.mem_of_getElem? (i := 8) rfl))) Via.refl e18 (S_UNICODE.ext K19) (g := (mkF m 19 #[.val (.int p1), .unset, .unset, .unset] [(.int (2 : Int32)), (.ref b2), (.ref b2)])) rfl (hb hby at_19)
  have g24 : Gz p.tables e below A T23 (mkF m 22 #[.val (.int p1), .unset, .unset, .unset] [(.ref (w 2)), (.int (2 : Int32)), (.ref b2), (.ref b2)]) := fun tq kq => g22 tq (st23 tq kq)
  obtain ⟨cl25, Ar25, q25, Sz25, Nn25, Hh25, G25⟩ := V_b2
  have hin25 : ¬ ((2 : Int32) < 0 ∨ cl25.slots.size ≤ (2 : Int32).toNatClampNeg) := inb_of Sz25 ⟨by decide, by decide⟩
  obtain ⟨T26, h26, X26, e26, W26, st26⟩ := stR X23 hx hZ e23 Ar25 (j := (2 : Int32)) hin25 rfl (Sto.ofV Ar25 q25 O2 (Ins.self (((hE 2 (by decide)).ext K19)))) (g := (mkF m 22 #[.val (.int p1), .unset, .unset, .unset] [(.ref (w 2)), (.int (2 : Int32)), (.ref b2), (.ref b2)])) rfl rfl (hb hby at_22)
  have V_b2 : Arv Z h26 b2 k2 (.object "litlex/core/LiteralKind") (12 : Int32) [(.ref (w 0)), (.ref (w 1)), (.ref (w 2)), .null, .null, .null, .null, .null, .null, .null, .null, .null] .null := Arv.set Ar25 q25 Sz25 Nn25 Hh25 G25 rfl W26 2 rfl (Nat.le_of_ble_eq_true rfl)
  have K27 := own_extW K19 W26 sz_b2
  have N26 := Fr.snoc X26 N18 g_b2
  have g28 : Gz p.tables e below A T26 (mkF m 23 #[.val (.int p1), .unset, .unset, .unset] [(.ref b2)]) := fun tq kq => g24 tq (st26 tq kq)
  have g29 : Gz p.tables e below A T26 (mkF m 24 #[.val (.int p1), .unset, .unset, .unset] [(.ref b2), (.ref b2)]) := fun tq kq => g28 tq (XS.dup X26.here hx rfl (hb hby at_23) rfl rfl kq)
  have g30 : Gz p.tables e below A T26 (mkF m 25 #[.val (.int p1), .unset, .unset, .unset] [(.int (3 : Int32)), (.ref b2), (.ref b2)]) := fun tq kq => g29 tq (XS.iconst X26.here hx rfl (hb hby at_24) kq)
  obtain ⟨T31, X31, e31, st31⟩ := getS2 X26 hx hZ hown (host := "") (Or.inl (hw _ (List.mem_of_getElem? (i := 10) rfl))) Via.refl e26 (S_BINARY.ext K27) (g := (mkF m 25 #[.val (.int p1), .unset, .unset, .unset] [(.int (3 : Int32)), (.ref b2), (.ref b2)])) rfl (hb hby at_25)
  have g32 : Gz p.tables e below A T31 (mkF m 28 #[.val (.int p1), .unset, .unset, .unset] [(.ref (w 3)), (.int (3 : Int32)), (.ref b2), (.ref b2)]) := fun tq kq => g30 tq (st31 tq kq)
  obtain ⟨cl33, Ar33, q33, Sz33, Nn33, Hh33, G33⟩ := V_b2
  have hin33 : ¬ ((3 : Int32) < 0 ∨ cl33.slots.size ≤ (3 : Int32).toNatClampNeg) := inb_of Sz33 ⟨by decide, by decide⟩
  obtain ⟨T34, h34, X34, e34, W34, st34⟩ := stR X31 hx hZ e31 Ar33 (j := (3 : Int32)) hin33 rfl (Sto.ofV Ar33 q33 O2 (Ins.self (((hE 3 (by decide)).ext K27)))) (g := (mkF m 28 #[.val (.int p1), .unset, .unset, .unset] [(.ref (w 3)), (.int (3 : Int32)), (.ref b2), (.ref b2)])) rfl rfl (hb hby at_28)
  have V_b2 : Arv Z h34 b2 k2 (.object "litlex/core/LiteralKind") (12 : Int32) [(.ref (w 0)), (.ref (w 1)), (.ref (w 2)), (.ref (w 3)), .null, .null, .null, .null, .null, .null, .null, .null] .null := Arv.set Ar33 q33 Sz33 Nn33 Hh33 G33 rfl W34 3 rfl (Nat.le_of_ble_eq_true rfl)
  have K35 := own_extW K27 W34 sz_b2
  have N34 := Fr.snoc X34 N26 g_b2
  have g36 : Gz p.tables e below A T34 (mkF m 29 #[.val (.int p1), .unset, .unset, .unset] [(.ref b2)]) := fun tq kq => g32 tq (st34 tq kq)
  have g37 : Gz p.tables e below A T34 (mkF m 30 #[.val (.int p1), .unset, .unset, .unset] [(.ref b2), (.ref b2)]) := fun tq kq => g36 tq (XS.dup X34.here hx rfl (hb hby at_29) rfl rfl kq)
  have g38 : Gz p.tables e below A T34 (mkF m 31 #[.val (.int p1), .unset, .unset, .unset] [(.int (4 : Int32)), (.ref b2), (.ref b2)]) := fun tq kq => g37 tq (XS.iconst X34.here hx rfl (hb hby at_30) kq)
  obtain ⟨T39, X39, e39, st39⟩ := getS2 X34 hx hZ hown (host := "") (Or.inl (hw _ (List.mem_of_getElem? (i := 12) rfl))) Via.refl e34 (S_EXACT.ext K35) (g := (mkF m 31 #[.val (.int p1), .unset, .unset, .unset] [(.int (4 : Int32)), (.ref b2), (.ref b2)])) rfl (hb hby at_31)
  have g40 : Gz p.tables e below A T39 (mkF m 34 #[.val (.int p1), .unset, .unset, .unset] [(.ref (w 4)), (.int (4 : Int32)), (.ref b2), (.ref b2)]) := fun tq kq => g38 tq (st39 tq kq)
  obtain ⟨cl41, Ar41, q41, Sz41, Nn41, Hh41, G41⟩ := V_b2
  have hin41 : ¬ ((4 : Int32) < 0 ∨ cl41.slots.size ≤ (4 : Int32).toNatClampNeg) := inb_of Sz41 ⟨by decide, by decide⟩
  obtain ⟨T42, h42, X42, e42, W42, st42⟩ := stR X39 hx hZ e39 Ar41 (j := (4 : Int32)) hin41 rfl (Sto.ofV Ar41 q41 O2 (Ins.self (((hE 4 (by decide)).ext K35)))) (g := (mkF m 34 #[.val (.int p1), .unset, .unset, .unset] [(.ref (w 4)), (.int (4 : Int32)), (.ref b2), (.ref b2)])) rfl rfl (hb hby at_34)
  have V_b2 : Arv Z h42 b2 k2 (.object "litlex/core/LiteralKind") (12 : Int32) [(.ref (w 0)), (.ref (w 1)), (.ref (w 2)), (.ref (w 3)), (.ref (w 4)), .null, .null, .null, .null, .null, .null, .null] .null := Arv.set Ar41 q41 Sz41 Nn41 Hh41 G41 rfl W42 4 rfl (Nat.le_of_ble_eq_true rfl)
  have K43 := own_extW K35 W42 sz_b2
  have N42 := Fr.snoc X42 N34 g_b2
  have g44 : Gz p.tables e below A T42 (mkF m 35 #[.val (.int p1), .unset, .unset, .unset] [(.ref b2)]) := fun tq kq => g40 tq (st42 tq kq)
  have g45 : Gz p.tables e below A T42 (mkF m 36 #[.val (.int p1), .unset, .unset, .unset] [(.ref b2), (.ref b2)]) := fun tq kq => g44 tq (XS.dup X42.here hx rfl (hb hby at_35) rfl rfl kq)
  have g46 : Gz p.tables e below A T42 (mkF m 37 #[.val (.int p1), .unset, .unset, .unset] [(.int (5 : Int32)), (.ref b2), (.ref b2)]) := fun tq kq => g45 tq (XS.iconst X42.here hx rfl (hb hby at_36) kq)
  obtain ⟨T47, X47, e47, st47⟩ := getS2 X42 hx hZ hown (host := "") (Or.inl (hw _ (List.mem_of_getElem? (i := 14) rfl))) Via.refl e42 (S_APPROXIMATE.ext K43) (g := (mkF m 37 #[.val (.int p1), .unset, .unset, .unset] [(.int (5 : Int32)), (.ref b2), (.ref b2)])) rfl (hb hby at_37)
  have g48 : Gz p.tables e below A T47 (mkF m 40 #[.val (.int p1), .unset, .unset, .unset] [(.ref (w 5)), (.int (5 : Int32)), (.ref b2), (.ref b2)]) := fun tq kq => g46 tq (st47 tq kq)
  obtain ⟨cl49, Ar49, q49, Sz49, Nn49, Hh49, G49⟩ := V_b2
  have hin49 : ¬ ((5 : Int32) < 0 ∨ cl49.slots.size ≤ (5 : Int32).toNatClampNeg) := inb_of Sz49 ⟨by decide, by decide⟩
  obtain ⟨T50, h50, X50, e50, W50, st50⟩ := stR X47 hx hZ e47 Ar49 (j := (5 : Int32)) hin49 rfl (Sto.ofV Ar49 q49 O2 (Ins.self (((hE 5 (by decide)).ext K43)))) (g := (mkF m 40 #[.val (.int p1), .unset, .unset, .unset] [(.ref (w 5)), (.int (5 : Int32)), (.ref b2), (.ref b2)])) rfl rfl (hb hby at_40)
  have V_b2 : Arv Z h50 b2 k2 (.object "litlex/core/LiteralKind") (12 : Int32) [(.ref (w 0)), (.ref (w 1)), (.ref (w 2)), (.ref (w 3)), (.ref (w 4)), (.ref (w 5)), .null, .null, .null, .null, .null, .null] .null := Arv.set Ar49 q49 Sz49 Nn49 Hh49 G49 rfl W50 5 rfl (Nat.le_of_ble_eq_true rfl)
  have K51 := own_extW K43 W50 sz_b2
  have N50 := Fr.snoc X50 N42 g_b2
  have g52 : Gz p.tables e below A T50 (mkF m 41 #[.val (.int p1), .unset, .unset, .unset] [(.ref b2)]) := fun tq kq => g48 tq (st50 tq kq)
  have g53 : Gz p.tables e below A T50 (mkF m 42 #[.val (.int p1), .unset, .unset, .unset] [(.ref b2), (.ref b2)]) := fun tq kq => g52 tq (XS.dup X50.here hx rfl (hb hby at_41) rfl rfl kq)
  have g54 : Gz p.tables e below A T50 (mkF m 44 #[.val (.int p1), .unset, .unset, .unset] [(.int (6 : Int32)), (.ref b2), (.ref b2)]) := fun tq kq => g53 tq (XS.bipush X50.here hx rfl (hb hby at_42) kq)
  obtain ⟨T55, X55, e55, st55⟩ := getS2 X50 hx hZ hown (host := "") (Or.inl (hw _ (List.mem_of_getElem? (i := 16) rfl))) Via.refl e50 (S_DATE.ext K51) (g := (mkF m 44 #[.val (.int p1), .unset, .unset, .unset] [(.int (6 : Int32)), (.ref b2), (.ref b2)])) rfl (hb hby at_44)
  have g56 : Gz p.tables e below A T55 (mkF m 47 #[.val (.int p1), .unset, .unset, .unset] [(.ref (w 6)), (.int (6 : Int32)), (.ref b2), (.ref b2)]) := fun tq kq => g54 tq (st55 tq kq)
  obtain ⟨cl57, Ar57, q57, Sz57, Nn57, Hh57, G57⟩ := V_b2
  have hin57 : ¬ ((6 : Int32) < 0 ∨ cl57.slots.size ≤ (6 : Int32).toNatClampNeg) := inb_of Sz57 ⟨by decide, by decide⟩
  obtain ⟨T58, h58, X58, e58, W58, st58⟩ := stR X55 hx hZ e55 Ar57 (j := (6 : Int32)) hin57 rfl (Sto.ofV Ar57 q57 O2 (Ins.self (((hE 6 (by decide)).ext K51)))) (g := (mkF m 47 #[.val (.int p1), .unset, .unset, .unset] [(.ref (w 6)), (.int (6 : Int32)), (.ref b2), (.ref b2)])) rfl rfl (hb hby at_47)
  have V_b2 : Arv Z h58 b2 k2 (.object "litlex/core/LiteralKind") (12 : Int32) [(.ref (w 0)), (.ref (w 1)), (.ref (w 2)), (.ref (w 3)), (.ref (w 4)), (.ref (w 5)), (.ref (w 6)), .null, .null, .null, .null, .null] .null := Arv.set Ar57 q57 Sz57 Nn57 Hh57 G57 rfl W58 6 rfl (Nat.le_of_ble_eq_true rfl)
  have K59 := own_extW K51 W58 sz_b2
  have N58 := Fr.snoc X58 N50 g_b2
  have g60 : Gz p.tables e below A T58 (mkF m 48 #[.val (.int p1), .unset, .unset, .unset] [(.ref b2)]) := fun tq kq => g56 tq (st58 tq kq)
  have g61 : Gz p.tables e below A T58 (mkF m 49 #[.val (.int p1), .unset, .unset, .unset] [(.ref b2), (.ref b2)]) := fun tq kq => g60 tq (XS.dup X58.here hx rfl (hb hby at_48) rfl rfl kq)
  have g62 : Gz p.tables e below A T58 (mkF m 51 #[.val (.int p1), .unset, .unset, .unset] [(.int (7 : Int32)), (.ref b2), (.ref b2)]) := fun tq kq => g61 tq (XS.bipush X58.here hx rfl (hb hby at_49) kq)
  obtain ⟨T63, X63, e63, st63⟩ := getS2 X58 hx hZ hown (host := "") (Or.inl (hw _ (List.mem_of_getElem? (i := 18) rfl))) Via.refl e58 (S_TIME.ext K59) (g := (mkF m 51 #[.val (.int p1), .unset, .unset, .unset] [(.int (7 : Int32)), (.ref b2), (.ref b2)])) rfl (hb hby at_51)
  have g64 : Gz p.tables e below A T63 (mkF m 54 #[.val (.int p1), .unset, .unset, .unset] [(.ref (w 7)), (.int (7 : Int32)), (.ref b2), (.ref b2)]) := fun tq kq => g62 tq (st63 tq kq)
  obtain ⟨cl65, Ar65, q65, Sz65, Nn65, Hh65, G65⟩ := V_b2
  have hin65 : ¬ ((7 : Int32) < 0 ∨ cl65.slots.size ≤ (7 : Int32).toNatClampNeg) := inb_of Sz65 ⟨by decide, by decide⟩
  obtain ⟨T66, h66, X66, e66, W66, st66⟩ := stR X63 hx hZ e63 Ar65 (j := (7 : Int32)) hin65 rfl (Sto.ofV Ar65 q65 O2 (Ins.self (((hE 7 (by decide)).ext K59)))) (g := (mkF m 54 #[.val (.int p1), .unset, .unset, .unset] [(.ref (w 7)), (.int (7 : Int32)), (.ref b2), (.ref b2)])) rfl rfl (hb hby at_54)
  have V_b2 : Arv Z h66 b2 k2 (.object "litlex/core/LiteralKind") (12 : Int32) [(.ref (w 0)), (.ref (w 1)), (.ref (w 2)), (.ref (w 3)), (.ref (w 4)), (.ref (w 5)), (.ref (w 6)), (.ref (w 7)), .null, .null, .null, .null] .null := Arv.set Ar65 q65 Sz65 Nn65 Hh65 G65 rfl W66 7 rfl (Nat.le_of_ble_eq_true rfl)
  have K67 := own_extW K59 W66 sz_b2
  have N66 := Fr.snoc X66 N58 g_b2
  have g68 : Gz p.tables e below A T66 (mkF m 55 #[.val (.int p1), .unset, .unset, .unset] [(.ref b2)]) := fun tq kq => g64 tq (st66 tq kq)
  have g69 : Gz p.tables e below A T66 (mkF m 56 #[.val (.int p1), .unset, .unset, .unset] [(.ref b2), (.ref b2)]) := fun tq kq => g68 tq (XS.dup X66.here hx rfl (hb hby at_55) rfl rfl kq)
  have g70 : Gz p.tables e below A T66 (mkF m 58 #[.val (.int p1), .unset, .unset, .unset] [(.int (8 : Int32)), (.ref b2), (.ref b2)]) := fun tq kq => g69 tq (XS.bipush X66.here hx rfl (hb hby at_56) kq)
  obtain ⟨T71, X71, e71, st71⟩ := getS2 X66 hx hZ hown (host := "") (Or.inl (hw _ (List.mem_of_getElem? (i := 20) rfl))) Via.refl e66 (S_TIMESTAMP.ext K67) (g := (mkF m 58 #[.val (.int p1), .unset, .unset, .unset] [(.int (8 : Int32)), (.ref b2), (.ref b2)])) rfl (hb hby at_58)
  have g72 : Gz p.tables e below A T71 (mkF m 61 #[.val (.int p1), .unset, .unset, .unset] [(.ref (w 8)), (.int (8 : Int32)), (.ref b2), (.ref b2)]) := fun tq kq => g70 tq (st71 tq kq)
  obtain ⟨cl73, Ar73, q73, Sz73, Nn73, Hh73, G73⟩ := V_b2
  have hin73 : ¬ ((8 : Int32) < 0 ∨ cl73.slots.size ≤ (8 : Int32).toNatClampNeg) := inb_of Sz73 ⟨by decide, by decide⟩
  obtain ⟨T74, h74, X74, e74, W74, st74⟩ := stR X71 hx hZ e71 Ar73 (j := (8 : Int32)) hin73 rfl (Sto.ofV Ar73 q73 O2 (Ins.self (((hE 8 (by decide)).ext K67)))) (g := (mkF m 61 #[.val (.int p1), .unset, .unset, .unset] [(.ref (w 8)), (.int (8 : Int32)), (.ref b2), (.ref b2)])) rfl rfl (hb hby at_61)
  have V_b2 : Arv Z h74 b2 k2 (.object "litlex/core/LiteralKind") (12 : Int32) [(.ref (w 0)), (.ref (w 1)), (.ref (w 2)), (.ref (w 3)), (.ref (w 4)), (.ref (w 5)), (.ref (w 6)), (.ref (w 7)), (.ref (w 8)), .null, .null, .null] .null := Arv.set Ar73 q73 Sz73 Nn73 Hh73 G73 rfl W74 8 rfl (Nat.le_of_ble_eq_true rfl)
  have K75 := own_extW K67 W74 sz_b2
  have N74 := Fr.snoc X74 N66 g_b2
  have g76 : Gz p.tables e below A T74 (mkF m 62 #[.val (.int p1), .unset, .unset, .unset] [(.ref b2)]) := fun tq kq => g72 tq (st74 tq kq)
  have g77 : Gz p.tables e below A T74 (mkF m 63 #[.val (.int p1), .unset, .unset, .unset] [(.ref b2), (.ref b2)]) := fun tq kq => g76 tq (XS.dup X74.here hx rfl (hb hby at_62) rfl rfl kq)
  have g78 : Gz p.tables e below A T74 (mkF m 65 #[.val (.int p1), .unset, .unset, .unset] [(.int (9 : Int32)), (.ref b2), (.ref b2)]) := fun tq kq => g77 tq (XS.bipush X74.here hx rfl (hb hby at_63) kq)
  obtain ⟨T79, X79, e79, st79⟩ := getS2 X74 hx hZ hown (host := "") (Or.inl (hw _ (List.mem_of_getElem? (i := 22) rfl))) Via.refl e74 (S_INTERVAL.ext K75) (g := (mkF m 65 #[.val (.int p1), .unset, .unset, .unset] [(.int (9 : Int32)), (.ref b2), (.ref b2)])) rfl (hb hby at_65)
  have g80 : Gz p.tables e below A T79 (mkF m 68 #[.val (.int p1), .unset, .unset, .unset] [(.ref (w 9)), (.int (9 : Int32)), (.ref b2), (.ref b2)]) := fun tq kq => g78 tq (st79 tq kq)
  obtain ⟨cl81, Ar81, q81, Sz81, Nn81, Hh81, G81⟩ := V_b2
  have hin81 : ¬ ((9 : Int32) < 0 ∨ cl81.slots.size ≤ (9 : Int32).toNatClampNeg) := inb_of Sz81 ⟨by decide, by decide⟩
  obtain ⟨T82, h82, X82, e82, W82, st82⟩ := stR X79 hx hZ e79 Ar81 (j := (9 : Int32)) hin81 rfl (Sto.ofV Ar81 q81 O2 (Ins.self (((hE 9 (by decide)).ext K75)))) (g := (mkF m 68 #[.val (.int p1), .unset, .unset, .unset] [(.ref (w 9)), (.int (9 : Int32)), (.ref b2), (.ref b2)])) rfl rfl (hb hby at_68)
  have V_b2 : Arv Z h82 b2 k2 (.object "litlex/core/LiteralKind") (12 : Int32) [(.ref (w 0)), (.ref (w 1)), (.ref (w 2)), (.ref (w 3)), (.ref (w 4)), (.ref (w 5)), (.ref (w 6)), (.ref (w 7)), (.ref (w 8)), (.ref (w 9)), .null, .null] .null := Arv.set Ar81 q81 Sz81 Nn81 Hh81 G81 rfl W82 9 rfl (Nat.le_of_ble_eq_true rfl)
  have K83 := own_extW K75 W82 sz_b2
  have N82 := Fr.snoc X82 N74 g_b2
  have g84 : Gz p.tables e below A T82 (mkF m 69 #[.val (.int p1), .unset, .unset, .unset] [(.ref b2)]) := fun tq kq => g80 tq (st82 tq kq)
  have g85 : Gz p.tables e below A T82 (mkF m 70 #[.val (.int p1), .unset, .unset, .unset] [(.ref b2), (.ref b2)]) := fun tq kq => g84 tq (XS.dup X82.here hx rfl (hb hby at_69) rfl rfl kq)
  have g86 : Gz p.tables e below A T82 (mkF m 72 #[.val (.int p1), .unset, .unset, .unset] [(.int (10 : Int32)), (.ref b2), (.ref b2)]) := fun tq kq => g85 tq (XS.bipush X82.here hx rfl (hb hby at_70) kq)
  obtain ⟨T87, X87, e87, st87⟩ := getS2 X82 hx hZ hown (host := "") (Or.inl (hw _ (List.mem_of_getElem? (i := 24) rfl))) Via.refl e82 (S_COMMENT.ext K83) (g := (mkF m 72 #[.val (.int p1), .unset, .unset, .unset] [(.int (10 : Int32)), (.ref b2), (.ref b2)])) rfl (hb hby at_72)
  have g88 : Gz p.tables e below A T87 (mkF m 75 #[.val (.int p1), .unset, .unset, .unset] [(.ref (w 10)), (.int (10 : Int32)), (.ref b2), (.ref b2)]) := fun tq kq => g86 tq (st87 tq kq)
  obtain ⟨cl89, Ar89, q89, Sz89, Nn89, Hh89, G89⟩ := V_b2
  have hin89 : ¬ ((10 : Int32) < 0 ∨ cl89.slots.size ≤ (10 : Int32).toNatClampNeg) := inb_of Sz89 ⟨by decide, by decide⟩
  obtain ⟨T90, h90, X90, e90, W90, st90⟩ := stR X87 hx hZ e87 Ar89 (j := (10 : Int32)) hin89 rfl (Sto.ofV Ar89 q89 O2 (Ins.self (((hE 10 (by decide)).ext K83)))) (g := (mkF m 75 #[.val (.int p1), .unset, .unset, .unset] [(.ref (w 10)), (.int (10 : Int32)), (.ref b2), (.ref b2)])) rfl rfl (hb hby at_75)
  have V_b2 : Arv Z h90 b2 k2 (.object "litlex/core/LiteralKind") (12 : Int32) [(.ref (w 0)), (.ref (w 1)), (.ref (w 2)), (.ref (w 3)), (.ref (w 4)), (.ref (w 5)), (.ref (w 6)), (.ref (w 7)), (.ref (w 8)), (.ref (w 9)), (.ref (w 10)), .null] .null := Arv.set Ar89 q89 Sz89 Nn89 Hh89 G89 rfl W90 10 rfl (Nat.le_of_ble_eq_true rfl)
  have K91 := own_extW K83 W90 sz_b2
  have N90 := Fr.snoc X90 N82 g_b2
  have g92 : Gz p.tables e below A T90 (mkF m 76 #[.val (.int p1), .unset, .unset, .unset] [(.ref b2)]) := fun tq kq => g88 tq (st90 tq kq)
  have g93 : Gz p.tables e below A T90 (mkF m 77 #[.val (.int p1), .unset, .unset, .unset] [(.ref b2), (.ref b2)]) := fun tq kq => g92 tq (XS.dup X90.here hx rfl (hb hby at_76) rfl rfl kq)
  have g94 : Gz p.tables e below A T90 (mkF m 79 #[.val (.int p1), .unset, .unset, .unset] [(.int (11 : Int32)), (.ref b2), (.ref b2)]) := fun tq kq => g93 tq (XS.bipush X90.here hx rfl (hb hby at_77) kq)
  obtain ⟨T95, X95, e95, st95⟩ := getS2 X90 hx hZ hown (host := "") (Or.inl (hw _ (List.mem_of_getElem? (i := 26) rfl))) Via.refl e90 (S_IDENTIFIER.ext K91) (g := (mkF m 79 #[.val (.int p1), .unset, .unset, .unset] [(.int (11 : Int32)), (.ref b2), (.ref b2)])) rfl (hb hby at_79)
  have g96 : Gz p.tables e below A T95 (mkF m 82 #[.val (.int p1), .unset, .unset, .unset] [(.ref (w 11)), (.int (11 : Int32)), (.ref b2), (.ref b2)]) := fun tq kq => g94 tq (st95 tq kq)
  obtain ⟨cl97, Ar97, q97, Sz97, Nn97, Hh97, G97⟩ := V_b2
  have hin97 : ¬ ((11 : Int32) < 0 ∨ cl97.slots.size ≤ (11 : Int32).toNatClampNeg) := inb_of Sz97 ⟨by decide, by decide⟩
  obtain ⟨T98, h98, X98, e98, W98, st98⟩ := stR X95 hx hZ e95 Ar97 (j := (11 : Int32)) hin97 rfl (Sto.ofV Ar97 q97 O2 (Ins.self (((hE 11 (by decide)).ext K91)))) (g := (mkF m 82 #[.val (.int p1), .unset, .unset, .unset] [(.ref (w 11)), (.int (11 : Int32)), (.ref b2), (.ref b2)])) rfl rfl (hb hby at_82)
  have V_b2 : Arv Z h98 b2 k2 (.object "litlex/core/LiteralKind") (12 : Int32) [(.ref (w 0)), (.ref (w 1)), (.ref (w 2)), (.ref (w 3)), (.ref (w 4)), (.ref (w 5)), (.ref (w 6)), (.ref (w 7)), (.ref (w 8)), (.ref (w 9)), (.ref (w 10)), (.ref (w 11))] .null := Arv.set Ar97 q97 Sz97 Nn97 Hh97 G97 rfl W98 11 rfl (Nat.le_of_ble_eq_true rfl)
  have K99 := own_extW K91 W98 sz_b2
  have N98 := Fr.snoc X98 N90 g_b2
  have g100 : Gz p.tables e below A T98 (mkF m 83 #[.val (.int p1), .unset, .unset, .unset] [(.ref b2)]) := fun tq kq => g96 tq (st98 tq kq)
  have g101 : Gz p.tables e below A T98 (mkF m 84 #[.val (.int p1), .val (.ref b2), .unset, .unset] []) := fun tq kq => g100 tq (XS.astoreN X98.here hx rfl (hb hby at_83) rfl rfl (l' := #[.val (.int p1), .val (.ref b2), .unset, .unset]) rfl kq)
  have g102 : Gz p.tables e below A T98 (mkF m 85 #[.val (.int p1), .val (.ref b2), .unset, .unset] [(.int p1)]) := fun tq kq => g101 tq (XS.iloadN X98.here hx rfl (hb hby at_84) rfl kq)
  have g103 : Gz p.tables e below A T98 (mkF m 87 #[.val (.int p1), .val (.ref b2), .unset, .unset] [(.int (2147483647 : Int32)), (.int p1)]) := fun tq kq => g102 tq (X98.ldcInt hx hown (mvT hZ (hw _ (List.mem_of_getElem? (i := 28) rfl))) (g := (mkF m 85 #[.val (.int p1), .val (.ref b2), .unset, .unset] [(.int p1)])) rfl (hb hby at_85) _ kq)
  have g104 : Gz p.tables e below A T98 (mkF m 88 #[.val (.int p1), .val (.ref b2), .unset, .unset] [(.int (p1 &&& (2147483647 : Int32)))]) := fun tq kq => g103 tq (XS.iand X98.here hx rfl (hb hby at_87) rfl kq)
  have g105 : Gz p.tables e below A T98 (mkF m 90 #[.val (.int p1), .val (.ref b2), .unset, .unset] [(.int (12 : Int32)), (.int (p1 &&& (2147483647 : Int32)))]) := fun tq kq => g104 tq (XS.bipush X98.here hx rfl (hb hby at_88) kq)
  have g106 : Gz p.tables e below A T98 (mkF m 91 #[.val (.int p1), .val (.ref b2), .unset, .unset] [(.int ((p1 &&& (2147483647 : Int32)) % (12 : Int32)))]) := fun tq kq => g105 tq (iremM X98 hx rfl (hb hby at_90) rfl (by decide) kq)
  rw [hiv] at g106
  have g107 : Gz p.tables e below A T98 (mkF m 92 #[.val (.int p1), .val (.ref b2), .val (.int iv), .unset] []) := fun tq kq => g106 tq (XS.istoreN X98.here hx rfl (hb hby at_91) rfl (l' := #[.val (.int p1), .val (.ref b2), .val (.int iv), .unset]) rfl kq)
  have g108 : Gz p.tables e below A T98 (mkF m 93 #[.val (.int p1), .val (.ref b2), .val (.int iv), .unset] [(.int iv)]) := fun tq kq => g107 tq (XS.iloadN X98.here hx rfl (hb hby at_92) rfl kq)
  have g109 : Gz p.tables e below A T98 (mkF m 95 #[.val (.int p1), .val (.ref b2), .val (.int iv), .unset] [(.int (10 : Int32)), (.int iv)]) := fun tq kq => g108 tq (XS.bipush X98.here hx rfl (hb hby at_93) kq)
  by_cases hc95 : iv < (10 : Int32)
  · have g110 : Gz p.tables e below A T98 (mkF m 98 #[.val (.int p1), .val (.ref b2), .val (.int iv), .unset] []) := fun tq kq => g109 tq (XS.icmpNo X98.here hx rfl (hb hby at_95) rfl (tlt hc95).2.1 kq)
    have g111 : Gz p.tables e below A T98 (mkF m 99 #[.val (.int p1), .val (.ref b2), .val (.int iv), .unset] [(.int (1 : Int32))]) := fun tq kq => g110 tq (XS.iconst X98.here hx rfl (hb hby at_98) kq)
    have g112 : Gz p.tables e below A T98 (mkF m 103 #[.val (.int p1), .val (.ref b2), .val (.int iv), .unset] [(.int (1 : Int32))]) := fun tq kq => g111 tq (XS.goto X98.here hx rfl (pc0 := 99) (pc' := 103) rfl (hb hby at_99) (by decide) (by decide) kq)
    have g113 : Gz p.tables e below A T98 (mkF m 104 #[.val (.int p1), .val (.ref b2), .val (.int iv), .val (.int (1 : Int32))] []) := fun tq kq => g112 tq (XS.istoreN X98.here hx rfl (hb hby at_103) rfl (l' := #[.val (.int p1), .val (.ref b2), .val (.int iv), .val (.int (1 : Int32))]) rfl kq)
    have g114 : Gz p.tables e below A T98 (mkF m 105 #[.val (.int p1), .val (.ref b2), .val (.int iv), .val (.int (1 : Int32))] [(.ref b2)]) := fun tq kq => g113 tq (XS.aloadN X98.here hx rfl (hb hby at_104) rfl rfl kq)
    have g115 : Gz p.tables e below A T98 (mkF m 106 #[.val (.int p1), .val (.ref b2), .val (.int iv), .val (.int (1 : Int32))] [(.int iv), (.ref b2)]) := fun tq kq => g114 tq (XS.iloadN X98.here hx rfl (hb hby at_105) rfl kq)
    obtain ⟨cl116, Ar116, q116, Sz116, Nn116, Hh116, G116⟩ := id V_b2
    have hin116 : ¬ (iv < 0 ∨ cl116.slots.size ≤ iv.toNatClampNeg) := inb_of Sz116 (own_inb 12 (by decide) hlo hhi)
    have hat116 : cl116.slots[iv.toNatClampNeg]? = some (.ref (w j)) := Has.at Hh116 hin116 (by rw [hij]; exact own_list12 w j hj)
    have g117 : Gz p.tables e below A T98 (mkF m 107 #[.val (.int p1), .val (.ref b2), .val (.int iv), .val (.int (1 : Int32))] [(.ref (w j))]) := fun tq kq => g115 tq (X98.aaload hx (j := iv) (v := (.ref (w j))) (by rw [e98]; exact Ar116.1) (State.isArrayOf_alike hZ.alike Ar116.2.1) rfl Ar116.2.2 hin116 hat116 (g := (mkF m 106 #[.val (.int p1), .val (.ref b2), .val (.int iv), .val (.int (1 : Int32))] [(.int iv), (.ref b2)])) rfl rfl (hb hby at_106) _ kq)
    have q2 : (10 : Int32).toInt = 10 := by decide
    have q1 := own_lt hc95
    have hbb : (j < 10 ∧ (1 : Int32) = 1) ∨ (10 ≤ j ∧ (1 : Int32) = 0) := Or.inl ⟨by omega, rfl⟩
    have Ej := ((hE j hj).ext K99)
    obtain ⟨cq118, kq118, q118a, q118b, q118c⟩ := isOf hZ e98 Ej
    obtain ⟨_, _, ⟨T118, L118, k118, n118⟩, -, X118, ⟨Lc118, hQ118, l118, y118, z118⟩, st118⟩ := X98.virtualBack hx (y := (⟨"litlex/core/LiteralKind", "isLiteral", "()Z"⟩ : MethodName)) (z := (⟨"litlex/core/LiteralKind", "isLiteral", "()Z"⟩ : MethodName)) hown (mvT hZ (hw _ (List.mem_of_getElem? (i := 29) rfl))) (mvT hZ (hw _ (List.mem_of_getElem? (i := 30) rfl))) (notFace_of_selects (args := #[]) (mvT hZ (hw _ (List.mem_of_getElem? (i := 32) rfl)))) (mvT hZ (hw _ (List.mem_of_getElem? (i := 32) rfl))) (mvT hZ (hw _ (List.mem_of_getElem? (i := 31) rfl))) (by decide) (backOf (W := 0) (rm1 l Z a0 hw [] w j (1 : Int32) h98 n0 (Nat.le_trans Z0 K99.1) (S_COMMENT.ext K99) (S_IDENTIFIER.ext K99) hj hinj hbb) hZ (hw _ (List.mem_of_getElem? (i := 33) rfl)) (hw _ (List.mem_of_getElem? (i := 3) rfl)) (by decide) (by decide)) q118a q118c (g := (mkF m 107 #[.val (.int p1), .val (.ref b2), .val (.int iv), .val (.int (1 : Int32))] [(.ref (w j))])) rfl (by rw [hml]; rfl) (Steps.refl _) (argsL := []) (rest := []) (lenOf pd0_0 rfl) rfl (by show 2 * 0 + _ ≤ _; exact Nat.le_of_eq rfl) (hb hby at_107) (fun _ _ => ⟨rfl, e98, (by decide : 1 + 0 ≤ _), (by decide : 12 + 0 ≤ _)⟩)
    dsimp only [Pt.U, Pt.locs, Pt.cells, Pt.slots] at X118 l118 y118 z118 st118 hQ118
    subst l118 y118 z118
    obtain ⟨rfl, N118q, e118⟩ := hQ118
    have N118 := Fr.app N98 N118q
    have g119 : Gz p.tables e below A T118 (mkF m 110 #[.val (.int p1), .val (.ref b2), .val (.int iv), .val (.int (1 : Int32))] [(.int (1 : Int32))]) := fun tq kq => g117 tq (st118.trans kq)
    have g120 : Gz p.tables e below A T118 (mkF m 111 #[.val (.int p1), .val (.ref b2), .val (.int iv), .val (.int (1 : Int32))] [(.int (1 : Int32)), (.int (1 : Int32))]) := fun tq kq => g119 tq (XS.iloadN X118.here hx rfl (hb hby at_110) rfl kq)
    have g121 : Gz p.tables e below A T118 (mkF m 114 #[.val (.int p1), .val (.ref b2), .val (.int iv), .val (.int (1 : Int32))] []) := fun tq kq => g120 tq (XS.icmpNo X118.here hx rfl (hb hby at_111) rfl (teq rfl).2 kq)
    have g122 : Gz p.tables e below A T118 (mkF m 115 #[.val (.int p1), .val (.ref b2), .val (.int iv), .val (.int (1 : Int32))] [(.int (1 : Int32))]) := fun tq kq => g121 tq (XS.iconst X118.here hx rfl (hb hby at_114) kq)
    have g123 : Gz p.tables e below A T118 (mkF m 119 #[.val (.int p1), .val (.ref b2), .val (.int iv), .val (.int (1 : Int32))] [(.int (1 : Int32))]) := fun tq kq => g122 tq (XS.goto X118.here hx rfl (pc0 := 115) (pc' := 119) rfl (hb hby at_115) (by decide) (by decide) kq)
    obtain ⟨fs, hr, hrun, hended, hW, hsame⟩ := X118.leave (v := some (.int (1 : Int32))) (fun h => by rw [Bd.returns] at h; cases h)
    refine ⟨_, _, g123 _ (retN X118 hx (t := .boolean) Bd.returns (by simp) (hb hby at_119) hr), hrun, hended, _, _, rfl, ?_, ⟨_, rfl⟩, hW, hsame.mono (by decide) (by decide)⟩
    show Q0 Z p1 w iv j h0 n0 _ T118.heap _
    rw [e118]
    exact ⟨rfl, N118⟩
  · have g124 : Gz p.tables e below A T98 (mkF m 102 #[.val (.int p1), .val (.ref b2), .val (.int iv), .unset] []) := fun tq kq => g109 tq (XS.icmpYes X98.here hx rfl (pc0 := 95) (pc' := 102) rfl (hb hby at_95) rfl (flt hc95).2.1 (by decide) (by decide) kq)
    have g125 : Gz p.tables e below A T98 (mkF m 103 #[.val (.int p1), .val (.ref b2), .val (.int iv), .unset] [(.int (0 : Int32))]) := fun tq kq => g124 tq (XS.iconst X98.here hx rfl (hb hby at_102) kq)
    have g126 : Gz p.tables e below A T98 (mkF m 104 #[.val (.int p1), .val (.ref b2), .val (.int iv), .val (.int (0 : Int32))] []) := fun tq kq => g125 tq (XS.istoreN X98.here hx rfl (hb hby at_103) rfl (l' := #[.val (.int p1), .val (.ref b2), .val (.int iv), .val (.int (0 : Int32))]) rfl kq)
    have g127 : Gz p.tables e below A T98 (mkF m 105 #[.val (.int p1), .val (.ref b2), .val (.int iv), .val (.int (0 : Int32))] [(.ref b2)]) := fun tq kq => g126 tq (XS.aloadN X98.here hx rfl (hb hby at_104) rfl rfl kq)
    have g128 : Gz p.tables e below A T98 (mkF m 106 #[.val (.int p1), .val (.ref b2), .val (.int iv), .val (.int (0 : Int32))] [(.int iv), (.ref b2)]) := fun tq kq => g127 tq (XS.iloadN X98.here hx rfl (hb hby at_105) rfl kq)
    obtain ⟨cl129, Ar129, q129, Sz129, Nn129, Hh129, G129⟩ := id V_b2
    have hin129 : ¬ (iv < 0 ∨ cl129.slots.size ≤ iv.toNatClampNeg) := inb_of Sz129 (own_inb 12 (by decide) hlo hhi)
    have hat129 : cl129.slots[iv.toNatClampNeg]? = some (.ref (w j)) := Has.at Hh129 hin129 (by rw [hij]; exact own_list12 w j hj)
    have g130 : Gz p.tables e below A T98 (mkF m 107 #[.val (.int p1), .val (.ref b2), .val (.int iv), .val (.int (0 : Int32))] [(.ref (w j))]) := fun tq kq => g128 tq (X98.aaload hx (j := iv) (v := (.ref (w j))) (by rw [e98]; exact Ar129.1) (State.isArrayOf_alike hZ.alike Ar129.2.1) rfl Ar129.2.2 hin129 hat129 (g := (mkF m 106 #[.val (.int p1), .val (.ref b2), .val (.int iv), .val (.int (0 : Int32))] [(.int iv), (.ref b2)])) rfl rfl (hb hby at_106) _ kq)
    have q2 : (10 : Int32).toInt = 10 := by decide
    have q1 := own_nlt hc95
    have hbb : (j < 10 ∧ (0 : Int32) = 1) ∨ (10 ≤ j ∧ (0 : Int32) = 0) := Or.inr ⟨by omega, rfl⟩
    have Ej := ((hE j hj).ext K99)
    obtain ⟨cq131, kq131, q131a, q131b, q131c⟩ := isOf hZ e98 Ej
    obtain ⟨_, _, ⟨T131, L131, k131, n131⟩, -, X131, ⟨Lc131, hQ131, l131, y131, z131⟩, st131⟩ := X98.virtualBack hx (y := (⟨"litlex/core/LiteralKind", "isLiteral", "()Z"⟩ : MethodName)) (z := (⟨"litlex/core/LiteralKind", "isLiteral", "()Z"⟩ : MethodName)) hown (mvT hZ (hw _ (List.mem_of_getElem? (i := 29) rfl))) (mvT hZ (hw _ (List.mem_of_getElem? (i := 30) rfl))) (notFace_of_selects (args := #[]) (mvT hZ (hw _ (List.mem_of_getElem? (i := 32) rfl)))) (mvT hZ (hw _ (List.mem_of_getElem? (i := 32) rfl))) (mvT hZ (hw _ (List.mem_of_getElem? (i := 31) rfl))) (by decide) (backOf (W := 0) (rm1 l Z a0 hw [] w j (0 : Int32) h98 n0 (Nat.le_trans Z0 K99.1) (S_COMMENT.ext K99) (S_IDENTIFIER.ext K99) hj hinj hbb) hZ (hw _ (List.mem_of_getElem? (i := 33) rfl)) (hw _ (List.mem_of_getElem? (i := 3) rfl)) (by decide) (by decide)) q131a q131c (g := (mkF m 107 #[.val (.int p1), .val (.ref b2), .val (.int iv), .val (.int (0 : Int32))] [(.ref (w j))])) rfl (by rw [hml]; rfl) (Steps.refl _) (argsL := []) (rest := []) (lenOf pd0_0 rfl) rfl (by show 2 * 0 + _ ≤ _; exact Nat.le_of_eq rfl) (hb hby at_107) (fun _ _ => ⟨rfl, e98, (by decide : 1 + 0 ≤ _), (by decide : 12 + 0 ≤ _)⟩)
    dsimp only [Pt.U, Pt.locs, Pt.cells, Pt.slots] at X131 l131 y131 z131 st131 hQ131
    subst l131 y131 z131
    obtain ⟨rfl, N131q, e131⟩ := hQ131
    have N131 := Fr.app N98 N131q
    have g132 : Gz p.tables e below A T131 (mkF m 110 #[.val (.int p1), .val (.ref b2), .val (.int iv), .val (.int (0 : Int32))] [(.int (0 : Int32))]) := fun tq kq => g130 tq (st131.trans kq)
    have g133 : Gz p.tables e below A T131 (mkF m 111 #[.val (.int p1), .val (.ref b2), .val (.int iv), .val (.int (0 : Int32))] [(.int (0 : Int32)), (.int (0 : Int32))]) := fun tq kq => g132 tq (XS.iloadN X131.here hx rfl (hb hby at_110) rfl kq)
    have g134 : Gz p.tables e below A T131 (mkF m 114 #[.val (.int p1), .val (.ref b2), .val (.int iv), .val (.int (0 : Int32))] []) := fun tq kq => g133 tq (XS.icmpNo X131.here hx rfl (hb hby at_111) rfl (teq rfl).2 kq)
    have g135 : Gz p.tables e below A T131 (mkF m 115 #[.val (.int p1), .val (.ref b2), .val (.int iv), .val (.int (0 : Int32))] [(.int (1 : Int32))]) := fun tq kq => g134 tq (XS.iconst X131.here hx rfl (hb hby at_114) kq)
    have g136 : Gz p.tables e below A T131 (mkF m 119 #[.val (.int p1), .val (.ref b2), .val (.int iv), .val (.int (0 : Int32))] [(.int (1 : Int32))]) := fun tq kq => g135 tq (XS.goto X131.here hx rfl (pc0 := 115) (pc' := 119) rfl (hb hby at_115) (by decide) (by decide) kq)
    obtain ⟨fs, hr, hrun, hended, hW, hsame⟩ := X131.leave (v := some (.int (1 : Int32))) (fun h => by rw [Bd.returns] at h; cases h)
    refine ⟨_, _, g136 _ (retN X131 hx (t := .boolean) Bd.returns (by simp) (hb hby at_119) hr), hrun, hended, _, _, rfl, ?_, ⟨_, rfl⟩, hW, hsame.mono (by decide) (by decide)⟩
    show Q0 Z p1 w iv j h0 n0 _ T131.heap _
    rw [e131]
    exact ⟨rfl, N131⟩

set_option maxRecDepth 65536 in
set_option maxHeartbeats 40000000 in
theorem comes_1 {Post : Tables → Env → Array Value → State → Outcome → State → Prop} (hpost : ∀ tb e args s v u, (limb_1_1.after args s (.returned v) u = true ∧ limb_1_2.after args s (.returned v) u = true ∧ True) → FrameEnd s (.returned v) u (Jvm.fieldLocs frame_1_writes args s ++ Jvm.arrayLocs frame_1_arrays args s ++ Jvm.staticLocs frame_1_statics s) 16 128 → Post tb e args s (.returned v) u) :
    ArmFor flags0 classFile x code maxLocals ret World_1 tables_1 room_1 Calls_1 rest_1 Pre_1 Post := by
  intro l hfl _ _ p e ha hc hk s m args below hf hA hF happ hP
  obtain ⟨hcalls, hrest, hpre⟩ := hP
  obtain ⟨-, -, -, hnamed, -, -, -, hat⟩ := (Spec.applies_iff hf).mp happ
  obtain ⟨hg, hn⟩ := and_e (Cond.before_iff.mp (show (Jvm.Cond.and given_1 narrow_1).before args s = true from hpre))
  obtain ⟨hcnt, hg⟩ := and_e hg
  have ga0 := hg
  obtain ⟨w0, rfl⟩ : ∃ w0 : Value, args = #[w0] := by
    have hs : args.size = 1 := by simpa [Cond.value, given_1] using hcnt
    obtain ⟨L⟩ := args
    match L, hs with
    | [w0], _ => exact ⟨w0, rfl⟩
  have hw := fun d (hd : d ∈ tables_1) => atoms_spec (ws := Jvm.Cond.code x code maxLocals ret :: tables_1) hat d (List.mem_cons_of_mem _ hd)
  have hfit : Fit s := fun {y c} hc i hi => by
    obtain ⟨ha, rfl⟩ := Array.getElem?_eq_some_iff.mp hc
    have q := List.all_eq_true.mp ((Array.all_eq_true_iff_forall_mem.mp hF) _ (Array.getElem_mem ha)) i (List.mem_range.mpr hi)
    simpa [Array.getElem?_eq_getElem hi] using q
  obtain ⟨i0, ei0⟩ := is_v ga0
  obtain rfl : w0 = (.int i0) := Option.some.inj ei0
  obtain ⟨c0, hn⟩ := and_e hn
  obtain ⟨c1, hn⟩ := and_e hn
  obtain ⟨c2, hn⟩ := and_e hn
  obtain ⟨c3, hn⟩ := and_e hn
  obtain ⟨c4, hn⟩ := and_e hn
  obtain ⟨c5, hn⟩ := and_e hn
  obtain ⟨c6, hn⟩ := and_e hn
  obtain ⟨c7, hn⟩ := and_e hn
  obtain ⟨c8, hn⟩ := and_e hn
  obtain ⟨c9, hn⟩ := and_e hn
  obtain ⟨c10, hn⟩ := and_e hn
  obtain ⟨c11, hn⟩ := and_e hn
  obtain ⟨c12, hn⟩ := and_e hn
  obtain ⟨c13, hn⟩ := and_e hn
  obtain ⟨c14, hn⟩ := and_e hn
  obtain ⟨c15, hn⟩ := and_e hn
  obtain ⟨c16, hn⟩ := and_e hn
  obtain ⟨c17, hn⟩ := and_e hn
  obtain ⟨c18, hn⟩ := and_e hn
  obtain ⟨c19, hn⟩ := and_e hn
  obtain ⟨c20, hn⟩ := and_e hn
  obtain ⟨c21, hn⟩ := and_e hn
  obtain ⟨c22, hn⟩ := and_e hn
  have c23 := hn
  obtain ⟨w_CHARACTER, ev_CHARACTER⟩ := exa_v c0
  have E_CHARACTER := Exa.start ev_CHARACTER c0
  have S_CHARACTER : Sta s s.heap "litlex/core/LiteralKind" "CHARACTER" "Llitlex/core/LiteralKind;" (.ref w_CHARACTER) := Sta.start ev_CHARACTER (Or.inr ⟨(hw _ (List.mem_of_getElem? (i := 3) rfl)), (hw _ (List.mem_of_getElem? (i := 4) rfl))⟩)
  obtain ⟨w_NATIONAL, ev_NATIONAL⟩ := exa_v c1
  have E_NATIONAL := Exa.start ev_NATIONAL c1
  have S_NATIONAL : Sta s s.heap "litlex/core/LiteralKind" "NATIONAL" "Llitlex/core/LiteralKind;" (.ref w_NATIONAL) := Sta.start ev_NATIONAL (Or.inr ⟨(hw _ (List.mem_of_getElem? (i := 3) rfl)), (hw _ (List.mem_of_getElem? (i := 7) rfl))⟩)
  obtain ⟨w_UNICODE, ev_UNICODE⟩ := exa_v c2
  have E_UNICODE := Exa.start ev_UNICODE c2
  have S_UNICODE : Sta s s.heap "litlex/core/LiteralKind" "UNICODE" "Llitlex/core/LiteralKind;" (.ref w_UNICODE) := Sta.start ev_UNICODE (Or.inr ⟨(hw _ (List.mem_of_getElem? (i := 3) rfl)), (hw _ (List.mem_of_getElem? (i := 9) rfl))⟩)
  obtain ⟨w_BINARY, ev_BINARY⟩ := exa_v c3
  have E_BINARY := Exa.start ev_BINARY c3
  have S_BINARY : Sta s s.heap "litlex/core/LiteralKind" "BINARY" "Llitlex/core/LiteralKind;" (.ref w_BINARY) := Sta.start ev_BINARY (Or.inr ⟨(hw _ (List.mem_of_getElem? (i := 3) rfl)), (hw _ (List.mem_of_getElem? (i := 11) rfl))⟩)
  obtain ⟨w_EXACT, ev_EXACT⟩ := exa_v c4
  have E_EXACT := Exa.start ev_EXACT c4
  have S_EXACT : Sta s s.heap "litlex/core/LiteralKind" "EXACT" "Llitlex/core/LiteralKind;" (.ref w_EXACT) := Sta.start ev_EXACT (Or.inr ⟨(hw _ (List.mem_of_getElem? (i := 3) rfl)), (hw _ (List.mem_of_getElem? (i := 13) rfl))⟩)
  obtain ⟨w_APPROXIMATE, ev_APPROXIMATE⟩ := exa_v c5
  have E_APPROXIMATE := Exa.start ev_APPROXIMATE c5
  have S_APPROXIMATE : Sta s s.heap "litlex/core/LiteralKind" "APPROXIMATE" "Llitlex/core/LiteralKind;" (.ref w_APPROXIMATE) := Sta.start ev_APPROXIMATE (Or.inr ⟨(hw _ (List.mem_of_getElem? (i := 3) rfl)), (hw _ (List.mem_of_getElem? (i := 15) rfl))⟩)
  obtain ⟨w_DATE, ev_DATE⟩ := exa_v c6
  have E_DATE := Exa.start ev_DATE c6
  have S_DATE : Sta s s.heap "litlex/core/LiteralKind" "DATE" "Llitlex/core/LiteralKind;" (.ref w_DATE) := Sta.start ev_DATE (Or.inr ⟨(hw _ (List.mem_of_getElem? (i := 3) rfl)), (hw _ (List.mem_of_getElem? (i := 17) rfl))⟩)
  obtain ⟨w_TIME, ev_TIME⟩ := exa_v c7
  have E_TIME := Exa.start ev_TIME c7
  have S_TIME : Sta s s.heap "litlex/core/LiteralKind" "TIME" "Llitlex/core/LiteralKind;" (.ref w_TIME) := Sta.start ev_TIME (Or.inr ⟨(hw _ (List.mem_of_getElem? (i := 3) rfl)), (hw _ (List.mem_of_getElem? (i := 19) rfl))⟩)
  obtain ⟨w_TIMESTAMP, ev_TIMESTAMP⟩ := exa_v c8
  have E_TIMESTAMP := Exa.start ev_TIMESTAMP c8
  have S_TIMESTAMP : Sta s s.heap "litlex/core/LiteralKind" "TIMESTAMP" "Llitlex/core/LiteralKind;" (.ref w_TIMESTAMP) := Sta.start ev_TIMESTAMP (Or.inr ⟨(hw _ (List.mem_of_getElem? (i := 3) rfl)), (hw _ (List.mem_of_getElem? (i := 21) rfl))⟩)
  obtain ⟨w_INTERVAL, ev_INTERVAL⟩ := exa_v c9
  have E_INTERVAL := Exa.start ev_INTERVAL c9
  have S_INTERVAL : Sta s s.heap "litlex/core/LiteralKind" "INTERVAL" "Llitlex/core/LiteralKind;" (.ref w_INTERVAL) := Sta.start ev_INTERVAL (Or.inr ⟨(hw _ (List.mem_of_getElem? (i := 3) rfl)), (hw _ (List.mem_of_getElem? (i := 23) rfl))⟩)
  obtain ⟨w_COMMENT, ev_COMMENT⟩ := exa_v c10
  have E_COMMENT := Exa.start ev_COMMENT c10
  have S_COMMENT : Sta s s.heap "litlex/core/LiteralKind" "COMMENT" "Llitlex/core/LiteralKind;" (.ref w_COMMENT) := Sta.start ev_COMMENT (Or.inr ⟨(hw _ (List.mem_of_getElem? (i := 3) rfl)), (hw _ (List.mem_of_getElem? (i := 25) rfl))⟩)
  obtain ⟨w_IDENTIFIER, ev_IDENTIFIER⟩ := exa_v c11
  have E_IDENTIFIER := Exa.start ev_IDENTIFIER c11
  have S_IDENTIFIER : Sta s s.heap "litlex/core/LiteralKind" "IDENTIFIER" "Llitlex/core/LiteralKind;" (.ref w_IDENTIFIER) := Sta.start ev_IDENTIFIER (Or.inr ⟨(hw _ (List.mem_of_getElem? (i := 3) rfl)), (hw _ (List.mem_of_getElem? (i := 27) rfl))⟩)
  have F_CHARACTER_ordinal := own_fldI c12 ev_CHARACTER
  have F_COMMENT_ordinal := own_fldI c13 ev_COMMENT
  have F_IDENTIFIER_ordinal := own_fldI c14 ev_IDENTIFIER
  have F_BINARY_ordinal := own_fldI c15 ev_BINARY
  have F_UNICODE_ordinal := own_fldI c16 ev_UNICODE
  have F_TIME_ordinal := own_fldI c17 ev_TIME
  have F_EXACT_ordinal := own_fldI c18 ev_EXACT
  have F_TIMESTAMP_ordinal := own_fldI c19 ev_TIMESTAMP
  have F_NATIONAL_ordinal := own_fldI c20 ev_NATIONAL
  have F_INTERVAL_ordinal := own_fldI c21 ev_INTERVAL
  have F_DATE_ordinal := own_fldI c22 ev_DATE
  have F_APPROXIMATE_ordinal := own_fldI c23 ev_APPROXIMATE
  obtain ⟨w, hwd⟩ : ∃ w : Nat → Addr, w = (fun k => [w_CHARACTER, w_NATIONAL, w_UNICODE, w_BINARY, w_EXACT, w_APPROXIMATE, w_DATE, w_TIME, w_TIMESTAMP, w_INTERVAL, w_COMMENT, w_IDENTIFIER].getD k 0) := ⟨_, rfl⟩
  have ho : ∀ k, k < 12 → Fld s s.heap (w k) "java/lang/Enum" "ordinal" "I" (.int k.toInt32) := by
    intro k hk
    subst hwd
    match k, hk with
    | 0, _ => exact F_CHARACTER_ordinal
    | 1, _ => exact F_NATIONAL_ordinal
    | 2, _ => exact F_UNICODE_ordinal
    | 3, _ => exact F_BINARY_ordinal
    | 4, _ => exact F_EXACT_ordinal
    | 5, _ => exact F_APPROXIMATE_ordinal
    | 6, _ => exact F_DATE_ordinal
    | 7, _ => exact F_TIME_ordinal
    | 8, _ => exact F_TIMESTAMP_ordinal
    | 9, _ => exact F_INTERVAL_ordinal
    | 10, _ => exact F_COMMENT_ordinal
    | 11, _ => exact F_IDENTIFIER_ordinal
    | k + 12, hk => exact absurd hk (by omega)
  have hE : ∀ k, k < 12 → Exa s s.heap (w k) "litlex/core/LiteralKind" := by
    intro k hk
    subst hwd
    match k, hk with
    | 0, _ => exact E_CHARACTER
    | 1, _ => exact E_NATIONAL
    | 2, _ => exact E_UNICODE
    | 3, _ => exact E_BINARY
    | 4, _ => exact E_EXACT
    | 5, _ => exact E_APPROXIMATE
    | 6, _ => exact E_DATE
    | 7, _ => exact E_TIME
    | 8, _ => exact E_TIMESTAMP
    | 9, _ => exact E_INTERVAL
    | 10, _ => exact E_COMMENT
    | 11, _ => exact E_IDENTIFIER
    | k + 12, hk => exact absurd hk (by omega)
  have hinj : ∀ i j, i < 12 → j < 12 → w i = w j → i = j := own_inj ho (by decide)
  have hr := own_rem i0 12 12 (by decide) (by decide)
  have hjv := own_nat hr.1
  have T_CHARACTER : Sta s s.heap "litlex/core/LiteralKind" "CHARACTER" "Llitlex/core/LiteralKind;" (.ref (w 0)) := by subst hwd; exact S_CHARACTER
  have T_NATIONAL : Sta s s.heap "litlex/core/LiteralKind" "NATIONAL" "Llitlex/core/LiteralKind;" (.ref (w 1)) := by subst hwd; exact S_NATIONAL
  have T_UNICODE : Sta s s.heap "litlex/core/LiteralKind" "UNICODE" "Llitlex/core/LiteralKind;" (.ref (w 2)) := by subst hwd; exact S_UNICODE
  have T_BINARY : Sta s s.heap "litlex/core/LiteralKind" "BINARY" "Llitlex/core/LiteralKind;" (.ref (w 3)) := by subst hwd; exact S_BINARY
  have T_EXACT : Sta s s.heap "litlex/core/LiteralKind" "EXACT" "Llitlex/core/LiteralKind;" (.ref (w 4)) := by subst hwd; exact S_EXACT
  have T_APPROXIMATE : Sta s s.heap "litlex/core/LiteralKind" "APPROXIMATE" "Llitlex/core/LiteralKind;" (.ref (w 5)) := by subst hwd; exact S_APPROXIMATE
  have T_DATE : Sta s s.heap "litlex/core/LiteralKind" "DATE" "Llitlex/core/LiteralKind;" (.ref (w 6)) := by subst hwd; exact S_DATE
  have T_TIME : Sta s s.heap "litlex/core/LiteralKind" "TIME" "Llitlex/core/LiteralKind;" (.ref (w 7)) := by subst hwd; exact S_TIME
  have T_TIMESTAMP : Sta s s.heap "litlex/core/LiteralKind" "TIMESTAMP" "Llitlex/core/LiteralKind;" (.ref (w 8)) := by subst hwd; exact S_TIMESTAMP
  have T_INTERVAL : Sta s s.heap "litlex/core/LiteralKind" "INTERVAL" "Llitlex/core/LiteralKind;" (.ref (w 9)) := by subst hwd; exact S_INTERVAL
  have T_COMMENT : Sta s s.heap "litlex/core/LiteralKind" "COMMENT" "Llitlex/core/LiteralKind;" (.ref (w 10)) := by subst hwd; exact S_COMMENT
  have T_IDENTIFIER : Sta s s.heap "litlex/core/LiteralKind" "IDENTIFIER" "Llitlex/core/LiteralKind;" (.ref (w 11)) := by subst hwd; exact S_IDENTIFIER
  obtain ⟨n, o, h1, h2, h3, _, L, rfl, ⟨rfl, N⟩, hq⟩ := rm0 l s _ hw tables_1 i0 w _ _ s.heap s.heap.size (Nat.le_refl _) T_CHARACTER T_NATIONAL T_UNICODE T_BINARY T_EXACT T_APPROXIMATE T_DATE T_TIME T_TIMESTAMP T_INTERVAL T_COMMENT T_IDENTIFIER rfl hr.1 hr.2 rfl (by omega) hjv hinj hE p e ha hc hk s m _ below hf ((Spec.applies_iff_loose hf).mp happ).1 ⟨rfl, State.Warmed39.refl s, rfl⟩ trivial
  refine ⟨n, _, h1, h2, h3, hpost _ _ _ _ _ _ ⟨Cond.after_iff.mpr rfl, Cond.after_iff.mpr (eq_i res_at (Term.int_eval (1)) rfl), trivial⟩ ⟨hq.1, hq.2.1, (hq.2.2.sift fun y hy => Or.inr (N y hy)).mono (by decide) (by decide)⟩⟩
theorem main_1_1 : Claimed_1_1 := comes_1 fun _ _ _ _ _ _ h hF => ⟨h.1, hF⟩
theorem main_1_2 : Claimed_1_2 := comes_1 fun _ _ _ _ _ _ h hF => ⟨h.2.1, hF⟩
end Jvm.Pilot.@@N@@
namespace Jvm.Pilot.@@N@@
open Jvm Jvm.ClassFile Sem Op Lib Jvm.Free Jvm.Stand Jvm.Pilot.@@N@@.Jvm.D
/-! MADE BY PROGRAM (witnessworld.py) out of the Statement's table words and the real class files: 13 classes; the members and pool entries that the words name. The judged class is class 1, her method 1. -/
namespace start1
open Jvm.ClassFile
def u (s : String) : CpInfo := .utf8 (stringToUtf16 s)
/-- a pool by its gaps: so many unusable entries, then the entry; so many at the end -/
def gap : Nat → List CpInfo → List CpInfo
  | 0, r => r
  | n + 1, r => .unusable :: gap n r
def poolList (es : List (Nat × CpInfo)) (last : Nat) : List CpInfo := es.foldr (fun e r => gap e.1 (e.2 :: r)) (gap last [])
def pool (es : List (Nat × CpInfo)) (last : Nat) : Array CpInfo := ⟨poolList es last⟩
def fileOf (pool : Array CpInfo) (this : Nat) (attrs : Array Attribute := #[]) (ms : Array MethodInfo := #[]) (fl : Nat := 33) (sup : Nat := 0) (ifs : Array Nat := #[]) (fds : Array FieldInfo := #[]) : ClassFile where
  minorVersion := 0
  majorVersion := 65
  constantPool := pool
  accessFlags := fl
  thisClass := this
  superClass := sup
  interfaces := ifs
  fields := fds
  methods := ms
  attributes := attrs
def plain (name : String) (sup : Option ClassId) : Class where
  name := name
  kind := .ordinary
  loader := none
  accessFlags := 33
  super := sup
  interfaces := #[]
  cf := none
  fields := #[]
  methods := #[]
  instanceTypes := #[]
  staticTypes := #[]
  resolved := #[]
  callSites := []
  init := .initialized
  statics := none
  mirror := none

def pool0 : Array CpInfo := pool [(5, u "<init>"), (0, u "()V"), (1, .class_ 10), (1, u "java/lang/Object")] 113

def k0m0 : Method := { name := "<init>", desc := "()V", sig := { parameters := [], returnType := none }, accessFlags := 1, code := none }
/-- java/lang/Object -/
def k0 : Class := { plain "java/lang/Object" none with
  accessFlags := 33
  interfaces := #[]
  cf := some (fileOf pool0 8 #[] #[{ accessFlags := 1, nameIndex := 5, descriptorIndex := 6, attributes := #[] }] 33 0 #[] #[])
  fields := #[]
  methods := #[k0m0]
  instanceTypes := #[]
  staticTypes := #[]
  resolved := Array.replicate 124 none
  statics := none }

def pool1 : Array CpInfo := pool [(2, .class_ 4), (1, u "java/lang/Object"), (0, u "<init>"), (0, u "()V"), (0, .class_ 8), (0, u "litlex/core/LiteralKind"), (0, .fieldref 7 10), (0, .nameAndType 11 12), (0, u "CHARACTER"), (0, u "Llitlex/core/LiteralKind;"), (0, .fieldref 7 14), (0, .nameAndType 15 12), (0, u "NATIONAL"), (0, .fieldref 7 17), (0, .nameAndType 18 12), (0, u "UNICODE"), (0, .fieldref 7 20), (0, .nameAndType 21 12), (0, u "BINARY"), (0, .fieldref 7 23), (0, .nameAndType 24 12), (0, u "EXACT"), (0, .fieldref 7 26), (0, .nameAndType 27 12), (0, u "APPROXIMATE"), (0, .fieldref 7 29), (0, .nameAndType 30 12), (0, u "DATE"), (0, .fieldref 7 32), (0, .nameAndType 33 12), (0, u "TIME"), (0, .fieldref 7 35), (0, .nameAndType 36 12), (0, u "TIMESTAMP"), (0, .fieldref 7 38), (0, .nameAndType 39 12), (0, u "INTERVAL"), (0, .fieldref 7 41), (0, .nameAndType 42 12), (0, u "COMMENT"), (0, .fieldref 7 44), (0, .nameAndType 45 12), (0, u "IDENTIFIER"), (0, .integer 2147483647), (0, .methodref 7 48), (0, .nameAndType 49 50), (0, u "isLiteral"), (0, u "()Z"), (0, .class_ 52), (0, u "litlex/core/LiteralKindIsLiteralPinLaw"), (2, u "law"), (0, u "(I)Z")] 5

def k1m0 : Method := { name := "<init>", desc := "()V", sig := { parameters := [], returnType := none }, accessFlags := 1, code := none }
def k1c1 : Code := { maxStack := 4, maxLocals := 4, code := code, exceptionTable := #[], attributes := #[] }
def k1m1 : Method := { name := "law", desc := "(I)Z", sig := { parameters := [.int], returnType := some .boolean }, accessFlags := 9, code := some k1c1 }
/-- litlex/core/LiteralKindIsLiteralPinLaw -/
def k1 : Class := { plain "litlex/core/LiteralKindIsLiteralPinLaw" (some 0) with
  accessFlags := 49
  interfaces := #[]
  cf := some (fileOf pool1 51 #[] #[{ accessFlags := 1, nameIndex := 5, descriptorIndex := 6, attributes := #[] }, { accessFlags := 9, nameIndex := 55, descriptorIndex := 56, attributes := #[] }] 49 2 #[] #[])
  fields := #[]
  methods := #[k1m0, k1m1]
  instanceTypes := #[]
  staticTypes := #[]
  resolved := Array.replicate 62 none
  statics := none }

def pool2 : Array CpInfo := pool [(1, .class_ 2), (0, u "java/lang/constant/Constable"), (0, .class_ 4), (0, u "java/lang/Object")] 6

/-- java/lang/constant/Constable -/
def k2 : Class := { plain "java/lang/constant/Constable" (some 0) with
  accessFlags := 1537
  interfaces := #[]
  cf := some (fileOf pool2 1 #[] #[] 1537 3 #[] #[])
  fields := #[]
  methods := #[]
  instanceTypes := #[]
  staticTypes := #[]
  resolved := Array.replicate 11 none
  statics := none }

def pool3 : Array CpInfo := pool [(1, .class_ 2), (0, u "java/lang/Comparable"), (0, .class_ 4), (0, u "java/lang/Object")] 7

/-- java/lang/Comparable -/
def k3 : Class := { plain "java/lang/Comparable" (some 0) with
  accessFlags := 1537
  interfaces := #[]
  cf := some (fileOf pool3 1 #[] #[] 1537 3 #[] #[])
  fields := #[]
  methods := #[]
  instanceTypes := #[]
  staticTypes := #[]
  resolved := Array.replicate 12 none
  statics := none }

def pool4 : Array CpInfo := pool [(1, .class_ 2), (0, u "java/io/Serializable"), (0, .class_ 4), (0, u "java/lang/Object")] 2

/-- java/io/Serializable -/
def k4 : Class := { plain "java/io/Serializable" (some 0) with
  accessFlags := 1537
  interfaces := #[]
  cf := some (fileOf pool4 1 #[] #[] 1537 3 #[] #[])
  fields := #[]
  methods := #[]
  instanceTypes := #[]
  staticTypes := #[]
  resolved := Array.replicate 7 none
  statics := none }

def pool5 : Array CpInfo := pool [(2, .class_ 4), (1, u "java/lang/Enum"), (0, u "name"), (0, u "Ljava/lang/String;"), (2, u "ordinal"), (0, u "I"), (1, .class_ 14), (1, u "java/lang/Object"), (4, u "hash"), (86, .class_ 108), (1, u "java/lang/Enum$EnumDesc"), (2, .class_ 112), (0, u "java/lang/constant/Constable"), (0, .class_ 114), (0, u "java/lang/Comparable"), (0, .class_ 116), (0, u "java/io/Serializable")] 87

/-- java/lang/Enum -/
def k5 : Class := { plain "java/lang/Enum" (some 0) with
  accessFlags := 1057
  interfaces := #[2, 3, 4]
  cf := some (fileOf pool5 2 #[.nestMembers #[106]] #[] 1057 12 #[111, 113, 115] #[{ accessFlags := 18, nameIndex := 5, descriptorIndex := 6, attributes := #[] }, { accessFlags := 18, nameIndex := 9, descriptorIndex := 10, attributes := #[] }, { accessFlags := 2, nameIndex := 19, descriptorIndex := 10, attributes := #[] }])
  fields := #[{ name := "name", type := (.object "java/lang/String"), accessFlags := 18, slot := 0, constantValue := 0 }, { name := "ordinal", type := .int, accessFlags := 18, slot := 1, constantValue := 0 }, { name := "hash", type := .int, accessFlags := 2, slot := 2, constantValue := 0 }]
  methods := #[]
  instanceTypes := #[(.object "java/lang/String"), .int, .int]
  staticTypes := #[]
  resolved := Array.replicate 204 none
  statics := none }

def pool6 : Array CpInfo := pool [(1, .class_ 2), (0, u "litlex/core/LiteralKind"), (2, u "CHARACTER"), (0, u "Llitlex/core/LiteralKind;"), (2, u "NATIONAL"), (2, u "UNICODE"), (2, u "BINARY"), (2, u "EXACT"), (2, u "APPROXIMATE"), (2, u "DATE"), (2, u "TIME"), (2, u "TIMESTAMP"), (2, u "INTERVAL"), (0, .fieldref 1 35), (0, .nameAndType 36 6), (0, u "COMMENT"), (0, .fieldref 1 38), (0, .nameAndType 39 6), (0, u "IDENTIFIER"), (2, u "$VALUES"), (0, u "[Llitlex/core/LiteralKind;"), (6, .class_ 52), (1, u "java/lang/Enum"), (8, u "id"), (0, u "Ljava/lang/String;"), (51, u "isLiteral"), (0, u "()Z")] 6

def k6c0 : Code := { maxStack := 2, maxLocals := 1, code := prog_17_method_5_code, exceptionTable := #[], attributes := #[] }
def k6m0 : Method := { name := "isLiteral", desc := "()Z", sig := { parameters := [], returnType := some .boolean }, accessFlags := 1, code := some k6c0 }
/-- litlex/core/LiteralKind -/
def k6 : Class := { plain "litlex/core/LiteralKind" (some 5) with
  accessFlags := 16433
  interfaces := #[]
  cf := some (fileOf pool6 1 #[] #[{ accessFlags := 1, nameIndex := 114, descriptorIndex := 115, attributes := #[] }] 16433 50 #[] #[{ accessFlags := 16409, nameIndex := 5, descriptorIndex := 6, attributes := #[] }, { accessFlags := 16409, nameIndex := 9, descriptorIndex := 6, attributes := #[] }, { accessFlags := 16409, nameIndex := 12, descriptorIndex := 6, attributes := #[] }, { accessFlags := 16409, nameIndex := 15, descriptorIndex := 6, attributes := #[] }, { accessFlags := 16409, nameIndex := 18, descriptorIndex := 6, attributes := #[] }, { accessFlags := 16409, nameIndex := 21, descriptorIndex := 6, attributes := #[] }, { accessFlags := 16409, nameIndex := 24, descriptorIndex := 6, attributes := #[] }, { accessFlags := 16409, nameIndex := 27, descriptorIndex := 6, attributes := #[] }, { accessFlags := 16409, nameIndex := 30, descriptorIndex := 6, attributes := #[] }, { accessFlags := 16409, nameIndex := 33, descriptorIndex := 6, attributes := #[] }, { accessFlags := 16409, nameIndex := 36, descriptorIndex := 6, attributes := #[] }, { accessFlags := 16409, nameIndex := 39, descriptorIndex := 6, attributes := #[] }, { accessFlags := 18, nameIndex := 61, descriptorIndex := 62, attributes := #[] }, { accessFlags := 4122, nameIndex := 42, descriptorIndex := 43, attributes := #[] }])
  fields := #[{ name := "CHARACTER", type := (.object "litlex/core/LiteralKind"), accessFlags := 16409, slot := 0, constantValue := 0 }, { name := "NATIONAL", type := (.object "litlex/core/LiteralKind"), accessFlags := 16409, slot := 1, constantValue := 0 }, { name := "UNICODE", type := (.object "litlex/core/LiteralKind"), accessFlags := 16409, slot := 2, constantValue := 0 }, { name := "BINARY", type := (.object "litlex/core/LiteralKind"), accessFlags := 16409, slot := 3, constantValue := 0 }, { name := "EXACT", type := (.object "litlex/core/LiteralKind"), accessFlags := 16409, slot := 4, constantValue := 0 }, { name := "APPROXIMATE", type := (.object "litlex/core/LiteralKind"), accessFlags := 16409, slot := 5, constantValue := 0 }, { name := "DATE", type := (.object "litlex/core/LiteralKind"), accessFlags := 16409, slot := 6, constantValue := 0 }, { name := "TIME", type := (.object "litlex/core/LiteralKind"), accessFlags := 16409, slot := 7, constantValue := 0 }, { name := "TIMESTAMP", type := (.object "litlex/core/LiteralKind"), accessFlags := 16409, slot := 8, constantValue := 0 }, { name := "INTERVAL", type := (.object "litlex/core/LiteralKind"), accessFlags := 16409, slot := 9, constantValue := 0 }, { name := "COMMENT", type := (.object "litlex/core/LiteralKind"), accessFlags := 16409, slot := 10, constantValue := 0 }, { name := "IDENTIFIER", type := (.object "litlex/core/LiteralKind"), accessFlags := 16409, slot := 11, constantValue := 0 }, { name := "id", type := (.object "java/lang/String"), accessFlags := 18, slot := 3, constantValue := 0 }, { name := "$VALUES", type := (.array (.object "litlex/core/LiteralKind")), accessFlags := 4122, slot := 12, constantValue := 0 }]
  methods := #[k6m0]
  instanceTypes := #[(.object "java/lang/String"), .int, .int, (.object "java/lang/String")]
  staticTypes := #[(.object "litlex/core/LiteralKind"), (.object "litlex/core/LiteralKind"), (.object "litlex/core/LiteralKind"), (.object "litlex/core/LiteralKind"), (.object "litlex/core/LiteralKind"), (.object "litlex/core/LiteralKind"), (.object "litlex/core/LiteralKind"), (.object "litlex/core/LiteralKind"), (.object "litlex/core/LiteralKind"), (.object "litlex/core/LiteralKind"), (.object "litlex/core/LiteralKind"), (.object "litlex/core/LiteralKind"), (.array (.object "litlex/core/LiteralKind"))]
  resolved := Array.replicate 122 none
  statics := some 0 }

def pool7 : Array CpInfo := pool [(1, u "java/lang/Cloneable"), (0, .class_ 1), (0, u "java/lang/Object"), (0, .class_ 3)] 3

/-- java/lang/Cloneable -/
def k7 : Class := { plain "java/lang/Cloneable" (some 0) with
  accessFlags := 1537
  interfaces := #[]
  cf := some (fileOf pool7 2 #[] #[] 1537 4 #[] #[])
  fields := #[]
  methods := #[]
  instanceTypes := #[]
  staticTypes := #[]
  resolved := Array.replicate 8 none
  statics := none }

/-- the primitive byte -/
def k8 : Class := { plain "byte" none with kind := .primitive 'B', accessFlags := 0x411 }
/-- [B -/
def k9 : Class := { plain "[B" (some 0) with kind := .array 8 .byte, interfaces := #[7, 4], accessFlags := 1041 }

/-- the primitive int -/
def k10 : Class := { plain "int" none with kind := .primitive 'I', accessFlags := 0x411 }
/-- [I -/
def k11 : Class := { plain "[I" (some 0) with kind := .array 10 .int, interfaces := #[7, 4], accessFlags := 1041 }

/-- [Llitlex/core/LiteralKind; -/
def k12 : Class := { plain "[Llitlex/core/LiteralKind;" (some 0) with kind := .array 6 (.object "litlex/core/LiteralKind"), interfaces := #[7, 4], accessFlags := 1041 }

def heap : Heap := #[{ cls := 6, slots := #[.ref 1, .ref 2, .ref 3, .ref 4, .ref 5, .ref 6, .ref 7, .ref 8, .ref 9, .ref 10, .ref 11, .ref 12, .null], vm := .statics 6 },
  { cls := 6, slots := #[.null, .int 0, .int 0, .null], vm := .none },
  { cls := 6, slots := #[.null, .int 1, .int 0, .null], vm := .none },
  { cls := 6, slots := #[.null, .int 2, .int 0, .null], vm := .none },
  { cls := 6, slots := #[.null, .int 3, .int 0, .null], vm := .none },
  { cls := 6, slots := #[.null, .int 4, .int 0, .null], vm := .none },
  { cls := 6, slots := #[.null, .int 5, .int 0, .null], vm := .none },
  { cls := 6, slots := #[.null, .int 6, .int 0, .null], vm := .none },
  { cls := 6, slots := #[.null, .int 7, .int 0, .null], vm := .none },
  { cls := 6, slots := #[.null, .int 8, .int 0, .null], vm := .none },
  { cls := 6, slots := #[.null, .int 9, .int 0, .null], vm := .none },
  { cls := 6, slots := #[.null, .int 10, .int 0, .null], vm := .none },
  { cls := 6, slots := #[.null, .int 11, .int 0, .null], vm := .none }]
def classes : Array Class := #[k0, k1, k2, k3, k4, k5, k6, k7, k8, k9, k10, k11, k12]
def interned : List (Array UInt16 × Addr) := []
def slotsUsed : Nat := 61
def theMethod : MethodId := ⟨1, 1⟩
def args0 : Array Value := #[.int 5]
def aboutOver (below : List Frame) : State where
  vm := { classes := classes, interned := interned.toArray }
  heap := heap
  slotsUsed := slotsUsed
  threads := #[{ frames := .invoking theMethod args0 :: below }]
def below0 : List Frame := [.native { method := ⟨0, 0⟩, args := #[] }]
def about1 : State := aboutOver below0
def p0 : Program := .bare "" "" ""
def e0 : Env := launch0.env 0 0 0
theorem w_frames : about1.frames = Frame.invoking theMethod args0 :: below0 := rfl
set_option maxRecDepth 65536 in
theorem w_args : argsFit about1.vm theMethod args0 = true := by decide +kernel
set_option maxRecDepth 65536 in
theorem w_heap : heapFits about1 = true := by decide +kernel
set_option maxRecDepth 65536 in
theorem w_runnable : about1.curStatus? = some .runnable := by decide +kernel
set_option maxRecDepth 65536 in
theorem w_alone : about1.alone = true := by decide +kernel
set_option maxRecDepth 65536 in
theorem w_named : about1.methodNamed? x = some theMethod := by decide +kernel
set_option maxRecDepth 65536 in
theorem w_hears : about1.hears theMethod below0 = true := by decide +kernel
set_option maxRecDepth 65536 in
theorem w_ripe : about1.ripe theMethod args0 below0 = true := by decide +kernel
theorem w_running : about1.status = .running := rfl
set_option maxRecDepth 65536 in
theorem w_room : about1.hasRoom e0.platform room_1 = true :=
  launch0.hasRoom_least _ room_1 (by decide +kernel) (by decide +kernel) (by decide +kernel) (by decide +kernel) (by decide +kernel) (by decide +kernel)
theorem allAtoms_all (ts : List Jvm.Cond) (a : Array Jvm.Value) (st : Jvm.State) : (allAtoms ts).before a st = ts.all (fun c => c.before a st) := by
  induction ts with
  | nil => rfl
  | cons c t ih =>
    show (Jvm.Cond.and c (allAtoms t)).before a st = _
    rw [Jvm.Cond.before_and, ih, List.all_cons]
def words1 : List Jvm.Cond := Jvm.Cond.code x code maxLocals ret :: tables_1
/-- a 'code' word, met by the world's own term for the bytes: nothing is compared byte by byte -/
theorem code_word {y : MethodName} {bytes : ByteArray} {mx : Nat} {rt : Option FieldType} {a : Array Value} {s : State} {m : MethodId} {meth : Method} {c : Code} (h1 : s.methodNamed? y = some m) (h2 : s.vm.method? m = some meth) (h3 : meth.code = some c) (h4 : c.code = bytes)
    (h5 : (c.maxLocals == mx && c.exceptionTable.isEmpty && decide (c.maxStack ≤ mostOperands) && decide (meth.sig.returnType = rt) && !meth.locks && decide (parseMethodDescriptor y.desc = some meth.sig)) = true) : (Jvm.Cond.code y bytes mx rt).before a s = true := by
  simp only [Bool.and_eq_true, beq_iff_eq, Bool.not_eq_true', decide_eq_true_eq] at h5
  obtain ⟨⟨⟨⟨⟨g1, g2⟩, g3⟩, g4⟩, g5⟩, g6⟩ := h5
  simp [Cond.before, Cond.holds, Cond.value, h1, h2, h3, h4, g1, g2, g3, g4, g5, g6]
def isCode : Jvm.Cond → Bool
  | .code _ _ _ _ => true
  | _ => false
theorem all_split {L : List Jvm.Cond} {P : Jvm.Cond → Bool} (h1 : L.all (fun c => isCode c || P c) = true) (h2 : ∀ c ∈ L.filter isCode, P c = true) : L.all P = true := by
  refine List.all_eq_true.mpr fun c hc => ?_
  have h := List.all_eq_true.mp h1 c hc
  rcases Bool.eq_false_or_eq_true (isCode c) with hi | hi
  · exact h2 c (List.mem_filter.mpr ⟨hc, hi⟩)
  · simpa [hi] using h
set_option maxRecDepth 65536 in
theorem w_c0 : (Jvm.Cond.code x code maxLocals ret).before args0 about1 = true := code_word (m := ⟨1, 1⟩) (meth := k1m1) (c := k1c1) (by decide +kernel) rfl rfl rfl (by decide +kernel)
set_option maxRecDepth 65536 in
theorem w_c1 : (Jvm.Cond.code ({ cls := "litlex/core/LiteralKind", name := "isLiteral", desc := "()Z" } : Jvm.MethodName) prog_17_method_5_code (1 : Nat) (Option.some Jvm.ClassFile.FieldType.boolean)).before args0 about1 = true := code_word (m := ⟨6, 0⟩) (meth := k6m0) (c := k6c0) (by decide +kernel) rfl rfl rfl (by decide +kernel)
def codes1 : List Jvm.Cond := [Jvm.Cond.code x code maxLocals ret, Jvm.Cond.code ({ cls := "litlex/core/LiteralKind", name := "isLiteral", desc := "()Z" } : Jvm.MethodName) prog_17_method_5_code (1 : Nat) (Option.some Jvm.ClassFile.FieldType.boolean)]
set_option maxRecDepth 65536 in
theorem codes_eq : words1.filter isCode = codes1 := rfl
theorem w_codes : ∀ c ∈ words1.filter isCode, c.before args0 about1 = true := by
  rw [codes_eq]
  intro c hc
  simp only [codes1, List.mem_cons, List.not_mem_nil, or_false] at hc
  rcases hc with rfl | rfl
  · exact w_c0
  · exact w_c1
set_option maxRecDepth 65536 in
theorem w_t1 : (words1.take 24).all (fun c => isCode c || c.before args0 about1) = true := by decide +kernel
set_option maxRecDepth 65536 in
theorem w_t2 : (words1.drop 24).all (fun c => isCode c || c.before args0 about1) = true := by decide +kernel
theorem w_tables : (allAtoms (Jvm.Cond.code x code maxLocals ret :: tables_1)).before args0 about1 = true := by
  rw [allAtoms_all]
  show words1.all (fun c => c.before args0 about1) = true
  refine all_split ?_ w_codes
  rw [← List.take_append_drop 24 words1, List.all_append, w_t1, w_t2]
  rfl
set_option maxRecDepth 65536 in
theorem w_case : (Jvm.Cond.and given_1 narrow_1).before args0 about1 = true := by decide +kernel
theorem w_applies : (headSpec (Jvm.Cond.code x code maxLocals ret :: tables_1) room_1).applies x e0.platform about1 = true :=
  (Spec.applies_iff w_frames).mpr ⟨w_running, w_runnable, w_alone, w_named, w_hears, w_ripe, w_room, w_tables⟩
theorem atStart : AtStart classFile x code maxLocals ret World_1 tables_1 room_1 Calls_1 rest_1 Pre_1 launch0 p0 e0 about1 theMethod args0 below0 :=
  ⟨lists_1, trivial, launch0.admits_env _ _ _, launch0.least_env, fairChoices_fair.cas, fairChoices_fair.clock, w_frames, w_args, w_heap, w_applies, trivial, trivial, w_case⟩
end start1
theorem witness_1 : WitnessClaimed_1 := ⟨start1.p0, start1.e0, start1.about1, start1.theMethod, start1.args0, start1.below0, start1.atStart⟩
end Jvm.Pilot.@@N@@
