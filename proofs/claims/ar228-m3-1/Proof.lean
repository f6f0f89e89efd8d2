import JvmDerived
import JvmDerived.Pilot.@@N@@Statement
import JvmDerived.Pilot.@@N@@Code
set_option linter.unusedVariables false
set_option linter.unusedSimpArgs false
@@BLOCK:LamKit.lean.txt@@
namespace Jvm.Pilot.@@N@@
open Jvm Jvm.ClassFile Sem Op Lib Jvm.Free Jvm.Stand Jvm.LawKit Jvm.RoadKit Bundle Jvm.Pilot.@@N@@.Jvm.D
/-- whoever comes on from (T, g) comes from A -/
abbrev Gz (tb : Tables) (e : Env) (below : List Frame) (A T : State) (g : JFrame) : Prop := ∀ t, Steps tb e below (T.setTop g) t → Steps tb e below A t
theorem own_eqI {args : Array Value} {first s : State} {o : Option Outcome} {idx : List Nat} {a : Term} {n : Int32} (h : (Jvm.Cond.eq a (.int n)).value args first o s idx = some true) : a.eval args first o idx s = some (.int n) := by
  simp only [Cond.value, Term.eval] at h
  cases ha : a.eval args first o idx s with
  | none => simp [ha] at h
  | some x => cases x <;> simp [ha] at h ⊢ <;> exact h
theorem own_eqJ {args : Array Value} {first s : State} {o : Option Outcome} {idx : List Nat} {a : Term} {n : Int64} (h : (Jvm.Cond.eq a (.long n)).value args first o s idx = some true) : a.eval args first o idx s = some (.long n) := by
  simp only [Cond.value, Term.eval] at h
  cases ha : a.eval args first o idx s with
  | none => simp [ha] at h
  | some x => cases x <;> simp [ha] at h ⊢ <;> exact h
theorem own_eqR {args : Array Value} {first s : State} {o : Option Outcome} {idx : List Nat} {a b : Term} {x y : Addr} (h : (Jvm.Cond.eq a b).value args first o s idx = some true) (ha : a.eval args first o idx s = some (.ref x)) (hb : b.eval args first o idx s = some (.ref y)) : x = y := by
  simp only [Cond.value, ha, hb] at h
  simpa using h
theorem own_fldI {args : Array Value} {s : State} {t : Term} {C f d : String} {n : Int32} {x : Addr} (h : (Jvm.Cond.eq (.field t C f d) (.int n)).value args s none s [] = some true) (ht : t.eval args s none [] s = some (.ref x)) : Fld s s.heap x C f d (.int n) :=
  Fld.start (by rw [← fld_at (C := C) (n := f) (dd := d) ht]; exact own_eqI h)
theorem own_fldJ {args : Array Value} {s : State} {t : Term} {C f d : String} {n : Int64} {x : Addr} (h : (Jvm.Cond.eq (.field t C f d) (.long n)).value args s none s [] = some true) (ht : t.eval args s none [] s = some (.ref x)) : Fld s s.heap x C f d (.long n) :=
  Fld.start (by rw [← fld_at (C := C) (n := f) (dd := d) ht]; exact own_eqJ h)
theorem own_fldN {args : Array Value} {s : State} {t : Term} {C f d : String} {x : Addr} (h : (Jvm.Cond.eq (.field t C f d) .null).value args s none s [] = some true) (ht : t.eval args s none [] s = some (.ref x)) : Fld s s.heap x C f d .null :=
  Fld.start (by rw [← fld_at (C := C) (n := f) (dd := d) ht]; exact null_v h)
theorem own_ext {h0 h : Heap} (K : Keep h0 h []) : Ext h0 h := ⟨K.1, fun x c q => K.2.1 x c q nin0⟩
theorem own_keep {h0 h : Heap} (E : Ext h0 h) : Keep h0 h [] := (Keep.refl h0 []).ext E
theorem own_extE {h0 h h' : Heap} (K : Ext h0 h) (E : Ext h h') : Ext h0 h' := ⟨Nat.le_trans K.1 E.1, fun a c q => E.2 a c (K.2 a c q)⟩
theorem own_extW {h0 h h' : Heap} {a : Addr} {sl : Nat} {v : Value} (K : Ext h0 h) (W : Wr h h' a sl v) (q : h0.size ≤ a) : Ext h0 h' := own_ext ((own_keep K).wr W (Or.inr q))
theorem own_refl (h : Heap) : Ext h h := ⟨Nat.le_refl _, fun _ _ q => q⟩
theorem own_extK {h0 h h' : Heap} {ws : List Addr} (K : Ext h0 h) (Q : Keep h h' ws) (q : ∀ x ∈ ws, h0.size ≤ x) : Ext h0 h' := ⟨Nat.le_trans K.1 Q.1, fun a c hc => Q.2.1 a c (K.2 a c hc) fun z => absurd (Array.getElem?_eq_some_iff.mp hc).1 (Nat.not_lt.mpr (q a z))⟩
theorem own_getR {p : Program} {l : Launch} {e : Env} {R : Room} {s : State} {m : MethodId} {args : Array Value} {below : List Frame} {meth : Method} {c : Code} {T : State} {locs : List Loc} {cells slots : Nat} {Z : State} {a0 : Array Value} {h : Heap}
    (X : Stand p l e R s m args below meth c T locs cells slots) (hx : p.tables.exec = Jvm.exec) (hZ : Z.Warmed39 s.vm) {own O n d : String} {index : Nat} (hown : s.vm.findClass own = some m.cls) (w : (Cond.fieldRef own index O n d).before a0 Z = true) (eT : T.heap = h) {a : Addr} {v : Value} (F : Fld Z h a O n d v)
    {g : JFrame} (hg : g.method = m) {rest : List Value} (hs : g.stack = .ref a :: rest) (hd : decode c.code g.pc = .ok (.getfield index, 3)) : ∀ target, Steps p.tables e below (T.setTop { g with pc := g.pc + 3, stack := v :: rest }) target → Steps p.tables e below (T.setTop g) target := by
  obtain ⟨cell, cf, k, i, f, h1, h2, h3, h4, -, -, h7⟩ := F
  have hT : Z.Warmed39 T.vm := wtrans hZ X.warmed
  have w1 : (Cond.fieldRef own index O n d).before a0 (Z.setVm T.vm) = true := Cond.fieldRef_warmed39 hT w
  have hownT : (Z.setVm T.vm).vm.findClass own = some m.cls := by show T.vm.findClass own = _; rw [X.warmed.alike.findClass]; exact hown
  obtain ⟨c', k', i', f', hi, hready⟩ := Cond.fieldRef_spec (s := Z.setVm T.vm) hownT w1
  obtain ⟨k'', hi', -⟩ := State.fieldFound?_setVm (s := Z) hT.alike h2
  cases hi.symm.trans hi'
  exact fun target ht => (X.getfieldR hx hg hready h3 hs (by rw [eT]; exact h1) h4 h7 hd (Steps.refl _)).trans ht
theorem own_eqRef {args : Array Value} {first s : State} {o : Option Outcome} {idx : List Nat} {a b : Term} {y : Addr} (h : (Jvm.Cond.eq a b).value args first o s idx = some true) (hb : b.eval args first o idx s = some (.ref y)) : a.eval args first o idx s = some (.ref y) := by
  simp only [Cond.value, hb] at h
  cases ha : a.eval args first o idx s with
  | none => simp [ha] at h
  | some x => cases x <;> simp [ha] at h ⊢ <;> exact h
theorem own_fldR {args : Array Value} {s : State} {t u : Term} {C f d : String} {x y : Addr} (h : (Jvm.Cond.eq (.field t C f d) u).value args s none s [] = some true) (ht : t.eval args s none [] s = some (.ref x)) (hu : u.eval args s none [] s = some (.ref y)) : Fld s s.heap x C f d (.ref y) :=
  Fld.start (by rw [← fld_at (C := C) (n := f) (dd := d) ht]; exact own_eqRef h hu)
theorem own_len {args : Array Value} {s : State} {t : Term} {a : Addr} {cl : Cell} {z : Int32} (h : (Term.length t).eval args s none [] s = some (.int z)) (ht : t.eval args s none [] s = some (.ref a)) (ha : s.arrayAt? a = some cl) : cl.slots.size < 2 ^ 31 ∧ cl.slots.size.toInt32 = z := by
  simp only [Term.eval, ht, ha, Option.bind_eq_bind, Option.bind_some] at h
  split at h
  · rename_i q; exact ⟨q, by simpa using h⟩
  · cases h
theorem own_fldL {args : Array Value} {s : State} {idx : List Nat} {t u : Term} {C f d : String} {n : Int64} {x : Addr} (h : (Jvm.Cond.eq (.field t C f d) u).value args s none s idx = some true) (ht : t.eval args s none idx s = some (.ref x)) (hu : u.eval args s none idx s = some (.long n)) : Fld s s.heap x C f d (.long n) :=
  Fld.start (by
    rw [← fld_at (C := C) (n := f) (dd := d) ht]
    simp only [Cond.value, hu] at h
    cases ha : (Term.field t C f d).eval args s none idx s with
    | none => simp [ha] at h
    | some x => cases x <;> simp [ha] at h ⊢ <;> exact h)
theorem own_fldI2 {args : Array Value} {s : State} {idx : List Nat} {t u : Term} {C f d : String} {n : Int32} {x : Addr} (h : (Jvm.Cond.eq (.field t C f d) u).value args s none s idx = some true) (ht : t.eval args s none idx s = some (.ref x)) (hu : u.eval args s none idx s = some (.int n)) : Fld s s.heap x C f d (.int n) :=
  Fld.start (by
    rw [← fld_at (C := C) (n := f) (dd := d) ht]
    simp only [Cond.value, hu] at h
    cases ha : (Term.field t C f d).eval args s none idx s with
    | none => simp [ha] at h
    | some x => cases x <;> simp [ha] at h ⊢ <;> exact h)
theorem own_selp {s : State} {args : Array Value} {y z : MethodName} (hsel : (Cond.selects z.cls z z).before args s = true) (hcls : z.cls = y.cls) (hpriv : s.PrivateAt y) (hinst : (Cond.instanceMethod y).before args s = true) (hy : y.cls ≠ "java/lang/invoke/MethodHandle" ∧ y.cls ≠ "java/lang/invoke/VarHandle") : (Cond.selects y.cls y y).before args s = true := by
  obtain ⟨c2, r2, m2, q1, q2, q3, q4, kP, hkP, hkPi⟩ := Cond.selects_spec hsel
  exact selects_self_of_private (hcls ▸ findClass_of_methodNamed q3) hkP hkPi hpriv hinst hy
theorem own_nat {z : Int32} (h : 0 ≤ z.toInt) : z.toInt = z.toNatClampNeg := (Int.toNat_of_nonneg h).symm
theorem own_inb {z n : Int32} (N : Int) (hn : n.toInt = N) (h1 : 0 ≤ z.toInt) (h2 : z.toInt < N) : ¬ z < 0 ∧ z < n := by
  rw [Int32.lt_iff_toInt_lt, Int32.lt_iff_toInt_lt, hn]
  exact ⟨by have q : (0 : Int32).toInt = 0 := (by decide); omega, h2⟩
theorem own_inj {Z : State} {h : Heap} {C f d : String} {w : Nat → Addr} {n : Nat} (ho : ∀ k, k < n → Fld Z h (w k) C f d (.int k.toInt32)) (hn : n < 2 ^ 31) : ∀ i j, i < n → j < n → w i = w j → i = j := fun i j hi hj q => Classical.byContradiction fun ne => Fld.ne (ho i hi) (ho j hj) (fun z => ne (by
    have z1 : i.toInt32.toInt = j.toInt32.toInt := by rw [Value.int.inj z]
    rw [len_toInt (by omega), len_toInt (by omega)] at z1
    omega)) q
theorem own_mask (k : Int32) : 0 ≤ (k &&& 2147483647).toInt ∧ (k &&& 2147483647).toInt < 2147483648 := by
  have h1 : (k &&& 2147483647).toInt = ((k &&& 2147483647).toBitVec).toInt := rfl
  have h2 : (k &&& 2147483647).toBitVec = k.toBitVec &&& 2147483647#32 := rfl
  rw [h1, h2]
  have h3 : (k.toBitVec &&& 2147483647#32).msb = false := by rw [BitVec.msb_and, show (2147483647#32).msb = false from by decide, Bool.and_false]
  rw [BitVec.toInt_eq_toNat_of_msb h3]
  have h4 := BitVec.isLt (k.toBitVec &&& 2147483647#32)
  rw [BitVec.msb_eq_decide] at h3
  simp at h3 ⊢
  omega
theorem own_rem (k n : Int32) (N : Int) (hn : n.toInt = N) (hN : 0 < N) : 0 ≤ ((k &&& 2147483647) % n).toInt ∧ ((k &&& 2147483647) % n).toInt < N := by
  have h := own_mask k
  rw [Int32.toInt_mod, hn]
  generalize (k &&& 2147483647).toInt = z at h
  rw [Int.tmod_eq_emod_of_nonneg h.1]
  exact ⟨Int.emod_nonneg _ (by omega), Int.emod_lt_of_pos _ hN⟩
theorem own_i32_ne {x y : Int32} (h : ¬ x = y) : x.toInt ≠ y.toInt := fun q => h (Int32.toInt_inj.mp q)
theorem own_lt {x y : Int32} (h : x < y) : x.toInt < y.toInt := Int32.lt_iff_toInt_lt.mp h
theorem own_nlt {x y : Int32} (h : ¬ x < y) : y.toInt ≤ x.toInt := by rw [Int32.lt_iff_toInt_lt] at h; omega

theorem own_size {n : Nat} {z : Int32} {k : Nat} (h1 : n < 2 ^ 31) (h2 : n.toInt32 = z) (h3 : z.toInt = k) : n = k := by
  have q := len_toInt h1
  rw [h2, h3] at q
  omega

theorem d1_0 : decode method_2_code 0 = .ok (.iload_n 0, 1) := by decide +kernel
theorem d1_1 : decode method_2_code 1 = .ok (.ifCond .ne 7, 3) := by decide +kernel
theorem d1_4 : decode method_2_code 4 = .ok (.getstatic 7, 3) := by decide +kernel
theorem d1_7 : decode method_2_code 7 = .ok (.areturn, 1) := by decide +kernel
theorem d1_8 : decode method_2_code 8 = .ok (.iload_n 0, 1) := by decide +kernel
theorem d1_9 : decode method_2_code 9 = .ok (.iconst 1, 1) := by decide +kernel
theorem d1_10 : decode method_2_code 10 = .ok (.if_icmp .ne 7, 3) := by decide +kernel
theorem d1_13 : decode method_2_code 13 = .ok (.getstatic 13, 3) := by decide +kernel
theorem d1_16 : decode method_2_code 16 = .ok (.areturn, 1) := by decide +kernel
theorem d1_17 : decode method_2_code 17 = .ok (.getstatic 16, 3) := by decide +kernel
theorem d1_20 : decode method_2_code 20 = .ok (.areturn, 1) := by decide +kernel
theorem pn1 : plainName "com/example/harborspread/harborspread/LegTermsAsSettledPinLaw" = true := by first | (simp [plainName, overriddenIn]; done) | decide +kernel
theorem ef1 (m : MethodId) (x0 : Int32) : entryFrame m #[(.int x0)] 1 = mkF m 0 #[.val (.int x0)] [] := by first | (simp [entryFrame, mkF, argsToLocals, Value.category]; done) | rfl
def Q1 (Z : State) (p1 : Int32) (w : Nat → Addr) (h0 : Heap) (n0 : Nat) (v : Option Value) (h : Heap) (L : List Loc) : Prop := ∃ j, v = some (.ref (w j)) ∧ Fr n0 L ∧ h = h0 ∧ j < 3 ∧ p1.toInt = j
set_option maxRecDepth 65536 in
set_option maxHeartbeats 40000000 in
theorem rm1 (l : Launch) (Z : State) (a0 : Array Value) (hw : ∀ d ∈ tables_1, d.before a0 Z = true) (ws : List Jvm.Cond) (p1 : Int32) (w : Nat → Addr) (h0 : Heap) (n0 : Nat) (Z0 : n0 ≤ h0.size) (S_ULSD : Sta Z h0 "com/example/harborspread/harborspread/Product" "ULSD" "Lcom/example/harborspread/harborspread/Product;" (.ref (w 0))) (S_LSGASOIL : Sta Z h0 "com/example/harborspread/harborspread/Product" "LSGASOIL" "Lcom/example/harborspread/harborspread/Product;" (.ref (w 1))) (S_BRENT : Sta Z h0 "com/example/harborspread/harborspread/Product" "BRENT" "Lcom/example/harborspread/harborspread/Product;" (.ref (w 2))) (hlo : 0 ≤ p1.toInt) (hhi : p1.toInt < 3) :
    MetFree l (⟨"com/example/harborspread/harborspread/LegTermsAsSettledPinLaw", "product", "(I)Lcom/example/harborspread/harborspread/Product;"⟩ : MethodName) (head1 (Jvm.Cond.code (⟨"com/example/harborspread/harborspread/LegTermsAsSettledPinLaw", "product", "(I)Lcom/example/harborspread/harborspread/Product;"⟩ : MethodName) method_2_code 1 (some (.object "com/example/harborspread/harborspread/Product")) :: ws) ({ frames := 0, cells := 0, slots := 0, locals := 0 } : Room)) (fun aq Uq => aq = #[(.int p1)] ∧ Z.Warmed39 Uq.vm ∧ Uq.heap = h0) (fun _ _ _ _ _ => True) (fun _ Uq oq Uq' => ∃ vq Lq, oq = .returned vq ∧ Q1 Z p1 w h0 n0 vq Uq'.heap Lq ∧ FrameEnd Uq oq Uq' Lq ({ frames := 0, cells := 0, slots := 0, locals := 0 } : Room).cells ({ frames := 0, cells := 0, slots := 0, locals := 0 } : Room).slots) := by
  refine MetFree.of_bodySF (plainFor_of_name pn1) hisR ?_
  intro p e s m args below meth c s₁ Bd hml0 hP hK
  obtain ⟨rfl, hZ, hh⟩ := hP
  have hx := Bd.exec
  have hby := Bd.bytes
  have hml : c.maxLocals = 1 := hml0
  have hown : s.vm.findClass "com/example/harborspread/harborspread/LegTermsAsSettledPinLaw" = some m.cls := findClass_of_methodNamed Bd.named
  have hnm := (name_of_methodNamed Bd.named Bd.method).1
  have X0 : Stand p l e ({ frames := 0, cells := 0, slots := 0, locals := 0 } : Room) s m #[(.int p1)] below meth c s₁ [] 0 0 := Stand.of_body Bd
  have e0 : s₁.heap = h0 := by rw [← hh, Bd.state]; rfl
  have N0 := Fr.nil n0
  obtain ⟨A, hA⟩ : ∃ A, A = s₁.setTop (entryFrame m #[(.int p1)] 1) := ⟨_, rfl⟩
  rw [← hA]
  have g0 : Gz p.tables e below A s₁ (mkF m 0 #[.val (.int p1)] []) := fun tq kq => by rw [hA]; exact castTop (ef1 m p1) kq
  have g1 : Gz p.tables e below A s₁ (mkF m 1 #[.val (.int p1)] [(.int p1)]) := fun tq kq => g0 tq (XS.iloadN X0.here hx rfl (hb hby d1_0) rfl kq)
  by_cases hc1 : p1 = (0 : Int32)
  · have g2 : Gz p.tables e below A s₁ (mkF m 4 #[.val (.int p1)] []) := fun tq kq => g1 tq (XS.ifNo X0.here hx rfl (hb hby d1_1) rfl ((if0 _ _).trans (teq hc1).2) kq)
    obtain ⟨T3, X3, e3, st3⟩ := getS2 X0 hx hZ hown (host := "") (Or.inl (hw _ (List.mem_of_getElem? (i := 5) rfl))) Via.refl e0 S_ULSD (g := (mkF m 4 #[.val (.int p1)] [])) rfl (hb hby d1_4)
    have g4 : Gz p.tables e below A T3 (mkF m 7 #[.val (.int p1)] [(.ref (w 0))]) := fun tq kq => g2 tq (st3 tq kq)
    obtain ⟨fs, hr, hrun, hended, hW, hsame⟩ := X3.leave (v := some (.ref (w 0))) (fun h => by rw [Bd.returns] at h; cases h)
    refine ⟨_, _, g4 _ (retOut X3 hx Bd.returns rfl (Or.inr (Or.inr (Or.inr (Or.inr ⟨rfl, rfl, rfl⟩)))) (hb hby d1_7) hr), hrun, hended, _, _, rfl, ?_, ⟨_, rfl⟩, hW, hsame.mono (by decide) (by decide)⟩
    show Q1 Z p1 w h0 n0 _ T3.heap _
    rw [e3]
    exact ⟨0, rfl, N0, rfl, by decide, by rw [hc1]; decide⟩
  · have g5 : Gz p.tables e below A s₁ (mkF m 8 #[.val (.int p1)] []) := fun tq kq => g1 tq (XS.ifYes X0.here hx rfl (pc0 := 1) (pc' := 8) rfl (hb hby d1_1) rfl ((if0 _ _).trans (feq hc1).2) (by decide) (by decide) kq)
    have g6 : Gz p.tables e below A s₁ (mkF m 9 #[.val (.int p1)] [(.int p1)]) := fun tq kq => g5 tq (XS.iloadN X0.here hx rfl (hb hby d1_8) rfl kq)
    have g7 : Gz p.tables e below A s₁ (mkF m 10 #[.val (.int p1)] [(.int (1 : Int32)), (.int p1)]) := fun tq kq => g6 tq (XS.iconst X0.here hx rfl (hb hby d1_9) kq)
    by_cases hc10 : p1 = (1 : Int32)
    · have g8 : Gz p.tables e below A s₁ (mkF m 13 #[.val (.int p1)] []) := fun tq kq => g7 tq (XS.icmpNo X0.here hx rfl (hb hby d1_10) rfl (teq hc10).2 kq)
      obtain ⟨T9, X9, e9, st9⟩ := getS2 X0 hx hZ hown (host := "") (Or.inl (hw _ (List.mem_of_getElem? (i := 122) rfl))) Via.refl e0 S_LSGASOIL (g := (mkF m 13 #[.val (.int p1)] [])) rfl (hb hby d1_13)
      have g10 : Gz p.tables e below A T9 (mkF m 16 #[.val (.int p1)] [(.ref (w 1))]) := fun tq kq => g8 tq (st9 tq kq)
      obtain ⟨fs, hr, hrun, hended, hW, hsame⟩ := X9.leave (v := some (.ref (w 1))) (fun h => by rw [Bd.returns] at h; cases h)
      refine ⟨_, _, g10 _ (retOut X9 hx Bd.returns rfl (Or.inr (Or.inr (Or.inr (Or.inr ⟨rfl, rfl, rfl⟩)))) (hb hby d1_16) hr), hrun, hended, _, _, rfl, ?_, ⟨_, rfl⟩, hW, hsame.mono (by decide) (by decide)⟩
      show Q1 Z p1 w h0 n0 _ T9.heap _
      rw [e9]
      exact ⟨1, rfl, N0, rfl, by decide, by rw [hc10]; decide⟩
    · have g11 : Gz p.tables e below A s₁ (mkF m 17 #[.val (.int p1)] []) := fun tq kq => g7 tq (XS.icmpYes X0.here hx rfl (pc0 := 10) (pc' := 17) rfl (hb hby d1_10) rfl (feq hc10).2 (by decide) (by decide) kq)
      obtain ⟨T12, X12, e12, st12⟩ := getS2 X0 hx hZ hown (host := "") (Or.inl (hw _ (List.mem_of_getElem? (i := 118) rfl))) Via.refl e0 S_BRENT (g := (mkF m 17 #[.val (.int p1)] [])) rfl (hb hby d1_17)
      have g13 : Gz p.tables e below A T12 (mkF m 20 #[.val (.int p1)] [(.ref (w 2))]) := fun tq kq => g11 tq (st12 tq kq)
      obtain ⟨fs, hr, hrun, hended, hW, hsame⟩ := X12.leave (v := some (.ref (w 2))) (fun h => by rw [Bd.returns] at h; cases h)
      refine ⟨_, _, g13 _ (retOut X12 hx Bd.returns rfl (Or.inr (Or.inr (Or.inr (Or.inr ⟨rfl, rfl, rfl⟩)))) (hb hby d1_20) hr), hrun, hended, _, _, rfl, ?_, ⟨_, rfl⟩, hW, hsame.mono (by decide) (by decide)⟩
      show Q1 Z p1 w h0 n0 _ T12.heap _
      rw [e12]
      have n0 : p1.toInt ≠ 0 := own_i32_ne hc1
      have n1 : p1.toInt ≠ 1 := own_i32_ne hc10
      exact ⟨2, rfl, N0, rfl, by decide, by omega⟩

def own_sc (j : Nat) : Int32 := if j = 0 then 4 else 2

theorem d2_0 : decode method_3_code 0 = .ok (.iload_n 0, 1) := by decide +kernel
theorem d2_1 : decode method_3_code 1 = .ok (.ifCond .ne 5, 3) := by decide +kernel
theorem d2_4 : decode method_3_code 4 = .ok (.iconst 4, 1) := by decide +kernel
theorem d2_5 : decode method_3_code 5 = .ok (.ireturn, 1) := by decide +kernel
theorem d2_6 : decode method_3_code 6 = .ok (.iconst 2, 1) := by decide +kernel
theorem d2_7 : decode method_3_code 7 = .ok (.ireturn, 1) := by decide +kernel
theorem pn2 : plainName "com/example/harborspread/harborspread/LegTermsAsSettledPinLaw" = true := by first | (simp [plainName, overriddenIn]; done) | decide +kernel
theorem ef2 (m : MethodId) (x0 : Int32) : entryFrame m #[(.int x0)] 1 = mkF m 0 #[.val (.int x0)] [] := by first | (simp [entryFrame, mkF, argsToLocals, Value.category]; done) | rfl
def Q2 (Z : State) (p1 : Int32) (j : Nat) (h0 : Heap) (n0 : Nat) (v : Option Value) (h : Heap) (L : List Loc) : Prop := v = some (.int (own_sc j)) ∧ Fr n0 L ∧ h = h0
set_option maxRecDepth 65536 in
set_option maxHeartbeats 40000000 in
theorem rm2 (l : Launch) (Z : State) (a0 : Array Value) (hw : ∀ d ∈ tables_1, d.before a0 Z = true) (ws : List Jvm.Cond) (p1 : Int32) (j : Nat) (h0 : Heap) (n0 : Nat) (Z0 : n0 ≤ h0.size) (hij : p1.toInt = j) :
    MetFree l (⟨"com/example/harborspread/harborspread/LegTermsAsSettledPinLaw", "expectedScale", "(I)I"⟩ : MethodName) (head1 (Jvm.Cond.code (⟨"com/example/harborspread/harborspread/LegTermsAsSettledPinLaw", "expectedScale", "(I)I"⟩ : MethodName) method_3_code 1 (some .int) :: ws) ({ frames := 0, cells := 0, slots := 0, locals := 0 } : Room)) (fun aq Uq => aq = #[(.int p1)] ∧ Z.Warmed39 Uq.vm ∧ Uq.heap = h0) (fun _ _ _ _ _ => True) (fun _ Uq oq Uq' => ∃ vq Lq, oq = .returned vq ∧ Q2 Z p1 j h0 n0 vq Uq'.heap Lq ∧ FrameEnd Uq oq Uq' Lq ({ frames := 0, cells := 0, slots := 0, locals := 0 } : Room).cells ({ frames := 0, cells := 0, slots := 0, locals := 0 } : Room).slots) := by
  refine MetFree.of_bodySF (plainFor_of_name pn2) hisR ?_
  intro p e s m args below meth c s₁ Bd hml0 hP hK
  obtain ⟨rfl, hZ, hh⟩ := hP
  have hx := Bd.exec
  have hby := Bd.bytes
  have hml : c.maxLocals = 1 := hml0
  have hown : s.vm.findClass "com/example/harborspread/harborspread/LegTermsAsSettledPinLaw" = some m.cls := findClass_of_methodNamed Bd.named
  have hnm := (name_of_methodNamed Bd.named Bd.method).1
  have X0 : Stand p l e ({ frames := 0, cells := 0, slots := 0, locals := 0 } : Room) s m #[(.int p1)] below meth c s₁ [] 0 0 := Stand.of_body Bd
  have e0 : s₁.heap = h0 := by rw [← hh, Bd.state]; rfl
  have N0 := Fr.nil n0
  obtain ⟨A, hA⟩ : ∃ A, A = s₁.setTop (entryFrame m #[(.int p1)] 1) := ⟨_, rfl⟩
  rw [← hA]
  have g0 : Gz p.tables e below A s₁ (mkF m 0 #[.val (.int p1)] []) := fun tq kq => by rw [hA]; exact castTop (ef2 m p1) kq
  have g1 : Gz p.tables e below A s₁ (mkF m 1 #[.val (.int p1)] [(.int p1)]) := fun tq kq => g0 tq (XS.iloadN X0.here hx rfl (hb hby d2_0) rfl kq)
  by_cases hc1 : p1 = (0 : Int32)
  · have g2 : Gz p.tables e below A s₁ (mkF m 4 #[.val (.int p1)] []) := fun tq kq => g1 tq (XS.ifNo X0.here hx rfl (hb hby d2_1) rfl ((if0 _ _).trans (teq hc1).2) kq)
    have g3 : Gz p.tables e below A s₁ (mkF m 5 #[.val (.int p1)] [(.int (4 : Int32))]) := fun tq kq => g2 tq (XS.iconst X0.here hx rfl (hb hby d2_4) kq)
    obtain ⟨fs, hr, hrun, hended, hW, hsame⟩ := X0.leave (v := some (.int (4 : Int32))) (fun h => by rw [Bd.returns] at h; cases h)
    refine ⟨_, _, g3 _ (retOut X0 hx Bd.returns rfl (Or.inl ⟨rfl, Or.inl rfl, _, rfl⟩) (hb hby d2_5) hr), hrun, hended, _, _, rfl, ?_, ⟨_, rfl⟩, hW, hsame.mono (by decide) (by decide)⟩
    show Q2 Z p1 j h0 n0 _ s₁.heap _
    rw [e0]
    rw [hc1] at hij
    have z0 : (0 : Int32).toInt = 0 := by decide
    exact ⟨by unfold own_sc; rw [if_pos (by omega)], N0, rfl⟩
  · have g4 : Gz p.tables e below A s₁ (mkF m 6 #[.val (.int p1)] []) := fun tq kq => g1 tq (XS.ifYes X0.here hx rfl (pc0 := 1) (pc' := 6) rfl (hb hby d2_1) rfl ((if0 _ _).trans (feq hc1).2) (by decide) (by decide) kq)
    have g5 : Gz p.tables e below A s₁ (mkF m 7 #[.val (.int p1)] [(.int (2 : Int32))]) := fun tq kq => g4 tq (XS.iconst X0.here hx rfl (hb hby d2_6) kq)
    obtain ⟨fs, hr, hrun, hended, hW, hsame⟩ := X0.leave (v := some (.int (2 : Int32))) (fun h => by rw [Bd.returns] at h; cases h)
    refine ⟨_, _, g5 _ (retOut X0 hx Bd.returns rfl (Or.inl ⟨rfl, Or.inl rfl, _, rfl⟩) (hb hby d2_7) hr), hrun, hended, _, _, rfl, ?_, ⟨_, rfl⟩, hW, hsame.mono (by decide) (by decide)⟩
    show Q2 Z p1 j h0 n0 _ s₁.heap _
    rw [e0]
    have q := own_i32_ne hc1
    have z0 : (0 : Int32).toInt = 0 := by decide
    exact ⟨by unfold own_sc; rw [if_neg (by omega)], N0, rfl⟩

theorem d3_0 : decode jdk_32_method_1_code 0 = .ok (.getstatic 1, 3) := by decide +kernel
theorem d3_3 : decode jdk_32_method_1_code 3 = .ok (.astore_n 0, 1) := by decide +kernel
theorem d3_4 : decode jdk_32_method_1_code 4 = .ok (.aload_n 0, 1) := by decide +kernel
theorem d3_5 : decode jdk_32_method_1_code 5 = .ok (.areturn, 1) := by decide +kernel
theorem pn3 : plainName "java/util/Optional" = true := by first | (simp [plainName, overriddenIn]; done) | decide +kernel
theorem ef3 (m : MethodId)  : entryFrame m #[] 1 = mkF m 0 #[.unset] [] := by first | (simp [entryFrame, mkF, argsToLocals, Value.category]; done) | rfl
def Q3 (Z : State) (em : Addr) (h0 : Heap) (n0 : Nat) (v : Option Value) (h : Heap) (L : List Loc) : Prop := v = some (.ref em) ∧ Fr n0 L ∧ h = h0
set_option maxRecDepth 65536 in
set_option maxHeartbeats 40000000 in
theorem rm3 (l : Launch) (Z : State) (a0 : Array Value) (hw : ∀ d ∈ tables_1, d.before a0 Z = true) (ws : List Jvm.Cond) (em : Addr) (h0 : Heap) (n0 : Nat) (Z0 : n0 ≤ h0.size) (S_E : Sta Z h0 "java/util/Optional" "EMPTY" "Ljava/util/Optional;" (.ref em)) :
    MetFree l (⟨"java/util/Optional", "empty", "()Ljava/util/Optional;"⟩ : MethodName) (head1 (Jvm.Cond.code (⟨"java/util/Optional", "empty", "()Ljava/util/Optional;"⟩ : MethodName) jdk_32_method_1_code 1 (some (.object "java/util/Optional")) :: ws) ({ frames := 0, cells := 0, slots := 0, locals := 0 } : Room)) (fun aq Uq => aq = #[] ∧ Z.Warmed39 Uq.vm ∧ Uq.heap = h0) (fun _ _ _ _ _ => True) (fun _ Uq oq Uq' => ∃ vq Lq, oq = .returned vq ∧ Q3 Z em h0 n0 vq Uq'.heap Lq ∧ FrameEnd Uq oq Uq' Lq ({ frames := 0, cells := 0, slots := 0, locals := 0 } : Room).cells ({ frames := 0, cells := 0, slots := 0, locals := 0 } : Room).slots) := by
  refine MetFree.of_bodySF (plainFor_of_name pn3) hisR ?_
  intro p e s m args below meth c s₁ Bd hml0 hP hK
  obtain ⟨rfl, hZ, hh⟩ := hP
  have hx := Bd.exec
  have hby := Bd.bytes
  have hml : c.maxLocals = 1 := hml0
  have hown : s.vm.findClass "java/util/Optional" = some m.cls := findClass_of_methodNamed Bd.named
  have hnm := (name_of_methodNamed Bd.named Bd.method).1
  have X0 : Stand p l e ({ frames := 0, cells := 0, slots := 0, locals := 0 } : Room) s m #[] below meth c s₁ [] 0 0 := Stand.of_body Bd
  have e0 : s₁.heap = h0 := by rw [← hh, Bd.state]; rfl
  have N0 := Fr.nil n0
  obtain ⟨A, hA⟩ : ∃ A, A = s₁.setTop (entryFrame m #[] 1) := ⟨_, rfl⟩
  rw [← hA]
  have g0 : Gz p.tables e below A s₁ (mkF m 0 #[.unset] []) := fun tq kq => by rw [hA]; exact castTop (ef3 m) kq
  obtain ⟨T1, X1, e1, st1⟩ := getS2 X0 hx hZ hown (host := "") (Or.inl (hw _ (List.mem_of_getElem? (i := 21) rfl))) Via.refl e0 S_E (g := (mkF m 0 #[.unset] [])) rfl (hb hby d3_0)
  have g2 : Gz p.tables e below A T1 (mkF m 3 #[.unset] [(.ref em)]) := fun tq kq => g0 tq (st1 tq kq)
  have g3 : Gz p.tables e below A T1 (mkF m 4 #[.val (.ref em)] []) := fun tq kq => g2 tq (XS.astoreN X1.here hx rfl (hb hby d3_3) rfl rfl (l' := #[.val (.ref em)]) rfl kq)
  have g4 : Gz p.tables e below A T1 (mkF m 5 #[.val (.ref em)] [(.ref em)]) := fun tq kq => g3 tq (XS.aloadN X1.here hx rfl (hb hby d3_4) rfl rfl kq)
  obtain ⟨fs, hr, hrun, hended, hW, hsame⟩ := X1.leave (v := some (.ref em)) (fun h => by rw [Bd.returns] at h; cases h)
  refine ⟨_, _, g4 _ (retOut X1 hx Bd.returns rfl (Or.inr (Or.inr (Or.inr (Or.inr ⟨rfl, rfl, rfl⟩)))) (hb hby d3_5) hr), hrun, hended, _, _, rfl, ?_, ⟨_, rfl⟩, hW, hsame.mono (by decide) (by decide)⟩
  show Q3 Z em h0 n0 _ T1.heap _
  rw [e1]
  exact ⟨rfl, N0, rfl⟩

theorem d4_0 : decode jdk_30_method_1_code 0 = .ok (.aload_n 0, 1) := by decide +kernel
theorem d4_1 : decode jdk_30_method_1_code 1 = .ok (.invokespecial 1, 3) := by decide +kernel
theorem d4_4 : decode jdk_30_method_1_code 4 = .ok (.return_, 1) := by decide +kernel
theorem pn4 : plainName "java/lang/Record" = true := by first | (simp [plainName, overriddenIn]; done) | decide +kernel
theorem ef4 (m : MethodId) (x0 : Addr) : entryFrame m #[(.ref x0)] 1 = mkF m 0 #[.val (.ref x0)] [] := by first | (simp [entryFrame, mkF, argsToLocals, Value.category]; done) | rfl
def Q4 (Z : State) (a : Addr) (h0 : Heap) (n0 : Nat) (v : Option Value) (h : Heap) (L : List Loc) : Prop := v = none ∧ Fr n0 L ∧ h = h0
set_option maxRecDepth 65536 in
set_option maxHeartbeats 40000000 in
theorem rm4 (l : Launch) (Z : State) (a0 : Array Value) (hw : ∀ d ∈ tables_1, d.before a0 Z = true) (ws : List Jvm.Cond) (a : Addr) (h0 : Heap) (n0 : Nat) (Z0 : n0 ≤ h0.size) :
    MetFree l (⟨"java/lang/Record", "<init>", "()V"⟩ : MethodName) (head1 (Jvm.Cond.code (⟨"java/lang/Record", "<init>", "()V"⟩ : MethodName) jdk_30_method_1_code 1 none :: ws) ({ frames := 1, cells := 0, slots := 0, locals := 12 } : Room)) (fun aq Uq => aq = #[(.ref a)] ∧ Z.Warmed39 Uq.vm ∧ Uq.heap = h0) (fun _ _ _ _ _ => True) (fun _ Uq oq Uq' => ∃ vq Lq, oq = .returned vq ∧ Q4 Z a h0 n0 vq Uq'.heap Lq ∧ FrameEnd Uq oq Uq' Lq ({ frames := 1, cells := 0, slots := 0, locals := 12 } : Room).cells ({ frames := 1, cells := 0, slots := 0, locals := 12 } : Room).slots) := by
  refine MetFree.of_bodySF (plainFor_of_name pn4) hisR ?_
  intro p e s m args below meth c s₁ Bd hml0 hP hK
  obtain ⟨rfl, hZ, hh⟩ := hP
  have hx := Bd.exec
  have hby := Bd.bytes
  have hml : c.maxLocals = 1 := hml0
  have hown : s.vm.findClass "java/lang/Record" = some m.cls := findClass_of_methodNamed Bd.named
  have hnm := (name_of_methodNamed Bd.named Bd.method).1
  have X0 : Stand p l e ({ frames := 1, cells := 0, slots := 0, locals := 12 } : Room) s m #[(.ref a)] below meth c s₁ [] 0 0 := Stand.of_body Bd
  have e0 : s₁.heap = h0 := by rw [← hh, Bd.state]; rfl
  have N0 := Fr.nil n0
  obtain ⟨A, hA⟩ : ∃ A, A = s₁.setTop (entryFrame m #[(.ref a)] 1) := ⟨_, rfl⟩
  rw [← hA]
  have g0 : Gz p.tables e below A s₁ (mkF m 0 #[.val (.ref a)] []) := fun tq kq => by rw [hA]; exact castTop (ef4 m a) kq
  have g1 : Gz p.tables e below A s₁ (mkF m 1 #[.val (.ref a)] [(.ref a)]) := fun tq kq => g0 tq (XS.aloadN X0.here hx rfl (hb hby d4_0) rfl rfl kq)
  obtain ⟨T2, X2, e2, st2⟩ := initO X0 hx hZ hown (hw _ (List.mem_of_getElem? (i := 30) rfl)) (hw _ (List.mem_of_getElem? (i := 31) rfl)) (hw _ (List.mem_of_getElem? (i := 32) rfl)) e0 (g := (mkF m 1 #[.val (.ref a)] [(.ref a)])) rfl (by rw [hml]; rfl) rfl (hb hby d4_1) (by decide) (W := 0) (by show 2 * 0 + _ ≤ _; exact Nat.le_of_eq rfl) (by decide)
  have g3 : Gz p.tables e below A T2 (mkF m 4 #[.val (.ref a)] []) := fun tq kq => g1 tq (st2 tq kq)
  obtain ⟨fs, hr, hrun, hended, hW, hsame⟩ := X2.leave (v := none) (fun _ => rfl)
  refine ⟨_, _, g3 _ (X2.returnOut hx Bd.returns (hb hby d4_4) hr), hrun, hended, _, _, rfl, ?_, ⟨_, rfl⟩, hW, hsame.mono (by decide) (by decide)⟩
  show Q4 Z a h0 n0 _ T2.heap _
  rw [e2]
  exact ⟨rfl, N0, rfl⟩

theorem d5_0 : decode jdk_31_method_11_code 0 = .ok (.aload_n 0, 1) := by decide +kernel
theorem d5_1 : decode jdk_31_method_11_code 1 = .ok (.ifnonnull 12, 3) := by decide +kernel
theorem d5_13 : decode jdk_31_method_11_code 13 = .ok (.aload_n 0, 1) := by decide +kernel
theorem d5_14 : decode jdk_31_method_11_code 14 = .ok (.areturn, 1) := by decide +kernel
theorem pn5 : plainName "java/util/Objects" = true := by first | (simp [plainName, overriddenIn]; done) | decide +kernel
theorem ef5 (m : MethodId) (x0 : Addr) (x1 : Addr) : entryFrame m #[(.ref x0), (.ref x1)] 2 = mkF m 0 #[.val (.ref x0), .val (.ref x1)] [] := by first | (simp [entryFrame, mkF, argsToLocals, Value.category]; done) | rfl
def Q5 (Z : State) (a : Addr) (b : Addr) (h0 : Heap) (n0 : Nat) (v : Option Value) (h : Heap) (L : List Loc) : Prop := v = some (.ref a) ∧ Fr n0 L ∧ h = h0
set_option maxRecDepth 65536 in
set_option maxHeartbeats 40000000 in
theorem rm5 (l : Launch) (Z : State) (a0 : Array Value) (hw : ∀ d ∈ tables_1, d.before a0 Z = true) (ws : List Jvm.Cond) (a : Addr) (b : Addr) (h0 : Heap) (n0 : Nat) (Z0 : n0 ≤ h0.size) :
    MetFree l (⟨"java/util/Objects", "requireNonNull", "(Ljava/lang/Object;Ljava/lang/String;)Ljava/lang/Object;"⟩ : MethodName) (head1 (Jvm.Cond.code (⟨"java/util/Objects", "requireNonNull", "(Ljava/lang/Object;Ljava/lang/String;)Ljava/lang/Object;"⟩ : MethodName) jdk_31_method_11_code 2 (some (.object "java/lang/Object")) :: ws) ({ frames := 0, cells := 0, slots := 0, locals := 0 } : Room)) (fun aq Uq => aq = #[(.ref a), (.ref b)] ∧ Z.Warmed39 Uq.vm ∧ Uq.heap = h0) (fun _ _ _ _ _ => True) (fun _ Uq oq Uq' => ∃ vq Lq, oq = .returned vq ∧ Q5 Z a b h0 n0 vq Uq'.heap Lq ∧ FrameEnd Uq oq Uq' Lq ({ frames := 0, cells := 0, slots := 0, locals := 0 } : Room).cells ({ frames := 0, cells := 0, slots := 0, locals := 0 } : Room).slots) := by
  refine MetFree.of_bodySF (plainFor_of_name pn5) hisR ?_
  intro p e s m args below meth c s₁ Bd hml0 hP hK
  obtain ⟨rfl, hZ, hh⟩ := hP
  have hx := Bd.exec
  have hby := Bd.bytes
  have hml : c.maxLocals = 2 := hml0
  have hown : s.vm.findClass "java/util/Objects" = some m.cls := findClass_of_methodNamed Bd.named
  have hnm := (name_of_methodNamed Bd.named Bd.method).1
  have X0 : Stand p l e ({ frames := 0, cells := 0, slots := 0, locals := 0 } : Room) s m #[(.ref a), (.ref b)] below meth c s₁ [] 0 0 := Stand.of_body Bd
  have e0 : s₁.heap = h0 := by rw [← hh, Bd.state]; rfl
  have N0 := Fr.nil n0
  obtain ⟨A, hA⟩ : ∃ A, A = s₁.setTop (entryFrame m #[(.ref a), (.ref b)] 2) := ⟨_, rfl⟩
  rw [← hA]
  have g0 : Gz p.tables e below A s₁ (mkF m 0 #[.val (.ref a), .val (.ref b)] []) := fun tq kq => by rw [hA]; exact castTop (ef5 m a b) kq
  have g1 : Gz p.tables e below A s₁ (mkF m 1 #[.val (.ref a), .val (.ref b)] [(.ref a)]) := fun tq kq => g0 tq (XS.aloadN X0.here hx rfl (hb hby d5_0) rfl rfl kq)
  have g2 : Gz p.tables e below A s₁ (mkF m 13 #[.val (.ref a), .val (.ref b)] []) := fun tq kq => g1 tq (XS.ifnonnullYes X0.here hx rfl (pc0 := 1) (pc' := 13) rfl (hb hby d5_1) rfl (by decide) (by decide) kq)
  have g3 : Gz p.tables e below A s₁ (mkF m 14 #[.val (.ref a), .val (.ref b)] [(.ref a)]) := fun tq kq => g2 tq (XS.aloadN X0.here hx rfl (hb hby d5_13) rfl rfl kq)
  obtain ⟨fs, hr, hrun, hended, hW, hsame⟩ := X0.leave (v := some (.ref a)) (fun h => by rw [Bd.returns] at h; cases h)
  refine ⟨_, _, g3 _ (retOut X0 hx Bd.returns rfl (Or.inr (Or.inr (Or.inr (Or.inr ⟨rfl, rfl, rfl⟩)))) (hb hby d5_14) hr), hrun, hended, _, _, rfl, ?_, ⟨_, rfl⟩, hW, hsame.mono (by decide) (by decide)⟩
  show Q5 Z a b h0 n0 _ s₁.heap _
  rw [e0]
  exact ⟨rfl, N0, rfl⟩

theorem d6_0 : decode jdk_31_method_10_code 0 = .ok (.aload_n 0, 1) := by decide +kernel
theorem d6_1 : decode jdk_31_method_10_code 1 = .ok (.ifnonnull 11, 3) := by decide +kernel
theorem d6_12 : decode jdk_31_method_10_code 12 = .ok (.aload_n 0, 1) := by decide +kernel
theorem d6_13 : decode jdk_31_method_10_code 13 = .ok (.areturn, 1) := by decide +kernel
theorem pn6 : plainName "java/util/Objects" = true := by first | (simp [plainName, overriddenIn]; done) | decide +kernel
theorem ef6 (m : MethodId) (x0 : Addr) : entryFrame m #[(.ref x0)] 1 = mkF m 0 #[.val (.ref x0)] [] := by first | (simp [entryFrame, mkF, argsToLocals, Value.category]; done) | rfl
def Q6 (Z : State) (a : Addr) (h0 : Heap) (n0 : Nat) (v : Option Value) (h : Heap) (L : List Loc) : Prop := v = some (.ref a) ∧ Fr n0 L ∧ h = h0
set_option maxRecDepth 65536 in
set_option maxHeartbeats 40000000 in
theorem rm6 (l : Launch) (Z : State) (a0 : Array Value) (hw : ∀ d ∈ tables_1, d.before a0 Z = true) (ws : List Jvm.Cond) (a : Addr) (h0 : Heap) (n0 : Nat) (Z0 : n0 ≤ h0.size) :
    MetFree l (⟨"java/util/Objects", "requireNonNull", "(Ljava/lang/Object;)Ljava/lang/Object;"⟩ : MethodName) (head1 (Jvm.Cond.code (⟨"java/util/Objects", "requireNonNull", "(Ljava/lang/Object;)Ljava/lang/Object;"⟩ : MethodName) jdk_31_method_10_code 1 (some (.object "java/lang/Object")) :: ws) ({ frames := 0, cells := 0, slots := 0, locals := 0 } : Room)) (fun aq Uq => aq = #[(.ref a)] ∧ Z.Warmed39 Uq.vm ∧ Uq.heap = h0) (fun _ _ _ _ _ => True) (fun _ Uq oq Uq' => ∃ vq Lq, oq = .returned vq ∧ Q6 Z a h0 n0 vq Uq'.heap Lq ∧ FrameEnd Uq oq Uq' Lq ({ frames := 0, cells := 0, slots := 0, locals := 0 } : Room).cells ({ frames := 0, cells := 0, slots := 0, locals := 0 } : Room).slots) := by
  refine MetFree.of_bodySF (plainFor_of_name pn6) hisR ?_
  intro p e s m args below meth c s₁ Bd hml0 hP hK
  obtain ⟨rfl, hZ, hh⟩ := hP
  have hx := Bd.exec
  have hby := Bd.bytes
  have hml : c.maxLocals = 1 := hml0
  have hown : s.vm.findClass "java/util/Objects" = some m.cls := findClass_of_methodNamed Bd.named
  have hnm := (name_of_methodNamed Bd.named Bd.method).1
  have X0 : Stand p l e ({ frames := 0, cells := 0, slots := 0, locals := 0 } : Room) s m #[(.ref a)] below meth c s₁ [] 0 0 := Stand.of_body Bd
  have e0 : s₁.heap = h0 := by rw [← hh, Bd.state]; rfl
  have N0 := Fr.nil n0
  obtain ⟨A, hA⟩ : ∃ A, A = s₁.setTop (entryFrame m #[(.ref a)] 1) := ⟨_, rfl⟩
  rw [← hA]
  have g0 : Gz p.tables e below A s₁ (mkF m 0 #[.val (.ref a)] []) := fun tq kq => by rw [hA]; exact castTop (ef6 m a) kq
  have g1 : Gz p.tables e below A s₁ (mkF m 1 #[.val (.ref a)] [(.ref a)]) := fun tq kq => g0 tq (XS.aloadN X0.here hx rfl (hb hby d6_0) rfl rfl kq)
  have g2 : Gz p.tables e below A s₁ (mkF m 12 #[.val (.ref a)] []) := fun tq kq => g1 tq (XS.ifnonnullYes X0.here hx rfl (pc0 := 1) (pc' := 12) rfl (hb hby d6_1) rfl (by decide) (by decide) kq)
  have g3 : Gz p.tables e below A s₁ (mkF m 13 #[.val (.ref a)] [(.ref a)]) := fun tq kq => g2 tq (XS.aloadN X0.here hx rfl (hb hby d6_12) rfl rfl kq)
  obtain ⟨fs, hr, hrun, hended, hW, hsame⟩ := X0.leave (v := some (.ref a)) (fun h => by rw [Bd.returns] at h; cases h)
  refine ⟨_, _, g3 _ (retOut X0 hx Bd.returns rfl (Or.inr (Or.inr (Or.inr (Or.inr ⟨rfl, rfl, rfl⟩)))) (hb hby d6_13) hr), hrun, hended, _, _, rfl, ?_, ⟨_, rfl⟩, hW, hsame.mono (by decide) (by decide)⟩
  show Q6 Z a h0 n0 _ s₁.heap _
  rw [e0]
  exact ⟨rfl, N0, rfl⟩

theorem d7_0 : decode jdk_32_method_7_code 0 = .ok (.aload_n 0, 1) := by decide +kernel
theorem d7_1 : decode jdk_32_method_7_code 1 = .ok (.getfield 13, 3) := by decide +kernel
theorem d7_4 : decode jdk_32_method_7_code 4 = .ok (.ifnonnull 7, 3) := by decide +kernel
theorem d7_7 : decode jdk_32_method_7_code 7 = .ok (.iconst 1, 1) := by decide +kernel
theorem d7_8 : decode jdk_32_method_7_code 8 = .ok (.goto 4, 3) := by decide +kernel
theorem d7_12 : decode jdk_32_method_7_code 12 = .ok (.ireturn, 1) := by decide +kernel
theorem pn7 : plainName "java/util/Optional" = true := by first | (simp [plainName, overriddenIn]; done) | decide +kernel
theorem ef7 (m : MethodId) (x0 : Addr) : entryFrame m #[(.ref x0)] 1 = mkF m 0 #[.val (.ref x0)] [] := by first | (simp [entryFrame, mkF, argsToLocals, Value.category]; done) | rfl
def Q7 (Z : State) (a : Addr) (h0 : Heap) (n0 : Nat) (v : Option Value) (h : Heap) (L : List Loc) : Prop := v = some (.int 1) ∧ Fr n0 L ∧ h = h0
set_option maxRecDepth 65536 in
set_option maxHeartbeats 40000000 in
theorem rm7 (l : Launch) (Z : State) (a0 : Array Value) (hw : ∀ d ∈ tables_1, d.before a0 Z = true) (ws : List Jvm.Cond) (a : Addr) (h0 : Heap) (n0 : Nat) (Z0 : n0 ≤ h0.size) (F_o : Fld Z h0 a "java/util/Optional" "value" "Ljava/lang/Object;" .null) :
    MetFree l (⟨"java/util/Optional", "isEmpty", "()Z"⟩ : MethodName) (head1 (Jvm.Cond.code (⟨"java/util/Optional", "isEmpty", "()Z"⟩ : MethodName) jdk_32_method_7_code 1 (some .boolean) :: ws) ({ frames := 0, cells := 0, slots := 0, locals := 0 } : Room)) (fun aq Uq => aq = #[(.ref a)] ∧ Z.Warmed39 Uq.vm ∧ Uq.heap = h0) (fun _ _ _ _ _ => True) (fun _ Uq oq Uq' => ∃ vq Lq, oq = .returned vq ∧ Q7 Z a h0 n0 vq Uq'.heap Lq ∧ FrameEnd Uq oq Uq' Lq ({ frames := 0, cells := 0, slots := 0, locals := 0 } : Room).cells ({ frames := 0, cells := 0, slots := 0, locals := 0 } : Room).slots) := by
  refine MetFree.of_bodySF (plainFor_of_name pn7) hisR ?_
  intro p e s m args below meth c s₁ Bd hml0 hP hK
  obtain ⟨rfl, hZ, hh⟩ := hP
  have hx := Bd.exec
  have hby := Bd.bytes
  have hml : c.maxLocals = 1 := hml0
  have hown : s.vm.findClass "java/util/Optional" = some m.cls := findClass_of_methodNamed Bd.named
  have hnm := (name_of_methodNamed Bd.named Bd.method).1
  have X0 : Stand p l e ({ frames := 0, cells := 0, slots := 0, locals := 0 } : Room) s m #[(.ref a)] below meth c s₁ [] 0 0 := Stand.of_body Bd
  have e0 : s₁.heap = h0 := by rw [← hh, Bd.state]; rfl
  have N0 := Fr.nil n0
  obtain ⟨A, hA⟩ : ∃ A, A = s₁.setTop (entryFrame m #[(.ref a)] 1) := ⟨_, rfl⟩
  rw [← hA]
  have g0 : Gz p.tables e below A s₁ (mkF m 0 #[.val (.ref a)] []) := fun tq kq => by rw [hA]; exact castTop (ef7 m a) kq
  have g1 : Gz p.tables e below A s₁ (mkF m 1 #[.val (.ref a)] [(.ref a)]) := fun tq kq => g0 tq (XS.aloadN X0.here hx rfl (hb hby d7_0) rfl rfl kq)
  obtain ⟨T2, X2, e2, st2⟩ := getF X0 hx hZ hown (host := "") (Or.inl (hw _ (List.mem_of_getElem? (i := 84) rfl))) Via.refl e0 F_o (g := (mkF m 1 #[.val (.ref a)] [(.ref a)])) rfl rfl (hb hby d7_1)
  have g3 : Gz p.tables e below A T2 (mkF m 4 #[.val (.ref a)] [.null]) := fun tq kq => g1 tq (st2 tq kq)
  have g4 : Gz p.tables e below A T2 (mkF m 7 #[.val (.ref a)] []) := fun tq kq => g3 tq (XS.ifnonnullNo X2.here hx rfl (hb hby d7_4) rfl kq)
  have g5 : Gz p.tables e below A T2 (mkF m 8 #[.val (.ref a)] [(.int (1 : Int32))]) := fun tq kq => g4 tq (XS.iconst X2.here hx rfl (hb hby d7_7) kq)
  have g6 : Gz p.tables e below A T2 (mkF m 12 #[.val (.ref a)] [(.int (1 : Int32))]) := fun tq kq => g5 tq (XS.goto X2.here hx rfl (pc0 := 8) (pc' := 12) rfl (hb hby d7_8) (by decide) (by decide) kq)
  obtain ⟨fs, hr, hrun, hended, hW, hsame⟩ := X2.leave (v := some (.int (1 : Int32))) (fun h => by rw [Bd.returns] at h; cases h)
  refine ⟨_, _, g6 _ (retN X2 hx (t := .boolean) Bd.returns (by simp) (hb hby d7_12) hr), hrun, hended, _, _, rfl, ?_, ⟨_, rfl⟩, hW, hsame.mono (by decide) (by decide)⟩
  show Q7 Z a h0 n0 _ T2.heap _
  rw [e2]
  exact ⟨rfl, N0, rfl⟩

theorem d8_0 : decode jdk_32_method_11_code 0 = .ok (.aload_n 1, 1) := by decide +kernel
theorem d8_1 : decode jdk_32_method_11_code 1 = .ok (.invokestatic 17, 3) := by decide +kernel
theorem d8_4 : decode jdk_32_method_11_code 4 = .ok (.pop, 1) := by decide +kernel
theorem d8_5 : decode jdk_32_method_11_code 5 = .ok (.aload_n 0, 1) := by decide +kernel
theorem d8_6 : decode jdk_32_method_11_code 6 = .ok (.invokevirtual 43, 3) := by decide +kernel
theorem d8_9 : decode jdk_32_method_11_code 9 = .ok (.ifCond .eq 7, 3) := by decide +kernel
theorem d8_12 : decode jdk_32_method_11_code 12 = .ok (.invokestatic 53, 3) := by decide +kernel
theorem d8_15 : decode jdk_32_method_11_code 15 = .ok (.areturn, 1) := by decide +kernel
theorem pn8 : plainName "java/util/Optional" = true := by first | (simp [plainName, overriddenIn]; done) | decide +kernel
theorem pd8_0 : parseMethodDescriptor "(Ljava/lang/Object;)Ljava/lang/Object;" = some ⟨[(.object "java/lang/Object")], some (.object "java/lang/Object")⟩ := by decide +kernel
theorem pd8_1 : parseMethodDescriptor "()Z" = some ⟨[], some .boolean⟩ := by decide +kernel
theorem pd8_2 : parseMethodDescriptor "()Ljava/util/Optional;" = some ⟨[], some (.object "java/util/Optional")⟩ := by decide +kernel
theorem ef8 (m : MethodId) (x0 : Addr) (x1 : Addr) : entryFrame m #[(.ref x0), (.ref x1)] 2 = mkF m 0 #[.val (.ref x0), .val (.ref x1)] [] := by first | (simp [entryFrame, mkF, argsToLocals, Value.category]; done) | rfl
def Q8 (Z : State) (a : Addr) (f : Addr) (em : Addr) (h0 : Heap) (n0 : Nat) (v : Option Value) (h : Heap) (L : List Loc) : Prop := v = some (.ref em) ∧ Fr n0 L ∧ h = h0
set_option maxRecDepth 65536 in
set_option maxHeartbeats 40000000 in
theorem rm8 (l : Launch) (Z : State) (a0 : Array Value) (hw : ∀ d ∈ tables_1, d.before a0 Z = true) (ws : List Jvm.Cond) (a : Addr) (f : Addr) (em : Addr) (h0 : Heap) (n0 : Nat) (Z0 : n0 ≤ h0.size) (F_o : Fld Z h0 a "java/util/Optional" "value" "Ljava/lang/Object;" .null) (E_o : Exa Z h0 a "java/util/Optional") (S_E : Sta Z h0 "java/util/Optional" "EMPTY" "Ljava/util/Optional;" (.ref em)) :
    MetFree l (⟨"java/util/Optional", "map", "(Ljava/util/function/Function;)Ljava/util/Optional;"⟩ : MethodName) (head1 (Jvm.Cond.code (⟨"java/util/Optional", "map", "(Ljava/util/function/Function;)Ljava/util/Optional;"⟩ : MethodName) jdk_32_method_11_code 2 (some (.object "java/util/Optional")) :: ws) ({ frames := 1, cells := 0, slots := 0, locals := 12 } : Room)) (fun aq Uq => aq = #[(.ref a), (.ref f)] ∧ Z.Warmed39 Uq.vm ∧ Uq.heap = h0) (fun _ _ _ _ _ => True) (fun _ Uq oq Uq' => ∃ vq Lq, oq = .returned vq ∧ Q8 Z a f em h0 n0 vq Uq'.heap Lq ∧ FrameEnd Uq oq Uq' Lq ({ frames := 1, cells := 0, slots := 0, locals := 12 } : Room).cells ({ frames := 1, cells := 0, slots := 0, locals := 12 } : Room).slots) := by
  refine MetFree.of_bodySF (plainFor_of_name pn8) hisR ?_
  intro p e s m args below meth c s₁ Bd hml0 hP hK
  obtain ⟨rfl, hZ, hh⟩ := hP
  have hx := Bd.exec
  have hby := Bd.bytes
  have hml : c.maxLocals = 2 := hml0
  have hown : s.vm.findClass "java/util/Optional" = some m.cls := findClass_of_methodNamed Bd.named
  have hnm := (name_of_methodNamed Bd.named Bd.method).1
  have X0 : Stand p l e ({ frames := 1, cells := 0, slots := 0, locals := 12 } : Room) s m #[(.ref a), (.ref f)] below meth c s₁ [] 0 0 := Stand.of_body Bd
  have e0 : s₁.heap = h0 := by rw [← hh, Bd.state]; rfl
  have N0 := Fr.nil n0
  obtain ⟨A, hA⟩ : ∃ A, A = s₁.setTop (entryFrame m #[(.ref a), (.ref f)] 2) := ⟨_, rfl⟩
  rw [← hA]
  have g0 : Gz p.tables e below A s₁ (mkF m 0 #[.val (.ref a), .val (.ref f)] []) := fun tq kq => by rw [hA]; exact castTop (ef8 m a f) kq
  have g1 : Gz p.tables e below A s₁ (mkF m 1 #[.val (.ref a), .val (.ref f)] [(.ref f)]) := fun tq kq => g0 tq (XS.aloadN X0.here hx rfl (hb hby d8_0) rfl rfl kq)
  obtain ⟨_, _, ⟨T2, L2, k2, n2⟩, -, X2, ⟨Lc2, hQ2, l2, y2, z2⟩, st2⟩ := Jvm.LawKit.callS X0 hx (y := (⟨"java/util/Objects", "requireNonNull", "(Ljava/lang/Object;)Ljava/lang/Object;"⟩ : MethodName)) hown (mvT hZ (hw _ (List.mem_of_getElem? (i := 76) rfl))) (mvT hZ (hw _ (List.mem_of_getElem? (i := 77) rfl))) (mvT hZ (hw _ (List.mem_of_getElem? (i := 43) rfl))) (mvT hZ (hw _ (List.mem_of_getElem? (i := 78) rfl))) (by decide) (backOf (W := 0) (rm6 l Z a0 hw [] f h0 n0 Z0) hZ (hw _ (List.mem_of_getElem? (i := 78) rfl)) (hw _ (List.mem_of_getElem? (i := 43) rfl)) (by decide) (by decide)) (g := (mkF m 1 #[.val (.ref a), .val (.ref f)] [(.ref f)])) rfl (by rw [hml]; rfl) (argsL := [(.ref f)]) (rest := []) (lenOf pd8_0 rfl) rfl (by show 2 * 0 + _ ≤ _; exact Nat.le_of_eq rfl) (hb hby d8_1) (fun _ _ => ⟨rfl, e0, (by decide : 0 + 0 ≤ _), (by decide : 0 + 0 ≤ _)⟩)
  dsimp only [Pt.U, Pt.locs, Pt.cells, Pt.slots] at X2 l2 y2 z2 st2 hQ2
  subst l2 y2 z2
  obtain ⟨rfl, N2q, e2⟩ := hQ2
  have N2 := Fr.app N0 N2q
  have g3 : Gz p.tables e below A T2 (mkF m 4 #[.val (.ref a), .val (.ref f)] [(.ref f)]) := fun tq kq => g1 tq (st2 _ kq)
  have g4 : Gz p.tables e below A T2 (mkF m 5 #[.val (.ref a), .val (.ref f)] []) := fun tq kq => g3 tq (XS.pop X2.here hx rfl (hb hby d8_4) rfl rfl kq)
  have g5 : Gz p.tables e below A T2 (mkF m 6 #[.val (.ref a), .val (.ref f)] [(.ref a)]) := fun tq kq => g4 tq (XS.aloadN X2.here hx rfl (hb hby d8_5) rfl rfl kq)
  obtain ⟨cq6, kq6, q6a, q6b, q6c⟩ := isOf hZ e2 E_o
  obtain ⟨_, _, ⟨T6, L6, k6, n6⟩, -, X6, ⟨Lc6, hQ6, l6, y6, z6⟩, st6⟩ := X2.virtualBack hx (y := (⟨"java/util/Optional", "isEmpty", "()Z"⟩ : MethodName)) (z := (⟨"java/util/Optional", "isEmpty", "()Z"⟩ : MethodName)) hown (mvT hZ (hw _ (List.mem_of_getElem? (i := 79) rfl))) (mvT hZ (hw _ (List.mem_of_getElem? (i := 80) rfl))) (notFace_of_selects (args := #[]) (mvT hZ (hw _ (List.mem_of_getElem? (i := 82) rfl)))) (mvT hZ (hw _ (List.mem_of_getElem? (i := 82) rfl))) (mvT hZ (hw _ (List.mem_of_getElem? (i := 81) rfl))) (by decide) (backOf (W := 0) (rm7 l Z a0 hw [] a h0 n0 Z0 F_o) hZ (hw _ (List.mem_of_getElem? (i := 83) rfl)) (hw _ (List.mem_of_getElem? (i := 19) rfl)) (by decide) (by decide)) q6a q6c (g := (mkF m 6 #[.val (.ref a), .val (.ref f)] [(.ref a)])) rfl (by rw [hml]; rfl) (Steps.refl _) (argsL := []) (rest := []) (lenOf pd8_1 rfl) rfl (by show 2 * 0 + _ ≤ _; exact Nat.le_of_eq rfl) (hb hby d8_6) (fun _ _ => ⟨rfl, e2, (by decide : 0 + 0 ≤ _), (by decide : 0 + 0 ≤ _)⟩)
  dsimp only [Pt.U, Pt.locs, Pt.cells, Pt.slots] at X6 l6 y6 z6 st6 hQ6
  subst l6 y6 z6
  obtain ⟨rfl, N6q, e6⟩ := hQ6
  have N6 := Fr.app N2 N6q
  have g7 : Gz p.tables e below A T6 (mkF m 9 #[.val (.ref a), .val (.ref f)] [(.int (1 : Int32))]) := fun tq kq => g5 tq (st6.trans kq)
  have g8 : Gz p.tables e below A T6 (mkF m 12 #[.val (.ref a), .val (.ref f)] []) := fun tq kq => g7 tq (XS.ifNo X6.here hx rfl (hb hby d8_9) rfl ((if0 _ _).trans (feq (by decide)).1) kq)
  obtain ⟨_, _, ⟨T9, L9, k9, n9⟩, -, X9, ⟨Lc9, hQ9, l9, y9, z9⟩, st9⟩ := Jvm.LawKit.callS X6 hx (y := (⟨"java/util/Optional", "empty", "()Ljava/util/Optional;"⟩ : MethodName)) hown (mvT hZ (hw _ (List.mem_of_getElem? (i := 86) rfl))) (mvT hZ (hw _ (List.mem_of_getElem? (i := 18) rfl))) (mvT hZ (hw _ (List.mem_of_getElem? (i := 19) rfl))) (mvT hZ (hw _ (List.mem_of_getElem? (i := 20) rfl))) (by decide) (backOf (W := 0) (rm3 l Z a0 hw [] em h0 n0 Z0 S_E) hZ (hw _ (List.mem_of_getElem? (i := 20) rfl)) (hw _ (List.mem_of_getElem? (i := 19) rfl)) (by decide) (by decide)) (g := (mkF m 12 #[.val (.ref a), .val (.ref f)] [])) rfl (by rw [hml]; rfl) (argsL := []) (rest := []) (lenOf pd8_2 rfl) rfl (by show 2 * 0 + _ ≤ _; exact Nat.le_of_eq rfl) (hb hby d8_12) (fun _ _ => ⟨rfl, e6, (by decide : 0 + 0 ≤ _), (by decide : 0 + 0 ≤ _)⟩)
  dsimp only [Pt.U, Pt.locs, Pt.cells, Pt.slots] at X9 l9 y9 z9 st9 hQ9
  subst l9 y9 z9
  obtain ⟨rfl, N9q, e9⟩ := hQ9
  have N9 := Fr.app N6 N9q
  have g10 : Gz p.tables e below A T9 (mkF m 15 #[.val (.ref a), .val (.ref f)] [(.ref em)]) := fun tq kq => g8 tq (st9 _ kq)
  obtain ⟨fs, hr, hrun, hended, hW, hsame⟩ := X9.leave (v := some (.ref em)) (fun h => by rw [Bd.returns] at h; cases h)
  refine ⟨_, _, g10 _ (retOut X9 hx Bd.returns rfl (Or.inr (Or.inr (Or.inr (Or.inr ⟨rfl, rfl, rfl⟩)))) (hb hby d8_15) hr), hrun, hended, _, _, rfl, ?_, ⟨_, rfl⟩, hW, hsame.mono (by decide) (by decide)⟩
  show Q8 Z a f em h0 n0 _ T9.heap _
  rw [e9]
  exact ⟨rfl, N9, rfl⟩

theorem d9_0 : decode prog_63_method_6_code 0 = .ok (.aload_n 0, 1) := by decide +kernel
theorem d9_1 : decode prog_63_method_6_code 1 = .ok (.getfield 40, 3) := by decide +kernel
theorem d9_4 : decode prog_63_method_6_code 4 = .ok (.ireturn, 1) := by decide +kernel
theorem pn9 : plainName "com/example/harborspread/harborspread/Product" = true := by first | (simp [plainName, overriddenIn]; done) | decide +kernel
theorem ef9 (m : MethodId) (x0 : Addr) : entryFrame m #[(.ref x0)] 1 = mkF m 0 #[.val (.ref x0)] [] := by first | (simp [entryFrame, mkF, argsToLocals, Value.category]; done) | rfl
def Q9 (Z : State) (a : Addr) (x : Int32) (h0 : Heap) (n0 : Nat) (v : Option Value) (h : Heap) (L : List Loc) : Prop := v = some (.int x) ∧ Fr n0 L ∧ h = h0
set_option maxRecDepth 65536 in
set_option maxHeartbeats 40000000 in
theorem rm9 (l : Launch) (Z : State) (a0 : Array Value) (hw : ∀ d ∈ tables_1, d.before a0 Z = true) (ws : List Jvm.Cond) (a : Addr) (x : Int32) (h0 : Heap) (n0 : Nat) (Z0 : n0 ≤ h0.size) (F : Fld Z h0 a "com/example/harborspread/harborspread/Product" "priceScale" "I" (.int x)) :
    MetFree l (⟨"com/example/harborspread/harborspread/Product", "priceScale", "()I"⟩ : MethodName) (head1 (Jvm.Cond.code (⟨"com/example/harborspread/harborspread/Product", "priceScale", "()I"⟩ : MethodName) prog_63_method_6_code 1 (some .int) :: ws) ({ frames := 0, cells := 0, slots := 0, locals := 0 } : Room)) (fun aq Uq => aq = #[(.ref a)] ∧ Z.Warmed39 Uq.vm ∧ Uq.heap = h0) (fun _ _ _ _ _ => True) (fun _ Uq oq Uq' => ∃ vq Lq, oq = .returned vq ∧ Q9 Z a x h0 n0 vq Uq'.heap Lq ∧ FrameEnd Uq oq Uq' Lq ({ frames := 0, cells := 0, slots := 0, locals := 0 } : Room).cells ({ frames := 0, cells := 0, slots := 0, locals := 0 } : Room).slots) := by
  refine MetFree.of_bodySF (plainFor_of_name pn9) hisR ?_
  intro p e s m args below meth c s₁ Bd hml0 hP hK
  obtain ⟨rfl, hZ, hh⟩ := hP
  have hx := Bd.exec
  have hby := Bd.bytes
  have hml : c.maxLocals = 1 := hml0
  have hown : s.vm.findClass "com/example/harborspread/harborspread/Product" = some m.cls := findClass_of_methodNamed Bd.named
  have hnm := (name_of_methodNamed Bd.named Bd.method).1
  have X0 : Stand p l e ({ frames := 0, cells := 0, slots := 0, locals := 0 } : Room) s m #[(.ref a)] below meth c s₁ [] 0 0 := Stand.of_body Bd
  have e0 : s₁.heap = h0 := by rw [← hh, Bd.state]; rfl
  have N0 := Fr.nil n0
  obtain ⟨A, hA⟩ : ∃ A, A = s₁.setTop (entryFrame m #[(.ref a)] 1) := ⟨_, rfl⟩
  rw [← hA]
  have g0 : Gz p.tables e below A s₁ (mkF m 0 #[.val (.ref a)] []) := fun tq kq => by rw [hA]; exact castTop (ef9 m a) kq
  have g1 : Gz p.tables e below A s₁ (mkF m 1 #[.val (.ref a)] [(.ref a)]) := fun tq kq => g0 tq (XS.aloadN X0.here hx rfl (hb hby d9_0) rfl rfl kq)
  obtain ⟨T2, X2, e2, st2⟩ := getF X0 hx hZ hown (host := "") (Or.inl (hw _ (List.mem_of_getElem? (i := 92) rfl))) Via.refl e0 F (g := (mkF m 1 #[.val (.ref a)] [(.ref a)])) rfl rfl (hb hby d9_1)
  have g3 : Gz p.tables e below A T2 (mkF m 4 #[.val (.ref a)] [(.int x)]) := fun tq kq => g1 tq (st2 tq kq)
  obtain ⟨fs, hr, hrun, hended, hW, hsame⟩ := X2.leave (v := some (.int x)) (fun h => by rw [Bd.returns] at h; cases h)
  refine ⟨_, _, g3 _ (retOut X2 hx Bd.returns rfl (Or.inl ⟨rfl, Or.inl rfl, _, rfl⟩) (hb hby d9_4) hr), hrun, hended, _, _, rfl, ?_, ⟨_, rfl⟩, hW, hsame.mono (by decide) (by decide)⟩
  show Q9 Z a x h0 n0 _ T2.heap _
  rw [e2]
  exact ⟨rfl, N0, rfl⟩

theorem d10_0 : decode jdk_33_method_22_code 0 = .ok (.iload_n 0, 1) := by decide +kernel
theorem d10_1 : decode jdk_33_method_22_code 1 = .ok (.bipush (-128), 2) := by decide +kernel
theorem d10_3 : decode jdk_33_method_22_code 3 = .ok (.if_icmp .lt 20, 3) := by decide +kernel
theorem d10_6 : decode jdk_33_method_22_code 6 = .ok (.iload_n 0, 1) := by decide +kernel
theorem d10_7 : decode jdk_33_method_22_code 7 = .ok (.getstatic 191, 3) := by decide +kernel
theorem d10_10 : decode jdk_33_method_22_code 10 = .ok (.if_icmp .gt 13, 3) := by decide +kernel
theorem d10_13 : decode jdk_33_method_22_code 13 = .ok (.getstatic 195, 3) := by decide +kernel
theorem d10_16 : decode jdk_33_method_22_code 16 = .ok (.iload_n 0, 1) := by decide +kernel
theorem d10_17 : decode jdk_33_method_22_code 17 = .ok (.sipush 128, 3) := by decide +kernel
theorem d10_20 : decode jdk_33_method_22_code 20 = .ok (.iadd, 1) := by decide +kernel
theorem d10_21 : decode jdk_33_method_22_code 21 = .ok (.aaload, 1) := by decide +kernel
theorem d10_22 : decode jdk_33_method_22_code 22 = .ok (.areturn, 1) := by decide +kernel
theorem pn10 : plainName "java/lang/Integer" = true := by first | (simp [plainName, overriddenIn]; done) | decide +kernel
theorem ef10 (m : MethodId) (x0 : Int32) : entryFrame m #[(.int x0)] 1 = mkF m 0 #[.val (.int x0)] [] := by first | (simp [entryFrame, mkF, argsToLocals, Value.category]; done) | rfl
def Q10 (Z : State) (x : Int32) (ca : Addr) (clc : Cell) (b : Addr) (h0 : Heap) (n0 : Nat) (v : Option Value) (h : Heap) (L : List Loc) : Prop := v = some (.ref b) ∧ Fr n0 L ∧ h = h0
set_option maxRecDepth 65536 in
set_option maxHeartbeats 40000000 in
theorem rm10 (l : Launch) (Z : State) (a0 : Array Value) (hw : ∀ d ∈ tables_1, d.before a0 Z = true) (ws : List Jvm.Cond) (x : Int32) (ca : Addr) (clc : Cell) (b : Addr) (h0 : Heap) (n0 : Nat) (Z0 : n0 ≤ h0.size) (S_H : Sta Z h0 "java/lang/Integer$IntegerCache" "high" "I" (.int 127)) (S_C : Sta Z h0 "java/lang/Integer$IntegerCache" "cache" "[Ljava/lang/Integer;" (.ref ca)) (A_c : Arr Z h0 ca clc (.object "java/lang/Integer")) (hx1 : ¬ (x < (-128 : Int32))) (hx2 : ¬ ((127 : Int32) < x)) (hin : ¬ ((x + (128 : Int32)) < 0 ∨ clc.slots.size ≤ (x + (128 : Int32)).toNatClampNeg)) (hat : clc.slots[(x + (128 : Int32)).toNatClampNeg]? = some (.ref b)) :
    MetFree l (⟨"java/lang/Integer", "valueOf", "(I)Ljava/lang/Integer;"⟩ : MethodName) (head1 (Jvm.Cond.code (⟨"java/lang/Integer", "valueOf", "(I)Ljava/lang/Integer;"⟩ : MethodName) jdk_33_method_22_code 1 (some (.object "java/lang/Integer")) :: ws) ({ frames := 0, cells := 0, slots := 0, locals := 0 } : Room)) (fun aq Uq => aq = #[(.int x)] ∧ Z.Warmed39 Uq.vm ∧ Uq.heap = h0) (fun _ _ _ _ _ => True) (fun _ Uq oq Uq' => ∃ vq Lq, oq = .returned vq ∧ Q10 Z x ca clc b h0 n0 vq Uq'.heap Lq ∧ FrameEnd Uq oq Uq' Lq ({ frames := 0, cells := 0, slots := 0, locals := 0 } : Room).cells ({ frames := 0, cells := 0, slots := 0, locals := 0 } : Room).slots) := by
  refine MetFree.of_bodySF (plainFor_of_name pn10) hisR ?_
  intro p e s m args below meth c s₁ Bd hml0 hP hK
  obtain ⟨rfl, hZ, hh⟩ := hP
  have hx := Bd.exec
  have hby := Bd.bytes
  have hml : c.maxLocals = 1 := hml0
  have hown : s.vm.findClass "java/lang/Integer" = some m.cls := findClass_of_methodNamed Bd.named
  have hnm := (name_of_methodNamed Bd.named Bd.method).1
  have X0 : Stand p l e ({ frames := 0, cells := 0, slots := 0, locals := 0 } : Room) s m #[(.int x)] below meth c s₁ [] 0 0 := Stand.of_body Bd
  have e0 : s₁.heap = h0 := by rw [← hh, Bd.state]; rfl
  have N0 := Fr.nil n0
  obtain ⟨A, hA⟩ : ∃ A, A = s₁.setTop (entryFrame m #[(.int x)] 1) := ⟨_, rfl⟩
  rw [← hA]
  have g0 : Gz p.tables e below A s₁ (mkF m 0 #[.val (.int x)] []) := fun tq kq => by rw [hA]; exact castTop (ef10 m x) kq
  have g1 : Gz p.tables e below A s₁ (mkF m 1 #[.val (.int x)] [(.int x)]) := fun tq kq => g0 tq (XS.iloadN X0.here hx rfl (hb hby d10_0) rfl kq)
  have g2 : Gz p.tables e below A s₁ (mkF m 3 #[.val (.int x)] [(.int (-128 : Int32)), (.int x)]) := fun tq kq => g1 tq (XS.bipush X0.here hx rfl (hb hby d10_1) kq)
  have g3 : Gz p.tables e below A s₁ (mkF m 6 #[.val (.int x)] []) := fun tq kq => g2 tq (XS.icmpNo X0.here hx rfl (hb hby d10_3) rfl (flt hx1).1 kq)
  have g4 : Gz p.tables e below A s₁ (mkF m 7 #[.val (.int x)] [(.int x)]) := fun tq kq => g3 tq (XS.iloadN X0.here hx rfl (hb hby d10_6) rfl kq)
  obtain ⟨T5, X5, e5, st5⟩ := getS2 X0 hx hZ hown (host := "") (Or.inl (hw _ (List.mem_of_getElem? (i := 98) rfl))) Via.refl e0 S_H (g := (mkF m 7 #[.val (.int x)] [(.int x)])) rfl (hb hby d10_7)
  have g6 : Gz p.tables e below A T5 (mkF m 10 #[.val (.int x)] [(.int (127 : Int32)), (.int x)]) := fun tq kq => g4 tq (st5 tq kq)
  have g7 : Gz p.tables e below A T5 (mkF m 13 #[.val (.int x)] []) := fun tq kq => g6 tq (XS.icmpNo X5.here hx rfl (hb hby d10_10) rfl (flt hx2).2.2.1 kq)
  obtain ⟨T8, X8, e8, st8⟩ := getS2 X5 hx hZ hown (host := "") (Or.inl (hw _ (List.mem_of_getElem? (i := 100) rfl))) Via.refl e5 S_C (g := (mkF m 13 #[.val (.int x)] [])) rfl (hb hby d10_13)
  have g9 : Gz p.tables e below A T8 (mkF m 16 #[.val (.int x)] [(.ref ca)]) := fun tq kq => g7 tq (st8 tq kq)
  have g10 : Gz p.tables e below A T8 (mkF m 17 #[.val (.int x)] [(.int x), (.ref ca)]) := fun tq kq => g9 tq (XS.iloadN X8.here hx rfl (hb hby d10_16) rfl kq)
  have g11 : Gz p.tables e below A T8 (mkF m 20 #[.val (.int x)] [(.int (128 : Int32)), (.int x), (.ref ca)]) := fun tq kq => g10 tq (XS.sipush X8.here hx rfl (hb hby d10_17) kq)
  have g12 : Gz p.tables e below A T8 (mkF m 21 #[.val (.int x)] [(.int (x + (128 : Int32))), (.ref ca)]) := fun tq kq => g11 tq (XS.iadd X8.here hx rfl (hb hby d10_20) rfl kq)
  have g13 : Gz p.tables e below A T8 (mkF m 22 #[.val (.int x)] [(.ref b)]) := fun tq kq => g12 tq (X8.aaload hx (j := (x + (128 : Int32))) (v := .ref b) (by rw [e8]; exact A_c.1) (State.isArrayOf_alike hZ.alike A_c.2.1) rfl A_c.2.2 hin hat (g := (mkF m 21 #[.val (.int x)] [(.int (x + (128 : Int32))), (.ref ca)])) rfl rfl (hb hby d10_21) _ kq)
  obtain ⟨fs, hr, hrun, hended, hW, hsame⟩ := X8.leave (v := some (.ref b)) (fun h => by rw [Bd.returns] at h; cases h)
  refine ⟨_, _, g13 _ (retOut X8 hx Bd.returns rfl (Or.inr (Or.inr (Or.inr (Or.inr ⟨rfl, rfl, rfl⟩)))) (hb hby d10_22) hr), hrun, hended, _, _, rfl, ?_, ⟨_, rfl⟩, hW, hsame.mono (by decide) (by decide)⟩
  show Q10 Z x ca clc b h0 n0 _ T8.heap _
  rw [e8]
  exact ⟨rfl, N0, rfl⟩

theorem d11_0 : decode jdk_32_method_15_code 0 = .ok (.aload_n 0, 1) := by decide +kernel
theorem d11_1 : decode jdk_32_method_15_code 1 = .ok (.getfield 13, 3) := by decide +kernel
theorem d11_4 : decode jdk_32_method_15_code 4 = .ok (.ifnull 10, 3) := by decide +kernel
theorem d11_14 : decode jdk_32_method_15_code 14 = .ok (.aload_n 1, 1) := by decide +kernel
theorem d11_15 : decode jdk_32_method_15_code 15 = .ok (.areturn, 1) := by decide +kernel
theorem pn11 : plainName "java/util/Optional" = true := by first | (simp [plainName, overriddenIn]; done) | decide +kernel
theorem ef11 (m : MethodId) (x0 : Addr) (x1 : Addr) : entryFrame m #[(.ref x0), (.ref x1)] 2 = mkF m 0 #[.val (.ref x0), .val (.ref x1)] [] := by first | (simp [entryFrame, mkF, argsToLocals, Value.category]; done) | rfl
def Q11 (Z : State) (a : Addr) (b : Addr) (h0 : Heap) (n0 : Nat) (v : Option Value) (h : Heap) (L : List Loc) : Prop := v = some (.ref b) ∧ Fr n0 L ∧ h = h0
set_option maxRecDepth 65536 in
set_option maxHeartbeats 40000000 in
theorem rm11 (l : Launch) (Z : State) (a0 : Array Value) (hw : ∀ d ∈ tables_1, d.before a0 Z = true) (ws : List Jvm.Cond) (a : Addr) (b : Addr) (h0 : Heap) (n0 : Nat) (Z0 : n0 ≤ h0.size) (F_o : Fld Z h0 a "java/util/Optional" "value" "Ljava/lang/Object;" .null) :
    MetFree l (⟨"java/util/Optional", "orElse", "(Ljava/lang/Object;)Ljava/lang/Object;"⟩ : MethodName) (head1 (Jvm.Cond.code (⟨"java/util/Optional", "orElse", "(Ljava/lang/Object;)Ljava/lang/Object;"⟩ : MethodName) jdk_32_method_15_code 2 (some (.object "java/lang/Object")) :: ws) ({ frames := 0, cells := 0, slots := 0, locals := 0 } : Room)) (fun aq Uq => aq = #[(.ref a), (.ref b)] ∧ Z.Warmed39 Uq.vm ∧ Uq.heap = h0) (fun _ _ _ _ _ => True) (fun _ Uq oq Uq' => ∃ vq Lq, oq = .returned vq ∧ Q11 Z a b h0 n0 vq Uq'.heap Lq ∧ FrameEnd Uq oq Uq' Lq ({ frames := 0, cells := 0, slots := 0, locals := 0 } : Room).cells ({ frames := 0, cells := 0, slots := 0, locals := 0 } : Room).slots) := by
  refine MetFree.of_bodySF (plainFor_of_name pn11) hisR ?_
  intro p e s m args below meth c s₁ Bd hml0 hP hK
  obtain ⟨rfl, hZ, hh⟩ := hP
  have hx := Bd.exec
  have hby := Bd.bytes
  have hml : c.maxLocals = 2 := hml0
  have hown : s.vm.findClass "java/util/Optional" = some m.cls := findClass_of_methodNamed Bd.named
  have hnm := (name_of_methodNamed Bd.named Bd.method).1
  have X0 : Stand p l e ({ frames := 0, cells := 0, slots := 0, locals := 0 } : Room) s m #[(.ref a), (.ref b)] below meth c s₁ [] 0 0 := Stand.of_body Bd
  have e0 : s₁.heap = h0 := by rw [← hh, Bd.state]; rfl
  have N0 := Fr.nil n0
  obtain ⟨A, hA⟩ : ∃ A, A = s₁.setTop (entryFrame m #[(.ref a), (.ref b)] 2) := ⟨_, rfl⟩
  rw [← hA]
  have g0 : Gz p.tables e below A s₁ (mkF m 0 #[.val (.ref a), .val (.ref b)] []) := fun tq kq => by rw [hA]; exact castTop (ef11 m a b) kq
  have g1 : Gz p.tables e below A s₁ (mkF m 1 #[.val (.ref a), .val (.ref b)] [(.ref a)]) := fun tq kq => g0 tq (XS.aloadN X0.here hx rfl (hb hby d11_0) rfl rfl kq)
  obtain ⟨T2, X2, e2, st2⟩ := getF X0 hx hZ hown (host := "") (Or.inl (hw _ (List.mem_of_getElem? (i := 84) rfl))) Via.refl e0 F_o (g := (mkF m 1 #[.val (.ref a), .val (.ref b)] [(.ref a)])) rfl rfl (hb hby d11_1)
  have g3 : Gz p.tables e below A T2 (mkF m 4 #[.val (.ref a), .val (.ref b)] [.null]) := fun tq kq => g1 tq (st2 tq kq)
  have g4 : Gz p.tables e below A T2 (mkF m 14 #[.val (.ref a), .val (.ref b)] []) := fun tq kq => g3 tq (XS.ifnullYes X2.here hx rfl (pc0 := 4) (pc' := 14) rfl (hb hby d11_4) rfl (by decide) (by decide) kq)
  have g5 : Gz p.tables e below A T2 (mkF m 15 #[.val (.ref a), .val (.ref b)] [(.ref b)]) := fun tq kq => g4 tq (XS.aloadN X2.here hx rfl (hb hby d11_14) rfl rfl kq)
  obtain ⟨fs, hr, hrun, hended, hW, hsame⟩ := X2.leave (v := some (.ref b)) (fun h => by rw [Bd.returns] at h; cases h)
  refine ⟨_, _, g5 _ (retOut X2 hx Bd.returns rfl (Or.inr (Or.inr (Or.inr (Or.inr ⟨rfl, rfl, rfl⟩)))) (hb hby d11_15) hr), hrun, hended, _, _, rfl, ?_, ⟨_, rfl⟩, hW, hsame.mono (by decide) (by decide)⟩
  show Q11 Z a b h0 n0 _ T2.heap _
  rw [e2]
  exact ⟨rfl, N0, rfl⟩

theorem d12_0 : decode jdk_33_method_27_code 0 = .ok (.aload_n 0, 1) := by decide +kernel
theorem d12_1 : decode jdk_33_method_27_code 1 = .ok (.getfield 205, 3) := by decide +kernel
theorem d12_4 : decode jdk_33_method_27_code 4 = .ok (.ireturn, 1) := by decide +kernel
theorem pn12 : plainName "java/lang/Integer" = true := by first | (simp [plainName, overriddenIn]; done) | decide +kernel
theorem ef12 (m : MethodId) (x0 : Addr) : entryFrame m #[(.ref x0)] 1 = mkF m 0 #[.val (.ref x0)] [] := by first | (simp [entryFrame, mkF, argsToLocals, Value.category]; done) | rfl
def Q12 (Z : State) (a : Addr) (x : Int32) (h0 : Heap) (n0 : Nat) (v : Option Value) (h : Heap) (L : List Loc) : Prop := v = some (.int x) ∧ Fr n0 L ∧ h = h0
set_option maxRecDepth 65536 in
set_option maxHeartbeats 40000000 in
theorem rm12 (l : Launch) (Z : State) (a0 : Array Value) (hw : ∀ d ∈ tables_1, d.before a0 Z = true) (ws : List Jvm.Cond) (a : Addr) (x : Int32) (h0 : Heap) (n0 : Nat) (Z0 : n0 ≤ h0.size) (F : Fld Z h0 a "java/lang/Integer" "value" "I" (.int x)) :
    MetFree l (⟨"java/lang/Integer", "intValue", "()I"⟩ : MethodName) (head1 (Jvm.Cond.code (⟨"java/lang/Integer", "intValue", "()I"⟩ : MethodName) jdk_33_method_27_code 1 (some .int) :: ws) ({ frames := 0, cells := 0, slots := 0, locals := 0 } : Room)) (fun aq Uq => aq = #[(.ref a)] ∧ Z.Warmed39 Uq.vm ∧ Uq.heap = h0) (fun _ _ _ _ _ => True) (fun _ Uq oq Uq' => ∃ vq Lq, oq = .returned vq ∧ Q12 Z a x h0 n0 vq Uq'.heap Lq ∧ FrameEnd Uq oq Uq' Lq ({ frames := 0, cells := 0, slots := 0, locals := 0 } : Room).cells ({ frames := 0, cells := 0, slots := 0, locals := 0 } : Room).slots) := by
  refine MetFree.of_bodySF (plainFor_of_name pn12) hisR ?_
  intro p e s m args below meth c s₁ Bd hml0 hP hK
  obtain ⟨rfl, hZ, hh⟩ := hP
  have hx := Bd.exec
  have hby := Bd.bytes
  have hml : c.maxLocals = 1 := hml0
  have hown : s.vm.findClass "java/lang/Integer" = some m.cls := findClass_of_methodNamed Bd.named
  have hnm := (name_of_methodNamed Bd.named Bd.method).1
  have X0 : Stand p l e ({ frames := 0, cells := 0, slots := 0, locals := 0 } : Room) s m #[(.ref a)] below meth c s₁ [] 0 0 := Stand.of_body Bd
  have e0 : s₁.heap = h0 := by rw [← hh, Bd.state]; rfl
  have N0 := Fr.nil n0
  obtain ⟨A, hA⟩ : ∃ A, A = s₁.setTop (entryFrame m #[(.ref a)] 1) := ⟨_, rfl⟩
  rw [← hA]
  have g0 : Gz p.tables e below A s₁ (mkF m 0 #[.val (.ref a)] []) := fun tq kq => by rw [hA]; exact castTop (ef12 m a) kq
  have g1 : Gz p.tables e below A s₁ (mkF m 1 #[.val (.ref a)] [(.ref a)]) := fun tq kq => g0 tq (XS.aloadN X0.here hx rfl (hb hby d12_0) rfl rfl kq)
  obtain ⟨T2, X2, e2, st2⟩ := getF X0 hx hZ hown (host := "") (Or.inl (hw _ (List.mem_of_getElem? (i := 113) rfl))) Via.refl e0 F (g := (mkF m 1 #[.val (.ref a)] [(.ref a)])) rfl rfl (hb hby d12_1)
  have g3 : Gz p.tables e below A T2 (mkF m 4 #[.val (.ref a)] [(.int x)]) := fun tq kq => g1 tq (st2 tq kq)
  obtain ⟨fs, hr, hrun, hended, hW, hsame⟩ := X2.leave (v := some (.int x)) (fun h => by rw [Bd.returns] at h; cases h)
  refine ⟨_, _, g3 _ (retOut X2 hx Bd.returns rfl (Or.inl ⟨rfl, Or.inl rfl, _, rfl⟩) (hb hby d12_4) hr), hrun, hended, _, _, rfl, ?_, ⟨_, rfl⟩, hW, hsame.mono (by decide) (by decide)⟩
  show Q12 Z a x h0 n0 _ T2.heap _
  rw [e2]
  exact ⟨rfl, N0, rfl⟩

theorem d13_0 : decode prog_44_method_9_code 0 = .ok (.aload_n 0, 1) := by decide +kernel
theorem d13_1 : decode prog_44_method_9_code 1 = .ok (.getfield 19, 3) := by decide +kernel
theorem d13_4 : decode prog_44_method_9_code 4 = .ok (.areturn, 1) := by decide +kernel
theorem pn13 : plainName "com/example/harborspread/harborspread/LegTerms" = true := by first | (simp [plainName, overriddenIn]; done) | decide +kernel
theorem ef13 (m : MethodId) (x0 : Addr) : entryFrame m #[(.ref x0)] 1 = mkF m 0 #[.val (.ref x0)] [] := by first | (simp [entryFrame, mkF, argsToLocals, Value.category]; done) | rfl
def Q13 (Z : State) (a : Addr) (b : Addr) (h0 : Heap) (n0 : Nat) (v : Option Value) (h : Heap) (L : List Loc) : Prop := v = some (.ref b) ∧ Fr n0 L ∧ h = h0
set_option maxRecDepth 65536 in
set_option maxHeartbeats 40000000 in
theorem rm13 (l : Launch) (Z : State) (a0 : Array Value) (hw : ∀ d ∈ tables_1, d.before a0 Z = true) (ws : List Jvm.Cond) (a : Addr) (b : Addr) (h0 : Heap) (n0 : Nat) (Z0 : n0 ≤ h0.size) (F : Fld Z h0 a "com/example/harborspread/harborspread/LegTerms" "product" "Lcom/example/harborspread/harborspread/Product;" (.ref b)) :
    MetFree l (⟨"com/example/harborspread/harborspread/LegTerms", "product", "()Lcom/example/harborspread/harborspread/Product;"⟩ : MethodName) (head1 (Jvm.Cond.code (⟨"com/example/harborspread/harborspread/LegTerms", "product", "()Lcom/example/harborspread/harborspread/Product;"⟩ : MethodName) prog_44_method_9_code 1 (some (.object "com/example/harborspread/harborspread/Product")) :: ws) ({ frames := 0, cells := 0, slots := 0, locals := 0 } : Room)) (fun aq Uq => aq = #[(.ref a)] ∧ Z.Warmed39 Uq.vm ∧ Uq.heap = h0) (fun _ _ _ _ _ => True) (fun _ Uq oq Uq' => ∃ vq Lq, oq = .returned vq ∧ Q13 Z a b h0 n0 vq Uq'.heap Lq ∧ FrameEnd Uq oq Uq' Lq ({ frames := 0, cells := 0, slots := 0, locals := 0 } : Room).cells ({ frames := 0, cells := 0, slots := 0, locals := 0 } : Room).slots) := by
  refine MetFree.of_bodySF (plainFor_of_name pn13) hisR ?_
  intro p e s m args below meth c s₁ Bd hml0 hP hK
  obtain ⟨rfl, hZ, hh⟩ := hP
  have hx := Bd.exec
  have hby := Bd.bytes
  have hml : c.maxLocals = 1 := hml0
  have hown : s.vm.findClass "com/example/harborspread/harborspread/LegTerms" = some m.cls := findClass_of_methodNamed Bd.named
  have hnm := (name_of_methodNamed Bd.named Bd.method).1
  have X0 : Stand p l e ({ frames := 0, cells := 0, slots := 0, locals := 0 } : Room) s m #[(.ref a)] below meth c s₁ [] 0 0 := Stand.of_body Bd
  have e0 : s₁.heap = h0 := by rw [← hh, Bd.state]; rfl
  have N0 := Fr.nil n0
  obtain ⟨A, hA⟩ : ∃ A, A = s₁.setTop (entryFrame m #[(.ref a)] 1) := ⟨_, rfl⟩
  rw [← hA]
  have g0 : Gz p.tables e below A s₁ (mkF m 0 #[.val (.ref a)] []) := fun tq kq => by rw [hA]; exact castTop (ef13 m a) kq
  have g1 : Gz p.tables e below A s₁ (mkF m 1 #[.val (.ref a)] [(.ref a)]) := fun tq kq => g0 tq (XS.aloadN X0.here hx rfl (hb hby d13_0) rfl rfl kq)
  obtain ⟨T2, X2, e2, st2⟩ := getF X0 hx hZ hown (host := "") (Or.inl (hw _ (List.mem_of_getElem? (i := 47) rfl))) Via.refl e0 F (g := (mkF m 1 #[.val (.ref a)] [(.ref a)])) rfl rfl (hb hby d13_1)
  have g3 : Gz p.tables e below A T2 (mkF m 4 #[.val (.ref a)] [(.ref b)]) := fun tq kq => g1 tq (st2 tq kq)
  obtain ⟨fs, hr, hrun, hended, hW, hsame⟩ := X2.leave (v := some (.ref b)) (fun h => by rw [Bd.returns] at h; cases h)
  refine ⟨_, _, g3 _ (retOut X2 hx Bd.returns rfl (Or.inr (Or.inr (Or.inr (Or.inr ⟨rfl, rfl, rfl⟩)))) (hb hby d13_4) hr), hrun, hended, _, _, rfl, ?_, ⟨_, rfl⟩, hW, hsame.mono (by decide) (by decide)⟩
  show Q13 Z a b h0 n0 _ T2.heap _
  rw [e2]
  exact ⟨rfl, N0, rfl⟩

theorem d14_0 : decode prog_44_method_10_code 0 = .ok (.aload_n 0, 1) := by decide +kernel
theorem d14_1 : decode prog_44_method_10_code 1 = .ok (.getfield 24, 3) := by decide +kernel
theorem d14_4 : decode prog_44_method_10_code 4 = .ok (.areturn, 1) := by decide +kernel
theorem pn14 : plainName "com/example/harborspread/harborspread/LegTerms" = true := by first | (simp [plainName, overriddenIn]; done) | decide +kernel
theorem ef14 (m : MethodId) (x0 : Addr) : entryFrame m #[(.ref x0)] 1 = mkF m 0 #[.val (.ref x0)] [] := by first | (simp [entryFrame, mkF, argsToLocals, Value.category]; done) | rfl
def Q14 (Z : State) (a : Addr) (b : Addr) (h0 : Heap) (n0 : Nat) (v : Option Value) (h : Heap) (L : List Loc) : Prop := v = some (.ref b) ∧ Fr n0 L ∧ h = h0
set_option maxRecDepth 65536 in
set_option maxHeartbeats 40000000 in
theorem rm14 (l : Launch) (Z : State) (a0 : Array Value) (hw : ∀ d ∈ tables_1, d.before a0 Z = true) (ws : List Jvm.Cond) (a : Addr) (b : Addr) (h0 : Heap) (n0 : Nat) (Z0 : n0 ≤ h0.size) (F : Fld Z h0 a "com/example/harborspread/harborspread/LegTerms" "nearby" "Lcom/example/harborspread/harborspread/NearbyRule;" (.ref b)) :
    MetFree l (⟨"com/example/harborspread/harborspread/LegTerms", "nearby", "()Lcom/example/harborspread/harborspread/NearbyRule;"⟩ : MethodName) (head1 (Jvm.Cond.code (⟨"com/example/harborspread/harborspread/LegTerms", "nearby", "()Lcom/example/harborspread/harborspread/NearbyRule;"⟩ : MethodName) prog_44_method_10_code 1 (some (.object "com/example/harborspread/harborspread/NearbyRule")) :: ws) ({ frames := 0, cells := 0, slots := 0, locals := 0 } : Room)) (fun aq Uq => aq = #[(.ref a)] ∧ Z.Warmed39 Uq.vm ∧ Uq.heap = h0) (fun _ _ _ _ _ => True) (fun _ Uq oq Uq' => ∃ vq Lq, oq = .returned vq ∧ Q14 Z a b h0 n0 vq Uq'.heap Lq ∧ FrameEnd Uq oq Uq' Lq ({ frames := 0, cells := 0, slots := 0, locals := 0 } : Room).cells ({ frames := 0, cells := 0, slots := 0, locals := 0 } : Room).slots) := by
  refine MetFree.of_bodySF (plainFor_of_name pn14) hisR ?_
  intro p e s m args below meth c s₁ Bd hml0 hP hK
  obtain ⟨rfl, hZ, hh⟩ := hP
  have hx := Bd.exec
  have hby := Bd.bytes
  have hml : c.maxLocals = 1 := hml0
  have hown : s.vm.findClass "com/example/harborspread/harborspread/LegTerms" = some m.cls := findClass_of_methodNamed Bd.named
  have hnm := (name_of_methodNamed Bd.named Bd.method).1
  have X0 : Stand p l e ({ frames := 0, cells := 0, slots := 0, locals := 0 } : Room) s m #[(.ref a)] below meth c s₁ [] 0 0 := Stand.of_body Bd
  have e0 : s₁.heap = h0 := by rw [← hh, Bd.state]; rfl
  have N0 := Fr.nil n0
  obtain ⟨A, hA⟩ : ∃ A, A = s₁.setTop (entryFrame m #[(.ref a)] 1) := ⟨_, rfl⟩
  rw [← hA]
  have g0 : Gz p.tables e below A s₁ (mkF m 0 #[.val (.ref a)] []) := fun tq kq => by rw [hA]; exact castTop (ef14 m a) kq
  have g1 : Gz p.tables e below A s₁ (mkF m 1 #[.val (.ref a)] [(.ref a)]) := fun tq kq => g0 tq (XS.aloadN X0.here hx rfl (hb hby d14_0) rfl rfl kq)
  obtain ⟨T2, X2, e2, st2⟩ := getF X0 hx hZ hown (host := "") (Or.inl (hw _ (List.mem_of_getElem? (i := 49) rfl))) Via.refl e0 F (g := (mkF m 1 #[.val (.ref a)] [(.ref a)])) rfl rfl (hb hby d14_1)
  have g3 : Gz p.tables e below A T2 (mkF m 4 #[.val (.ref a)] [(.ref b)]) := fun tq kq => g1 tq (st2 tq kq)
  obtain ⟨fs, hr, hrun, hended, hW, hsame⟩ := X2.leave (v := some (.ref b)) (fun h => by rw [Bd.returns] at h; cases h)
  refine ⟨_, _, g3 _ (retOut X2 hx Bd.returns rfl (Or.inr (Or.inr (Or.inr (Or.inr ⟨rfl, rfl, rfl⟩)))) (hb hby d14_4) hr), hrun, hended, _, _, rfl, ?_, ⟨_, rfl⟩, hW, hsame.mono (by decide) (by decide)⟩
  show Q14 Z a b h0 n0 _ T2.heap _
  rw [e2]
  exact ⟨rfl, N0, rfl⟩

theorem d15_0 : decode prog_44_method_5_code 0 = .ok (.aload_n 0, 1) := by decide +kernel
theorem d15_1 : decode prog_44_method_5_code 1 = .ok (.getfield 27, 3) := by decide +kernel
theorem d15_4 : decode prog_44_method_5_code 4 = .ok (.invokedynamic 57, 5) := by decide +kernel
theorem d15_9 : decode prog_44_method_5_code 9 = .ok (.invokevirtual 60, 3) := by decide +kernel
theorem d15_12 : decode prog_44_method_5_code 12 = .ok (.aload_n 0, 1) := by decide +kernel
theorem d15_13 : decode prog_44_method_5_code 13 = .ok (.getfield 19, 3) := by decide +kernel
theorem d15_16 : decode prog_44_method_5_code 16 = .ok (.invokevirtual 64, 3) := by decide +kernel
theorem d15_19 : decode prog_44_method_5_code 19 = .ok (.invokestatic 70, 3) := by decide +kernel
theorem d15_22 : decode prog_44_method_5_code 22 = .ok (.invokevirtual 76, 3) := by decide +kernel
theorem d15_25 : decode prog_44_method_5_code 25 = .ok (.checkcast 71, 3) := by decide +kernel
theorem d15_28 : decode prog_44_method_5_code 28 = .ok (.invokevirtual 80, 3) := by decide +kernel
theorem d15_31 : decode prog_44_method_5_code 31 = .ok (.ireturn, 1) := by decide +kernel
theorem pn15 : plainName "com/example/harborspread/harborspread/LegTerms" = true := by first | (simp [plainName, overriddenIn]; done) | decide +kernel
theorem pd15_0 : parseMethodDescriptor "(Ljava/util/function/Function;)Ljava/util/Optional;" = some ⟨[(.object "java/util/function/Function")], some (.object "java/util/Optional")⟩ := by decide +kernel
theorem pd15_1 : parseMethodDescriptor "()I" = some ⟨[], some .int⟩ := by decide +kernel
theorem pd15_2 : parseMethodDescriptor "(I)Ljava/lang/Integer;" = some ⟨[.int], some (.object "java/lang/Integer")⟩ := by decide +kernel
theorem pd15_3 : parseMethodDescriptor "(Ljava/lang/Object;)Ljava/lang/Object;" = some ⟨[(.object "java/lang/Object")], some (.object "java/lang/Object")⟩ := by decide +kernel
theorem ef15 (m : MethodId) (x0 : Addr) : entryFrame m #[(.ref x0)] 1 = mkF m 0 #[.val (.ref x0)] [] := by first | (simp [entryFrame, mkF, argsToLocals, Value.category]; done) | rfl
def Q15 (Z : State) (a : Addr) (em : Addr) (pr : Addr) (x : Int32) (ca : Addr) (clc : Cell) (b : Addr) (h0 : Heap) (n0 : Nat) (v : Option Value) (h : Heap) (L : List Loc) : Prop := v = some (.int x) ∧ Fr n0 L ∧ h = h0
set_option maxRecDepth 65536 in
set_option maxHeartbeats 40000000 in
theorem rm15 (l : Launch) (Z : State) (a0 : Array Value) (hw : ∀ d ∈ tables_1, d.before a0 Z = true) (ws : List Jvm.Cond) (a : Addr) (em : Addr) (pr : Addr) (x : Int32) (ca : Addr) (clc : Cell) (b : Addr) (h0 : Heap) (n0 : Nat) (Z0 : n0 ≤ h0.size) (F_c : Fld Z h0 a "com/example/harborspread/harborspread/LegTerms" "conversion" "Ljava/util/Optional;" (.ref em)) (F_p : Fld Z h0 a "com/example/harborspread/harborspread/LegTerms" "product" "Lcom/example/harborspread/harborspread/Product;" (.ref pr)) (F_em : Fld Z h0 em "java/util/Optional" "value" "Ljava/lang/Object;" .null) (E_em : Exa Z h0 em "java/util/Optional") (S_E : Sta Z h0 "java/util/Optional" "EMPTY" "Ljava/util/Optional;" (.ref em)) (E_pr : Exa Z h0 pr "com/example/harborspread/harborspread/Product") (F_x : Fld Z h0 pr "com/example/harborspread/harborspread/Product" "priceScale" "I" (.int x)) (S_H : Sta Z h0 "java/lang/Integer$IntegerCache" "high" "I" (.int 127)) (S_C : Sta Z h0 "java/lang/Integer$IntegerCache" "cache" "[Ljava/lang/Integer;" (.ref ca)) (A_c : Arr Z h0 ca clc (.object "java/lang/Integer")) (hx1 : ¬ (x < (-128 : Int32))) (hx2 : ¬ ((127 : Int32) < x)) (hin : ¬ ((x + (128 : Int32)) < 0 ∨ clc.slots.size ≤ (x + (128 : Int32)).toNatClampNeg)) (hat : clc.slots[(x + (128 : Int32)).toNatClampNeg]? = some (.ref b)) (E_b : Exa Z h0 b "java/lang/Integer") (F_b : Fld Z h0 b "java/lang/Integer" "value" "I" (.int x)) :
    MetFree l (⟨"com/example/harborspread/harborspread/LegTerms", "valueScale", "()I"⟩ : MethodName) (head1 (Jvm.Cond.code (⟨"com/example/harborspread/harborspread/LegTerms", "valueScale", "()I"⟩ : MethodName) prog_44_method_5_code 1 (some .int) :: ws) ({ frames := 2, cells := 0, slots := 0, locals := 3073 } : Room)) (fun aq Uq => aq = #[(.ref a)] ∧ Z.Warmed39 Uq.vm ∧ Uq.heap = h0) (fun _ _ _ _ _ => True) (fun _ Uq oq Uq' => ∃ vq Lq, oq = .returned vq ∧ Q15 Z a em pr x ca clc b h0 n0 vq Uq'.heap Lq ∧ FrameEnd Uq oq Uq' Lq ({ frames := 2, cells := 0, slots := 0, locals := 3073 } : Room).cells ({ frames := 2, cells := 0, slots := 0, locals := 3073 } : Room).slots) := by
  refine MetFree.of_bodySF (plainFor_of_name pn15) hisR ?_
  intro p e s m args below meth c s₁ Bd hml0 hP hK
  obtain ⟨rfl, hZ, hh⟩ := hP
  have hx := Bd.exec
  have hby := Bd.bytes
  have hml : c.maxLocals = 1 := hml0
  have hown : s.vm.findClass "com/example/harborspread/harborspread/LegTerms" = some m.cls := findClass_of_methodNamed Bd.named
  have hnm := (name_of_methodNamed Bd.named Bd.method).1
  have X0 : Stand p l e ({ frames := 2, cells := 0, slots := 0, locals := 3073 } : Room) s m #[(.ref a)] below meth c s₁ [] 0 0 := Stand.of_body Bd
  have e0 : s₁.heap = h0 := by rw [← hh, Bd.state]; rfl
  have N0 := Fr.nil n0
  obtain ⟨A, hA⟩ : ∃ A, A = s₁.setTop (entryFrame m #[(.ref a)] 1) := ⟨_, rfl⟩
  rw [← hA]
  have g0 : Gz p.tables e below A s₁ (mkF m 0 #[.val (.ref a)] []) := fun tq kq => by rw [hA]; exact castTop (ef15 m a) kq
  have g1 : Gz p.tables e below A s₁ (mkF m 1 #[.val (.ref a)] [(.ref a)]) := fun tq kq => g0 tq (XS.aloadN X0.here hx rfl (hb hby d15_0) rfl rfl kq)
  obtain ⟨T2, X2, e2, st2⟩ := getF X0 hx hZ hown (host := "") (Or.inl (hw _ (List.mem_of_getElem? (i := 51) rfl))) Via.refl e0 F_c (g := (mkF m 1 #[.val (.ref a)] [(.ref a)])) rfl rfl (hb hby d15_1)
  have g3 : Gz p.tables e below A T2 (mkF m 4 #[.val (.ref a)] [(.ref em)]) := fun tq kq => g1 tq (st2 tq kq)
  obtain ⟨cK, one, hatS⟩ := Cond.lambdaSite_spec (hw _ (List.mem_of_getElem? (i := 68) rfl))
  obtain ⟨m', kS, cfS, i0, p0, lk, hm', hkS, -, -, -, hfind, -, -, hlk⟩ := State.lambdaAt?_spec hatS
  obtain ⟨fo, hfo⟩ : ∃ a₀, lk = .constant a₀ := by
    rcases hlk with ⟨a₀, -, q, -⟩ | ⟨-, -, q⟩
    · exact ⟨a₀, q⟩
    · exact absurd rfl q
  subst hfo
  have hmq : s.methodNamed? (⟨"com/example/harborspread/harborspread/LegTerms", "valueScale", "()I"⟩ : MethodName) = Z.methodNamed? (⟨"com/example/harborspread/harborspread/LegTerms", "valueScale", "()I"⟩ : MethodName) := State.methodNamed?_setVm (s := Z) hZ.alike _
  obtain rfl : m = m' := Option.some.inj (Bd.named.symm.trans (hmq.trans hm'))
  obtain ⟨kS', hkS', heS⟩ := hZ.alike.2.2 _ _ hkS
  have hfind' : (kS'.callSites.find? fun y => y.1 == m.idx && y.2.1 == 4) = some (i0, p0, .constant fo) := by rw [heS]; exact hfind
  have g4 : Gz p.tables e below A T2 (mkF m 9 #[.val (.ref a)] [(.ref fo), (.ref em)]) := fun tq kq => g3 tq (X2.lambdaConstant hx (g := (mkF m 4 #[.val (.ref a)] [(.ref em)])) rfl (by rw [hml]; rfl) (hb hby d15_4) hkS' hfind' (by rw [Bd.admits.platform]; show 2 * 0 + 1 + 3072 ≤ 3073; decide) kq)
  obtain ⟨cq5, kq5, q5a, q5b, q5c⟩ := isOf hZ e2 E_em
  obtain ⟨_, _, ⟨T5, L5, k5, n5⟩, -, X5, ⟨Lc5, hQ5, l5, y5, z5⟩, st5⟩ := X2.virtualBack hx (y := (⟨"java/util/Optional", "map", "(Ljava/util/function/Function;)Ljava/util/Optional;"⟩ : MethodName)) (z := (⟨"java/util/Optional", "map", "(Ljava/util/function/Function;)Ljava/util/Optional;"⟩ : MethodName)) hown (mvT hZ (hw _ (List.mem_of_getElem? (i := 71) rfl))) (mvT hZ (hw _ (List.mem_of_getElem? (i := 72) rfl))) (notFace_of_selects (args := #[]) (mvT hZ (hw _ (List.mem_of_getElem? (i := 74) rfl)))) (mvT hZ (hw _ (List.mem_of_getElem? (i := 74) rfl))) (mvT hZ (hw _ (List.mem_of_getElem? (i := 73) rfl))) (by decide) (backOf (W := 0) (rm8 l Z a0 hw [] em fo em h0 n0 Z0 F_em E_em S_E) hZ (hw _ (List.mem_of_getElem? (i := 75) rfl)) (hw _ (List.mem_of_getElem? (i := 19) rfl)) (by decide) (by decide)) q5a q5c (g := (mkF m 9 #[.val (.ref a)] [(.ref fo), (.ref em)])) rfl (by rw [hml]; rfl) (Steps.refl _) (argsL := [(.ref fo)]) (rest := []) (lenOf pd15_0 rfl) rfl (by show 2 * 0 + _ ≤ _; exact Nat.le_of_eq rfl) (hb hby d15_9) (fun _ _ => ⟨rfl, e2, (by decide : 0 + 0 ≤ _), (by decide : 0 + 0 ≤ _)⟩)
  dsimp only [Pt.U, Pt.locs, Pt.cells, Pt.slots] at X5 l5 y5 z5 st5 hQ5
  subst l5 y5 z5
  obtain ⟨rfl, N5q, e5⟩ := hQ5
  have N5 := Fr.app N0 N5q
  have g6 : Gz p.tables e below A T5 (mkF m 12 #[.val (.ref a)] [(.ref em)]) := fun tq kq => g4 tq (st5.trans kq)
  have g7 : Gz p.tables e below A T5 (mkF m 13 #[.val (.ref a)] [(.ref a), (.ref em)]) := fun tq kq => g6 tq (XS.aloadN X5.here hx rfl (hb hby d15_12) rfl rfl kq)
  obtain ⟨T8, X8, e8, st8⟩ := getF X5 hx hZ hown (host := "") (Or.inl (hw _ (List.mem_of_getElem? (i := 47) rfl))) Via.refl e5 F_p (g := (mkF m 13 #[.val (.ref a)] [(.ref a), (.ref em)])) rfl rfl (hb hby d15_13)
  have g9 : Gz p.tables e below A T8 (mkF m 16 #[.val (.ref a)] [(.ref pr), (.ref em)]) := fun tq kq => g7 tq (st8 tq kq)
  obtain ⟨cq10, kq10, q10a, q10b, q10c⟩ := isOf hZ e8 E_pr
  obtain ⟨_, _, ⟨T10, L10, k10, n10⟩, -, X10, ⟨Lc10, hQ10, l10, y10, z10⟩, st10⟩ := X8.virtualBack hx (y := (⟨"com/example/harborspread/harborspread/Product", "priceScale", "()I"⟩ : MethodName)) (z := (⟨"com/example/harborspread/harborspread/Product", "priceScale", "()I"⟩ : MethodName)) hown (mvT hZ (hw _ (List.mem_of_getElem? (i := 87) rfl))) (mvT hZ (hw _ (List.mem_of_getElem? (i := 88) rfl))) (notFace_of_selects (args := #[]) (mvT hZ (hw _ (List.mem_of_getElem? (i := 90) rfl)))) (mvT hZ (hw _ (List.mem_of_getElem? (i := 90) rfl))) (mvT hZ (hw _ (List.mem_of_getElem? (i := 89) rfl))) (by decide) (backOf (W := 1) (rm9 l Z a0 hw [] pr x h0 n0 Z0 F_x) hZ (hw _ (List.mem_of_getElem? (i := 91) rfl)) (hw _ (List.mem_of_getElem? (i := 6) rfl)) (by decide) (by decide)) q10a q10c (g := (mkF m 16 #[.val (.ref a)] [(.ref pr), (.ref em)])) rfl (by rw [hml]; rfl) (Steps.refl _) (argsL := []) (rest := [(.ref em)]) (lenOf pd15_1 rfl) rfl (by show 2 * 0 + _ ≤ _; exact Nat.le_of_eq rfl) (hb hby d15_16) (fun _ _ => ⟨rfl, e8, (by decide : 0 + 0 ≤ _), (by decide : 0 + 0 ≤ _)⟩)
  dsimp only [Pt.U, Pt.locs, Pt.cells, Pt.slots] at X10 l10 y10 z10 st10 hQ10
  subst l10 y10 z10
  obtain ⟨rfl, N10q, e10⟩ := hQ10
  have N10 := Fr.app N5 N10q
  have g11 : Gz p.tables e below A T10 (mkF m 19 #[.val (.ref a)] [(.int x), (.ref em)]) := fun tq kq => g9 tq (st10.trans kq)
  obtain ⟨_, _, ⟨T12, L12, k12, n12⟩, -, X12, ⟨Lc12, hQ12, l12, y12, z12⟩, st12⟩ := Jvm.LawKit.callS X10 hx (y := (⟨"java/lang/Integer", "valueOf", "(I)Ljava/lang/Integer;"⟩ : MethodName)) hown (mvT hZ (hw _ (List.mem_of_getElem? (i := 94) rfl))) (mvT hZ (hw _ (List.mem_of_getElem? (i := 95) rfl))) (mvT hZ (hw _ (List.mem_of_getElem? (i := 96) rfl))) (mvT hZ (hw _ (List.mem_of_getElem? (i := 97) rfl))) (by decide) (backOf (W := 1) (rm10 l Z a0 hw [] x ca clc b h0 n0 Z0 S_H S_C A_c hx1 hx2 hin hat) hZ (hw _ (List.mem_of_getElem? (i := 97) rfl)) (hw _ (List.mem_of_getElem? (i := 96) rfl)) (by decide) (by decide)) (g := (mkF m 19 #[.val (.ref a)] [(.int x), (.ref em)])) rfl (by rw [hml]; rfl) (argsL := [(.int x)]) (rest := [(.ref em)]) (lenOf pd15_2 rfl) rfl (by show 2 * 0 + _ ≤ _; exact Nat.le_of_eq rfl) (hb hby d15_19) (fun _ _ => ⟨rfl, e10, (by decide : 0 + 0 ≤ _), (by decide : 0 + 0 ≤ _)⟩)
  dsimp only [Pt.U, Pt.locs, Pt.cells, Pt.slots] at X12 l12 y12 z12 st12 hQ12
  subst l12 y12 z12
  obtain ⟨rfl, N12q, e12⟩ := hQ12
  have N12 := Fr.app N10 N12q
  have g13 : Gz p.tables e below A T12 (mkF m 22 #[.val (.ref a)] [(.ref b), (.ref em)]) := fun tq kq => g11 tq (st12 _ kq)
  obtain ⟨cq14, kq14, q14a, q14b, q14c⟩ := isOf hZ e12 E_em
  obtain ⟨_, _, ⟨T14, L14, k14, n14⟩, -, X14, ⟨Lc14, hQ14, l14, y14, z14⟩, st14⟩ := X12.virtualBack hx (y := (⟨"java/util/Optional", "orElse", "(Ljava/lang/Object;)Ljava/lang/Object;"⟩ : MethodName)) (z := (⟨"java/util/Optional", "orElse", "(Ljava/lang/Object;)Ljava/lang/Object;"⟩ : MethodName)) hown (mvT hZ (hw _ (List.mem_of_getElem? (i := 101) rfl))) (mvT hZ (hw _ (List.mem_of_getElem? (i := 102) rfl))) (notFace_of_selects (args := #[]) (mvT hZ (hw _ (List.mem_of_getElem? (i := 104) rfl)))) (mvT hZ (hw _ (List.mem_of_getElem? (i := 104) rfl))) (mvT hZ (hw _ (List.mem_of_getElem? (i := 103) rfl))) (by decide) (backOf (W := 0) (rm11 l Z a0 hw [] em b h0 n0 Z0 F_em) hZ (hw _ (List.mem_of_getElem? (i := 105) rfl)) (hw _ (List.mem_of_getElem? (i := 19) rfl)) (by decide) (by decide)) q14a q14c (g := (mkF m 22 #[.val (.ref a)] [(.ref b), (.ref em)])) rfl (by rw [hml]; rfl) (Steps.refl _) (argsL := [(.ref b)]) (rest := []) (lenOf pd15_3 rfl) rfl (by show 2 * 0 + _ ≤ _; exact Nat.le_of_eq rfl) (hb hby d15_22) (fun _ _ => ⟨rfl, e12, (by decide : 0 + 0 ≤ _), (by decide : 0 + 0 ≤ _)⟩)
  dsimp only [Pt.U, Pt.locs, Pt.cells, Pt.slots] at X14 l14 y14 z14 st14 hQ14
  subst l14 y14 z14
  obtain ⟨rfl, N14q, e14⟩ := hQ14
  have N14 := Fr.app N12 N14q
  have g15 : Gz p.tables e below A T14 (mkF m 25 #[.val (.ref a)] [(.ref b)]) := fun tq kq => g13 tq (st14.trans kq)
  obtain ⟨T16, X16, e16, st16⟩ := castY X14 hx hZ hown (hw _ (List.mem_of_getElem? (i := 106) rfl)) e14 (Ins.self E_b) (g := (mkF m 25 #[.val (.ref a)] [(.ref b)])) rfl rfl (hb hby d15_25)
  have g17 : Gz p.tables e below A T16 (mkF m 28 #[.val (.ref a)] [(.ref b)]) := fun tq kq => g15 tq (st16 tq kq)
  obtain ⟨cq18, kq18, q18a, q18b, q18c⟩ := isOf hZ e16 E_b
  obtain ⟨_, _, ⟨T18, L18, k18, n18⟩, -, X18, ⟨Lc18, hQ18, l18, y18, z18⟩, st18⟩ := X16.virtualBack hx (y := (⟨"java/lang/Integer", "intValue", "()I"⟩ : MethodName)) (z := (⟨"java/lang/Integer", "intValue", "()I"⟩ : MethodName)) hown (mvT hZ (hw _ (List.mem_of_getElem? (i := 108) rfl))) (mvT hZ (hw _ (List.mem_of_getElem? (i := 109) rfl))) (notFace_of_selects (args := #[]) (mvT hZ (hw _ (List.mem_of_getElem? (i := 111) rfl)))) (mvT hZ (hw _ (List.mem_of_getElem? (i := 111) rfl))) (mvT hZ (hw _ (List.mem_of_getElem? (i := 110) rfl))) (by decide) (backOf (W := 0) (rm12 l Z a0 hw [] b x h0 n0 Z0 F_b) hZ (hw _ (List.mem_of_getElem? (i := 112) rfl)) (hw _ (List.mem_of_getElem? (i := 96) rfl)) (by decide) (by decide)) q18a q18c (g := (mkF m 28 #[.val (.ref a)] [(.ref b)])) rfl (by rw [hml]; rfl) (Steps.refl _) (argsL := []) (rest := []) (lenOf pd15_1 rfl) rfl (by show 2 * 0 + _ ≤ _; exact Nat.le_of_eq rfl) (hb hby d15_28) (fun _ _ => ⟨rfl, e16, (by decide : 0 + 0 ≤ _), (by decide : 0 + 0 ≤ _)⟩)
  dsimp only [Pt.U, Pt.locs, Pt.cells, Pt.slots] at X18 l18 y18 z18 st18 hQ18
  subst l18 y18 z18
  obtain ⟨rfl, N18q, e18⟩ := hQ18
  have N18 := Fr.app N14 N18q
  have g19 : Gz p.tables e below A T18 (mkF m 31 #[.val (.ref a)] [(.int x)]) := fun tq kq => g17 tq (st18.trans kq)
  obtain ⟨fs, hr, hrun, hended, hW, hsame⟩ := X18.leave (v := some (.int x)) (fun h => by rw [Bd.returns] at h; cases h)
  refine ⟨_, _, g19 _ (retOut X18 hx Bd.returns rfl (Or.inl ⟨rfl, Or.inl rfl, _, rfl⟩) (hb hby d15_31) hr), hrun, hended, _, _, rfl, ?_, ⟨_, rfl⟩, hW, hsame.mono (by decide) (by decide)⟩
  show Q15 Z a em pr x ca clc b h0 n0 _ T18.heap _
  rw [e18]
  exact ⟨rfl, N18, rfl⟩

theorem d16_0 : decode prog_44_method_1_code 0 = .ok (.aload_n 0, 1) := by decide +kernel
theorem d16_1 : decode prog_44_method_1_code 1 = .ok (.invokespecial 1, 3) := by decide +kernel
theorem d16_4 : decode prog_44_method_1_code 4 = .ok (.aload_n 1, 1) := by decide +kernel
theorem d16_5 : decode prog_44_method_1_code 5 = .ok (.ldc 7, 2) := by decide +kernel
theorem d16_7 : decode prog_44_method_1_code 7 = .ok (.invokestatic 9, 3) := by decide +kernel
theorem d16_10 : decode prog_44_method_1_code 10 = .ok (.pop, 1) := by decide +kernel
theorem d16_11 : decode prog_44_method_1_code 11 = .ok (.aload_n 2, 1) := by decide +kernel
theorem d16_12 : decode prog_44_method_1_code 12 = .ok (.ldc 15, 2) := by decide +kernel
theorem d16_14 : decode prog_44_method_1_code 14 = .ok (.invokestatic 9, 3) := by decide +kernel
theorem d16_17 : decode prog_44_method_1_code 17 = .ok (.pop, 1) := by decide +kernel
theorem d16_18 : decode prog_44_method_1_code 18 = .ok (.aload_n 3, 1) := by decide +kernel
theorem d16_19 : decode prog_44_method_1_code 19 = .ok (.ldc 17, 2) := by decide +kernel
theorem d16_21 : decode prog_44_method_1_code 21 = .ok (.invokestatic 9, 3) := by decide +kernel
theorem d16_24 : decode prog_44_method_1_code 24 = .ok (.pop, 1) := by decide +kernel
theorem d16_25 : decode prog_44_method_1_code 25 = .ok (.aload_n 0, 1) := by decide +kernel
theorem d16_26 : decode prog_44_method_1_code 26 = .ok (.aload_n 1, 1) := by decide +kernel
theorem d16_27 : decode prog_44_method_1_code 27 = .ok (.putfield 19, 3) := by decide +kernel
theorem d16_30 : decode prog_44_method_1_code 30 = .ok (.aload_n 0, 1) := by decide +kernel
theorem d16_31 : decode prog_44_method_1_code 31 = .ok (.aload_n 2, 1) := by decide +kernel
theorem d16_32 : decode prog_44_method_1_code 32 = .ok (.putfield 24, 3) := by decide +kernel
theorem d16_35 : decode prog_44_method_1_code 35 = .ok (.aload_n 0, 1) := by decide +kernel
theorem d16_36 : decode prog_44_method_1_code 36 = .ok (.aload_n 3, 1) := by decide +kernel
theorem d16_37 : decode prog_44_method_1_code 37 = .ok (.putfield 27, 3) := by decide +kernel
theorem d16_40 : decode prog_44_method_1_code 40 = .ok (.return_, 1) := by decide +kernel
theorem pn16 : plainName "com/example/harborspread/harborspread/LegTerms" = true := by first | (simp [plainName, overriddenIn]; done) | decide +kernel
theorem pd16_0 : parseMethodDescriptor "()V" = some ⟨[], none⟩ := by decide +kernel
theorem pd16_1 : parseMethodDescriptor "(Ljava/lang/Object;Ljava/lang/String;)Ljava/lang/Object;" = some ⟨[(.object "java/lang/Object"), (.object "java/lang/String")], some (.object "java/lang/Object")⟩ := by decide +kernel
theorem ef16 (m : MethodId) (x0 : Addr) (x1 : Addr) (x2 : Addr) (x3 : Addr) : entryFrame m #[(.ref x0), (.ref x1), (.ref x2), (.ref x3)] 4 = mkF m 0 #[.val (.ref x0), .val (.ref x1), .val (.ref x2), .val (.ref x3)] [] := by first | (simp [entryFrame, mkF, argsToLocals, Value.category]; done) | rfl
def Q16 (Z : State) (a : Addr) (pr : Addr) (nb : Addr) (em : Addr) (h0 : Heap) (n0 : Nat) (v : Option Value) (h : Heap) (L : List Loc) : Prop := v = none ∧ Fr n0 L ∧ Keep h0 h [a] ∧ Exa Z h a "com/example/harborspread/harborspread/LegTerms" ∧ Fld Z h a "com/example/harborspread/harborspread/LegTerms" "product" "Lcom/example/harborspread/harborspread/Product;" (.ref pr) ∧ Fld Z h a "com/example/harborspread/harborspread/LegTerms" "nearby" "Lcom/example/harborspread/harborspread/NearbyRule;" (.ref nb) ∧ Fld Z h a "com/example/harborspread/harborspread/LegTerms" "conversion" "Ljava/util/Optional;" (.ref em)
set_option maxRecDepth 65536 in
set_option maxHeartbeats 40000000 in
theorem rm16 (l : Launch) (Z : State) (a0 : Array Value) (hw : ∀ d ∈ tables_1, d.before a0 Z = true) (ws : List Jvm.Cond) (a : Addr) (pr : Addr) (nb : Addr) (em : Addr) (h0 : Heap) (n0 : Nat) (Z0 : n0 ≤ h0.size) (E_a : Exa Z h0 a "com/example/harborspread/harborspread/LegTerms") (F_product : Fld Z h0 a "com/example/harborspread/harborspread/LegTerms" "product" "Lcom/example/harborspread/harborspread/Product;" .null) (F_nearby : Fld Z h0 a "com/example/harborspread/harborspread/LegTerms" "nearby" "Lcom/example/harborspread/harborspread/NearbyRule;" .null) (F_conversion : Fld Z h0 a "com/example/harborspread/harborspread/LegTerms" "conversion" "Ljava/util/Optional;" .null) (g_a : n0 ≤ a) (wS : ∀ a ∈ Bundle.stringAtoms, a.before a0 Z = true) :
    MetFree l (⟨"com/example/harborspread/harborspread/LegTerms", "<init>", "(Lcom/example/harborspread/harborspread/Product;Lcom/example/harborspread/harborspread/NearbyRule;Ljava/util/Optional;)V"⟩ : MethodName) (head1 (Jvm.Cond.code (⟨"com/example/harborspread/harborspread/LegTerms", "<init>", "(Lcom/example/harborspread/harborspread/Product;Lcom/example/harborspread/harborspread/NearbyRule;Ljava/util/Optional;)V"⟩ : MethodName) prog_44_method_1_code 4 none :: ws) ({ frames := 2, cells := 6, slots := 104, locals := 24 } : Room)) (fun aq Uq => aq = #[(.ref a), (.ref pr), (.ref nb), (.ref em)] ∧ Z.Warmed39 Uq.vm ∧ Uq.heap = h0) (fun _ _ _ _ _ => True) (fun _ Uq oq Uq' => ∃ vq Lq, oq = .returned vq ∧ Q16 Z a pr nb em h0 n0 vq Uq'.heap Lq ∧ ReturnedEndW Uq oq Uq' Lq ({ frames := 2, cells := 6, slots := 104, locals := 24 } : Room).cells ({ frames := 2, cells := 6, slots := 104, locals := 24 } : Room).slots) := by
  refine MetFree.of_bodySF (plainFor_of_name pn16) hisR ?_
  intro p e s m args below meth c s₁ Bd hml0 hP hK
  obtain ⟨rfl, hZ, hh⟩ := hP
  have hx := Bd.exec
  have hby := Bd.bytes
  have hml : c.maxLocals = 4 := hml0
  have hown : s.vm.findClass "com/example/harborspread/harborspread/LegTerms" = some m.cls := findClass_of_methodNamed Bd.named
  have hnm := (name_of_methodNamed Bd.named Bd.method).1
  have X0 : Stand p l e ({ frames := 2, cells := 6, slots := 104, locals := 24 } : Room) s m #[(.ref a), (.ref pr), (.ref nb), (.ref em)] below meth c s₁ [] 0 0 := Stand.of_body Bd
  have e0 : s₁.heap = h0 := by rw [← hh, Bd.state]; rfl
  have N0 := Fr.nil n0
  obtain ⟨A, hA⟩ : ∃ A, A = s₁.setTop (entryFrame m #[(.ref a), (.ref pr), (.ref nb), (.ref em)] 4) := ⟨_, rfl⟩
  rw [← hA]
  have g0 : Gz p.tables e below A s₁ (mkF m 0 #[.val (.ref a), .val (.ref pr), .val (.ref nb), .val (.ref em)] []) := fun tq kq => by rw [hA]; exact castTop (ef16 m a pr nb em) kq
  have hS0 : s.Since s.vm h0.size := (State.WarmedH.refl s).since _
  have hk0 : h0.size ≤ h0.size := Nat.le_refl _
  have KW0 := Keep.refl h0 [a]
  have g1 : Gz p.tables e below A s₁ (mkF m 1 #[.val (.ref a), .val (.ref pr), .val (.ref nb), .val (.ref em)] [(.ref a)]) := fun tq kq => g0 tq (XS.aloadN X0.here hx rfl (hb hby d16_0) rfl rfl kq)
  obtain ⟨_, _, ⟨T2, L2, k2, n2⟩, -, X2, ⟨Lc2, hQ2, l2, y2, z2⟩, st2⟩ := X0.specialBack hx (y := (⟨"java/lang/Record", "<init>", "()V"⟩ : MethodName)) rfl hown (mvT hZ (hw _ (List.mem_of_getElem? (i := 25) rfl))) (mvT hZ (hw _ (List.mem_of_getElem? (i := 26) rfl))) (mvT hZ (hw _ (List.mem_of_getElem? (i := 29) rfl))) (by decide) (backOf (W := 0) (rm4 l Z a0 hw [] a h0 n0 Z0) hZ (hw _ (List.mem_of_getElem? (i := 29) rfl)) (hw _ (List.mem_of_getElem? (i := 28) rfl)) (by decide) (by decide)) (g := (mkF m 1 #[.val (.ref a), .val (.ref pr), .val (.ref nb), .val (.ref em)] [(.ref a)])) rfl (by rw [hml]; rfl) (Steps.refl _) (a := a) (argsL := []) (rest := []) (lenOf pd16_0 rfl) rfl (by show 2 * 0 + _ ≤ _; exact Nat.le_of_eq rfl) (hb hby d16_1) (fun _ _ => ⟨rfl, e0, (by decide : 0 + 0 ≤ _), (by decide : 0 + 0 ≤ _)⟩)
  dsimp only [Pt.U, Pt.locs, Pt.cells, Pt.slots] at X2 l2 y2 z2 st2 hQ2
  subst l2 y2 z2
  obtain ⟨rfl, N2q, e2⟩ := hQ2
  have N2 := Fr.app N0 N2q
  have g3 : Gz p.tables e below A T2 (mkF m 4 #[.val (.ref a), .val (.ref pr), .val (.ref nb), .val (.ref em)] []) := fun tq kq => g1 tq (st2.trans kq)
  have g4 : Gz p.tables e below A T2 (mkF m 5 #[.val (.ref a), .val (.ref pr), .val (.ref nb), .val (.ref em)] [(.ref pr)]) := fun tq kq => g3 tq (XS.aloadN X2.here hx rfl (hb hby d16_4) rfl rfl kq)
  obtain ⟨sa5, T5, h5, k5, X5, e5, E5, hS5, hk5, hZ, hown, st5⟩ := ldcS (s := s) (vm0 := s.vm) X2 hx hZ hown (hw _ (List.mem_of_getElem? (i := 33) rfl)) wS e2 hS0 hk0 (g := (mkF m 5 #[.val (.ref a), .val (.ref pr), .val (.ref nb), .val (.ref em)] [(.ref pr)])) rfl (hb hby d16_5) (n := 28) (by decide) (by decide) (by decide) (by decide)
  have KW6 := KW0.ext E5
  have E_a := E_a.ext E5
  have F_product := F_product.ext E5
  have F_nearby := F_nearby.ext E5
  have F_conversion := F_conversion.ext E5
  have g7 : Gz p.tables e below A T5 (mkF m 7 #[.val (.ref a), .val (.ref pr), .val (.ref nb), .val (.ref em)] [(.ref sa5), (.ref pr)]) := fun tq kq => g4 tq (st5 tq kq)
  obtain ⟨_, _, ⟨T8, L8, k8, n8⟩, -, X8, ⟨Lc8, hQ8, l8, y8, z8⟩, st8⟩ := Jvm.LawKit.callS X5 hx (y := (⟨"java/util/Objects", "requireNonNull", "(Ljava/lang/Object;Ljava/lang/String;)Ljava/lang/Object;"⟩ : MethodName)) hown (mvT hZ (hw _ (List.mem_of_getElem? (i := 41) rfl))) (mvT hZ (hw _ (List.mem_of_getElem? (i := 42) rfl))) (mvT hZ (hw _ (List.mem_of_getElem? (i := 43) rfl))) (mvT hZ (hw _ (List.mem_of_getElem? (i := 44) rfl))) (by decide) (backOf (W := 0) (rm5 l Z a0 hw [] pr sa5 h5 n0 (Nat.le_trans Z0 KW6.1)) hZ (hw _ (List.mem_of_getElem? (i := 44) rfl)) (hw _ (List.mem_of_getElem? (i := 43) rfl)) (by decide) (by decide)) (g := (mkF m 7 #[.val (.ref a), .val (.ref pr), .val (.ref nb), .val (.ref em)] [(.ref sa5), (.ref pr)])) rfl (by rw [hml]; rfl) (argsL := [(.ref pr), (.ref sa5)]) (rest := []) (lenOf pd16_1 rfl) rfl (by show 2 * 0 + _ ≤ _; exact Nat.le_of_eq rfl) (hb hby d16_7) (fun _ _ => ⟨rfl, e5, (by decide : 2 + 0 ≤ _), (by decide : 32 + 0 ≤ _)⟩)
  dsimp only [Pt.U, Pt.locs, Pt.cells, Pt.slots] at X8 l8 y8 z8 st8 hQ8
  subst l8 y8 z8
  obtain ⟨rfl, N8q, e8⟩ := hQ8
  have N8 := Fr.app N2 N8q
  have g9 : Gz p.tables e below A T8 (mkF m 10 #[.val (.ref a), .val (.ref pr), .val (.ref nb), .val (.ref em)] [(.ref pr)]) := fun tq kq => g7 tq (st8 _ kq)
  have g10 : Gz p.tables e below A T8 (mkF m 11 #[.val (.ref a), .val (.ref pr), .val (.ref nb), .val (.ref em)] []) := fun tq kq => g9 tq (XS.pop X8.here hx rfl (hb hby d16_10) rfl rfl kq)
  have g11 : Gz p.tables e below A T8 (mkF m 12 #[.val (.ref a), .val (.ref pr), .val (.ref nb), .val (.ref em)] [(.ref nb)]) := fun tq kq => g10 tq (XS.aloadN X8.here hx rfl (hb hby d16_11) rfl rfl kq)
  obtain ⟨sa12, T12, h12, k12, X12, e12, E12, hS12, hk12, hZ, hown, st12⟩ := ldcS (s := s) (vm0 := T5.vm) X8 hx hZ hown (hw _ (List.mem_of_getElem? (i := 45) rfl)) wS e8 hS5 hk5 (g := (mkF m 12 #[.val (.ref a), .val (.ref pr), .val (.ref nb), .val (.ref em)] [(.ref nb)])) rfl (hb hby d16_12) (n := 24) (by decide) (by decide) (by decide) (by decide)
  have KW13 := KW6.ext E12
  have E_a := E_a.ext E12
  have F_product := F_product.ext E12
  have F_nearby := F_nearby.ext E12
  have F_conversion := F_conversion.ext E12
  have g14 : Gz p.tables e below A T12 (mkF m 14 #[.val (.ref a), .val (.ref pr), .val (.ref nb), .val (.ref em)] [(.ref sa12), (.ref nb)]) := fun tq kq => g11 tq (st12 tq kq)
  obtain ⟨_, _, ⟨T15, L15, k15, n15⟩, -, X15, ⟨Lc15, hQ15, l15, y15, z15⟩, st15⟩ := Jvm.LawKit.callS X12 hx (y := (⟨"java/util/Objects", "requireNonNull", "(Ljava/lang/Object;Ljava/lang/String;)Ljava/lang/Object;"⟩ : MethodName)) hown (mvT hZ (hw _ (List.mem_of_getElem? (i := 41) rfl))) (mvT hZ (hw _ (List.mem_of_getElem? (i := 42) rfl))) (mvT hZ (hw _ (List.mem_of_getElem? (i := 43) rfl))) (mvT hZ (hw _ (List.mem_of_getElem? (i := 44) rfl))) (by decide) (backOf (W := 0) (rm5 l Z a0 hw [] nb sa12 h12 n0 (Nat.le_trans Z0 KW13.1)) hZ (hw _ (List.mem_of_getElem? (i := 44) rfl)) (hw _ (List.mem_of_getElem? (i := 43) rfl)) (by decide) (by decide)) (g := (mkF m 14 #[.val (.ref a), .val (.ref pr), .val (.ref nb), .val (.ref em)] [(.ref sa12), (.ref nb)])) rfl (by rw [hml]; rfl) (argsL := [(.ref nb), (.ref sa12)]) (rest := []) (lenOf pd16_1 rfl) rfl (by show 2 * 0 + _ ≤ _; exact Nat.le_of_eq rfl) (hb hby d16_14) (fun _ _ => ⟨rfl, e12, (by decide : 4 + 0 ≤ _), (by decide : 60 + 0 ≤ _)⟩)
  dsimp only [Pt.U, Pt.locs, Pt.cells, Pt.slots] at X15 l15 y15 z15 st15 hQ15
  subst l15 y15 z15
  obtain ⟨rfl, N15q, e15⟩ := hQ15
  have N15 := Fr.app N8 N15q
  have g16 : Gz p.tables e below A T15 (mkF m 17 #[.val (.ref a), .val (.ref pr), .val (.ref nb), .val (.ref em)] [(.ref nb)]) := fun tq kq => g14 tq (st15 _ kq)
  have g17 : Gz p.tables e below A T15 (mkF m 18 #[.val (.ref a), .val (.ref pr), .val (.ref nb), .val (.ref em)] []) := fun tq kq => g16 tq (XS.pop X15.here hx rfl (hb hby d16_17) rfl rfl kq)
  have g18 : Gz p.tables e below A T15 (mkF m 19 #[.val (.ref a), .val (.ref pr), .val (.ref nb), .val (.ref em)] [(.ref em)]) := fun tq kq => g17 tq (XS.aloadN X15.here hx rfl (hb hby d16_18) rfl rfl kq)
  obtain ⟨sa19, T19, h19, k19, X19, e19, E19, hS19, hk19, hZ, hown, st19⟩ := ldcS (s := s) (vm0 := T12.vm) X15 hx hZ hown (hw _ (List.mem_of_getElem? (i := 46) rfl)) wS e15 hS12 hk12 (g := (mkF m 19 #[.val (.ref a), .val (.ref pr), .val (.ref nb), .val (.ref em)] [(.ref em)])) rfl (hb hby d16_19) (n := 40) (by decide) (by decide) (by decide) (by decide)
  have KW20 := KW13.ext E19
  have E_a := E_a.ext E19
  have F_product := F_product.ext E19
  have F_nearby := F_nearby.ext E19
  have F_conversion := F_conversion.ext E19
  have g21 : Gz p.tables e below A T19 (mkF m 21 #[.val (.ref a), .val (.ref pr), .val (.ref nb), .val (.ref em)] [(.ref sa19), (.ref em)]) := fun tq kq => g18 tq (st19 tq kq)
  obtain ⟨_, _, ⟨T22, L22, k22, n22⟩, -, X22, ⟨Lc22, hQ22, l22, y22, z22⟩, st22⟩ := Jvm.LawKit.callS X19 hx (y := (⟨"java/util/Objects", "requireNonNull", "(Ljava/lang/Object;Ljava/lang/String;)Ljava/lang/Object;"⟩ : MethodName)) hown (mvT hZ (hw _ (List.mem_of_getElem? (i := 41) rfl))) (mvT hZ (hw _ (List.mem_of_getElem? (i := 42) rfl))) (mvT hZ (hw _ (List.mem_of_getElem? (i := 43) rfl))) (mvT hZ (hw _ (List.mem_of_getElem? (i := 44) rfl))) (by decide) (backOf (W := 0) (rm5 l Z a0 hw [] em sa19 h19 n0 (Nat.le_trans Z0 KW20.1)) hZ (hw _ (List.mem_of_getElem? (i := 44) rfl)) (hw _ (List.mem_of_getElem? (i := 43) rfl)) (by decide) (by decide)) (g := (mkF m 21 #[.val (.ref a), .val (.ref pr), .val (.ref nb), .val (.ref em)] [(.ref sa19), (.ref em)])) rfl (by rw [hml]; rfl) (argsL := [(.ref em), (.ref sa19)]) (rest := []) (lenOf pd16_1 rfl) rfl (by show 2 * 0 + _ ≤ _; exact Nat.le_of_eq rfl) (hb hby d16_21) (fun _ _ => ⟨rfl, e19, (by decide : 6 + 0 ≤ _), (by decide : 104 + 0 ≤ _)⟩)
  dsimp only [Pt.U, Pt.locs, Pt.cells, Pt.slots] at X22 l22 y22 z22 st22 hQ22
  subst l22 y22 z22
  obtain ⟨rfl, N22q, e22⟩ := hQ22
  have N22 := Fr.app N15 N22q
  have g23 : Gz p.tables e below A T22 (mkF m 24 #[.val (.ref a), .val (.ref pr), .val (.ref nb), .val (.ref em)] [(.ref em)]) := fun tq kq => g21 tq (st22 _ kq)
  have g24 : Gz p.tables e below A T22 (mkF m 25 #[.val (.ref a), .val (.ref pr), .val (.ref nb), .val (.ref em)] []) := fun tq kq => g23 tq (XS.pop X22.here hx rfl (hb hby d16_24) rfl rfl kq)
  have g25 : Gz p.tables e below A T22 (mkF m 26 #[.val (.ref a), .val (.ref pr), .val (.ref nb), .val (.ref em)] [(.ref a)]) := fun tq kq => g24 tq (XS.aloadN X22.here hx rfl (hb hby d16_25) rfl rfl kq)
  have g26 : Gz p.tables e below A T22 (mkF m 27 #[.val (.ref a), .val (.ref pr), .val (.ref nb), .val (.ref em)] [(.ref pr), (.ref a)]) := fun tq kq => g25 tq (XS.aloadN X22.here hx rfl (hb hby d16_26) rfl rfl kq)
  obtain ⟨T27, h27, X27, e27, W27, st27⟩ := putF X22 hx hZ hown (host := "") (Or.inl (hw _ (List.mem_of_getElem? (i := 47) rfl))) Via.refl e22 F_product E_a (Or.inr ⟨(hw _ (List.mem_of_getElem? (i := 48) rfl)), rfl, hnm⟩) (hw _ (List.mem_of_getElem? (i := 16) rfl)) (ty := (.object "com/example/harborspread/harborspread/Product")) (by decide) rfl rfl (g := (mkF m 27 #[.val (.ref a), .val (.ref pr), .val (.ref nb), .val (.ref em)] [(.ref pr), (.ref a)])) rfl rfl (hb hby d16_27)
  have KW28 := KW20.wr W27 (Or.inl (List.mem_of_getElem? (i := 0) rfl))
  have E_a := E_a.wr W27
  have F_product := F_product.same W27
  have F_nearby := F_nearby.other W27 (Or.inr (slot_ne (Or.inr (hw _ (List.mem_of_getElem? (i := 50) rfl))) (Or.inr (hw _ (List.mem_of_getElem? (i := 48) rfl))) (by decide) (t := (.object "com/example/harborspread/harborspread/NearbyRule")) (t' := (.object "com/example/harborspread/harborspread/Product")) (by decide) (by decide)))
  have F_conversion := F_conversion.other W27 (Or.inr (slot_ne (Or.inr (hw _ (List.mem_of_getElem? (i := 52) rfl))) (Or.inr (hw _ (List.mem_of_getElem? (i := 48) rfl))) (by decide) (t := (.object "java/util/Optional")) (t' := (.object "com/example/harborspread/harborspread/Product")) (by decide) (by decide)))
  have hk27 := Nat.le_trans hk19 (Nat.le_of_eq W27.size.symm)
  have N27 := Fr.snoc X27 N22 g_a
  have g29 : Gz p.tables e below A T27 (mkF m 30 #[.val (.ref a), .val (.ref pr), .val (.ref nb), .val (.ref em)] []) := fun tq kq => g26 tq (st27 tq kq)
  have g30 : Gz p.tables e below A T27 (mkF m 31 #[.val (.ref a), .val (.ref pr), .val (.ref nb), .val (.ref em)] [(.ref a)]) := fun tq kq => g29 tq (XS.aloadN X27.here hx rfl (hb hby d16_30) rfl rfl kq)
  have g31 : Gz p.tables e below A T27 (mkF m 32 #[.val (.ref a), .val (.ref pr), .val (.ref nb), .val (.ref em)] [(.ref nb), (.ref a)]) := fun tq kq => g30 tq (XS.aloadN X27.here hx rfl (hb hby d16_31) rfl rfl kq)
  obtain ⟨T32, h32, X32, e32, W32, st32⟩ := putF X27 hx hZ hown (host := "") (Or.inl (hw _ (List.mem_of_getElem? (i := 49) rfl))) Via.refl e27 F_nearby E_a (Or.inr ⟨(hw _ (List.mem_of_getElem? (i := 50) rfl)), rfl, hnm⟩) (hw _ (List.mem_of_getElem? (i := 16) rfl)) (ty := (.object "com/example/harborspread/harborspread/NearbyRule")) (by decide) rfl rfl (g := (mkF m 32 #[.val (.ref a), .val (.ref pr), .val (.ref nb), .val (.ref em)] [(.ref nb), (.ref a)])) rfl rfl (hb hby d16_32)
  have KW33 := KW28.wr W32 (Or.inl (List.mem_of_getElem? (i := 0) rfl))
  have E_a := E_a.wr W32
  have F_product := F_product.other W32 (Or.inr (slot_ne (Or.inr (hw _ (List.mem_of_getElem? (i := 48) rfl))) (Or.inr (hw _ (List.mem_of_getElem? (i := 50) rfl))) (by decide) (t := (.object "com/example/harborspread/harborspread/Product")) (t' := (.object "com/example/harborspread/harborspread/NearbyRule")) (by decide) (by decide)))
  have F_nearby := F_nearby.same W32
  have F_conversion := F_conversion.other W32 (Or.inr (slot_ne (Or.inr (hw _ (List.mem_of_getElem? (i := 52) rfl))) (Or.inr (hw _ (List.mem_of_getElem? (i := 50) rfl))) (by decide) (t := (.object "java/util/Optional")) (t' := (.object "com/example/harborspread/harborspread/NearbyRule")) (by decide) (by decide)))
  have hk32 := Nat.le_trans hk27 (Nat.le_of_eq W32.size.symm)
  have N32 := Fr.snoc X32 N27 g_a
  have g34 : Gz p.tables e below A T32 (mkF m 35 #[.val (.ref a), .val (.ref pr), .val (.ref nb), .val (.ref em)] []) := fun tq kq => g31 tq (st32 tq kq)
  have g35 : Gz p.tables e below A T32 (mkF m 36 #[.val (.ref a), .val (.ref pr), .val (.ref nb), .val (.ref em)] [(.ref a)]) := fun tq kq => g34 tq (XS.aloadN X32.here hx rfl (hb hby d16_35) rfl rfl kq)
  have g36 : Gz p.tables e below A T32 (mkF m 37 #[.val (.ref a), .val (.ref pr), .val (.ref nb), .val (.ref em)] [(.ref em), (.ref a)]) := fun tq kq => g35 tq (XS.aloadN X32.here hx rfl (hb hby d16_36) rfl rfl kq)
  obtain ⟨T37, h37, X37, e37, W37, st37⟩ := putF X32 hx hZ hown (host := "") (Or.inl (hw _ (List.mem_of_getElem? (i := 51) rfl))) Via.refl e32 F_conversion E_a (Or.inr ⟨(hw _ (List.mem_of_getElem? (i := 52) rfl)), rfl, hnm⟩) (hw _ (List.mem_of_getElem? (i := 16) rfl)) (ty := (.object "java/util/Optional")) (by decide) rfl rfl (g := (mkF m 37 #[.val (.ref a), .val (.ref pr), .val (.ref nb), .val (.ref em)] [(.ref em), (.ref a)])) rfl rfl (hb hby d16_37)
  have KW38 := KW33.wr W37 (Or.inl (List.mem_of_getElem? (i := 0) rfl))
  have E_a := E_a.wr W37
  have F_product := F_product.other W37 (Or.inr (slot_ne (Or.inr (hw _ (List.mem_of_getElem? (i := 48) rfl))) (Or.inr (hw _ (List.mem_of_getElem? (i := 52) rfl))) (by decide) (t := (.object "com/example/harborspread/harborspread/Product")) (t' := (.object "java/util/Optional")) (by decide) (by decide)))
  have F_nearby := F_nearby.other W37 (Or.inr (slot_ne (Or.inr (hw _ (List.mem_of_getElem? (i := 50) rfl))) (Or.inr (hw _ (List.mem_of_getElem? (i := 52) rfl))) (by decide) (t := (.object "com/example/harborspread/harborspread/NearbyRule")) (t' := (.object "java/util/Optional")) (by decide) (by decide)))
  have F_conversion := F_conversion.same W37
  have hk37 := Nat.le_trans hk32 (Nat.le_of_eq W37.size.symm)
  have N37 := Fr.snoc X37 N32 g_a
  have g39 : Gz p.tables e below A T37 (mkF m 40 #[.val (.ref a), .val (.ref pr), .val (.ref nb), .val (.ref em)] []) := fun tq kq => g36 tq (st37 tq kq)
  obtain ⟨fs, hr, hrun, hended, hend⟩ := Stand.leaveW (s := s) X37 hS19 (by rw [e37]; exact hk37) (v := none) (fun _ => rfl)
  refine ⟨_, _, g39 _ (X37.returnOut hx Bd.returns (hb hby d16_40) hr), hrun, hended, _, _, rfl, ?_, hend.1, hend.2.1, hend.2.2.1, hend.2.2.2.mono (by decide) (by decide)⟩
  show Q16 Z a pr nb em h0 n0 _ T37.heap _
  rw [e37]
  exact ⟨rfl, N37, KW38, E_a, F_product, F_nearby, F_conversion⟩

theorem d17_0 : decode prog_44_method_2_code 0 = .ok (.new 20, 3) := by decide +kernel
theorem d17_3 : decode prog_44_method_2_code 3 = .ok (.dup, 1) := by decide +kernel
theorem d17_4 : decode prog_44_method_2_code 4 = .ok (.aload_n 0, 1) := by decide +kernel
theorem d17_5 : decode prog_44_method_2_code 5 = .ok (.aload_n 1, 1) := by decide +kernel
theorem d17_6 : decode prog_44_method_2_code 6 = .ok (.invokestatic 30, 3) := by decide +kernel
theorem d17_9 : decode prog_44_method_2_code 9 = .ok (.invokespecial 36, 3) := by decide +kernel
theorem d17_12 : decode prog_44_method_2_code 12 = .ok (.areturn, 1) := by decide +kernel
theorem pn17 : plainName "com/example/harborspread/harborspread/LegTerms" = true := by first | (simp [plainName, overriddenIn]; done) | decide +kernel
theorem pd17_0 : parseMethodDescriptor "()Ljava/util/Optional;" = some ⟨[], some (.object "java/util/Optional")⟩ := by decide +kernel
theorem pd17_1 : parseMethodDescriptor "(Lcom/example/harborspread/harborspread/Product;Lcom/example/harborspread/harborspread/NearbyRule;Ljava/util/Optional;)V" = some ⟨[(.object "com/example/harborspread/harborspread/Product"), (.object "com/example/harborspread/harborspread/NearbyRule"), (.object "java/util/Optional")], none⟩ := by decide +kernel
theorem ef17 (m : MethodId) (x0 : Addr) (x1 : Addr) : entryFrame m #[(.ref x0), (.ref x1)] 2 = mkF m 0 #[.val (.ref x0), .val (.ref x1)] [] := by first | (simp [entryFrame, mkF, argsToLocals, Value.category]; done) | rfl
def Q17 (Z : State) (pr : Addr) (nb : Addr) (em : Addr) (h0 : Heap) (n0 : Nat) (v : Option Value) (h : Heap) (L : List Loc) : Prop := ∃ t, v = some (.ref t) ∧ Fr n0 L ∧ Ext h0 h ∧ Exa Z h t "com/example/harborspread/harborspread/LegTerms" ∧ Fld Z h t "com/example/harborspread/harborspread/LegTerms" "product" "Lcom/example/harborspread/harborspread/Product;" (.ref pr) ∧ Fld Z h t "com/example/harborspread/harborspread/LegTerms" "nearby" "Lcom/example/harborspread/harborspread/NearbyRule;" (.ref nb) ∧ Fld Z h t "com/example/harborspread/harborspread/LegTerms" "conversion" "Ljava/util/Optional;" (.ref em)
set_option maxRecDepth 65536 in
set_option maxHeartbeats 40000000 in
theorem rm17 (l : Launch) (Z : State) (a0 : Array Value) (hw : ∀ d ∈ tables_1, d.before a0 Z = true) (ws : List Jvm.Cond) (pr : Addr) (nb : Addr) (em : Addr) (h0 : Heap) (n0 : Nat) (Z0 : n0 ≤ h0.size) (S_E : Sta Z h0 "java/util/Optional" "EMPTY" "Ljava/util/Optional;" (.ref em)) (wS : ∀ a ∈ Bundle.stringAtoms, a.before a0 Z = true) :
    MetFree l (⟨"com/example/harborspread/harborspread/LegTerms", "asSettled", "(Lcom/example/harborspread/harborspread/Product;Lcom/example/harborspread/harborspread/NearbyRule;)Lcom/example/harborspread/harborspread/LegTerms;"⟩ : MethodName) (head1 (Jvm.Cond.code (⟨"com/example/harborspread/harborspread/LegTerms", "asSettled", "(Lcom/example/harborspread/harborspread/Product;Lcom/example/harborspread/harborspread/NearbyRule;)Lcom/example/harborspread/harborspread/LegTerms;"⟩ : MethodName) prog_44_method_2_code 2 (some (.object "com/example/harborspread/harborspread/LegTerms")) :: ws) ({ frames := 3, cells := 7, slots := 107, locals := 40 } : Room)) (fun aq Uq => aq = #[(.ref pr), (.ref nb)] ∧ Z.Warmed39 Uq.vm ∧ Uq.heap = h0) (fun _ _ _ _ _ => True) (fun _ Uq oq Uq' => ∃ vq Lq, oq = .returned vq ∧ Q17 Z pr nb em h0 n0 vq Uq'.heap Lq ∧ ReturnedEndW Uq oq Uq' Lq ({ frames := 3, cells := 7, slots := 107, locals := 40 } : Room).cells ({ frames := 3, cells := 7, slots := 107, locals := 40 } : Room).slots) := by
  refine MetFree.of_bodySF (plainFor_of_name pn17) hisR ?_
  intro p e s m args below meth c s₁ Bd hml0 hP hK
  obtain ⟨rfl, hZ, hh⟩ := hP
  have hx := Bd.exec
  have hby := Bd.bytes
  have hml : c.maxLocals = 2 := hml0
  have hown : s.vm.findClass "com/example/harborspread/harborspread/LegTerms" = some m.cls := findClass_of_methodNamed Bd.named
  have hnm := (name_of_methodNamed Bd.named Bd.method).1
  have X0 : Stand p l e ({ frames := 3, cells := 7, slots := 107, locals := 40 } : Room) s m #[(.ref pr), (.ref nb)] below meth c s₁ [] 0 0 := Stand.of_body Bd
  have e0 : s₁.heap = h0 := by rw [← hh, Bd.state]; rfl
  have N0 := Fr.nil n0
  obtain ⟨A, hA⟩ : ∃ A, A = s₁.setTop (entryFrame m #[(.ref pr), (.ref nb)] 2) := ⟨_, rfl⟩
  rw [← hA]
  have g0 : Gz p.tables e below A s₁ (mkF m 0 #[.val (.ref pr), .val (.ref nb)] []) := fun tq kq => by rw [hA]; exact castTop (ef17 m pr nb) kq
  have hS0 : s.Since s.vm h0.size := (State.WarmedH.refl s).since _
  have hk0 : h0.size ≤ h0.size := Nat.le_refl _
  obtain ⟨T1, h1, X1, e1, E1, A1, D1, -, st1⟩ := newO X0 hx hZ hown (hw _ (List.mem_of_getElem? (i := 15) rfl)) (hw _ (List.mem_of_getElem? (i := 16) rfl)) (hw _ (List.mem_of_getElem? (i := 13) rfl)) e0 (g := (mkF m 0 #[.val (.ref pr), .val (.ref nb)] [])) rfl (hb hby d17_0) (by decide) (by decide)
  obtain ⟨b1, gb1⟩ : ∃ z, z = h0.size := ⟨_, rfl⟩
  rw [← gb1] at A1 D1 st1
  have sz_b1 : h0.size ≤ b1 := Nat.le_of_eq gb1.symm
  have g_b1 : n0 ≤ b1 := Nat.le_trans Z0 sz_b1
  have K2 := E1
  have F_product_b1 : Fld Z h1 b1 "com/example/harborspread/harborspread/LegTerms" "product" "Lcom/example/harborspread/harborspread/Product;" .null := D1 (Or.inr (hw _ (List.mem_of_getElem? (i := 48) rfl))) (ty := (.object "com/example/harborspread/harborspread/Product")) (by decide)
  have F_nearby_b1 : Fld Z h1 b1 "com/example/harborspread/harborspread/LegTerms" "nearby" "Lcom/example/harborspread/harborspread/NearbyRule;" .null := D1 (Or.inr (hw _ (List.mem_of_getElem? (i := 50) rfl))) (ty := (.object "com/example/harborspread/harborspread/NearbyRule")) (by decide)
  have F_conversion_b1 : Fld Z h1 b1 "com/example/harborspread/harborspread/LegTerms" "conversion" "Ljava/util/Optional;" .null := D1 (Or.inr (hw _ (List.mem_of_getElem? (i := 52) rfl))) (ty := (.object "java/util/Optional")) (by decide)
  have g3 : Gz p.tables e below A T1 (mkF m 3 #[.val (.ref pr), .val (.ref nb)] [(.ref b1)]) := fun tq kq => g0 tq (st1 tq kq)
  have g4 : Gz p.tables e below A T1 (mkF m 4 #[.val (.ref pr), .val (.ref nb)] [(.ref b1), (.ref b1)]) := fun tq kq => g3 tq (XS.dup X1.here hx rfl (hb hby d17_3) rfl rfl kq)
  have g5 : Gz p.tables e below A T1 (mkF m 5 #[.val (.ref pr), .val (.ref nb)] [(.ref pr), (.ref b1), (.ref b1)]) := fun tq kq => g4 tq (XS.aloadN X1.here hx rfl (hb hby d17_4) rfl rfl kq)
  have g6 : Gz p.tables e below A T1 (mkF m 6 #[.val (.ref pr), .val (.ref nb)] [(.ref nb), (.ref pr), (.ref b1), (.ref b1)]) := fun tq kq => g5 tq (XS.aloadN X1.here hx rfl (hb hby d17_5) rfl rfl kq)
  obtain ⟨_, _, ⟨T7, L7, k7, n7⟩, -, X7, ⟨Lc7, hQ7, l7, y7, z7⟩, st7⟩ := Jvm.LawKit.callS X1 hx (y := (⟨"java/util/Optional", "empty", "()Ljava/util/Optional;"⟩ : MethodName)) hown (mvT hZ (hw _ (List.mem_of_getElem? (i := 17) rfl))) (mvT hZ (hw _ (List.mem_of_getElem? (i := 18) rfl))) (mvT hZ (hw _ (List.mem_of_getElem? (i := 19) rfl))) (mvT hZ (hw _ (List.mem_of_getElem? (i := 20) rfl))) (by decide) (backOf (W := 4) (rm3 l Z a0 hw [] em h1 n0 (Nat.le_trans Z0 K2.1) (S_E.ext K2)) hZ (hw _ (List.mem_of_getElem? (i := 20) rfl)) (hw _ (List.mem_of_getElem? (i := 19) rfl)) (by decide) (by decide)) (g := (mkF m 6 #[.val (.ref pr), .val (.ref nb)] [(.ref nb), (.ref pr), (.ref b1), (.ref b1)])) rfl (by rw [hml]; rfl) (argsL := []) (rest := [(.ref nb), (.ref pr), (.ref b1), (.ref b1)]) (lenOf pd17_0 rfl) rfl (by show 2 * 0 + _ ≤ _; exact Nat.le_of_eq rfl) (hb hby d17_6) (fun _ _ => ⟨rfl, e1, (by decide : 1 + 0 ≤ _), (by decide : 3 + 0 ≤ _)⟩)
  dsimp only [Pt.U, Pt.locs, Pt.cells, Pt.slots] at X7 l7 y7 z7 st7 hQ7
  subst l7 y7 z7
  obtain ⟨rfl, N7q, e7⟩ := hQ7
  have N7 := Fr.app N0 N7q
  have g8 : Gz p.tables e below A T7 (mkF m 9 #[.val (.ref pr), .val (.ref nb)] [(.ref em), (.ref nb), (.ref pr), (.ref b1), (.ref b1)]) := fun tq kq => g6 tq (st7 _ kq)
  obtain ⟨_, _, ⟨T9, L9, k9, n9⟩, -, X9, hS9, hgr9, ⟨Lc9, hQ9, l9, y9, z9⟩, st9⟩ := X7.specialBackS hx (y := (⟨"com/example/harborspread/harborspread/LegTerms", "<init>", "(Lcom/example/harborspread/harborspread/Product;Lcom/example/harborspread/harborspread/NearbyRule;Ljava/util/Optional;)V"⟩ : MethodName)) rfl hown (mvT hZ (hw _ (List.mem_of_getElem? (i := 22) rfl))) (mvT hZ (hw _ (List.mem_of_getElem? (i := 23) rfl))) (mvT hZ (hw _ (List.mem_of_getElem? (i := 24) rfl))) (by decide) (backOfS (W := 1) (rm16 l Z a0 hw [] b1 pr nb em h1 n0 (Nat.le_trans Z0 K2.1) A1 F_product_b1 F_nearby_b1 F_conversion_b1 g_b1 wS) hZ (hw _ (List.mem_of_getElem? (i := 24) rfl)) (hw _ (List.mem_of_getElem? (i := 13) rfl)) (by decide) (by decide)) (g := (mkF m 9 #[.val (.ref pr), .val (.ref nb)] [(.ref em), (.ref nb), (.ref pr), (.ref b1), (.ref b1)])) rfl (by rw [hml]; rfl) (Steps.refl _) (a := b1) (argsL := [(.ref pr), (.ref nb), (.ref em)]) (rest := [(.ref b1)]) (lenOf pd17_1 rfl) rfl (by show 2 * 0 + _ ≤ _; exact Nat.le_of_eq rfl) (hb hby d17_9) (fun _ _ => ⟨rfl, e7, (by decide : 1 + 6 ≤ _), (by decide : 3 + 104 ≤ _)⟩)
  dsimp only [Pt.U, Pt.locs, Pt.cells, Pt.slots] at X9 hS9 hgr9 l9 y9 z9 st9 hQ9
  subst l9 y9 z9
  have hZ : Z.Warmed39 (s.setVm T9.vm).vm := State.Warmed39.trans hZ hS9.1
  have hown : (s.setVm T9.vm).vm.findClass "com/example/harborspread/harborspread/LegTerms" = some m.cls := by show T9.vm.findClass _ = _; rw [hS9.1.alike.findClass]; exact hown
  have hk9 : T9.heap.size ≤ T9.heap.size := Nat.le_refl _
  obtain ⟨rfl, N9q, KQ9, EQ9, FA9, FB9, FC9⟩ := hQ9
  have N9 := Fr.app N7 N9q
  have g10 : Gz p.tables e below A T9 (mkF m 12 #[.val (.ref pr), .val (.ref nb)] [(.ref b1)]) := fun tq kq => g8 tq (st9.trans kq)
  have K11 := own_extK K2 KQ9 (allS sz_b1 all0)
  obtain ⟨fs, hr, hrun, hended, hend⟩ := Stand.leaveW (s := s) X9 hS9 hk9 (v := some (.ref b1)) (fun h => by rw [Bd.returns] at h; cases h)
  refine ⟨_, _, g10 _ (retOut X9 hx Bd.returns rfl (Or.inr (Or.inr (Or.inr (Or.inr ⟨rfl, rfl, rfl⟩)))) (hb hby d17_12) hr), hrun, hended, _, _, rfl, ?_, hend.1, hend.2.1, hend.2.2.1, hend.2.2.2.mono (by decide) (by decide)⟩
  show Q17 Z pr nb em h0 n0 _ T9.heap _
  exact ⟨_, rfl, N9, K11, EQ9, FA9, FB9, FC9⟩

theorem pn0 : plainName "com/example/harborspread/harborspread/LegTermsAsSettledPinLaw" = true := by first | (simp [plainName, overriddenIn]; done) | decide +kernel
theorem pd0_0 : parseMethodDescriptor "(I)Lcom/example/harborspread/harborspread/Product;" = some ⟨[.int], some (.object "com/example/harborspread/harborspread/Product")⟩ := by decide +kernel
theorem pd0_1 : parseMethodDescriptor "(Lcom/example/harborspread/harborspread/Product;Lcom/example/harborspread/harborspread/NearbyRule;)Lcom/example/harborspread/harborspread/LegTerms;" = some ⟨[(.object "com/example/harborspread/harborspread/Product"), (.object "com/example/harborspread/harborspread/NearbyRule")], some (.object "com/example/harborspread/harborspread/LegTerms")⟩ := by decide +kernel
theorem pd0_2 : parseMethodDescriptor "()Lcom/example/harborspread/harborspread/Product;" = some ⟨[], some (.object "com/example/harborspread/harborspread/Product")⟩ := by decide +kernel
theorem pd0_3 : parseMethodDescriptor "()Lcom/example/harborspread/harborspread/NearbyRule;" = some ⟨[], some (.object "com/example/harborspread/harborspread/NearbyRule")⟩ := by decide +kernel
theorem pd0_4 : parseMethodDescriptor "()I" = some ⟨[], some .int⟩ := by decide +kernel
theorem pd0_5 : parseMethodDescriptor "(I)I" = some ⟨[.int], some .int⟩ := by decide +kernel
theorem ef0 (m : MethodId) (x0 : Int32) (x1 : Int32) : entryFrame m #[(.int x0), (.int x1)] maxLocals = mkF m 0 #[.val (.int x0), .val (.int x1), .unset, .unset, .unset, .unset] [] := by first | (simp [entryFrame, mkF, argsToLocals, Value.category, maxLocals]; done) | rfl
def Q0 (Z : State) (p0 : Int32) (p1 : Int32) (iv : Int32) (w : Nat → Addr) (n0_ : Addr) (n1_ : Addr) (em : Addr) (ca : Addr) (clc : Cell) (bx : Nat → Addr) (h0 : Heap) (n0 : Nat) (v : Option Value) (h : Heap) (L : List Loc) : Prop := v = some (.int 1) ∧ Fr n0 L
set_option maxRecDepth 65536 in
set_option maxHeartbeats 40000000 in
theorem rm0 (l : Launch) (Z : State) (a0 : Array Value) (hw : ∀ d ∈ tables_1, d.before a0 Z = true) (ws : List Jvm.Cond) (p0 : Int32) (p1 : Int32) (iv : Int32) (w : Nat → Addr) (n0_ : Addr) (n1_ : Addr) (em : Addr) (ca : Addr) (clc : Cell) (bx : Nat → Addr) (h0 : Heap) (n0 : Nat) (Z0 : n0 ≤ h0.size) (hiv : (p0 &&& (2147483647 : Int32)) % (3 : Int32) = iv) (hlo : 0 ≤ iv.toInt) (hhi : iv.toInt < 3) (S_ULSD : Sta Z h0 "com/example/harborspread/harborspread/Product" "ULSD" "Lcom/example/harborspread/harborspread/Product;" (.ref (w 0))) (S_LSGASOIL : Sta Z h0 "com/example/harborspread/harborspread/Product" "LSGASOIL" "Lcom/example/harborspread/harborspread/Product;" (.ref (w 1))) (S_BRENT : Sta Z h0 "com/example/harborspread/harborspread/Product" "BRENT" "Lcom/example/harborspread/harborspread/Product;" (.ref (w 2))) (S_FIRST_NEARBY : Sta Z h0 "com/example/harborspread/harborspread/NearbyRule" "FIRST_NEARBY" "Lcom/example/harborspread/harborspread/NearbyRule;" (.ref n0_)) (S_SECOND_NEARBY_ON_LAST_TRADING_DAY : Sta Z h0 "com/example/harborspread/harborspread/NearbyRule" "SECOND_NEARBY_ON_LAST_TRADING_DAY" "Lcom/example/harborspread/harborspread/NearbyRule;" (.ref n1_)) (S_E : Sta Z h0 "java/util/Optional" "EMPTY" "Ljava/util/Optional;" (.ref em)) (E_em : Exa Z h0 em "java/util/Optional") (F_em : Fld Z h0 em "java/util/Optional" "value" "Ljava/lang/Object;" .null) (S_H : Sta Z h0 "java/lang/Integer$IntegerCache" "high" "I" (.int 127)) (S_C : Sta Z h0 "java/lang/Integer$IntegerCache" "cache" "[Ljava/lang/Integer;" (.ref ca)) (A_c : Arr Z h0 ca clc (.object "java/lang/Integer")) (hI : ∀ j, j < 3 → Exa Z h0 (w j) "com/example/harborspread/harborspread/Product" ∧ Fld Z h0 (w j) "com/example/harborspread/harborspread/Product" "priceScale" "I" (.int (own_sc j)) ∧ ¬ (own_sc j < (-128 : Int32)) ∧ ¬ ((127 : Int32) < own_sc j) ∧ ¬ ((own_sc j + (128 : Int32)) < 0 ∨ clc.slots.size ≤ (own_sc j + (128 : Int32)).toNatClampNeg) ∧ clc.slots[(own_sc j + (128 : Int32)).toNatClampNeg]? = some (.ref (bx j)) ∧ Exa Z h0 (bx j) "java/lang/Integer" ∧ Fld Z h0 (bx j) "java/lang/Integer" "value" "I" (.int (own_sc j))) (wS : ∀ a ∈ Bundle.stringAtoms, a.before a0 Z = true) :
    MetFree l x (head1 (Jvm.Cond.code x code maxLocals ret :: ws) room_1) (fun aq Uq => aq = #[(.int p0), (.int p1)] ∧ Z.Warmed39 Uq.vm ∧ Uq.heap = h0) (fun _ _ _ _ _ => True) (fun _ Uq oq Uq' => ∃ vq Lq, oq = .returned vq ∧ Q0 Z p0 p1 iv w n0_ n1_ em ca clc bx h0 n0 vq Uq'.heap Lq ∧ ReturnedEndW Uq oq Uq' Lq room_1.cells room_1.slots) := by
  refine MetFree.of_bodySF (plainFor_of_name pn0) hisR ?_
  intro p e s m args below meth c s₁ Bd hml0 hP hK
  obtain ⟨rfl, hZ, hh⟩ := hP
  have hx := Bd.exec
  have hby := Bd.bytes
  have hml : c.maxLocals = 6 := hml0
  have hown : s.vm.findClass "com/example/harborspread/harborspread/LegTermsAsSettledPinLaw" = some m.cls := findClass_of_methodNamed Bd.named
  have hnm := (name_of_methodNamed Bd.named Bd.method).1
  have X0 : Stand p l e room_1 s m #[(.int p0), (.int p1)] below meth c s₁ [] 0 0 := Stand.of_body Bd
  have e0 : s₁.heap = h0 := by rw [← hh, Bd.state]; rfl
  have N0 := Fr.nil n0
  obtain ⟨A, hA⟩ : ∃ A, A = s₁.setTop (entryFrame m #[(.int p0), (.int p1)] maxLocals) := ⟨_, rfl⟩
  rw [← hA]
  have g0 : Gz p.tables e below A s₁ (mkF m 0 #[.val (.int p0), .val (.int p1), .unset, .unset, .unset, .unset] []) := fun tq kq => by rw [hA]; exact castTop (ef0 m p0 p1) kq
  have hS0 : s.Since s.vm h0.size := (State.WarmedH.refl s).since _
  have hk0 : h0.size ≤ h0.size := Nat.le_refl _
  have g1 : Gz p.tables e below A s₁ (mkF m 1 #[.val (.int p0), .val (.int p1), .unset, .unset, .unset, .unset] [(.int p0)]) := fun tq kq => g0 tq (XS.iloadN X0.here hx rfl (hb hby at_0) rfl kq)
  have g2 : Gz p.tables e below A s₁ (mkF m 3 #[.val (.int p0), .val (.int p1), .unset, .unset, .unset, .unset] [(.int (2147483647 : Int32)), (.int p0)]) := fun tq kq => g1 tq (X0.ldcInt hx hown (mvT hZ (hw _ (List.mem_of_getElem? (i := 0) rfl))) (g := (mkF m 1 #[.val (.int p0), .val (.int p1), .unset, .unset, .unset, .unset] [(.int p0)])) rfl (hb hby at_1) _ kq)
  have g3 : Gz p.tables e below A s₁ (mkF m 4 #[.val (.int p0), .val (.int p1), .unset, .unset, .unset, .unset] [(.int (p0 &&& (2147483647 : Int32)))]) := fun tq kq => g2 tq (XS.iand X0.here hx rfl (hb hby at_3) rfl kq)
  have g4 : Gz p.tables e below A s₁ (mkF m 5 #[.val (.int p0), .val (.int p1), .unset, .unset, .unset, .unset] [(.int (3 : Int32)), (.int (p0 &&& (2147483647 : Int32)))]) := fun tq kq => g3 tq (XS.iconst X0.here hx rfl (hb hby at_4) kq)
  have g5 : Gz p.tables e below A s₁ (mkF m 6 #[.val (.int p0), .val (.int p1), .unset, .unset, .unset, .unset] [(.int ((p0 &&& (2147483647 : Int32)) % (3 : Int32)))]) := fun tq kq => g4 tq (iremM X0 hx rfl (hb hby at_5) rfl (by decide) kq)
  rw [hiv] at g5
  have g6 : Gz p.tables e below A s₁ (mkF m 7 #[.val (.int p0), .val (.int p1), .val (.int iv), .unset, .unset, .unset] []) := fun tq kq => g5 tq (XS.istoreN X0.here hx rfl (hb hby at_6) rfl (l' := #[.val (.int p0), .val (.int p1), .val (.int iv), .unset, .unset, .unset]) rfl kq)
  have g7 : Gz p.tables e below A s₁ (mkF m 8 #[.val (.int p0), .val (.int p1), .val (.int iv), .unset, .unset, .unset] [(.int iv)]) := fun tq kq => g6 tq (XS.iloadN X0.here hx rfl (hb hby at_7) rfl kq)
  obtain ⟨_, _, ⟨T8, L8, k8, n8⟩, -, X8, ⟨Lc8, hQ8, l8, y8, z8⟩, st8⟩ := Jvm.LawKit.callS X0 hx (y := (⟨"com/example/harborspread/harborspread/LegTermsAsSettledPinLaw", "product", "(I)Lcom/example/harborspread/harborspread/Product;"⟩ : MethodName)) hown (mvT hZ (hw _ (List.mem_of_getElem? (i := 1) rfl))) (mvT hZ (hw _ (List.mem_of_getElem? (i := 2) rfl))) (mvT hZ (hw _ (List.mem_of_getElem? (i := 3) rfl))) (mvT hZ (hw _ (List.mem_of_getElem? (i := 4) rfl))) (by decide) (backOf (W := 0) (rm1 l Z a0 hw [] iv w h0 n0 Z0 S_ULSD S_LSGASOIL S_BRENT hlo hhi) hZ (hw _ (List.mem_of_getElem? (i := 4) rfl)) (hw _ (List.mem_of_getElem? (i := 3) rfl)) (by decide) (by decide)) (g := (mkF m 8 #[.val (.int p0), .val (.int p1), .val (.int iv), .unset, .unset, .unset] [(.int iv)])) rfl (by rw [hml]; rfl) (argsL := [(.int iv)]) (rest := []) (lenOf pd0_0 rfl) rfl (by show 2 * 0 + _ ≤ _; exact Nat.le_of_eq rfl) (hb hby at_8) (fun _ _ => ⟨rfl, e0, (by decide : 0 + 0 ≤ _), (by decide : 0 + 0 ≤ _)⟩)
  dsimp only [Pt.U, Pt.locs, Pt.cells, Pt.slots] at X8 l8 y8 z8 st8 hQ8
  subst l8 y8 z8
  obtain ⟨j, rfl, N8q, e8, hj, hij⟩ := hQ8
  have N8 := Fr.app N0 N8q
  have g9 : Gz p.tables e below A T8 (mkF m 11 #[.val (.int p0), .val (.int p1), .val (.int iv), .unset, .unset, .unset] [(.ref (w j))]) := fun tq kq => g7 tq (st8 _ kq)
  have g10 : Gz p.tables e below A T8 (mkF m 12 #[.val (.int p0), .val (.int p1), .val (.int iv), .val (.ref (w j)), .unset, .unset] []) := fun tq kq => g9 tq (XS.astoreN X8.here hx rfl (hb hby at_11) rfl rfl (l' := #[.val (.int p0), .val (.int p1), .val (.int iv), .val (.ref (w j)), .unset, .unset]) rfl kq)
  have g11 : Gz p.tables e below A T8 (mkF m 13 #[.val (.int p0), .val (.int p1), .val (.int iv), .val (.ref (w j)), .unset, .unset] [(.int p1)]) := fun tq kq => g10 tq (XS.iloadN X8.here hx rfl (hb hby at_12) rfl kq)
  have g12 : Gz p.tables e below A T8 (mkF m 14 #[.val (.int p0), .val (.int p1), .val (.int iv), .val (.ref (w j)), .unset, .unset] [(.int (1 : Int32)), (.int p1)]) := fun tq kq => g11 tq (XS.iconst X8.here hx rfl (hb hby at_13) kq)
  have g13 : Gz p.tables e below A T8 (mkF m 15 #[.val (.int p0), .val (.int p1), .val (.int iv), .val (.ref (w j)), .unset, .unset] [(.int (p1 &&& (1 : Int32)))]) := fun tq kq => g12 tq (XS.iand X8.here hx rfl (hb hby at_14) rfl kq)
  by_cases hc15 : (p1 &&& (1 : Int32)) = (0 : Int32)
  · have g14 : Gz p.tables e below A T8 (mkF m 24 #[.val (.int p0), .val (.int p1), .val (.int iv), .val (.ref (w j)), .unset, .unset] []) := fun tq kq => g13 tq (XS.ifYes X8.here hx rfl (pc0 := 15) (pc' := 24) rfl (hb hby at_15) rfl ((if0 _ _).trans (teq hc15).1) (by decide) (by decide) kq)
    obtain ⟨T15, X15, e15, st15⟩ := getS2 X8 hx hZ hown (host := "") (Or.inl (hw _ (List.mem_of_getElem? (i := 120) rfl))) Via.refl e8 S_FIRST_NEARBY (g := (mkF m 24 #[.val (.int p0), .val (.int p1), .val (.int iv), .val (.ref (w j)), .unset, .unset] [])) rfl (hb hby at_24)
    have g16 : Gz p.tables e below A T15 (mkF m 27 #[.val (.int p0), .val (.int p1), .val (.int iv), .val (.ref (w j)), .unset, .unset] [(.ref n0_)]) := fun tq kq => g14 tq (st15 tq kq)
    have g17 : Gz p.tables e below A T15 (mkF m 29 #[.val (.int p0), .val (.int p1), .val (.int iv), .val (.ref (w j)), .val (.ref n0_), .unset] []) := fun tq kq => g16 tq (XS.astore X15.here hx rfl (hb hby at_27) rfl rfl (l' := #[.val (.int p0), .val (.int p1), .val (.int iv), .val (.ref (w j)), .val (.ref n0_), .unset]) rfl kq)
    have g18 : Gz p.tables e below A T15 (mkF m 30 #[.val (.int p0), .val (.int p1), .val (.int iv), .val (.ref (w j)), .val (.ref n0_), .unset] [(.ref (w j))]) := fun tq kq => g17 tq (XS.aloadN X15.here hx rfl (hb hby at_29) rfl rfl kq)
    have g19 : Gz p.tables e below A T15 (mkF m 32 #[.val (.int p0), .val (.int p1), .val (.int iv), .val (.ref (w j)), .val (.ref n0_), .unset] [(.ref n0_), (.ref (w j))]) := fun tq kq => g18 tq (XS.aload X15.here hx rfl (hb hby at_30) rfl rfl kq)
    obtain ⟨_, _, ⟨T20, L20, k20, n20⟩, -, X20, hS20, hgr20, ⟨Lc20, hQ20, l20, y20, z20⟩, st20⟩ := callSS X15 hx (y := (⟨"com/example/harborspread/harborspread/LegTerms", "asSettled", "(Lcom/example/harborspread/harborspread/Product;Lcom/example/harborspread/harborspread/NearbyRule;)Lcom/example/harborspread/harborspread/LegTerms;"⟩ : MethodName)) hown (mvT hZ (hw _ (List.mem_of_getElem? (i := 11) rfl))) (mvT hZ (hw _ (List.mem_of_getElem? (i := 12) rfl))) (mvT hZ (hw _ (List.mem_of_getElem? (i := 13) rfl))) (mvT hZ (hw _ (List.mem_of_getElem? (i := 14) rfl))) (by decide) (backOfS (W := 0) (rm17 l Z a0 hw [] (w j) n0_ em h0 n0 Z0 S_E wS) hZ (hw _ (List.mem_of_getElem? (i := 14) rfl)) (hw _ (List.mem_of_getElem? (i := 13) rfl)) (by decide) (by decide)) (g := (mkF m 32 #[.val (.int p0), .val (.int p1), .val (.int iv), .val (.ref (w j)), .val (.ref n0_), .unset] [(.ref n0_), (.ref (w j))])) rfl (by rw [hml]; rfl) (argsL := [(.ref (w j)), (.ref n0_)]) (rest := []) (lenOf pd0_1 rfl) rfl (by show 2 * 0 + _ ≤ _; exact Nat.le_of_eq rfl) (hb hby at_32) (fun _ _ => ⟨rfl, e15, (by decide : 0 + 7 ≤ _), (by decide : 0 + 107 ≤ _)⟩)
    dsimp only [Pt.U, Pt.locs, Pt.cells, Pt.slots] at X20 hS20 hgr20 l20 y20 z20 st20 hQ20
    subst l20 y20 z20
    have hZ : Z.Warmed39 (s.setVm T20.vm).vm := State.Warmed39.trans hZ hS20.1
    have hown : (s.setVm T20.vm).vm.findClass "com/example/harborspread/harborspread/LegTermsAsSettledPinLaw" = some m.cls := by show T20.vm.findClass _ = _; rw [hS20.1.alike.findClass]; exact hown
    have hk20 : T20.heap.size ≤ T20.heap.size := Nat.le_refl _
    obtain ⟨t20, rfl, N20q, EQ20, EX20, FA20, FB20, FC20⟩ := hQ20
    have N20 := Fr.app N8 N20q
    have g21 : Gz p.tables e below A T20 (mkF m 35 #[.val (.int p0), .val (.int p1), .val (.int iv), .val (.ref (w j)), .val (.ref n0_), .unset] [(.ref t20)]) := fun tq kq => g19 tq (st20.trans kq)
    have K22 := EQ20
    have g23 : Gz p.tables e below A T20 (mkF m 37 #[.val (.int p0), .val (.int p1), .val (.int iv), .val (.ref (w j)), .val (.ref n0_), .val (.ref t20)] []) := fun tq kq => g21 tq (XS.astore X20.here hx rfl (hb hby at_35) rfl rfl (l' := #[.val (.int p0), .val (.int p1), .val (.int iv), .val (.ref (w j)), .val (.ref n0_), .val (.ref t20)]) rfl kq)
    have g24 : Gz p.tables e below A T20 (mkF m 39 #[.val (.int p0), .val (.int p1), .val (.int iv), .val (.ref (w j)), .val (.ref n0_), .val (.ref t20)] [(.ref t20)]) := fun tq kq => g23 tq (XS.aload X20.here hx rfl (hb hby at_37) rfl rfl kq)
    obtain ⟨cq25, kq25, q25a, q25b, q25c⟩ := isOf hZ rfl EX20
    obtain ⟨_, _, ⟨T25, L25, k25, n25⟩, -, X25, ⟨Lc25, hQ25, l25, y25, z25⟩, st25⟩ := X20.virtualBack hx (y := (⟨"com/example/harborspread/harborspread/LegTerms", "product", "()Lcom/example/harborspread/harborspread/Product;"⟩ : MethodName)) (z := (⟨"com/example/harborspread/harborspread/LegTerms", "product", "()Lcom/example/harborspread/harborspread/Product;"⟩ : MethodName)) hown (mvT hZ (hw _ (List.mem_of_getElem? (i := 53) rfl))) (mvT hZ (hw _ (List.mem_of_getElem? (i := 54) rfl))) (notFace_of_selects (args := #[]) (mvT hZ (hw _ (List.mem_of_getElem? (i := 56) rfl)))) (mvT hZ (hw _ (List.mem_of_getElem? (i := 56) rfl))) (mvT hZ (hw _ (List.mem_of_getElem? (i := 55) rfl))) (by decide) (backOf (W := 0) (rm13 l Z a0 hw [] t20 (w j) T20.heap n0 (Nat.le_trans Z0 K22.1) FA20) hZ (hw _ (List.mem_of_getElem? (i := 57) rfl)) (hw _ (List.mem_of_getElem? (i := 13) rfl)) (by decide) (by decide)) q25a q25c (g := (mkF m 39 #[.val (.int p0), .val (.int p1), .val (.int iv), .val (.ref (w j)), .val (.ref n0_), .val (.ref t20)] [(.ref t20)])) rfl (by rw [hml]; rfl) (Steps.refl _) (argsL := []) (rest := []) (lenOf pd0_2 rfl) rfl (by show 2 * 0 + _ ≤ _; exact Nat.le_of_eq rfl) (hb hby at_39) (fun _ _ => ⟨rfl, rfl, (by decide : 7 + 0 ≤ _), (by decide : 107 + 0 ≤ _)⟩)
    dsimp only [Pt.U, Pt.locs, Pt.cells, Pt.slots] at X25 l25 y25 z25 st25 hQ25
    subst l25 y25 z25
    obtain ⟨rfl, N25q, e25⟩ := hQ25
    have N25 := Fr.app N20 N25q
    have g26 : Gz p.tables e below A T25 (mkF m 42 #[.val (.int p0), .val (.int p1), .val (.int iv), .val (.ref (w j)), .val (.ref n0_), .val (.ref t20)] [(.ref (w j))]) := fun tq kq => g24 tq (st25.trans kq)
    have g27 : Gz p.tables e below A T25 (mkF m 43 #[.val (.int p0), .val (.int p1), .val (.int iv), .val (.ref (w j)), .val (.ref n0_), .val (.ref t20)] [(.ref (w j)), (.ref (w j))]) := fun tq kq => g26 tq (XS.aloadN X25.here hx rfl (hb hby at_42) rfl rfl kq)
    have g28 : Gz p.tables e below A T25 (mkF m 48 #[.val (.int p0), .val (.int p1), .val (.int iv), .val (.ref (w j)), .val (.ref n0_), .val (.ref t20)] []) := fun tq kq => g27 tq (Jvm.RoadKit.acmp (g := (mkF m 43 #[.val (.int p0), .val (.int p1), .val (.int iv), .val (.ref (w j)), .val (.ref n0_), .val (.ref t20)] [(.ref (w j)), (.ref (w j))])) X25 hx rfl rfl rfl (pc0 := 43) (pc' := 48) (same := true) rfl (hb hby at_43) rfl (decide_eq_true rfl) (by decide) (by decide) kq)
    have g29 : Gz p.tables e below A T25 (mkF m 50 #[.val (.int p0), .val (.int p1), .val (.int iv), .val (.ref (w j)), .val (.ref n0_), .val (.ref t20)] [(.ref t20)]) := fun tq kq => g28 tq (XS.aload X25.here hx rfl (hb hby at_48) rfl rfl kq)
    obtain ⟨cq30, kq30, q30a, q30b, q30c⟩ := isOf hZ e25 EX20
    obtain ⟨_, _, ⟨T30, L30, k30, n30⟩, -, X30, ⟨Lc30, hQ30, l30, y30, z30⟩, st30⟩ := X25.virtualBack hx (y := (⟨"com/example/harborspread/harborspread/LegTerms", "nearby", "()Lcom/example/harborspread/harborspread/NearbyRule;"⟩ : MethodName)) (z := (⟨"com/example/harborspread/harborspread/LegTerms", "nearby", "()Lcom/example/harborspread/harborspread/NearbyRule;"⟩ : MethodName)) hown (mvT hZ (hw _ (List.mem_of_getElem? (i := 58) rfl))) (mvT hZ (hw _ (List.mem_of_getElem? (i := 59) rfl))) (notFace_of_selects (args := #[]) (mvT hZ (hw _ (List.mem_of_getElem? (i := 61) rfl)))) (mvT hZ (hw _ (List.mem_of_getElem? (i := 61) rfl))) (mvT hZ (hw _ (List.mem_of_getElem? (i := 60) rfl))) (by decide) (backOf (W := 0) (rm14 l Z a0 hw [] t20 n0_ T20.heap n0 (Nat.le_trans Z0 K22.1) FB20) hZ (hw _ (List.mem_of_getElem? (i := 62) rfl)) (hw _ (List.mem_of_getElem? (i := 13) rfl)) (by decide) (by decide)) q30a q30c (g := (mkF m 50 #[.val (.int p0), .val (.int p1), .val (.int iv), .val (.ref (w j)), .val (.ref n0_), .val (.ref t20)] [(.ref t20)])) rfl (by rw [hml]; rfl) (Steps.refl _) (argsL := []) (rest := []) (lenOf pd0_3 rfl) rfl (by show 2 * 0 + _ ≤ _; exact Nat.le_of_eq rfl) (hb hby at_50) (fun _ _ => ⟨rfl, e25, (by decide : 7 + 0 ≤ _), (by decide : 107 + 0 ≤ _)⟩)
    dsimp only [Pt.U, Pt.locs, Pt.cells, Pt.slots] at X30 l30 y30 z30 st30 hQ30
    subst l30 y30 z30
    obtain ⟨rfl, N30q, e30⟩ := hQ30
    have N30 := Fr.app N25 N30q
    have g31 : Gz p.tables e below A T30 (mkF m 53 #[.val (.int p0), .val (.int p1), .val (.int iv), .val (.ref (w j)), .val (.ref n0_), .val (.ref t20)] [(.ref n0_)]) := fun tq kq => g29 tq (st30.trans kq)
    have g32 : Gz p.tables e below A T30 (mkF m 55 #[.val (.int p0), .val (.int p1), .val (.int iv), .val (.ref (w j)), .val (.ref n0_), .val (.ref t20)] [(.ref n0_), (.ref n0_)]) := fun tq kq => g31 tq (XS.aload X30.here hx rfl (hb hby at_53) rfl rfl kq)
    have g33 : Gz p.tables e below A T30 (mkF m 60 #[.val (.int p0), .val (.int p1), .val (.int iv), .val (.ref (w j)), .val (.ref n0_), .val (.ref t20)] []) := fun tq kq => g32 tq (Jvm.RoadKit.acmp (g := (mkF m 55 #[.val (.int p0), .val (.int p1), .val (.int iv), .val (.ref (w j)), .val (.ref n0_), .val (.ref t20)] [(.ref n0_), (.ref n0_)])) X30 hx rfl rfl rfl (pc0 := 55) (pc' := 60) (same := true) rfl (hb hby at_55) rfl (decide_eq_true rfl) (by decide) (by decide) kq)
    have g34 : Gz p.tables e below A T30 (mkF m 62 #[.val (.int p0), .val (.int p1), .val (.int iv), .val (.ref (w j)), .val (.ref n0_), .val (.ref t20)] [(.ref t20)]) := fun tq kq => g33 tq (XS.aload X30.here hx rfl (hb hby at_60) rfl rfl kq)
    obtain ⟨E_pr, F_x, hx1, hx2, hin, hat, E_b, F_b⟩ := hI j hj
    obtain ⟨cq35, kq35, q35a, q35b, q35c⟩ := isOf hZ e30 EX20
    obtain ⟨_, _, ⟨T35, L35, k35, n35⟩, -, X35, ⟨Lc35, hQ35, l35, y35, z35⟩, st35⟩ := X30.virtualBack hx (y := (⟨"com/example/harborspread/harborspread/LegTerms", "valueScale", "()I"⟩ : MethodName)) (z := (⟨"com/example/harborspread/harborspread/LegTerms", "valueScale", "()I"⟩ : MethodName)) hown (mvT hZ (hw _ (List.mem_of_getElem? (i := 63) rfl))) (mvT hZ (hw _ (List.mem_of_getElem? (i := 64) rfl))) (notFace_of_selects (args := #[]) (mvT hZ (hw _ (List.mem_of_getElem? (i := 66) rfl)))) (mvT hZ (hw _ (List.mem_of_getElem? (i := 66) rfl))) (mvT hZ (hw _ (List.mem_of_getElem? (i := 65) rfl))) (by decide) (backOf (W := 0) (rm15 l Z a0 hw [] t20 em (w j) (own_sc j) ca clc (bx j) T20.heap n0 (Nat.le_trans Z0 K22.1) FC20 FA20 (F_em.ext K22) (E_em.ext K22) (S_E.ext K22) (E_pr.ext K22) (F_x.ext K22) (S_H.ext K22) (S_C.ext K22) (A_c.ext K22) hx1 hx2 hin hat (E_b.ext K22) (F_b.ext K22)) hZ (hw _ (List.mem_of_getElem? (i := 67) rfl)) (hw _ (List.mem_of_getElem? (i := 13) rfl)) (by decide) (by decide)) q35a q35c (g := (mkF m 62 #[.val (.int p0), .val (.int p1), .val (.int iv), .val (.ref (w j)), .val (.ref n0_), .val (.ref t20)] [(.ref t20)])) rfl (by rw [hml]; rfl) (Steps.refl _) (argsL := []) (rest := []) (lenOf pd0_4 rfl) rfl (by show 2 * 0 + _ ≤ _; exact Nat.le_of_eq rfl) (hb hby at_62) (fun _ _ => ⟨rfl, e30, (by decide : 7 + 0 ≤ _), (by decide : 107 + 0 ≤ _)⟩)
    dsimp only [Pt.U, Pt.locs, Pt.cells, Pt.slots] at X35 l35 y35 z35 st35 hQ35
    subst l35 y35 z35
    obtain ⟨rfl, N35q, e35⟩ := hQ35
    have N35 := Fr.app N30 N35q
    have g36 : Gz p.tables e below A T35 (mkF m 65 #[.val (.int p0), .val (.int p1), .val (.int iv), .val (.ref (w j)), .val (.ref n0_), .val (.ref t20)] [(.int (own_sc j))]) := fun tq kq => g34 tq (st35.trans kq)
    have g37 : Gz p.tables e below A T35 (mkF m 66 #[.val (.int p0), .val (.int p1), .val (.int iv), .val (.ref (w j)), .val (.ref n0_), .val (.ref t20)] [(.int iv), (.int (own_sc j))]) := fun tq kq => g36 tq (XS.iloadN X35.here hx rfl (hb hby at_65) rfl kq)
    obtain ⟨_, _, ⟨T38, L38, k38, n38⟩, -, X38, ⟨Lc38, hQ38, l38, y38, z38⟩, st38⟩ := Jvm.LawKit.callS X35 hx (y := (⟨"com/example/harborspread/harborspread/LegTermsAsSettledPinLaw", "expectedScale", "(I)I"⟩ : MethodName)) hown (mvT hZ (hw _ (List.mem_of_getElem? (i := 115) rfl))) (mvT hZ (hw _ (List.mem_of_getElem? (i := 116) rfl))) (mvT hZ (hw _ (List.mem_of_getElem? (i := 3) rfl))) (mvT hZ (hw _ (List.mem_of_getElem? (i := 117) rfl))) (by decide) (backOf (W := 1) (rm2 l Z a0 hw [] iv j T20.heap n0 (Nat.le_trans Z0 K22.1) hij) hZ (hw _ (List.mem_of_getElem? (i := 117) rfl)) (hw _ (List.mem_of_getElem? (i := 3) rfl)) (by decide) (by decide)) (g := (mkF m 66 #[.val (.int p0), .val (.int p1), .val (.int iv), .val (.ref (w j)), .val (.ref n0_), .val (.ref t20)] [(.int iv), (.int (own_sc j))])) rfl (by rw [hml]; rfl) (argsL := [(.int iv)]) (rest := [(.int (own_sc j))]) (lenOf pd0_5 rfl) rfl (by show 2 * 0 + _ ≤ _; exact Nat.le_of_eq rfl) (hb hby at_66) (fun _ _ => ⟨rfl, e35, (by decide : 7 + 0 ≤ _), (by decide : 107 + 0 ≤ _)⟩)
    dsimp only [Pt.U, Pt.locs, Pt.cells, Pt.slots] at X38 l38 y38 z38 st38 hQ38
    subst l38 y38 z38
    obtain ⟨rfl, N38q, e38⟩ := hQ38
    have N38 := Fr.app N35 N38q
    have g39 : Gz p.tables e below A T38 (mkF m 69 #[.val (.int p0), .val (.int p1), .val (.int iv), .val (.ref (w j)), .val (.ref n0_), .val (.ref t20)] [(.int (own_sc j)), (.int (own_sc j))]) := fun tq kq => g37 tq (st38 _ kq)
    have g40 : Gz p.tables e below A T38 (mkF m 72 #[.val (.int p0), .val (.int p1), .val (.int iv), .val (.ref (w j)), .val (.ref n0_), .val (.ref t20)] []) := fun tq kq => g39 tq (XS.icmpNo X38.here hx rfl (hb hby at_69) rfl (teq rfl).2 kq)
    have g41 : Gz p.tables e below A T38 (mkF m 73 #[.val (.int p0), .val (.int p1), .val (.int iv), .val (.ref (w j)), .val (.ref n0_), .val (.ref t20)] [(.int (1 : Int32))]) := fun tq kq => g40 tq (XS.iconst X38.here hx rfl (hb hby at_72) kq)
    have g42 : Gz p.tables e below A T38 (mkF m 77 #[.val (.int p0), .val (.int p1), .val (.int iv), .val (.ref (w j)), .val (.ref n0_), .val (.ref t20)] [(.int (1 : Int32))]) := fun tq kq => g41 tq (XS.goto X38.here hx rfl (pc0 := 73) (pc' := 77) rfl (hb hby at_73) (by decide) (by decide) kq)
    obtain ⟨fs, hr, hrun, hended, hend⟩ := Stand.leaveW (s := s) X38 hS20 (by rw [e38]; exact hk20) (v := some (.int (1 : Int32))) (fun h => by rw [Bd.returns] at h; cases h)
    refine ⟨_, _, g42 _ (retN X38 hx (t := .boolean) Bd.returns (by simp) (hb hby at_77) hr), hrun, hended, _, _, rfl, ?_, hend.1, hend.2.1, hend.2.2.1, hend.2.2.2.mono (by decide) (by decide)⟩
    show Q0 Z p0 p1 iv w n0_ n1_ em ca clc bx h0 n0 _ T38.heap _
    rw [e38]
    exact ⟨rfl, N38⟩
  · have g43 : Gz p.tables e below A T8 (mkF m 18 #[.val (.int p0), .val (.int p1), .val (.int iv), .val (.ref (w j)), .unset, .unset] []) := fun tq kq => g13 tq (XS.ifNo X8.here hx rfl (hb hby at_15) rfl ((if0 _ _).trans (feq hc15).1) kq)
    obtain ⟨T44, X44, e44, st44⟩ := getS2 X8 hx hZ hown (host := "") (Or.inl (hw _ (List.mem_of_getElem? (i := 8) rfl))) Via.refl e8 S_SECOND_NEARBY_ON_LAST_TRADING_DAY (g := (mkF m 18 #[.val (.int p0), .val (.int p1), .val (.int iv), .val (.ref (w j)), .unset, .unset] [])) rfl (hb hby at_18)
    have g45 : Gz p.tables e below A T44 (mkF m 21 #[.val (.int p0), .val (.int p1), .val (.int iv), .val (.ref (w j)), .unset, .unset] [(.ref n1_)]) := fun tq kq => g43 tq (st44 tq kq)
    have g46 : Gz p.tables e below A T44 (mkF m 27 #[.val (.int p0), .val (.int p1), .val (.int iv), .val (.ref (w j)), .unset, .unset] [(.ref n1_)]) := fun tq kq => g45 tq (XS.goto X44.here hx rfl (pc0 := 21) (pc' := 27) rfl (hb hby at_21) (by decide) (by decide) kq)
    have g47 : Gz p.tables e below A T44 (mkF m 29 #[.val (.int p0), .val (.int p1), .val (.int iv), .val (.ref (w j)), .val (.ref n1_), .unset] []) := fun tq kq => g46 tq (XS.astore X44.here hx rfl (hb hby at_27) rfl rfl (l' := #[.val (.int p0), .val (.int p1), .val (.int iv), .val (.ref (w j)), .val (.ref n1_), .unset]) rfl kq)
    have g48 : Gz p.tables e below A T44 (mkF m 30 #[.val (.int p0), .val (.int p1), .val (.int iv), .val (.ref (w j)), .val (.ref n1_), .unset] [(.ref (w j))]) := fun tq kq => g47 tq (XS.aloadN X44.here hx rfl (hb hby at_29) rfl rfl kq)
    have g49 : Gz p.tables e below A T44 (mkF m 32 #[.val (.int p0), .val (.int p1), .val (.int iv), .val (.ref (w j)), .val (.ref n1_), .unset] [(.ref n1_), (.ref (w j))]) := fun tq kq => g48 tq (XS.aload X44.here hx rfl (hb hby at_30) rfl rfl kq)
    obtain ⟨_, _, ⟨T50, L50, k50, n50⟩, -, X50, hS50, hgr50, ⟨Lc50, hQ50, l50, y50, z50⟩, st50⟩ := callSS X44 hx (y := (⟨"com/example/harborspread/harborspread/LegTerms", "asSettled", "(Lcom/example/harborspread/harborspread/Product;Lcom/example/harborspread/harborspread/NearbyRule;)Lcom/example/harborspread/harborspread/LegTerms;"⟩ : MethodName)) hown (mvT hZ (hw _ (List.mem_of_getElem? (i := 11) rfl))) (mvT hZ (hw _ (List.mem_of_getElem? (i := 12) rfl))) (mvT hZ (hw _ (List.mem_of_getElem? (i := 13) rfl))) (mvT hZ (hw _ (List.mem_of_getElem? (i := 14) rfl))) (by decide) (backOfS (W := 0) (rm17 l Z a0 hw [] (w j) n1_ em h0 n0 Z0 S_E wS) hZ (hw _ (List.mem_of_getElem? (i := 14) rfl)) (hw _ (List.mem_of_getElem? (i := 13) rfl)) (by decide) (by decide)) (g := (mkF m 32 #[.val (.int p0), .val (.int p1), .val (.int iv), .val (.ref (w j)), .val (.ref n1_), .unset] [(.ref n1_), (.ref (w j))])) rfl (by rw [hml]; rfl) (argsL := [(.ref (w j)), (.ref n1_)]) (rest := []) (lenOf pd0_1 rfl) rfl (by show 2 * 0 + _ ≤ _; exact Nat.le_of_eq rfl) (hb hby at_32) (fun _ _ => ⟨rfl, e44, (by decide : 0 + 7 ≤ _), (by decide : 0 + 107 ≤ _)⟩)
    dsimp only [Pt.U, Pt.locs, Pt.cells, Pt.slots] at X50 hS50 hgr50 l50 y50 z50 st50 hQ50
    subst l50 y50 z50
    have hZ : Z.Warmed39 (s.setVm T50.vm).vm := State.Warmed39.trans hZ hS50.1
    have hown : (s.setVm T50.vm).vm.findClass "com/example/harborspread/harborspread/LegTermsAsSettledPinLaw" = some m.cls := by show T50.vm.findClass _ = _; rw [hS50.1.alike.findClass]; exact hown
    have hk50 : T50.heap.size ≤ T50.heap.size := Nat.le_refl _
    obtain ⟨t50, rfl, N50q, EQ50, EX50, FA50, FB50, FC50⟩ := hQ50
    have N50 := Fr.app N8 N50q
    have g51 : Gz p.tables e below A T50 (mkF m 35 #[.val (.int p0), .val (.int p1), .val (.int iv), .val (.ref (w j)), .val (.ref n1_), .unset] [(.ref t50)]) := fun tq kq => g49 tq (st50.trans kq)
    have K52 := EQ50
    have g53 : Gz p.tables e below A T50 (mkF m 37 #[.val (.int p0), .val (.int p1), .val (.int iv), .val (.ref (w j)), .val (.ref n1_), .val (.ref t50)] []) := fun tq kq => g51 tq (XS.astore X50.here hx rfl (hb hby at_35) rfl rfl (l' := #[.val (.int p0), .val (.int p1), .val (.int iv), .val (.ref (w j)), .val (.ref n1_), .val (.ref t50)]) rfl kq)
    have g54 : Gz p.tables e below A T50 (mkF m 39 #[.val (.int p0), .val (.int p1), .val (.int iv), .val (.ref (w j)), .val (.ref n1_), .val (.ref t50)] [(.ref t50)]) := fun tq kq => g53 tq (XS.aload X50.here hx rfl (hb hby at_37) rfl rfl kq)
    obtain ⟨cq55, kq55, q55a, q55b, q55c⟩ := isOf hZ rfl EX50
    obtain ⟨_, _, ⟨T55, L55, k55, n55⟩, -, X55, ⟨Lc55, hQ55, l55, y55, z55⟩, st55⟩ := X50.virtualBack hx (y := (⟨"com/example/harborspread/harborspread/LegTerms", "product", "()Lcom/example/harborspread/harborspread/Product;"⟩ : MethodName)) (z := (⟨"com/example/harborspread/harborspread/LegTerms", "product", "()Lcom/example/harborspread/harborspread/Product;"⟩ : MethodName)) hown (mvT hZ (hw _ (List.mem_of_getElem? (i := 53) rfl))) (mvT hZ (hw _ (List.mem_of_getElem? (i := 54) rfl))) (notFace_of_selects (args := #[]) (mvT hZ (hw _ (List.mem_of_getElem? (i := 56) rfl)))) (mvT hZ (hw _ (List.mem_of_getElem? (i := 56) rfl))) (mvT hZ (hw _ (List.mem_of_getElem? (i := 55) rfl))) (by decide) (backOf (W := 0) (rm13 l Z a0 hw [] t50 (w j) T50.heap n0 (Nat.le_trans Z0 K52.1) FA50) hZ (hw _ (List.mem_of_getElem? (i := 57) rfl)) (hw _ (List.mem_of_getElem? (i := 13) rfl)) (by decide) (by decide)) q55a q55c (g := (mkF m 39 #[.val (.int p0), .val (.int p1), .val (.int iv), .val (.ref (w j)), .val (.ref n1_), .val (.ref t50)] [(.ref t50)])) rfl (by rw [hml]; rfl) (Steps.refl _) (argsL := []) (rest := []) (lenOf pd0_2 rfl) rfl (by show 2 * 0 + _ ≤ _; exact Nat.le_of_eq rfl) (hb hby at_39) (fun _ _ => ⟨rfl, rfl, (by decide : 7 + 0 ≤ _), (by decide : 107 + 0 ≤ _)⟩)
    dsimp only [Pt.U, Pt.locs, Pt.cells, Pt.slots] at X55 l55 y55 z55 st55 hQ55
    subst l55 y55 z55
    obtain ⟨rfl, N55q, e55⟩ := hQ55
    have N55 := Fr.app N50 N55q
    have g56 : Gz p.tables e below A T55 (mkF m 42 #[.val (.int p0), .val (.int p1), .val (.int iv), .val (.ref (w j)), .val (.ref n1_), .val (.ref t50)] [(.ref (w j))]) := fun tq kq => g54 tq (st55.trans kq)
    have g57 : Gz p.tables e below A T55 (mkF m 43 #[.val (.int p0), .val (.int p1), .val (.int iv), .val (.ref (w j)), .val (.ref n1_), .val (.ref t50)] [(.ref (w j)), (.ref (w j))]) := fun tq kq => g56 tq (XS.aloadN X55.here hx rfl (hb hby at_42) rfl rfl kq)
    have g58 : Gz p.tables e below A T55 (mkF m 48 #[.val (.int p0), .val (.int p1), .val (.int iv), .val (.ref (w j)), .val (.ref n1_), .val (.ref t50)] []) := fun tq kq => g57 tq (Jvm.RoadKit.acmp (g := (mkF m 43 #[.val (.int p0), .val (.int p1), .val (.int iv), .val (.ref (w j)), .val (.ref n1_), .val (.ref t50)] [(.ref (w j)), (.ref (w j))])) X55 hx rfl rfl rfl (pc0 := 43) (pc' := 48) (same := true) rfl (hb hby at_43) rfl (decide_eq_true rfl) (by decide) (by decide) kq)
    have g59 : Gz p.tables e below A T55 (mkF m 50 #[.val (.int p0), .val (.int p1), .val (.int iv), .val (.ref (w j)), .val (.ref n1_), .val (.ref t50)] [(.ref t50)]) := fun tq kq => g58 tq (XS.aload X55.here hx rfl (hb hby at_48) rfl rfl kq)
    obtain ⟨cq60, kq60, q60a, q60b, q60c⟩ := isOf hZ e55 EX50
    obtain ⟨_, _, ⟨T60, L60, k60, n60⟩, -, X60, ⟨Lc60, hQ60, l60, y60, z60⟩, st60⟩ := X55.virtualBack hx (y := (⟨"com/example/harborspread/harborspread/LegTerms", "nearby", "()Lcom/example/harborspread/harborspread/NearbyRule;"⟩ : MethodName)) (z := (⟨"com/example/harborspread/harborspread/LegTerms", "nearby", "()Lcom/example/harborspread/harborspread/NearbyRule;"⟩ : MethodName)) hown (mvT hZ (hw _ (List.mem_of_getElem? (i := 58) rfl))) (mvT hZ (hw _ (List.mem_of_getElem? (i := 59) rfl))) (notFace_of_selects (args := #[]) (mvT hZ (hw _ (List.mem_of_getElem? (i := 61) rfl)))) (mvT hZ (hw _ (List.mem_of_getElem? (i := 61) rfl))) (mvT hZ (hw _ (List.mem_of_getElem? (i := 60) rfl))) (by decide) (backOf (W := 0) (rm14 l Z a0 hw [] t50 n1_ T50.heap n0 (Nat.le_trans Z0 K52.1) FB50) hZ (hw _ (List.mem_of_getElem? (i := 62) rfl)) (hw _ (List.mem_of_getElem? (i := 13) rfl)) (by decide) (by decide)) q60a q60c (g := (mkF m 50 #[.val (.int p0), .val (.int p1), .val (.int iv), .val (.ref (w j)), .val (.ref n1_), .val (.ref t50)] [(.ref t50)])) rfl (by rw [hml]; rfl) (Steps.refl _) (argsL := []) (rest := []) (lenOf pd0_3 rfl) rfl (by show 2 * 0 + _ ≤ _; exact Nat.le_of_eq rfl) (hb hby at_50) (fun _ _ => ⟨rfl, e55, (by decide : 7 + 0 ≤ _), (by decide : 107 + 0 ≤ _)⟩)
    dsimp only [Pt.U, Pt.locs, Pt.cells, Pt.slots] at X60 l60 y60 z60 st60 hQ60
    subst l60 y60 z60
    obtain ⟨rfl, N60q, e60⟩ := hQ60
    have N60 := Fr.app N55 N60q
    have g61 : Gz p.tables e below A T60 (mkF m 53 #[.val (.int p0), .val (.int p1), .val (.int iv), .val (.ref (w j)), .val (.ref n1_), .val (.ref t50)] [(.ref n1_)]) := fun tq kq => g59 tq (st60.trans kq)
    have g62 : Gz p.tables e below A T60 (mkF m 55 #[.val (.int p0), .val (.int p1), .val (.int iv), .val (.ref (w j)), .val (.ref n1_), .val (.ref t50)] [(.ref n1_), (.ref n1_)]) := fun tq kq => g61 tq (XS.aload X60.here hx rfl (hb hby at_53) rfl rfl kq)
    have g63 : Gz p.tables e below A T60 (mkF m 60 #[.val (.int p0), .val (.int p1), .val (.int iv), .val (.ref (w j)), .val (.ref n1_), .val (.ref t50)] []) := fun tq kq => g62 tq (Jvm.RoadKit.acmp (g := (mkF m 55 #[.val (.int p0), .val (.int p1), .val (.int iv), .val (.ref (w j)), .val (.ref n1_), .val (.ref t50)] [(.ref n1_), (.ref n1_)])) X60 hx rfl rfl rfl (pc0 := 55) (pc' := 60) (same := true) rfl (hb hby at_55) rfl (decide_eq_true rfl) (by decide) (by decide) kq)
    have g64 : Gz p.tables e below A T60 (mkF m 62 #[.val (.int p0), .val (.int p1), .val (.int iv), .val (.ref (w j)), .val (.ref n1_), .val (.ref t50)] [(.ref t50)]) := fun tq kq => g63 tq (XS.aload X60.here hx rfl (hb hby at_60) rfl rfl kq)
    obtain ⟨E_pr, F_x, hx1, hx2, hin, hat, E_b, F_b⟩ := hI j hj
    obtain ⟨cq65, kq65, q65a, q65b, q65c⟩ := isOf hZ e60 EX50
    obtain ⟨_, _, ⟨T65, L65, k65, n65⟩, -, X65, ⟨Lc65, hQ65, l65, y65, z65⟩, st65⟩ := X60.virtualBack hx (y := (⟨"com/example/harborspread/harborspread/LegTerms", "valueScale", "()I"⟩ : MethodName)) (z := (⟨"com/example/harborspread/harborspread/LegTerms", "valueScale", "()I"⟩ : MethodName)) hown (mvT hZ (hw _ (List.mem_of_getElem? (i := 63) rfl))) (mvT hZ (hw _ (List.mem_of_getElem? (i := 64) rfl))) (notFace_of_selects (args := #[]) (mvT hZ (hw _ (List.mem_of_getElem? (i := 66) rfl)))) (mvT hZ (hw _ (List.mem_of_getElem? (i := 66) rfl))) (mvT hZ (hw _ (List.mem_of_getElem? (i := 65) rfl))) (by decide) (backOf (W := 0) (rm15 l Z a0 hw [] t50 em (w j) (own_sc j) ca clc (bx j) T50.heap n0 (Nat.le_trans Z0 K52.1) FC50 FA50 (F_em.ext K52) (E_em.ext K52) (S_E.ext K52) (E_pr.ext K52) (F_x.ext K52) (S_H.ext K52) (S_C.ext K52) (A_c.ext K52) hx1 hx2 hin hat (E_b.ext K52) (F_b.ext K52)) hZ (hw _ (List.mem_of_getElem? (i := 67) rfl)) (hw _ (List.mem_of_getElem? (i := 13) rfl)) (by decide) (by decide)) q65a q65c (g := (mkF m 62 #[.val (.int p0), .val (.int p1), .val (.int iv), .val (.ref (w j)), .val (.ref n1_), .val (.ref t50)] [(.ref t50)])) rfl (by rw [hml]; rfl) (Steps.refl _) (argsL := []) (rest := []) (lenOf pd0_4 rfl) rfl (by show 2 * 0 + _ ≤ _; exact Nat.le_of_eq rfl) (hb hby at_62) (fun _ _ => ⟨rfl, e60, (by decide : 7 + 0 ≤ _), (by decide : 107 + 0 ≤ _)⟩)
    dsimp only [Pt.U, Pt.locs, Pt.cells, Pt.slots] at X65 l65 y65 z65 st65 hQ65
    subst l65 y65 z65
    obtain ⟨rfl, N65q, e65⟩ := hQ65
    have N65 := Fr.app N60 N65q
    have g66 : Gz p.tables e below A T65 (mkF m 65 #[.val (.int p0), .val (.int p1), .val (.int iv), .val (.ref (w j)), .val (.ref n1_), .val (.ref t50)] [(.int (own_sc j))]) := fun tq kq => g64 tq (st65.trans kq)
    have g67 : Gz p.tables e below A T65 (mkF m 66 #[.val (.int p0), .val (.int p1), .val (.int iv), .val (.ref (w j)), .val (.ref n1_), .val (.ref t50)] [(.int iv), (.int (own_sc j))]) := fun tq kq => g66 tq (XS.iloadN X65.here hx rfl (hb hby at_65) rfl kq)
    obtain ⟨_, _, ⟨T68, L68, k68, n68⟩, -, X68, ⟨Lc68, hQ68, l68, y68, z68⟩, st68⟩ := Jvm.LawKit.callS X65 hx (y := (⟨"com/example/harborspread/harborspread/LegTermsAsSettledPinLaw", "expectedScale", "(I)I"⟩ : MethodName)) hown (mvT hZ (hw _ (List.mem_of_getElem? (i := 115) rfl))) (mvT hZ (hw _ (List.mem_of_getElem? (i := 116) rfl))) (mvT hZ (hw _ (List.mem_of_getElem? (i := 3) rfl))) (mvT hZ (hw _ (List.mem_of_getElem? (i := 117) rfl))) (by decide) (backOf (W := 1) (rm2 l Z a0 hw [] iv j T50.heap n0 (Nat.le_trans Z0 K52.1) hij) hZ (hw _ (List.mem_of_getElem? (i := 117) rfl)) (hw _ (List.mem_of_getElem? (i := 3) rfl)) (by decide) (by decide)) (g := (mkF m 66 #[.val (.int p0), .val (.int p1), .val (.int iv), .val (.ref (w j)), .val (.ref n1_), .val (.ref t50)] [(.int iv), (.int (own_sc j))])) rfl (by rw [hml]; rfl) (argsL := [(.int iv)]) (rest := [(.int (own_sc j))]) (lenOf pd0_5 rfl) rfl (by show 2 * 0 + _ ≤ _; exact Nat.le_of_eq rfl) (hb hby at_66) (fun _ _ => ⟨rfl, e65, (by decide : 7 + 0 ≤ _), (by decide : 107 + 0 ≤ _)⟩)
    dsimp only [Pt.U, Pt.locs, Pt.cells, Pt.slots] at X68 l68 y68 z68 st68 hQ68
    subst l68 y68 z68
    obtain ⟨rfl, N68q, e68⟩ := hQ68
    have N68 := Fr.app N65 N68q
    have g69 : Gz p.tables e below A T68 (mkF m 69 #[.val (.int p0), .val (.int p1), .val (.int iv), .val (.ref (w j)), .val (.ref n1_), .val (.ref t50)] [(.int (own_sc j)), (.int (own_sc j))]) := fun tq kq => g67 tq (st68 _ kq)
    have g70 : Gz p.tables e below A T68 (mkF m 72 #[.val (.int p0), .val (.int p1), .val (.int iv), .val (.ref (w j)), .val (.ref n1_), .val (.ref t50)] []) := fun tq kq => g69 tq (XS.icmpNo X68.here hx rfl (hb hby at_69) rfl (teq rfl).2 kq)
    have g71 : Gz p.tables e below A T68 (mkF m 73 #[.val (.int p0), .val (.int p1), .val (.int iv), .val (.ref (w j)), .val (.ref n1_), .val (.ref t50)] [(.int (1 : Int32))]) := fun tq kq => g70 tq (XS.iconst X68.here hx rfl (hb hby at_72) kq)
    have g72 : Gz p.tables e below A T68 (mkF m 77 #[.val (.int p0), .val (.int p1), .val (.int iv), .val (.ref (w j)), .val (.ref n1_), .val (.ref t50)] [(.int (1 : Int32))]) := fun tq kq => g71 tq (XS.goto X68.here hx rfl (pc0 := 73) (pc' := 77) rfl (hb hby at_73) (by decide) (by decide) kq)
    obtain ⟨fs, hr, hrun, hended, hend⟩ := Stand.leaveW (s := s) X68 hS50 (by rw [e68]; exact hk50) (v := some (.int (1 : Int32))) (fun h => by rw [Bd.returns] at h; cases h)
    refine ⟨_, _, g72 _ (retN X68 hx (t := .boolean) Bd.returns (by simp) (hb hby at_77) hr), hrun, hended, _, _, rfl, ?_, hend.1, hend.2.1, hend.2.2.1, hend.2.2.2.mono (by decide) (by decide)⟩
    show Q0 Z p0 p1 iv w n0_ n1_ em ca clc bx h0 n0 _ T68.heap _
    rw [e68]
    exact ⟨rfl, N68⟩

set_option maxRecDepth 65536 in
set_option maxHeartbeats 40000000 in
theorem comes_1 {Post : Tables → Env → Array Value → State → Outcome → State → Prop} (hpost : ∀ tb e args s v u, (limb_1_1.after args s (.returned v) u = true ∧ limb_1_2.after args s (.returned v) u = true ∧ True) → ReturnedEndW s (.returned v) u (Jvm.fieldLocs frame_1_writes args s ++ Jvm.arrayLocs frame_1_arrays args s ++ Jvm.staticLocs frame_1_statics s) 16 3200 → Post tb e args s (.returned v) u) :
    ArmFor flags0 classFile x code maxLocals ret World_1 tables_1 room_1 Calls_1 rest_1 Pre_1 Post := by
  intro l hfl _ _ p e ha hc hk s m args below hf hA hF happ hP
  obtain ⟨hcalls, hrest, hpre⟩ := hP
  obtain ⟨-, -, -, hnamed, -, -, -, hat⟩ := (Spec.applies_iff hf).mp happ
  obtain ⟨hg, hn⟩ := and_e (Cond.before_iff.mp (show (Jvm.Cond.and given_1 narrow_1).before args s = true from hpre))
  obtain ⟨hcnt, hg⟩ := and_e hg
  obtain ⟨ga0, hg⟩ := and_e hg
  have ga1 := hg
  obtain ⟨w0, w1, rfl⟩ : ∃ w0 w1 : Value, args = #[w0, w1] := by
    have hs : args.size = 2 := by simpa [Cond.value, given_1] using hcnt
    obtain ⟨L⟩ := args
    match L, hs with
    | [w0, w1], _ => exact ⟨w0, w1, rfl⟩
  have hw := fun d (hd : d ∈ tables_1) => atoms_spec (ws := Jvm.Cond.code x code maxLocals ret :: tables_1) hat d (List.mem_cons_of_mem _ hd)
  have hfit : Fit s := fun {y c} hc i hi => by
    obtain ⟨ha, rfl⟩ := Array.getElem?_eq_some_iff.mp hc
    have q := List.all_eq_true.mp ((Array.all_eq_true_iff_forall_mem.mp hF) _ (Array.getElem_mem ha)) i (List.mem_range.mpr hi)
    simpa [Array.getElem?_eq_getElem hi] using q
  obtain ⟨hsets, hown0⟩ := atoms_of _ (rest_1_c_eq ▸ (show rest_1_c.before _ s = true from hrest))
  obtain ⟨i0, ei0⟩ := is_v ga0
  obtain rfl : w0 = (.int i0) := Option.some.inj ei0
  obtain ⟨i1, ei1⟩ := is_v ga1
  obtain rfl : w1 = (.int i1) := Option.some.inj ei1
  obtain ⟨c0, hn⟩ := and_e hn
  obtain ⟨c1, hn⟩ := and_e hn
  obtain ⟨c2, hn⟩ := and_e hn
  obtain ⟨c3, hn⟩ := and_e hn
  obtain ⟨c4, hn⟩ := and_e hn
  obtain ⟨c5, hn⟩ := and_e hn
  obtain ⟨c6, hn⟩ := and_e hn
  have c7 := hn
  obtain ⟨w_ULSD, ev_ULSD⟩ := exa_v c0
  have E_ULSD := Exa.start ev_ULSD c0
  have S_ULSD : Sta s s.heap "com/example/harborspread/harborspread/Product" "ULSD" "Lcom/example/harborspread/harborspread/Product;" (.ref w_ULSD) := Sta.start ev_ULSD (Or.inr ⟨(hw _ (List.mem_of_getElem? (i := 6) rfl)), (hw _ (List.mem_of_getElem? (i := 7) rfl))⟩)
  obtain ⟨w_SECOND_NEARBY_ON_LAST_TRADING_DAY, ev_SECOND_NEARBY_ON_LAST_TRADING_DAY⟩ := exa_v c1
  have E_SECOND_NEARBY_ON_LAST_TRADING_DAY := Exa.start ev_SECOND_NEARBY_ON_LAST_TRADING_DAY c1
  have S_SECOND_NEARBY_ON_LAST_TRADING_DAY : Sta s s.heap "com/example/harborspread/harborspread/NearbyRule" "SECOND_NEARBY_ON_LAST_TRADING_DAY" "Lcom/example/harborspread/harborspread/NearbyRule;" (.ref w_SECOND_NEARBY_ON_LAST_TRADING_DAY) := Sta.start ev_SECOND_NEARBY_ON_LAST_TRADING_DAY (Or.inr ⟨(hw _ (List.mem_of_getElem? (i := 9) rfl)), (hw _ (List.mem_of_getElem? (i := 10) rfl))⟩)
  obtain ⟨w_BRENT, ev_BRENT⟩ := exa_v c3
  have E_BRENT := Exa.start ev_BRENT c3
  have S_BRENT : Sta s s.heap "com/example/harborspread/harborspread/Product" "BRENT" "Lcom/example/harborspread/harborspread/Product;" (.ref w_BRENT) := Sta.start ev_BRENT (Or.inr ⟨(hw _ (List.mem_of_getElem? (i := 6) rfl)), (hw _ (List.mem_of_getElem? (i := 119) rfl))⟩)
  obtain ⟨w_FIRST_NEARBY, ev_FIRST_NEARBY⟩ := exa_v c5
  have E_FIRST_NEARBY := Exa.start ev_FIRST_NEARBY c5
  have S_FIRST_NEARBY : Sta s s.heap "com/example/harborspread/harborspread/NearbyRule" "FIRST_NEARBY" "Lcom/example/harborspread/harborspread/NearbyRule;" (.ref w_FIRST_NEARBY) := Sta.start ev_FIRST_NEARBY (Or.inr ⟨(hw _ (List.mem_of_getElem? (i := 9) rfl)), (hw _ (List.mem_of_getElem? (i := 121) rfl))⟩)
  obtain ⟨w_LSGASOIL, ev_LSGASOIL⟩ := exa_v c6
  have E_LSGASOIL := Exa.start ev_LSGASOIL c6
  have S_LSGASOIL : Sta s s.heap "com/example/harborspread/harborspread/Product" "LSGASOIL" "Lcom/example/harborspread/harborspread/Product;" (.ref w_LSGASOIL) := Sta.start ev_LSGASOIL (Or.inr ⟨(hw _ (List.mem_of_getElem? (i := 6) rfl)), (hw _ (List.mem_of_getElem? (i := 123) rfl))⟩)
  have F_ULSD_priceScale := own_fldI c2 ev_ULSD
  have F_BRENT_priceScale := own_fldI c4 ev_BRENT
  have F_LSGASOIL_priceScale := own_fldI c7 ev_LSGASOIL
  obtain ⟨em, ev_em⟩ := exa_v (Cond.before_iff.mp (hsets _ (List.mem_of_getElem? (i := 2) rfl)))
  have E_em := Exa.start ev_em (Cond.before_iff.mp (hsets _ (List.mem_of_getElem? (i := 2) rfl)))
  have F_em := own_fldN (Cond.before_iff.mp (hsets _ (List.mem_of_getElem? (i := 3) rfl))) ev_em
  have S_E : Sta s s.heap "java/util/Optional" "EMPTY" "Ljava/util/Optional;" (.ref em) := Sta.start ev_em (Or.inl (hsets _ (List.mem_of_getElem? (i := 1) rfl)))
  have S_H : Sta s s.heap "java/lang/Integer$IntegerCache" "high" "I" (.int 127) := Sta.start (own_eqI (Cond.before_iff.mp (hsets _ (List.mem_of_getElem? (i := 7) rfl)))) (Or.inl (hsets _ (List.mem_of_getElem? (i := 5) rfl)))
  obtain ⟨ca, ev_ca⟩ := exa_v (Cond.before_iff.mp (hsets _ (List.mem_of_getElem? (i := 9) rfl)))
  have S_C : Sta s s.heap "java/lang/Integer$IntegerCache" "cache" "[Ljava/lang/Integer;" (.ref ca) := Sta.start ev_ca (Or.inr ⟨(hw _ (List.mem_of_getElem? (i := 99) rfl)), (hsets _ (List.mem_of_getElem? (i := 6) rfl))⟩)
  obtain ⟨clc, A_c⟩ := Arr.start ev_ca (Cond.before_iff.mp (hsets _ (List.mem_of_getElem? (i := 8) rfl)))
  have hatc := Arr.fin (Vm.Alike.refl _) A_c
  obtain ⟨hszc, hlenc⟩ := own_len (own_eqI (Cond.before_iff.mp (hsets _ (List.mem_of_getElem? (i := 10) rfl)))) ev_ca hatc
  have hsz256 : clc.slots.size = 256 := own_size hszc hlenc (by decide)
  have hall := Cond.all_elim ev_ca hatc (Cond.before_iff.mp (hsets _ (List.mem_of_getElem? (i := 11) rfl)))
  obtain ⟨x132, y132⟩ := and_e (hall 132 (by omega))
  obtain ⟨b132, eb132⟩ := exa_v x132
  have E_b132 := exa_at eb132 x132
  have F_b132 : Fld s s.heap b132 "java/lang/Integer" "value" "I" (.int 4) := own_fldI2 y132 eb132 rfl
  have hei132 := elem_in eb132 (show (Term.static "java/lang/Integer$IntegerCache" "cache" "[Ljava/lang/Integer;").eval _ s none [132] s = some (.ref ca) from ev_ca) (idx_at (j := (132 : Int32)) (by decide)) A_c.1
  obtain ⟨x130, y130⟩ := and_e (hall 130 (by omega))
  obtain ⟨b130, eb130⟩ := exa_v x130
  have E_b130 := exa_at eb130 x130
  have F_b130 : Fld s s.heap b130 "java/lang/Integer" "value" "I" (.int 2) := own_fldI2 y130 eb130 rfl
  have hei130 := elem_in eb130 (show (Term.static "java/lang/Integer$IntegerCache" "cache" "[Ljava/lang/Integer;").eval _ s none [130] s = some (.ref ca) from ev_ca) (idx_at (j := (130 : Int32)) (by decide)) A_c.1
  have hI : ∀ j, j < 3 → Exa s s.heap ((fun k => [w_ULSD, w_LSGASOIL, w_BRENT].getD k 0) j) "com/example/harborspread/harborspread/Product" ∧ Fld s s.heap ((fun k => [w_ULSD, w_LSGASOIL, w_BRENT].getD k 0) j) "com/example/harborspread/harborspread/Product" "priceScale" "I" (.int (own_sc j)) ∧ ¬ (own_sc j < (-128 : Int32)) ∧ ¬ ((127 : Int32) < own_sc j) ∧ ¬ ((own_sc j + (128 : Int32)) < 0 ∨ clc.slots.size ≤ (own_sc j + (128 : Int32)).toNatClampNeg) ∧ clc.slots[(own_sc j + (128 : Int32)).toNatClampNeg]? = some (.ref ((fun k => [b132, b130, b130].getD k 0) j)) ∧ Exa s s.heap ((fun k => [b132, b130, b130].getD k 0) j) "java/lang/Integer" ∧ Fld s s.heap ((fun k => [b132, b130, b130].getD k 0) j) "java/lang/Integer" "value" "I" (.int (own_sc j)) := by
    intro j hj
    match j, hj with
    | 0, _ => exact ⟨E_ULSD, F_ULSD_priceScale, by decide, by decide, hei132.1, hei132.2, E_b132, F_b132⟩
    | 1, _ => exact ⟨E_LSGASOIL, F_LSGASOIL_priceScale, by decide, by decide, hei130.1, hei130.2, E_b130, F_b130⟩
    | 2, _ => exact ⟨E_BRENT, F_BRENT_priceScale, by decide, by decide, hei130.1, hei130.2, E_b130, F_b130⟩
    | j + 3, hj => exact absurd hj (by omega)
  have hr := own_rem i0 3 3 (by decide) (by decide)
  have wS : ∀ a ∈ Bundle.stringAtoms, a.before #[Value.int i0, Value.int i1] s = true := by
    intro a ha
    simp only [Bundle.stringAtoms, List.mem_cons, List.not_mem_nil, or_false] at ha
    rcases ha with rfl | rfl | rfl | rfl | rfl | rfl | rfl
    · exact hw _ (List.mem_of_getElem? (i := 34) rfl)
    · exact hw _ (List.mem_of_getElem? (i := 35) rfl)
    · exact hw _ (List.mem_of_getElem? (i := 36) rfl)
    · exact hw _ (List.mem_of_getElem? (i := 37) rfl)
    · exact hw _ (List.mem_of_getElem? (i := 38) rfl)
    · exact hw _ (List.mem_of_getElem? (i := 39) rfl)
    · exact hw _ (List.mem_of_getElem? (i := 40) rfl)
  obtain ⟨n, o, h1, h2, h3, _, L, rfl, ⟨rfl, N⟩, hq⟩ := rm0 l s _ hw tables_1 i0 i1 _ (fun k => [w_ULSD, w_LSGASOIL, w_BRENT].getD k 0) w_FIRST_NEARBY w_SECOND_NEARBY_ON_LAST_TRADING_DAY em ca clc (fun k => [b132, b130, b130].getD k 0) s.heap s.heap.size (Nat.le_refl _) rfl hr.1 hr.2 S_ULSD S_LSGASOIL S_BRENT S_FIRST_NEARBY S_SECOND_NEARBY_ON_LAST_TRADING_DAY S_E E_em F_em S_H S_C A_c hI wS p e ha hc hk s m _ below hf ((Spec.applies_iff_loose hf).mp happ).1 ⟨rfl, State.Warmed39.refl s, rfl⟩ trivial
  refine ⟨n, _, h1, h2, h3, hpost _ _ _ _ _ _ ⟨Cond.after_iff.mpr rfl, Cond.after_iff.mpr (eq_i res_at (Term.int_eval (1)) rfl), trivial⟩ ⟨hq.1, hq.2.1, hq.2.2.1, (hq.2.2.2.sift fun y hy => Or.inr (N y hy)).mono (by decide) (by decide)⟩⟩
theorem main_1_1 : Claimed_1_1 := comes_1 fun _ _ _ _ _ _ h hF => ⟨h.1, hF⟩
theorem main_1_2 : Claimed_1_2 := comes_1 fun _ _ _ _ _ _ h hF => ⟨h.2.1, hF⟩
end Jvm.Pilot.@@N@@
namespace Jvm.Pilot.@@N@@
open Jvm Jvm.ClassFile Sem Op Lib Jvm.Free Jvm.Stand Jvm.Pilot.@@N@@.Jvm.D
/-! MADE BY PROGRAM (witnessworld.py) out of the Statement's table words and the real class files: 28 classes; the members and pool entries that the words name. The judged class is class 1, her method 3. -/
namespace start1
open Jvm.ClassFile
def u (s : String) : CpInfo := .utf8 (stringToUtf16 s)
/-- a pool by its gaps: so many unusable entries, then the entry; so many at the end -/
def gap : Nat → List CpInfo → List CpInfo
  | 0, r => r
  | n + 1, r => .unusable :: gap n r
def poolList (es : List (Nat × CpInfo)) (last : Nat) : List CpInfo := es.foldr (fun e r => gap e.1 (e.2 :: r)) (gap last [])
def pool (es : List (Nat × CpInfo)) (last : Nat) : Array CpInfo := ⟨poolList es last⟩
def fileOf (pool : Array CpInfo) (this : Nat) (attrs : Array Attribute := #[]) (ms : Array MethodInfo := #[]) (fl : Nat := 33) (sup : Nat := 0) (ifs : Array Nat := #[]) (fds : Array FieldInfo := #[]) : ClassFile where
  minorVersion := 0
  majorVersion := 65
  constantPool := pool
  accessFlags := fl
  thisClass := this
  superClass := sup
  interfaces := ifs
  fields := fds
  methods := ms
  attributes := attrs
def plain (name : String) (sup : Option ClassId) : Class where
  name := name
  kind := .ordinary
  loader := none
  accessFlags := 33
  super := sup
  interfaces := #[]
  cf := none
  fields := #[]
  methods := #[]
  instanceTypes := #[]
  staticTypes := #[]
  resolved := #[]
  callSites := []
  init := .initialized
  statics := none
  mirror := none

def pool0 : Array CpInfo := pool [(5, u "<init>"), (0, u "()V"), (1, .class_ 10), (1, u "java/lang/Object")] 113

def k0c0 : Code := { maxStack := 0, maxLocals := 1, code := object_method_1_code, exceptionTable := #[], attributes := #[] }
def k0m0 : Method := { name := "<init>", desc := "()V", sig := { parameters := [], returnType := none }, accessFlags := 1, code := some k0c0 }
/-- java/lang/Object -/
def k0 : Class := { plain "java/lang/Object" none with
  accessFlags := 33
  interfaces := #[]
  cf := some (fileOf pool0 8 #[] #[{ accessFlags := 1, nameIndex := 5, descriptorIndex := 6, attributes := #[] }] 33 0 #[] #[])
  fields := #[]
  methods := #[k0m0]
  instanceTypes := #[]
  staticTypes := #[]
  resolved := Array.replicate 124 none
  statics := none }

def pool1 : Array CpInfo := pool [(2, .class_ 4), (1, u "java/lang/Object"), (0, u "<init>"), (0, u "()V"), (0, .fieldref 8 9), (0, .class_ 10), (0, .nameAndType 11 12), (0, u "com/example/harborspread/harborspread/Product"), (0, u "ULSD"), (0, u "Lcom/example/harborspread/harborspread/Product;"), (0, .fieldref 8 14), (0, .nameAndType 15 12), (0, u "LSGASOIL"), (0, .fieldref 8 17), (0, .nameAndType 18 12), (0, u "BRENT"), (0, .integer 2147483647), (0, .methodref 21 22), (0, .class_ 23), (0, .nameAndType 24 25), (0, u "com/example/harborspread/harborspread/LegTermsAsSettledPinLaw"), (0, u "product"), (0, u "(I)Lcom/example/harborspread/harborspread/Product;"), (0, .fieldref 27 28), (0, .class_ 29), (0, .nameAndType 30 31), (0, u "com/example/harborspread/harborspread/NearbyRule"), (0, u "SECOND_NEARBY_ON_LAST_TRADING_DAY"), (0, u "Lcom/example/harborspread/harborspread/NearbyRule;"), (0, .fieldref 27 33), (0, .nameAndType 34 31), (0, u "FIRST_NEARBY"), (0, .methodref 36 37), (0, .class_ 38), (0, .nameAndType 39 40), (0, u "com/example/harborspread/harborspread/LegTerms"), (0, u "asSettled"), (0, u "(Lcom/example/harborspread/harborspread/Product;Lcom/example/harborspread/harborspread/NearbyRule;)Lcom/example/harborspread/harborspread/LegTerms;"), (0, .methodref 36 42), (0, .nameAndType 24 43), (0, u "()Lcom/example/harborspread/harborspread/Product;"), (0, .methodref 36 45), (0, .nameAndType 46 47), (0, u "nearby"), (0, u "()Lcom/example/harborspread/harborspread/NearbyRule;"), (0, .methodref 36 49), (0, .nameAndType 50 51), (0, u "valueScale"), (0, u "()I"), (0, .methodref 21 53), (0, .nameAndType 54 55), (0, u "expectedScale"), (0, u "(I)I"), (3, u "law"), (0, u "(II)Z")] 2

def k1m0 : Method := { name := "<init>", desc := "()V", sig := { parameters := [], returnType := none }, accessFlags := 2, code := none }
def k1c1 : Code := { maxStack := 2, maxLocals := 1, code := method_2_code, exceptionTable := #[], attributes := #[] }
def k1m1 : Method := { name := "product", desc := "(I)Lcom/example/harborspread/harborspread/Product;", sig := { parameters := [.int], returnType := some (.object "com/example/harborspread/harborspread/Product") }, accessFlags := 10, code := some k1c1 }
def k1c2 : Code := { maxStack := 1, maxLocals := 1, code := method_3_code, exceptionTable := #[], attributes := #[] }
def k1m2 : Method := { name := "expectedScale", desc := "(I)I", sig := { parameters := [.int], returnType := some .int }, accessFlags := 10, code := some k1c2 }
def k1c3 : Code := { maxStack := 2, maxLocals := 6, code := code, exceptionTable := #[], attributes := #[] }
def k1m3 : Method := { name := "law", desc := "(II)Z", sig := { parameters := [.int, .int], returnType := some .boolean }, accessFlags := 9, code := some k1c3 }
/-- com/example/harborspread/harborspread/LegTermsAsSettledPinLaw -/
def k1 : Class := { plain "com/example/harborspread/harborspread/LegTermsAsSettledPinLaw" (some 0) with
  accessFlags := 49
  interfaces := #[]
  cf := some (fileOf pool1 21 #[] #[{ accessFlags := 2, nameIndex := 5, descriptorIndex := 6, attributes := #[] }, { accessFlags := 10, nameIndex := 24, descriptorIndex := 25, attributes := #[] }, { accessFlags := 10, nameIndex := 54, descriptorIndex := 55, attributes := #[] }, { accessFlags := 9, nameIndex := 59, descriptorIndex := 60, attributes := #[] }] 49 2 #[] #[])
  fields := #[]
  methods := #[k1m0, k1m1, k1m2, k1m3]
  instanceTypes := #[]
  staticTypes := #[]
  resolved := Array.replicate 63 none
  statics := none }

def pool2 : Array CpInfo := pool [(1, .class_ 2), (0, u "java/lang/constant/Constable"), (0, .class_ 4), (0, u "java/lang/Object")] 6

/-- java/lang/constant/Constable -/
def k2 : Class := { plain "java/lang/constant/Constable" (some 0) with
  accessFlags := 1537
  interfaces := #[]
  cf := some (fileOf pool2 1 #[] #[] 1537 3 #[] #[])
  fields := #[]
  methods := #[]
  instanceTypes := #[]
  staticTypes := #[]
  resolved := Array.replicate 11 none
  statics := none }

def pool3 : Array CpInfo := pool [(1, .class_ 2), (0, u "java/lang/Comparable"), (0, .class_ 4), (0, u "java/lang/Object")] 7

/-- java/lang/Comparable -/
def k3 : Class := { plain "java/lang/Comparable" (some 0) with
  accessFlags := 1537
  interfaces := #[]
  cf := some (fileOf pool3 1 #[] #[] 1537 3 #[] #[])
  fields := #[]
  methods := #[]
  instanceTypes := #[]
  staticTypes := #[]
  resolved := Array.replicate 12 none
  statics := none }

def pool4 : Array CpInfo := pool [(1, .class_ 2), (0, u "java/io/Serializable"), (0, .class_ 4), (0, u "java/lang/Object")] 2

/-- java/io/Serializable -/
def k4 : Class := { plain "java/io/Serializable" (some 0) with
  accessFlags := 1537
  interfaces := #[]
  cf := some (fileOf pool4 1 #[] #[] 1537 3 #[] #[])
  fields := #[]
  methods := #[]
  instanceTypes := #[]
  staticTypes := #[]
  resolved := Array.replicate 7 none
  statics := none }

def pool5 : Array CpInfo := pool [(2, .class_ 4), (1, u "java/lang/Enum"), (0, u "name"), (0, u "Ljava/lang/String;"), (2, u "ordinal"), (0, u "I"), (1, .class_ 14), (1, u "java/lang/Object"), (4, u "hash"), (86, .class_ 108), (1, u "java/lang/Enum$EnumDesc"), (2, .class_ 112), (0, u "java/lang/constant/Constable"), (0, .class_ 114), (0, u "java/lang/Comparable"), (0, .class_ 116), (0, u "java/io/Serializable")] 87

/-- java/lang/Enum -/
def k5 : Class := { plain "java/lang/Enum" (some 0) with
  accessFlags := 1057
  interfaces := #[2, 3, 4]
  cf := some (fileOf pool5 2 #[.nestMembers #[106]] #[] 1057 12 #[111, 113, 115] #[{ accessFlags := 18, nameIndex := 5, descriptorIndex := 6, attributes := #[] }, { accessFlags := 18, nameIndex := 9, descriptorIndex := 10, attributes := #[] }, { accessFlags := 2, nameIndex := 19, descriptorIndex := 10, attributes := #[] }])
  fields := #[{ name := "name", type := (.object "java/lang/String"), accessFlags := 18, slot := 0, constantValue := 0 }, { name := "ordinal", type := .int, accessFlags := 18, slot := 1, constantValue := 0 }, { name := "hash", type := .int, accessFlags := 2, slot := 2, constantValue := 0 }]
  methods := #[]
  instanceTypes := #[(.object "java/lang/String"), .int, .int]
  staticTypes := #[]
  resolved := Array.replicate 204 none
  statics := none }

def pool6 : Array CpInfo := pool [(10, .class_ 12), (1, u "com/example/harborspread/harborspread/Coded"), (48, .class_ 62), (0, u "java/lang/Object")] 24

/-- com/example/harborspread/harborspread/Coded -/
def k6 : Class := { plain "com/example/harborspread/harborspread/Coded" (some 0) with
  accessFlags := 1536
  interfaces := #[]
  cf := some (fileOf pool6 10 #[] #[] 1536 61 #[] #[])
  fields := #[]
  methods := #[]
  instanceTypes := #[]
  staticTypes := #[]
  resolved := Array.replicate 87 none
  statics := none }

def pool7 : Array CpInfo := pool [(1, .class_ 2), (0, u "com/example/harborspread/harborspread/Product"), (2, u "ULSD"), (0, u "Lcom/example/harborspread/harborspread/Product;"), (2, u "LSGASOIL"), (2, u "BRENT"), (2, u "$VALUES"), (0, u "[Lcom/example/harborspread/harborspread/Product;"), (6, .class_ 25), (1, u "java/lang/Enum"), (8, u "code"), (0, u "Ljava/lang/String;"), (2, u "calendar"), (0, u "Lcom/example/harborspread/harborspread/CalendarName;"), (0, .fieldref 1 41), (0, .nameAndType 42 43), (0, u "priceScale"), (0, u "I"), (2, u "tick"), (0, u "Ljava/util/Optional;"), (35, .class_ 84), (0, u "com/example/harborspread/harborspread/Coded"), (10, u "()I")] 6

def k7c0 : Code := { maxStack := 1, maxLocals := 1, code := prog_63_method_6_code, exceptionTable := #[], attributes := #[] }
def k7m0 : Method := { name := "priceScale", desc := "()I", sig := { parameters := [], returnType := some .int }, accessFlags := 1, code := some k7c0 }
/-- com/example/harborspread/harborspread/Product -/
def k7 : Class := { plain "com/example/harborspread/harborspread/Product" (some 5) with
  accessFlags := 16433
  interfaces := #[6]
  cf := some (fileOf pool7 1 #[] #[{ accessFlags := 1, nameIndex := 42, descriptorIndex := 95, attributes := #[] }] 16433 23 #[83] #[{ accessFlags := 16409, nameIndex := 5, descriptorIndex := 6, attributes := #[] }, { accessFlags := 16409, nameIndex := 9, descriptorIndex := 6, attributes := #[] }, { accessFlags := 16409, nameIndex := 12, descriptorIndex := 6, attributes := #[] }, { accessFlags := 18, nameIndex := 34, descriptorIndex := 35, attributes := #[] }, { accessFlags := 18, nameIndex := 38, descriptorIndex := 39, attributes := #[] }, { accessFlags := 18, nameIndex := 42, descriptorIndex := 43, attributes := #[] }, { accessFlags := 18, nameIndex := 46, descriptorIndex := 47, attributes := #[] }, { accessFlags := 4122, nameIndex := 15, descriptorIndex := 16, attributes := #[] }])
  fields := #[{ name := "ULSD", type := (.object "com/example/harborspread/harborspread/Product"), accessFlags := 16409, slot := 0, constantValue := 0 }, { name := "LSGASOIL", type := (.object "com/example/harborspread/harborspread/Product"), accessFlags := 16409, slot := 1, constantValue := 0 }, { name := "BRENT", type := (.object "com/example/harborspread/harborspread/Product"), accessFlags := 16409, slot := 2, constantValue := 0 }, { name := "code", type := (.object "java/lang/String"), accessFlags := 18, slot := 3, constantValue := 0 }, { name := "calendar", type := (.object "com/example/harborspread/harborspread/CalendarName"), accessFlags := 18, slot := 4, constantValue := 0 }, { name := "priceScale", type := .int, accessFlags := 18, slot := 5, constantValue := 0 }, { name := "tick", type := (.object "java/util/Optional"), accessFlags := 18, slot := 6, constantValue := 0 }, { name := "$VALUES", type := (.array (.object "com/example/harborspread/harborspread/Product")), accessFlags := 4122, slot := 3, constantValue := 0 }]
  methods := #[k7m0]
  instanceTypes := #[(.object "java/lang/String"), .int, .int, (.object "java/lang/String"), (.object "com/example/harborspread/harborspread/CalendarName"), .int, (.object "java/util/Optional")]
  staticTypes := #[(.object "com/example/harborspread/harborspread/Product"), (.object "com/example/harborspread/harborspread/Product"), (.object "com/example/harborspread/harborspread/Product"), (.array (.object "com/example/harborspread/harborspread/Product"))]
  resolved := Array.replicate 102 none
  statics := some 0 }

def pool8 : Array CpInfo := pool [(1, .class_ 2), (0, u "com/example/harborspread/harborspread/NearbyRule"), (2, u "FIRST_NEARBY"), (0, u "Lcom/example/harborspread/harborspread/NearbyRule;"), (2, u "SECOND_NEARBY_ON_LAST_TRADING_DAY"), (2, u "$VALUES"), (0, u "[Lcom/example/harborspread/harborspread/NearbyRule;"), (6, .class_ 22), (1, u "java/lang/Enum")] 24

/-- com/example/harborspread/harborspread/NearbyRule -/
def k8 : Class := { plain "com/example/harborspread/harborspread/NearbyRule" (some 5) with
  accessFlags := 16433
  interfaces := #[]
  cf := some (fileOf pool8 1 #[] #[] 16433 20 #[] #[{ accessFlags := 16409, nameIndex := 5, descriptorIndex := 6, attributes := #[] }, { accessFlags := 16409, nameIndex := 9, descriptorIndex := 6, attributes := #[] }, { accessFlags := 4122, nameIndex := 12, descriptorIndex := 13, attributes := #[] }])
  fields := #[{ name := "FIRST_NEARBY", type := (.object "com/example/harborspread/harborspread/NearbyRule"), accessFlags := 16409, slot := 0, constantValue := 0 }, { name := "SECOND_NEARBY_ON_LAST_TRADING_DAY", type := (.object "com/example/harborspread/harborspread/NearbyRule"), accessFlags := 16409, slot := 1, constantValue := 0 }, { name := "$VALUES", type := (.array (.object "com/example/harborspread/harborspread/NearbyRule")), accessFlags := 4122, slot := 2, constantValue := 0 }]
  methods := #[]
  instanceTypes := #[(.object "java/lang/String"), .int, .int]
  staticTypes := #[(.object "com/example/harborspread/harborspread/NearbyRule"), (.object "com/example/harborspread/harborspread/NearbyRule"), (.array (.object "com/example/harborspread/harborspread/NearbyRule"))]
  resolved := Array.replicate 47 none
  statics := some 1 }

def pool9 : Array CpInfo := pool [(1, .methodref 2 3), (0, .class_ 4), (0, .nameAndType 5 6), (0, u "java/lang/Object"), (0, u "<init>"), (0, u "()V"), (0, .class_ 8), (0, u "java/lang/Record")] 13

def k9c0 : Code := { maxStack := 1, maxLocals := 1, code := jdk_30_method_1_code, exceptionTable := #[], attributes := #[] }
def k9m0 : Method := { name := "<init>", desc := "()V", sig := { parameters := [], returnType := none }, accessFlags := 4, code := some k9c0 }
/-- java/lang/Record -/
def k9 : Class := { plain "java/lang/Record" (some 0) with
  accessFlags := 1057
  interfaces := #[]
  cf := some (fileOf pool9 7 #[] #[{ accessFlags := 4, nameIndex := 5, descriptorIndex := 6, attributes := #[] }] 1057 2 #[] #[])
  fields := #[]
  methods := #[k9m0]
  instanceTypes := #[]
  staticTypes := #[]
  resolved := Array.replicate 22 none
  statics := none }

def pool10 : Array CpInfo := pool [(1, .methodref 2 3), (0, .class_ 4), (0, .nameAndType 5 6), (0, u "java/lang/Record"), (0, u "<init>"), (0, u "()V"), (0, .string 8), (0, u "product"), (0, .methodref 10 11), (0, .class_ 12), (0, .nameAndType 13 14), (0, u "java/util/Objects"), (0, u "requireNonNull"), (0, u "(Ljava/lang/Object;Ljava/lang/String;)Ljava/lang/Object;"), (0, .string 16), (0, u "nearby"), (0, .string 18), (0, u "conversion"), (0, .fieldref 20 21), (0, .class_ 22), (0, .nameAndType 8 23), (0, u "com/example/harborspread/harborspread/LegTerms"), (0, u "Lcom/example/harborspread/harborspread/Product;"), (0, .fieldref 20 25), (0, .nameAndType 16 26), (0, u "Lcom/example/harborspread/harborspread/NearbyRule;"), (0, .fieldref 20 28), (0, .nameAndType 18 29), (0, u "Ljava/util/Optional;"), (0, .methodref 31 32), (0, .class_ 33), (0, .nameAndType 34 35), (0, u "java/util/Optional"), (0, u "empty"), (0, u "()Ljava/util/Optional;"), (0, .methodref 20 37), (0, .nameAndType 5 38), (0, u "(Lcom/example/harborspread/harborspread/Product;Lcom/example/harborspread/harborspread/NearbyRule;Ljava/util/Optional;)V"), (12, .class_ 52), (0, u "com/example/harborspread/harborspread/Conversion"), (2, u "apply"), (1, .invokeDynamic 0 58), (0, .nameAndType 55 59), (0, u "()Ljava/util/function/Function;"), (0, .methodref 31 61), (0, .nameAndType 62 63), (0, u "map"), (0, u "(Ljava/util/function/Function;)Ljava/util/Optional;"), (0, .methodref 65 66), (0, .class_ 67), (0, .nameAndType 68 69), (0, u "com/example/harborspread/harborspread/Product"), (0, u "priceScale"), (0, u "()I"), (0, .methodref 71 72), (0, .class_ 73), (0, .nameAndType 74 75), (0, u "java/lang/Integer"), (0, u "valueOf"), (0, u "(I)Ljava/lang/Integer;"), (0, .methodref 31 77), (0, .nameAndType 78 79), (0, u "orElse"), (0, u "(Ljava/lang/Object;)Ljava/lang/Object;"), (0, .methodref 71 81), (0, .nameAndType 82 69), (0, u "intValue"), (18, u "asSettled"), (0, u "(Lcom/example/harborspread/harborspread/Product;Lcom/example/harborspread/harborspread/NearbyRule;)Lcom/example/harborspread/harborspread/LegTerms;"), (6, u "valueScale"), (2, u "()Lcom/example/harborspread/harborspread/Product;"), (0, u "()Lcom/example/harborspread/harborspread/NearbyRule;"), (5, .methodType 79), (0, .methodHandle 5 121), (0, .methodref 51 122), (0, .nameAndType 123 69), (0, u "scale"), (0, .methodType 125), (0, u "(Lcom/example/harborspread/harborspread/Conversion;)Ljava/lang/Integer;"), (5, .methodHandle 6 132), (0, .methodref 133 134), (0, .class_ 135), (0, .nameAndType 136 137), (0, u "java/lang/invoke/LambdaMetafactory"), (0, u "metafactory"), (0, u "(Ljava/lang/invoke/MethodHandles$Lookup;Ljava/lang/String;Ljava/lang/invoke/MethodType;Ljava/lang/invoke/MethodType;Ljava/lang/invoke/MethodHandle;Ljava/lang/invoke/MethodType;)Ljava/lang/invoke/CallSite;")] 13

def k10c0 : Code := { maxStack := 2, maxLocals := 4, code := prog_44_method_1_code, exceptionTable := #[], attributes := #[] }
def k10m0 : Method := { name := "<init>", desc := "(Lcom/example/harborspread/harborspread/Product;Lcom/example/harborspread/harborspread/NearbyRule;Ljava/util/Optional;)V", sig := { parameters := [(.object "com/example/harborspread/harborspread/Product"), (.object "com/example/harborspread/harborspread/NearbyRule"), (.object "java/util/Optional")], returnType := none }, accessFlags := 1, code := some k10c0 }
def k10c1 : Code := { maxStack := 5, maxLocals := 2, code := prog_44_method_2_code, exceptionTable := #[], attributes := #[] }
def k10m1 : Method := { name := "asSettled", desc := "(Lcom/example/harborspread/harborspread/Product;Lcom/example/harborspread/harborspread/NearbyRule;)Lcom/example/harborspread/harborspread/LegTerms;", sig := { parameters := [(.object "com/example/harborspread/harborspread/Product"), (.object "com/example/harborspread/harborspread/NearbyRule")], returnType := some (.object "com/example/harborspread/harborspread/LegTerms") }, accessFlags := 9, code := some k10c1 }
def k10c2 : Code := { maxStack := 2, maxLocals := 1, code := prog_44_method_5_code, exceptionTable := #[], attributes := #[] }
def k10m2 : Method := { name := "valueScale", desc := "()I", sig := { parameters := [], returnType := some .int }, accessFlags := 1, code := some k10c2 }
def k10c3 : Code := { maxStack := 1, maxLocals := 1, code := prog_44_method_9_code, exceptionTable := #[], attributes := #[] }
def k10m3 : Method := { name := "product", desc := "()Lcom/example/harborspread/harborspread/Product;", sig := { parameters := [], returnType := some (.object "com/example/harborspread/harborspread/Product") }, accessFlags := 1, code := some k10c3 }
def k10c4 : Code := { maxStack := 1, maxLocals := 1, code := prog_44_method_10_code, exceptionTable := #[], attributes := #[] }
def k10m4 : Method := { name := "nearby", desc := "()Lcom/example/harborspread/harborspread/NearbyRule;", sig := { parameters := [], returnType := some (.object "com/example/harborspread/harborspread/NearbyRule") }, accessFlags := 1, code := some k10c4 }
/-- com/example/harborspread/harborspread/LegTerms -/
def k10 : Class := { plain "com/example/harborspread/harborspread/LegTerms" (some 9) with
  accessFlags := 49
  interfaces := #[]
  cf := some (fileOf pool10 20 #[.bootstrapMethods #[⟨131, #[119, 120, 124]⟩, ⟨0, #[]⟩]] #[{ accessFlags := 1, nameIndex := 5, descriptorIndex := 38, attributes := #[] }, { accessFlags := 9, nameIndex := 101, descriptorIndex := 102, attributes := #[] }, { accessFlags := 1, nameIndex := 109, descriptorIndex := 69, attributes := #[] }, { accessFlags := 1, nameIndex := 8, descriptorIndex := 112, attributes := #[] }, { accessFlags := 1, nameIndex := 16, descriptorIndex := 113, attributes := #[] }] 49 2 #[] #[{ accessFlags := 18, nameIndex := 8, descriptorIndex := 23, attributes := #[] }, { accessFlags := 18, nameIndex := 16, descriptorIndex := 26, attributes := #[] }, { accessFlags := 18, nameIndex := 18, descriptorIndex := 29, attributes := #[] }])
  fields := #[{ name := "product", type := (.object "com/example/harborspread/harborspread/Product"), accessFlags := 18, slot := 0, constantValue := 0 }, { name := "nearby", type := (.object "com/example/harborspread/harborspread/NearbyRule"), accessFlags := 18, slot := 1, constantValue := 0 }, { name := "conversion", type := (.object "java/util/Optional"), accessFlags := 18, slot := 2, constantValue := 0 }]
  methods := #[k10m0, k10m1, k10m2, k10m3, k10m4]
  instanceTypes := #[(.object "com/example/harborspread/harborspread/Product"), (.object "com/example/harborspread/harborspread/NearbyRule"), (.object "java/util/Optional")]
  staticTypes := #[]
  resolved := Array.replicate 151 none
  callSites := [(2, 4, .constant 4)]
  statics := none }

def pool11 : Array CpInfo := pool [(1, .fieldref 2 3), (0, .class_ 4), (0, .nameAndType 5 6), (0, u "java/util/Optional"), (0, u "EMPTY"), (0, u "Ljava/util/Optional;"), (1, .class_ 10), (1, u "java/lang/Object"), (2, .fieldref 2 14), (0, .nameAndType 15 16), (0, u "value"), (0, u "Ljava/lang/Object;"), (0, .methodref 18 19), (0, .class_ 20), (0, .nameAndType 21 22), (0, u "java/util/Objects"), (0, u "requireNonNull"), (0, u "(Ljava/lang/Object;)Ljava/lang/Object;"), (20, .methodref 2 44), (0, .nameAndType 45 46), (0, u "isEmpty"), (0, u "()Z"), (6, .methodref 2 54), (0, .nameAndType 55 56), (0, u "empty"), (0, u "()Ljava/util/Optional;"), (89, u "map"), (0, u "(Ljava/util/function/Function;)Ljava/util/Optional;"), (17, u "orElse")] 21

def k11c0 : Code := { maxStack := 1, maxLocals := 1, code := jdk_32_method_1_code, exceptionTable := #[], attributes := #[] }
def k11m0 : Method := { name := "empty", desc := "()Ljava/util/Optional;", sig := { parameters := [], returnType := some (.object "java/util/Optional") }, accessFlags := 9, code := some k11c0 }
def k11c1 : Code := { maxStack := 1, maxLocals := 1, code := jdk_32_method_7_code, exceptionTable := #[], attributes := #[] }
def k11m1 : Method := { name := "isEmpty", desc := "()Z", sig := { parameters := [], returnType := some .boolean }, accessFlags := 1, code := some k11c1 }
def k11c2 : Code := { maxStack := 2, maxLocals := 2, code := jdk_32_method_11_code, exceptionTable := #[], attributes := #[] }
def k11m2 : Method := { name := "map", desc := "(Ljava/util/function/Function;)Ljava/util/Optional;", sig := { parameters := [(.object "java/util/function/Function")], returnType := some (.object "java/util/Optional") }, accessFlags := 1, code := some k11c2 }
def k11c3 : Code := { maxStack := 1, maxLocals := 2, code := jdk_32_method_15_code, exceptionTable := #[], attributes := #[] }
def k11m3 : Method := { name := "orElse", desc := "(Ljava/lang/Object;)Ljava/lang/Object;", sig := { parameters := [(.object "java/lang/Object")], returnType := some (.object "java/lang/Object") }, accessFlags := 1, code := some k11c3 }
/-- java/util/Optional -/
def k11 : Class := { plain "java/util/Optional" (some 0) with
  accessFlags := 49
  interfaces := #[]
  cf := some (fileOf pool11 2 #[] #[{ accessFlags := 9, nameIndex := 55, descriptorIndex := 56, attributes := #[] }, { accessFlags := 1, nameIndex := 45, descriptorIndex := 46, attributes := #[] }, { accessFlags := 1, nameIndex := 146, descriptorIndex := 147, attributes := #[] }, { accessFlags := 1, nameIndex := 165, descriptorIndex := 22, attributes := #[] }] 49 8 #[] #[{ accessFlags := 26, nameIndex := 5, descriptorIndex := 6, attributes := #[] }, { accessFlags := 18, nameIndex := 15, descriptorIndex := 16, attributes := #[] }])
  fields := #[{ name := "EMPTY", type := (.object "java/util/Optional"), accessFlags := 26, slot := 0, constantValue := 0 }, { name := "value", type := (.object "java/lang/Object"), accessFlags := 18, slot := 0, constantValue := 0 }]
  methods := #[k11m0, k11m1, k11m2, k11m3]
  instanceTypes := #[(.object "java/lang/Object")]
  staticTypes := #[(.object "java/util/Optional")]
  resolved := Array.replicate 187 none
  statics := some 2 }

def pool12 : Array CpInfo := pool [(2, .class_ 4), (1, u "java/lang/CharSequence"), (42, .class_ 48), (0, u "java/lang/CharSequence$1CodePointIterator"), (10, .class_ 60), (0, u "java/lang/CharSequence$1CharIterator"), (5, .class_ 67), (0, u "java/lang/Object")] 63

/-- java/lang/CharSequence -/
def k12 : Class := { plain "java/lang/CharSequence" (some 0) with
  accessFlags := 1537
  interfaces := #[]
  cf := some (fileOf pool12 2 #[.nestMembers #[47, 59]] #[] 1537 66 #[] #[])
  fields := #[]
  methods := #[]
  instanceTypes := #[]
  staticTypes := #[]
  resolved := Array.replicate 131 none
  statics := none }

def pool13 : Array CpInfo := pool [(1, .class_ 2), (0, u "java/lang/constant/ConstantDesc"), (0, .class_ 4), (0, u "java/lang/Object")] 32

/-- java/lang/constant/ConstantDesc -/
def k13 : Class := { plain "java/lang/constant/ConstantDesc" (some 0) with
  accessFlags := 1537
  interfaces := #[]
  cf := some (fileOf pool13 1 #[] #[] 1537 3 #[] #[])
  fields := #[]
  methods := #[]
  instanceTypes := #[]
  staticTypes := #[]
  resolved := Array.replicate 37 none
  statics := none }

def pool14 : Array CpInfo := pool [(2, .class_ 4), (1, u "java/lang/Object"), (0, u "<init>"), (0, u "()V"), (3, .class_ 12), (1, u "java/lang/String"), (0, u "value"), (0, u "[B"), (2, u "coder"), (0, u "B"), (2, u "hash"), (0, u "I"), (2, u "hashIsZero"), (0, u "Z"), (13, u "COMPACT_STRINGS"), (534, .class_ 576), (0, u "java/lang/CharSequence"), (22, u "CASE_INSENSITIVE_ORDER"), (0, u "Ljava/util/Comparator;"), (500, u "serialPersistentFields"), (0, u "[Ljava/io/ObjectStreamField;"), (0, .class_ 1104), (0, u "java/lang/String$CaseInsensitiveComparator"), (1, .class_ 1107), (0, u "java/io/Serializable"), (0, .class_ 1109), (0, u "java/lang/Comparable"), (0, .class_ 1111), (0, u "java/lang/constant/Constable"), (0, .class_ 1113), (0, u "java/lang/constant/ConstantDesc"), (2, u "serialVersionUID"), (0, u "J"), (3, u "REPL"), (0, u "C"), (2, u "LATIN1"), (1, u "UTF16")] 323

def k14m0 : Method := { name := "<init>", desc := "()V", sig := { parameters := [], returnType := none }, accessFlags := 1, code := none }
/-- java/lang/String -/
def k14 : Class := { plain "java/lang/String" (some 0) with
  accessFlags := 49
  interfaces := #[4, 3, 12, 2, 13]
  cf := some (fileOf pool14 10 #[.nestMembers #[1103]] #[{ accessFlags := 1, nameIndex := 5, descriptorIndex := 6, attributes := #[] }] 49 2 #[1106, 1108, 575, 1110, 1112] #[{ accessFlags := 18, nameIndex := 13, descriptorIndex := 14, attributes := #[] }, { accessFlags := 18, nameIndex := 17, descriptorIndex := 18, attributes := #[] }, { accessFlags := 2, nameIndex := 21, descriptorIndex := 22, attributes := #[] }, { accessFlags := 2, nameIndex := 25, descriptorIndex := 26, attributes := #[] }, { accessFlags := 26, nameIndex := 1116, descriptorIndex := 1117, attributes := #[] }, { accessFlags := 24, nameIndex := 40, descriptorIndex := 26, attributes := #[] }, { accessFlags := 26, nameIndex := 1101, descriptorIndex := 1102, attributes := #[] }, { accessFlags := 26, nameIndex := 1121, descriptorIndex := 1122, attributes := #[] }, { accessFlags := 25, nameIndex := 599, descriptorIndex := 600, attributes := #[] }, { accessFlags := 24, nameIndex := 1125, descriptorIndex := 18, attributes := #[] }, { accessFlags := 24, nameIndex := 1127, descriptorIndex := 18, attributes := #[] }])
  fields := #[{ name := "value", type := (.array .byte), accessFlags := 18, slot := 0, constantValue := 0 }, { name := "coder", type := .byte, accessFlags := 18, slot := 1, constantValue := 0 }, { name := "hash", type := .int, accessFlags := 2, slot := 2, constantValue := 0 }, { name := "hashIsZero", type := .boolean, accessFlags := 2, slot := 3, constantValue := 0 }, { name := "serialVersionUID", type := .long, accessFlags := 26, slot := 0, constantValue := 0 }, { name := "COMPACT_STRINGS", type := .boolean, accessFlags := 24, slot := 1, constantValue := 0 }, { name := "serialPersistentFields", type := (.array (.object "java/io/ObjectStreamField")), accessFlags := 26, slot := 2, constantValue := 0 }, { name := "REPL", type := .char, accessFlags := 26, slot := 3, constantValue := 0 }, { name := "CASE_INSENSITIVE_ORDER", type := (.object "java/util/Comparator"), accessFlags := 25, slot := 4, constantValue := 0 }, { name := "LATIN1", type := .byte, accessFlags := 24, slot := 5, constantValue := 0 }, { name := "UTF16", type := .byte, accessFlags := 24, slot := 6, constantValue := 0 }]
  methods := #[k14m0]
  instanceTypes := #[(.array .byte), .byte, .int, .boolean]
  staticTypes := #[.long, .boolean, (.array (.object "java/io/ObjectStreamField")), .char, (.object "java/util/Comparator"), .byte, .byte]
  resolved := Array.replicate 1451 none
  statics := none }

def pool15 : Array CpInfo := pool [(2, .class_ 4), (1, u "java/lang/Object"), (0, u "<init>"), (0, u "()V"), (35, .class_ 44), (1, u "java/util/Objects"), (0, u "requireNonNull"), (0, u "(Ljava/lang/Object;)Ljava/lang/Object;"), (47, u "(Ljava/lang/Object;Ljava/lang/String;)Ljava/lang/Object;")] 89

def k15m0 : Method := { name := "<init>", desc := "()V", sig := { parameters := [], returnType := none }, accessFlags := 2, code := none }
def k15c1 : Code := { maxStack := 2, maxLocals := 1, code := jdk_31_method_10_code, exceptionTable := #[], attributes := #[] }
def k15m1 : Method := { name := "requireNonNull", desc := "(Ljava/lang/Object;)Ljava/lang/Object;", sig := { parameters := [(.object "java/lang/Object")], returnType := some (.object "java/lang/Object") }, accessFlags := 9, code := some k15c1 }
def k15c2 : Code := { maxStack := 3, maxLocals := 2, code := jdk_31_method_11_code, exceptionTable := #[], attributes := #[] }
def k15m2 : Method := { name := "requireNonNull", desc := "(Ljava/lang/Object;Ljava/lang/String;)Ljava/lang/Object;", sig := { parameters := [(.object "java/lang/Object"), (.object "java/lang/String")], returnType := some (.object "java/lang/Object") }, accessFlags := 9, code := some k15c2 }
/-- java/util/Objects -/
def k15 : Class := { plain "java/util/Objects" (some 0) with
  accessFlags := 49
  interfaces := #[]
  cf := some (fileOf pool15 42 #[] #[{ accessFlags := 2, nameIndex := 5, descriptorIndex := 6, attributes := #[] }, { accessFlags := 9, nameIndex := 45, descriptorIndex := 46, attributes := #[] }, { accessFlags := 9, nameIndex := 45, descriptorIndex := 94, attributes := #[] }] 49 2 #[] #[])
  fields := #[]
  methods := #[k15m0, k15m1, k15m2]
  instanceTypes := #[]
  staticTypes := #[]
  resolved := Array.replicate 184 none
  statics := none }

def pool16 : Array CpInfo := pool [(6, u "(Ljava/lang/Object;)Ljava/lang/Object;"), (2, u "apply"), (6, .class_ 18), (1, u "java/util/function/Function"), (0, .class_ 20), (0, u "java/lang/Object")] 56

def k16m0 : Method := { name := "apply", desc := "(Ljava/lang/Object;)Ljava/lang/Object;", sig := { parameters := [(.object "java/lang/Object")], returnType := some (.object "java/lang/Object") }, accessFlags := 1025, code := none }
/-- java/util/function/Function -/
def k16 : Class := { plain "java/util/function/Function" (some 0) with
  accessFlags := 1537
  interfaces := #[]
  cf := some (fileOf pool16 16 #[] #[{ accessFlags := 1025, nameIndex := 9, descriptorIndex := 6, attributes := #[] }] 1537 19 #[] #[])
  fields := #[]
  methods := #[k16m0]
  instanceTypes := #[]
  staticTypes := #[]
  resolved := Array.replicate 77 none
  statics := none }

def pool17 : Array CpInfo := pool [(2, .class_ 4), (1, u "java/lang/Record"), (3, u "multiplier"), (7, u "divisor"), (5, u "()I"), (22, .class_ 47), (1, u "com/example/harborspread/harborspread/Conversion"), (0, u "Ljava/math/BigDecimal;"), (4, u "scale"), (0, u "I")] 70

def k17c0 : Code := { maxStack := 1, maxLocals := 1, code := ⟨#[0x2a, 0xb4, 0x00, 0x33, 0xac]⟩, exceptionTable := #[], attributes := #[] }
def k17m0 : Method := { name := "scale", desc := "()I", sig := { parameters := [], returnType := some .int }, accessFlags := 1, code := some k17c0 }
/-- com/example/harborspread/harborspread/Conversion -/
def k17 : Class := { plain "com/example/harborspread/harborspread/Conversion" (some 9) with
  accessFlags := 49
  interfaces := #[]
  cf := some (fileOf pool17 45 #[] #[{ accessFlags := 1, nameIndex := 53, descriptorIndex := 22, attributes := #[] }] 49 2 #[] #[{ accessFlags := 18, nameIndex := 8, descriptorIndex := 48, attributes := #[] }, { accessFlags := 18, nameIndex := 16, descriptorIndex := 48, attributes := #[] }, { accessFlags := 18, nameIndex := 53, descriptorIndex := 54, attributes := #[] }])
  fields := #[{ name := "multiplier", type := (.object "java/math/BigDecimal"), accessFlags := 18, slot := 0, constantValue := 0 }, { name := "divisor", type := (.object "java/math/BigDecimal"), accessFlags := 18, slot := 1, constantValue := 0 }, { name := "scale", type := .int, accessFlags := 18, slot := 2, constantValue := 0 }]
  methods := #[k17m0]
  instanceTypes := #[(.object "java/math/BigDecimal"), (.object "java/math/BigDecimal"), .int]
  staticTypes := #[]
  resolved := Array.replicate 125 none
  statics := none }

def pool18 : Array CpInfo := pool [(2, .class_ 4), (1, u "java/lang/Object"), (0, u "<init>"), (0, u "()V"), (1, .class_ 10), (1, u "java/lang/Number"), (2, .class_ 14), (0, u "java/io/Serializable"), (0, u "serialVersionUID"), (0, u "J")] 20

def k18m0 : Method := { name := "<init>", desc := "()V", sig := { parameters := [], returnType := none }, accessFlags := 1, code := none }
/-- java/lang/Number -/
def k18 : Class := { plain "java/lang/Number" (some 0) with
  accessFlags := 1057
  interfaces := #[4]
  cf := some (fileOf pool18 8 #[] #[{ accessFlags := 1, nameIndex := 5, descriptorIndex := 6, attributes := #[] }] 1057 2 #[13] #[{ accessFlags := 26, nameIndex := 15, descriptorIndex := 16, attributes := #[] }])
  fields := #[{ name := "serialVersionUID", type := .long, accessFlags := 26, slot := 0, constantValue := 0 }]
  methods := #[k18m0]
  instanceTypes := #[]
  staticTypes := #[.long]
  resolved := Array.replicate 37 none
  statics := none }

def pool19 : Array CpInfo := pool [(1, .class_ 2), (0, u "java/lang/Integer"), (16, u "digits"), (0, u "[C"), (64, u "DigitOnes"), (0, u "[B"), (2, u "DigitTens"), (31, u "()I"), (65, u "valueOf"), (0, u "(I)Ljava/lang/Integer;"), (0, .class_ 190), (0, u "java/lang/Integer$IntegerCache"), (0, .fieldref 189 192), (0, .nameAndType 193 194), (0, u "high"), (0, u "I"), (0, .fieldref 189 196), (0, .nameAndType 197 198), (0, u "cache"), (0, u "[Ljava/lang/Integer;"), (4, .class_ 204), (0, u "java/lang/Number"), (0, .fieldref 1 206), (0, .nameAndType 207 194), (0, u "value"), (5, u "intValue"), (88, u "TYPE"), (0, u "Ljava/lang/Class;"), (0, .class_ 305), (0, u "java/lang/Comparable"), (0, .class_ 307), (0, u "java/lang/constant/Constable"), (0, .class_ 309), (0, u "java/lang/constant/ConstantDesc"), (0, u "MIN_VALUE"), (1, u "MAX_VALUE"), (3, u "SIZE"), (1, u "BYTES"), (1, u "serialVersionUID"), (0, u "J")] 131

def k19c0 : Code := { maxStack := 3, maxLocals := 1, code := jdk_33_method_22_code, exceptionTable := #[], attributes := #[] }
def k19m0 : Method := { name := "valueOf", desc := "(I)Ljava/lang/Integer;", sig := { parameters := [.int], returnType := some (.object "java/lang/Integer") }, accessFlags := 9, code := some k19c0 }
def k19c1 : Code := { maxStack := 1, maxLocals := 1, code := jdk_33_method_27_code, exceptionTable := #[], attributes := #[] }
def k19m1 : Method := { name := "intValue", desc := "()I", sig := { parameters := [], returnType := some .int }, accessFlags := 1, code := some k19c1 }
/-- java/lang/Integer -/
def k19 : Class := { plain "java/lang/Integer" (some 18) with
  accessFlags := 49
  interfaces := #[3, 2, 13]
  cf := some (fileOf pool19 1 #[.nestMembers #[189]] #[{ accessFlags := 9, nameIndex := 187, descriptorIndex := 188, attributes := #[] }, { accessFlags := 1, nameIndex := 213, descriptorIndex := 121, attributes := #[] }] 49 203 #[304, 306, 308] #[{ accessFlags := 25, nameIndex := 310, descriptorIndex := 194, attributes := #[] }, { accessFlags := 25, nameIndex := 312, descriptorIndex := 194, attributes := #[] }, { accessFlags := 25, nameIndex := 302, descriptorIndex := 303, attributes := #[] }, { accessFlags := 24, nameIndex := 19, descriptorIndex := 20, attributes := #[] }, { accessFlags := 24, nameIndex := 89, descriptorIndex := 86, attributes := #[] }, { accessFlags := 24, nameIndex := 85, descriptorIndex := 86, attributes := #[] }, { accessFlags := 18, nameIndex := 207, descriptorIndex := 194, attributes := #[] }, { accessFlags := 25, nameIndex := 316, descriptorIndex := 194, attributes := #[] }, { accessFlags := 25, nameIndex := 318, descriptorIndex := 194, attributes := #[] }, { accessFlags := 26, nameIndex := 320, descriptorIndex := 321, attributes := #[] }])
  fields := #[{ name := "MIN_VALUE", type := .int, accessFlags := 25, slot := 0, constantValue := 0 }, { name := "MAX_VALUE", type := .int, accessFlags := 25, slot := 1, constantValue := 0 }, { name := "TYPE", type := (.object "java/lang/Class"), accessFlags := 25, slot := 2, constantValue := 0 }, { name := "digits", type := (.array .char), accessFlags := 24, slot := 3, constantValue := 0 }, { name := "DigitTens", type := (.array .byte), accessFlags := 24, slot := 4, constantValue := 0 }, { name := "DigitOnes", type := (.array .byte), accessFlags := 24, slot := 5, constantValue := 0 }, { name := "value", type := .int, accessFlags := 18, slot := 0, constantValue := 0 }, { name := "SIZE", type := .int, accessFlags := 25, slot := 6, constantValue := 0 }, { name := "BYTES", type := .int, accessFlags := 25, slot := 7, constantValue := 0 }, { name := "serialVersionUID", type := .long, accessFlags := 26, slot := 8, constantValue := 0 }]
  methods := #[k19m0, k19m1]
  instanceTypes := #[.int]
  staticTypes := #[.int, .int, (.object "java/lang/Class"), (.array .char), (.array .byte), (.array .byte), .int, .int, .long]
  resolved := Array.replicate 453 none
  statics := none }

def pool20 : Array CpInfo := pool [(2, .class_ 4), (1, u "java/lang/Object"), (0, u "<init>"), (0, u "()V"), (0, .class_ 8), (0, u "java/lang/Integer"), (7, .class_ 18), (1, u "java/lang/Integer$IntegerCache"), (0, u "$assertionsDisabled"), (0, u "Z"), (26, u "high"), (0, u "I"), (8, u "archivedCache"), (0, u "[Ljava/lang/Integer;"), (12, u "cache"), (0, u "low")] 27

def k20m0 : Method := { name := "<init>", desc := "()V", sig := { parameters := [], returnType := none }, accessFlags := 2, code := none }
/-- java/lang/Integer$IntegerCache -/
def k20 : Class := { plain "java/lang/Integer$IntegerCache" (some 0) with
  accessFlags := 48
  interfaces := #[]
  cf := some (fileOf pool20 16 #[.nestHost 7] #[{ accessFlags := 2, nameIndex := 5, descriptorIndex := 6, attributes := #[] }] 48 2 #[] #[{ accessFlags := 24, nameIndex := 72, descriptorIndex := 48, attributes := #[] }, { accessFlags := 24, nameIndex := 47, descriptorIndex := 48, attributes := #[] }, { accessFlags := 24, nameIndex := 71, descriptorIndex := 58, attributes := #[] }, { accessFlags := 8, nameIndex := 57, descriptorIndex := 58, attributes := #[] }, { accessFlags := 4120, nameIndex := 19, descriptorIndex := 20, attributes := #[] }])
  fields := #[{ name := "low", type := .int, accessFlags := 24, slot := 0, constantValue := 0 }, { name := "high", type := .int, accessFlags := 24, slot := 1, constantValue := 0 }, { name := "cache", type := (.array (.object "java/lang/Integer")), accessFlags := 24, slot := 2, constantValue := 0 }, { name := "archivedCache", type := (.array (.object "java/lang/Integer")), accessFlags := 8, slot := 3, constantValue := 0 }, { name := "$assertionsDisabled", type := .boolean, accessFlags := 4120, slot := 4, constantValue := 0 }]
  methods := #[k20m0]
  instanceTypes := #[]
  staticTypes := #[.int, .int, (.array (.object "java/lang/Integer")), (.array (.object "java/lang/Integer")), .boolean]
  resolved := Array.replicate 100 none
  statics := some 3 }

def pool21 : Array CpInfo := pool [(1, u "java/lang/Cloneable"), (0, .class_ 1), (0, u "java/lang/Object"), (0, .class_ 3)] 3

/-- java/lang/Cloneable -/
def k21 : Class := { plain "java/lang/Cloneable" (some 0) with
  accessFlags := 1537
  interfaces := #[]
  cf := some (fileOf pool21 2 #[] #[] 1537 4 #[] #[])
  fields := #[]
  methods := #[]
  instanceTypes := #[]
  staticTypes := #[]
  resolved := Array.replicate 8 none
  statics := none }

/-- the primitive byte -/
def k22 : Class := { plain "byte" none with kind := .primitive 'B', accessFlags := 0x411 }
/-- [B -/
def k23 : Class := { plain "[B" (some 0) with kind := .array 22 .byte, interfaces := #[21, 4], accessFlags := 1041 }

/-- the primitive int -/
def k24 : Class := { plain "int" none with kind := .primitive 'I', accessFlags := 0x411 }
/-- [I -/
def k25 : Class := { plain "[I" (some 0) with kind := .array 24 .int, interfaces := #[21, 4], accessFlags := 1041 }

/-- [Ljava/lang/Integer; -/
def k26 : Class := { plain "[Ljava/lang/Integer;" (some 0) with kind := .array 19 (.object "java/lang/Integer"), interfaces := #[21, 4], accessFlags := 1041 }

def classes0 : Array Class := #[k0, k1, k2, k3, k4, k5, k6, k7, k8, k9, k10, k11, k12, k13, k14, k15, k16, k17, k18, k19, k20, k21, k22, k23, k24, k25, k26]
/-- the class that the rule has made for the site at 4 of com/example/harborspread/harborspread/LegTerms.valueScale -/
def k27 : Class := Jvm.LamKit.madeRec { classes := classes0 } "com/example/harborspread/harborspread/LegTerms" (Jvm.Lambda.Shape.mk "java/util/function/Function" "apply" (Jvm.ClassFile.MethodDescriptor.mk ([(Jvm.ClassFile.FieldType.object "java/lang/Object")] : List Jvm.ClassFile.FieldType) (Option.some (Jvm.ClassFile.FieldType.object "java/lang/Object"))) ([] : List Jvm.ClassFile.FieldType) (5 : Nat) "com/example/harborspread/harborspread/Conversion" "scale" (Jvm.ClassFile.MethodDescriptor.mk ([] : List Jvm.ClassFile.FieldType) (Option.some Jvm.ClassFile.FieldType.int)) false (Jvm.ClassFile.MethodDescriptor.mk ([(Jvm.ClassFile.FieldType.object "com/example/harborspread/harborspread/Conversion")] : List Jvm.ClassFile.FieldType) (Option.some (Jvm.ClassFile.FieldType.object "java/lang/Integer")))) 27

def heap : Heap := #[{ cls := 7, slots := #[.ref 6, .ref 7, .ref 8, .null], vm := .statics 7 },
  { cls := 8, slots := #[.ref 9, .ref 10, .null], vm := .statics 8 },
  { cls := 11, slots := #[.ref 267], vm := .statics 11 },
  { cls := 20, slots := #[.int 0, .int 127, .ref 5, .null, .int 0], vm := .statics 20 },
  { cls := 27, slots := #[], vm := .none },
  { cls := 26, slots := #[.ref 11, .ref 12, .ref 13, .ref 14, .ref 15, .ref 16, .ref 17, .ref 18, .ref 19, .ref 20, .ref 21, .ref 22, .ref 23, .ref 24, .ref 25, .ref 26, .ref 27, .ref 28, .ref 29, .ref 30, .ref 31, .ref 32, .ref 33, .ref 34, .ref 35, .ref 36, .ref 37, .ref 38, .ref 39, .ref 40, .ref 41, .ref 42, .ref 43, .ref 44, .ref 45, .ref 46, .ref 47, .ref 48, .ref 49, .ref 50, .ref 51, .ref 52, .ref 53, .ref 54, .ref 55, .ref 56, .ref 57, .ref 58, .ref 59, .ref 60, .ref 61, .ref 62, .ref 63, .ref 64, .ref 65, .ref 66, .ref 67, .ref 68, .ref 69, .ref 70, .ref 71, .ref 72, .ref 73, .ref 74, .ref 75, .ref 76, .ref 77, .ref 78, .ref 79, .ref 80, .ref 81, .ref 82, .ref 83, .ref 84, .ref 85, .ref 86, .ref 87, .ref 88, .ref 89, .ref 90, .ref 91, .ref 92, .ref 93, .ref 94, .ref 95, .ref 96, .ref 97, .ref 98, .ref 99, .ref 100, .ref 101, .ref 102, .ref 103, .ref 104, .ref 105, .ref 106, .ref 107, .ref 108, .ref 109, .ref 110, .ref 111, .ref 112, .ref 113, .ref 114, .ref 115, .ref 116, .ref 117, .ref 118, .ref 119, .ref 120, .ref 121, .ref 122, .ref 123, .ref 124, .ref 125, .ref 126, .ref 127, .ref 128, .ref 129, .ref 130, .ref 131, .ref 132, .ref 133, .ref 134, .ref 135, .ref 136, .ref 137, .ref 138, .ref 139, .ref 140, .ref 141, .ref 142, .ref 143, .ref 144, .ref 145, .ref 146, .ref 147, .ref 148, .ref 149, .ref 150, .ref 151, .ref 152, .ref 153, .ref 154, .ref 155, .ref 156, .ref 157, .ref 158, .ref 159, .ref 160, .ref 161, .ref 162, .ref 163, .ref 164, .ref 165, .ref 166, .ref 167, .ref 168, .ref 169, .ref 170, .ref 171, .ref 172, .ref 173, .ref 174, .ref 175, .ref 176, .ref 177, .ref 178, .ref 179, .ref 180, .ref 181, .ref 182, .ref 183, .ref 184, .ref 185, .ref 186, .ref 187, .ref 188, .ref 189, .ref 190, .ref 191, .ref 192, .ref 193, .ref 194, .ref 195, .ref 196, .ref 197, .ref 198, .ref 199, .ref 200, .ref 201, .ref 202, .ref 203, .ref 204, .ref 205, .ref 206, .ref 207, .ref 208, .ref 209, .ref 210, .ref 211, .ref 212, .ref 213, .ref 214, .ref 215, .ref 216, .ref 217, .ref 218, .ref 219, .ref 220, .ref 221, .ref 222, .ref 223, .ref 224, .ref 225, .ref 226, .ref 227, .ref 228, .ref 229, .ref 230, .ref 231, .ref 232, .ref 233, .ref 234, .ref 235, .ref 236, .ref 237, .ref 238, .ref 239, .ref 240, .ref 241, .ref 242, .ref 243, .ref 244, .ref 245, .ref 246, .ref 247, .ref 248, .ref 249, .ref 250, .ref 251, .ref 252, .ref 253, .ref 254, .ref 255, .ref 256, .ref 257, .ref 258, .ref 259, .ref 260, .ref 261, .ref 262, .ref 263, .ref 264, .ref 265, .ref 266], vm := .none },
  { cls := 7, slots := #[.null, .int 0, .int 0, .null, .null, .int 4, .null], vm := .none },
  { cls := 7, slots := #[.null, .int 1, .int 0, .null, .null, .int 2, .null], vm := .none },
  { cls := 7, slots := #[.null, .int 2, .int 0, .null, .null, .int 2, .null], vm := .none },
  { cls := 8, slots := #[.null, .int 0, .int 0], vm := .none },
  { cls := 8, slots := #[.null, .int 1, .int 0], vm := .none },
  { cls := 19, slots := #[.int (-128)], vm := .none },
  { cls := 19, slots := #[.int (-127)], vm := .none },
  { cls := 19, slots := #[.int (-126)], vm := .none },
  { cls := 19, slots := #[.int (-125)], vm := .none },
  { cls := 19, slots := #[.int (-124)], vm := .none },
  { cls := 19, slots := #[.int (-123)], vm := .none },
  { cls := 19, slots := #[.int (-122)], vm := .none },
  { cls := 19, slots := #[.int (-121)], vm := .none },
  { cls := 19, slots := #[.int (-120)], vm := .none },
  { cls := 19, slots := #[.int (-119)], vm := .none },
  { cls := 19, slots := #[.int (-118)], vm := .none },
  { cls := 19, slots := #[.int (-117)], vm := .none },
  { cls := 19, slots := #[.int (-116)], vm := .none },
  { cls := 19, slots := #[.int (-115)], vm := .none },
  { cls := 19, slots := #[.int (-114)], vm := .none },
  { cls := 19, slots := #[.int (-113)], vm := .none },
  { cls := 19, slots := #[.int (-112)], vm := .none },
  { cls := 19, slots := #[.int (-111)], vm := .none },
  { cls := 19, slots := #[.int (-110)], vm := .none },
  { cls := 19, slots := #[.int (-109)], vm := .none },
  { cls := 19, slots := #[.int (-108)], vm := .none },
  { cls := 19, slots := #[.int (-107)], vm := .none },
  { cls := 19, slots := #[.int (-106)], vm := .none },
  { cls := 19, slots := #[.int (-105)], vm := .none },
  { cls := 19, slots := #[.int (-104)], vm := .none },
  { cls := 19, slots := #[.int (-103)], vm := .none },
  { cls := 19, slots := #[.int (-102)], vm := .none },
  { cls := 19, slots := #[.int (-101)], vm := .none },
  { cls := 19, slots := #[.int (-100)], vm := .none },
  { cls := 19, slots := #[.int (-99)], vm := .none },
  { cls := 19, slots := #[.int (-98)], vm := .none },
  { cls := 19, slots := #[.int (-97)], vm := .none },
  { cls := 19, slots := #[.int (-96)], vm := .none },
  { cls := 19, slots := #[.int (-95)], vm := .none },
  { cls := 19, slots := #[.int (-94)], vm := .none },
  { cls := 19, slots := #[.int (-93)], vm := .none },
  { cls := 19, slots := #[.int (-92)], vm := .none },
  { cls := 19, slots := #[.int (-91)], vm := .none },
  { cls := 19, slots := #[.int (-90)], vm := .none },
  { cls := 19, slots := #[.int (-89)], vm := .none },
  { cls := 19, slots := #[.int (-88)], vm := .none },
  { cls := 19, slots := #[.int (-87)], vm := .none },
  { cls := 19, slots := #[.int (-86)], vm := .none },
  { cls := 19, slots := #[.int (-85)], vm := .none },
  { cls := 19, slots := #[.int (-84)], vm := .none },
  { cls := 19, slots := #[.int (-83)], vm := .none },
  { cls := 19, slots := #[.int (-82)], vm := .none },
  { cls := 19, slots := #[.int (-81)], vm := .none },
  { cls := 19, slots := #[.int (-80)], vm := .none },
  { cls := 19, slots := #[.int (-79)], vm := .none },
  { cls := 19, slots := #[.int (-78)], vm := .none },
  { cls := 19, slots := #[.int (-77)], vm := .none },
  { cls := 19, slots := #[.int (-76)], vm := .none },
  { cls := 19, slots := #[.int (-75)], vm := .none },
  { cls := 19, slots := #[.int (-74)], vm := .none },
  { cls := 19, slots := #[.int (-73)], vm := .none },
  { cls := 19, slots := #[.int (-72)], vm := .none },
  { cls := 19, slots := #[.int (-71)], vm := .none },
  { cls := 19, slots := #[.int (-70)], vm := .none },
  { cls := 19, slots := #[.int (-69)], vm := .none },
  { cls := 19, slots := #[.int (-68)], vm := .none },
  { cls := 19, slots := #[.int (-67)], vm := .none },
  { cls := 19, slots := #[.int (-66)], vm := .none },
  { cls := 19, slots := #[.int (-65)], vm := .none },
  { cls := 19, slots := #[.int (-64)], vm := .none },
  { cls := 19, slots := #[.int (-63)], vm := .none },
  { cls := 19, slots := #[.int (-62)], vm := .none },
  { cls := 19, slots := #[.int (-61)], vm := .none },
  { cls := 19, slots := #[.int (-60)], vm := .none },
  { cls := 19, slots := #[.int (-59)], vm := .none },
  { cls := 19, slots := #[.int (-58)], vm := .none },
  { cls := 19, slots := #[.int (-57)], vm := .none },
  { cls := 19, slots := #[.int (-56)], vm := .none },
  { cls := 19, slots := #[.int (-55)], vm := .none },
  { cls := 19, slots := #[.int (-54)], vm := .none },
  { cls := 19, slots := #[.int (-53)], vm := .none },
  { cls := 19, slots := #[.int (-52)], vm := .none },
  { cls := 19, slots := #[.int (-51)], vm := .none },
  { cls := 19, slots := #[.int (-50)], vm := .none },
  { cls := 19, slots := #[.int (-49)], vm := .none },
  { cls := 19, slots := #[.int (-48)], vm := .none },
  { cls := 19, slots := #[.int (-47)], vm := .none },
  { cls := 19, slots := #[.int (-46)], vm := .none },
  { cls := 19, slots := #[.int (-45)], vm := .none },
  { cls := 19, slots := #[.int (-44)], vm := .none },
  { cls := 19, slots := #[.int (-43)], vm := .none },
  { cls := 19, slots := #[.int (-42)], vm := .none },
  { cls := 19, slots := #[.int (-41)], vm := .none },
  { cls := 19, slots := #[.int (-40)], vm := .none },
  { cls := 19, slots := #[.int (-39)], vm := .none },
  { cls := 19, slots := #[.int (-38)], vm := .none },
  { cls := 19, slots := #[.int (-37)], vm := .none },
  { cls := 19, slots := #[.int (-36)], vm := .none },
  { cls := 19, slots := #[.int (-35)], vm := .none },
  { cls := 19, slots := #[.int (-34)], vm := .none },
  { cls := 19, slots := #[.int (-33)], vm := .none },
  { cls := 19, slots := #[.int (-32)], vm := .none },
  { cls := 19, slots := #[.int (-31)], vm := .none },
  { cls := 19, slots := #[.int (-30)], vm := .none },
  { cls := 19, slots := #[.int (-29)], vm := .none },
  { cls := 19, slots := #[.int (-28)], vm := .none },
  { cls := 19, slots := #[.int (-27)], vm := .none },
  { cls := 19, slots := #[.int (-26)], vm := .none },
  { cls := 19, slots := #[.int (-25)], vm := .none },
  { cls := 19, slots := #[.int (-24)], vm := .none },
  { cls := 19, slots := #[.int (-23)], vm := .none },
  { cls := 19, slots := #[.int (-22)], vm := .none },
  { cls := 19, slots := #[.int (-21)], vm := .none },
  { cls := 19, slots := #[.int (-20)], vm := .none },
  { cls := 19, slots := #[.int (-19)], vm := .none },
  { cls := 19, slots := #[.int (-18)], vm := .none },
  { cls := 19, slots := #[.int (-17)], vm := .none },
  { cls := 19, slots := #[.int (-16)], vm := .none },
  { cls := 19, slots := #[.int (-15)], vm := .none },
  { cls := 19, slots := #[.int (-14)], vm := .none },
  { cls := 19, slots := #[.int (-13)], vm := .none },
  { cls := 19, slots := #[.int (-12)], vm := .none },
  { cls := 19, slots := #[.int (-11)], vm := .none },
  { cls := 19, slots := #[.int (-10)], vm := .none },
  { cls := 19, slots := #[.int (-9)], vm := .none },
  { cls := 19, slots := #[.int (-8)], vm := .none },
  { cls := 19, slots := #[.int (-7)], vm := .none },
  { cls := 19, slots := #[.int (-6)], vm := .none },
  { cls := 19, slots := #[.int (-5)], vm := .none },
  { cls := 19, slots := #[.int (-4)], vm := .none },
  { cls := 19, slots := #[.int (-3)], vm := .none },
  { cls := 19, slots := #[.int (-2)], vm := .none },
  { cls := 19, slots := #[.int (-1)], vm := .none },
  { cls := 19, slots := #[.int (0)], vm := .none },
  { cls := 19, slots := #[.int (1)], vm := .none },
  { cls := 19, slots := #[.int (2)], vm := .none },
  { cls := 19, slots := #[.int (3)], vm := .none },
  { cls := 19, slots := #[.int (4)], vm := .none },
  { cls := 19, slots := #[.int (5)], vm := .none },
  { cls := 19, slots := #[.int (6)], vm := .none },
  { cls := 19, slots := #[.int (7)], vm := .none },
  { cls := 19, slots := #[.int (8)], vm := .none },
  { cls := 19, slots := #[.int (9)], vm := .none },
  { cls := 19, slots := #[.int (10)], vm := .none },
  { cls := 19, slots := #[.int (11)], vm := .none },
  { cls := 19, slots := #[.int (12)], vm := .none },
  { cls := 19, slots := #[.int (13)], vm := .none },
  { cls := 19, slots := #[.int (14)], vm := .none },
  { cls := 19, slots := #[.int (15)], vm := .none },
  { cls := 19, slots := #[.int (16)], vm := .none },
  { cls := 19, slots := #[.int (17)], vm := .none },
  { cls := 19, slots := #[.int (18)], vm := .none },
  { cls := 19, slots := #[.int (19)], vm := .none },
  { cls := 19, slots := #[.int (20)], vm := .none },
  { cls := 19, slots := #[.int (21)], vm := .none },
  { cls := 19, slots := #[.int (22)], vm := .none },
  { cls := 19, slots := #[.int (23)], vm := .none },
  { cls := 19, slots := #[.int (24)], vm := .none },
  { cls := 19, slots := #[.int (25)], vm := .none },
  { cls := 19, slots := #[.int (26)], vm := .none },
  { cls := 19, slots := #[.int (27)], vm := .none },
  { cls := 19, slots := #[.int (28)], vm := .none },
  { cls := 19, slots := #[.int (29)], vm := .none },
  { cls := 19, slots := #[.int (30)], vm := .none },
  { cls := 19, slots := #[.int (31)], vm := .none },
  { cls := 19, slots := #[.int (32)], vm := .none },
  { cls := 19, slots := #[.int (33)], vm := .none },
  { cls := 19, slots := #[.int (34)], vm := .none },
  { cls := 19, slots := #[.int (35)], vm := .none },
  { cls := 19, slots := #[.int (36)], vm := .none },
  { cls := 19, slots := #[.int (37)], vm := .none },
  { cls := 19, slots := #[.int (38)], vm := .none },
  { cls := 19, slots := #[.int (39)], vm := .none },
  { cls := 19, slots := #[.int (40)], vm := .none },
  { cls := 19, slots := #[.int (41)], vm := .none },
  { cls := 19, slots := #[.int (42)], vm := .none },
  { cls := 19, slots := #[.int (43)], vm := .none },
  { cls := 19, slots := #[.int (44)], vm := .none },
  { cls := 19, slots := #[.int (45)], vm := .none },
  { cls := 19, slots := #[.int (46)], vm := .none },
  { cls := 19, slots := #[.int (47)], vm := .none },
  { cls := 19, slots := #[.int (48)], vm := .none },
  { cls := 19, slots := #[.int (49)], vm := .none },
  { cls := 19, slots := #[.int (50)], vm := .none },
  { cls := 19, slots := #[.int (51)], vm := .none },
  { cls := 19, slots := #[.int (52)], vm := .none },
  { cls := 19, slots := #[.int (53)], vm := .none },
  { cls := 19, slots := #[.int (54)], vm := .none },
  { cls := 19, slots := #[.int (55)], vm := .none },
  { cls := 19, slots := #[.int (56)], vm := .none },
  { cls := 19, slots := #[.int (57)], vm := .none },
  { cls := 19, slots := #[.int (58)], vm := .none },
  { cls := 19, slots := #[.int (59)], vm := .none },
  { cls := 19, slots := #[.int (60)], vm := .none },
  { cls := 19, slots := #[.int (61)], vm := .none },
  { cls := 19, slots := #[.int (62)], vm := .none },
  { cls := 19, slots := #[.int (63)], vm := .none },
  { cls := 19, slots := #[.int (64)], vm := .none },
  { cls := 19, slots := #[.int (65)], vm := .none },
  { cls := 19, slots := #[.int (66)], vm := .none },
  { cls := 19, slots := #[.int (67)], vm := .none },
  { cls := 19, slots := #[.int (68)], vm := .none },
  { cls := 19, slots := #[.int (69)], vm := .none },
  { cls := 19, slots := #[.int (70)], vm := .none },
  { cls := 19, slots := #[.int (71)], vm := .none },
  { cls := 19, slots := #[.int (72)], vm := .none },
  { cls := 19, slots := #[.int (73)], vm := .none },
  { cls := 19, slots := #[.int (74)], vm := .none },
  { cls := 19, slots := #[.int (75)], vm := .none },
  { cls := 19, slots := #[.int (76)], vm := .none },
  { cls := 19, slots := #[.int (77)], vm := .none },
  { cls := 19, slots := #[.int (78)], vm := .none },
  { cls := 19, slots := #[.int (79)], vm := .none },
  { cls := 19, slots := #[.int (80)], vm := .none },
  { cls := 19, slots := #[.int (81)], vm := .none },
  { cls := 19, slots := #[.int (82)], vm := .none },
  { cls := 19, slots := #[.int (83)], vm := .none },
  { cls := 19, slots := #[.int (84)], vm := .none },
  { cls := 19, slots := #[.int (85)], vm := .none },
  { cls := 19, slots := #[.int (86)], vm := .none },
  { cls := 19, slots := #[.int (87)], vm := .none },
  { cls := 19, slots := #[.int (88)], vm := .none },
  { cls := 19, slots := #[.int (89)], vm := .none },
  { cls := 19, slots := #[.int (90)], vm := .none },
  { cls := 19, slots := #[.int (91)], vm := .none },
  { cls := 19, slots := #[.int (92)], vm := .none },
  { cls := 19, slots := #[.int (93)], vm := .none },
  { cls := 19, slots := #[.int (94)], vm := .none },
  { cls := 19, slots := #[.int (95)], vm := .none },
  { cls := 19, slots := #[.int (96)], vm := .none },
  { cls := 19, slots := #[.int (97)], vm := .none },
  { cls := 19, slots := #[.int (98)], vm := .none },
  { cls := 19, slots := #[.int (99)], vm := .none },
  { cls := 19, slots := #[.int (100)], vm := .none },
  { cls := 19, slots := #[.int (101)], vm := .none },
  { cls := 19, slots := #[.int (102)], vm := .none },
  { cls := 19, slots := #[.int (103)], vm := .none },
  { cls := 19, slots := #[.int (104)], vm := .none },
  { cls := 19, slots := #[.int (105)], vm := .none },
  { cls := 19, slots := #[.int (106)], vm := .none },
  { cls := 19, slots := #[.int (107)], vm := .none },
  { cls := 19, slots := #[.int (108)], vm := .none },
  { cls := 19, slots := #[.int (109)], vm := .none },
  { cls := 19, slots := #[.int (110)], vm := .none },
  { cls := 19, slots := #[.int (111)], vm := .none },
  { cls := 19, slots := #[.int (112)], vm := .none },
  { cls := 19, slots := #[.int (113)], vm := .none },
  { cls := 19, slots := #[.int (114)], vm := .none },
  { cls := 19, slots := #[.int (115)], vm := .none },
  { cls := 19, slots := #[.int (116)], vm := .none },
  { cls := 19, slots := #[.int (117)], vm := .none },
  { cls := 19, slots := #[.int (118)], vm := .none },
  { cls := 19, slots := #[.int (119)], vm := .none },
  { cls := 19, slots := #[.int (120)], vm := .none },
  { cls := 19, slots := #[.int (121)], vm := .none },
  { cls := 19, slots := #[.int (122)], vm := .none },
  { cls := 19, slots := #[.int (123)], vm := .none },
  { cls := 19, slots := #[.int (124)], vm := .none },
  { cls := 19, slots := #[.int (125)], vm := .none },
  { cls := 19, slots := #[.int (126)], vm := .none },
  { cls := 19, slots := #[.int (127)], vm := .none },
  { cls := 11, slots := #[.null], vm := .none }]
def classes : Array Class := #[k0, k1, k2, k3, k4, k5, k6, k7, k8, k9, k10, k11, k12, k13, k14, k15, k16, k17, k18, k19, k20, k21, k22, k23, k24, k25, k26, k27]
def interned : List (Array UInt16 × Addr) := []
def slotsUsed : Nat := 553
def theMethod : MethodId := ⟨1, 3⟩
def args0 : Array Value := #[.int 5, .int 7]
def aboutOver (below : List Frame) : State where
  vm := { classes := classes, interned := interned.toArray }
  heap := heap
  slotsUsed := slotsUsed
  threads := #[{ frames := .invoking theMethod args0 :: below }]
def below0 : List Frame := [.native { method := ⟨0, 0⟩, args := #[] }]
def about1 : State := aboutOver below0
def p0 : Program := .bare "" "" ""
def e0 : Env := launch0.env 0 0 0
theorem w_frames : about1.frames = Frame.invoking theMethod args0 :: below0 := rfl
set_option maxRecDepth 65536 in
theorem w_args : argsFit about1.vm theMethod args0 = true := by decide +kernel
set_option maxRecDepth 65536 in
theorem w_heap : heapFits about1 = true := by decide +kernel
set_option maxRecDepth 65536 in
theorem w_runnable : about1.curStatus? = some .runnable := by decide +kernel
set_option maxRecDepth 65536 in
theorem w_alone : about1.alone = true := by decide +kernel
set_option maxRecDepth 65536 in
theorem w_named : about1.methodNamed? x = some theMethod := by decide +kernel
set_option maxRecDepth 65536 in
theorem w_hears : about1.hears theMethod below0 = true := by decide +kernel
set_option maxRecDepth 65536 in
theorem w_ripe : about1.ripe theMethod args0 below0 = true := by decide +kernel
theorem w_running : about1.status = .running := rfl
set_option maxRecDepth 65536 in
theorem w_room : about1.hasRoom e0.platform room_1 = true :=
  launch0.hasRoom_least _ room_1 (by decide +kernel) (by decide +kernel) (by decide +kernel) (by decide +kernel) (by decide +kernel) (by decide +kernel)
theorem allAtoms_all (ts : List Jvm.Cond) (a : Array Jvm.Value) (st : Jvm.State) : (allAtoms ts).before a st = ts.all (fun c => c.before a st) := by
  induction ts with
  | nil => rfl
  | cons c t ih =>
    show (Jvm.Cond.and c (allAtoms t)).before a st = _
    rw [Jvm.Cond.before_and, ih, List.all_cons]
def words1 : List Jvm.Cond := Jvm.Cond.code x code maxLocals ret :: tables_1
/-- a 'code' word, met by the world's own term for the bytes: nothing is compared byte by byte -/
theorem code_word {y : MethodName} {bytes : ByteArray} {mx : Nat} {rt : Option FieldType} {a : Array Value} {s : State} {m : MethodId} {meth : Method} {c : Code} (h1 : s.methodNamed? y = some m) (h2 : s.vm.method? m = some meth) (h3 : meth.code = some c) (h4 : c.code = bytes)
    (h5 : (c.maxLocals == mx && c.exceptionTable.isEmpty && decide (c.maxStack ≤ mostOperands) && decide (meth.sig.returnType = rt) && !meth.locks && decide (parseMethodDescriptor y.desc = some meth.sig)) = true) : (Jvm.Cond.code y bytes mx rt).before a s = true := by
  simp only [Bool.and_eq_true, beq_iff_eq, Bool.not_eq_true', decide_eq_true_eq] at h5
  obtain ⟨⟨⟨⟨⟨g1, g2⟩, g3⟩, g4⟩, g5⟩, g6⟩ := h5
  simp [Cond.before, Cond.holds, Cond.value, h1, h2, h3, h4, g1, g2, g3, g4, g5, g6]
def isCode : Jvm.Cond → Bool
  | .code _ _ _ _ => true
  | _ => false
theorem all_split {L : List Jvm.Cond} {P : Jvm.Cond → Bool} (h1 : L.all (fun c => isCode c || P c) = true) (h2 : ∀ c ∈ L.filter isCode, P c = true) : L.all P = true := by
  refine List.all_eq_true.mpr fun c hc => ?_
  have h := List.all_eq_true.mp h1 c hc
  rcases Bool.eq_false_or_eq_true (isCode c) with hi | hi
  · exact h2 c (List.mem_filter.mpr ⟨hc, hi⟩)
  · simpa [hi] using h
set_option maxRecDepth 65536 in
theorem w_c0 : (Jvm.Cond.code x code maxLocals ret).before args0 about1 = true := code_word (m := ⟨1, 3⟩) (meth := k1m3) (c := k1c3) (by decide +kernel) rfl rfl rfl (by decide +kernel)
set_option maxRecDepth 65536 in
theorem w_c1 : (Jvm.Cond.code ({ cls := "com/example/harborspread/harborspread/LegTermsAsSettledPinLaw", name := "product", desc := "(I)Lcom/example/harborspread/harborspread/Product;" } : Jvm.MethodName) method_2_code (1 : Nat) (Option.some (Jvm.ClassFile.FieldType.object "com/example/harborspread/harborspread/Product"))).before args0 about1 = true := code_word (m := ⟨1, 1⟩) (meth := k1m1) (c := k1c1) (by decide +kernel) rfl rfl rfl (by decide +kernel)
set_option maxRecDepth 65536 in
theorem w_c2 : (Jvm.Cond.code ({ cls := "com/example/harborspread/harborspread/LegTerms", name := "asSettled", desc := "(Lcom/example/harborspread/harborspread/Product;Lcom/example/harborspread/harborspread/NearbyRule;)Lcom/example/harborspread/harborspread/LegTerms;" } : Jvm.MethodName) prog_44_method_2_code (2 : Nat) (Option.some (Jvm.ClassFile.FieldType.object "com/example/harborspread/harborspread/LegTerms"))).before args0 about1 = true := code_word (m := ⟨10, 1⟩) (meth := k10m1) (c := k10c1) (by decide +kernel) rfl rfl rfl (by decide +kernel)
set_option maxRecDepth 65536 in
theorem w_c3 : (Jvm.Cond.code ({ cls := "java/util/Optional", name := "empty", desc := "()Ljava/util/Optional;" } : Jvm.MethodName) jdk_32_method_1_code (1 : Nat) (Option.some (Jvm.ClassFile.FieldType.object "java/util/Optional"))).before args0 about1 = true := code_word (m := ⟨11, 0⟩) (meth := k11m0) (c := k11c0) (by decide +kernel) rfl rfl rfl (by decide +kernel)
set_option maxRecDepth 65536 in
theorem w_c4 : (Jvm.Cond.code ({ cls := "com/example/harborspread/harborspread/LegTerms", name := "<init>", desc := "(Lcom/example/harborspread/harborspread/Product;Lcom/example/harborspread/harborspread/NearbyRule;Ljava/util/Optional;)V" } : Jvm.MethodName) prog_44_method_1_code (4 : Nat) (Option.none : Option Jvm.ClassFile.FieldType)).before args0 about1 = true := code_word (m := ⟨10, 0⟩) (meth := k10m0) (c := k10c0) (by decide +kernel) rfl rfl rfl (by decide +kernel)
set_option maxRecDepth 65536 in
theorem w_c5 : (Jvm.Cond.code ({ cls := "java/lang/Record", name := "<init>", desc := "()V" } : Jvm.MethodName) jdk_30_method_1_code (1 : Nat) (Option.none : Option Jvm.ClassFile.FieldType)).before args0 about1 = true := code_word (m := ⟨9, 0⟩) (meth := k9m0) (c := k9c0) (by decide +kernel) rfl rfl rfl (by decide +kernel)
set_option maxRecDepth 65536 in
theorem w_c6 : (Jvm.Cond.code ({ cls := "java/lang/Object", name := "<init>", desc := "()V" } : Jvm.MethodName) object_method_1_code (1 : Nat) (Option.none : Option Jvm.ClassFile.FieldType)).before args0 about1 = true := code_word (m := ⟨0, 0⟩) (meth := k0m0) (c := k0c0) (by decide +kernel) rfl rfl rfl (by decide +kernel)
set_option maxRecDepth 65536 in
theorem w_c7 : (Jvm.Cond.code ({ cls := "java/util/Objects", name := "requireNonNull", desc := "(Ljava/lang/Object;Ljava/lang/String;)Ljava/lang/Object;" } : Jvm.MethodName) jdk_31_method_11_code (2 : Nat) (Option.some (Jvm.ClassFile.FieldType.object "java/lang/Object"))).before args0 about1 = true := code_word (m := ⟨15, 2⟩) (meth := k15m2) (c := k15c2) (by decide +kernel) rfl rfl rfl (by decide +kernel)
set_option maxRecDepth 65536 in
theorem w_c8 : (Jvm.Cond.code ({ cls := "com/example/harborspread/harborspread/LegTerms", name := "product", desc := "()Lcom/example/harborspread/harborspread/Product;" } : Jvm.MethodName) prog_44_method_9_code (1 : Nat) (Option.some (Jvm.ClassFile.FieldType.object "com/example/harborspread/harborspread/Product"))).before args0 about1 = true := code_word (m := ⟨10, 3⟩) (meth := k10m3) (c := k10c3) (by decide +kernel) rfl rfl rfl (by decide +kernel)
set_option maxRecDepth 65536 in
theorem w_c9 : (Jvm.Cond.code ({ cls := "com/example/harborspread/harborspread/LegTerms", name := "nearby", desc := "()Lcom/example/harborspread/harborspread/NearbyRule;" } : Jvm.MethodName) prog_44_method_10_code (1 : Nat) (Option.some (Jvm.ClassFile.FieldType.object "com/example/harborspread/harborspread/NearbyRule"))).before args0 about1 = true := code_word (m := ⟨10, 4⟩) (meth := k10m4) (c := k10c4) (by decide +kernel) rfl rfl rfl (by decide +kernel)
set_option maxRecDepth 65536 in
theorem w_c10 : (Jvm.Cond.code ({ cls := "com/example/harborspread/harborspread/LegTerms", name := "valueScale", desc := "()I" } : Jvm.MethodName) prog_44_method_5_code (1 : Nat) (Option.some Jvm.ClassFile.FieldType.int)).before args0 about1 = true := code_word (m := ⟨10, 2⟩) (meth := k10m2) (c := k10c2) (by decide +kernel) rfl rfl rfl (by decide +kernel)
set_option maxRecDepth 65536 in
theorem w_c11 : (Jvm.Cond.code ({ cls := "java/util/Optional", name := "map", desc := "(Ljava/util/function/Function;)Ljava/util/Optional;" } : Jvm.MethodName) jdk_32_method_11_code (2 : Nat) (Option.some (Jvm.ClassFile.FieldType.object "java/util/Optional"))).before args0 about1 = true := code_word (m := ⟨11, 2⟩) (meth := k11m2) (c := k11c2) (by decide +kernel) rfl rfl rfl (by decide +kernel)
set_option maxRecDepth 65536 in
theorem w_c12 : (Jvm.Cond.code ({ cls := "java/util/Objects", name := "requireNonNull", desc := "(Ljava/lang/Object;)Ljava/lang/Object;" } : Jvm.MethodName) jdk_31_method_10_code (1 : Nat) (Option.some (Jvm.ClassFile.FieldType.object "java/lang/Object"))).before args0 about1 = true := code_word (m := ⟨15, 1⟩) (meth := k15m1) (c := k15c1) (by decide +kernel) rfl rfl rfl (by decide +kernel)
set_option maxRecDepth 65536 in
theorem w_c13 : (Jvm.Cond.code ({ cls := "java/util/Optional", name := "isEmpty", desc := "()Z" } : Jvm.MethodName) jdk_32_method_7_code (1 : Nat) (Option.some Jvm.ClassFile.FieldType.boolean)).before args0 about1 = true := code_word (m := ⟨11, 1⟩) (meth := k11m1) (c := k11c1) (by decide +kernel) rfl rfl rfl (by decide +kernel)
set_option maxRecDepth 65536 in
theorem w_c14 : (Jvm.Cond.code ({ cls := "com/example/harborspread/harborspread/Product", name := "priceScale", desc := "()I" } : Jvm.MethodName) prog_63_method_6_code (1 : Nat) (Option.some Jvm.ClassFile.FieldType.int)).before args0 about1 = true := code_word (m := ⟨7, 0⟩) (meth := k7m0) (c := k7c0) (by decide +kernel) rfl rfl rfl (by decide +kernel)
set_option maxRecDepth 65536 in
theorem w_c15 : (Jvm.Cond.code ({ cls := "java/lang/Integer", name := "valueOf", desc := "(I)Ljava/lang/Integer;" } : Jvm.MethodName) jdk_33_method_22_code (1 : Nat) (Option.some (Jvm.ClassFile.FieldType.object "java/lang/Integer"))).before args0 about1 = true := code_word (m := ⟨19, 0⟩) (meth := k19m0) (c := k19c0) (by decide +kernel) rfl rfl rfl (by decide +kernel)
set_option maxRecDepth 65536 in
theorem w_c16 : (Jvm.Cond.code ({ cls := "java/util/Optional", name := "orElse", desc := "(Ljava/lang/Object;)Ljava/lang/Object;" } : Jvm.MethodName) jdk_32_method_15_code (2 : Nat) (Option.some (Jvm.ClassFile.FieldType.object "java/lang/Object"))).before args0 about1 = true := code_word (m := ⟨11, 3⟩) (meth := k11m3) (c := k11c3) (by decide +kernel) rfl rfl rfl (by decide +kernel)
set_option maxRecDepth 65536 in
theorem w_c17 : (Jvm.Cond.code ({ cls := "java/lang/Integer", name := "intValue", desc := "()I" } : Jvm.MethodName) jdk_33_method_27_code (1 : Nat) (Option.some Jvm.ClassFile.FieldType.int)).before args0 about1 = true := code_word (m := ⟨19, 1⟩) (meth := k19m1) (c := k19c1) (by decide +kernel) rfl rfl rfl (by decide +kernel)
set_option maxRecDepth 65536 in
theorem w_c18 : (Jvm.Cond.code ({ cls := "com/example/harborspread/harborspread/LegTermsAsSettledPinLaw", name := "expectedScale", desc := "(I)I" } : Jvm.MethodName) method_3_code (1 : Nat) (Option.some Jvm.ClassFile.FieldType.int)).before args0 about1 = true := code_word (m := ⟨1, 2⟩) (meth := k1m2) (c := k1c2) (by decide +kernel) rfl rfl rfl (by decide +kernel)
def codes1 : List Jvm.Cond := [Jvm.Cond.code x code maxLocals ret, Jvm.Cond.code ({ cls := "com/example/harborspread/harborspread/LegTermsAsSettledPinLaw", name := "product", desc := "(I)Lcom/example/harborspread/harborspread/Product;" } : Jvm.MethodName) method_2_code (1 : Nat) (Option.some (Jvm.ClassFile.FieldType.object "com/example/harborspread/harborspread/Product")), Jvm.Cond.code ({ cls := "com/example/harborspread/harborspread/LegTerms", name := "asSettled", desc := "(Lcom/example/harborspread/harborspread/Product;Lcom/example/harborspread/harborspread/NearbyRule;)Lcom/example/harborspread/harborspread/LegTerms;" } : Jvm.MethodName) prog_44_method_2_code (2 : Nat) (Option.some (Jvm.ClassFile.FieldType.object "com/example/harborspread/harborspread/LegTerms")), Jvm.Cond.code ({ cls := "java/util/Optional", name := "empty", desc := "()Ljava/util/Optional;" } : Jvm.MethodName) jdk_32_method_1_code (1 : Nat) (Option.some (Jvm.ClassFile.FieldType.object "java/util/Optional")), Jvm.Cond.code ({ cls := "com/example/harborspread/harborspread/LegTerms", name := "<init>", desc := "(Lcom/example/harborspread/harborspread/Product;Lcom/example/harborspread/harborspread/NearbyRule;Ljava/util/Optional;)V" } : Jvm.MethodName) prog_44_method_1_code (4 : Nat) (Option.none : Option Jvm.ClassFile.FieldType), Jvm.Cond.code ({ cls := "java/lang/Record", name := "<init>", desc := "()V" } : Jvm.MethodName) jdk_30_method_1_code (1 : Nat) (Option.none : Option Jvm.ClassFile.FieldType), Jvm.Cond.code ({ cls := "java/lang/Object", name := "<init>", desc := "()V" } : Jvm.MethodName) object_method_1_code (1 : Nat) (Option.none : Option Jvm.ClassFile.FieldType), Jvm.Cond.code ({ cls := "java/util/Objects", name := "requireNonNull", desc := "(Ljava/lang/Object;Ljava/lang/String;)Ljava/lang/Object;" } : Jvm.MethodName) jdk_31_method_11_code (2 : Nat) (Option.some (Jvm.ClassFile.FieldType.object "java/lang/Object")), Jvm.Cond.code ({ cls := "com/example/harborspread/harborspread/LegTerms", name := "product", desc := "()Lcom/example/harborspread/harborspread/Product;" } : Jvm.MethodName) prog_44_method_9_code (1 : Nat) (Option.some (Jvm.ClassFile.FieldType.object "com/example/harborspread/harborspread/Product")), Jvm.Cond.code ({ cls := "com/example/harborspread/harborspread/LegTerms", name := "nearby", desc := "()Lcom/example/harborspread/harborspread/NearbyRule;" } : Jvm.MethodName) prog_44_method_10_code (1 : Nat) (Option.some (Jvm.ClassFile.FieldType.object "com/example/harborspread/harborspread/NearbyRule")), Jvm.Cond.code ({ cls := "com/example/harborspread/harborspread/LegTerms", name := "valueScale", desc := "()I" } : Jvm.MethodName) prog_44_method_5_code (1 : Nat) (Option.some Jvm.ClassFile.FieldType.int), Jvm.Cond.code ({ cls := "java/util/Optional", name := "map", desc := "(Ljava/util/function/Function;)Ljava/util/Optional;" } : Jvm.MethodName) jdk_32_method_11_code (2 : Nat) (Option.some (Jvm.ClassFile.FieldType.object "java/util/Optional")), Jvm.Cond.code ({ cls := "java/util/Objects", name := "requireNonNull", desc := "(Ljava/lang/Object;)Ljava/lang/Object;" } : Jvm.MethodName) jdk_31_method_10_code (1 : Nat) (Option.some (Jvm.ClassFile.FieldType.object "java/lang/Object")), Jvm.Cond.code ({ cls := "java/util/Optional", name := "isEmpty", desc := "()Z" } : Jvm.MethodName) jdk_32_method_7_code (1 : Nat) (Option.some Jvm.ClassFile.FieldType.boolean), Jvm.Cond.code ({ cls := "com/example/harborspread/harborspread/Product", name := "priceScale", desc := "()I" } : Jvm.MethodName) prog_63_method_6_code (1 : Nat) (Option.some Jvm.ClassFile.FieldType.int), Jvm.Cond.code ({ cls := "java/lang/Integer", name := "valueOf", desc := "(I)Ljava/lang/Integer;" } : Jvm.MethodName) jdk_33_method_22_code (1 : Nat) (Option.some (Jvm.ClassFile.FieldType.object "java/lang/Integer")), Jvm.Cond.code ({ cls := "java/util/Optional", name := "orElse", desc := "(Ljava/lang/Object;)Ljava/lang/Object;" } : Jvm.MethodName) jdk_32_method_15_code (2 : Nat) (Option.some (Jvm.ClassFile.FieldType.object "java/lang/Object")), Jvm.Cond.code ({ cls := "java/lang/Integer", name := "intValue", desc := "()I" } : Jvm.MethodName) jdk_33_method_27_code (1 : Nat) (Option.some Jvm.ClassFile.FieldType.int), Jvm.Cond.code ({ cls := "com/example/harborspread/harborspread/LegTermsAsSettledPinLaw", name := "expectedScale", desc := "(I)I" } : Jvm.MethodName) method_3_code (1 : Nat) (Option.some Jvm.ClassFile.FieldType.int)]
set_option maxRecDepth 65536 in
theorem codes_eq : words1.filter isCode = codes1 := rfl
theorem w_codes : ∀ c ∈ words1.filter isCode, c.before args0 about1 = true := by
  rw [codes_eq]
  intro c hc
  simp only [codes1, List.mem_cons, List.not_mem_nil, or_false] at hc
  rcases hc with rfl | rfl | rfl | rfl | rfl | rfl | rfl | rfl | rfl | rfl | rfl | rfl | rfl | rfl | rfl | rfl | rfl | rfl | rfl
  · exact w_c0
  · exact w_c1
  · exact w_c2
  · exact w_c3
  · exact w_c4
  · exact w_c5
  · exact w_c6
  · exact w_c7
  · exact w_c8
  · exact w_c9
  · exact w_c10
  · exact w_c11
  · exact w_c12
  · exact w_c13
  · exact w_c14
  · exact w_c15
  · exact w_c16
  · exact w_c17
  · exact w_c18
set_option maxRecDepth 65536 in
theorem w_t1 : (words1.take 24).all (fun c => isCode c || c.before args0 about1) = true := by decide +kernel
set_option maxRecDepth 65536 in
theorem w_t2 : ((words1.drop 24).take 24).all (fun c => isCode c || c.before args0 about1) = true := by decide +kernel
set_option maxRecDepth 65536 in
theorem w_t3 : (((words1.drop 24).drop 24).take 24).all (fun c => isCode c || c.before args0 about1) = true := by decide +kernel
set_option maxRecDepth 65536 in
theorem w_t4 : ((((words1.drop 24).drop 24).drop 24).take 24).all (fun c => isCode c || c.before args0 about1) = true := by decide +kernel
set_option maxRecDepth 65536 in
theorem w_t5 : (((((words1.drop 24).drop 24).drop 24).drop 24).take 24).all (fun c => isCode c || c.before args0 about1) = true := by decide +kernel
set_option maxRecDepth 65536 in
theorem w_t6 : (((((words1.drop 24).drop 24).drop 24).drop 24).drop 24).all (fun c => isCode c || c.before args0 about1) = true := by decide +kernel
theorem w_tables : (allAtoms (Jvm.Cond.code x code maxLocals ret :: tables_1)).before args0 about1 = true := by
  rw [allAtoms_all]
  show words1.all (fun c => c.before args0 about1) = true
  refine all_split ?_ w_codes
  rw [← List.take_append_drop 24 words1, List.all_append, w_t1, ← List.take_append_drop 24 (words1.drop 24), List.all_append, w_t2, ← List.take_append_drop 24 ((words1.drop 24).drop 24), List.all_append, w_t3, ← List.take_append_drop 24 (((words1.drop 24).drop 24).drop 24), List.all_append, w_t4, ← List.take_append_drop 24 ((((words1.drop 24).drop 24).drop 24).drop 24), List.all_append, w_t5, w_t6]
  rfl
set_option maxRecDepth 65536 in
theorem w_rest : rest_1_c.before args0 about1 = true := by decide +kernel
set_option maxRecDepth 65536 in
theorem w_case : (Jvm.Cond.and given_1 narrow_1).before args0 about1 = true := by decide +kernel
theorem w_applies : (headSpec (Jvm.Cond.code x code maxLocals ret :: tables_1) room_1).applies x e0.platform about1 = true :=
  (Spec.applies_iff w_frames).mpr ⟨w_running, w_runnable, w_alone, w_named, w_hears, w_ripe, w_room, w_tables⟩
theorem atStart : AtStart classFile x code maxLocals ret World_1 tables_1 room_1 Calls_1 rest_1 Pre_1 launch0 p0 e0 about1 theMethod args0 below0 :=
  ⟨lists_1, trivial, launch0.admits_env _ _ _, launch0.least_env, fairChoices_fair.cas, fairChoices_fair.clock, w_frames, w_args, w_heap, w_applies, trivial, w_rest, w_case⟩
end start1
theorem witness_1 : WitnessClaimed_1 := ⟨start1.p0, start1.e0, start1.about1, start1.theMethod, start1.args0, start1.below0, start1.atStart⟩
end Jvm.Pilot.@@N@@
