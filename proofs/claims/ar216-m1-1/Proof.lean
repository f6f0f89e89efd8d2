import JvmDerived
import JvmDerived.Pilot.@@N@@Statement
import JvmDerived.Pilot.@@N@@Code
set_option linter.unusedVariables false
set_option linter.unusedSimpArgs false
namespace Jvm.Pilot.@@N@@
open Jvm Jvm.ClassFile Sem Op Lib Jvm.Free Jvm.Stand Jvm.LawKit Jvm.RoadKit Bundle Jvm.Pilot.@@N@@.Jvm.D
/-- whoever comes on from (T, g) comes from A -/
abbrev Gz (tb : Tables) (e : Env) (below : List Frame) (A T : State) (g : JFrame) : Prop := ∀ t, Steps tb e below (T.setTop g) t → Steps tb e below A t
theorem own_eqI {args : Array Value} {first s : State} {o : Option Outcome} {idx : List Nat} {a : Term} {n : Int32} (h : (Jvm.Cond.eq a (.int n)).value args first o s idx = some true) : a.eval args first o idx s = some (.int n) := by
  simp only [Cond.value, Term.eval] at h
  cases ha : a.eval args first o idx s with
  | none => simp [ha] at h
  | some x => cases x <;> simp [ha] at h ⊢ <;> exact h
theorem own_eqJ {args : Array Value} {first s : State} {o : Option Outcome} {idx : List Nat} {a : Term} {n : Int64} (h : (Jvm.Cond.eq a (.long n)).value args first o s idx = some true) : a.eval args first o idx s = some (.long n) := by
  simp only [Cond.value, Term.eval] at h
  cases ha : a.eval args first o idx s with
  | none => simp [ha] at h
  | some x => cases x <;> simp [ha] at h ⊢ <;> exact h
theorem own_eqR {args : Array Value} {first s : State} {o : Option Outcome} {idx : List Nat} {a b : Term} {x y : Addr} (h : (Jvm.Cond.eq a b).value args first o s idx = some true) (ha : a.eval args first o idx s = some (.ref x)) (hb : b.eval args first o idx s = some (.ref y)) : x = y := by
  simp only [Cond.value, ha, hb] at h
  simpa using h
theorem own_fldI {args : Array Value} {s : State} {t : Term} {C f d : String} {n : Int32} {x : Addr} (h : (Jvm.Cond.eq (.field t C f d) (.int n)).value args s none s [] = some true) (ht : t.eval args s none [] s = some (.ref x)) : Fld s s.heap x C f d (.int n) :=
  Fld.start (by rw [← fld_at (C := C) (n := f) (dd := d) ht]; exact own_eqI h)
theorem own_fldJ {args : Array Value} {s : State} {t : Term} {C f d : String} {n : Int64} {x : Addr} (h : (Jvm.Cond.eq (.field t C f d) (.long n)).value args s none s [] = some true) (ht : t.eval args s none [] s = some (.ref x)) : Fld s s.heap x C f d (.long n) :=
  Fld.start (by rw [← fld_at (C := C) (n := f) (dd := d) ht]; exact own_eqJ h)
theorem own_fldN {args : Array Value} {s : State} {t : Term} {C f d : String} {x : Addr} (h : (Jvm.Cond.eq (.field t C f d) .null).value args s none s [] = some true) (ht : t.eval args s none [] s = some (.ref x)) : Fld s s.heap x C f d .null :=
  Fld.start (by rw [← fld_at (C := C) (n := f) (dd := d) ht]; exact null_v h)
theorem own_ext {h0 h : Heap} (K : Keep h0 h []) : Ext h0 h := ⟨K.1, fun x c q => K.2.1 x c q nin0⟩
theorem own_keep {h0 h : Heap} (E : Ext h0 h) : Keep h0 h [] := (Keep.refl h0 []).ext E
theorem own_extE {h0 h h' : Heap} (K : Ext h0 h) (E : Ext h h') : Ext h0 h' := ⟨Nat.le_trans K.1 E.1, fun a c q => E.2 a c (K.2 a c q)⟩
theorem own_extW {h0 h h' : Heap} {a : Addr} {sl : Nat} {v : Value} (K : Ext h0 h) (W : Wr h h' a sl v) (q : h0.size ≤ a) : Ext h0 h' := own_ext ((own_keep K).wr W (Or.inr q))
theorem own_refl (h : Heap) : Ext h h := ⟨Nat.le_refl _, fun _ _ q => q⟩
theorem own_extK {h0 h h' : Heap} {ws : List Addr} (K : Ext h0 h) (Q : Keep h h' ws) (q : ∀ x ∈ ws, h0.size ≤ x) : Ext h0 h' := ⟨Nat.le_trans K.1 Q.1, fun a c hc => Q.2.1 a c (K.2 a c hc) fun z => absurd (Array.getElem?_eq_some_iff.mp hc).1 (Nat.not_lt.mpr (q a z))⟩
theorem own_getR {p : Program} {l : Launch} {e : Env} {R : Room} {s : State} {m : MethodId} {args : Array Value} {below : List Frame} {meth : Method} {c : Code} {T : State} {locs : List Loc} {cells slots : Nat} {Z : State} {a0 : Array Value} {h : Heap}
    (X : Stand p l e R s m args below meth c T locs cells slots) (hx : p.tables.exec = Jvm.exec) (hZ : Z.Warmed39 s.vm) {own O n d : String} {index : Nat} (hown : s.vm.findClass own = some m.cls) (w : (Cond.fieldRef own index O n d).before a0 Z = true) (eT : T.heap = h) {a : Addr} {v : Value} (F : Fld Z h a O n d v)
    {g : JFrame} (hg : g.method = m) {rest : List Value} (hs : g.stack = .ref a :: rest) (hd : decode c.code g.pc = .ok (.getfield index, 3)) : ∀ target, Steps p.tables e below (T.setTop { g with pc := g.pc + 3, stack := v :: rest }) target → Steps p.tables e below (T.setTop g) target := by
  obtain ⟨cell, cf, k, i, f, h1, h2, h3, h4, -, -, h7⟩ := F
  have hT : Z.Warmed39 T.vm := wtrans hZ X.warmed
  have w1 : (Cond.fieldRef own index O n d).before a0 (Z.setVm T.vm) = true := Cond.fieldRef_warmed39 hT w
  have hownT : (Z.setVm T.vm).vm.findClass own = some m.cls := by show T.vm.findClass own = _; rw [X.warmed.alike.findClass]; exact hown
  obtain ⟨c', k', i', f', hi, hready⟩ := Cond.fieldRef_spec (s := Z.setVm T.vm) hownT w1
  obtain ⟨k'', hi', -⟩ := State.fieldFound?_setVm (s := Z) hT.alike h2
  cases hi.symm.trans hi'
  exact fun target ht => (X.getfieldR hx hg hready h3 hs (by rw [eT]; exact h1) h4 h7 hd (Steps.refl _)).trans ht
theorem own_eqRef {args : Array Value} {first s : State} {o : Option Outcome} {idx : List Nat} {a b : Term} {y : Addr} (h : (Jvm.Cond.eq a b).value args first o s idx = some true) (hb : b.eval args first o idx s = some (.ref y)) : a.eval args first o idx s = some (.ref y) := by
  simp only [Cond.value, hb] at h
  cases ha : a.eval args first o idx s with
  | none => simp [ha] at h
  | some x => cases x <;> simp [ha] at h ⊢ <;> exact h
theorem own_fldR {args : Array Value} {s : State} {t u : Term} {C f d : String} {x y : Addr} (h : (Jvm.Cond.eq (.field t C f d) u).value args s none s [] = some true) (ht : t.eval args s none [] s = some (.ref x)) (hu : u.eval args s none [] s = some (.ref y)) : Fld s s.heap x C f d (.ref y) :=
  Fld.start (by rw [← fld_at (C := C) (n := f) (dd := d) ht]; exact own_eqRef h hu)
theorem own_len {args : Array Value} {s : State} {t : Term} {a : Addr} {cl : Cell} {z : Int32} (h : (Term.length t).eval args s none [] s = some (.int z)) (ht : t.eval args s none [] s = some (.ref a)) (ha : s.arrayAt? a = some cl) : cl.slots.size < 2 ^ 31 ∧ cl.slots.size.toInt32 = z := by
  simp only [Term.eval, ht, ha, Option.bind_eq_bind, Option.bind_some] at h
  split at h
  · rename_i q; exact ⟨q, by simpa using h⟩
  · cases h
theorem own_fldL {args : Array Value} {s : State} {idx : List Nat} {t u : Term} {C f d : String} {n : Int64} {x : Addr} (h : (Jvm.Cond.eq (.field t C f d) u).value args s none s idx = some true) (ht : t.eval args s none idx s = some (.ref x)) (hu : u.eval args s none idx s = some (.long n)) : Fld s s.heap x C f d (.long n) :=
  Fld.start (by
    rw [← fld_at (C := C) (n := f) (dd := d) ht]
    simp only [Cond.value, hu] at h
    cases ha : (Term.field t C f d).eval args s none idx s with
    | none => simp [ha] at h
    | some x => cases x <;> simp [ha] at h ⊢ <;> exact h)
theorem own_fldI2 {args : Array Value} {s : State} {idx : List Nat} {t u : Term} {C f d : String} {n : Int32} {x : Addr} (h : (Jvm.Cond.eq (.field t C f d) u).value args s none s idx = some true) (ht : t.eval args s none idx s = some (.ref x)) (hu : u.eval args s none idx s = some (.int n)) : Fld s s.heap x C f d (.int n) :=
  Fld.start (by
    rw [← fld_at (C := C) (n := f) (dd := d) ht]
    simp only [Cond.value, hu] at h
    cases ha : (Term.field t C f d).eval args s none idx s with
    | none => simp [ha] at h
    | some x => cases x <;> simp [ha] at h ⊢ <;> exact h)
theorem own_selp {s : State} {args : Array Value} {y z : MethodName} (hsel : (Cond.selects z.cls z z).before args s = true) (hcls : z.cls = y.cls) (hpriv : s.PrivateAt y) (hinst : (Cond.instanceMethod y).before args s = true) (hy : y.cls ≠ "java/lang/invoke/MethodHandle" ∧ y.cls ≠ "java/lang/invoke/VarHandle") : (Cond.selects y.cls y y).before args s = true := by
  obtain ⟨c2, r2, m2, q1, q2, q3, q4, kP, hkP, hkPi⟩ := Cond.selects_spec hsel
  exact selects_self_of_private (hcls ▸ findClass_of_methodNamed q3) hkP hkPi hpriv hinst hy
theorem own_nat {z : Int32} (h : 0 ≤ z.toInt) : z.toInt = z.toNatClampNeg := (Int.toNat_of_nonneg h).symm
theorem own_inb {z n : Int32} (N : Int) (hn : n.toInt = N) (h1 : 0 ≤ z.toInt) (h2 : z.toInt < N) : ¬ z < 0 ∧ z < n := by
  rw [Int32.lt_iff_toInt_lt, Int32.lt_iff_toInt_lt, hn]
  exact ⟨by have q : (0 : Int32).toInt = 0 := (by decide); omega, h2⟩
theorem own_inj {Z : State} {h : Heap} {C f d : String} {w : Nat → Addr} {n : Nat} (ho : ∀ k, k < n → Fld Z h (w k) C f d (.int k.toInt32)) (hn : n < 2 ^ 31) : ∀ i j, i < n → j < n → w i = w j → i = j := fun i j hi hj q => Classical.byContradiction fun ne => Fld.ne (ho i hi) (ho j hj) (fun z => ne (by
    have z1 : i.toInt32.toInt = j.toInt32.toInt := by rw [Value.int.inj z]
    rw [len_toInt (by omega), len_toInt (by omega)] at z1
    omega)) q
theorem own_mask (k : Int32) : 0 ≤ (k &&& 2147483647).toInt ∧ (k &&& 2147483647).toInt < 2147483648 := by
  have h1 : (k &&& 2147483647).toInt = ((k &&& 2147483647).toBitVec).toInt := rfl
  have h2 : (k &&& 2147483647).toBitVec = k.toBitVec &&& 2147483647#32 := rfl
  rw [h1, h2]
  have h3 : (k.toBitVec &&& 2147483647#32).msb = false := by rw [BitVec.msb_and, show (2147483647#32).msb = false from by decide, Bool.and_false]
  rw [BitVec.toInt_eq_toNat_of_msb h3]
  have h4 := BitVec.isLt (k.toBitVec &&& 2147483647#32)
  rw [BitVec.msb_eq_decide] at h3
  simp at h3 ⊢
  omega
theorem own_rem (k n : Int32) (N : Int) (hn : n.toInt = N) (hN : 0 < N) : 0 ≤ ((k &&& 2147483647) % n).toInt ∧ ((k &&& 2147483647) % n).toInt < N := by
  have h := own_mask k
  rw [Int32.toInt_mod, hn]
  generalize (k &&& 2147483647).toInt = z at h
  rw [Int.tmod_eq_emod_of_nonneg h.1]
  exact ⟨Int.emod_nonneg _ (by omega), Int.emod_lt_of_pos _ hN⟩
theorem own_i32_ne {x y : Int32} (h : ¬ x = y) : x.toInt ≠ y.toInt := fun q => h (Int32.toInt_inj.mp q)
theorem own_lt {x y : Int32} (h : x < y) : x.toInt < y.toInt := Int32.lt_iff_toInt_lt.mp h
theorem own_nlt {x y : Int32} (h : ¬ x < y) : y.toInt ≤ x.toInt := by rw [Int32.lt_iff_toInt_lt] at h; omega

theorem d1_0 : decode method_2_code 0 = .ok (.iload_n 0, 1) := by decide +kernel
theorem d1_1 : decode method_2_code 1 = .ok (.ifCond .ne 7, 3) := by decide +kernel
theorem d1_4 : decode method_2_code 4 = .ok (.getstatic 7, 3) := by decide +kernel
theorem d1_7 : decode method_2_code 7 = .ok (.areturn, 1) := by decide +kernel
theorem d1_8 : decode method_2_code 8 = .ok (.iload_n 0, 1) := by decide +kernel
theorem d1_9 : decode method_2_code 9 = .ok (.iconst 1, 1) := by decide +kernel
theorem d1_10 : decode method_2_code 10 = .ok (.if_icmp .ne 7, 3) := by decide +kernel
theorem d1_13 : decode method_2_code 13 = .ok (.getstatic 13, 3) := by decide +kernel
theorem d1_16 : decode method_2_code 16 = .ok (.areturn, 1) := by decide +kernel
theorem d1_17 : decode method_2_code 17 = .ok (.iload_n 0, 1) := by decide +kernel
theorem d1_18 : decode method_2_code 18 = .ok (.iconst 2, 1) := by decide +kernel
theorem d1_19 : decode method_2_code 19 = .ok (.if_icmp .ne 7, 3) := by decide +kernel
theorem d1_22 : decode method_2_code 22 = .ok (.getstatic 16, 3) := by decide +kernel
theorem d1_25 : decode method_2_code 25 = .ok (.areturn, 1) := by decide +kernel
theorem d1_26 : decode method_2_code 26 = .ok (.iload_n 0, 1) := by decide +kernel
theorem d1_27 : decode method_2_code 27 = .ok (.iconst 3, 1) := by decide +kernel
theorem d1_28 : decode method_2_code 28 = .ok (.if_icmp .ne 7, 3) := by decide +kernel
theorem d1_31 : decode method_2_code 31 = .ok (.getstatic 19, 3) := by decide +kernel
theorem d1_34 : decode method_2_code 34 = .ok (.areturn, 1) := by decide +kernel
theorem d1_35 : decode method_2_code 35 = .ok (.iload_n 0, 1) := by decide +kernel
theorem d1_36 : decode method_2_code 36 = .ok (.iconst 4, 1) := by decide +kernel
theorem d1_37 : decode method_2_code 37 = .ok (.if_icmp .ne 7, 3) := by decide +kernel
theorem d1_40 : decode method_2_code 40 = .ok (.getstatic 22, 3) := by decide +kernel
theorem d1_43 : decode method_2_code 43 = .ok (.areturn, 1) := by decide +kernel
theorem d1_44 : decode method_2_code 44 = .ok (.iload_n 0, 1) := by decide +kernel
theorem d1_45 : decode method_2_code 45 = .ok (.iconst 5, 1) := by decide +kernel
theorem d1_46 : decode method_2_code 46 = .ok (.if_icmp .ne 7, 3) := by decide +kernel
theorem d1_49 : decode method_2_code 49 = .ok (.getstatic 25, 3) := by decide +kernel
theorem d1_52 : decode method_2_code 52 = .ok (.areturn, 1) := by decide +kernel
theorem d1_53 : decode method_2_code 53 = .ok (.iload_n 0, 1) := by decide +kernel
theorem d1_54 : decode method_2_code 54 = .ok (.bipush 6, 2) := by decide +kernel
theorem d1_56 : decode method_2_code 56 = .ok (.if_icmp .ne 7, 3) := by decide +kernel
theorem d1_59 : decode method_2_code 59 = .ok (.getstatic 28, 3) := by decide +kernel
theorem d1_62 : decode method_2_code 62 = .ok (.areturn, 1) := by decide +kernel
theorem d1_63 : decode method_2_code 63 = .ok (.iload_n 0, 1) := by decide +kernel
theorem d1_64 : decode method_2_code 64 = .ok (.bipush 7, 2) := by decide +kernel
theorem d1_66 : decode method_2_code 66 = .ok (.if_icmp .ne 7, 3) := by decide +kernel
theorem d1_69 : decode method_2_code 69 = .ok (.getstatic 31, 3) := by decide +kernel
theorem d1_72 : decode method_2_code 72 = .ok (.areturn, 1) := by decide +kernel
theorem d1_73 : decode method_2_code 73 = .ok (.iload_n 0, 1) := by decide +kernel
theorem d1_74 : decode method_2_code 74 = .ok (.bipush 8, 2) := by decide +kernel
theorem d1_76 : decode method_2_code 76 = .ok (.if_icmp .ne 7, 3) := by decide +kernel
theorem d1_79 : decode method_2_code 79 = .ok (.getstatic 34, 3) := by decide +kernel
theorem d1_82 : decode method_2_code 82 = .ok (.areturn, 1) := by decide +kernel
theorem d1_83 : decode method_2_code 83 = .ok (.getstatic 37, 3) := by decide +kernel
theorem d1_86 : decode method_2_code 86 = .ok (.areturn, 1) := by decide +kernel
theorem pn1 : plainName "com/example/plumb_stacks/plumbstacks/DigestAlgorithmHashesPinLaw" = true := by first | (simp [plainName, overriddenIn]; done) | decide +kernel
theorem ef1 (m : MethodId) (x0 : Int32) : entryFrame m #[(.int x0)] 1 = mkF m 0 #[.val (.int x0)] [] := by first | (simp [entryFrame, mkF, argsToLocals, Value.category]; done) | rfl
def Q1 (Z : State) (p1 : Int32) (w : Nat → Addr) (h0 : Heap) (n0 : Nat) (v : Option Value) (h : Heap) (L : List Loc) : Prop := ∃ j, v = some (.ref (w j)) ∧ Fr n0 L ∧ h = h0 ∧ j < 10 ∧ p1.toInt = j
set_option maxRecDepth 65536 in
set_option maxHeartbeats 40000000 in
theorem rm1 (l : Launch) (Z : State) (a0 : Array Value) (hw : ∀ d ∈ tables_1, d.before a0 Z = true) (ws : List Jvm.Cond) (p1 : Int32) (w : Nat → Addr) (h0 : Heap) (n0 : Nat) (Z0 : n0 ≤ h0.size) (S_SHA512 : Sta Z h0 "com/example/plumb_stacks/plumbstacks/DigestAlgorithm" "SHA512" "Lcom/example/plumb_stacks/plumbstacks/DigestAlgorithm;" (.ref (w 0))) (S_SHA256 : Sta Z h0 "com/example/plumb_stacks/plumbstacks/DigestAlgorithm" "SHA256" "Lcom/example/plumb_stacks/plumbstacks/DigestAlgorithm;" (.ref (w 1))) (S_SHA1 : Sta Z h0 "com/example/plumb_stacks/plumbstacks/DigestAlgorithm" "SHA1" "Lcom/example/plumb_stacks/plumbstacks/DigestAlgorithm;" (.ref (w 2))) (S_MD5 : Sta Z h0 "com/example/plumb_stacks/plumbstacks/DigestAlgorithm" "MD5" "Lcom/example/plumb_stacks/plumbstacks/DigestAlgorithm;" (.ref (w 3))) (S_BLAKE2B_512 : Sta Z h0 "com/example/plumb_stacks/plumbstacks/DigestAlgorithm" "BLAKE2B_512" "Lcom/example/plumb_stacks/plumbstacks/DigestAlgorithm;" (.ref (w 4))) (S_BLAKE2B_160 : Sta Z h0 "com/example/plumb_stacks/plumbstacks/DigestAlgorithm" "BLAKE2B_160" "Lcom/example/plumb_stacks/plumbstacks/DigestAlgorithm;" (.ref (w 5))) (S_BLAKE2B_256 : Sta Z h0 "com/example/plumb_stacks/plumbstacks/DigestAlgorithm" "BLAKE2B_256" "Lcom/example/plumb_stacks/plumbstacks/DigestAlgorithm;" (.ref (w 6))) (S_BLAKE2B_384 : Sta Z h0 "com/example/plumb_stacks/plumbstacks/DigestAlgorithm" "BLAKE2B_384" "Lcom/example/plumb_stacks/plumbstacks/DigestAlgorithm;" (.ref (w 7))) (S_SHA512_256 : Sta Z h0 "com/example/plumb_stacks/plumbstacks/DigestAlgorithm" "SHA512_256" "Lcom/example/plumb_stacks/plumbstacks/DigestAlgorithm;" (.ref (w 8))) (S_SIZE : Sta Z h0 "com/example/plumb_stacks/plumbstacks/DigestAlgorithm" "SIZE" "Lcom/example/plumb_stacks/plumbstacks/DigestAlgorithm;" (.ref (w 9))) (hlo : 0 ≤ p1.toInt) (hhi : p1.toInt < 10) :
    MetFree l (⟨"com/example/plumb_stacks/plumbstacks/DigestAlgorithmHashesPinLaw", "pick", "(I)Lcom/example/plumb_stacks/plumbstacks/DigestAlgorithm;"⟩ : MethodName) (head1 (Jvm.Cond.code (⟨"com/example/plumb_stacks/plumbstacks/DigestAlgorithmHashesPinLaw", "pick", "(I)Lcom/example/plumb_stacks/plumbstacks/DigestAlgorithm;"⟩ : MethodName) method_2_code 1 (some (.object "com/example/plumb_stacks/plumbstacks/DigestAlgorithm")) :: ws) ({ frames := 0, cells := 0, slots := 0, locals := 0 } : Room)) (fun aq Uq => aq = #[(.int p1)] ∧ Z.Warmed39 Uq.vm ∧ Uq.heap = h0) (fun _ _ _ _ _ => True) (fun _ U o U' => ∃ v L, o = .returned v ∧ Q1 Z p1 w h0 n0 v U'.heap L ∧ FrameEnd U o U' L ({ frames := 0, cells := 0, slots := 0, locals := 0 } : Room).cells ({ frames := 0, cells := 0, slots := 0, locals := 0 } : Room).slots) := by
  refine MetFree.of_bodySF (plainFor_of_name pn1) hisR ?_
  intro p e s m args below meth c s₁ Bd hml0 hP hK
  obtain ⟨rfl, hZ, hh⟩ := hP
  have hx := Bd.exec
  have hby := Bd.bytes
  have hml : c.maxLocals = 1 := hml0
  have hown : s.vm.findClass "com/example/plumb_stacks/plumbstacks/DigestAlgorithmHashesPinLaw" = some m.cls := findClass_of_methodNamed Bd.named
  have hnm := (name_of_methodNamed Bd.named Bd.method).1
  have X0 : Stand p l e ({ frames := 0, cells := 0, slots := 0, locals := 0 } : Room) s m #[(.int p1)] below meth c s₁ [] 0 0 := Stand.of_body Bd
  have e0 : s₁.heap = h0 := by rw [← hh, Bd.state]; rfl
  have N0 := Fr.nil n0
  obtain ⟨A, hA⟩ : ∃ A, A = s₁.setTop (entryFrame m #[(.int p1)] 1) := ⟨_, rfl⟩
  rw [← hA]
  have g0 : Gz p.tables e below A s₁ (mkF m 0 #[.val (.int p1)] []) := fun tq kq => by rw [hA]; exact castTop (ef1 m p1) kq
  have g1 : Gz p.tables e below A s₁ (mkF m 1 #[.val (.int p1)] [(.int p1)]) := fun tq kq => g0 tq (XS.iloadN X0.here hx rfl (hb hby d1_0) rfl kq)
  by_cases hc1 : p1 = (0 : Int32)
  · have g2 : Gz p.tables e below A s₁ (mkF m 4 #[.val (.int p1)] []) := fun tq kq => g1 tq (XS.ifNo X0.here hx rfl (hb hby d1_1) rfl ((if0 _ _).trans (teq hc1).2) kq)
    obtain ⟨T3, X3, e3, st3⟩ := getS2 X0 hx hZ hown (host := "") (Or.inl (hw _ (List.mem_of_getElem? (i := 5) rfl))) Via.refl e0 S_SHA512 (g := (mkF m 4 #[.val (.int p1)] [])) rfl (hb hby d1_4)
    have g4 : Gz p.tables e below A T3 (mkF m 7 #[.val (.int p1)] [(.ref (w 0))]) := fun tq kq => g2 tq (st3 tq kq)
    obtain ⟨fs, hr, hrun, hended, hW, hsame⟩ := X3.leave (v := some (.ref (w 0))) (fun h => by rw [Bd.returns] at h; cases h)
    refine ⟨_, _, g4 _ (retOut X3 hx Bd.returns rfl (Or.inr (Or.inr (Or.inr (Or.inr ⟨rfl, rfl, rfl⟩)))) (hb hby d1_7) hr), hrun, hended, _, _, rfl, ?_, ⟨_, rfl⟩, hW, hsame.mono (by decide) (by decide)⟩
    show Q1 Z p1 w h0 n0 _ T3.heap _
    rw [e3]
    exact ⟨0, rfl, N0, rfl, by decide, by rw [hc1]; decide⟩
  · have g5 : Gz p.tables e below A s₁ (mkF m 8 #[.val (.int p1)] []) := fun tq kq => g1 tq (XS.ifYes X0.here hx rfl (pc0 := 1) (pc' := 8) rfl (hb hby d1_1) rfl ((if0 _ _).trans (feq hc1).2) (by decide) (by decide) kq)
    have g6 : Gz p.tables e below A s₁ (mkF m 9 #[.val (.int p1)] [(.int p1)]) := fun tq kq => g5 tq (XS.iloadN X0.here hx rfl (hb hby d1_8) rfl kq)
    have g7 : Gz p.tables e below A s₁ (mkF m 10 #[.val (.int p1)] [(.int (1 : Int32)), (.int p1)]) := fun tq kq => g6 tq (XS.iconst X0.here hx rfl (hb hby d1_9) kq)
    by_cases hc10 : p1 = (1 : Int32)
    · have g8 : Gz p.tables e below A s₁ (mkF m 13 #[.val (.int p1)] []) := fun tq kq => g7 tq (XS.icmpNo X0.here hx rfl (hb hby d1_10) rfl (teq hc10).2 kq)
      obtain ⟨T9, X9, e9, st9⟩ := getS2 X0 hx hZ hown (host := "") (Or.inl (hw _ (List.mem_of_getElem? (i := 22) rfl))) Via.refl e0 S_SHA256 (g := (mkF m 13 #[.val (.int p1)] [])) rfl (hb hby d1_13)
      have g10 : Gz p.tables e below A T9 (mkF m 16 #[.val (.int p1)] [(.ref (w 1))]) := fun tq kq => g8 tq (st9 tq kq)
      obtain ⟨fs, hr, hrun, hended, hW, hsame⟩ := X9.leave (v := some (.ref (w 1))) (fun h => by rw [Bd.returns] at h; cases h)
      refine ⟨_, _, g10 _ (retOut X9 hx Bd.returns rfl (Or.inr (Or.inr (Or.inr (Or.inr ⟨rfl, rfl, rfl⟩)))) (hb hby d1_16) hr), hrun, hended, _, _, rfl, ?_, ⟨_, rfl⟩, hW, hsame.mono (by decide) (by decide)⟩
      show Q1 Z p1 w h0 n0 _ T9.heap _
      rw [e9]
      exact ⟨1, rfl, N0, rfl, by decide, by rw [hc10]; decide⟩
    · have g11 : Gz p.tables e below A s₁ (mkF m 17 #[.val (.int p1)] []) := fun tq kq => g7 tq (XS.icmpYes X0.here hx rfl (pc0 := 10) (pc' := 17) rfl (hb hby d1_10) rfl (feq hc10).2 (by decide) (by decide) kq)
      have g12 : Gz p.tables e below A s₁ (mkF m 18 #[.val (.int p1)] [(.int p1)]) := fun tq kq => g11 tq (XS.iloadN X0.here hx rfl (hb hby d1_17) rfl kq)
      have g13 : Gz p.tables e below A s₁ (mkF m 19 #[.val (.int p1)] [(.int (2 : Int32)), (.int p1)]) := fun tq kq => g12 tq (XS.iconst X0.here hx rfl (hb hby d1_18) kq)
      by_cases hc19 : p1 = (2 : Int32)
      · have g14 : Gz p.tables e below A s₁ (mkF m 22 #[.val (.int p1)] []) := fun tq kq => g13 tq (XS.icmpNo X0.here hx rfl (hb hby d1_19) rfl (teq hc19).2 kq)
        obtain ⟨T15, X15, e15, st15⟩ := getS2 X0 hx hZ hown (host := "") (Or.inl (hw _ (List.mem_of_getElem? (i := 28) rfl))) Via.refl e0 S_SHA1 (g := (mkF m 22 #[.val (.int p1)] [])) rfl (hb hby d1_22)
        have g16 : Gz p.tables e below A T15 (mkF m 25 #[.val (.int p1)] [(.ref (w 2))]) := fun tq kq => g14 tq (st15 tq kq)
        obtain ⟨fs, hr, hrun, hended, hW, hsame⟩ := X15.leave (v := some (.ref (w 2))) (fun h => by rw [Bd.returns] at h; cases h)
        refine ⟨_, _, g16 _ (retOut X15 hx Bd.returns rfl (Or.inr (Or.inr (Or.inr (Or.inr ⟨rfl, rfl, rfl⟩)))) (hb hby d1_25) hr), hrun, hended, _, _, rfl, ?_, ⟨_, rfl⟩, hW, hsame.mono (by decide) (by decide)⟩
        show Q1 Z p1 w h0 n0 _ T15.heap _
        rw [e15]
        exact ⟨2, rfl, N0, rfl, by decide, by rw [hc19]; decide⟩
      · have g17 : Gz p.tables e below A s₁ (mkF m 26 #[.val (.int p1)] []) := fun tq kq => g13 tq (XS.icmpYes X0.here hx rfl (pc0 := 19) (pc' := 26) rfl (hb hby d1_19) rfl (feq hc19).2 (by decide) (by decide) kq)
        have g18 : Gz p.tables e below A s₁ (mkF m 27 #[.val (.int p1)] [(.int p1)]) := fun tq kq => g17 tq (XS.iloadN X0.here hx rfl (hb hby d1_26) rfl kq)
        have g19 : Gz p.tables e below A s₁ (mkF m 28 #[.val (.int p1)] [(.int (3 : Int32)), (.int p1)]) := fun tq kq => g18 tq (XS.iconst X0.here hx rfl (hb hby d1_27) kq)
        by_cases hc28 : p1 = (3 : Int32)
        · have g20 : Gz p.tables e below A s₁ (mkF m 31 #[.val (.int p1)] []) := fun tq kq => g19 tq (XS.icmpNo X0.here hx rfl (hb hby d1_28) rfl (teq hc28).2 kq)
          obtain ⟨T21, X21, e21, st21⟩ := getS2 X0 hx hZ hown (host := "") (Or.inl (hw _ (List.mem_of_getElem? (i := 20) rfl))) Via.refl e0 S_MD5 (g := (mkF m 31 #[.val (.int p1)] [])) rfl (hb hby d1_31)
          have g22 : Gz p.tables e below A T21 (mkF m 34 #[.val (.int p1)] [(.ref (w 3))]) := fun tq kq => g20 tq (st21 tq kq)
          obtain ⟨fs, hr, hrun, hended, hW, hsame⟩ := X21.leave (v := some (.ref (w 3))) (fun h => by rw [Bd.returns] at h; cases h)
          refine ⟨_, _, g22 _ (retOut X21 hx Bd.returns rfl (Or.inr (Or.inr (Or.inr (Or.inr ⟨rfl, rfl, rfl⟩)))) (hb hby d1_34) hr), hrun, hended, _, _, rfl, ?_, ⟨_, rfl⟩, hW, hsame.mono (by decide) (by decide)⟩
          show Q1 Z p1 w h0 n0 _ T21.heap _
          rw [e21]
          exact ⟨3, rfl, N0, rfl, by decide, by rw [hc28]; decide⟩
        · have g23 : Gz p.tables e below A s₁ (mkF m 35 #[.val (.int p1)] []) := fun tq kq => g19 tq (XS.icmpYes X0.here hx rfl (pc0 := 28) (pc' := 35) rfl (hb hby d1_28) rfl (feq hc28).2 (by decide) (by decide) kq)
          have g24 : Gz p.tables e below A s₁ (mkF m 36 #[.val (.int p1)] [(.int p1)]) := fun tq kq => g23 tq (XS.iloadN X0.here hx rfl (hb hby d1_35) rfl kq)
          have g25 : Gz p.tables e below A s₁ (mkF m 37 #[.val (.int p1)] [(.int (4 : Int32)), (.int p1)]) := fun tq kq => g24 tq (XS.iconst X0.here hx rfl (hb hby d1_36) kq)
          by_cases hc37 : p1 = (4 : Int32)
          · have g26 : Gz p.tables e below A s₁ (mkF m 40 #[.val (.int p1)] []) := fun tq kq => g25 tq (XS.icmpNo X0.here hx rfl (hb hby d1_37) rfl (teq hc37).2 kq)
            obtain ⟨T27, X27, e27, st27⟩ := getS2 X0 hx hZ hown (host := "") (Or.inl (hw _ (List.mem_of_getElem? (i := 24) rfl))) Via.refl e0 S_BLAKE2B_512 (g := (mkF m 40 #[.val (.int p1)] [])) rfl (hb hby d1_40)
            have g28 : Gz p.tables e below A T27 (mkF m 43 #[.val (.int p1)] [(.ref (w 4))]) := fun tq kq => g26 tq (st27 tq kq)
            obtain ⟨fs, hr, hrun, hended, hW, hsame⟩ := X27.leave (v := some (.ref (w 4))) (fun h => by rw [Bd.returns] at h; cases h)
            refine ⟨_, _, g28 _ (retOut X27 hx Bd.returns rfl (Or.inr (Or.inr (Or.inr (Or.inr ⟨rfl, rfl, rfl⟩)))) (hb hby d1_43) hr), hrun, hended, _, _, rfl, ?_, ⟨_, rfl⟩, hW, hsame.mono (by decide) (by decide)⟩
            show Q1 Z p1 w h0 n0 _ T27.heap _
            rw [e27]
            exact ⟨4, rfl, N0, rfl, by decide, by rw [hc37]; decide⟩
          · have g29 : Gz p.tables e below A s₁ (mkF m 44 #[.val (.int p1)] []) := fun tq kq => g25 tq (XS.icmpYes X0.here hx rfl (pc0 := 37) (pc' := 44) rfl (hb hby d1_37) rfl (feq hc37).2 (by decide) (by decide) kq)
            have g30 : Gz p.tables e below A s₁ (mkF m 45 #[.val (.int p1)] [(.int p1)]) := fun tq kq => g29 tq (XS.iloadN X0.here hx rfl (hb hby d1_44) rfl kq)
            have g31 : Gz p.tables e below A s₁ (mkF m 46 #[.val (.int p1)] [(.int (5 : Int32)), (.int p1)]) := fun tq kq => g30 tq (XS.iconst X0.here hx rfl (hb hby d1_45) kq)
            by_cases hc46 : p1 = (5 : Int32)
            · have g32 : Gz p.tables e below A s₁ (mkF m 49 #[.val (.int p1)] []) := fun tq kq => g31 tq (XS.icmpNo X0.here hx rfl (hb hby d1_46) rfl (teq hc46).2 kq)
              obtain ⟨T33, X33, e33, st33⟩ := getS2 X0 hx hZ hown (host := "") (Or.inl (hw _ (List.mem_of_getElem? (i := 37) rfl))) Via.refl e0 S_BLAKE2B_160 (g := (mkF m 49 #[.val (.int p1)] [])) rfl (hb hby d1_49)
              have g34 : Gz p.tables e below A T33 (mkF m 52 #[.val (.int p1)] [(.ref (w 5))]) := fun tq kq => g32 tq (st33 tq kq)
              obtain ⟨fs, hr, hrun, hended, hW, hsame⟩ := X33.leave (v := some (.ref (w 5))) (fun h => by rw [Bd.returns] at h; cases h)
              refine ⟨_, _, g34 _ (retOut X33 hx Bd.returns rfl (Or.inr (Or.inr (Or.inr (Or.inr ⟨rfl, rfl, rfl⟩)))) (hb hby d1_52) hr), hrun, hended, _, _, rfl, ?_, ⟨_, rfl⟩, hW, hsame.mono (by decide) (by decide)⟩
              show Q1 Z p1 w h0 n0 _ T33.heap _
              rw [e33]
              exact ⟨5, rfl, N0, rfl, by decide, by rw [hc46]; decide⟩
            · have g35 : Gz p.tables e below A s₁ (mkF m 53 #[.val (.int p1)] []) := fun tq kq => g31 tq (XS.icmpYes X0.here hx rfl (pc0 := 46) (pc' := 53) rfl (hb hby d1_46) rfl (feq hc46).2 (by decide) (by decide) kq)
              have g36 : Gz p.tables e below A s₁ (mkF m 54 #[.val (.int p1)] [(.int p1)]) := fun tq kq => g35 tq (XS.iloadN X0.here hx rfl (hb hby d1_53) rfl kq)
              have g37 : Gz p.tables e below A s₁ (mkF m 56 #[.val (.int p1)] [(.int (6 : Int32)), (.int p1)]) := fun tq kq => g36 tq (XS.bipush X0.here hx rfl (hb hby d1_54) kq)
              by_cases hc56 : p1 = (6 : Int32)
              · have g38 : Gz p.tables e below A s₁ (mkF m 59 #[.val (.int p1)] []) := fun tq kq => g37 tq (XS.icmpNo X0.here hx rfl (hb hby d1_56) rfl (teq hc56).2 kq)
                obtain ⟨T39, X39, e39, st39⟩ := getS2 X0 hx hZ hown (host := "") (Or.inl (hw _ (List.mem_of_getElem? (i := 39) rfl))) Via.refl e0 S_BLAKE2B_256 (g := (mkF m 59 #[.val (.int p1)] [])) rfl (hb hby d1_59)
                have g40 : Gz p.tables e below A T39 (mkF m 62 #[.val (.int p1)] [(.ref (w 6))]) := fun tq kq => g38 tq (st39 tq kq)
                obtain ⟨fs, hr, hrun, hended, hW, hsame⟩ := X39.leave (v := some (.ref (w 6))) (fun h => by rw [Bd.returns] at h; cases h)
                refine ⟨_, _, g40 _ (retOut X39 hx Bd.returns rfl (Or.inr (Or.inr (Or.inr (Or.inr ⟨rfl, rfl, rfl⟩)))) (hb hby d1_62) hr), hrun, hended, _, _, rfl, ?_, ⟨_, rfl⟩, hW, hsame.mono (by decide) (by decide)⟩
                show Q1 Z p1 w h0 n0 _ T39.heap _
                rw [e39]
                exact ⟨6, rfl, N0, rfl, by decide, by rw [hc56]; decide⟩
              · have g41 : Gz p.tables e below A s₁ (mkF m 63 #[.val (.int p1)] []) := fun tq kq => g37 tq (XS.icmpYes X0.here hx rfl (pc0 := 56) (pc' := 63) rfl (hb hby d1_56) rfl (feq hc56).2 (by decide) (by decide) kq)
                have g42 : Gz p.tables e below A s₁ (mkF m 64 #[.val (.int p1)] [(.int p1)]) := fun tq kq => g41 tq (XS.iloadN X0.here hx rfl (hb hby d1_63) rfl kq)
                have g43 : Gz p.tables e below A s₁ (mkF m 66 #[.val (.int p1)] [(.int (7 : Int32)), (.int p1)]) := fun tq kq => g42 tq (XS.bipush X0.here hx rfl (hb hby d1_64) kq)
                by_cases hc66 : p1 = (7 : Int32)
                · have g44 : Gz p.tables e below A s₁ (mkF m 69 #[.val (.int p1)] []) := fun tq kq => g43 tq (XS.icmpNo X0.here hx rfl (hb hby d1_66) rfl (teq hc66).2 kq)
                  obtain ⟨T45, X45, e45, st45⟩ := getS2 X0 hx hZ hown (host := "") (Or.inl (hw _ (List.mem_of_getElem? (i := 26) rfl))) Via.refl e0 S_BLAKE2B_384 (g := (mkF m 69 #[.val (.int p1)] [])) rfl (hb hby d1_69)
                  have g46 : Gz p.tables e below A T45 (mkF m 72 #[.val (.int p1)] [(.ref (w 7))]) := fun tq kq => g44 tq (st45 tq kq)
                  obtain ⟨fs, hr, hrun, hended, hW, hsame⟩ := X45.leave (v := some (.ref (w 7))) (fun h => by rw [Bd.returns] at h; cases h)
                  refine ⟨_, _, g46 _ (retOut X45 hx Bd.returns rfl (Or.inr (Or.inr (Or.inr (Or.inr ⟨rfl, rfl, rfl⟩)))) (hb hby d1_72) hr), hrun, hended, _, _, rfl, ?_, ⟨_, rfl⟩, hW, hsame.mono (by decide) (by decide)⟩
                  show Q1 Z p1 w h0 n0 _ T45.heap _
                  rw [e45]
                  exact ⟨7, rfl, N0, rfl, by decide, by rw [hc66]; decide⟩
                · have g47 : Gz p.tables e below A s₁ (mkF m 73 #[.val (.int p1)] []) := fun tq kq => g43 tq (XS.icmpYes X0.here hx rfl (pc0 := 66) (pc' := 73) rfl (hb hby d1_66) rfl (feq hc66).2 (by decide) (by decide) kq)
                  have g48 : Gz p.tables e below A s₁ (mkF m 74 #[.val (.int p1)] [(.int p1)]) := fun tq kq => g47 tq (XS.iloadN X0.here hx rfl (hb hby d1_73) rfl kq)
                  have g49 : Gz p.tables e below A s₁ (mkF m 76 #[.val (.int p1)] [(.int (8 : Int32)), (.int p1)]) := fun tq kq => g48 tq (XS.bipush X0.here hx rfl (hb hby d1_74) kq)
                  by_cases hc76 : p1 = (8 : Int32)
                  · have g50 : Gz p.tables e below A s₁ (mkF m 79 #[.val (.int p1)] []) := fun tq kq => g49 tq (XS.icmpNo X0.here hx rfl (hb hby d1_76) rfl (teq hc76).2 kq)
                    obtain ⟨T51, X51, e51, st51⟩ := getS2 X0 hx hZ hown (host := "") (Or.inl (hw _ (List.mem_of_getElem? (i := 30) rfl))) Via.refl e0 S_SHA512_256 (g := (mkF m 79 #[.val (.int p1)] [])) rfl (hb hby d1_79)
                    have g52 : Gz p.tables e below A T51 (mkF m 82 #[.val (.int p1)] [(.ref (w 8))]) := fun tq kq => g50 tq (st51 tq kq)
                    obtain ⟨fs, hr, hrun, hended, hW, hsame⟩ := X51.leave (v := some (.ref (w 8))) (fun h => by rw [Bd.returns] at h; cases h)
                    refine ⟨_, _, g52 _ (retOut X51 hx Bd.returns rfl (Or.inr (Or.inr (Or.inr (Or.inr ⟨rfl, rfl, rfl⟩)))) (hb hby d1_82) hr), hrun, hended, _, _, rfl, ?_, ⟨_, rfl⟩, hW, hsame.mono (by decide) (by decide)⟩
                    show Q1 Z p1 w h0 n0 _ T51.heap _
                    rw [e51]
                    exact ⟨8, rfl, N0, rfl, by decide, by rw [hc76]; decide⟩
                  · have g53 : Gz p.tables e below A s₁ (mkF m 83 #[.val (.int p1)] []) := fun tq kq => g49 tq (XS.icmpYes X0.here hx rfl (pc0 := 76) (pc' := 83) rfl (hb hby d1_76) rfl (feq hc76).2 (by decide) (by decide) kq)
                    obtain ⟨T54, X54, e54, st54⟩ := getS2 X0 hx hZ hown (host := "") (Or.inl (hw _ (List.mem_of_getElem? (i := 32) rfl))) Via.refl e0 S_SIZE (g := (mkF m 83 #[.val (.int p1)] [])) rfl (hb hby d1_83)
                    have g55 : Gz p.tables e below A T54 (mkF m 86 #[.val (.int p1)] [(.ref (w 9))]) := fun tq kq => g53 tq (st54 tq kq)
                    obtain ⟨fs, hr, hrun, hended, hW, hsame⟩ := X54.leave (v := some (.ref (w 9))) (fun h => by rw [Bd.returns] at h; cases h)
                    refine ⟨_, _, g55 _ (retOut X54 hx Bd.returns rfl (Or.inr (Or.inr (Or.inr (Or.inr ⟨rfl, rfl, rfl⟩)))) (hb hby d1_86) hr), hrun, hended, _, _, rfl, ?_, ⟨_, rfl⟩, hW, hsame.mono (by decide) (by decide)⟩
                    show Q1 Z p1 w h0 n0 _ T54.heap _
                    rw [e54]
                    have n0 : p1.toInt ≠ 0 := own_i32_ne hc1
                    have n1 : p1.toInt ≠ 1 := own_i32_ne hc10
                    have n2 : p1.toInt ≠ 2 := own_i32_ne hc19
                    have n3 : p1.toInt ≠ 3 := own_i32_ne hc28
                    have n4 : p1.toInt ≠ 4 := own_i32_ne hc37
                    have n5 : p1.toInt ≠ 5 := own_i32_ne hc46
                    have n6 : p1.toInt ≠ 6 := own_i32_ne hc56
                    have n7 : p1.toInt ≠ 7 := own_i32_ne hc66
                    have n8 : p1.toInt ≠ 8 := own_i32_ne hc76
                    exact ⟨9, rfl, N0, rfl, by decide, by omega⟩

theorem d2_0 : decode prog_9_method_9_code 0 = .ok (.aload_n 0, 1) := by decide +kernel
theorem d2_1 : decode prog_9_method_9_code 1 = .ok (.getfield 57, 3) := by decide +kernel
theorem d2_4 : decode prog_9_method_9_code 4 = .ok (.ifCond .le 7, 3) := by decide +kernel
theorem d2_7 : decode prog_9_method_9_code 7 = .ok (.iconst 1, 1) := by decide +kernel
theorem d2_8 : decode prog_9_method_9_code 8 = .ok (.goto 4, 3) := by decide +kernel
theorem d2_11 : decode prog_9_method_9_code 11 = .ok (.iconst 0, 1) := by decide +kernel
theorem d2_12 : decode prog_9_method_9_code 12 = .ok (.ireturn, 1) := by decide +kernel
theorem pn2 : plainName "com/example/plumb_stacks/plumbstacks/DigestAlgorithm" = true := by first | (simp [plainName, overriddenIn]; done) | decide +kernel
theorem ef2 (m : MethodId) (x0 : Addr) : entryFrame m #[(.ref x0)] 1 = mkF m 0 #[.val (.ref x0)] [] := by first | (simp [entryFrame, mkF, argsToLocals, Value.category]; done) | rfl
def Q2 (Z : State) (a : Addr) (x : Int32) (b : Int32) (h0 : Heap) (n0 : Nat) (v : Option Value) (h : Heap) (L : List Loc) : Prop := v = some (.int b) ∧ Fr n0 L ∧ h = h0
set_option maxRecDepth 65536 in
set_option maxHeartbeats 40000000 in
theorem rm2 (l : Launch) (Z : State) (a0 : Array Value) (hw : ∀ d ∈ tables_1, d.before a0 Z = true) (ws : List Jvm.Cond) (a : Addr) (x : Int32) (b : Int32) (h0 : Heap) (n0 : Nat) (Z0 : n0 ≤ h0.size) (F : Fld Z h0 a "com/example/plumb_stacks/plumbstacks/DigestAlgorithm" "length" "I" (.int x)) (hbb : ((0 : Int32) < x ∧ b = 1) ∨ (¬ ((0 : Int32) < x) ∧ b = 0)) :
    MetFree l (⟨"com/example/plumb_stacks/plumbstacks/DigestAlgorithm", "hashes", "()Z"⟩ : MethodName) (head1 (Jvm.Cond.code (⟨"com/example/plumb_stacks/plumbstacks/DigestAlgorithm", "hashes", "()Z"⟩ : MethodName) prog_9_method_9_code 1 (some .boolean) :: ws) ({ frames := 0, cells := 0, slots := 0, locals := 0 } : Room)) (fun aq Uq => aq = #[(.ref a)] ∧ Z.Warmed39 Uq.vm ∧ Uq.heap = h0) (fun _ _ _ _ _ => True) (fun _ U o U' => ∃ v L, o = .returned v ∧ Q2 Z a x b h0 n0 v U'.heap L ∧ FrameEnd U o U' L ({ frames := 0, cells := 0, slots := 0, locals := 0 } : Room).cells ({ frames := 0, cells := 0, slots := 0, locals := 0 } : Room).slots) := by
  refine MetFree.of_bodySF (plainFor_of_name pn2) hisR ?_
  intro p e s m args below meth c s₁ Bd hml0 hP hK
  obtain ⟨rfl, hZ, hh⟩ := hP
  have hx := Bd.exec
  have hby := Bd.bytes
  have hml : c.maxLocals = 1 := hml0
  have hown : s.vm.findClass "com/example/plumb_stacks/plumbstacks/DigestAlgorithm" = some m.cls := findClass_of_methodNamed Bd.named
  have hnm := (name_of_methodNamed Bd.named Bd.method).1
  have X0 : Stand p l e ({ frames := 0, cells := 0, slots := 0, locals := 0 } : Room) s m #[(.ref a)] below meth c s₁ [] 0 0 := Stand.of_body Bd
  have e0 : s₁.heap = h0 := by rw [← hh, Bd.state]; rfl
  have N0 := Fr.nil n0
  obtain ⟨A, hA⟩ : ∃ A, A = s₁.setTop (entryFrame m #[(.ref a)] 1) := ⟨_, rfl⟩
  rw [← hA]
  have g0 : Gz p.tables e below A s₁ (mkF m 0 #[.val (.ref a)] []) := fun tq kq => by rw [hA]; exact castTop (ef2 m a) kq
  have g1 : Gz p.tables e below A s₁ (mkF m 1 #[.val (.ref a)] [(.ref a)]) := fun tq kq => g0 tq (XS.aloadN X0.here hx rfl (hb hby d2_0) rfl rfl kq)
  obtain ⟨T2, X2, e2, st2⟩ := getF X0 hx hZ hown (host := "") (Or.inl (hw _ (List.mem_of_getElem? (i := 13) rfl))) Via.refl e0 F (g := (mkF m 1 #[.val (.ref a)] [(.ref a)])) rfl rfl (hb hby d2_1)
  have g3 : Gz p.tables e below A T2 (mkF m 4 #[.val (.ref a)] [(.int x)]) := fun tq kq => g1 tq (st2 tq kq)
  by_cases hc4 : (0 : Int32) < x
  · have g4 : Gz p.tables e below A T2 (mkF m 7 #[.val (.ref a)] []) := fun tq kq => g3 tq (XS.ifNo X2.here hx rfl (hb hby d2_4) rfl ((if0 _ _).trans (tlt hc4).2.2.2) kq)
    have g5 : Gz p.tables e below A T2 (mkF m 8 #[.val (.ref a)] [(.int (1 : Int32))]) := fun tq kq => g4 tq (XS.iconst X2.here hx rfl (hb hby d2_7) kq)
    have g6 : Gz p.tables e below A T2 (mkF m 12 #[.val (.ref a)] [(.int (1 : Int32))]) := fun tq kq => g5 tq (XS.goto X2.here hx rfl (pc0 := 8) (pc' := 12) rfl (hb hby d2_8) (by decide) (by decide) kq)
    obtain ⟨fs, hr, hrun, hended, hW, hsame⟩ := X2.leave (v := some (.int (1 : Int32))) (fun h => by rw [Bd.returns] at h; cases h)
    refine ⟨_, _, g6 _ (retN X2 hx (t := .boolean) Bd.returns (by simp) (hb hby d2_12) hr), hrun, hended, _, _, rfl, ?_, ⟨_, rfl⟩, hW, hsame.mono (by decide) (by decide)⟩
    show Q2 Z a x b h0 n0 _ T2.heap _
    rw [e2]
    obtain rfl : b = 1 := (hbb.resolve_right (fun z => z.1 hc4)).2
    exact ⟨rfl, N0, rfl⟩
  · have g7 : Gz p.tables e below A T2 (mkF m 11 #[.val (.ref a)] []) := fun tq kq => g3 tq (XS.ifYes X2.here hx rfl (pc0 := 4) (pc' := 11) rfl (hb hby d2_4) rfl ((if0 _ _).trans (flt hc4).2.2.2) (by decide) (by decide) kq)
    have g8 : Gz p.tables e below A T2 (mkF m 12 #[.val (.ref a)] [(.int (0 : Int32))]) := fun tq kq => g7 tq (XS.iconst X2.here hx rfl (hb hby d2_11) kq)
    obtain ⟨fs, hr, hrun, hended, hW, hsame⟩ := X2.leave (v := some (.int (0 : Int32))) (fun h => by rw [Bd.returns] at h; cases h)
    refine ⟨_, _, g8 _ (retN X2 hx (t := .boolean) Bd.returns (by simp) (hb hby d2_12) hr), hrun, hended, _, _, rfl, ?_, ⟨_, rfl⟩, hW, hsame.mono (by decide) (by decide)⟩
    show Q2 Z a x b h0 n0 _ T2.heap _
    rw [e2]
    obtain rfl : b = 0 := (hbb.resolve_left (fun z => hc4 z.1)).2
    exact ⟨rfl, N0, rfl⟩

theorem d3_0 : decode prog_9_method_10_code 0 = .ok (.iconst 2, 1) := by decide +kernel
theorem d3_1 : decode prog_9_method_10_code 1 = .ok (.aload_n 0, 1) := by decide +kernel
theorem d3_2 : decode prog_9_method_10_code 2 = .ok (.getfield 57, 3) := by decide +kernel
theorem d3_5 : decode prog_9_method_10_code 5 = .ok (.imul, 1) := by decide +kernel
theorem d3_6 : decode prog_9_method_10_code 6 = .ok (.ireturn, 1) := by decide +kernel
theorem pn3 : plainName "com/example/plumb_stacks/plumbstacks/DigestAlgorithm" = true := by first | (simp [plainName, overriddenIn]; done) | decide +kernel
theorem ef3 (m : MethodId) (x0 : Addr) : entryFrame m #[(.ref x0)] 1 = mkF m 0 #[.val (.ref x0)] [] := by first | (simp [entryFrame, mkF, argsToLocals, Value.category]; done) | rfl
def Q3 (Z : State) (a : Addr) (x : Int32) (h0 : Heap) (n0 : Nat) (v : Option Value) (h : Heap) (L : List Loc) : Prop := v = some (.int (2 * x)) ∧ Fr n0 L ∧ h = h0
set_option maxRecDepth 65536 in
set_option maxHeartbeats 40000000 in
theorem rm3 (l : Launch) (Z : State) (a0 : Array Value) (hw : ∀ d ∈ tables_1, d.before a0 Z = true) (ws : List Jvm.Cond) (a : Addr) (x : Int32) (h0 : Heap) (n0 : Nat) (Z0 : n0 ≤ h0.size) (F : Fld Z h0 a "com/example/plumb_stacks/plumbstacks/DigestAlgorithm" "length" "I" (.int x)) :
    MetFree l (⟨"com/example/plumb_stacks/plumbstacks/DigestAlgorithm", "hexLength", "()I"⟩ : MethodName) (head1 (Jvm.Cond.code (⟨"com/example/plumb_stacks/plumbstacks/DigestAlgorithm", "hexLength", "()I"⟩ : MethodName) prog_9_method_10_code 1 (some .int) :: ws) ({ frames := 0, cells := 0, slots := 0, locals := 0 } : Room)) (fun aq Uq => aq = #[(.ref a)] ∧ Z.Warmed39 Uq.vm ∧ Uq.heap = h0) (fun _ _ _ _ _ => True) (fun _ U o U' => ∃ v L, o = .returned v ∧ Q3 Z a x h0 n0 v U'.heap L ∧ FrameEnd U o U' L ({ frames := 0, cells := 0, slots := 0, locals := 0 } : Room).cells ({ frames := 0, cells := 0, slots := 0, locals := 0 } : Room).slots) := by
  refine MetFree.of_bodySF (plainFor_of_name pn3) hisR ?_
  intro p e s m args below meth c s₁ Bd hml0 hP hK
  obtain ⟨rfl, hZ, hh⟩ := hP
  have hx := Bd.exec
  have hby := Bd.bytes
  have hml : c.maxLocals = 1 := hml0
  have hown : s.vm.findClass "com/example/plumb_stacks/plumbstacks/DigestAlgorithm" = some m.cls := findClass_of_methodNamed Bd.named
  have hnm := (name_of_methodNamed Bd.named Bd.method).1
  have X0 : Stand p l e ({ frames := 0, cells := 0, slots := 0, locals := 0 } : Room) s m #[(.ref a)] below meth c s₁ [] 0 0 := Stand.of_body Bd
  have e0 : s₁.heap = h0 := by rw [← hh, Bd.state]; rfl
  have N0 := Fr.nil n0
  obtain ⟨A, hA⟩ : ∃ A, A = s₁.setTop (entryFrame m #[(.ref a)] 1) := ⟨_, rfl⟩
  rw [← hA]
  have g0 : Gz p.tables e below A s₁ (mkF m 0 #[.val (.ref a)] []) := fun tq kq => by rw [hA]; exact castTop (ef3 m a) kq
  have g1 : Gz p.tables e below A s₁ (mkF m 1 #[.val (.ref a)] [(.int (2 : Int32))]) := fun tq kq => g0 tq (XS.iconst X0.here hx rfl (hb hby d3_0) kq)
  have g2 : Gz p.tables e below A s₁ (mkF m 2 #[.val (.ref a)] [(.ref a), (.int (2 : Int32))]) := fun tq kq => g1 tq (XS.aloadN X0.here hx rfl (hb hby d3_1) rfl rfl kq)
  obtain ⟨T3, X3, e3, st3⟩ := getF X0 hx hZ hown (host := "") (Or.inl (hw _ (List.mem_of_getElem? (i := 13) rfl))) Via.refl e0 F (g := (mkF m 2 #[.val (.ref a)] [(.ref a), (.int (2 : Int32))])) rfl rfl (hb hby d3_2)
  have g4 : Gz p.tables e below A T3 (mkF m 5 #[.val (.ref a)] [(.int x), (.int (2 : Int32))]) := fun tq kq => g2 tq (st3 tq kq)
  have g5 : Gz p.tables e below A T3 (mkF m 6 #[.val (.ref a)] [(.int ((2 : Int32) * x))]) := fun tq kq => g4 tq (XS.imul X3.here hx rfl (hb hby d3_5) rfl kq)
  obtain ⟨fs, hr, hrun, hended, hW, hsame⟩ := X3.leave (v := some (.int ((2 : Int32) * x))) (fun h => by rw [Bd.returns] at h; cases h)
  refine ⟨_, _, g5 _ (retOut X3 hx Bd.returns rfl (Or.inl ⟨rfl, Or.inl rfl, _, rfl⟩) (hb hby d3_6) hr), hrun, hended, _, _, rfl, ?_, ⟨_, rfl⟩, hW, hsame.mono (by decide) (by decide)⟩
  show Q3 Z a x h0 n0 _ T3.heap _
  rw [e3]
  exact ⟨rfl, N0, rfl⟩

theorem pn0 : plainName "com/example/plumb_stacks/plumbstacks/DigestAlgorithmHashesPinLaw" = true := by first | (simp [plainName, overriddenIn]; done) | decide +kernel
theorem pd0_0 : parseMethodDescriptor "(I)Lcom/example/plumb_stacks/plumbstacks/DigestAlgorithm;" = some ⟨[.int], some (.object "com/example/plumb_stacks/plumbstacks/DigestAlgorithm")⟩ := by decide +kernel
theorem pd0_1 : parseMethodDescriptor "()Z" = some ⟨[], some .boolean⟩ := by decide +kernel
theorem pd0_2 : parseMethodDescriptor "()I" = some ⟨[], some .int⟩ := by decide +kernel
theorem ef0 (m : MethodId) (x0 : Int32) : entryFrame m #[(.int x0)] maxLocals = mkF m 0 #[.val (.int x0), .unset, .unset, .unset, .unset] [] := by first | (simp [entryFrame, mkF, argsToLocals, Value.category, maxLocals]; done) | rfl
def Q0 (Z : State) (p1 : Int32) (w : Nat → Addr) (len : Nat → Int32) (iv : Int32) (h0 : Heap) (n0 : Nat) (v : Option Value) (h : Heap) (L : List Loc) : Prop := v = some (.int 1) ∧ Fr n0 L
set_option maxRecDepth 65536 in
set_option maxHeartbeats 40000000 in
theorem rm0 (l : Launch) (Z : State) (a0 : Array Value) (hw : ∀ d ∈ tables_1, d.before a0 Z = true) (ws : List Jvm.Cond) (p1 : Int32) (w : Nat → Addr) (len : Nat → Int32) (iv : Int32) (h0 : Heap) (n0 : Nat) (Z0 : n0 ≤ h0.size) (S_SHA512 : Sta Z h0 "com/example/plumb_stacks/plumbstacks/DigestAlgorithm" "SHA512" "Lcom/example/plumb_stacks/plumbstacks/DigestAlgorithm;" (.ref (w 0))) (S_SHA256 : Sta Z h0 "com/example/plumb_stacks/plumbstacks/DigestAlgorithm" "SHA256" "Lcom/example/plumb_stacks/plumbstacks/DigestAlgorithm;" (.ref (w 1))) (S_SHA1 : Sta Z h0 "com/example/plumb_stacks/plumbstacks/DigestAlgorithm" "SHA1" "Lcom/example/plumb_stacks/plumbstacks/DigestAlgorithm;" (.ref (w 2))) (S_MD5 : Sta Z h0 "com/example/plumb_stacks/plumbstacks/DigestAlgorithm" "MD5" "Lcom/example/plumb_stacks/plumbstacks/DigestAlgorithm;" (.ref (w 3))) (S_BLAKE2B_512 : Sta Z h0 "com/example/plumb_stacks/plumbstacks/DigestAlgorithm" "BLAKE2B_512" "Lcom/example/plumb_stacks/plumbstacks/DigestAlgorithm;" (.ref (w 4))) (S_BLAKE2B_160 : Sta Z h0 "com/example/plumb_stacks/plumbstacks/DigestAlgorithm" "BLAKE2B_160" "Lcom/example/plumb_stacks/plumbstacks/DigestAlgorithm;" (.ref (w 5))) (S_BLAKE2B_256 : Sta Z h0 "com/example/plumb_stacks/plumbstacks/DigestAlgorithm" "BLAKE2B_256" "Lcom/example/plumb_stacks/plumbstacks/DigestAlgorithm;" (.ref (w 6))) (S_BLAKE2B_384 : Sta Z h0 "com/example/plumb_stacks/plumbstacks/DigestAlgorithm" "BLAKE2B_384" "Lcom/example/plumb_stacks/plumbstacks/DigestAlgorithm;" (.ref (w 7))) (S_SHA512_256 : Sta Z h0 "com/example/plumb_stacks/plumbstacks/DigestAlgorithm" "SHA512_256" "Lcom/example/plumb_stacks/plumbstacks/DigestAlgorithm;" (.ref (w 8))) (S_SIZE : Sta Z h0 "com/example/plumb_stacks/plumbstacks/DigestAlgorithm" "SIZE" "Lcom/example/plumb_stacks/plumbstacks/DigestAlgorithm;" (.ref (w 9))) (hiv : (p1 &&& (2147483647 : Int32)) % (10 : Int32) = iv) (hlo : 0 ≤ iv.toInt) (hhi : iv.toInt < 10) (E9 : Exa Z h0 (w 9) "com/example/plumb_stacks/plumbstacks/DigestAlgorithm$1") (F9 : Fld Z h0 (w 9) "com/example/plumb_stacks/plumbstacks/DigestAlgorithm" "length" "I" (.int 0)) (hE : ∀ j, j < 9 → Exa Z h0 (w j) "com/example/plumb_stacks/plumbstacks/DigestAlgorithm" ∧ Fld Z h0 (w j) "com/example/plumb_stacks/plumbstacks/DigestAlgorithm" "length" "I" (.int (len j)) ∧ (0 : Int32) < len j ∧ (0 : Int32) < (2 * (len j))) :
    MetFree l x (head1 (Jvm.Cond.code x code maxLocals ret :: ws) room_1) (fun aq Uq => aq = #[(.int p1)] ∧ Z.Warmed39 Uq.vm ∧ Uq.heap = h0) (fun _ _ _ _ _ => True) (fun _ U o U' => ∃ v L, o = .returned v ∧ Q0 Z p1 w len iv h0 n0 v U'.heap L ∧ FrameEnd U o U' L room_1.cells room_1.slots) := by
  refine MetFree.of_bodySF (plainFor_of_name pn0) hisR ?_
  intro p e s m args below meth c s₁ Bd hml0 hP hK
  obtain ⟨rfl, hZ, hh⟩ := hP
  have hx := Bd.exec
  have hby := Bd.bytes
  have hml : c.maxLocals = 5 := hml0
  have hown : s.vm.findClass "com/example/plumb_stacks/plumbstacks/DigestAlgorithmHashesPinLaw" = some m.cls := findClass_of_methodNamed Bd.named
  have hnm := (name_of_methodNamed Bd.named Bd.method).1
  have X0 : Stand p l e room_1 s m #[(.int p1)] below meth c s₁ [] 0 0 := Stand.of_body Bd
  have e0 : s₁.heap = h0 := by rw [← hh, Bd.state]; rfl
  have N0 := Fr.nil n0
  obtain ⟨A, hA⟩ : ∃ A, A = s₁.setTop (entryFrame m #[(.int p1)] maxLocals) := ⟨_, rfl⟩
  rw [← hA]
  have g0 : Gz p.tables e below A s₁ (mkF m 0 #[.val (.int p1), .unset, .unset, .unset, .unset] []) := fun tq kq => by rw [hA]; exact castTop (ef0 m p1) kq
  have g1 : Gz p.tables e below A s₁ (mkF m 1 #[.val (.int p1), .unset, .unset, .unset, .unset] [(.int p1)]) := fun tq kq => g0 tq (XS.iloadN X0.here hx rfl (hb hby at_0) rfl kq)
  have g2 : Gz p.tables e below A s₁ (mkF m 3 #[.val (.int p1), .unset, .unset, .unset, .unset] [(.int (2147483647 : Int32)), (.int p1)]) := fun tq kq => g1 tq (X0.ldcInt hx hown (mvT hZ (hw _ (List.mem_of_getElem? (i := 0) rfl))) (g := (mkF m 1 #[.val (.int p1), .unset, .unset, .unset, .unset] [(.int p1)])) rfl (hb hby at_1) _ kq)
  have g3 : Gz p.tables e below A s₁ (mkF m 4 #[.val (.int p1), .unset, .unset, .unset, .unset] [(.int (p1 &&& (2147483647 : Int32)))]) := fun tq kq => g2 tq (XS.iand X0.here hx rfl (hb hby at_3) rfl kq)
  have g4 : Gz p.tables e below A s₁ (mkF m 6 #[.val (.int p1), .unset, .unset, .unset, .unset] [(.int (10 : Int32)), (.int (p1 &&& (2147483647 : Int32)))]) := fun tq kq => g3 tq (XS.bipush X0.here hx rfl (hb hby at_4) kq)
  have g5 : Gz p.tables e below A s₁ (mkF m 7 #[.val (.int p1), .unset, .unset, .unset, .unset] [(.int ((p1 &&& (2147483647 : Int32)) % (10 : Int32)))]) := fun tq kq => g4 tq (iremM X0 hx rfl (hb hby at_6) rfl (by decide) kq)
  rw [hiv] at g5
  have g6 : Gz p.tables e below A s₁ (mkF m 8 #[.val (.int p1), .val (.int iv), .unset, .unset, .unset] []) := fun tq kq => g5 tq (XS.istoreN X0.here hx rfl (hb hby at_7) rfl (l' := #[.val (.int p1), .val (.int iv), .unset, .unset, .unset]) rfl kq)
  have g7 : Gz p.tables e below A s₁ (mkF m 9 #[.val (.int p1), .val (.int iv), .unset, .unset, .unset] [(.int iv)]) := fun tq kq => g6 tq (XS.iloadN X0.here hx rfl (hb hby at_8) rfl kq)
  obtain ⟨_, _, ⟨T8, L8, k8, n8⟩, -, X8, ⟨Lc8, hQ8, l8, y8, z8⟩, st8⟩ := Jvm.LawKit.callS X0 hx (y := (⟨"com/example/plumb_stacks/plumbstacks/DigestAlgorithmHashesPinLaw", "pick", "(I)Lcom/example/plumb_stacks/plumbstacks/DigestAlgorithm;"⟩ : MethodName)) hown (mvT hZ (hw _ (List.mem_of_getElem? (i := 1) rfl))) (mvT hZ (hw _ (List.mem_of_getElem? (i := 2) rfl))) (mvT hZ (hw _ (List.mem_of_getElem? (i := 3) rfl))) (mvT hZ (hw _ (List.mem_of_getElem? (i := 4) rfl))) (by decide) (backOf (W := 0) (rm1 l Z a0 hw [] iv w h0 n0 Z0 S_SHA512 S_SHA256 S_SHA1 S_MD5 S_BLAKE2B_512 S_BLAKE2B_160 S_BLAKE2B_256 S_BLAKE2B_384 S_SHA512_256 S_SIZE hlo hhi) hZ (hw _ (List.mem_of_getElem? (i := 4) rfl)) (hw _ (List.mem_of_getElem? (i := 3) rfl)) (by decide) (by decide)) (g := (mkF m 9 #[.val (.int p1), .val (.int iv), .unset, .unset, .unset] [(.int iv)])) rfl (by rw [hml]; rfl) (argsL := [(.int iv)]) (rest := []) (lenOf pd0_0 rfl) rfl (by show 2 * 0 + _ ≤ _; exact Nat.le_of_eq rfl) (hb hby at_9) (fun _ _ => ⟨rfl, e0, (by decide : 0 + 0 ≤ _), (by decide : 0 + 0 ≤ _)⟩)
  dsimp only [Pt.U, Pt.locs, Pt.cells, Pt.slots] at X8 l8 y8 z8 st8 hQ8
  subst l8 y8 z8
  obtain ⟨j, rfl, N8q, e8, hj, hij⟩ := hQ8
  have N8 := Fr.app N0 N8q
  have g9 : Gz p.tables e below A T8 (mkF m 12 #[.val (.int p1), .val (.int iv), .unset, .unset, .unset] [(.ref (w j))]) := fun tq kq => g7 tq (st8 _ kq)
  have g10 : Gz p.tables e below A T8 (mkF m 13 #[.val (.int p1), .val (.int iv), .val (.ref (w j)), .unset, .unset] []) := fun tq kq => g9 tq (XS.astoreN X8.here hx rfl (hb hby at_12) rfl rfl (l' := #[.val (.int p1), .val (.int iv), .val (.ref (w j)), .unset, .unset]) rfl kq)
  have g11 : Gz p.tables e below A T8 (mkF m 14 #[.val (.int p1), .val (.int iv), .val (.ref (w j)), .unset, .unset] [(.ref (w j))]) := fun tq kq => g10 tq (XS.aloadN X8.here hx rfl (hb hby at_13) rfl rfl kq)
  by_cases hj9 : j = 9
  · obtain rfl : j = 9 := hj9
    obtain ⟨cq12, kq12, q12a, q12b, q12c⟩ := isOf hZ e8 E9
    obtain ⟨_, _, ⟨T12, L12, k12, n12⟩, -, X12, ⟨Lc12, hQ12, l12, y12, z12⟩, st12⟩ := X8.virtualBack hx (y := (⟨"com/example/plumb_stacks/plumbstacks/DigestAlgorithm", "hashes", "()Z"⟩ : MethodName)) (z := (⟨"com/example/plumb_stacks/plumbstacks/DigestAlgorithm", "hashes", "()Z"⟩ : MethodName)) hown (mvT hZ (hw _ (List.mem_of_getElem? (i := 8) rfl))) (mvT hZ (hw _ (List.mem_of_getElem? (i := 9) rfl))) (notFace_of_selects (args := #[]) (mvT hZ (hw _ (List.mem_of_getElem? (i := 34) rfl)))) (mvT hZ (hw _ (List.mem_of_getElem? (i := 34) rfl))) (mvT hZ (hw _ (List.mem_of_getElem? (i := 10) rfl))) (by decide) (backOf (W := 0) (rm2 l Z a0 hw [] (w 9) 0 0 h0 n0 Z0 F9 (Or.inr ⟨by decide, rfl⟩)) hZ (hw _ (List.mem_of_getElem? (i := 12) rfl)) (hw _ (List.mem_of_getElem? (i := 6) rfl)) (by decide) (by decide)) q12a q12c (g := (mkF m 14 #[.val (.int p1), .val (.int iv), .val (.ref (w 9)), .unset, .unset] [(.ref (w 9))])) rfl (by rw [hml]; rfl) (Steps.refl _) (argsL := []) (rest := []) (lenOf pd0_1 rfl) rfl (by show 2 * 0 + _ ≤ _; exact Nat.le_of_eq rfl) (hb hby at_14) (fun _ _ => ⟨rfl, e8, (by decide : 0 + 0 ≤ _), (by decide : 0 + 0 ≤ _)⟩)
    dsimp only [Pt.U, Pt.locs, Pt.cells, Pt.slots] at X12 l12 y12 z12 st12 hQ12
    subst l12 y12 z12
    obtain ⟨rfl, N12q, e12⟩ := hQ12
    have N12 := Fr.app N8 N12q
    have g13 : Gz p.tables e below A T12 (mkF m 17 #[.val (.int p1), .val (.int iv), .val (.ref (w 9)), .unset, .unset] [(.int (0 : Int32))]) := fun tq kq => g11 tq (st12.trans kq)
    have g14 : Gz p.tables e below A T12 (mkF m 18 #[.val (.int p1), .val (.int iv), .val (.ref (w 9)), .val (.int (0 : Int32)), .unset] []) := fun tq kq => g13 tq (XS.istoreN X12.here hx rfl (hb hby at_17) rfl (l' := #[.val (.int p1), .val (.int iv), .val (.ref (w 9)), .val (.int (0 : Int32)), .unset]) rfl kq)
    have g15 : Gz p.tables e below A T12 (mkF m 19 #[.val (.int p1), .val (.int iv), .val (.ref (w 9)), .val (.int (0 : Int32)), .unset] [(.int iv)]) := fun tq kq => g14 tq (XS.iloadN X12.here hx rfl (hb hby at_18) rfl kq)
    have g16 : Gz p.tables e below A T12 (mkF m 21 #[.val (.int p1), .val (.int iv), .val (.ref (w 9)), .val (.int (0 : Int32)), .unset] [(.int (9 : Int32)), (.int iv)]) := fun tq kq => g15 tq (XS.bipush X12.here hx rfl (hb hby at_19) kq)
    have g17 : Gz p.tables e below A T12 (mkF m 28 #[.val (.int p1), .val (.int iv), .val (.ref (w 9)), .val (.int (0 : Int32)), .unset] []) := fun tq kq => g16 tq (XS.icmpYes X12.here hx rfl (pc0 := 21) (pc' := 28) rfl (hb hby at_21) rfl (teq (Int32.toInt_inj.mp (by rw [hij]; decide))).1 (by decide) (by decide) kq)
    have g18 : Gz p.tables e below A T12 (mkF m 29 #[.val (.int p1), .val (.int iv), .val (.ref (w 9)), .val (.int (0 : Int32)), .unset] [(.int (0 : Int32))]) := fun tq kq => g17 tq (XS.iconst X12.here hx rfl (hb hby at_28) kq)
    have g19 : Gz p.tables e below A T12 (mkF m 31 #[.val (.int p1), .val (.int iv), .val (.ref (w 9)), .val (.int (0 : Int32)), .val (.int (0 : Int32))] []) := fun tq kq => g18 tq (XS.istore X12.here hx rfl (hb hby at_29) rfl (l' := #[.val (.int p1), .val (.int iv), .val (.ref (w 9)), .val (.int (0 : Int32)), .val (.int (0 : Int32))]) rfl kq)
    have g20 : Gz p.tables e below A T12 (mkF m 32 #[.val (.int p1), .val (.int iv), .val (.ref (w 9)), .val (.int (0 : Int32)), .val (.int (0 : Int32))] [(.int (0 : Int32))]) := fun tq kq => g19 tq (XS.iloadN X12.here hx rfl (hb hby at_31) rfl kq)
    have g21 : Gz p.tables e below A T12 (mkF m 34 #[.val (.int p1), .val (.int iv), .val (.ref (w 9)), .val (.int (0 : Int32)), .val (.int (0 : Int32))] [(.int (0 : Int32)), (.int (0 : Int32))]) := fun tq kq => g20 tq (XS.iload X12.here hx rfl (hb hby at_32) rfl kq)
    have g22 : Gz p.tables e below A T12 (mkF m 37 #[.val (.int p1), .val (.int iv), .val (.ref (w 9)), .val (.int (0 : Int32)), .val (.int (0 : Int32))] []) := fun tq kq => g21 tq (XS.icmpNo X12.here hx rfl (hb hby at_34) rfl (teq rfl).2 kq)
    have g23 : Gz p.tables e below A T12 (mkF m 38 #[.val (.int p1), .val (.int iv), .val (.ref (w 9)), .val (.int (0 : Int32)), .val (.int (0 : Int32))] [(.int (0 : Int32))]) := fun tq kq => g22 tq (XS.iloadN X12.here hx rfl (hb hby at_37) rfl kq)
    have g24 : Gz p.tables e below A T12 (mkF m 39 #[.val (.int p1), .val (.int iv), .val (.ref (w 9)), .val (.int (0 : Int32)), .val (.int (0 : Int32))] [(.ref (w 9)), (.int (0 : Int32))]) := fun tq kq => g23 tq (XS.aloadN X12.here hx rfl (hb hby at_38) rfl rfl kq)
    obtain ⟨cq25, kq25, q25a, q25b, q25c⟩ := isOf hZ e12 E9
    obtain ⟨_, _, ⟨T25, L25, k25, n25⟩, -, X25, ⟨Lc25, hQ25, l25, y25, z25⟩, st25⟩ := X12.virtualBack hx (y := (⟨"com/example/plumb_stacks/plumbstacks/DigestAlgorithm", "hexLength", "()I"⟩ : MethodName)) (z := (⟨"com/example/plumb_stacks/plumbstacks/DigestAlgorithm", "hexLength", "()I"⟩ : MethodName)) hown (mvT hZ (hw _ (List.mem_of_getElem? (i := 15) rfl))) (mvT hZ (hw _ (List.mem_of_getElem? (i := 16) rfl))) (notFace_of_selects (args := #[]) (mvT hZ (hw _ (List.mem_of_getElem? (i := 36) rfl)))) (mvT hZ (hw _ (List.mem_of_getElem? (i := 36) rfl))) (mvT hZ (hw _ (List.mem_of_getElem? (i := 17) rfl))) (by decide) (backOf (W := 1) (rm3 l Z a0 hw [] (w 9) 0 h0 n0 Z0 F9) hZ (hw _ (List.mem_of_getElem? (i := 19) rfl)) (hw _ (List.mem_of_getElem? (i := 6) rfl)) (by decide) (by decide)) q25a q25c (g := (mkF m 39 #[.val (.int p1), .val (.int iv), .val (.ref (w 9)), .val (.int (0 : Int32)), .val (.int (0 : Int32))] [(.ref (w 9)), (.int (0 : Int32))])) rfl (by rw [hml]; rfl) (Steps.refl _) (argsL := []) (rest := [(.int (0 : Int32))]) (lenOf pd0_2 rfl) rfl (by show 2 * 0 + _ ≤ _; exact Nat.le_of_eq rfl) (hb hby at_39) (fun _ _ => ⟨rfl, e12, (by decide : 0 + 0 ≤ _), (by decide : 0 + 0 ≤ _)⟩)
    dsimp only [Pt.U, Pt.locs, Pt.cells, Pt.slots] at X25 l25 y25 z25 st25 hQ25
    subst l25 y25 z25
    obtain ⟨rfl, N25q, e25⟩ := hQ25
    have N25 := Fr.app N12 N25q
    have g26 : Gz p.tables e below A T25 (mkF m 42 #[.val (.int p1), .val (.int iv), .val (.ref (w 9)), .val (.int (0 : Int32)), .val (.int (0 : Int32))] [(.int (2 * (0 : Int32))), (.int (0 : Int32))]) := fun tq kq => g24 tq (st25.trans kq)
    have g27 : Gz p.tables e below A T25 (mkF m 49 #[.val (.int p1), .val (.int iv), .val (.ref (w 9)), .val (.int (0 : Int32)), .val (.int (0 : Int32))] [(.int (0 : Int32))]) := fun tq kq => g26 tq (XS.ifYes X25.here hx rfl (pc0 := 42) (pc' := 49) rfl (hb hby at_42) rfl ((if0 _ _).trans (flt (by decide)).2.2.2) (by decide) (by decide) kq)
    have g28 : Gz p.tables e below A T25 (mkF m 50 #[.val (.int p1), .val (.int iv), .val (.ref (w 9)), .val (.int (0 : Int32)), .val (.int (0 : Int32))] [(.int (0 : Int32)), (.int (0 : Int32))]) := fun tq kq => g27 tq (XS.iconst X25.here hx rfl (hb hby at_49) kq)
    have g29 : Gz p.tables e below A T25 (mkF m 53 #[.val (.int p1), .val (.int iv), .val (.ref (w 9)), .val (.int (0 : Int32)), .val (.int (0 : Int32))] []) := fun tq kq => g28 tq (XS.icmpNo X25.here hx rfl (hb hby at_50) rfl (teq rfl).2 kq)
    have g30 : Gz p.tables e below A T25 (mkF m 54 #[.val (.int p1), .val (.int iv), .val (.ref (w 9)), .val (.int (0 : Int32)), .val (.int (0 : Int32))] [(.int (1 : Int32))]) := fun tq kq => g29 tq (XS.iconst X25.here hx rfl (hb hby at_53) kq)
    have g31 : Gz p.tables e below A T25 (mkF m 58 #[.val (.int p1), .val (.int iv), .val (.ref (w 9)), .val (.int (0 : Int32)), .val (.int (0 : Int32))] [(.int (1 : Int32))]) := fun tq kq => g30 tq (XS.goto X25.here hx rfl (pc0 := 54) (pc' := 58) rfl (hb hby at_54) (by decide) (by decide) kq)
    obtain ⟨fs, hr, hrun, hended, hW, hsame⟩ := X25.leave (v := some (.int (1 : Int32))) (fun h => by rw [Bd.returns] at h; cases h)
    refine ⟨_, _, g31 _ (retN X25 hx (t := .boolean) Bd.returns (by simp) (hb hby at_58) hr), hrun, hended, _, _, rfl, ?_, ⟨_, rfl⟩, hW, hsame.mono (by decide) (by decide)⟩
    show Q0 Z p1 w len iv h0 n0 _ T25.heap _
    rw [e25]
    exact ⟨rfl, N25⟩
  · have hj8 : j < 9 := by omega
    obtain ⟨Ej, Fj, x1, x2⟩ := hE j hj8
    obtain ⟨cq32, kq32, q32a, q32b, q32c⟩ := isOf hZ e8 Ej
    obtain ⟨_, _, ⟨T32, L32, k32, n32⟩, -, X32, ⟨Lc32, hQ32, l32, y32, z32⟩, st32⟩ := X8.virtualBack hx (y := (⟨"com/example/plumb_stacks/plumbstacks/DigestAlgorithm", "hashes", "()Z"⟩ : MethodName)) (z := (⟨"com/example/plumb_stacks/plumbstacks/DigestAlgorithm", "hashes", "()Z"⟩ : MethodName)) hown (mvT hZ (hw _ (List.mem_of_getElem? (i := 8) rfl))) (mvT hZ (hw _ (List.mem_of_getElem? (i := 9) rfl))) (notFace_of_selects (args := #[]) (mvT hZ (hw _ (List.mem_of_getElem? (i := 11) rfl)))) (mvT hZ (hw _ (List.mem_of_getElem? (i := 11) rfl))) (mvT hZ (hw _ (List.mem_of_getElem? (i := 10) rfl))) (by decide) (backOf (W := 0) (rm2 l Z a0 hw [] (w j) (len j) 1 h0 n0 Z0 Fj (Or.inl ⟨x1, rfl⟩)) hZ (hw _ (List.mem_of_getElem? (i := 12) rfl)) (hw _ (List.mem_of_getElem? (i := 6) rfl)) (by decide) (by decide)) q32a q32c (g := (mkF m 14 #[.val (.int p1), .val (.int iv), .val (.ref (w j)), .unset, .unset] [(.ref (w j))])) rfl (by rw [hml]; rfl) (Steps.refl _) (argsL := []) (rest := []) (lenOf pd0_1 rfl) rfl (by show 2 * 0 + _ ≤ _; exact Nat.le_of_eq rfl) (hb hby at_14) (fun _ _ => ⟨rfl, e8, (by decide : 0 + 0 ≤ _), (by decide : 0 + 0 ≤ _)⟩)
    dsimp only [Pt.U, Pt.locs, Pt.cells, Pt.slots] at X32 l32 y32 z32 st32 hQ32
    subst l32 y32 z32
    obtain ⟨rfl, N32q, e32⟩ := hQ32
    have N32 := Fr.app N8 N32q
    have g33 : Gz p.tables e below A T32 (mkF m 17 #[.val (.int p1), .val (.int iv), .val (.ref (w j)), .unset, .unset] [(.int (1 : Int32))]) := fun tq kq => g11 tq (st32.trans kq)
    have g34 : Gz p.tables e below A T32 (mkF m 18 #[.val (.int p1), .val (.int iv), .val (.ref (w j)), .val (.int (1 : Int32)), .unset] []) := fun tq kq => g33 tq (XS.istoreN X32.here hx rfl (hb hby at_17) rfl (l' := #[.val (.int p1), .val (.int iv), .val (.ref (w j)), .val (.int (1 : Int32)), .unset]) rfl kq)
    have g35 : Gz p.tables e below A T32 (mkF m 19 #[.val (.int p1), .val (.int iv), .val (.ref (w j)), .val (.int (1 : Int32)), .unset] [(.int iv)]) := fun tq kq => g34 tq (XS.iloadN X32.here hx rfl (hb hby at_18) rfl kq)
    have g36 : Gz p.tables e below A T32 (mkF m 21 #[.val (.int p1), .val (.int iv), .val (.ref (w j)), .val (.int (1 : Int32)), .unset] [(.int (9 : Int32)), (.int iv)]) := fun tq kq => g35 tq (XS.bipush X32.here hx rfl (hb hby at_19) kq)
    have g37 : Gz p.tables e below A T32 (mkF m 24 #[.val (.int p1), .val (.int iv), .val (.ref (w j)), .val (.int (1 : Int32)), .unset] []) := fun tq kq => g36 tq (XS.icmpNo X32.here hx rfl (hb hby at_21) rfl (feq (fun q => hj9 (by rw [q] at hij; have q2 : (9 : Int32).toInt = 9 := (by decide); omega))).1 kq)
    have g38 : Gz p.tables e below A T32 (mkF m 25 #[.val (.int p1), .val (.int iv), .val (.ref (w j)), .val (.int (1 : Int32)), .unset] [(.int (1 : Int32))]) := fun tq kq => g37 tq (XS.iconst X32.here hx rfl (hb hby at_24) kq)
    have g39 : Gz p.tables e below A T32 (mkF m 29 #[.val (.int p1), .val (.int iv), .val (.ref (w j)), .val (.int (1 : Int32)), .unset] [(.int (1 : Int32))]) := fun tq kq => g38 tq (XS.goto X32.here hx rfl (pc0 := 25) (pc' := 29) rfl (hb hby at_25) (by decide) (by decide) kq)
    have g40 : Gz p.tables e below A T32 (mkF m 31 #[.val (.int p1), .val (.int iv), .val (.ref (w j)), .val (.int (1 : Int32)), .val (.int (1 : Int32))] []) := fun tq kq => g39 tq (XS.istore X32.here hx rfl (hb hby at_29) rfl (l' := #[.val (.int p1), .val (.int iv), .val (.ref (w j)), .val (.int (1 : Int32)), .val (.int (1 : Int32))]) rfl kq)
    have g41 : Gz p.tables e below A T32 (mkF m 32 #[.val (.int p1), .val (.int iv), .val (.ref (w j)), .val (.int (1 : Int32)), .val (.int (1 : Int32))] [(.int (1 : Int32))]) := fun tq kq => g40 tq (XS.iloadN X32.here hx rfl (hb hby at_31) rfl kq)
    have g42 : Gz p.tables e below A T32 (mkF m 34 #[.val (.int p1), .val (.int iv), .val (.ref (w j)), .val (.int (1 : Int32)), .val (.int (1 : Int32))] [(.int (1 : Int32)), (.int (1 : Int32))]) := fun tq kq => g41 tq (XS.iload X32.here hx rfl (hb hby at_32) rfl kq)
    have g43 : Gz p.tables e below A T32 (mkF m 37 #[.val (.int p1), .val (.int iv), .val (.ref (w j)), .val (.int (1 : Int32)), .val (.int (1 : Int32))] []) := fun tq kq => g42 tq (XS.icmpNo X32.here hx rfl (hb hby at_34) rfl (teq rfl).2 kq)
    have g44 : Gz p.tables e below A T32 (mkF m 38 #[.val (.int p1), .val (.int iv), .val (.ref (w j)), .val (.int (1 : Int32)), .val (.int (1 : Int32))] [(.int (1 : Int32))]) := fun tq kq => g43 tq (XS.iloadN X32.here hx rfl (hb hby at_37) rfl kq)
    have g45 : Gz p.tables e below A T32 (mkF m 39 #[.val (.int p1), .val (.int iv), .val (.ref (w j)), .val (.int (1 : Int32)), .val (.int (1 : Int32))] [(.ref (w j)), (.int (1 : Int32))]) := fun tq kq => g44 tq (XS.aloadN X32.here hx rfl (hb hby at_38) rfl rfl kq)
    obtain ⟨cq46, kq46, q46a, q46b, q46c⟩ := isOf hZ e32 Ej
    obtain ⟨_, _, ⟨T46, L46, k46, n46⟩, -, X46, ⟨Lc46, hQ46, l46, y46, z46⟩, st46⟩ := X32.virtualBack hx (y := (⟨"com/example/plumb_stacks/plumbstacks/DigestAlgorithm", "hexLength", "()I"⟩ : MethodName)) (z := (⟨"com/example/plumb_stacks/plumbstacks/DigestAlgorithm", "hexLength", "()I"⟩ : MethodName)) hown (mvT hZ (hw _ (List.mem_of_getElem? (i := 15) rfl))) (mvT hZ (hw _ (List.mem_of_getElem? (i := 16) rfl))) (notFace_of_selects (args := #[]) (mvT hZ (hw _ (List.mem_of_getElem? (i := 18) rfl)))) (mvT hZ (hw _ (List.mem_of_getElem? (i := 18) rfl))) (mvT hZ (hw _ (List.mem_of_getElem? (i := 17) rfl))) (by decide) (backOf (W := 1) (rm3 l Z a0 hw [] (w j) (len j) h0 n0 Z0 Fj) hZ (hw _ (List.mem_of_getElem? (i := 19) rfl)) (hw _ (List.mem_of_getElem? (i := 6) rfl)) (by decide) (by decide)) q46a q46c (g := (mkF m 39 #[.val (.int p1), .val (.int iv), .val (.ref (w j)), .val (.int (1 : Int32)), .val (.int (1 : Int32))] [(.ref (w j)), (.int (1 : Int32))])) rfl (by rw [hml]; rfl) (Steps.refl _) (argsL := []) (rest := [(.int (1 : Int32))]) (lenOf pd0_2 rfl) rfl (by show 2 * 0 + _ ≤ _; exact Nat.le_of_eq rfl) (hb hby at_39) (fun _ _ => ⟨rfl, e32, (by decide : 0 + 0 ≤ _), (by decide : 0 + 0 ≤ _)⟩)
    dsimp only [Pt.U, Pt.locs, Pt.cells, Pt.slots] at X46 l46 y46 z46 st46 hQ46
    subst l46 y46 z46
    obtain ⟨rfl, N46q, e46⟩ := hQ46
    have N46 := Fr.app N32 N46q
    have g47 : Gz p.tables e below A T46 (mkF m 42 #[.val (.int p1), .val (.int iv), .val (.ref (w j)), .val (.int (1 : Int32)), .val (.int (1 : Int32))] [(.int (2 * (len j))), (.int (1 : Int32))]) := fun tq kq => g45 tq (st46.trans kq)
    have g48 : Gz p.tables e below A T46 (mkF m 45 #[.val (.int p1), .val (.int iv), .val (.ref (w j)), .val (.int (1 : Int32)), .val (.int (1 : Int32))] [(.int (1 : Int32))]) := fun tq kq => g47 tq (XS.ifNo X46.here hx rfl (hb hby at_42) rfl ((if0 _ _).trans (tlt x2).2.2.2) kq)
    have g49 : Gz p.tables e below A T46 (mkF m 46 #[.val (.int p1), .val (.int iv), .val (.ref (w j)), .val (.int (1 : Int32)), .val (.int (1 : Int32))] [(.int (1 : Int32)), (.int (1 : Int32))]) := fun tq kq => g48 tq (XS.iconst X46.here hx rfl (hb hby at_45) kq)
    have g50 : Gz p.tables e below A T46 (mkF m 50 #[.val (.int p1), .val (.int iv), .val (.ref (w j)), .val (.int (1 : Int32)), .val (.int (1 : Int32))] [(.int (1 : Int32)), (.int (1 : Int32))]) := fun tq kq => g49 tq (XS.goto X46.here hx rfl (pc0 := 46) (pc' := 50) rfl (hb hby at_46) (by decide) (by decide) kq)
    have g51 : Gz p.tables e below A T46 (mkF m 53 #[.val (.int p1), .val (.int iv), .val (.ref (w j)), .val (.int (1 : Int32)), .val (.int (1 : Int32))] []) := fun tq kq => g50 tq (XS.icmpNo X46.here hx rfl (hb hby at_50) rfl (teq rfl).2 kq)
    have g52 : Gz p.tables e below A T46 (mkF m 54 #[.val (.int p1), .val (.int iv), .val (.ref (w j)), .val (.int (1 : Int32)), .val (.int (1 : Int32))] [(.int (1 : Int32))]) := fun tq kq => g51 tq (XS.iconst X46.here hx rfl (hb hby at_53) kq)
    have g53 : Gz p.tables e below A T46 (mkF m 58 #[.val (.int p1), .val (.int iv), .val (.ref (w j)), .val (.int (1 : Int32)), .val (.int (1 : Int32))] [(.int (1 : Int32))]) := fun tq kq => g52 tq (XS.goto X46.here hx rfl (pc0 := 54) (pc' := 58) rfl (hb hby at_54) (by decide) (by decide) kq)
    obtain ⟨fs, hr, hrun, hended, hW, hsame⟩ := X46.leave (v := some (.int (1 : Int32))) (fun h => by rw [Bd.returns] at h; cases h)
    refine ⟨_, _, g53 _ (retN X46 hx (t := .boolean) Bd.returns (by simp) (hb hby at_58) hr), hrun, hended, _, _, rfl, ?_, ⟨_, rfl⟩, hW, hsame.mono (by decide) (by decide)⟩
    show Q0 Z p1 w len iv h0 n0 _ T46.heap _
    rw [e46]
    exact ⟨rfl, N46⟩

set_option maxRecDepth 65536 in
set_option maxHeartbeats 40000000 in
theorem comes_1 {Post : Tables → Env → Array Value → State → Outcome → State → Prop} (hpost : ∀ tb e args s v u, (limb_1_1.after args s (.returned v) u = true ∧ limb_1_2.after args s (.returned v) u = true ∧ True) → FrameEnd s (.returned v) u (Jvm.fieldLocs frame_1_writes args s ++ Jvm.arrayLocs frame_1_arrays args s ++ Jvm.staticLocs frame_1_statics s) 0 0 → Post tb e args s (.returned v) u) :
    ArmFor flags0 classFile x code maxLocals ret World_1 tables_1 room_1 Calls_1 rest_1 Pre_1 Post := by
  intro l hfl _ _ p e ha hc hk s m args below hf hA hF happ hP
  obtain ⟨hcalls, hrest, hpre⟩ := hP
  obtain ⟨-, -, -, hnamed, -, -, -, hat⟩ := (Spec.applies_iff hf).mp happ
  obtain ⟨hg, hn⟩ := and_e (Cond.before_iff.mp (show (Jvm.Cond.and given_1 narrow_1).before args s = true from hpre))
  obtain ⟨hcnt, hg⟩ := and_e hg
  have ga0 := hg
  obtain ⟨w0, rfl⟩ : ∃ w0 : Value, args = #[w0] := by
    have hs : args.size = 1 := by simpa [Cond.value, given_1] using hcnt
    obtain ⟨L⟩ := args
    match L, hs with
    | [w0], _ => exact ⟨w0, rfl⟩
  have hw := fun d (hd : d ∈ tables_1) => atoms_spec (ws := Jvm.Cond.code x code maxLocals ret :: tables_1) hat d (List.mem_cons_of_mem _ hd)
  have hfit : Fit s := fun {y c} hc i hi => by
    obtain ⟨ha, rfl⟩ := Array.getElem?_eq_some_iff.mp hc
    have q := List.all_eq_true.mp ((Array.all_eq_true_iff_forall_mem.mp hF) _ (Array.getElem_mem ha)) i (List.mem_range.mpr hi)
    simpa [Array.getElem?_eq_getElem hi] using q
  obtain ⟨i0, ei0⟩ := is_v ga0
  obtain rfl : w0 = (.int i0) := Option.some.inj ei0
  obtain ⟨c0, hn⟩ := and_e hn
  obtain ⟨c1, hn⟩ := and_e hn
  obtain ⟨c2, hn⟩ := and_e hn
  obtain ⟨c3, hn⟩ := and_e hn
  obtain ⟨c4, hn⟩ := and_e hn
  obtain ⟨c5, hn⟩ := and_e hn
  obtain ⟨c6, hn⟩ := and_e hn
  obtain ⟨c7, hn⟩ := and_e hn
  obtain ⟨c8, hn⟩ := and_e hn
  obtain ⟨c9, hn⟩ := and_e hn
  obtain ⟨c10, hn⟩ := and_e hn
  obtain ⟨c11, hn⟩ := and_e hn
  obtain ⟨c12, hn⟩ := and_e hn
  obtain ⟨c13, hn⟩ := and_e hn
  obtain ⟨c14, hn⟩ := and_e hn
  obtain ⟨c15, hn⟩ := and_e hn
  obtain ⟨c16, hn⟩ := and_e hn
  obtain ⟨c17, hn⟩ := and_e hn
  obtain ⟨c18, hn⟩ := and_e hn
  have c19 := hn
  obtain ⟨w_SHA512, ev_SHA512⟩ := exa_v c0
  have E_SHA512 := Exa.start ev_SHA512 c0
  have S_SHA512 : Sta s s.heap "com/example/plumb_stacks/plumbstacks/DigestAlgorithm" "SHA512" "Lcom/example/plumb_stacks/plumbstacks/DigestAlgorithm;" (.ref w_SHA512) := Sta.start ev_SHA512 (Or.inr ⟨(hw _ (List.mem_of_getElem? (i := 6) rfl)), (hw _ (List.mem_of_getElem? (i := 7) rfl))⟩)
  obtain ⟨w_MD5, ev_MD5⟩ := exa_v c2
  have E_MD5 := Exa.start ev_MD5 c2
  have S_MD5 : Sta s s.heap "com/example/plumb_stacks/plumbstacks/DigestAlgorithm" "MD5" "Lcom/example/plumb_stacks/plumbstacks/DigestAlgorithm;" (.ref w_MD5) := Sta.start ev_MD5 (Or.inr ⟨(hw _ (List.mem_of_getElem? (i := 6) rfl)), (hw _ (List.mem_of_getElem? (i := 21) rfl))⟩)
  obtain ⟨w_SHA256, ev_SHA256⟩ := exa_v c4
  have E_SHA256 := Exa.start ev_SHA256 c4
  have S_SHA256 : Sta s s.heap "com/example/plumb_stacks/plumbstacks/DigestAlgorithm" "SHA256" "Lcom/example/plumb_stacks/plumbstacks/DigestAlgorithm;" (.ref w_SHA256) := Sta.start ev_SHA256 (Or.inr ⟨(hw _ (List.mem_of_getElem? (i := 6) rfl)), (hw _ (List.mem_of_getElem? (i := 23) rfl))⟩)
  obtain ⟨w_BLAKE2B_512, ev_BLAKE2B_512⟩ := exa_v c6
  have E_BLAKE2B_512 := Exa.start ev_BLAKE2B_512 c6
  have S_BLAKE2B_512 : Sta s s.heap "com/example/plumb_stacks/plumbstacks/DigestAlgorithm" "BLAKE2B_512" "Lcom/example/plumb_stacks/plumbstacks/DigestAlgorithm;" (.ref w_BLAKE2B_512) := Sta.start ev_BLAKE2B_512 (Or.inr ⟨(hw _ (List.mem_of_getElem? (i := 6) rfl)), (hw _ (List.mem_of_getElem? (i := 25) rfl))⟩)
  obtain ⟨w_BLAKE2B_384, ev_BLAKE2B_384⟩ := exa_v c8
  have E_BLAKE2B_384 := Exa.start ev_BLAKE2B_384 c8
  have S_BLAKE2B_384 : Sta s s.heap "com/example/plumb_stacks/plumbstacks/DigestAlgorithm" "BLAKE2B_384" "Lcom/example/plumb_stacks/plumbstacks/DigestAlgorithm;" (.ref w_BLAKE2B_384) := Sta.start ev_BLAKE2B_384 (Or.inr ⟨(hw _ (List.mem_of_getElem? (i := 6) rfl)), (hw _ (List.mem_of_getElem? (i := 27) rfl))⟩)
  obtain ⟨w_SHA1, ev_SHA1⟩ := exa_v c10
  have E_SHA1 := Exa.start ev_SHA1 c10
  have S_SHA1 : Sta s s.heap "com/example/plumb_stacks/plumbstacks/DigestAlgorithm" "SHA1" "Lcom/example/plumb_stacks/plumbstacks/DigestAlgorithm;" (.ref w_SHA1) := Sta.start ev_SHA1 (Or.inr ⟨(hw _ (List.mem_of_getElem? (i := 6) rfl)), (hw _ (List.mem_of_getElem? (i := 29) rfl))⟩)
  obtain ⟨w_SHA512_256, ev_SHA512_256⟩ := exa_v c12
  have E_SHA512_256 := Exa.start ev_SHA512_256 c12
  have S_SHA512_256 : Sta s s.heap "com/example/plumb_stacks/plumbstacks/DigestAlgorithm" "SHA512_256" "Lcom/example/plumb_stacks/plumbstacks/DigestAlgorithm;" (.ref w_SHA512_256) := Sta.start ev_SHA512_256 (Or.inr ⟨(hw _ (List.mem_of_getElem? (i := 6) rfl)), (hw _ (List.mem_of_getElem? (i := 31) rfl))⟩)
  obtain ⟨w_SIZE, ev_SIZE⟩ := exa_v c14
  have E_SIZE := Exa.start ev_SIZE c14
  have S_SIZE : Sta s s.heap "com/example/plumb_stacks/plumbstacks/DigestAlgorithm" "SIZE" "Lcom/example/plumb_stacks/plumbstacks/DigestAlgorithm;" (.ref w_SIZE) := Sta.start ev_SIZE (Or.inr ⟨(hw _ (List.mem_of_getElem? (i := 6) rfl)), (hw _ (List.mem_of_getElem? (i := 33) rfl))⟩)
  obtain ⟨w_BLAKE2B_160, ev_BLAKE2B_160⟩ := exa_v c16
  have E_BLAKE2B_160 := Exa.start ev_BLAKE2B_160 c16
  have S_BLAKE2B_160 : Sta s s.heap "com/example/plumb_stacks/plumbstacks/DigestAlgorithm" "BLAKE2B_160" "Lcom/example/plumb_stacks/plumbstacks/DigestAlgorithm;" (.ref w_BLAKE2B_160) := Sta.start ev_BLAKE2B_160 (Or.inr ⟨(hw _ (List.mem_of_getElem? (i := 6) rfl)), (hw _ (List.mem_of_getElem? (i := 38) rfl))⟩)
  obtain ⟨w_BLAKE2B_256, ev_BLAKE2B_256⟩ := exa_v c18
  have E_BLAKE2B_256 := Exa.start ev_BLAKE2B_256 c18
  have S_BLAKE2B_256 : Sta s s.heap "com/example/plumb_stacks/plumbstacks/DigestAlgorithm" "BLAKE2B_256" "Lcom/example/plumb_stacks/plumbstacks/DigestAlgorithm;" (.ref w_BLAKE2B_256) := Sta.start ev_BLAKE2B_256 (Or.inr ⟨(hw _ (List.mem_of_getElem? (i := 6) rfl)), (hw _ (List.mem_of_getElem? (i := 40) rfl))⟩)
  have F_SHA512_length := own_fldI c1 ev_SHA512
  have F_MD5_length := own_fldI c3 ev_MD5
  have F_SHA256_length := own_fldI c5 ev_SHA256
  have F_BLAKE2B_512_length := own_fldI c7 ev_BLAKE2B_512
  have F_BLAKE2B_384_length := own_fldI c9 ev_BLAKE2B_384
  have F_SHA1_length := own_fldI c11 ev_SHA1
  have F_SHA512_256_length := own_fldI c13 ev_SHA512_256
  have F_SIZE_length := own_fldI c15 ev_SIZE
  have F_BLAKE2B_160_length := own_fldI c17 ev_BLAKE2B_160
  have F_BLAKE2B_256_length := own_fldI c19 ev_BLAKE2B_256
  obtain ⟨w, hwd⟩ : ∃ w : Nat → Addr, w = (fun k => [w_SHA512, w_SHA256, w_SHA1, w_MD5, w_BLAKE2B_512, w_BLAKE2B_160, w_BLAKE2B_256, w_BLAKE2B_384, w_SHA512_256, w_SIZE].getD k 0) := ⟨_, rfl⟩
  have hE : ∀ k, k < 9 → Exa s s.heap (w k) "com/example/plumb_stacks/plumbstacks/DigestAlgorithm" ∧ Fld s s.heap (w k) "com/example/plumb_stacks/plumbstacks/DigestAlgorithm" "length" "I" (.int ((fun k => [64, 32, 20, 16, 64, 20, 32, 48, 32].getD k (0 : Int32)) k)) ∧ (0 : Int32) < (fun k => [64, 32, 20, 16, 64, 20, 32, 48, 32].getD k (0 : Int32)) k ∧ (0 : Int32) < (2 * ((fun k => [64, 32, 20, 16, 64, 20, 32, 48, 32].getD k (0 : Int32)) k)) := by
    intro k hk
    subst hwd
    match k, hk with
    | 0, _ => exact ⟨E_SHA512, F_SHA512_length, by decide, by decide⟩
    | 1, _ => exact ⟨E_SHA256, F_SHA256_length, by decide, by decide⟩
    | 2, _ => exact ⟨E_SHA1, F_SHA1_length, by decide, by decide⟩
    | 3, _ => exact ⟨E_MD5, F_MD5_length, by decide, by decide⟩
    | 4, _ => exact ⟨E_BLAKE2B_512, F_BLAKE2B_512_length, by decide, by decide⟩
    | 5, _ => exact ⟨E_BLAKE2B_160, F_BLAKE2B_160_length, by decide, by decide⟩
    | 6, _ => exact ⟨E_BLAKE2B_256, F_BLAKE2B_256_length, by decide, by decide⟩
    | 7, _ => exact ⟨E_BLAKE2B_384, F_BLAKE2B_384_length, by decide, by decide⟩
    | 8, _ => exact ⟨E_SHA512_256, F_SHA512_256_length, by decide, by decide⟩
    | k + 9, hk => exact absurd hk (by omega)
  have hr := own_rem i0 10 10 (by decide) (by decide)
  have T_SHA512 : Sta s s.heap "com/example/plumb_stacks/plumbstacks/DigestAlgorithm" "SHA512" "Lcom/example/plumb_stacks/plumbstacks/DigestAlgorithm;" (.ref (w 0)) := by subst hwd; exact S_SHA512
  have T_SHA256 : Sta s s.heap "com/example/plumb_stacks/plumbstacks/DigestAlgorithm" "SHA256" "Lcom/example/plumb_stacks/plumbstacks/DigestAlgorithm;" (.ref (w 1)) := by subst hwd; exact S_SHA256
  have T_SHA1 : Sta s s.heap "com/example/plumb_stacks/plumbstacks/DigestAlgorithm" "SHA1" "Lcom/example/plumb_stacks/plumbstacks/DigestAlgorithm;" (.ref (w 2)) := by subst hwd; exact S_SHA1
  have T_MD5 : Sta s s.heap "com/example/plumb_stacks/plumbstacks/DigestAlgorithm" "MD5" "Lcom/example/plumb_stacks/plumbstacks/DigestAlgorithm;" (.ref (w 3)) := by subst hwd; exact S_MD5
  have T_BLAKE2B_512 : Sta s s.heap "com/example/plumb_stacks/plumbstacks/DigestAlgorithm" "BLAKE2B_512" "Lcom/example/plumb_stacks/plumbstacks/DigestAlgorithm;" (.ref (w 4)) := by subst hwd; exact S_BLAKE2B_512
  have T_BLAKE2B_160 : Sta s s.heap "com/example/plumb_stacks/plumbstacks/DigestAlgorithm" "BLAKE2B_160" "Lcom/example/plumb_stacks/plumbstacks/DigestAlgorithm;" (.ref (w 5)) := by subst hwd; exact S_BLAKE2B_160
  have T_BLAKE2B_256 : Sta s s.heap "com/example/plumb_stacks/plumbstacks/DigestAlgorithm" "BLAKE2B_256" "Lcom/example/plumb_stacks/plumbstacks/DigestAlgorithm;" (.ref (w 6)) := by subst hwd; exact S_BLAKE2B_256
  have T_BLAKE2B_384 : Sta s s.heap "com/example/plumb_stacks/plumbstacks/DigestAlgorithm" "BLAKE2B_384" "Lcom/example/plumb_stacks/plumbstacks/DigestAlgorithm;" (.ref (w 7)) := by subst hwd; exact S_BLAKE2B_384
  have T_SHA512_256 : Sta s s.heap "com/example/plumb_stacks/plumbstacks/DigestAlgorithm" "SHA512_256" "Lcom/example/plumb_stacks/plumbstacks/DigestAlgorithm;" (.ref (w 8)) := by subst hwd; exact S_SHA512_256
  have T_SIZE : Sta s s.heap "com/example/plumb_stacks/plumbstacks/DigestAlgorithm" "SIZE" "Lcom/example/plumb_stacks/plumbstacks/DigestAlgorithm;" (.ref (w 9)) := by subst hwd; exact S_SIZE
  have E9 : Exa s s.heap (w 9) "com/example/plumb_stacks/plumbstacks/DigestAlgorithm$1" := by subst hwd; exact E_SIZE
  have F9 : Fld s s.heap (w 9) "com/example/plumb_stacks/plumbstacks/DigestAlgorithm" "length" "I" (.int 0) := by subst hwd; exact F_SIZE_length
  obtain ⟨n, o, h1, h2, h3, _, L, rfl, ⟨rfl, N⟩, hq⟩ := rm0 l s _ hw tables_1 i0 w _ _ s.heap s.heap.size (Nat.le_refl _) T_SHA512 T_SHA256 T_SHA1 T_MD5 T_BLAKE2B_512 T_BLAKE2B_160 T_BLAKE2B_256 T_BLAKE2B_384 T_SHA512_256 T_SIZE rfl hr.1 hr.2 E9 F9 hE p e ha hc hk s m _ below hf ((Spec.applies_iff_loose hf).mp happ).1 ⟨rfl, State.Warmed39.refl s, rfl⟩ trivial
  refine ⟨n, _, h1, h2, h3, hpost _ _ _ _ _ _ ⟨Cond.after_iff.mpr rfl, Cond.after_iff.mpr (eq_i res_at (Term.int_eval (1)) rfl), trivial⟩ ⟨hq.1, hq.2.1, (hq.2.2.sift fun y hy => Or.inr (N y hy)).mono (by decide) (by decide)⟩⟩
theorem main_1_1 : Claimed_1_1 := comes_1 fun _ _ _ _ _ _ h hF => ⟨h.1, hF⟩
theorem main_1_2 : Claimed_1_2 := comes_1 fun _ _ _ _ _ _ h hF => ⟨h.2.1, hF⟩
end Jvm.Pilot.@@N@@
namespace Jvm.Pilot.@@N@@
open Jvm Jvm.ClassFile Sem Op Lib Jvm.Free Jvm.Stand Jvm.Pilot.@@N@@.Jvm.D
/-! MADE BY PROGRAM (witnessworld.py) out of the Statement's table words and the real class files: 13 classes; the members and pool entries that the words name. The judged class is class 1, her method 2. -/
namespace start1
open Jvm.ClassFile
def u (s : String) : CpInfo := .utf8 (stringToUtf16 s)
/-- a pool by its gaps: so many unusable entries, then the entry; so many at the end -/
def gap : Nat → List CpInfo → List CpInfo
  | 0, r => r
  | n + 1, r => .unusable :: gap n r
def poolList (es : List (Nat × CpInfo)) (last : Nat) : List CpInfo := es.foldr (fun e r => gap e.1 (e.2 :: r)) (gap last [])
def pool (es : List (Nat × CpInfo)) (last : Nat) : Array CpInfo := ⟨poolList es last⟩
def fileOf (pool : Array CpInfo) (this : Nat) (attrs : Array Attribute := #[]) (ms : Array MethodInfo := #[]) (fl : Nat := 33) (sup : Nat := 0) (ifs : Array Nat := #[]) (fds : Array FieldInfo := #[]) : ClassFile where
  minorVersion := 0
  majorVersion := 65
  constantPool := pool
  accessFlags := fl
  thisClass := this
  superClass := sup
  interfaces := ifs
  fields := fds
  methods := ms
  attributes := attrs
def plain (name : String) (sup : Option ClassId) : Class where
  name := name
  kind := .ordinary
  loader := none
  accessFlags := 33
  super := sup
  interfaces := #[]
  cf := none
  fields := #[]
  methods := #[]
  instanceTypes := #[]
  staticTypes := #[]
  resolved := #[]
  callSites := []
  init := .initialized
  statics := none
  mirror := none

def pool0 : Array CpInfo := pool [(5, u "<init>"), (0, u "()V"), (1, .class_ 10), (1, u "java/lang/Object")] 113

def k0m0 : Method := { name := "<init>", desc := "()V", sig := { parameters := [], returnType := none }, accessFlags := 1, code := none }
/-- java/lang/Object -/
def k0 : Class := { plain "java/lang/Object" none with
  accessFlags := 33
  interfaces := #[]
  cf := some (fileOf pool0 8 #[] #[{ accessFlags := 1, nameIndex := 5, descriptorIndex := 6, attributes := #[] }] 33 0 #[] #[])
  fields := #[]
  methods := #[k0m0]
  instanceTypes := #[]
  staticTypes := #[]
  resolved := Array.replicate 124 none
  statics := none }

def pool1 : Array CpInfo := pool [(2, .class_ 4), (1, u "java/lang/Object"), (0, u "<init>"), (0, u "()V"), (0, .fieldref 8 9), (0, .class_ 10), (0, .nameAndType 11 12), (0, u "com/example/plumb_stacks/plumbstacks/DigestAlgorithm"), (0, u "SHA512"), (0, u "Lcom/example/plumb_stacks/plumbstacks/DigestAlgorithm;"), (0, .fieldref 8 14), (0, .nameAndType 15 12), (0, u "SHA256"), (0, .fieldref 8 17), (0, .nameAndType 18 12), (0, u "SHA1"), (0, .fieldref 8 20), (0, .nameAndType 21 12), (0, u "MD5"), (0, .fieldref 8 23), (0, .nameAndType 24 12), (0, u "BLAKE2B_512"), (0, .fieldref 8 26), (0, .nameAndType 27 12), (0, u "BLAKE2B_160"), (0, .fieldref 8 29), (0, .nameAndType 30 12), (0, u "BLAKE2B_256"), (0, .fieldref 8 32), (0, .nameAndType 33 12), (0, u "BLAKE2B_384"), (0, .fieldref 8 35), (0, .nameAndType 36 12), (0, u "SHA512_256"), (0, .fieldref 8 38), (0, .nameAndType 39 12), (0, u "SIZE"), (0, .integer 2147483647), (0, .methodref 42 43), (0, .class_ 44), (0, .nameAndType 45 46), (0, u "com/example/plumb_stacks/plumbstacks/DigestAlgorithmHashesPinLaw"), (0, u "pick"), (0, u "(I)Lcom/example/plumb_stacks/plumbstacks/DigestAlgorithm;"), (0, .methodref 8 48), (0, .nameAndType 49 50), (0, u "hashes"), (0, u "()Z"), (0, .methodref 8 52), (0, .nameAndType 53 54), (0, u "hexLength"), (0, u "()I"), (3, u "law"), (0, u "(I)Z")] 2

def k1m0 : Method := { name := "<init>", desc := "()V", sig := { parameters := [], returnType := none }, accessFlags := 1, code := none }
def k1c1 : Code := { maxStack := 2, maxLocals := 1, code := method_2_code, exceptionTable := #[], attributes := #[] }
def k1m1 : Method := { name := "pick", desc := "(I)Lcom/example/plumb_stacks/plumbstacks/DigestAlgorithm;", sig := { parameters := [.int], returnType := some (.object "com/example/plumb_stacks/plumbstacks/DigestAlgorithm") }, accessFlags := 10, code := some k1c1 }
def k1c2 : Code := { maxStack := 2, maxLocals := 5, code := code, exceptionTable := #[], attributes := #[] }
def k1m2 : Method := { name := "law", desc := "(I)Z", sig := { parameters := [.int], returnType := some .boolean }, accessFlags := 9, code := some k1c2 }
/-- com/example/plumb_stacks/plumbstacks/DigestAlgorithmHashesPinLaw -/
def k1 : Class := { plain "com/example/plumb_stacks/plumbstacks/DigestAlgorithmHashesPinLaw" (some 0) with
  accessFlags := 49
  interfaces := #[]
  cf := some (fileOf pool1 42 #[] #[{ accessFlags := 1, nameIndex := 5, descriptorIndex := 6, attributes := #[] }, { accessFlags := 10, nameIndex := 45, descriptorIndex := 46, attributes := #[] }, { accessFlags := 9, nameIndex := 58, descriptorIndex := 59, attributes := #[] }] 49 2 #[] #[])
  fields := #[]
  methods := #[k1m0, k1m1, k1m2]
  instanceTypes := #[]
  staticTypes := #[]
  resolved := Array.replicate 62 none
  statics := none }

def pool2 : Array CpInfo := pool [(1, .class_ 2), (0, u "java/lang/constant/Constable"), (0, .class_ 4), (0, u "java/lang/Object")] 6

/-- java/lang/constant/Constable -/
def k2 : Class := { plain "java/lang/constant/Constable" (some 0) with
  accessFlags := 1537
  interfaces := #[]
  cf := some (fileOf pool2 1 #[] #[] 1537 3 #[] #[])
  fields := #[]
  methods := #[]
  instanceTypes := #[]
  staticTypes := #[]
  resolved := Array.replicate 11 none
  statics := none }

def pool3 : Array CpInfo := pool [(1, .class_ 2), (0, u "java/lang/Comparable"), (0, .class_ 4), (0, u "java/lang/Object")] 7

/-- java/lang/Comparable -/
def k3 : Class := { plain "java/lang/Comparable" (some 0) with
  accessFlags := 1537
  interfaces := #[]
  cf := some (fileOf pool3 1 #[] #[] 1537 3 #[] #[])
  fields := #[]
  methods := #[]
  instanceTypes := #[]
  staticTypes := #[]
  resolved := Array.replicate 12 none
  statics := none }

def pool4 : Array CpInfo := pool [(1, .class_ 2), (0, u "java/io/Serializable"), (0, .class_ 4), (0, u "java/lang/Object")] 2

/-- java/io/Serializable -/
def k4 : Class := { plain "java/io/Serializable" (some 0) with
  accessFlags := 1537
  interfaces := #[]
  cf := some (fileOf pool4 1 #[] #[] 1537 3 #[] #[])
  fields := #[]
  methods := #[]
  instanceTypes := #[]
  staticTypes := #[]
  resolved := Array.replicate 7 none
  statics := none }

def pool5 : Array CpInfo := pool [(2, .class_ 4), (1, u "java/lang/Enum"), (0, u "name"), (0, u "Ljava/lang/String;"), (2, u "ordinal"), (0, u "I"), (1, .class_ 14), (1, u "java/lang/Object"), (4, u "hash"), (86, .class_ 108), (1, u "java/lang/Enum$EnumDesc"), (2, .class_ 112), (0, u "java/lang/constant/Constable"), (0, .class_ 114), (0, u "java/lang/Comparable"), (0, .class_ 116), (0, u "java/io/Serializable")] 87

/-- java/lang/Enum -/
def k5 : Class := { plain "java/lang/Enum" (some 0) with
  accessFlags := 1057
  interfaces := #[2, 3, 4]
  cf := some (fileOf pool5 2 #[.nestMembers #[106]] #[] 1057 12 #[111, 113, 115] #[{ accessFlags := 18, nameIndex := 5, descriptorIndex := 6, attributes := #[] }, { accessFlags := 18, nameIndex := 9, descriptorIndex := 10, attributes := #[] }, { accessFlags := 2, nameIndex := 19, descriptorIndex := 10, attributes := #[] }])
  fields := #[{ name := "name", type := (.object "java/lang/String"), accessFlags := 18, slot := 0, constantValue := 0 }, { name := "ordinal", type := .int, accessFlags := 18, slot := 1, constantValue := 0 }, { name := "hash", type := .int, accessFlags := 2, slot := 2, constantValue := 0 }]
  methods := #[]
  instanceTypes := #[(.object "java/lang/String"), .int, .int]
  staticTypes := #[]
  resolved := Array.replicate 204 none
  statics := none }

def pool6 : Array CpInfo := pool [(1, .class_ 2), (0, u "com/example/plumb_stacks/plumbstacks/DigestAlgorithm"), (2, u "SHA512"), (0, u "Lcom/example/plumb_stacks/plumbstacks/DigestAlgorithm;"), (2, u "SHA256"), (2, u "SHA1"), (2, u "MD5"), (2, u "BLAKE2B_512"), (2, u "BLAKE2B_160"), (2, u "BLAKE2B_256"), (2, u "BLAKE2B_384"), (2, u "SHA512_256"), (2, u "SIZE"), (2, u "$VALUES"), (0, u "[Lcom/example/plumb_stacks/plumbstacks/DigestAlgorithm;"), (6, .class_ 46), (1, u "java/lang/Enum"), (8, u "id"), (0, u "Ljava/lang/String;"), (0, .fieldref 1 58), (0, .nameAndType 59 60), (0, u "length"), (0, u "I"), (2, u "addressesContent"), (0, u "Z"), (2, u "newMessageDigest"), (0, u "Ljava/util/function/Supplier;"), (78, u "()I"), (20, u "hexLength"), (26, u "HASHING"), (0, u "Ljava/lang/ThreadLocal;"), (3, .class_ 201), (0, u "com/example/plumb_stacks/plumbstacks/DigestAlgorithm$FileHashing"), (50, u "hashes"), (0, u "()Z"), (62, .class_ 317), (0, u "com/example/plumb_stacks/plumbstacks/DigestAlgorithm$1"), (17, u "DECIMAL"), (0, u "Ljava/util/regex/Pattern;"), (24, u "READING"), (0, u "Ljava/util/Set;"), (0, u "FIRST_BUFFER_SIZE"), (2, u "BUFFER_SIZE"), (51, .class_ 419), (0, u "com/example/plumb_stacks/plumbstacks/DigestAlgorithm$ByteCount")] 86

def k6c0 : Code := { maxStack := 1, maxLocals := 1, code := prog_9_method_9_code, exceptionTable := #[], attributes := #[] }
def k6m0 : Method := { name := "hashes", desc := "()Z", sig := { parameters := [], returnType := some .boolean }, accessFlags := 1, code := some k6c0 }
def k6c1 : Code := { maxStack := 2, maxLocals := 1, code := prog_9_method_10_code, exceptionTable := #[], attributes := #[] }
def k6m1 : Method := { name := "hexLength", desc := "()I", sig := { parameters := [], returnType := some .int }, accessFlags := 1, code := some k6c1 }
/-- com/example/plumb_stacks/plumbstacks/DigestAlgorithm -/
def k6 : Class := { plain "com/example/plumb_stacks/plumbstacks/DigestAlgorithm" (some 5) with
  accessFlags := 16417
  interfaces := #[]
  cf := some (fileOf pool6 1 #[.nestMembers #[418, 200, 316]] #[{ accessFlags := 1, nameIndex := 252, descriptorIndex := 253, attributes := #[] }, { accessFlags := 1, nameIndex := 168, descriptorIndex := 147, attributes := #[] }] 16417 44 #[] #[{ accessFlags := 16409, nameIndex := 5, descriptorIndex := 6, attributes := #[] }, { accessFlags := 16409, nameIndex := 9, descriptorIndex := 6, attributes := #[] }, { accessFlags := 16409, nameIndex := 12, descriptorIndex := 6, attributes := #[] }, { accessFlags := 16409, nameIndex := 15, descriptorIndex := 6, attributes := #[] }, { accessFlags := 16409, nameIndex := 18, descriptorIndex := 6, attributes := #[] }, { accessFlags := 16409, nameIndex := 21, descriptorIndex := 6, attributes := #[] }, { accessFlags := 16409, nameIndex := 24, descriptorIndex := 6, attributes := #[] }, { accessFlags := 16409, nameIndex := 27, descriptorIndex := 6, attributes := #[] }, { accessFlags := 16409, nameIndex := 30, descriptorIndex := 6, attributes := #[] }, { accessFlags := 16409, nameIndex := 33, descriptorIndex := 6, attributes := #[] }, { accessFlags := 26, nameIndex := 335, descriptorIndex := 336, attributes := #[] }, { accessFlags := 26, nameIndex := 363, descriptorIndex := 60, attributes := #[] }, { accessFlags := 26, nameIndex := 366, descriptorIndex := 60, attributes := #[] }, { accessFlags := 26, nameIndex := 195, descriptorIndex := 196, attributes := #[] }, { accessFlags := 26, nameIndex := 361, descriptorIndex := 362, attributes := #[] }, { accessFlags := 18, nameIndex := 55, descriptorIndex := 56, attributes := #[] }, { accessFlags := 18, nameIndex := 59, descriptorIndex := 60, attributes := #[] }, { accessFlags := 18, nameIndex := 63, descriptorIndex := 64, attributes := #[] }, { accessFlags := 18, nameIndex := 67, descriptorIndex := 68, attributes := #[] }, { accessFlags := 4122, nameIndex := 36, descriptorIndex := 37, attributes := #[] }])
  fields := #[{ name := "SHA512", type := (.object "com/example/plumb_stacks/plumbstacks/DigestAlgorithm"), accessFlags := 16409, slot := 0, constantValue := 0 }, { name := "SHA256", type := (.object "com/example/plumb_stacks/plumbstacks/DigestAlgorithm"), accessFlags := 16409, slot := 1, constantValue := 0 }, { name := "SHA1", type := (.object "com/example/plumb_stacks/plumbstacks/DigestAlgorithm"), accessFlags := 16409, slot := 2, constantValue := 0 }, { name := "MD5", type := (.object "com/example/plumb_stacks/plumbstacks/DigestAlgorithm"), accessFlags := 16409, slot := 3, constantValue := 0 }, { name := "BLAKE2B_512", type := (.object "com/example/plumb_stacks/plumbstacks/DigestAlgorithm"), accessFlags := 16409, slot := 4, constantValue := 0 }, { name := "BLAKE2B_160", type := (.object "com/example/plumb_stacks/plumbstacks/DigestAlgorithm"), accessFlags := 16409, slot := 5, constantValue := 0 }, { name := "BLAKE2B_256", type := (.object "com/example/plumb_stacks/plumbstacks/DigestAlgorithm"), accessFlags := 16409, slot := 6, constantValue := 0 }, { name := "BLAKE2B_384", type := (.object "com/example/plumb_stacks/plumbstacks/DigestAlgorithm"), accessFlags := 16409, slot := 7, constantValue := 0 }, { name := "SHA512_256", type := (.object "com/example/plumb_stacks/plumbstacks/DigestAlgorithm"), accessFlags := 16409, slot := 8, constantValue := 0 }, { name := "SIZE", type := (.object "com/example/plumb_stacks/plumbstacks/DigestAlgorithm"), accessFlags := 16409, slot := 9, constantValue := 0 }, { name := "DECIMAL", type := (.object "java/util/regex/Pattern"), accessFlags := 26, slot := 10, constantValue := 0 }, { name := "FIRST_BUFFER_SIZE", type := .int, accessFlags := 26, slot := 11, constantValue := 0 }, { name := "BUFFER_SIZE", type := .int, accessFlags := 26, slot := 12, constantValue := 0 }, { name := "HASHING", type := (.object "java/lang/ThreadLocal"), accessFlags := 26, slot := 13, constantValue := 0 }, { name := "READING", type := (.object "java/util/Set"), accessFlags := 26, slot := 14, constantValue := 0 }, { name := "id", type := (.object "java/lang/String"), accessFlags := 18, slot := 3, constantValue := 0 }, { name := "length", type := .int, accessFlags := 18, slot := 4, constantValue := 0 }, { name := "addressesContent", type := .boolean, accessFlags := 18, slot := 5, constantValue := 0 }, { name := "newMessageDigest", type := (.object "java/util/function/Supplier"), accessFlags := 18, slot := 6, constantValue := 0 }, { name := "$VALUES", type := (.array (.object "com/example/plumb_stacks/plumbstacks/DigestAlgorithm")), accessFlags := 4122, slot := 15, constantValue := 0 }]
  methods := #[k6m0, k6m1]
  instanceTypes := #[(.object "java/lang/String"), .int, .int, (.object "java/lang/String"), .int, .boolean, (.object "java/util/function/Supplier")]
  staticTypes := #[(.object "com/example/plumb_stacks/plumbstacks/DigestAlgorithm"), (.object "com/example/plumb_stacks/plumbstacks/DigestAlgorithm"), (.object "com/example/plumb_stacks/plumbstacks/DigestAlgorithm"), (.object "com/example/plumb_stacks/plumbstacks/DigestAlgorithm"), (.object "com/example/plumb_stacks/plumbstacks/DigestAlgorithm"), (.object "com/example/plumb_stacks/plumbstacks/DigestAlgorithm"), (.object "com/example/plumb_stacks/plumbstacks/DigestAlgorithm"), (.object "com/example/plumb_stacks/plumbstacks/DigestAlgorithm"), (.object "com/example/plumb_stacks/plumbstacks/DigestAlgorithm"), (.object "com/example/plumb_stacks/plumbstacks/DigestAlgorithm"), (.object "java/util/regex/Pattern"), .int, .int, (.object "java/lang/ThreadLocal"), (.object "java/util/Set"), (.array (.object "com/example/plumb_stacks/plumbstacks/DigestAlgorithm"))]
  resolved := Array.replicate 506 none
  statics := some 0 }

def pool7 : Array CpInfo := pool [(2, .class_ 4), (1, u "com/example/plumb_stacks/plumbstacks/DigestAlgorithm"), (36, .class_ 42), (0, u "com/example/plumb_stacks/plumbstacks/DigestAlgorithm$1")] 14

/-- com/example/plumb_stacks/plumbstacks/DigestAlgorithm$1 -/
def k7 : Class := { plain "com/example/plumb_stacks/plumbstacks/DigestAlgorithm$1" (some 6) with
  accessFlags := 16432
  interfaces := #[]
  cf := some (fileOf pool7 41 #[.nestHost 2] #[] 16432 2 #[] #[])
  fields := #[]
  methods := #[]
  instanceTypes := #[(.object "java/lang/String"), .int, .int, (.object "java/lang/String"), .int, .boolean, (.object "java/util/function/Supplier")]
  staticTypes := #[]
  resolved := Array.replicate 57 none
  statics := none }

def pool8 : Array CpInfo := pool [(1, u "java/lang/Cloneable"), (0, .class_ 1), (0, u "java/lang/Object"), (0, .class_ 3)] 3

/-- java/lang/Cloneable -/
def k8 : Class := { plain "java/lang/Cloneable" (some 0) with
  accessFlags := 1537
  interfaces := #[]
  cf := some (fileOf pool8 2 #[] #[] 1537 4 #[] #[])
  fields := #[]
  methods := #[]
  instanceTypes := #[]
  staticTypes := #[]
  resolved := Array.replicate 8 none
  statics := none }

/-- the primitive byte -/
def k9 : Class := { plain "byte" none with kind := .primitive 'B', accessFlags := 0x411 }
/-- [B -/
def k10 : Class := { plain "[B" (some 0) with kind := .array 9 .byte, interfaces := #[8, 4], accessFlags := 1041 }

/-- the primitive int -/
def k11 : Class := { plain "int" none with kind := .primitive 'I', accessFlags := 0x411 }
/-- [I -/
def k12 : Class := { plain "[I" (some 0) with kind := .array 11 .int, interfaces := #[8, 4], accessFlags := 1041 }

def heap : Heap := #[{ cls := 6, slots := #[.ref 1, .ref 2, .ref 3, .ref 4, .ref 5, .ref 6, .ref 7, .ref 8, .ref 9, .ref 10, .null, .int 0, .int 0, .null, .null, .null], vm := .statics 6 },
  { cls := 6, slots := #[.null, .int 0, .int 0, .null, .int 64, .int 0, .null], vm := .none },
  { cls := 6, slots := #[.null, .int 1, .int 0, .null, .int 32, .int 0, .null], vm := .none },
  { cls := 6, slots := #[.null, .int 2, .int 0, .null, .int 20, .int 0, .null], vm := .none },
  { cls := 6, slots := #[.null, .int 3, .int 0, .null, .int 16, .int 0, .null], vm := .none },
  { cls := 6, slots := #[.null, .int 4, .int 0, .null, .int 64, .int 0, .null], vm := .none },
  { cls := 6, slots := #[.null, .int 5, .int 0, .null, .int 20, .int 0, .null], vm := .none },
  { cls := 6, slots := #[.null, .int 6, .int 0, .null, .int 32, .int 0, .null], vm := .none },
  { cls := 6, slots := #[.null, .int 7, .int 0, .null, .int 48, .int 0, .null], vm := .none },
  { cls := 6, slots := #[.null, .int 8, .int 0, .null, .int 32, .int 0, .null], vm := .none },
  { cls := 7, slots := #[.null, .int 9, .int 0, .null, .int 0, .int 0, .null], vm := .none }]
def classes : Array Class := #[k0, k1, k2, k3, k4, k5, k6, k7, k8, k9, k10, k11, k12]
def interned : List (Array UInt16 × Addr) := []
def slotsUsed : Nat := 86
def theMethod : MethodId := ⟨1, 2⟩
def args0 : Array Value := #[.int 5]
def aboutOver (below : List Frame) : State where
  vm := { classes := classes, interned := interned.toArray }
  heap := heap
  slotsUsed := slotsUsed
  threads := #[{ frames := .invoking theMethod args0 :: below }]
def below0 : List Frame := [.native { method := ⟨0, 0⟩, args := #[] }]
def about1 : State := aboutOver below0
def p0 : Program := .bare "" "" ""
def e0 : Env := launch0.env 0 0 0
theorem w_frames : about1.frames = Frame.invoking theMethod args0 :: below0 := rfl
set_option maxRecDepth 65536 in
theorem w_args : argsFit about1.vm theMethod args0 = true := by decide +kernel
set_option maxRecDepth 65536 in
theorem w_heap : heapFits about1 = true := by decide +kernel
set_option maxRecDepth 65536 in
theorem w_runnable : about1.curStatus? = some .runnable := by decide +kernel
set_option maxRecDepth 65536 in
theorem w_alone : about1.alone = true := by decide +kernel
set_option maxRecDepth 65536 in
theorem w_named : about1.methodNamed? x = some theMethod := by decide +kernel
set_option maxRecDepth 65536 in
theorem w_hears : about1.hears theMethod below0 = true := by decide +kernel
set_option maxRecDepth 65536 in
theorem w_ripe : about1.ripe theMethod args0 below0 = true := by decide +kernel
theorem w_running : about1.status = .running := rfl
set_option maxRecDepth 65536 in
theorem w_room : about1.hasRoom e0.platform room_1 = true :=
  launch0.hasRoom_least _ room_1 (by decide +kernel) (by decide +kernel) (by decide +kernel) (by decide +kernel) (by decide +kernel) (by decide +kernel)
theorem allAtoms_all (ts : List Jvm.Cond) (a : Array Jvm.Value) (st : Jvm.State) : (allAtoms ts).before a st = ts.all (fun c => c.before a st) := by
  induction ts with
  | nil => rfl
  | cons c t ih =>
    show (Jvm.Cond.and c (allAtoms t)).before a st = _
    rw [Jvm.Cond.before_and, ih, List.all_cons]
def words1 : List Jvm.Cond := Jvm.Cond.code x code maxLocals ret :: tables_1
/-- a 'code' word, met by the world's own term for the bytes: nothing is compared byte by byte -/
theorem code_word {y : MethodName} {bytes : ByteArray} {mx : Nat} {rt : Option FieldType} {a : Array Value} {s : State} {m : MethodId} {meth : Method} {c : Code} (h1 : s.methodNamed? y = some m) (h2 : s.vm.method? m = some meth) (h3 : meth.code = some c) (h4 : c.code = bytes)
    (h5 : (c.maxLocals == mx && c.exceptionTable.isEmpty && decide (c.maxStack ≤ mostOperands) && decide (meth.sig.returnType = rt) && !meth.locks && decide (parseMethodDescriptor y.desc = some meth.sig)) = true) : (Jvm.Cond.code y bytes mx rt).before a s = true := by
  simp only [Bool.and_eq_true, beq_iff_eq, Bool.not_eq_true', decide_eq_true_eq] at h5
  obtain ⟨⟨⟨⟨⟨g1, g2⟩, g3⟩, g4⟩, g5⟩, g6⟩ := h5
  simp [Cond.before, Cond.holds, Cond.value, h1, h2, h3, h4, g1, g2, g3, g4, g5, g6]
def isCode : Jvm.Cond → Bool
  | .code _ _ _ _ => true
  | _ => false
theorem all_split {L : List Jvm.Cond} {P : Jvm.Cond → Bool} (h1 : L.all (fun c => isCode c || P c) = true) (h2 : ∀ c ∈ L.filter isCode, P c = true) : L.all P = true := by
  refine List.all_eq_true.mpr fun c hc => ?_
  have h := List.all_eq_true.mp h1 c hc
  rcases Bool.eq_false_or_eq_true (isCode c) with hi | hi
  · exact h2 c (List.mem_filter.mpr ⟨hc, hi⟩)
  · simpa [hi] using h
set_option maxRecDepth 65536 in
theorem w_c0 : (Jvm.Cond.code x code maxLocals ret).before args0 about1 = true := code_word (m := ⟨1, 2⟩) (meth := k1m2) (c := k1c2) (by decide +kernel) rfl rfl rfl (by decide +kernel)
set_option maxRecDepth 65536 in
theorem w_c1 : (Jvm.Cond.code ({ cls := "com/example/plumb_stacks/plumbstacks/DigestAlgorithmHashesPinLaw", name := "pick", desc := "(I)Lcom/example/plumb_stacks/plumbstacks/DigestAlgorithm;" } : Jvm.MethodName) method_2_code (1 : Nat) (Option.some (Jvm.ClassFile.FieldType.object "com/example/plumb_stacks/plumbstacks/DigestAlgorithm"))).before args0 about1 = true := code_word (m := ⟨1, 1⟩) (meth := k1m1) (c := k1c1) (by decide +kernel) rfl rfl rfl (by decide +kernel)
set_option maxRecDepth 65536 in
theorem w_c2 : (Jvm.Cond.code ({ cls := "com/example/plumb_stacks/plumbstacks/DigestAlgorithm", name := "hashes", desc := "()Z" } : Jvm.MethodName) prog_9_method_9_code (1 : Nat) (Option.some Jvm.ClassFile.FieldType.boolean)).before args0 about1 = true := code_word (m := ⟨6, 0⟩) (meth := k6m0) (c := k6c0) (by decide +kernel) rfl rfl rfl (by decide +kernel)
set_option maxRecDepth 65536 in
theorem w_c3 : (Jvm.Cond.code ({ cls := "com/example/plumb_stacks/plumbstacks/DigestAlgorithm", name := "hexLength", desc := "()I" } : Jvm.MethodName) prog_9_method_10_code (1 : Nat) (Option.some Jvm.ClassFile.FieldType.int)).before args0 about1 = true := code_word (m := ⟨6, 1⟩) (meth := k6m1) (c := k6c1) (by decide +kernel) rfl rfl rfl (by decide +kernel)
def codes1 : List Jvm.Cond := [Jvm.Cond.code x code maxLocals ret, Jvm.Cond.code ({ cls := "com/example/plumb_stacks/plumbstacks/DigestAlgorithmHashesPinLaw", name := "pick", desc := "(I)Lcom/example/plumb_stacks/plumbstacks/DigestAlgorithm;" } : Jvm.MethodName) method_2_code (1 : Nat) (Option.some (Jvm.ClassFile.FieldType.object "com/example/plumb_stacks/plumbstacks/DigestAlgorithm")), Jvm.Cond.code ({ cls := "com/example/plumb_stacks/plumbstacks/DigestAlgorithm", name := "hashes", desc := "()Z" } : Jvm.MethodName) prog_9_method_9_code (1 : Nat) (Option.some Jvm.ClassFile.FieldType.boolean), Jvm.Cond.code ({ cls := "com/example/plumb_stacks/plumbstacks/DigestAlgorithm", name := "hexLength", desc := "()I" } : Jvm.MethodName) prog_9_method_10_code (1 : Nat) (Option.some Jvm.ClassFile.FieldType.int)]
set_option maxRecDepth 65536 in
theorem codes_eq : words1.filter isCode = codes1 := rfl
theorem w_codes : ∀ c ∈ words1.filter isCode, c.before args0 about1 = true := by
  rw [codes_eq]
  intro c hc
  simp only [codes1, List.mem_cons, List.not_mem_nil, or_false] at hc
  rcases hc with rfl | rfl | rfl | rfl
  · exact w_c0
  · exact w_c1
  · exact w_c2
  · exact w_c3
set_option maxRecDepth 65536 in
theorem w_t1 : (words1.take 24).all (fun c => isCode c || c.before args0 about1) = true := by decide +kernel
set_option maxRecDepth 65536 in
theorem w_t2 : (words1.drop 24).all (fun c => isCode c || c.before args0 about1) = true := by decide +kernel
theorem w_tables : (allAtoms (Jvm.Cond.code x code maxLocals ret :: tables_1)).before args0 about1 = true := by
  rw [allAtoms_all]
  show words1.all (fun c => c.before args0 about1) = true
  refine all_split ?_ w_codes
  rw [← List.take_append_drop 24 words1, List.all_append, w_t1, w_t2]
  rfl
set_option maxRecDepth 65536 in
theorem w_case : (Jvm.Cond.and given_1 narrow_1).before args0 about1 = true := by decide +kernel
theorem w_applies : (headSpec (Jvm.Cond.code x code maxLocals ret :: tables_1) room_1).applies x e0.platform about1 = true :=
  (Spec.applies_iff w_frames).mpr ⟨w_running, w_runnable, w_alone, w_named, w_hears, w_ripe, w_room, w_tables⟩
theorem atStart : AtStart classFile x code maxLocals ret World_1 tables_1 room_1 Calls_1 rest_1 Pre_1 launch0 p0 e0 about1 theMethod args0 below0 :=
  ⟨lists_1, trivial, launch0.admits_env _ _ _, launch0.least_env, fairChoices_fair.cas, fairChoices_fair.clock, w_frames, w_args, w_heap, w_applies, trivial, trivial, w_case⟩
end start1
theorem witness_1 : WitnessClaimed_1 := ⟨start1.p0, start1.e0, start1.about1, start1.theMethod, start1.args0, start1.below0, start1.atStart⟩
end Jvm.Pilot.@@N@@
