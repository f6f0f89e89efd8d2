import JvmDerived
import JvmDerived.Pilot.@@N@@Statement
import JvmDerived.Pilot.@@N@@Code
set_option linter.unusedVariables false
set_option linter.unusedSimpArgs false
namespace Jvm.Pilot.@@N@@
open Jvm Jvm.ClassFile Sem Op Lib Jvm.Free Jvm.Stand Jvm.LawKit Jvm.RoadKit Bundle Jvm.Pilot.@@N@@.Jvm.D
/-- whoever comes on from (T, g) comes from A -/
abbrev Gz (tb : Tables) (e : Env) (below : List Frame) (A T : State) (g : JFrame) : Prop := ∀ t, Steps tb e below (T.setTop g) t → Steps tb e below A t
theorem own_eqI {args : Array Value} {first s : State} {o : Option Outcome} {idx : List Nat} {a : Term} {n : Int32} (h : (Jvm.Cond.eq a (.int n)).value args first o s idx = some true) : a.eval args first o idx s = some (.int n) := by
  simp only [Cond.value, Term.eval] at h
  cases ha : a.eval args first o idx s with
  | none => simp [ha] at h
  | some x => cases x <;> simp [ha] at h ⊢ <;> exact h
theorem own_eqJ {args : Array Value} {first s : State} {o : Option Outcome} {idx : List Nat} {a : Term} {n : Int64} (h : (Jvm.Cond.eq a (.long n)).value args first o s idx = some true) : a.eval args first o idx s = some (.long n) := by
  simp only [Cond.value, Term.eval] at h
  cases ha : a.eval args first o idx s with
  | none => simp [ha] at h
  | some x => cases x <;> simp [ha] at h ⊢ <;> exact h
theorem own_eqR {args : Array Value} {first s : State} {o : Option Outcome} {idx : List Nat} {a b : Term} {x y : Addr} (h : (Jvm.Cond.eq a b).value args first o s idx = some true) (ha : a.eval args first o idx s = some (.ref x)) (hb : b.eval args first o idx s = some (.ref y)) : x = y := by
  simp only [Cond.value, ha, hb] at h
  simpa using h
theorem own_fldI {args : Array Value} {s : State} {t : Term} {C f d : String} {n : Int32} {x : Addr} (h : (Jvm.Cond.eq (.field t C f d) (.int n)).value args s none s [] = some true) (ht : t.eval args s none [] s = some (.ref x)) : Fld s s.heap x C f d (.int n) :=
  Fld.start (by rw [← fld_at (C := C) (n := f) (dd := d) ht]; exact own_eqI h)
theorem own_fldJ {args : Array Value} {s : State} {t : Term} {C f d : String} {n : Int64} {x : Addr} (h : (Jvm.Cond.eq (.field t C f d) (.long n)).value args s none s [] = some true) (ht : t.eval args s none [] s = some (.ref x)) : Fld s s.heap x C f d (.long n) :=
  Fld.start (by rw [← fld_at (C := C) (n := f) (dd := d) ht]; exact own_eqJ h)
theorem own_fldN {args : Array Value} {s : State} {t : Term} {C f d : String} {x : Addr} (h : (Jvm.Cond.eq (.field t C f d) .null).value args s none s [] = some true) (ht : t.eval args s none [] s = some (.ref x)) : Fld s s.heap x C f d .null :=
  Fld.start (by rw [← fld_at (C := C) (n := f) (dd := d) ht]; exact null_v h)
theorem own_ext {h0 h : Heap} (K : Keep h0 h []) : Ext h0 h := ⟨K.1, fun x c q => K.2.1 x c q nin0⟩
theorem own_keep {h0 h : Heap} (E : Ext h0 h) : Keep h0 h [] := (Keep.refl h0 []).ext E
theorem own_extE {h0 h h' : Heap} (K : Ext h0 h) (E : Ext h h') : Ext h0 h' := ⟨Nat.le_trans K.1 E.1, fun a c q => E.2 a c (K.2 a c q)⟩
theorem own_extW {h0 h h' : Heap} {a : Addr} {sl : Nat} {v : Value} (K : Ext h0 h) (W : Wr h h' a sl v) (q : h0.size ≤ a) : Ext h0 h' := own_ext ((own_keep K).wr W (Or.inr q))
theorem own_refl (h : Heap) : Ext h h := ⟨Nat.le_refl _, fun _ _ q => q⟩
theorem own_extK {h0 h h' : Heap} {ws : List Addr} (K : Ext h0 h) (Q : Keep h h' ws) (q : ∀ x ∈ ws, h0.size ≤ x) : Ext h0 h' := ⟨Nat.le_trans K.1 Q.1, fun a c hc => Q.2.1 a c (K.2 a c hc) fun z => absurd (Array.getElem?_eq_some_iff.mp hc).1 (Nat.not_lt.mpr (q a z))⟩
theorem own_getR {p : Program} {l : Launch} {e : Env} {R : Room} {s : State} {m : MethodId} {args : Array Value} {below : List Frame} {meth : Method} {c : Code} {T : State} {locs : List Loc} {cells slots : Nat} {Z : State} {a0 : Array Value} {h : Heap}
    (X : Stand p l e R s m args below meth c T locs cells slots) (hx : p.tables.exec = Jvm.exec) (hZ : Z.Warmed39 s.vm) {own O n d : String} {index : Nat} (hown : s.vm.findClass own = some m.cls) (w : (Cond.fieldRef own index O n d).before a0 Z = true) (eT : T.heap = h) {a : Addr} {v : Value} (F : Fld Z h a O n d v)
    {g : JFrame} (hg : g.method = m) {rest : List Value} (hs : g.stack = .ref a :: rest) (hd : decode c.code g.pc = .ok (.getfield index, 3)) : ∀ target, Steps p.tables e below (T.setTop { g with pc := g.pc + 3, stack := v :: rest }) target → Steps p.tables e below (T.setTop g) target := by
  obtain ⟨cell, cf, k, i, f, h1, h2, h3, h4, -, -, h7⟩ := F
  have hT : Z.Warmed39 T.vm := wtrans hZ X.warmed
  have w1 : (Cond.fieldRef own index O n d).before a0 (Z.setVm T.vm) = true := Cond.fieldRef_warmed39 hT w
  have hownT : (Z.setVm T.vm).vm.findClass own = some m.cls := by show T.vm.findClass own = _; rw [X.warmed.alike.findClass]; exact hown
  obtain ⟨c', k', i', f', hi, hready⟩ := Cond.fieldRef_spec (s := Z.setVm T.vm) hownT w1
  obtain ⟨k'', hi', -⟩ := State.fieldFound?_setVm (s := Z) hT.alike h2
  cases hi.symm.trans hi'
  exact fun target ht => (X.getfieldR hx hg hready h3 hs (by rw [eT]; exact h1) h4 h7 hd (Steps.refl _)).trans ht
theorem own_eqRef {args : Array Value} {first s : State} {o : Option Outcome} {idx : List Nat} {a b : Term} {y : Addr} (h : (Jvm.Cond.eq a b).value args first o s idx = some true) (hb : b.eval args first o idx s = some (.ref y)) : a.eval args first o idx s = some (.ref y) := by
  simp only [Cond.value, hb] at h
  cases ha : a.eval args first o idx s with
  | none => simp [ha] at h
  | some x => cases x <;> simp [ha] at h ⊢ <;> exact h
theorem own_fldR {args : Array Value} {s : State} {t u : Term} {C f d : String} {x y : Addr} (h : (Jvm.Cond.eq (.field t C f d) u).value args s none s [] = some true) (ht : t.eval args s none [] s = some (.ref x)) (hu : u.eval args s none [] s = some (.ref y)) : Fld s s.heap x C f d (.ref y) :=
  Fld.start (by rw [← fld_at (C := C) (n := f) (dd := d) ht]; exact own_eqRef h hu)
theorem own_len {args : Array Value} {s : State} {t : Term} {a : Addr} {cl : Cell} {z : Int32} (h : (Term.length t).eval args s none [] s = some (.int z)) (ht : t.eval args s none [] s = some (.ref a)) (ha : s.arrayAt? a = some cl) : cl.slots.size < 2 ^ 31 ∧ cl.slots.size.toInt32 = z := by
  simp only [Term.eval, ht, ha, Option.bind_eq_bind, Option.bind_some] at h
  split at h
  · rename_i q; exact ⟨q, by simpa using h⟩
  · cases h
theorem own_fldL {args : Array Value} {s : State} {idx : List Nat} {t u : Term} {C f d : String} {n : Int64} {x : Addr} (h : (Jvm.Cond.eq (.field t C f d) u).value args s none s idx = some true) (ht : t.eval args s none idx s = some (.ref x)) (hu : u.eval args s none idx s = some (.long n)) : Fld s s.heap x C f d (.long n) :=
  Fld.start (by
    rw [← fld_at (C := C) (n := f) (dd := d) ht]
    simp only [Cond.value, hu] at h
    cases ha : (Term.field t C f d).eval args s none idx s with
    | none => simp [ha] at h
    | some x => cases x <;> simp [ha] at h ⊢ <;> exact h)
theorem own_fldI2 {args : Array Value} {s : State} {idx : List Nat} {t u : Term} {C f d : String} {n : Int32} {x : Addr} (h : (Jvm.Cond.eq (.field t C f d) u).value args s none s idx = some true) (ht : t.eval args s none idx s = some (.ref x)) (hu : u.eval args s none idx s = some (.int n)) : Fld s s.heap x C f d (.int n) :=
  Fld.start (by
    rw [← fld_at (C := C) (n := f) (dd := d) ht]
    simp only [Cond.value, hu] at h
    cases ha : (Term.field t C f d).eval args s none idx s with
    | none => simp [ha] at h
    | some x => cases x <;> simp [ha] at h ⊢ <;> exact h)
theorem own_selp {s : State} {args : Array Value} {y z : MethodName} (hsel : (Cond.selects z.cls z z).before args s = true) (hcls : z.cls = y.cls) (hpriv : s.PrivateAt y) (hinst : (Cond.instanceMethod y).before args s = true) (hy : y.cls ≠ "java/lang/invoke/MethodHandle" ∧ y.cls ≠ "java/lang/invoke/VarHandle") : (Cond.selects y.cls y y).before args s = true := by
  obtain ⟨c2, r2, m2, q1, q2, q3, q4, kP, hkP, hkPi⟩ := Cond.selects_spec hsel
  exact selects_self_of_private (hcls ▸ findClass_of_methodNamed q3) hkP hkPi hpriv hinst hy
theorem own_nat {z : Int32} (h : 0 ≤ z.toInt) : z.toInt = z.toNatClampNeg := (Int.toNat_of_nonneg h).symm
theorem own_inb {z n : Int32} (N : Int) (hn : n.toInt = N) (h1 : 0 ≤ z.toInt) (h2 : z.toInt < N) : ¬ z < 0 ∧ z < n := by
  rw [Int32.lt_iff_toInt_lt, Int32.lt_iff_toInt_lt, hn]
  exact ⟨by have q : (0 : Int32).toInt = 0 := (by decide); omega, h2⟩
theorem own_inj {Z : State} {h : Heap} {C f d : String} {w : Nat → Addr} {n : Nat} (ho : ∀ k, k < n → Fld Z h (w k) C f d (.int k.toInt32)) (hn : n < 2 ^ 31) : ∀ i j, i < n → j < n → w i = w j → i = j := fun i j hi hj q => Classical.byContradiction fun ne => Fld.ne (ho i hi) (ho j hj) (fun z => ne (by
    have z1 : i.toInt32.toInt = j.toInt32.toInt := by rw [Value.int.inj z]
    rw [len_toInt (by omega), len_toInt (by omega)] at z1
    omega)) q
theorem own_mask (k : Int32) : 0 ≤ (k &&& 2147483647).toInt ∧ (k &&& 2147483647).toInt < 2147483648 := by
  have h1 : (k &&& 2147483647).toInt = ((k &&& 2147483647).toBitVec).toInt := rfl
  have h2 : (k &&& 2147483647).toBitVec = k.toBitVec &&& 2147483647#32 := rfl
  rw [h1, h2]
  have h3 : (k.toBitVec &&& 2147483647#32).msb = false := by rw [BitVec.msb_and, show (2147483647#32).msb = false from by decide, Bool.and_false]
  rw [BitVec.toInt_eq_toNat_of_msb h3]
  have h4 := BitVec.isLt (k.toBitVec &&& 2147483647#32)
  rw [BitVec.msb_eq_decide] at h3
  simp at h3 ⊢
  omega
theorem own_rem (k n : Int32) (N : Int) (hn : n.toInt = N) (hN : 0 < N) : 0 ≤ ((k &&& 2147483647) % n).toInt ∧ ((k &&& 2147483647) % n).toInt < N := by
  have h := own_mask k
  rw [Int32.toInt_mod, hn]
  generalize (k &&& 2147483647).toInt = z at h
  rw [Int.tmod_eq_emod_of_nonneg h.1]
  exact ⟨Int.emod_nonneg _ (by omega), Int.emod_lt_of_pos _ hN⟩
theorem own_i32_ne {x y : Int32} (h : ¬ x = y) : x.toInt ≠ y.toInt := fun q => h (Int32.toInt_inj.mp q)
theorem own_lt {x y : Int32} (h : x < y) : x.toInt < y.toInt := Int32.lt_iff_toInt_lt.mp h
theorem own_nlt {x y : Int32} (h : ¬ x < y) : y.toInt ≤ x.toInt := by rw [Int32.lt_iff_toInt_lt] at h; omega

theorem d1_0 : decode method_3_code 0 = .ok (.iload_n 0, 1) := by decide +kernel
theorem d1_1 : decode method_3_code 1 = .ok (.ifCond .ne 7, 3) := by decide +kernel
theorem d1_4 : decode method_3_code 4 = .ok (.getstatic 20, 3) := by decide +kernel
theorem d1_7 : decode method_3_code 7 = .ok (.areturn, 1) := by decide +kernel
theorem d1_8 : decode method_3_code 8 = .ok (.iload_n 0, 1) := by decide +kernel
theorem d1_9 : decode method_3_code 9 = .ok (.iconst 1, 1) := by decide +kernel
theorem d1_10 : decode method_3_code 10 = .ok (.if_icmp .ne 7, 3) := by decide +kernel
theorem d1_13 : decode method_3_code 13 = .ok (.getstatic 24, 3) := by decide +kernel
theorem d1_16 : decode method_3_code 16 = .ok (.areturn, 1) := by decide +kernel
theorem d1_17 : decode method_3_code 17 = .ok (.iload_n 0, 1) := by decide +kernel
theorem d1_18 : decode method_3_code 18 = .ok (.iconst 2, 1) := by decide +kernel
theorem d1_19 : decode method_3_code 19 = .ok (.if_icmp .ne 7, 3) := by decide +kernel
theorem d1_22 : decode method_3_code 22 = .ok (.getstatic 27, 3) := by decide +kernel
theorem d1_25 : decode method_3_code 25 = .ok (.areturn, 1) := by decide +kernel
theorem d1_26 : decode method_3_code 26 = .ok (.iload_n 0, 1) := by decide +kernel
theorem d1_27 : decode method_3_code 27 = .ok (.iconst 3, 1) := by decide +kernel
theorem d1_28 : decode method_3_code 28 = .ok (.if_icmp .ne 7, 3) := by decide +kernel
theorem d1_31 : decode method_3_code 31 = .ok (.getstatic 30, 3) := by decide +kernel
theorem d1_34 : decode method_3_code 34 = .ok (.areturn, 1) := by decide +kernel
theorem d1_35 : decode method_3_code 35 = .ok (.iload_n 0, 1) := by decide +kernel
theorem d1_36 : decode method_3_code 36 = .ok (.iconst 4, 1) := by decide +kernel
theorem d1_37 : decode method_3_code 37 = .ok (.if_icmp .ne 7, 3) := by decide +kernel
theorem d1_40 : decode method_3_code 40 = .ok (.getstatic 33, 3) := by decide +kernel
theorem d1_43 : decode method_3_code 43 = .ok (.areturn, 1) := by decide +kernel
theorem d1_44 : decode method_3_code 44 = .ok (.iload_n 0, 1) := by decide +kernel
theorem d1_45 : decode method_3_code 45 = .ok (.iconst 5, 1) := by decide +kernel
theorem d1_46 : decode method_3_code 46 = .ok (.if_icmp .ne 7, 3) := by decide +kernel
theorem d1_49 : decode method_3_code 49 = .ok (.getstatic 36, 3) := by decide +kernel
theorem d1_52 : decode method_3_code 52 = .ok (.areturn, 1) := by decide +kernel
theorem d1_53 : decode method_3_code 53 = .ok (.iload_n 0, 1) := by decide +kernel
theorem d1_54 : decode method_3_code 54 = .ok (.bipush 6, 2) := by decide +kernel
theorem d1_56 : decode method_3_code 56 = .ok (.if_icmp .ne 7, 3) := by decide +kernel
theorem d1_59 : decode method_3_code 59 = .ok (.getstatic 39, 3) := by decide +kernel
theorem d1_62 : decode method_3_code 62 = .ok (.areturn, 1) := by decide +kernel
theorem d1_63 : decode method_3_code 63 = .ok (.iload_n 0, 1) := by decide +kernel
theorem d1_64 : decode method_3_code 64 = .ok (.bipush 7, 2) := by decide +kernel
theorem d1_66 : decode method_3_code 66 = .ok (.if_icmp .ne 7, 3) := by decide +kernel
theorem d1_69 : decode method_3_code 69 = .ok (.getstatic 42, 3) := by decide +kernel
theorem d1_72 : decode method_3_code 72 = .ok (.areturn, 1) := by decide +kernel
theorem d1_73 : decode method_3_code 73 = .ok (.iload_n 0, 1) := by decide +kernel
theorem d1_74 : decode method_3_code 74 = .ok (.bipush 8, 2) := by decide +kernel
theorem d1_76 : decode method_3_code 76 = .ok (.if_icmp .ne 7, 3) := by decide +kernel
theorem d1_79 : decode method_3_code 79 = .ok (.getstatic 45, 3) := by decide +kernel
theorem d1_82 : decode method_3_code 82 = .ok (.areturn, 1) := by decide +kernel
theorem d1_83 : decode method_3_code 83 = .ok (.iload_n 0, 1) := by decide +kernel
theorem d1_84 : decode method_3_code 84 = .ok (.bipush 9, 2) := by decide +kernel
theorem d1_86 : decode method_3_code 86 = .ok (.if_icmp .ne 7, 3) := by decide +kernel
theorem d1_89 : decode method_3_code 89 = .ok (.getstatic 48, 3) := by decide +kernel
theorem d1_92 : decode method_3_code 92 = .ok (.areturn, 1) := by decide +kernel
theorem d1_93 : decode method_3_code 93 = .ok (.iload_n 0, 1) := by decide +kernel
theorem d1_94 : decode method_3_code 94 = .ok (.bipush 10, 2) := by decide +kernel
theorem d1_96 : decode method_3_code 96 = .ok (.if_icmp .ne 7, 3) := by decide +kernel
theorem d1_99 : decode method_3_code 99 = .ok (.getstatic 51, 3) := by decide +kernel
theorem d1_102 : decode method_3_code 102 = .ok (.areturn, 1) := by decide +kernel
theorem d1_103 : decode method_3_code 103 = .ok (.iload_n 0, 1) := by decide +kernel
theorem d1_104 : decode method_3_code 104 = .ok (.bipush 11, 2) := by decide +kernel
theorem d1_106 : decode method_3_code 106 = .ok (.if_icmp .ne 7, 3) := by decide +kernel
theorem d1_109 : decode method_3_code 109 = .ok (.getstatic 54, 3) := by decide +kernel
theorem d1_112 : decode method_3_code 112 = .ok (.areturn, 1) := by decide +kernel
theorem d1_113 : decode method_3_code 113 = .ok (.iload_n 0, 1) := by decide +kernel
theorem d1_114 : decode method_3_code 114 = .ok (.bipush 12, 2) := by decide +kernel
theorem d1_116 : decode method_3_code 116 = .ok (.if_icmp .ne 7, 3) := by decide +kernel
theorem d1_119 : decode method_3_code 119 = .ok (.getstatic 57, 3) := by decide +kernel
theorem d1_122 : decode method_3_code 122 = .ok (.areturn, 1) := by decide +kernel
theorem d1_123 : decode method_3_code 123 = .ok (.iload_n 0, 1) := by decide +kernel
theorem d1_124 : decode method_3_code 124 = .ok (.bipush 13, 2) := by decide +kernel
theorem d1_126 : decode method_3_code 126 = .ok (.if_icmp .ne 7, 3) := by decide +kernel
theorem d1_129 : decode method_3_code 129 = .ok (.getstatic 60, 3) := by decide +kernel
theorem d1_132 : decode method_3_code 132 = .ok (.areturn, 1) := by decide +kernel
theorem d1_133 : decode method_3_code 133 = .ok (.iload_n 0, 1) := by decide +kernel
theorem d1_134 : decode method_3_code 134 = .ok (.bipush 14, 2) := by decide +kernel
theorem d1_136 : decode method_3_code 136 = .ok (.if_icmp .ne 7, 3) := by decide +kernel
theorem d1_139 : decode method_3_code 139 = .ok (.getstatic 63, 3) := by decide +kernel
theorem d1_142 : decode method_3_code 142 = .ok (.areturn, 1) := by decide +kernel
theorem d1_143 : decode method_3_code 143 = .ok (.iload_n 0, 1) := by decide +kernel
theorem d1_144 : decode method_3_code 144 = .ok (.bipush 15, 2) := by decide +kernel
theorem d1_146 : decode method_3_code 146 = .ok (.if_icmp .ne 7, 3) := by decide +kernel
theorem d1_149 : decode method_3_code 149 = .ok (.getstatic 66, 3) := by decide +kernel
theorem d1_152 : decode method_3_code 152 = .ok (.areturn, 1) := by decide +kernel
theorem d1_153 : decode method_3_code 153 = .ok (.iload_n 0, 1) := by decide +kernel
theorem d1_154 : decode method_3_code 154 = .ok (.bipush 16, 2) := by decide +kernel
theorem d1_156 : decode method_3_code 156 = .ok (.if_icmp .ne 7, 3) := by decide +kernel
theorem d1_159 : decode method_3_code 159 = .ok (.getstatic 69, 3) := by decide +kernel
theorem d1_162 : decode method_3_code 162 = .ok (.areturn, 1) := by decide +kernel
theorem d1_163 : decode method_3_code 163 = .ok (.iload_n 0, 1) := by decide +kernel
theorem d1_164 : decode method_3_code 164 = .ok (.bipush 17, 2) := by decide +kernel
theorem d1_166 : decode method_3_code 166 = .ok (.if_icmp .ne 7, 3) := by decide +kernel
theorem d1_169 : decode method_3_code 169 = .ok (.getstatic 72, 3) := by decide +kernel
theorem d1_172 : decode method_3_code 172 = .ok (.areturn, 1) := by decide +kernel
theorem d1_173 : decode method_3_code 173 = .ok (.iload_n 0, 1) := by decide +kernel
theorem d1_174 : decode method_3_code 174 = .ok (.bipush 18, 2) := by decide +kernel
theorem d1_176 : decode method_3_code 176 = .ok (.if_icmp .ne 7, 3) := by decide +kernel
theorem d1_179 : decode method_3_code 179 = .ok (.getstatic 75, 3) := by decide +kernel
theorem d1_182 : decode method_3_code 182 = .ok (.areturn, 1) := by decide +kernel
theorem d1_183 : decode method_3_code 183 = .ok (.iload_n 0, 1) := by decide +kernel
theorem d1_184 : decode method_3_code 184 = .ok (.bipush 19, 2) := by decide +kernel
theorem d1_186 : decode method_3_code 186 = .ok (.if_icmp .ne 7, 3) := by decide +kernel
theorem d1_189 : decode method_3_code 189 = .ok (.getstatic 78, 3) := by decide +kernel
theorem d1_192 : decode method_3_code 192 = .ok (.areturn, 1) := by decide +kernel
theorem d1_193 : decode method_3_code 193 = .ok (.iload_n 0, 1) := by decide +kernel
theorem d1_194 : decode method_3_code 194 = .ok (.bipush 20, 2) := by decide +kernel
theorem d1_196 : decode method_3_code 196 = .ok (.if_icmp .ne 7, 3) := by decide +kernel
theorem d1_199 : decode method_3_code 199 = .ok (.getstatic 81, 3) := by decide +kernel
theorem d1_202 : decode method_3_code 202 = .ok (.areturn, 1) := by decide +kernel
theorem d1_203 : decode method_3_code 203 = .ok (.iload_n 0, 1) := by decide +kernel
theorem d1_204 : decode method_3_code 204 = .ok (.bipush 21, 2) := by decide +kernel
theorem d1_206 : decode method_3_code 206 = .ok (.if_icmp .ne 7, 3) := by decide +kernel
theorem d1_209 : decode method_3_code 209 = .ok (.getstatic 84, 3) := by decide +kernel
theorem d1_212 : decode method_3_code 212 = .ok (.areturn, 1) := by decide +kernel
theorem d1_213 : decode method_3_code 213 = .ok (.iload_n 0, 1) := by decide +kernel
theorem d1_214 : decode method_3_code 214 = .ok (.bipush 22, 2) := by decide +kernel
theorem d1_216 : decode method_3_code 216 = .ok (.if_icmp .ne 7, 3) := by decide +kernel
theorem d1_219 : decode method_3_code 219 = .ok (.getstatic 87, 3) := by decide +kernel
theorem d1_222 : decode method_3_code 222 = .ok (.areturn, 1) := by decide +kernel
theorem d1_223 : decode method_3_code 223 = .ok (.getstatic 90, 3) := by decide +kernel
theorem d1_226 : decode method_3_code 226 = .ok (.areturn, 1) := by decide +kernel
theorem pn1 : plainName "com/example/pathloom/pathloom/OperatorIsBooleanPinLaw" = true := by first | (simp [plainName, overriddenIn]; done) | decide +kernel
theorem ef1 (m : MethodId) (x0 : Int32) : entryFrame m #[(.int x0)] 1 = mkF m 0 #[.val (.int x0)] [] := by first | (simp [entryFrame, mkF, argsToLocals, Value.category]; done) | rfl
def Q1 (Z : State) (p1 : Int32) (w : Nat → Addr) (h0 : Heap) (n0 : Nat) (v : Option Value) (h : Heap) (L : List Loc) : Prop := ∃ j, v = some (.ref (w j)) ∧ Fr n0 L ∧ h = h0 ∧ j < 24 ∧ p1.toInt = j
set_option maxRecDepth 65536 in
set_option maxHeartbeats 40000000 in
theorem rm1 (l : Launch) (Z : State) (a0 : Array Value) (hw : ∀ d ∈ tables_1, d.before a0 Z = true) (ws : List Jvm.Cond) (p1 : Int32) (w : Nat → Addr) (h0 : Heap) (n0 : Nat) (Z0 : n0 ≤ h0.size) (S_MULTIPLY : Sta Z h0 "com/example/pathloom/pathloom/Operator" "MULTIPLY" "Lcom/example/pathloom/pathloom/Operator;" (.ref (w 0))) (S_DIVIDE : Sta Z h0 "com/example/pathloom/pathloom/Operator" "DIVIDE" "Lcom/example/pathloom/pathloom/Operator;" (.ref (w 1))) (S_DIV : Sta Z h0 "com/example/pathloom/pathloom/Operator" "DIV" "Lcom/example/pathloom/pathloom/Operator;" (.ref (w 2))) (S_MOD : Sta Z h0 "com/example/pathloom/pathloom/Operator" "MOD" "Lcom/example/pathloom/pathloom/Operator;" (.ref (w 3))) (S_ADD : Sta Z h0 "com/example/pathloom/pathloom/Operator" "ADD" "Lcom/example/pathloom/pathloom/Operator;" (.ref (w 4))) (S_SUBTRACT : Sta Z h0 "com/example/pathloom/pathloom/Operator" "SUBTRACT" "Lcom/example/pathloom/pathloom/Operator;" (.ref (w 5))) (S_CONCATENATE : Sta Z h0 "com/example/pathloom/pathloom/Operator" "CONCATENATE" "Lcom/example/pathloom/pathloom/Operator;" (.ref (w 6))) (S_IS : Sta Z h0 "com/example/pathloom/pathloom/Operator" "IS" "Lcom/example/pathloom/pathloom/Operator;" (.ref (w 7))) (S_AS : Sta Z h0 "com/example/pathloom/pathloom/Operator" "AS" "Lcom/example/pathloom/pathloom/Operator;" (.ref (w 8))) (S_UNION : Sta Z h0 "com/example/pathloom/pathloom/Operator" "UNION" "Lcom/example/pathloom/pathloom/Operator;" (.ref (w 9))) (S_LESS_OR_EQUAL : Sta Z h0 "com/example/pathloom/pathloom/Operator" "LESS_OR_EQUAL" "Lcom/example/pathloom/pathloom/Operator;" (.ref (w 10))) (S_LESS : Sta Z h0 "com/example/pathloom/pathloom/Operator" "LESS" "Lcom/example/pathloom/pathloom/Operator;" (.ref (w 11))) (S_GREATER : Sta Z h0 "com/example/pathloom/pathloom/Operator" "GREATER" "Lcom/example/pathloom/pathloom/Operator;" (.ref (w 12))) (S_GREATER_OR_EQUAL : Sta Z h0 "com/example/pathloom/pathloom/Operator" "GREATER_OR_EQUAL" "Lcom/example/pathloom/pathloom/Operator;" (.ref (w 13))) (S_EQUAL : Sta Z h0 "com/example/pathloom/pathloom/Operator" "EQUAL" "Lcom/example/pathloom/pathloom/Operator;" (.ref (w 14))) (S_EQUIVALENT : Sta Z h0 "com/example/pathloom/pathloom/Operator" "EQUIVALENT" "Lcom/example/pathloom/pathloom/Operator;" (.ref (w 15))) (S_NOT_EQUAL : Sta Z h0 "com/example/pathloom/pathloom/Operator" "NOT_EQUAL" "Lcom/example/pathloom/pathloom/Operator;" (.ref (w 16))) (S_NOT_EQUIVALENT : Sta Z h0 "com/example/pathloom/pathloom/Operator" "NOT_EQUIVALENT" "Lcom/example/pathloom/pathloom/Operator;" (.ref (w 17))) (S_IN : Sta Z h0 "com/example/pathloom/pathloom/Operator" "IN" "Lcom/example/pathloom/pathloom/Operator;" (.ref (w 18))) (S_CONTAINS : Sta Z h0 "com/example/pathloom/pathloom/Operator" "CONTAINS" "Lcom/example/pathloom/pathloom/Operator;" (.ref (w 19))) (S_AND : Sta Z h0 "com/example/pathloom/pathloom/Operator" "AND" "Lcom/example/pathloom/pathloom/Operator;" (.ref (w 20))) (S_OR : Sta Z h0 "com/example/pathloom/pathloom/Operator" "OR" "Lcom/example/pathloom/pathloom/Operator;" (.ref (w 21))) (S_XOR : Sta Z h0 "com/example/pathloom/pathloom/Operator" "XOR" "Lcom/example/pathloom/pathloom/Operator;" (.ref (w 22))) (S_IMPLIES : Sta Z h0 "com/example/pathloom/pathloom/Operator" "IMPLIES" "Lcom/example/pathloom/pathloom/Operator;" (.ref (w 23))) (hlo : 0 ≤ p1.toInt) (hhi : p1.toInt < 24) :
    MetFree l (⟨"com/example/pathloom/pathloom/OperatorIsBooleanPinLaw", "pick", "(I)Lcom/example/pathloom/pathloom/Operator;"⟩ : MethodName) (head1 (Jvm.Cond.code (⟨"com/example/pathloom/pathloom/OperatorIsBooleanPinLaw", "pick", "(I)Lcom/example/pathloom/pathloom/Operator;"⟩ : MethodName) method_3_code 1 (some (.object "com/example/pathloom/pathloom/Operator")) :: ws) ({ frames := 0, cells := 0, slots := 0, locals := 0 } : Room)) (fun aq Uq => aq = #[(.int p1)] ∧ Z.Warmed39 Uq.vm ∧ Uq.heap = h0) (fun _ _ _ _ _ => True) (fun _ U o U' => ∃ v L, o = .returned v ∧ Q1 Z p1 w h0 n0 v U'.heap L ∧ FrameEnd U o U' L ({ frames := 0, cells := 0, slots := 0, locals := 0 } : Room).cells ({ frames := 0, cells := 0, slots := 0, locals := 0 } : Room).slots) := by
  refine MetFree.of_bodySF (plainFor_of_name pn1) hisR ?_
  intro p e s m args below meth c s₁ Bd hml0 hP hK
  obtain ⟨rfl, hZ, hh⟩ := hP
  have hx := Bd.exec
  have hby := Bd.bytes
  have hml : c.maxLocals = 1 := hml0
  have hown : s.vm.findClass "com/example/pathloom/pathloom/OperatorIsBooleanPinLaw" = some m.cls := findClass_of_methodNamed Bd.named
  have hnm := (name_of_methodNamed Bd.named Bd.method).1
  have X0 : Stand p l e ({ frames := 0, cells := 0, slots := 0, locals := 0 } : Room) s m #[(.int p1)] below meth c s₁ [] 0 0 := Stand.of_body Bd
  have e0 : s₁.heap = h0 := by rw [← hh, Bd.state]; rfl
  have N0 := Fr.nil n0
  obtain ⟨A, hA⟩ : ∃ A, A = s₁.setTop (entryFrame m #[(.int p1)] 1) := ⟨_, rfl⟩
  rw [← hA]
  have g0 : Gz p.tables e below A s₁ (mkF m 0 #[.val (.int p1)] []) := fun tq kq => by rw [hA]; exact castTop (ef1 m p1) kq
  have g1 : Gz p.tables e below A s₁ (mkF m 1 #[.val (.int p1)] [(.int p1)]) := fun tq kq => g0 tq (XS.iloadN X0.here hx rfl (hb hby d1_0) rfl kq)
  by_cases hc1 : p1 = (0 : Int32)
  · have g2 : Gz p.tables e below A s₁ (mkF m 4 #[.val (.int p1)] []) := fun tq kq => g1 tq (XS.ifNo X0.here hx rfl (hb hby d1_1) rfl ((if0 _ _).trans (teq hc1).2) kq)
    obtain ⟨T3, X3, e3, st3⟩ := getS2 X0 hx hZ hown (host := "") (Or.inl (hw _ (List.mem_of_getElem? (i := 5) rfl))) Via.refl e0 S_MULTIPLY (g := (mkF m 4 #[.val (.int p1)] [])) rfl (hb hby d1_4)
    have g4 : Gz p.tables e below A T3 (mkF m 7 #[.val (.int p1)] [(.ref (w 0))]) := fun tq kq => g2 tq (st3 tq kq)
    obtain ⟨fs, hr, hrun, hended, hW, hsame⟩ := X3.leave (v := some (.ref (w 0))) (fun h => by rw [Bd.returns] at h; cases h)
    refine ⟨_, _, g4 _ (retOut X3 hx Bd.returns rfl (Or.inr (Or.inr (Or.inr (Or.inr ⟨rfl, rfl, rfl⟩)))) (hb hby d1_7) hr), hrun, hended, _, _, rfl, ?_, ⟨_, rfl⟩, hW, hsame.mono (by decide) (by decide)⟩
    show Q1 Z p1 w h0 n0 _ T3.heap _
    rw [e3]
    exact ⟨0, rfl, N0, rfl, by decide, by rw [hc1]; decide⟩
  · have g5 : Gz p.tables e below A s₁ (mkF m 8 #[.val (.int p1)] []) := fun tq kq => g1 tq (XS.ifYes X0.here hx rfl (pc0 := 1) (pc' := 8) rfl (hb hby d1_1) rfl ((if0 _ _).trans (feq hc1).2) (by decide) (by decide) kq)
    have g6 : Gz p.tables e below A s₁ (mkF m 9 #[.val (.int p1)] [(.int p1)]) := fun tq kq => g5 tq (XS.iloadN X0.here hx rfl (hb hby d1_8) rfl kq)
    have g7 : Gz p.tables e below A s₁ (mkF m 10 #[.val (.int p1)] [(.int (1 : Int32)), (.int p1)]) := fun tq kq => g6 tq (XS.iconst X0.here hx rfl (hb hby d1_9) kq)
    by_cases hc10 : p1 = (1 : Int32)
    · have g8 : Gz p.tables e below A s₁ (mkF m 13 #[.val (.int p1)] []) := fun tq kq => g7 tq (XS.icmpNo X0.here hx rfl (hb hby d1_10) rfl (teq hc10).2 kq)
      obtain ⟨T9, X9, e9, st9⟩ := getS2 X0 hx hZ hown (host := "") (Or.inl (hw _ (List.mem_of_getElem? (i := 39) rfl))) Via.refl e0 S_DIVIDE (g := (mkF m 13 #[.val (.int p1)] [])) rfl (hb hby d1_13)
      have g10 : Gz p.tables e below A T9 (mkF m 16 #[.val (.int p1)] [(.ref (w 1))]) := fun tq kq => g8 tq (st9 tq kq)
      obtain ⟨fs, hr, hrun, hended, hW, hsame⟩ := X9.leave (v := some (.ref (w 1))) (fun h => by rw [Bd.returns] at h; cases h)
      refine ⟨_, _, g10 _ (retOut X9 hx Bd.returns rfl (Or.inr (Or.inr (Or.inr (Or.inr ⟨rfl, rfl, rfl⟩)))) (hb hby d1_16) hr), hrun, hended, _, _, rfl, ?_, ⟨_, rfl⟩, hW, hsame.mono (by decide) (by decide)⟩
      show Q1 Z p1 w h0 n0 _ T9.heap _
      rw [e9]
      exact ⟨1, rfl, N0, rfl, by decide, by rw [hc10]; decide⟩
    · have g11 : Gz p.tables e below A s₁ (mkF m 17 #[.val (.int p1)] []) := fun tq kq => g7 tq (XS.icmpYes X0.here hx rfl (pc0 := 10) (pc' := 17) rfl (hb hby d1_10) rfl (feq hc10).2 (by decide) (by decide) kq)
      have g12 : Gz p.tables e below A s₁ (mkF m 18 #[.val (.int p1)] [(.int p1)]) := fun tq kq => g11 tq (XS.iloadN X0.here hx rfl (hb hby d1_17) rfl kq)
      have g13 : Gz p.tables e below A s₁ (mkF m 19 #[.val (.int p1)] [(.int (2 : Int32)), (.int p1)]) := fun tq kq => g12 tq (XS.iconst X0.here hx rfl (hb hby d1_18) kq)
      by_cases hc19 : p1 = (2 : Int32)
      · have g14 : Gz p.tables e below A s₁ (mkF m 22 #[.val (.int p1)] []) := fun tq kq => g13 tq (XS.icmpNo X0.here hx rfl (hb hby d1_19) rfl (teq hc19).2 kq)
        obtain ⟨T15, X15, e15, st15⟩ := getS2 X0 hx hZ hown (host := "") (Or.inl (hw _ (List.mem_of_getElem? (i := 29) rfl))) Via.refl e0 S_DIV (g := (mkF m 22 #[.val (.int p1)] [])) rfl (hb hby d1_22)
        have g16 : Gz p.tables e below A T15 (mkF m 25 #[.val (.int p1)] [(.ref (w 2))]) := fun tq kq => g14 tq (st15 tq kq)
        obtain ⟨fs, hr, hrun, hended, hW, hsame⟩ := X15.leave (v := some (.ref (w 2))) (fun h => by rw [Bd.returns] at h; cases h)
        refine ⟨_, _, g16 _ (retOut X15 hx Bd.returns rfl (Or.inr (Or.inr (Or.inr (Or.inr ⟨rfl, rfl, rfl⟩)))) (hb hby d1_25) hr), hrun, hended, _, _, rfl, ?_, ⟨_, rfl⟩, hW, hsame.mono (by decide) (by decide)⟩
        show Q1 Z p1 w h0 n0 _ T15.heap _
        rw [e15]
        exact ⟨2, rfl, N0, rfl, by decide, by rw [hc19]; decide⟩
      · have g17 : Gz p.tables e below A s₁ (mkF m 26 #[.val (.int p1)] []) := fun tq kq => g13 tq (XS.icmpYes X0.here hx rfl (pc0 := 19) (pc' := 26) rfl (hb hby d1_19) rfl (feq hc19).2 (by decide) (by decide) kq)
        have g18 : Gz p.tables e below A s₁ (mkF m 27 #[.val (.int p1)] [(.int p1)]) := fun tq kq => g17 tq (XS.iloadN X0.here hx rfl (hb hby d1_26) rfl kq)
        have g19 : Gz p.tables e below A s₁ (mkF m 28 #[.val (.int p1)] [(.int (3 : Int32)), (.int p1)]) := fun tq kq => g18 tq (XS.iconst X0.here hx rfl (hb hby d1_27) kq)
        by_cases hc28 : p1 = (3 : Int32)
        · have g20 : Gz p.tables e below A s₁ (mkF m 31 #[.val (.int p1)] []) := fun tq kq => g19 tq (XS.icmpNo X0.here hx rfl (hb hby d1_28) rfl (teq hc28).2 kq)
          obtain ⟨T21, X21, e21, st21⟩ := getS2 X0 hx hZ hown (host := "") (Or.inl (hw _ (List.mem_of_getElem? (i := 21) rfl))) Via.refl e0 S_MOD (g := (mkF m 31 #[.val (.int p1)] [])) rfl (hb hby d1_31)
          have g22 : Gz p.tables e below A T21 (mkF m 34 #[.val (.int p1)] [(.ref (w 3))]) := fun tq kq => g20 tq (st21 tq kq)
          obtain ⟨fs, hr, hrun, hended, hW, hsame⟩ := X21.leave (v := some (.ref (w 3))) (fun h => by rw [Bd.returns] at h; cases h)
          refine ⟨_, _, g22 _ (retOut X21 hx Bd.returns rfl (Or.inr (Or.inr (Or.inr (Or.inr ⟨rfl, rfl, rfl⟩)))) (hb hby d1_34) hr), hrun, hended, _, _, rfl, ?_, ⟨_, rfl⟩, hW, hsame.mono (by decide) (by decide)⟩
          show Q1 Z p1 w h0 n0 _ T21.heap _
          rw [e21]
          exact ⟨3, rfl, N0, rfl, by decide, by rw [hc28]; decide⟩
        · have g23 : Gz p.tables e below A s₁ (mkF m 35 #[.val (.int p1)] []) := fun tq kq => g19 tq (XS.icmpYes X0.here hx rfl (pc0 := 28) (pc' := 35) rfl (hb hby d1_28) rfl (feq hc28).2 (by decide) (by decide) kq)
          have g24 : Gz p.tables e below A s₁ (mkF m 36 #[.val (.int p1)] [(.int p1)]) := fun tq kq => g23 tq (XS.iloadN X0.here hx rfl (hb hby d1_35) rfl kq)
          have g25 : Gz p.tables e below A s₁ (mkF m 37 #[.val (.int p1)] [(.int (4 : Int32)), (.int p1)]) := fun tq kq => g24 tq (XS.iconst X0.here hx rfl (hb hby d1_36) kq)
          by_cases hc37 : p1 = (4 : Int32)
          · have g26 : Gz p.tables e below A s₁ (mkF m 40 #[.val (.int p1)] []) := fun tq kq => g25 tq (XS.icmpNo X0.here hx rfl (hb hby d1_37) rfl (teq hc37).2 kq)
            obtain ⟨T27, X27, e27, st27⟩ := getS2 X0 hx hZ hown (host := "") (Or.inl (hw _ (List.mem_of_getElem? (i := 47) rfl))) Via.refl e0 S_ADD (g := (mkF m 40 #[.val (.int p1)] [])) rfl (hb hby d1_40)
            have g28 : Gz p.tables e below A T27 (mkF m 43 #[.val (.int p1)] [(.ref (w 4))]) := fun tq kq => g26 tq (st27 tq kq)
            obtain ⟨fs, hr, hrun, hended, hW, hsame⟩ := X27.leave (v := some (.ref (w 4))) (fun h => by rw [Bd.returns] at h; cases h)
            refine ⟨_, _, g28 _ (retOut X27 hx Bd.returns rfl (Or.inr (Or.inr (Or.inr (Or.inr ⟨rfl, rfl, rfl⟩)))) (hb hby d1_43) hr), hrun, hended, _, _, rfl, ?_, ⟨_, rfl⟩, hW, hsame.mono (by decide) (by decide)⟩
            show Q1 Z p1 w h0 n0 _ T27.heap _
            rw [e27]
            exact ⟨4, rfl, N0, rfl, by decide, by rw [hc37]; decide⟩
          · have g29 : Gz p.tables e below A s₁ (mkF m 44 #[.val (.int p1)] []) := fun tq kq => g25 tq (XS.icmpYes X0.here hx rfl (pc0 := 37) (pc' := 44) rfl (hb hby d1_37) rfl (feq hc37).2 (by decide) (by decide) kq)
            have g30 : Gz p.tables e below A s₁ (mkF m 45 #[.val (.int p1)] [(.int p1)]) := fun tq kq => g29 tq (XS.iloadN X0.here hx rfl (hb hby d1_44) rfl kq)
            have g31 : Gz p.tables e below A s₁ (mkF m 46 #[.val (.int p1)] [(.int (5 : Int32)), (.int p1)]) := fun tq kq => g30 tq (XS.iconst X0.here hx rfl (hb hby d1_45) kq)
            by_cases hc46 : p1 = (5 : Int32)
            · have g32 : Gz p.tables e below A s₁ (mkF m 49 #[.val (.int p1)] []) := fun tq kq => g31 tq (XS.icmpNo X0.here hx rfl (hb hby d1_46) rfl (teq hc46).2 kq)
              obtain ⟨T33, X33, e33, st33⟩ := getS2 X0 hx hZ hown (host := "") (Or.inl (hw _ (List.mem_of_getElem? (i := 51) rfl))) Via.refl e0 S_SUBTRACT (g := (mkF m 49 #[.val (.int p1)] [])) rfl (hb hby d1_49)
              have g34 : Gz p.tables e below A T33 (mkF m 52 #[.val (.int p1)] [(.ref (w 5))]) := fun tq kq => g32 tq (st33 tq kq)
              obtain ⟨fs, hr, hrun, hended, hW, hsame⟩ := X33.leave (v := some (.ref (w 5))) (fun h => by rw [Bd.returns] at h; cases h)
              refine ⟨_, _, g34 _ (retOut X33 hx Bd.returns rfl (Or.inr (Or.inr (Or.inr (Or.inr ⟨rfl, rfl, rfl⟩)))) (hb hby d1_52) hr), hrun, hended, _, _, rfl, ?_, ⟨_, rfl⟩, hW, hsame.mono (by decide) (by decide)⟩
              show Q1 Z p1 w h0 n0 _ T33.heap _
              rw [e33]
              exact ⟨5, rfl, N0, rfl, by decide, by rw [hc46]; decide⟩
            · have g35 : Gz p.tables e below A s₁ (mkF m 53 #[.val (.int p1)] []) := fun tq kq => g31 tq (XS.icmpYes X0.here hx rfl (pc0 := 46) (pc' := 53) rfl (hb hby d1_46) rfl (feq hc46).2 (by decide) (by decide) kq)
              have g36 : Gz p.tables e below A s₁ (mkF m 54 #[.val (.int p1)] [(.int p1)]) := fun tq kq => g35 tq (XS.iloadN X0.here hx rfl (hb hby d1_53) rfl kq)
              have g37 : Gz p.tables e below A s₁ (mkF m 56 #[.val (.int p1)] [(.int (6 : Int32)), (.int p1)]) := fun tq kq => g36 tq (XS.bipush X0.here hx rfl (hb hby d1_54) kq)
              by_cases hc56 : p1 = (6 : Int32)
              · have g38 : Gz p.tables e below A s₁ (mkF m 59 #[.val (.int p1)] []) := fun tq kq => g37 tq (XS.icmpNo X0.here hx rfl (hb hby d1_56) rfl (teq hc56).2 kq)
                obtain ⟨T39, X39, e39, st39⟩ := getS2 X0 hx hZ hown (host := "") (Or.inl (hw _ (List.mem_of_getElem? (i := 53) rfl))) Via.refl e0 S_CONCATENATE (g := (mkF m 59 #[.val (.int p1)] [])) rfl (hb hby d1_59)
                have g40 : Gz p.tables e below A T39 (mkF m 62 #[.val (.int p1)] [(.ref (w 6))]) := fun tq kq => g38 tq (st39 tq kq)
                obtain ⟨fs, hr, hrun, hended, hW, hsame⟩ := X39.leave (v := some (.ref (w 6))) (fun h => by rw [Bd.returns] at h; cases h)
                refine ⟨_, _, g40 _ (retOut X39 hx Bd.returns rfl (Or.inr (Or.inr (Or.inr (Or.inr ⟨rfl, rfl, rfl⟩)))) (hb hby d1_62) hr), hrun, hended, _, _, rfl, ?_, ⟨_, rfl⟩, hW, hsame.mono (by decide) (by decide)⟩
                show Q1 Z p1 w h0 n0 _ T39.heap _
                rw [e39]
                exact ⟨6, rfl, N0, rfl, by decide, by rw [hc56]; decide⟩
              · have g41 : Gz p.tables e below A s₁ (mkF m 63 #[.val (.int p1)] []) := fun tq kq => g37 tq (XS.icmpYes X0.here hx rfl (pc0 := 56) (pc' := 63) rfl (hb hby d1_56) rfl (feq hc56).2 (by decide) (by decide) kq)
                have g42 : Gz p.tables e below A s₁ (mkF m 64 #[.val (.int p1)] [(.int p1)]) := fun tq kq => g41 tq (XS.iloadN X0.here hx rfl (hb hby d1_63) rfl kq)
                have g43 : Gz p.tables e below A s₁ (mkF m 66 #[.val (.int p1)] [(.int (7 : Int32)), (.int p1)]) := fun tq kq => g42 tq (XS.bipush X0.here hx rfl (hb hby d1_64) kq)
                by_cases hc66 : p1 = (7 : Int32)
                · have g44 : Gz p.tables e below A s₁ (mkF m 69 #[.val (.int p1)] []) := fun tq kq => g43 tq (XS.icmpNo X0.here hx rfl (hb hby d1_66) rfl (teq hc66).2 kq)
                  obtain ⟨T45, X45, e45, st45⟩ := getS2 X0 hx hZ hown (host := "") (Or.inl (hw _ (List.mem_of_getElem? (i := 31) rfl))) Via.refl e0 S_IS (g := (mkF m 69 #[.val (.int p1)] [])) rfl (hb hby d1_69)
                  have g46 : Gz p.tables e below A T45 (mkF m 72 #[.val (.int p1)] [(.ref (w 7))]) := fun tq kq => g44 tq (st45 tq kq)
                  obtain ⟨fs, hr, hrun, hended, hW, hsame⟩ := X45.leave (v := some (.ref (w 7))) (fun h => by rw [Bd.returns] at h; cases h)
                  refine ⟨_, _, g46 _ (retOut X45 hx Bd.returns rfl (Or.inr (Or.inr (Or.inr (Or.inr ⟨rfl, rfl, rfl⟩)))) (hb hby d1_72) hr), hrun, hended, _, _, rfl, ?_, ⟨_, rfl⟩, hW, hsame.mono (by decide) (by decide)⟩
                  show Q1 Z p1 w h0 n0 _ T45.heap _
                  rw [e45]
                  exact ⟨7, rfl, N0, rfl, by decide, by rw [hc66]; decide⟩
                · have g47 : Gz p.tables e below A s₁ (mkF m 73 #[.val (.int p1)] []) := fun tq kq => g43 tq (XS.icmpYes X0.here hx rfl (pc0 := 66) (pc' := 73) rfl (hb hby d1_66) rfl (feq hc66).2 (by decide) (by decide) kq)
                  have g48 : Gz p.tables e below A s₁ (mkF m 74 #[.val (.int p1)] [(.int p1)]) := fun tq kq => g47 tq (XS.iloadN X0.here hx rfl (hb hby d1_73) rfl kq)
                  have g49 : Gz p.tables e below A s₁ (mkF m 76 #[.val (.int p1)] [(.int (8 : Int32)), (.int p1)]) := fun tq kq => g48 tq (XS.bipush X0.here hx rfl (hb hby d1_74) kq)
                  by_cases hc76 : p1 = (8 : Int32)
                  · have g50 : Gz p.tables e below A s₁ (mkF m 79 #[.val (.int p1)] []) := fun tq kq => g49 tq (XS.icmpNo X0.here hx rfl (hb hby d1_76) rfl (teq hc76).2 kq)
                    obtain ⟨T51, X51, e51, st51⟩ := getS2 X0 hx hZ hown (host := "") (Or.inl (hw _ (List.mem_of_getElem? (i := 37) rfl))) Via.refl e0 S_AS (g := (mkF m 79 #[.val (.int p1)] [])) rfl (hb hby d1_79)
                    have g52 : Gz p.tables e below A T51 (mkF m 82 #[.val (.int p1)] [(.ref (w 8))]) := fun tq kq => g50 tq (st51 tq kq)
                    obtain ⟨fs, hr, hrun, hended, hW, hsame⟩ := X51.leave (v := some (.ref (w 8))) (fun h => by rw [Bd.returns] at h; cases h)
                    refine ⟨_, _, g52 _ (retOut X51 hx Bd.returns rfl (Or.inr (Or.inr (Or.inr (Or.inr ⟨rfl, rfl, rfl⟩)))) (hb hby d1_82) hr), hrun, hended, _, _, rfl, ?_, ⟨_, rfl⟩, hW, hsame.mono (by decide) (by decide)⟩
                    show Q1 Z p1 w h0 n0 _ T51.heap _
                    rw [e51]
                    exact ⟨8, rfl, N0, rfl, by decide, by rw [hc76]; decide⟩
                  · have g53 : Gz p.tables e below A s₁ (mkF m 83 #[.val (.int p1)] []) := fun tq kq => g49 tq (XS.icmpYes X0.here hx rfl (pc0 := 76) (pc' := 83) rfl (hb hby d1_76) rfl (feq hc76).2 (by decide) (by decide) kq)
                    have g54 : Gz p.tables e below A s₁ (mkF m 84 #[.val (.int p1)] [(.int p1)]) := fun tq kq => g53 tq (XS.iloadN X0.here hx rfl (hb hby d1_83) rfl kq)
                    have g55 : Gz p.tables e below A s₁ (mkF m 86 #[.val (.int p1)] [(.int (9 : Int32)), (.int p1)]) := fun tq kq => g54 tq (XS.bipush X0.here hx rfl (hb hby d1_84) kq)
                    by_cases hc86 : p1 = (9 : Int32)
                    · have g56 : Gz p.tables e below A s₁ (mkF m 89 #[.val (.int p1)] []) := fun tq kq => g55 tq (XS.icmpNo X0.here hx rfl (hb hby d1_86) rfl (teq hc86).2 kq)
                      obtain ⟨T57, X57, e57, st57⟩ := getS2 X0 hx hZ hown (host := "") (Or.inl (hw _ (List.mem_of_getElem? (i := 44) rfl))) Via.refl e0 S_UNION (g := (mkF m 89 #[.val (.int p1)] [])) rfl (hb hby d1_89)
                      have g58 : Gz p.tables e below A T57 (mkF m 92 #[.val (.int p1)] [(.ref (w 9))]) := fun tq kq => g56 tq (st57 tq kq)
                      obtain ⟨fs, hr, hrun, hended, hW, hsame⟩ := X57.leave (v := some (.ref (w 9))) (fun h => by rw [Bd.returns] at h; cases h)
                      refine ⟨_, _, g58 _ (retOut X57 hx Bd.returns rfl (Or.inr (Or.inr (Or.inr (Or.inr ⟨rfl, rfl, rfl⟩)))) (hb hby d1_92) hr), hrun, hended, _, _, rfl, ?_, ⟨_, rfl⟩, hW, hsame.mono (by decide) (by decide)⟩
                      show Q1 Z p1 w h0 n0 _ T57.heap _
                      rw [e57]
                      exact ⟨9, rfl, N0, rfl, by decide, by rw [hc86]; decide⟩
                    · have g59 : Gz p.tables e below A s₁ (mkF m 93 #[.val (.int p1)] []) := fun tq kq => g55 tq (XS.icmpYes X0.here hx rfl (pc0 := 86) (pc' := 93) rfl (hb hby d1_86) rfl (feq hc86).2 (by decide) (by decide) kq)
                      have g60 : Gz p.tables e below A s₁ (mkF m 94 #[.val (.int p1)] [(.int p1)]) := fun tq kq => g59 tq (XS.iloadN X0.here hx rfl (hb hby d1_93) rfl kq)
                      have g61 : Gz p.tables e below A s₁ (mkF m 96 #[.val (.int p1)] [(.int (10 : Int32)), (.int p1)]) := fun tq kq => g60 tq (XS.bipush X0.here hx rfl (hb hby d1_94) kq)
                      by_cases hc96 : p1 = (10 : Int32)
                      · have g62 : Gz p.tables e below A s₁ (mkF m 99 #[.val (.int p1)] []) := fun tq kq => g61 tq (XS.icmpNo X0.here hx rfl (hb hby d1_96) rfl (teq hc96).2 kq)
                        obtain ⟨T63, X63, e63, st63⟩ := getS2 X0 hx hZ hown (host := "") (Or.inl (hw _ (List.mem_of_getElem? (i := 42) rfl))) Via.refl e0 S_LESS_OR_EQUAL (g := (mkF m 99 #[.val (.int p1)] [])) rfl (hb hby d1_99)
                        have g64 : Gz p.tables e below A T63 (mkF m 102 #[.val (.int p1)] [(.ref (w 10))]) := fun tq kq => g62 tq (st63 tq kq)
                        obtain ⟨fs, hr, hrun, hended, hW, hsame⟩ := X63.leave (v := some (.ref (w 10))) (fun h => by rw [Bd.returns] at h; cases h)
                        refine ⟨_, _, g64 _ (retOut X63 hx Bd.returns rfl (Or.inr (Or.inr (Or.inr (Or.inr ⟨rfl, rfl, rfl⟩)))) (hb hby d1_102) hr), hrun, hended, _, _, rfl, ?_, ⟨_, rfl⟩, hW, hsame.mono (by decide) (by decide)⟩
                        show Q1 Z p1 w h0 n0 _ T63.heap _
                        rw [e63]
                        exact ⟨10, rfl, N0, rfl, by decide, by rw [hc96]; decide⟩
                      · have g65 : Gz p.tables e below A s₁ (mkF m 103 #[.val (.int p1)] []) := fun tq kq => g61 tq (XS.icmpYes X0.here hx rfl (pc0 := 96) (pc' := 103) rfl (hb hby d1_96) rfl (feq hc96).2 (by decide) (by decide) kq)
                        have g66 : Gz p.tables e below A s₁ (mkF m 104 #[.val (.int p1)] [(.int p1)]) := fun tq kq => g65 tq (XS.iloadN X0.here hx rfl (hb hby d1_103) rfl kq)
                        have g67 : Gz p.tables e below A s₁ (mkF m 106 #[.val (.int p1)] [(.int (11 : Int32)), (.int p1)]) := fun tq kq => g66 tq (XS.bipush X0.here hx rfl (hb hby d1_104) kq)
                        by_cases hc106 : p1 = (11 : Int32)
                        · have g68 : Gz p.tables e below A s₁ (mkF m 109 #[.val (.int p1)] []) := fun tq kq => g67 tq (XS.icmpNo X0.here hx rfl (hb hby d1_106) rfl (teq hc106).2 kq)
                          obtain ⟨T69, X69, e69, st69⟩ := getS2 X0 hx hZ hown (host := "") (Or.inl (hw _ (List.mem_of_getElem? (i := 33) rfl))) Via.refl e0 S_LESS (g := (mkF m 109 #[.val (.int p1)] [])) rfl (hb hby d1_109)
                          have g70 : Gz p.tables e below A T69 (mkF m 112 #[.val (.int p1)] [(.ref (w 11))]) := fun tq kq => g68 tq (st69 tq kq)
                          obtain ⟨fs, hr, hrun, hended, hW, hsame⟩ := X69.leave (v := some (.ref (w 11))) (fun h => by rw [Bd.returns] at h; cases h)
                          refine ⟨_, _, g70 _ (retOut X69 hx Bd.returns rfl (Or.inr (Or.inr (Or.inr (Or.inr ⟨rfl, rfl, rfl⟩)))) (hb hby d1_112) hr), hrun, hended, _, _, rfl, ?_, ⟨_, rfl⟩, hW, hsame.mono (by decide) (by decide)⟩
                          show Q1 Z p1 w h0 n0 _ T69.heap _
                          rw [e69]
                          exact ⟨11, rfl, N0, rfl, by decide, by rw [hc106]; decide⟩
                        · have g71 : Gz p.tables e below A s₁ (mkF m 113 #[.val (.int p1)] []) := fun tq kq => g67 tq (XS.icmpYes X0.here hx rfl (pc0 := 106) (pc' := 113) rfl (hb hby d1_106) rfl (feq hc106).2 (by decide) (by decide) kq)
                          have g72 : Gz p.tables e below A s₁ (mkF m 114 #[.val (.int p1)] [(.int p1)]) := fun tq kq => g71 tq (XS.iloadN X0.here hx rfl (hb hby d1_113) rfl kq)
                          have g73 : Gz p.tables e below A s₁ (mkF m 116 #[.val (.int p1)] [(.int (12 : Int32)), (.int p1)]) := fun tq kq => g72 tq (XS.bipush X0.here hx rfl (hb hby d1_114) kq)
                          by_cases hc116 : p1 = (12 : Int32)
                          · have g74 : Gz p.tables e below A s₁ (mkF m 119 #[.val (.int p1)] []) := fun tq kq => g73 tq (XS.icmpNo X0.here hx rfl (hb hby d1_116) rfl (teq hc116).2 kq)
                            obtain ⟨T75, X75, e75, st75⟩ := getS2 X0 hx hZ hown (host := "") (Or.inl (hw _ (List.mem_of_getElem? (i := 55) rfl))) Via.refl e0 S_GREATER (g := (mkF m 119 #[.val (.int p1)] [])) rfl (hb hby d1_119)
                            have g76 : Gz p.tables e below A T75 (mkF m 122 #[.val (.int p1)] [(.ref (w 12))]) := fun tq kq => g74 tq (st75 tq kq)
                            obtain ⟨fs, hr, hrun, hended, hW, hsame⟩ := X75.leave (v := some (.ref (w 12))) (fun h => by rw [Bd.returns] at h; cases h)
                            refine ⟨_, _, g76 _ (retOut X75 hx Bd.returns rfl (Or.inr (Or.inr (Or.inr (Or.inr ⟨rfl, rfl, rfl⟩)))) (hb hby d1_122) hr), hrun, hended, _, _, rfl, ?_, ⟨_, rfl⟩, hW, hsame.mono (by decide) (by decide)⟩
                            show Q1 Z p1 w h0 n0 _ T75.heap _
                            rw [e75]
                            exact ⟨12, rfl, N0, rfl, by decide, by rw [hc116]; decide⟩
                          · have g77 : Gz p.tables e below A s₁ (mkF m 123 #[.val (.int p1)] []) := fun tq kq => g73 tq (XS.icmpYes X0.here hx rfl (pc0 := 116) (pc' := 123) rfl (hb hby d1_116) rfl (feq hc116).2 (by decide) (by decide) kq)
                            have g78 : Gz p.tables e below A s₁ (mkF m 124 #[.val (.int p1)] [(.int p1)]) := fun tq kq => g77 tq (XS.iloadN X0.here hx rfl (hb hby d1_123) rfl kq)
                            have g79 : Gz p.tables e below A s₁ (mkF m 126 #[.val (.int p1)] [(.int (13 : Int32)), (.int p1)]) := fun tq kq => g78 tq (XS.bipush X0.here hx rfl (hb hby d1_124) kq)
                            by_cases hc126 : p1 = (13 : Int32)
                            · have g80 : Gz p.tables e below A s₁ (mkF m 129 #[.val (.int p1)] []) := fun tq kq => g79 tq (XS.icmpNo X0.here hx rfl (hb hby d1_126) rfl (teq hc126).2 kq)
                              obtain ⟨T81, X81, e81, st81⟩ := getS2 X0 hx hZ hown (host := "") (Or.inl (hw _ (List.mem_of_getElem? (i := 60) rfl))) Via.refl e0 S_GREATER_OR_EQUAL (g := (mkF m 129 #[.val (.int p1)] [])) rfl (hb hby d1_129)
                              have g82 : Gz p.tables e below A T81 (mkF m 132 #[.val (.int p1)] [(.ref (w 13))]) := fun tq kq => g80 tq (st81 tq kq)
                              obtain ⟨fs, hr, hrun, hended, hW, hsame⟩ := X81.leave (v := some (.ref (w 13))) (fun h => by rw [Bd.returns] at h; cases h)
                              refine ⟨_, _, g82 _ (retOut X81 hx Bd.returns rfl (Or.inr (Or.inr (Or.inr (Or.inr ⟨rfl, rfl, rfl⟩)))) (hb hby d1_132) hr), hrun, hended, _, _, rfl, ?_, ⟨_, rfl⟩, hW, hsame.mono (by decide) (by decide)⟩
                              show Q1 Z p1 w h0 n0 _ T81.heap _
                              rw [e81]
                              exact ⟨13, rfl, N0, rfl, by decide, by rw [hc126]; decide⟩
                            · have g83 : Gz p.tables e below A s₁ (mkF m 133 #[.val (.int p1)] []) := fun tq kq => g79 tq (XS.icmpYes X0.here hx rfl (pc0 := 126) (pc' := 133) rfl (hb hby d1_126) rfl (feq hc126).2 (by decide) (by decide) kq)
                              have g84 : Gz p.tables e below A s₁ (mkF m 134 #[.val (.int p1)] [(.int p1)]) := fun tq kq => g83 tq (XS.iloadN X0.here hx rfl (hb hby d1_133) rfl kq)
                              have g85 : Gz p.tables e below A s₁ (mkF m 136 #[.val (.int p1)] [(.int (14 : Int32)), (.int p1)]) := fun tq kq => g84 tq (XS.bipush X0.here hx rfl (hb hby d1_134) kq)
                              by_cases hc136 : p1 = (14 : Int32)
                              · have g86 : Gz p.tables e below A s₁ (mkF m 139 #[.val (.int p1)] []) := fun tq kq => g85 tq (XS.icmpNo X0.here hx rfl (hb hby d1_136) rfl (teq hc136).2 kq)
                                obtain ⟨T87, X87, e87, st87⟩ := getS2 X0 hx hZ hown (host := "") (Or.inl (hw _ (List.mem_of_getElem? (i := 23) rfl))) Via.refl e0 S_EQUAL (g := (mkF m 139 #[.val (.int p1)] [])) rfl (hb hby d1_139)
                                have g88 : Gz p.tables e below A T87 (mkF m 142 #[.val (.int p1)] [(.ref (w 14))]) := fun tq kq => g86 tq (st87 tq kq)
                                obtain ⟨fs, hr, hrun, hended, hW, hsame⟩ := X87.leave (v := some (.ref (w 14))) (fun h => by rw [Bd.returns] at h; cases h)
                                refine ⟨_, _, g88 _ (retOut X87 hx Bd.returns rfl (Or.inr (Or.inr (Or.inr (Or.inr ⟨rfl, rfl, rfl⟩)))) (hb hby d1_142) hr), hrun, hended, _, _, rfl, ?_, ⟨_, rfl⟩, hW, hsame.mono (by decide) (by decide)⟩
                                show Q1 Z p1 w h0 n0 _ T87.heap _
                                rw [e87]
                                exact ⟨14, rfl, N0, rfl, by decide, by rw [hc136]; decide⟩
                              · have g89 : Gz p.tables e below A s₁ (mkF m 143 #[.val (.int p1)] []) := fun tq kq => g85 tq (XS.icmpYes X0.here hx rfl (pc0 := 136) (pc' := 143) rfl (hb hby d1_136) rfl (feq hc136).2 (by decide) (by decide) kq)
                                have g90 : Gz p.tables e below A s₁ (mkF m 144 #[.val (.int p1)] [(.int p1)]) := fun tq kq => g89 tq (XS.iloadN X0.here hx rfl (hb hby d1_143) rfl kq)
                                have g91 : Gz p.tables e below A s₁ (mkF m 146 #[.val (.int p1)] [(.int (15 : Int32)), (.int p1)]) := fun tq kq => g90 tq (XS.bipush X0.here hx rfl (hb hby d1_144) kq)
                                by_cases hc146 : p1 = (15 : Int32)
                                · have g92 : Gz p.tables e below A s₁ (mkF m 149 #[.val (.int p1)] []) := fun tq kq => g91 tq (XS.icmpNo X0.here hx rfl (hb hby d1_146) rfl (teq hc146).2 kq)
                                  obtain ⟨T93, X93, e93, st93⟩ := getS2 X0 hx hZ hown (host := "") (Or.inl (hw _ (List.mem_of_getElem? (i := 27) rfl))) Via.refl e0 S_EQUIVALENT (g := (mkF m 149 #[.val (.int p1)] [])) rfl (hb hby d1_149)
                                  have g94 : Gz p.tables e below A T93 (mkF m 152 #[.val (.int p1)] [(.ref (w 15))]) := fun tq kq => g92 tq (st93 tq kq)
                                  obtain ⟨fs, hr, hrun, hended, hW, hsame⟩ := X93.leave (v := some (.ref (w 15))) (fun h => by rw [Bd.returns] at h; cases h)
                                  refine ⟨_, _, g94 _ (retOut X93 hx Bd.returns rfl (Or.inr (Or.inr (Or.inr (Or.inr ⟨rfl, rfl, rfl⟩)))) (hb hby d1_152) hr), hrun, hended, _, _, rfl, ?_, ⟨_, rfl⟩, hW, hsame.mono (by decide) (by decide)⟩
                                  show Q1 Z p1 w h0 n0 _ T93.heap _
                                  rw [e93]
                                  exact ⟨15, rfl, N0, rfl, by decide, by rw [hc146]; decide⟩
                                · have g95 : Gz p.tables e below A s₁ (mkF m 153 #[.val (.int p1)] []) := fun tq kq => g91 tq (XS.icmpYes X0.here hx rfl (pc0 := 146) (pc' := 153) rfl (hb hby d1_146) rfl (feq hc146).2 (by decide) (by decide) kq)
                                  have g96 : Gz p.tables e below A s₁ (mkF m 154 #[.val (.int p1)] [(.int p1)]) := fun tq kq => g95 tq (XS.iloadN X0.here hx rfl (hb hby d1_153) rfl kq)
                                  have g97 : Gz p.tables e below A s₁ (mkF m 156 #[.val (.int p1)] [(.int (16 : Int32)), (.int p1)]) := fun tq kq => g96 tq (XS.bipush X0.here hx rfl (hb hby d1_154) kq)
                                  by_cases hc156 : p1 = (16 : Int32)
                                  · have g98 : Gz p.tables e below A s₁ (mkF m 159 #[.val (.int p1)] []) := fun tq kq => g97 tq (XS.icmpNo X0.here hx rfl (hb hby d1_156) rfl (teq hc156).2 kq)
                                    obtain ⟨T99, X99, e99, st99⟩ := getS2 X0 hx hZ hown (host := "") (Or.inl (hw _ (List.mem_of_getElem? (i := 35) rfl))) Via.refl e0 S_NOT_EQUAL (g := (mkF m 159 #[.val (.int p1)] [])) rfl (hb hby d1_159)
                                    have g100 : Gz p.tables e below A T99 (mkF m 162 #[.val (.int p1)] [(.ref (w 16))]) := fun tq kq => g98 tq (st99 tq kq)
                                    obtain ⟨fs, hr, hrun, hended, hW, hsame⟩ := X99.leave (v := some (.ref (w 16))) (fun h => by rw [Bd.returns] at h; cases h)
                                    refine ⟨_, _, g100 _ (retOut X99 hx Bd.returns rfl (Or.inr (Or.inr (Or.inr (Or.inr ⟨rfl, rfl, rfl⟩)))) (hb hby d1_162) hr), hrun, hended, _, _, rfl, ?_, ⟨_, rfl⟩, hW, hsame.mono (by decide) (by decide)⟩
                                    show Q1 Z p1 w h0 n0 _ T99.heap _
                                    rw [e99]
                                    exact ⟨16, rfl, N0, rfl, by decide, by rw [hc156]; decide⟩
                                  · have g101 : Gz p.tables e below A s₁ (mkF m 163 #[.val (.int p1)] []) := fun tq kq => g97 tq (XS.icmpYes X0.here hx rfl (pc0 := 156) (pc' := 163) rfl (hb hby d1_156) rfl (feq hc156).2 (by decide) (by decide) kq)
                                    have g102 : Gz p.tables e below A s₁ (mkF m 164 #[.val (.int p1)] [(.int p1)]) := fun tq kq => g101 tq (XS.iloadN X0.here hx rfl (hb hby d1_163) rfl kq)
                                    have g103 : Gz p.tables e below A s₁ (mkF m 166 #[.val (.int p1)] [(.int (17 : Int32)), (.int p1)]) := fun tq kq => g102 tq (XS.bipush X0.here hx rfl (hb hby d1_164) kq)
                                    by_cases hc166 : p1 = (17 : Int32)
                                    · have g104 : Gz p.tables e below A s₁ (mkF m 169 #[.val (.int p1)] []) := fun tq kq => g103 tq (XS.icmpNo X0.here hx rfl (hb hby d1_166) rfl (teq hc166).2 kq)
                                      obtain ⟨T105, X105, e105, st105⟩ := getS2 X0 hx hZ hown (host := "") (Or.inl (hw _ (List.mem_of_getElem? (i := 57) rfl))) Via.refl e0 S_NOT_EQUIVALENT (g := (mkF m 169 #[.val (.int p1)] [])) rfl (hb hby d1_169)
                                      have g106 : Gz p.tables e below A T105 (mkF m 172 #[.val (.int p1)] [(.ref (w 17))]) := fun tq kq => g104 tq (st105 tq kq)
                                      obtain ⟨fs, hr, hrun, hended, hW, hsame⟩ := X105.leave (v := some (.ref (w 17))) (fun h => by rw [Bd.returns] at h; cases h)
                                      refine ⟨_, _, g106 _ (retOut X105 hx Bd.returns rfl (Or.inr (Or.inr (Or.inr (Or.inr ⟨rfl, rfl, rfl⟩)))) (hb hby d1_172) hr), hrun, hended, _, _, rfl, ?_, ⟨_, rfl⟩, hW, hsame.mono (by decide) (by decide)⟩
                                      show Q1 Z p1 w h0 n0 _ T105.heap _
                                      rw [e105]
                                      exact ⟨17, rfl, N0, rfl, by decide, by rw [hc166]; decide⟩
                                    · have g107 : Gz p.tables e below A s₁ (mkF m 173 #[.val (.int p1)] []) := fun tq kq => g103 tq (XS.icmpYes X0.here hx rfl (pc0 := 166) (pc' := 173) rfl (hb hby d1_166) rfl (feq hc166).2 (by decide) (by decide) kq)
                                      have g108 : Gz p.tables e below A s₁ (mkF m 174 #[.val (.int p1)] [(.int p1)]) := fun tq kq => g107 tq (XS.iloadN X0.here hx rfl (hb hby d1_173) rfl kq)
                                      have g109 : Gz p.tables e below A s₁ (mkF m 176 #[.val (.int p1)] [(.int (18 : Int32)), (.int p1)]) := fun tq kq => g108 tq (XS.bipush X0.here hx rfl (hb hby d1_174) kq)
                                      by_cases hc176 : p1 = (18 : Int32)
                                      · have g110 : Gz p.tables e below A s₁ (mkF m 179 #[.val (.int p1)] []) := fun tq kq => g109 tq (XS.icmpNo X0.here hx rfl (hb hby d1_176) rfl (teq hc176).2 kq)
                                        obtain ⟨T111, X111, e111, st111⟩ := getS2 X0 hx hZ hown (host := "") (Or.inl (hw _ (List.mem_of_getElem? (i := 49) rfl))) Via.refl e0 S_IN (g := (mkF m 179 #[.val (.int p1)] [])) rfl (hb hby d1_179)
                                        have g112 : Gz p.tables e below A T111 (mkF m 182 #[.val (.int p1)] [(.ref (w 18))]) := fun tq kq => g110 tq (st111 tq kq)
                                        obtain ⟨fs, hr, hrun, hended, hW, hsame⟩ := X111.leave (v := some (.ref (w 18))) (fun h => by rw [Bd.returns] at h; cases h)
                                        refine ⟨_, _, g112 _ (retOut X111 hx Bd.returns rfl (Or.inr (Or.inr (Or.inr (Or.inr ⟨rfl, rfl, rfl⟩)))) (hb hby d1_182) hr), hrun, hended, _, _, rfl, ?_, ⟨_, rfl⟩, hW, hsame.mono (by decide) (by decide)⟩
                                        show Q1 Z p1 w h0 n0 _ T111.heap _
                                        rw [e111]
                                        exact ⟨18, rfl, N0, rfl, by decide, by rw [hc176]; decide⟩
                                      · have g113 : Gz p.tables e below A s₁ (mkF m 183 #[.val (.int p1)] []) := fun tq kq => g109 tq (XS.icmpYes X0.here hx rfl (pc0 := 176) (pc' := 183) rfl (hb hby d1_176) rfl (feq hc176).2 (by decide) (by decide) kq)
                                        have g114 : Gz p.tables e below A s₁ (mkF m 184 #[.val (.int p1)] [(.int p1)]) := fun tq kq => g113 tq (XS.iloadN X0.here hx rfl (hb hby d1_183) rfl kq)
                                        have g115 : Gz p.tables e below A s₁ (mkF m 186 #[.val (.int p1)] [(.int (19 : Int32)), (.int p1)]) := fun tq kq => g114 tq (XS.bipush X0.here hx rfl (hb hby d1_184) kq)
                                        by_cases hc186 : p1 = (19 : Int32)
                                        · have g116 : Gz p.tables e below A s₁ (mkF m 189 #[.val (.int p1)] []) := fun tq kq => g115 tq (XS.icmpNo X0.here hx rfl (hb hby d1_186) rfl (teq hc186).2 kq)
                                          obtain ⟨T117, X117, e117, st117⟩ := getS2 X0 hx hZ hown (host := "") (Or.inl (hw _ (List.mem_of_getElem? (i := 25) rfl))) Via.refl e0 S_CONTAINS (g := (mkF m 189 #[.val (.int p1)] [])) rfl (hb hby d1_189)
                                          have g118 : Gz p.tables e below A T117 (mkF m 192 #[.val (.int p1)] [(.ref (w 19))]) := fun tq kq => g116 tq (st117 tq kq)
                                          obtain ⟨fs, hr, hrun, hended, hW, hsame⟩ := X117.leave (v := some (.ref (w 19))) (fun h => by rw [Bd.returns] at h; cases h)
                                          refine ⟨_, _, g118 _ (retOut X117 hx Bd.returns rfl (Or.inr (Or.inr (Or.inr (Or.inr ⟨rfl, rfl, rfl⟩)))) (hb hby d1_192) hr), hrun, hended, _, _, rfl, ?_, ⟨_, rfl⟩, hW, hsame.mono (by decide) (by decide)⟩
                                          show Q1 Z p1 w h0 n0 _ T117.heap _
                                          rw [e117]
                                          exact ⟨19, rfl, N0, rfl, by decide, by rw [hc186]; decide⟩
                                        · have g119 : Gz p.tables e below A s₁ (mkF m 193 #[.val (.int p1)] []) := fun tq kq => g115 tq (XS.icmpYes X0.here hx rfl (pc0 := 186) (pc' := 193) rfl (hb hby d1_186) rfl (feq hc186).2 (by decide) (by decide) kq)
                                          have g120 : Gz p.tables e below A s₁ (mkF m 194 #[.val (.int p1)] [(.int p1)]) := fun tq kq => g119 tq (XS.iloadN X0.here hx rfl (hb hby d1_193) rfl kq)
                                          have g121 : Gz p.tables e below A s₁ (mkF m 196 #[.val (.int p1)] [(.int (20 : Int32)), (.int p1)]) := fun tq kq => g120 tq (XS.bipush X0.here hx rfl (hb hby d1_194) kq)
                                          by_cases hc196 : p1 = (20 : Int32)
                                          · have g122 : Gz p.tables e below A s₁ (mkF m 199 #[.val (.int p1)] []) := fun tq kq => g121 tq (XS.icmpNo X0.here hx rfl (hb hby d1_196) rfl (teq hc196).2 kq)
                                            obtain ⟨T123, X123, e123, st123⟩ := getS2 X0 hx hZ hown (host := "") (Or.inl (hw _ (List.mem_of_getElem? (i := 46) rfl))) Via.refl e0 S_AND (g := (mkF m 199 #[.val (.int p1)] [])) rfl (hb hby d1_199)
                                            have g124 : Gz p.tables e below A T123 (mkF m 202 #[.val (.int p1)] [(.ref (w 20))]) := fun tq kq => g122 tq (st123 tq kq)
                                            obtain ⟨fs, hr, hrun, hended, hW, hsame⟩ := X123.leave (v := some (.ref (w 20))) (fun h => by rw [Bd.returns] at h; cases h)
                                            refine ⟨_, _, g124 _ (retOut X123 hx Bd.returns rfl (Or.inr (Or.inr (Or.inr (Or.inr ⟨rfl, rfl, rfl⟩)))) (hb hby d1_202) hr), hrun, hended, _, _, rfl, ?_, ⟨_, rfl⟩, hW, hsame.mono (by decide) (by decide)⟩
                                            show Q1 Z p1 w h0 n0 _ T123.heap _
                                            rw [e123]
                                            exact ⟨20, rfl, N0, rfl, by decide, by rw [hc196]; decide⟩
                                          · have g125 : Gz p.tables e below A s₁ (mkF m 203 #[.val (.int p1)] []) := fun tq kq => g121 tq (XS.icmpYes X0.here hx rfl (pc0 := 196) (pc' := 203) rfl (hb hby d1_196) rfl (feq hc196).2 (by decide) (by decide) kq)
                                            have g126 : Gz p.tables e below A s₁ (mkF m 204 #[.val (.int p1)] [(.int p1)]) := fun tq kq => g125 tq (XS.iloadN X0.here hx rfl (hb hby d1_203) rfl kq)
                                            have g127 : Gz p.tables e below A s₁ (mkF m 206 #[.val (.int p1)] [(.int (21 : Int32)), (.int p1)]) := fun tq kq => g126 tq (XS.bipush X0.here hx rfl (hb hby d1_204) kq)
                                            by_cases hc206 : p1 = (21 : Int32)
                                            · have g128 : Gz p.tables e below A s₁ (mkF m 209 #[.val (.int p1)] []) := fun tq kq => g127 tq (XS.icmpNo X0.here hx rfl (hb hby d1_206) rfl (teq hc206).2 kq)
                                              obtain ⟨T129, X129, e129, st129⟩ := getS2 X0 hx hZ hown (host := "") (Or.inl (hw _ (List.mem_of_getElem? (i := 59) rfl))) Via.refl e0 S_OR (g := (mkF m 209 #[.val (.int p1)] [])) rfl (hb hby d1_209)
                                              have g130 : Gz p.tables e below A T129 (mkF m 212 #[.val (.int p1)] [(.ref (w 21))]) := fun tq kq => g128 tq (st129 tq kq)
                                              obtain ⟨fs, hr, hrun, hended, hW, hsame⟩ := X129.leave (v := some (.ref (w 21))) (fun h => by rw [Bd.returns] at h; cases h)
                                              refine ⟨_, _, g130 _ (retOut X129 hx Bd.returns rfl (Or.inr (Or.inr (Or.inr (Or.inr ⟨rfl, rfl, rfl⟩)))) (hb hby d1_212) hr), hrun, hended, _, _, rfl, ?_, ⟨_, rfl⟩, hW, hsame.mono (by decide) (by decide)⟩
                                              show Q1 Z p1 w h0 n0 _ T129.heap _
                                              rw [e129]
                                              exact ⟨21, rfl, N0, rfl, by decide, by rw [hc206]; decide⟩
                                            · have g131 : Gz p.tables e below A s₁ (mkF m 213 #[.val (.int p1)] []) := fun tq kq => g127 tq (XS.icmpYes X0.here hx rfl (pc0 := 206) (pc' := 213) rfl (hb hby d1_206) rfl (feq hc206).2 (by decide) (by decide) kq)
                                              have g132 : Gz p.tables e below A s₁ (mkF m 214 #[.val (.int p1)] [(.int p1)]) := fun tq kq => g131 tq (XS.iloadN X0.here hx rfl (hb hby d1_213) rfl kq)
                                              have g133 : Gz p.tables e below A s₁ (mkF m 216 #[.val (.int p1)] [(.int (22 : Int32)), (.int p1)]) := fun tq kq => g132 tq (XS.bipush X0.here hx rfl (hb hby d1_214) kq)
                                              by_cases hc216 : p1 = (22 : Int32)
                                              · have g134 : Gz p.tables e below A s₁ (mkF m 219 #[.val (.int p1)] []) := fun tq kq => g133 tq (XS.icmpNo X0.here hx rfl (hb hby d1_216) rfl (teq hc216).2 kq)
                                                obtain ⟨T135, X135, e135, st135⟩ := getS2 X0 hx hZ hown (host := "") (Or.inl (hw _ (List.mem_of_getElem? (i := 62) rfl))) Via.refl e0 S_XOR (g := (mkF m 219 #[.val (.int p1)] [])) rfl (hb hby d1_219)
                                                have g136 : Gz p.tables e below A T135 (mkF m 222 #[.val (.int p1)] [(.ref (w 22))]) := fun tq kq => g134 tq (st135 tq kq)
                                                obtain ⟨fs, hr, hrun, hended, hW, hsame⟩ := X135.leave (v := some (.ref (w 22))) (fun h => by rw [Bd.returns] at h; cases h)
                                                refine ⟨_, _, g136 _ (retOut X135 hx Bd.returns rfl (Or.inr (Or.inr (Or.inr (Or.inr ⟨rfl, rfl, rfl⟩)))) (hb hby d1_222) hr), hrun, hended, _, _, rfl, ?_, ⟨_, rfl⟩, hW, hsame.mono (by decide) (by decide)⟩
                                                show Q1 Z p1 w h0 n0 _ T135.heap _
                                                rw [e135]
                                                exact ⟨22, rfl, N0, rfl, by decide, by rw [hc216]; decide⟩
                                              · have g137 : Gz p.tables e below A s₁ (mkF m 223 #[.val (.int p1)] []) := fun tq kq => g133 tq (XS.icmpYes X0.here hx rfl (pc0 := 216) (pc' := 223) rfl (hb hby d1_216) rfl (feq hc216).2 (by decide) (by decide) kq)
                                                obtain ⟨T138, X138, e138, st138⟩ := getS2 X0 hx hZ hown (host := "") (Or.inl (hw _ (List.mem_of_getElem? (i := 41) rfl))) Via.refl e0 S_IMPLIES (g := (mkF m 223 #[.val (.int p1)] [])) rfl (hb hby d1_223)
                                                have g139 : Gz p.tables e below A T138 (mkF m 226 #[.val (.int p1)] [(.ref (w 23))]) := fun tq kq => g137 tq (st138 tq kq)
                                                obtain ⟨fs, hr, hrun, hended, hW, hsame⟩ := X138.leave (v := some (.ref (w 23))) (fun h => by rw [Bd.returns] at h; cases h)
                                                refine ⟨_, _, g139 _ (retOut X138 hx Bd.returns rfl (Or.inr (Or.inr (Or.inr (Or.inr ⟨rfl, rfl, rfl⟩)))) (hb hby d1_226) hr), hrun, hended, _, _, rfl, ?_, ⟨_, rfl⟩, hW, hsame.mono (by decide) (by decide)⟩
                                                show Q1 Z p1 w h0 n0 _ T138.heap _
                                                rw [e138]
                                                have n0 : p1.toInt ≠ 0 := own_i32_ne hc1
                                                have n1 : p1.toInt ≠ 1 := own_i32_ne hc10
                                                have n2 : p1.toInt ≠ 2 := own_i32_ne hc19
                                                have n3 : p1.toInt ≠ 3 := own_i32_ne hc28
                                                have n4 : p1.toInt ≠ 4 := own_i32_ne hc37
                                                have n5 : p1.toInt ≠ 5 := own_i32_ne hc46
                                                have n6 : p1.toInt ≠ 6 := own_i32_ne hc56
                                                have n7 : p1.toInt ≠ 7 := own_i32_ne hc66
                                                have n8 : p1.toInt ≠ 8 := own_i32_ne hc76
                                                have n9 : p1.toInt ≠ 9 := own_i32_ne hc86
                                                have n10 : p1.toInt ≠ 10 := own_i32_ne hc96
                                                have n11 : p1.toInt ≠ 11 := own_i32_ne hc106
                                                have n12 : p1.toInt ≠ 12 := own_i32_ne hc116
                                                have n13 : p1.toInt ≠ 13 := own_i32_ne hc126
                                                have n14 : p1.toInt ≠ 14 := own_i32_ne hc136
                                                have n15 : p1.toInt ≠ 15 := own_i32_ne hc146
                                                have n16 : p1.toInt ≠ 16 := own_i32_ne hc156
                                                have n17 : p1.toInt ≠ 17 := own_i32_ne hc166
                                                have n18 : p1.toInt ≠ 18 := own_i32_ne hc176
                                                have n19 : p1.toInt ≠ 19 := own_i32_ne hc186
                                                have n20 : p1.toInt ≠ 20 := own_i32_ne hc196
                                                have n21 : p1.toInt ≠ 21 := own_i32_ne hc206
                                                have n22 : p1.toInt ≠ 22 := own_i32_ne hc216
                                                exact ⟨23, rfl, N0, rfl, by decide, by omega⟩

theorem d2_0 : decode prog_16_method_7_code 0 = .ok (.aload_n 0, 1) := by decide +kernel
theorem d2_1 : decode prog_16_method_7_code 1 = .ok (.getstatic 64, 3) := by decide +kernel
theorem d2_4 : decode prog_16_method_7_code 4 = .ok (.if_acmp .eq 24, 3) := by decide +kernel
theorem d2_7 : decode prog_16_method_7_code 7 = .ok (.aload_n 0, 1) := by decide +kernel
theorem d2_8 : decode prog_16_method_7_code 8 = .ok (.getstatic 67, 3) := by decide +kernel
theorem d2_11 : decode prog_16_method_7_code 11 = .ok (.if_acmp .eq 17, 3) := by decide +kernel
theorem d2_14 : decode prog_16_method_7_code 14 = .ok (.aload_n 0, 1) := by decide +kernel
theorem d2_15 : decode prog_16_method_7_code 15 = .ok (.getstatic 70, 3) := by decide +kernel
theorem d2_18 : decode prog_16_method_7_code 18 = .ok (.if_acmp .eq 10, 3) := by decide +kernel
theorem d2_21 : decode prog_16_method_7_code 21 = .ok (.aload_n 0, 1) := by decide +kernel
theorem d2_22 : decode prog_16_method_7_code 22 = .ok (.getstatic 73, 3) := by decide +kernel
theorem d2_25 : decode prog_16_method_7_code 25 = .ok (.if_acmp .ne 7, 3) := by decide +kernel
theorem d2_28 : decode prog_16_method_7_code 28 = .ok (.iconst 1, 1) := by decide +kernel
theorem d2_29 : decode prog_16_method_7_code 29 = .ok (.goto 4, 3) := by decide +kernel
theorem d2_32 : decode prog_16_method_7_code 32 = .ok (.iconst 0, 1) := by decide +kernel
theorem d2_33 : decode prog_16_method_7_code 33 = .ok (.ireturn, 1) := by decide +kernel
theorem pn2 : plainName "com/example/pathloom/pathloom/Operator" = true := by first | (simp [plainName, overriddenIn]; done) | decide +kernel
theorem ef2 (m : MethodId) (x0 : Addr) : entryFrame m #[(.ref x0)] 1 = mkF m 0 #[.val (.ref x0)] [] := by first | (simp [entryFrame, mkF, argsToLocals, Value.category]; done) | rfl
def Q2 (Z : State) (w : Nat → Addr) (i : Nat) (b : Int32) (h0 : Heap) (n0 : Nat) (v : Option Value) (h : Heap) (L : List Loc) : Prop := v = some (.int b) ∧ Fr n0 L ∧ h = h0
set_option maxRecDepth 65536 in
set_option maxHeartbeats 40000000 in
theorem rm2 (l : Launch) (Z : State) (a0 : Array Value) (hw : ∀ d ∈ tables_1, d.before a0 Z = true) (ws : List Jvm.Cond) (w : Nat → Addr) (i : Nat) (b : Int32) (h0 : Heap) (n0 : Nat) (Z0 : n0 ≤ h0.size) (S_AND : Sta Z h0 "com/example/pathloom/pathloom/Operator" "AND" "Lcom/example/pathloom/pathloom/Operator;" (.ref (w 20))) (S_OR : Sta Z h0 "com/example/pathloom/pathloom/Operator" "OR" "Lcom/example/pathloom/pathloom/Operator;" (.ref (w 21))) (S_XOR : Sta Z h0 "com/example/pathloom/pathloom/Operator" "XOR" "Lcom/example/pathloom/pathloom/Operator;" (.ref (w 22))) (S_IMPLIES : Sta Z h0 "com/example/pathloom/pathloom/Operator" "IMPLIES" "Lcom/example/pathloom/pathloom/Operator;" (.ref (w 23))) (hi : i < 24) (hinj : ∀ i j, i < 24 → j < 24 → w i = w j → i = j) (hbb : (20 ≤ i ∧ b = 1) ∨ (i < 20 ∧ b = 0)) :
    MetFree l (⟨"com/example/pathloom/pathloom/Operator", "isBoolean", "()Z"⟩ : MethodName) (head1 (Jvm.Cond.code (⟨"com/example/pathloom/pathloom/Operator", "isBoolean", "()Z"⟩ : MethodName) prog_16_method_7_code 1 (some .boolean) :: ws) ({ frames := 0, cells := 0, slots := 0, locals := 0 } : Room)) (fun aq Uq => aq = #[(.ref (w i))] ∧ Z.Warmed39 Uq.vm ∧ Uq.heap = h0) (fun _ _ _ _ _ => True) (fun _ U o U' => ∃ v L, o = .returned v ∧ Q2 Z w i b h0 n0 v U'.heap L ∧ FrameEnd U o U' L ({ frames := 0, cells := 0, slots := 0, locals := 0 } : Room).cells ({ frames := 0, cells := 0, slots := 0, locals := 0 } : Room).slots) := by
  refine MetFree.of_bodySF (plainFor_of_name pn2) hisR ?_
  intro p e s m args below meth c s₁ Bd hml0 hP hK
  obtain ⟨rfl, hZ, hh⟩ := hP
  have hx := Bd.exec
  have hby := Bd.bytes
  have hml : c.maxLocals = 1 := hml0
  have hown : s.vm.findClass "com/example/pathloom/pathloom/Operator" = some m.cls := findClass_of_methodNamed Bd.named
  have hnm := (name_of_methodNamed Bd.named Bd.method).1
  have X0 : Stand p l e ({ frames := 0, cells := 0, slots := 0, locals := 0 } : Room) s m #[(.ref (w i))] below meth c s₁ [] 0 0 := Stand.of_body Bd
  have e0 : s₁.heap = h0 := by rw [← hh, Bd.state]; rfl
  have N0 := Fr.nil n0
  obtain ⟨A, hA⟩ : ∃ A, A = s₁.setTop (entryFrame m #[(.ref (w i))] 1) := ⟨_, rfl⟩
  rw [← hA]
  have g0 : Gz p.tables e below A s₁ (mkF m 0 #[.val (.ref (w i))] []) := fun tq kq => by rw [hA]; exact castTop (ef2 m (w i)) kq
  have g1 : Gz p.tables e below A s₁ (mkF m 1 #[.val (.ref (w i))] [(.ref (w i))]) := fun tq kq => g0 tq (XS.aloadN X0.here hx rfl (hb hby d2_0) rfl rfl kq)
  obtain ⟨T2, X2, e2, st2⟩ := getS2 X0 hx hZ hown (host := "") (Or.inl (hw _ (List.mem_of_getElem? (i := 13) rfl))) Via.refl e0 S_AND (g := (mkF m 1 #[.val (.ref (w i))] [(.ref (w i))])) rfl (hb hby d2_1)
  have g3 : Gz p.tables e below A T2 (mkF m 4 #[.val (.ref (w i))] [(.ref (w 20)), (.ref (w i))]) := fun tq kq => g1 tq (st2 tq kq)
  by_cases hc4 : (w i) = (w 20)
  · have g4 : Gz p.tables e below A T2 (mkF m 28 #[.val (.ref (w i))] []) := fun tq kq => g3 tq (Jvm.RoadKit.acmp (g := (mkF m 4 #[.val (.ref (w i))] [(.ref (w 20)), (.ref (w i))])) X2 hx rfl rfl rfl (pc0 := 4) (pc' := 28) (same := true) rfl (hb hby d2_4) rfl (decide_eq_true (congrArg Value.ref hc4)) (by decide) (by decide) kq)
    have g5 : Gz p.tables e below A T2 (mkF m 29 #[.val (.ref (w i))] [(.int (1 : Int32))]) := fun tq kq => g4 tq (XS.iconst X2.here hx rfl (hb hby d2_28) kq)
    have g6 : Gz p.tables e below A T2 (mkF m 33 #[.val (.ref (w i))] [(.int (1 : Int32))]) := fun tq kq => g5 tq (XS.goto X2.here hx rfl (pc0 := 29) (pc' := 33) rfl (hb hby d2_29) (by decide) (by decide) kq)
    obtain ⟨fs, hr, hrun, hended, hW, hsame⟩ := X2.leave (v := some (.int (1 : Int32))) (fun h => by rw [Bd.returns] at h; cases h)
    refine ⟨_, _, g6 _ (retN X2 hx (t := .boolean) Bd.returns (by simp) (hb hby d2_33) hr), hrun, hended, _, _, rfl, ?_, ⟨_, rfl⟩, hW, hsame.mono (by decide) (by decide)⟩
    show Q2 Z w i b h0 n0 _ T2.heap _
    rw [e2]
    have q : 20 ≤ i := by
      first
      | (have q := hinj i 20 hi (by decide) hc4; omega)
      | (have q := hinj i 21 hi (by decide) hc11; omega)
      | (have q := hinj i 22 hi (by decide) hc18; omega)
      | (have q := hinj i 23 hi (by decide) hc25; omega)
    obtain rfl : b = 1 := (hbb.resolve_right (fun z => absurd z.1 (by omega))).2
    exact ⟨rfl, N0, rfl⟩
  · have g7 : Gz p.tables e below A T2 (mkF m 7 #[.val (.ref (w i))] []) := fun tq kq => g3 tq (Jvm.RoadKit.acmp (g := (mkF m 4 #[.val (.ref (w i))] [(.ref (w 20)), (.ref (w i))])) X2 hx rfl rfl rfl (pc0 := 4) (pc' := 7) (same := false) rfl (hb hby d2_4) rfl (decide_eq_false fun q => hc4 (Value.ref.inj q)) (by decide) (by decide) kq)
    have g8 : Gz p.tables e below A T2 (mkF m 8 #[.val (.ref (w i))] [(.ref (w i))]) := fun tq kq => g7 tq (XS.aloadN X2.here hx rfl (hb hby d2_7) rfl rfl kq)
    obtain ⟨T9, X9, e9, st9⟩ := getS2 X2 hx hZ hown (host := "") (Or.inl (hw _ (List.mem_of_getElem? (i := 15) rfl))) Via.refl e2 S_OR (g := (mkF m 8 #[.val (.ref (w i))] [(.ref (w i))])) rfl (hb hby d2_8)
    have g10 : Gz p.tables e below A T9 (mkF m 11 #[.val (.ref (w i))] [(.ref (w 21)), (.ref (w i))]) := fun tq kq => g8 tq (st9 tq kq)
    by_cases hc11 : (w i) = (w 21)
    · have g11 : Gz p.tables e below A T9 (mkF m 28 #[.val (.ref (w i))] []) := fun tq kq => g10 tq (Jvm.RoadKit.acmp (g := (mkF m 11 #[.val (.ref (w i))] [(.ref (w 21)), (.ref (w i))])) X9 hx rfl rfl rfl (pc0 := 11) (pc' := 28) (same := true) rfl (hb hby d2_11) rfl (decide_eq_true (congrArg Value.ref hc11)) (by decide) (by decide) kq)
      have g12 : Gz p.tables e below A T9 (mkF m 29 #[.val (.ref (w i))] [(.int (1 : Int32))]) := fun tq kq => g11 tq (XS.iconst X9.here hx rfl (hb hby d2_28) kq)
      have g13 : Gz p.tables e below A T9 (mkF m 33 #[.val (.ref (w i))] [(.int (1 : Int32))]) := fun tq kq => g12 tq (XS.goto X9.here hx rfl (pc0 := 29) (pc' := 33) rfl (hb hby d2_29) (by decide) (by decide) kq)
      obtain ⟨fs, hr, hrun, hended, hW, hsame⟩ := X9.leave (v := some (.int (1 : Int32))) (fun h => by rw [Bd.returns] at h; cases h)
      refine ⟨_, _, g13 _ (retN X9 hx (t := .boolean) Bd.returns (by simp) (hb hby d2_33) hr), hrun, hended, _, _, rfl, ?_, ⟨_, rfl⟩, hW, hsame.mono (by decide) (by decide)⟩
      show Q2 Z w i b h0 n0 _ T9.heap _
      rw [e9]
      have q : 20 ≤ i := by
        first
        | (have q := hinj i 20 hi (by decide) hc4; omega)
        | (have q := hinj i 21 hi (by decide) hc11; omega)
        | (have q := hinj i 22 hi (by decide) hc18; omega)
        | (have q := hinj i 23 hi (by decide) hc25; omega)
      obtain rfl : b = 1 := (hbb.resolve_right (fun z => absurd z.1 (by omega))).2
      exact ⟨rfl, N0, rfl⟩
    · have g14 : Gz p.tables e below A T9 (mkF m 14 #[.val (.ref (w i))] []) := fun tq kq => g10 tq (Jvm.RoadKit.acmp (g := (mkF m 11 #[.val (.ref (w i))] [(.ref (w 21)), (.ref (w i))])) X9 hx rfl rfl rfl (pc0 := 11) (pc' := 14) (same := false) rfl (hb hby d2_11) rfl (decide_eq_false fun q => hc11 (Value.ref.inj q)) (by decide) (by decide) kq)
      have g15 : Gz p.tables e below A T9 (mkF m 15 #[.val (.ref (w i))] [(.ref (w i))]) := fun tq kq => g14 tq (XS.aloadN X9.here hx rfl (hb hby d2_14) rfl rfl kq)
      obtain ⟨T16, X16, e16, st16⟩ := getS2 X9 hx hZ hown (host := "") (Or.inl (hw _ (List.mem_of_getElem? (i := 17) rfl))) Via.refl e9 S_XOR (g := (mkF m 15 #[.val (.ref (w i))] [(.ref (w i))])) rfl (hb hby d2_15)
      have g17 : Gz p.tables e below A T16 (mkF m 18 #[.val (.ref (w i))] [(.ref (w 22)), (.ref (w i))]) := fun tq kq => g15 tq (st16 tq kq)
      by_cases hc18 : (w i) = (w 22)
      · have g18 : Gz p.tables e below A T16 (mkF m 28 #[.val (.ref (w i))] []) := fun tq kq => g17 tq (Jvm.RoadKit.acmp (g := (mkF m 18 #[.val (.ref (w i))] [(.ref (w 22)), (.ref (w i))])) X16 hx rfl rfl rfl (pc0 := 18) (pc' := 28) (same := true) rfl (hb hby d2_18) rfl (decide_eq_true (congrArg Value.ref hc18)) (by decide) (by decide) kq)
        have g19 : Gz p.tables e below A T16 (mkF m 29 #[.val (.ref (w i))] [(.int (1 : Int32))]) := fun tq kq => g18 tq (XS.iconst X16.here hx rfl (hb hby d2_28) kq)
        have g20 : Gz p.tables e below A T16 (mkF m 33 #[.val (.ref (w i))] [(.int (1 : Int32))]) := fun tq kq => g19 tq (XS.goto X16.here hx rfl (pc0 := 29) (pc' := 33) rfl (hb hby d2_29) (by decide) (by decide) kq)
        obtain ⟨fs, hr, hrun, hended, hW, hsame⟩ := X16.leave (v := some (.int (1 : Int32))) (fun h => by rw [Bd.returns] at h; cases h)
        refine ⟨_, _, g20 _ (retN X16 hx (t := .boolean) Bd.returns (by simp) (hb hby d2_33) hr), hrun, hended, _, _, rfl, ?_, ⟨_, rfl⟩, hW, hsame.mono (by decide) (by decide)⟩
        show Q2 Z w i b h0 n0 _ T16.heap _
        rw [e16]
        have q : 20 ≤ i := by
          first
          | (have q := hinj i 20 hi (by decide) hc4; omega)
          | (have q := hinj i 21 hi (by decide) hc11; omega)
          | (have q := hinj i 22 hi (by decide) hc18; omega)
          | (have q := hinj i 23 hi (by decide) hc25; omega)
        obtain rfl : b = 1 := (hbb.resolve_right (fun z => absurd z.1 (by omega))).2
        exact ⟨rfl, N0, rfl⟩
      · have g21 : Gz p.tables e below A T16 (mkF m 21 #[.val (.ref (w i))] []) := fun tq kq => g17 tq (Jvm.RoadKit.acmp (g := (mkF m 18 #[.val (.ref (w i))] [(.ref (w 22)), (.ref (w i))])) X16 hx rfl rfl rfl (pc0 := 18) (pc' := 21) (same := false) rfl (hb hby d2_18) rfl (decide_eq_false fun q => hc18 (Value.ref.inj q)) (by decide) (by decide) kq)
        have g22 : Gz p.tables e below A T16 (mkF m 22 #[.val (.ref (w i))] [(.ref (w i))]) := fun tq kq => g21 tq (XS.aloadN X16.here hx rfl (hb hby d2_21) rfl rfl kq)
        obtain ⟨T23, X23, e23, st23⟩ := getS2 X16 hx hZ hown (host := "") (Or.inl (hw _ (List.mem_of_getElem? (i := 19) rfl))) Via.refl e16 S_IMPLIES (g := (mkF m 22 #[.val (.ref (w i))] [(.ref (w i))])) rfl (hb hby d2_22)
        have g24 : Gz p.tables e below A T23 (mkF m 25 #[.val (.ref (w i))] [(.ref (w 23)), (.ref (w i))]) := fun tq kq => g22 tq (st23 tq kq)
        by_cases hc25 : (w i) = (w 23)
        · have g25 : Gz p.tables e below A T23 (mkF m 28 #[.val (.ref (w i))] []) := fun tq kq => g24 tq (Jvm.RoadKit.acmp (g := (mkF m 25 #[.val (.ref (w i))] [(.ref (w 23)), (.ref (w i))])) X23 hx rfl rfl rfl (pc0 := 25) (pc' := 28) (same := true) rfl (hb hby d2_25) rfl (decide_eq_true (congrArg Value.ref hc25)) (by decide) (by decide) kq)
          have g26 : Gz p.tables e below A T23 (mkF m 29 #[.val (.ref (w i))] [(.int (1 : Int32))]) := fun tq kq => g25 tq (XS.iconst X23.here hx rfl (hb hby d2_28) kq)
          have g27 : Gz p.tables e below A T23 (mkF m 33 #[.val (.ref (w i))] [(.int (1 : Int32))]) := fun tq kq => g26 tq (XS.goto X23.here hx rfl (pc0 := 29) (pc' := 33) rfl (hb hby d2_29) (by decide) (by decide) kq)
          obtain ⟨fs, hr, hrun, hended, hW, hsame⟩ := X23.leave (v := some (.int (1 : Int32))) (fun h => by rw [Bd.returns] at h; cases h)
          refine ⟨_, _, g27 _ (retN X23 hx (t := .boolean) Bd.returns (by simp) (hb hby d2_33) hr), hrun, hended, _, _, rfl, ?_, ⟨_, rfl⟩, hW, hsame.mono (by decide) (by decide)⟩
          show Q2 Z w i b h0 n0 _ T23.heap _
          rw [e23]
          have q : 20 ≤ i := by
            first
            | (have q := hinj i 20 hi (by decide) hc4; omega)
            | (have q := hinj i 21 hi (by decide) hc11; omega)
            | (have q := hinj i 22 hi (by decide) hc18; omega)
            | (have q := hinj i 23 hi (by decide) hc25; omega)
          obtain rfl : b = 1 := (hbb.resolve_right (fun z => absurd z.1 (by omega))).2
          exact ⟨rfl, N0, rfl⟩
        · have g28 : Gz p.tables e below A T23 (mkF m 32 #[.val (.ref (w i))] []) := fun tq kq => g24 tq (Jvm.RoadKit.acmp (g := (mkF m 25 #[.val (.ref (w i))] [(.ref (w 23)), (.ref (w i))])) X23 hx rfl rfl rfl (pc0 := 25) (pc' := 32) (same := false) rfl (hb hby d2_25) rfl (decide_eq_false fun q => hc25 (Value.ref.inj q)) (by decide) (by decide) kq)
          have g29 : Gz p.tables e below A T23 (mkF m 33 #[.val (.ref (w i))] [(.int (0 : Int32))]) := fun tq kq => g28 tq (XS.iconst X23.here hx rfl (hb hby d2_32) kq)
          obtain ⟨fs, hr, hrun, hended, hW, hsame⟩ := X23.leave (v := some (.int (0 : Int32))) (fun h => by rw [Bd.returns] at h; cases h)
          refine ⟨_, _, g29 _ (retN X23 hx (t := .boolean) Bd.returns (by simp) (hb hby d2_33) hr), hrun, hended, _, _, rfl, ?_, ⟨_, rfl⟩, hW, hsame.mono (by decide) (by decide)⟩
          show Q2 Z w i b h0 n0 _ T23.heap _
          rw [e23]
          have q0 : i ≠ 20 := fun q => hc4 (by rw [q])
          have q1 : i ≠ 21 := fun q => hc11 (by rw [q])
          have q2 : i ≠ 22 := fun q => hc18 (by rw [q])
          have q3 : i ≠ 23 := fun q => hc25 (by rw [q])
          obtain rfl : b = 0 := (hbb.resolve_left (fun z => absurd z.1 (by omega))).2
          exact ⟨rfl, N0, rfl⟩

theorem pn0 : plainName "com/example/pathloom/pathloom/OperatorIsBooleanPinLaw" = true := by first | (simp [plainName, overriddenIn]; done) | decide +kernel
theorem pd0_0 : parseMethodDescriptor "(I)Lcom/example/pathloom/pathloom/Operator;" = some ⟨[.int], some (.object "com/example/pathloom/pathloom/Operator")⟩ := by decide +kernel
theorem pd0_1 : parseMethodDescriptor "()Z" = some ⟨[], some .boolean⟩ := by decide +kernel
theorem ef0 (m : MethodId) (x0 : Int32) : entryFrame m #[(.int x0)] maxLocals = mkF m 0 #[.val (.int x0), .unset, .unset, .unset] [] := by first | (simp [entryFrame, mkF, argsToLocals, Value.category, maxLocals]; done) | rfl
def Q0 (Z : State) (p1 : Int32) (w : Nat → Addr) (iv : Int32) (h0 : Heap) (n0 : Nat) (v : Option Value) (h : Heap) (L : List Loc) : Prop := v = some (.int 1) ∧ Fr n0 L
set_option maxRecDepth 65536 in
set_option maxHeartbeats 40000000 in
theorem rm0 (l : Launch) (Z : State) (a0 : Array Value) (hw : ∀ d ∈ tables_1, d.before a0 Z = true) (ws : List Jvm.Cond) (p1 : Int32) (w : Nat → Addr) (iv : Int32) (h0 : Heap) (n0 : Nat) (Z0 : n0 ≤ h0.size) (S_MULTIPLY : Sta Z h0 "com/example/pathloom/pathloom/Operator" "MULTIPLY" "Lcom/example/pathloom/pathloom/Operator;" (.ref (w 0))) (S_DIVIDE : Sta Z h0 "com/example/pathloom/pathloom/Operator" "DIVIDE" "Lcom/example/pathloom/pathloom/Operator;" (.ref (w 1))) (S_DIV : Sta Z h0 "com/example/pathloom/pathloom/Operator" "DIV" "Lcom/example/pathloom/pathloom/Operator;" (.ref (w 2))) (S_MOD : Sta Z h0 "com/example/pathloom/pathloom/Operator" "MOD" "Lcom/example/pathloom/pathloom/Operator;" (.ref (w 3))) (S_ADD : Sta Z h0 "com/example/pathloom/pathloom/Operator" "ADD" "Lcom/example/pathloom/pathloom/Operator;" (.ref (w 4))) (S_SUBTRACT : Sta Z h0 "com/example/pathloom/pathloom/Operator" "SUBTRACT" "Lcom/example/pathloom/pathloom/Operator;" (.ref (w 5))) (S_CONCATENATE : Sta Z h0 "com/example/pathloom/pathloom/Operator" "CONCATENATE" "Lcom/example/pathloom/pathloom/Operator;" (.ref (w 6))) (S_IS : Sta Z h0 "com/example/pathloom/pathloom/Operator" "IS" "Lcom/example/pathloom/pathloom/Operator;" (.ref (w 7))) (S_AS : Sta Z h0 "com/example/pathloom/pathloom/Operator" "AS" "Lcom/example/pathloom/pathloom/Operator;" (.ref (w 8))) (S_UNION : Sta Z h0 "com/example/pathloom/pathloom/Operator" "UNION" "Lcom/example/pathloom/pathloom/Operator;" (.ref (w 9))) (S_LESS_OR_EQUAL : Sta Z h0 "com/example/pathloom/pathloom/Operator" "LESS_OR_EQUAL" "Lcom/example/pathloom/pathloom/Operator;" (.ref (w 10))) (S_LESS : Sta Z h0 "com/example/pathloom/pathloom/Operator" "LESS" "Lcom/example/pathloom/pathloom/Operator;" (.ref (w 11))) (S_GREATER : Sta Z h0 "com/example/pathloom/pathloom/Operator" "GREATER" "Lcom/example/pathloom/pathloom/Operator;" (.ref (w 12))) (S_GREATER_OR_EQUAL : Sta Z h0 "com/example/pathloom/pathloom/Operator" "GREATER_OR_EQUAL" "Lcom/example/pathloom/pathloom/Operator;" (.ref (w 13))) (S_EQUAL : Sta Z h0 "com/example/pathloom/pathloom/Operator" "EQUAL" "Lcom/example/pathloom/pathloom/Operator;" (.ref (w 14))) (S_EQUIVALENT : Sta Z h0 "com/example/pathloom/pathloom/Operator" "EQUIVALENT" "Lcom/example/pathloom/pathloom/Operator;" (.ref (w 15))) (S_NOT_EQUAL : Sta Z h0 "com/example/pathloom/pathloom/Operator" "NOT_EQUAL" "Lcom/example/pathloom/pathloom/Operator;" (.ref (w 16))) (S_NOT_EQUIVALENT : Sta Z h0 "com/example/pathloom/pathloom/Operator" "NOT_EQUIVALENT" "Lcom/example/pathloom/pathloom/Operator;" (.ref (w 17))) (S_IN : Sta Z h0 "com/example/pathloom/pathloom/Operator" "IN" "Lcom/example/pathloom/pathloom/Operator;" (.ref (w 18))) (S_CONTAINS : Sta Z h0 "com/example/pathloom/pathloom/Operator" "CONTAINS" "Lcom/example/pathloom/pathloom/Operator;" (.ref (w 19))) (S_AND : Sta Z h0 "com/example/pathloom/pathloom/Operator" "AND" "Lcom/example/pathloom/pathloom/Operator;" (.ref (w 20))) (S_OR : Sta Z h0 "com/example/pathloom/pathloom/Operator" "OR" "Lcom/example/pathloom/pathloom/Operator;" (.ref (w 21))) (S_XOR : Sta Z h0 "com/example/pathloom/pathloom/Operator" "XOR" "Lcom/example/pathloom/pathloom/Operator;" (.ref (w 22))) (S_IMPLIES : Sta Z h0 "com/example/pathloom/pathloom/Operator" "IMPLIES" "Lcom/example/pathloom/pathloom/Operator;" (.ref (w 23))) (hiv : (p1 &&& (2147483647 : Int32)) % (24 : Int32) = iv) (hlo : 0 ≤ iv.toInt) (hhi : iv.toInt < 24) (hinj : ∀ i j, i < 24 → j < 24 → w i = w j → i = j) (hE : ∀ j, j < 24 → Exa Z h0 (w j) "com/example/pathloom/pathloom/Operator") :
    MetFree l x (head1 (Jvm.Cond.code x code maxLocals ret :: ws) room_1) (fun aq Uq => aq = #[(.int p1)] ∧ Z.Warmed39 Uq.vm ∧ Uq.heap = h0) (fun _ _ _ _ _ => True) (fun _ U o U' => ∃ v L, o = .returned v ∧ Q0 Z p1 w iv h0 n0 v U'.heap L ∧ FrameEnd U o U' L room_1.cells room_1.slots) := by
  refine MetFree.of_bodySF (plainFor_of_name pn0) hisR ?_
  intro p e s m args below meth c s₁ Bd hml0 hP hK
  obtain ⟨rfl, hZ, hh⟩ := hP
  have hx := Bd.exec
  have hby := Bd.bytes
  have hml : c.maxLocals = 4 := hml0
  have hown : s.vm.findClass "com/example/pathloom/pathloom/OperatorIsBooleanPinLaw" = some m.cls := findClass_of_methodNamed Bd.named
  have hnm := (name_of_methodNamed Bd.named Bd.method).1
  have X0 : Stand p l e room_1 s m #[(.int p1)] below meth c s₁ [] 0 0 := Stand.of_body Bd
  have e0 : s₁.heap = h0 := by rw [← hh, Bd.state]; rfl
  have N0 := Fr.nil n0
  obtain ⟨A, hA⟩ : ∃ A, A = s₁.setTop (entryFrame m #[(.int p1)] maxLocals) := ⟨_, rfl⟩
  rw [← hA]
  have g0 : Gz p.tables e below A s₁ (mkF m 0 #[.val (.int p1), .unset, .unset, .unset] []) := fun tq kq => by rw [hA]; exact castTop (ef0 m p1) kq
  have g1 : Gz p.tables e below A s₁ (mkF m 1 #[.val (.int p1), .unset, .unset, .unset] [(.int p1)]) := fun tq kq => g0 tq (XS.iloadN X0.here hx rfl (hb hby at_0) rfl kq)
  have g2 : Gz p.tables e below A s₁ (mkF m 3 #[.val (.int p1), .unset, .unset, .unset] [(.int (2147483647 : Int32)), (.int p1)]) := fun tq kq => g1 tq (X0.ldcInt hx hown (mvT hZ (hw _ (List.mem_of_getElem? (i := 0) rfl))) (g := (mkF m 1 #[.val (.int p1), .unset, .unset, .unset] [(.int p1)])) rfl (hb hby at_1) _ kq)
  have g3 : Gz p.tables e below A s₁ (mkF m 4 #[.val (.int p1), .unset, .unset, .unset] [(.int (p1 &&& (2147483647 : Int32)))]) := fun tq kq => g2 tq (XS.iand X0.here hx rfl (hb hby at_3) rfl kq)
  have g4 : Gz p.tables e below A s₁ (mkF m 6 #[.val (.int p1), .unset, .unset, .unset] [(.int (24 : Int32)), (.int (p1 &&& (2147483647 : Int32)))]) := fun tq kq => g3 tq (XS.bipush X0.here hx rfl (hb hby at_4) kq)
  have g5 : Gz p.tables e below A s₁ (mkF m 7 #[.val (.int p1), .unset, .unset, .unset] [(.int ((p1 &&& (2147483647 : Int32)) % (24 : Int32)))]) := fun tq kq => g4 tq (iremM X0 hx rfl (hb hby at_6) rfl (by decide) kq)
  rw [hiv] at g5
  have g6 : Gz p.tables e below A s₁ (mkF m 8 #[.val (.int p1), .val (.int iv), .unset, .unset] []) := fun tq kq => g5 tq (XS.istoreN X0.here hx rfl (hb hby at_7) rfl (l' := #[.val (.int p1), .val (.int iv), .unset, .unset]) rfl kq)
  have g7 : Gz p.tables e below A s₁ (mkF m 9 #[.val (.int p1), .val (.int iv), .unset, .unset] [(.int iv)]) := fun tq kq => g6 tq (XS.iloadN X0.here hx rfl (hb hby at_8) rfl kq)
  obtain ⟨_, _, ⟨T8, L8, k8, n8⟩, -, X8, ⟨Lc8, hQ8, l8, y8, z8⟩, st8⟩ := Jvm.LawKit.callS X0 hx (y := (⟨"com/example/pathloom/pathloom/OperatorIsBooleanPinLaw", "pick", "(I)Lcom/example/pathloom/pathloom/Operator;"⟩ : MethodName)) hown (mvT hZ (hw _ (List.mem_of_getElem? (i := 1) rfl))) (mvT hZ (hw _ (List.mem_of_getElem? (i := 2) rfl))) (mvT hZ (hw _ (List.mem_of_getElem? (i := 3) rfl))) (mvT hZ (hw _ (List.mem_of_getElem? (i := 4) rfl))) (by decide) (backOf (W := 0) (rm1 l Z a0 hw [] iv w h0 n0 Z0 S_MULTIPLY S_DIVIDE S_DIV S_MOD S_ADD S_SUBTRACT S_CONCATENATE S_IS S_AS S_UNION S_LESS_OR_EQUAL S_LESS S_GREATER S_GREATER_OR_EQUAL S_EQUAL S_EQUIVALENT S_NOT_EQUAL S_NOT_EQUIVALENT S_IN S_CONTAINS S_AND S_OR S_XOR S_IMPLIES hlo hhi) hZ (hw _ (List.mem_of_getElem? (i := 4) rfl)) (hw _ (List.mem_of_getElem? (i := 3) rfl)) (by decide) (by decide)) (g := (mkF m 9 #[.val (.int p1), .val (.int iv), .unset, .unset] [(.int iv)])) rfl (by rw [hml]; rfl) (argsL := [(.int iv)]) (rest := []) (lenOf pd0_0 rfl) rfl (by show 2 * 0 + _ ≤ _; exact Nat.le_of_eq rfl) (hb hby at_9) (fun _ _ => ⟨rfl, e0, (by decide : 0 + 0 ≤ _), (by decide : 0 + 0 ≤ _)⟩)
  dsimp only [Pt.U, Pt.locs, Pt.cells, Pt.slots] at X8 l8 y8 z8 st8 hQ8
  subst l8 y8 z8
  obtain ⟨j, rfl, N8q, e8, hj, hij⟩ := hQ8
  have N8 := Fr.app N0 N8q
  have g9 : Gz p.tables e below A T8 (mkF m 12 #[.val (.int p1), .val (.int iv), .unset, .unset] [(.ref (w j))]) := fun tq kq => g7 tq (st8 _ kq)
  have g10 : Gz p.tables e below A T8 (mkF m 13 #[.val (.int p1), .val (.int iv), .val (.ref (w j)), .unset] []) := fun tq kq => g9 tq (XS.astoreN X8.here hx rfl (hb hby at_12) rfl rfl (l' := #[.val (.int p1), .val (.int iv), .val (.ref (w j)), .unset]) rfl kq)
  have g11 : Gz p.tables e below A T8 (mkF m 14 #[.val (.int p1), .val (.int iv), .val (.ref (w j)), .unset] [(.int iv)]) := fun tq kq => g10 tq (XS.iloadN X8.here hx rfl (hb hby at_13) rfl kq)
  have g12 : Gz p.tables e below A T8 (mkF m 16 #[.val (.int p1), .val (.int iv), .val (.ref (w j)), .unset] [(.int (20 : Int32)), (.int iv)]) := fun tq kq => g11 tq (XS.bipush X8.here hx rfl (hb hby at_14) kq)
  by_cases hc16 : iv < (20 : Int32)
  · have g13 : Gz p.tables e below A T8 (mkF m 23 #[.val (.int p1), .val (.int iv), .val (.ref (w j)), .unset] []) := fun tq kq => g12 tq (XS.icmpYes X8.here hx rfl (pc0 := 16) (pc' := 23) rfl (hb hby at_16) rfl (tlt hc16).1 (by decide) (by decide) kq)
    have g14 : Gz p.tables e below A T8 (mkF m 24 #[.val (.int p1), .val (.int iv), .val (.ref (w j)), .unset] [(.int (0 : Int32))]) := fun tq kq => g13 tq (XS.iconst X8.here hx rfl (hb hby at_23) kq)
    have g15 : Gz p.tables e below A T8 (mkF m 25 #[.val (.int p1), .val (.int iv), .val (.ref (w j)), .val (.int (0 : Int32))] []) := fun tq kq => g14 tq (XS.istoreN X8.here hx rfl (hb hby at_24) rfl (l' := #[.val (.int p1), .val (.int iv), .val (.ref (w j)), .val (.int (0 : Int32))]) rfl kq)
    have g16 : Gz p.tables e below A T8 (mkF m 26 #[.val (.int p1), .val (.int iv), .val (.ref (w j)), .val (.int (0 : Int32))] [(.ref (w j))]) := fun tq kq => g15 tq (XS.aloadN X8.here hx rfl (hb hby at_25) rfl rfl kq)
    have q2 : (20 : Int32).toInt = 20 := by decide
    have q1 := own_lt hc16
    have hbb : (20 ≤ j ∧ (0 : Int32) = 1) ∨ (j < 20 ∧ (0 : Int32) = 0) := Or.inr ⟨by omega, rfl⟩
    have Ej := hE j hj
    obtain ⟨cq17, kq17, q17a, q17b, q17c⟩ := isOf hZ e8 Ej
    obtain ⟨_, _, ⟨T17, L17, k17, n17⟩, -, X17, ⟨Lc17, hQ17, l17, y17, z17⟩, st17⟩ := X8.virtualBack hx (y := (⟨"com/example/pathloom/pathloom/Operator", "isBoolean", "()Z"⟩ : MethodName)) (z := (⟨"com/example/pathloom/pathloom/Operator", "isBoolean", "()Z"⟩ : MethodName)) hown (mvT hZ (hw _ (List.mem_of_getElem? (i := 8) rfl))) (mvT hZ (hw _ (List.mem_of_getElem? (i := 9) rfl))) (notFace_of_selects (args := #[]) (mvT hZ (hw _ (List.mem_of_getElem? (i := 11) rfl)))) (mvT hZ (hw _ (List.mem_of_getElem? (i := 11) rfl))) (mvT hZ (hw _ (List.mem_of_getElem? (i := 10) rfl))) (by decide) (backOf (W := 0) (rm2 l Z a0 hw [] w j (0 : Int32) h0 n0 Z0 S_AND S_OR S_XOR S_IMPLIES hj hinj hbb) hZ (hw _ (List.mem_of_getElem? (i := 12) rfl)) (hw _ (List.mem_of_getElem? (i := 6) rfl)) (by decide) (by decide)) q17a q17c (g := (mkF m 26 #[.val (.int p1), .val (.int iv), .val (.ref (w j)), .val (.int (0 : Int32))] [(.ref (w j))])) rfl (by rw [hml]; rfl) (Steps.refl _) (argsL := []) (rest := []) (lenOf pd0_1 rfl) rfl (by show 2 * 0 + _ ≤ _; exact Nat.le_of_eq rfl) (hb hby at_26) (fun _ _ => ⟨rfl, e8, (by decide : 0 + 0 ≤ _), (by decide : 0 + 0 ≤ _)⟩)
    dsimp only [Pt.U, Pt.locs, Pt.cells, Pt.slots] at X17 l17 y17 z17 st17 hQ17
    subst l17 y17 z17
    obtain ⟨rfl, N17q, e17⟩ := hQ17
    have N17 := Fr.app N8 N17q
    have g18 : Gz p.tables e below A T17 (mkF m 29 #[.val (.int p1), .val (.int iv), .val (.ref (w j)), .val (.int (0 : Int32))] [(.int (0 : Int32))]) := fun tq kq => g16 tq (st17.trans kq)
    have g19 : Gz p.tables e below A T17 (mkF m 30 #[.val (.int p1), .val (.int iv), .val (.ref (w j)), .val (.int (0 : Int32))] [(.int (0 : Int32)), (.int (0 : Int32))]) := fun tq kq => g18 tq (XS.iloadN X17.here hx rfl (hb hby at_29) rfl kq)
    have g20 : Gz p.tables e below A T17 (mkF m 33 #[.val (.int p1), .val (.int iv), .val (.ref (w j)), .val (.int (0 : Int32))] []) := fun tq kq => g19 tq (XS.icmpNo X17.here hx rfl (hb hby at_30) rfl (teq rfl).2 kq)
    have g21 : Gz p.tables e below A T17 (mkF m 34 #[.val (.int p1), .val (.int iv), .val (.ref (w j)), .val (.int (0 : Int32))] [(.int (1 : Int32))]) := fun tq kq => g20 tq (XS.iconst X17.here hx rfl (hb hby at_33) kq)
    have g22 : Gz p.tables e below A T17 (mkF m 38 #[.val (.int p1), .val (.int iv), .val (.ref (w j)), .val (.int (0 : Int32))] [(.int (1 : Int32))]) := fun tq kq => g21 tq (XS.goto X17.here hx rfl (pc0 := 34) (pc' := 38) rfl (hb hby at_34) (by decide) (by decide) kq)
    obtain ⟨fs, hr, hrun, hended, hW, hsame⟩ := X17.leave (v := some (.int (1 : Int32))) (fun h => by rw [Bd.returns] at h; cases h)
    refine ⟨_, _, g22 _ (retN X17 hx (t := .boolean) Bd.returns (by simp) (hb hby at_38) hr), hrun, hended, _, _, rfl, ?_, ⟨_, rfl⟩, hW, hsame.mono (by decide) (by decide)⟩
    show Q0 Z p1 w iv h0 n0 _ T17.heap _
    rw [e17]
    exact ⟨rfl, N17⟩
  · have g23 : Gz p.tables e below A T8 (mkF m 19 #[.val (.int p1), .val (.int iv), .val (.ref (w j)), .unset] []) := fun tq kq => g12 tq (XS.icmpNo X8.here hx rfl (hb hby at_16) rfl (flt hc16).1 kq)
    have g24 : Gz p.tables e below A T8 (mkF m 20 #[.val (.int p1), .val (.int iv), .val (.ref (w j)), .unset] [(.int (1 : Int32))]) := fun tq kq => g23 tq (XS.iconst X8.here hx rfl (hb hby at_19) kq)
    have g25 : Gz p.tables e below A T8 (mkF m 24 #[.val (.int p1), .val (.int iv), .val (.ref (w j)), .unset] [(.int (1 : Int32))]) := fun tq kq => g24 tq (XS.goto X8.here hx rfl (pc0 := 20) (pc' := 24) rfl (hb hby at_20) (by decide) (by decide) kq)
    have g26 : Gz p.tables e below A T8 (mkF m 25 #[.val (.int p1), .val (.int iv), .val (.ref (w j)), .val (.int (1 : Int32))] []) := fun tq kq => g25 tq (XS.istoreN X8.here hx rfl (hb hby at_24) rfl (l' := #[.val (.int p1), .val (.int iv), .val (.ref (w j)), .val (.int (1 : Int32))]) rfl kq)
    have g27 : Gz p.tables e below A T8 (mkF m 26 #[.val (.int p1), .val (.int iv), .val (.ref (w j)), .val (.int (1 : Int32))] [(.ref (w j))]) := fun tq kq => g26 tq (XS.aloadN X8.here hx rfl (hb hby at_25) rfl rfl kq)
    have q2 : (20 : Int32).toInt = 20 := by decide
    have q1 := own_nlt hc16
    have hbb : (20 ≤ j ∧ (1 : Int32) = 1) ∨ (j < 20 ∧ (1 : Int32) = 0) := Or.inl ⟨by omega, rfl⟩
    have Ej := hE j hj
    obtain ⟨cq28, kq28, q28a, q28b, q28c⟩ := isOf hZ e8 Ej
    obtain ⟨_, _, ⟨T28, L28, k28, n28⟩, -, X28, ⟨Lc28, hQ28, l28, y28, z28⟩, st28⟩ := X8.virtualBack hx (y := (⟨"com/example/pathloom/pathloom/Operator", "isBoolean", "()Z"⟩ : MethodName)) (z := (⟨"com/example/pathloom/pathloom/Operator", "isBoolean", "()Z"⟩ : MethodName)) hown (mvT hZ (hw _ (List.mem_of_getElem? (i := 8) rfl))) (mvT hZ (hw _ (List.mem_of_getElem? (i := 9) rfl))) (notFace_of_selects (args := #[]) (mvT hZ (hw _ (List.mem_of_getElem? (i := 11) rfl)))) (mvT hZ (hw _ (List.mem_of_getElem? (i := 11) rfl))) (mvT hZ (hw _ (List.mem_of_getElem? (i := 10) rfl))) (by decide) (backOf (W := 0) (rm2 l Z a0 hw [] w j (1 : Int32) h0 n0 Z0 S_AND S_OR S_XOR S_IMPLIES hj hinj hbb) hZ (hw _ (List.mem_of_getElem? (i := 12) rfl)) (hw _ (List.mem_of_getElem? (i := 6) rfl)) (by decide) (by decide)) q28a q28c (g := (mkF m 26 #[.val (.int p1), .val (.int iv), .val (.ref (w j)), .val (.int (1 : Int32))] [(.ref (w j))])) rfl (by rw [hml]; rfl) (Steps.refl _) (argsL := []) (rest := []) (lenOf pd0_1 rfl) rfl (by show 2 * 0 + _ ≤ _; exact Nat.le_of_eq rfl) (hb hby at_26) (fun _ _ => ⟨rfl, e8, (by decide : 0 + 0 ≤ _), (by decide : 0 + 0 ≤ _)⟩)
    dsimp only [Pt.U, Pt.locs, Pt.cells, Pt.slots] at X28 l28 y28 z28 st28 hQ28
    subst l28 y28 z28
    obtain ⟨rfl, N28q, e28⟩ := hQ28
    have N28 := Fr.app N8 N28q
    have g29 : Gz p.tables e below A T28 (mkF m 29 #[.val (.int p1), .val (.int iv), .val (.ref (w j)), .val (.int (1 : Int32))] [(.int (1 : Int32))]) := fun tq kq => g27 tq (st28.trans kq)
    have g30 : Gz p.tables e below A T28 (mkF m 30 #[.val (.int p1), .val (.int iv), .val (.ref (w j)), .val (.int (1 : Int32))] [(.int (1 : Int32)), (.int (1 : Int32))]) := fun tq kq => g29 tq (XS.iloadN X28.here hx rfl (hb hby at_29) rfl kq)
    have g31 : Gz p.tables e below A T28 (mkF m 33 #[.val (.int p1), .val (.int iv), .val (.ref (w j)), .val (.int (1 : Int32))] []) := fun tq kq => g30 tq (XS.icmpNo X28.here hx rfl (hb hby at_30) rfl (teq rfl).2 kq)
    have g32 : Gz p.tables e below A T28 (mkF m 34 #[.val (.int p1), .val (.int iv), .val (.ref (w j)), .val (.int (1 : Int32))] [(.int (1 : Int32))]) := fun tq kq => g31 tq (XS.iconst X28.here hx rfl (hb hby at_33) kq)
    have g33 : Gz p.tables e below A T28 (mkF m 38 #[.val (.int p1), .val (.int iv), .val (.ref (w j)), .val (.int (1 : Int32))] [(.int (1 : Int32))]) := fun tq kq => g32 tq (XS.goto X28.here hx rfl (pc0 := 34) (pc' := 38) rfl (hb hby at_34) (by decide) (by decide) kq)
    obtain ⟨fs, hr, hrun, hended, hW, hsame⟩ := X28.leave (v := some (.int (1 : Int32))) (fun h => by rw [Bd.returns] at h; cases h)
    refine ⟨_, _, g33 _ (retN X28 hx (t := .boolean) Bd.returns (by simp) (hb hby at_38) hr), hrun, hended, _, _, rfl, ?_, ⟨_, rfl⟩, hW, hsame.mono (by decide) (by decide)⟩
    show Q0 Z p1 w iv h0 n0 _ T28.heap _
    rw [e28]
    exact ⟨rfl, N28⟩

set_option maxRecDepth 65536 in
set_option maxHeartbeats 40000000 in
theorem comes_1 {Post : Tables → Env → Array Value → State → Outcome → State → Prop} (hpost : ∀ tb e args s v u, (limb_1_1.after args s (.returned v) u = true ∧ limb_1_2.after args s (.returned v) u = true ∧ True) → FrameEnd s (.returned v) u (Jvm.fieldLocs frame_1_writes args s ++ Jvm.arrayLocs frame_1_arrays args s ++ Jvm.staticLocs frame_1_statics s) 0 0 → Post tb e args s (.returned v) u) :
    ArmFor flags0 classFile x code maxLocals ret World_1 tables_1 room_1 Calls_1 rest_1 Pre_1 Post := by
  intro l hfl _ _ p e ha hc hk s m args below hf hA hF happ hP
  obtain ⟨hcalls, hrest, hpre⟩ := hP
  obtain ⟨-, -, -, hnamed, -, -, -, hat⟩ := (Spec.applies_iff hf).mp happ
  obtain ⟨hg, hn⟩ := and_e (Cond.before_iff.mp (show (Jvm.Cond.and given_1 narrow_1).before args s = true from hpre))
  obtain ⟨hcnt, hg⟩ := and_e hg
  have ga0 := hg
  obtain ⟨w0, rfl⟩ : ∃ w0 : Value, args = #[w0] := by
    have hs : args.size = 1 := by simpa [Cond.value, given_1] using hcnt
    obtain ⟨L⟩ := args
    match L, hs with
    | [w0], _ => exact ⟨w0, rfl⟩
  have hw := fun d (hd : d ∈ tables_1) => atoms_spec (ws := Jvm.Cond.code x code maxLocals ret :: tables_1) hat d (List.mem_cons_of_mem _ hd)
  have hfit : Fit s := fun {y c} hc i hi => by
    obtain ⟨ha, rfl⟩ := Array.getElem?_eq_some_iff.mp hc
    have q := List.all_eq_true.mp ((Array.all_eq_true_iff_forall_mem.mp hF) _ (Array.getElem_mem ha)) i (List.mem_range.mpr hi)
    simpa [Array.getElem?_eq_getElem hi] using q
  obtain ⟨i0, ei0⟩ := is_v ga0
  obtain rfl : w0 = (.int i0) := Option.some.inj ei0
  obtain ⟨c0, hn⟩ := and_e hn
  obtain ⟨c1, hn⟩ := and_e hn
  obtain ⟨c2, hn⟩ := and_e hn
  obtain ⟨c3, hn⟩ := and_e hn
  obtain ⟨c4, hn⟩ := and_e hn
  obtain ⟨c5, hn⟩ := and_e hn
  obtain ⟨c6, hn⟩ := and_e hn
  obtain ⟨c7, hn⟩ := and_e hn
  obtain ⟨c8, hn⟩ := and_e hn
  obtain ⟨c9, hn⟩ := and_e hn
  obtain ⟨c10, hn⟩ := and_e hn
  obtain ⟨c11, hn⟩ := and_e hn
  obtain ⟨c12, hn⟩ := and_e hn
  obtain ⟨c13, hn⟩ := and_e hn
  obtain ⟨c14, hn⟩ := and_e hn
  obtain ⟨c15, hn⟩ := and_e hn
  obtain ⟨c16, hn⟩ := and_e hn
  obtain ⟨c17, hn⟩ := and_e hn
  obtain ⟨c18, hn⟩ := and_e hn
  obtain ⟨c19, hn⟩ := and_e hn
  obtain ⟨c20, hn⟩ := and_e hn
  obtain ⟨c21, hn⟩ := and_e hn
  obtain ⟨c22, hn⟩ := and_e hn
  obtain ⟨c23, hn⟩ := and_e hn
  obtain ⟨c24, hn⟩ := and_e hn
  obtain ⟨c25, hn⟩ := and_e hn
  obtain ⟨c26, hn⟩ := and_e hn
  obtain ⟨c27, hn⟩ := and_e hn
  obtain ⟨c28, hn⟩ := and_e hn
  obtain ⟨c29, hn⟩ := and_e hn
  obtain ⟨c30, hn⟩ := and_e hn
  obtain ⟨c31, hn⟩ := and_e hn
  obtain ⟨c32, hn⟩ := and_e hn
  obtain ⟨c33, hn⟩ := and_e hn
  obtain ⟨c34, hn⟩ := and_e hn
  obtain ⟨c35, hn⟩ := and_e hn
  obtain ⟨c36, hn⟩ := and_e hn
  obtain ⟨c37, hn⟩ := and_e hn
  obtain ⟨c38, hn⟩ := and_e hn
  obtain ⟨c39, hn⟩ := and_e hn
  obtain ⟨c40, hn⟩ := and_e hn
  obtain ⟨c41, hn⟩ := and_e hn
  obtain ⟨c42, hn⟩ := and_e hn
  obtain ⟨c43, hn⟩ := and_e hn
  obtain ⟨c44, hn⟩ := and_e hn
  obtain ⟨c45, hn⟩ := and_e hn
  obtain ⟨c46, hn⟩ := and_e hn
  have c47 := hn
  obtain ⟨w_MULTIPLY, ev_MULTIPLY⟩ := exa_v c0
  have E_MULTIPLY := Exa.start ev_MULTIPLY c0
  have S_MULTIPLY : Sta s s.heap "com/example/pathloom/pathloom/Operator" "MULTIPLY" "Lcom/example/pathloom/pathloom/Operator;" (.ref w_MULTIPLY) := Sta.start ev_MULTIPLY (Or.inr ⟨(hw _ (List.mem_of_getElem? (i := 6) rfl)), (hw _ (List.mem_of_getElem? (i := 7) rfl))⟩)
  obtain ⟨w_AND, ev_AND⟩ := exa_v c1
  have E_AND := Exa.start ev_AND c1
  have S_AND : Sta s s.heap "com/example/pathloom/pathloom/Operator" "AND" "Lcom/example/pathloom/pathloom/Operator;" (.ref w_AND) := Sta.start ev_AND (Or.inr ⟨(hw _ (List.mem_of_getElem? (i := 6) rfl)), (hw _ (List.mem_of_getElem? (i := 14) rfl))⟩)
  obtain ⟨w_OR, ev_OR⟩ := exa_v c4
  have E_OR := Exa.start ev_OR c4
  have S_OR : Sta s s.heap "com/example/pathloom/pathloom/Operator" "OR" "Lcom/example/pathloom/pathloom/Operator;" (.ref w_OR) := Sta.start ev_OR (Or.inr ⟨(hw _ (List.mem_of_getElem? (i := 6) rfl)), (hw _ (List.mem_of_getElem? (i := 16) rfl))⟩)
  obtain ⟨w_XOR, ev_XOR⟩ := exa_v c6
  have E_XOR := Exa.start ev_XOR c6
  have S_XOR : Sta s s.heap "com/example/pathloom/pathloom/Operator" "XOR" "Lcom/example/pathloom/pathloom/Operator;" (.ref w_XOR) := Sta.start ev_XOR (Or.inr ⟨(hw _ (List.mem_of_getElem? (i := 6) rfl)), (hw _ (List.mem_of_getElem? (i := 18) rfl))⟩)
  obtain ⟨w_IMPLIES, ev_IMPLIES⟩ := exa_v c8
  have E_IMPLIES := Exa.start ev_IMPLIES c8
  have S_IMPLIES : Sta s s.heap "com/example/pathloom/pathloom/Operator" "IMPLIES" "Lcom/example/pathloom/pathloom/Operator;" (.ref w_IMPLIES) := Sta.start ev_IMPLIES (Or.inr ⟨(hw _ (List.mem_of_getElem? (i := 6) rfl)), (hw _ (List.mem_of_getElem? (i := 20) rfl))⟩)
  obtain ⟨w_MOD, ev_MOD⟩ := exa_v c10
  have E_MOD := Exa.start ev_MOD c10
  have S_MOD : Sta s s.heap "com/example/pathloom/pathloom/Operator" "MOD" "Lcom/example/pathloom/pathloom/Operator;" (.ref w_MOD) := Sta.start ev_MOD (Or.inr ⟨(hw _ (List.mem_of_getElem? (i := 6) rfl)), (hw _ (List.mem_of_getElem? (i := 22) rfl))⟩)
  obtain ⟨w_EQUAL, ev_EQUAL⟩ := exa_v c12
  have E_EQUAL := Exa.start ev_EQUAL c12
  have S_EQUAL : Sta s s.heap "com/example/pathloom/pathloom/Operator" "EQUAL" "Lcom/example/pathloom/pathloom/Operator;" (.ref w_EQUAL) := Sta.start ev_EQUAL (Or.inr ⟨(hw _ (List.mem_of_getElem? (i := 6) rfl)), (hw _ (List.mem_of_getElem? (i := 24) rfl))⟩)
  obtain ⟨w_CONTAINS, ev_CONTAINS⟩ := exa_v c14
  have E_CONTAINS := Exa.start ev_CONTAINS c14
  have S_CONTAINS : Sta s s.heap "com/example/pathloom/pathloom/Operator" "CONTAINS" "Lcom/example/pathloom/pathloom/Operator;" (.ref w_CONTAINS) := Sta.start ev_CONTAINS (Or.inr ⟨(hw _ (List.mem_of_getElem? (i := 6) rfl)), (hw _ (List.mem_of_getElem? (i := 26) rfl))⟩)
  obtain ⟨w_EQUIVALENT, ev_EQUIVALENT⟩ := exa_v c16
  have E_EQUIVALENT := Exa.start ev_EQUIVALENT c16
  have S_EQUIVALENT : Sta s s.heap "com/example/pathloom/pathloom/Operator" "EQUIVALENT" "Lcom/example/pathloom/pathloom/Operator;" (.ref w_EQUIVALENT) := Sta.start ev_EQUIVALENT (Or.inr ⟨(hw _ (List.mem_of_getElem? (i := 6) rfl)), (hw _ (List.mem_of_getElem? (i := 28) rfl))⟩)
  obtain ⟨w_DIV, ev_DIV⟩ := exa_v c18
  have E_DIV := Exa.start ev_DIV c18
  have S_DIV : Sta s s.heap "com/example/pathloom/pathloom/Operator" "DIV" "Lcom/example/pathloom/pathloom/Operator;" (.ref w_DIV) := Sta.start ev_DIV (Or.inr ⟨(hw _ (List.mem_of_getElem? (i := 6) rfl)), (hw _ (List.mem_of_getElem? (i := 30) rfl))⟩)
  obtain ⟨w_IS, ev_IS⟩ := exa_v c20
  have E_IS := Exa.start ev_IS c20
  have S_IS : Sta s s.heap "com/example/pathloom/pathloom/Operator" "IS" "Lcom/example/pathloom/pathloom/Operator;" (.ref w_IS) := Sta.start ev_IS (Or.inr ⟨(hw _ (List.mem_of_getElem? (i := 6) rfl)), (hw _ (List.mem_of_getElem? (i := 32) rfl))⟩)
  obtain ⟨w_LESS, ev_LESS⟩ := exa_v c22
  have E_LESS := Exa.start ev_LESS c22
  have S_LESS : Sta s s.heap "com/example/pathloom/pathloom/Operator" "LESS" "Lcom/example/pathloom/pathloom/Operator;" (.ref w_LESS) := Sta.start ev_LESS (Or.inr ⟨(hw _ (List.mem_of_getElem? (i := 6) rfl)), (hw _ (List.mem_of_getElem? (i := 34) rfl))⟩)
  obtain ⟨w_NOT_EQUAL, ev_NOT_EQUAL⟩ := exa_v c24
  have E_NOT_EQUAL := Exa.start ev_NOT_EQUAL c24
  have S_NOT_EQUAL : Sta s s.heap "com/example/pathloom/pathloom/Operator" "NOT_EQUAL" "Lcom/example/pathloom/pathloom/Operator;" (.ref w_NOT_EQUAL) := Sta.start ev_NOT_EQUAL (Or.inr ⟨(hw _ (List.mem_of_getElem? (i := 6) rfl)), (hw _ (List.mem_of_getElem? (i := 36) rfl))⟩)
  obtain ⟨w_AS, ev_AS⟩ := exa_v c26
  have E_AS := Exa.start ev_AS c26
  have S_AS : Sta s s.heap "com/example/pathloom/pathloom/Operator" "AS" "Lcom/example/pathloom/pathloom/Operator;" (.ref w_AS) := Sta.start ev_AS (Or.inr ⟨(hw _ (List.mem_of_getElem? (i := 6) rfl)), (hw _ (List.mem_of_getElem? (i := 38) rfl))⟩)
  obtain ⟨w_DIVIDE, ev_DIVIDE⟩ := exa_v c28
  have E_DIVIDE := Exa.start ev_DIVIDE c28
  have S_DIVIDE : Sta s s.heap "com/example/pathloom/pathloom/Operator" "DIVIDE" "Lcom/example/pathloom/pathloom/Operator;" (.ref w_DIVIDE) := Sta.start ev_DIVIDE (Or.inr ⟨(hw _ (List.mem_of_getElem? (i := 6) rfl)), (hw _ (List.mem_of_getElem? (i := 40) rfl))⟩)
  obtain ⟨w_LESS_OR_EQUAL, ev_LESS_OR_EQUAL⟩ := exa_v c30
  have E_LESS_OR_EQUAL := Exa.start ev_LESS_OR_EQUAL c30
  have S_LESS_OR_EQUAL : Sta s s.heap "com/example/pathloom/pathloom/Operator" "LESS_OR_EQUAL" "Lcom/example/pathloom/pathloom/Operator;" (.ref w_LESS_OR_EQUAL) := Sta.start ev_LESS_OR_EQUAL (Or.inr ⟨(hw _ (List.mem_of_getElem? (i := 6) rfl)), (hw _ (List.mem_of_getElem? (i := 43) rfl))⟩)
  obtain ⟨w_UNION, ev_UNION⟩ := exa_v c32
  have E_UNION := Exa.start ev_UNION c32
  have S_UNION : Sta s s.heap "com/example/pathloom/pathloom/Operator" "UNION" "Lcom/example/pathloom/pathloom/Operator;" (.ref w_UNION) := Sta.start ev_UNION (Or.inr ⟨(hw _ (List.mem_of_getElem? (i := 6) rfl)), (hw _ (List.mem_of_getElem? (i := 45) rfl))⟩)
  obtain ⟨w_ADD, ev_ADD⟩ := exa_v c34
  have E_ADD := Exa.start ev_ADD c34
  have S_ADD : Sta s s.heap "com/example/pathloom/pathloom/Operator" "ADD" "Lcom/example/pathloom/pathloom/Operator;" (.ref w_ADD) := Sta.start ev_ADD (Or.inr ⟨(hw _ (List.mem_of_getElem? (i := 6) rfl)), (hw _ (List.mem_of_getElem? (i := 48) rfl))⟩)
  obtain ⟨w_IN, ev_IN⟩ := exa_v c36
  have E_IN := Exa.start ev_IN c36
  have S_IN : Sta s s.heap "com/example/pathloom/pathloom/Operator" "IN" "Lcom/example/pathloom/pathloom/Operator;" (.ref w_IN) := Sta.start ev_IN (Or.inr ⟨(hw _ (List.mem_of_getElem? (i := 6) rfl)), (hw _ (List.mem_of_getElem? (i := 50) rfl))⟩)
  obtain ⟨w_SUBTRACT, ev_SUBTRACT⟩ := exa_v c38
  have E_SUBTRACT := Exa.start ev_SUBTRACT c38
  have S_SUBTRACT : Sta s s.heap "com/example/pathloom/pathloom/Operator" "SUBTRACT" "Lcom/example/pathloom/pathloom/Operator;" (.ref w_SUBTRACT) := Sta.start ev_SUBTRACT (Or.inr ⟨(hw _ (List.mem_of_getElem? (i := 6) rfl)), (hw _ (List.mem_of_getElem? (i := 52) rfl))⟩)
  obtain ⟨w_CONCATENATE, ev_CONCATENATE⟩ := exa_v c40
  have E_CONCATENATE := Exa.start ev_CONCATENATE c40
  have S_CONCATENATE : Sta s s.heap "com/example/pathloom/pathloom/Operator" "CONCATENATE" "Lcom/example/pathloom/pathloom/Operator;" (.ref w_CONCATENATE) := Sta.start ev_CONCATENATE (Or.inr ⟨(hw _ (List.mem_of_getElem? (i := 6) rfl)), (hw _ (List.mem_of_getElem? (i := 54) rfl))⟩)
  obtain ⟨w_GREATER, ev_GREATER⟩ := exa_v c42
  have E_GREATER := Exa.start ev_GREATER c42
  have S_GREATER : Sta s s.heap "com/example/pathloom/pathloom/Operator" "GREATER" "Lcom/example/pathloom/pathloom/Operator;" (.ref w_GREATER) := Sta.start ev_GREATER (Or.inr ⟨(hw _ (List.mem_of_getElem? (i := 6) rfl)), (hw _ (List.mem_of_getElem? (i := 56) rfl))⟩)
  obtain ⟨w_NOT_EQUIVALENT, ev_NOT_EQUIVALENT⟩ := exa_v c44
  have E_NOT_EQUIVALENT := Exa.start ev_NOT_EQUIVALENT c44
  have S_NOT_EQUIVALENT : Sta s s.heap "com/example/pathloom/pathloom/Operator" "NOT_EQUIVALENT" "Lcom/example/pathloom/pathloom/Operator;" (.ref w_NOT_EQUIVALENT) := Sta.start ev_NOT_EQUIVALENT (Or.inr ⟨(hw _ (List.mem_of_getElem? (i := 6) rfl)), (hw _ (List.mem_of_getElem? (i := 58) rfl))⟩)
  obtain ⟨w_GREATER_OR_EQUAL, ev_GREATER_OR_EQUAL⟩ := exa_v c46
  have E_GREATER_OR_EQUAL := Exa.start ev_GREATER_OR_EQUAL c46
  have S_GREATER_OR_EQUAL : Sta s s.heap "com/example/pathloom/pathloom/Operator" "GREATER_OR_EQUAL" "Lcom/example/pathloom/pathloom/Operator;" (.ref w_GREATER_OR_EQUAL) := Sta.start ev_GREATER_OR_EQUAL (Or.inr ⟨(hw _ (List.mem_of_getElem? (i := 6) rfl)), (hw _ (List.mem_of_getElem? (i := 61) rfl))⟩)
  have F_MULTIPLY_ordinal := own_fldI c2 ev_MULTIPLY
  have F_AND_ordinal := own_fldI c3 ev_AND
  have F_OR_ordinal := own_fldI c5 ev_OR
  have F_XOR_ordinal := own_fldI c7 ev_XOR
  have F_IMPLIES_ordinal := own_fldI c9 ev_IMPLIES
  have F_MOD_ordinal := own_fldI c11 ev_MOD
  have F_EQUAL_ordinal := own_fldI c13 ev_EQUAL
  have F_CONTAINS_ordinal := own_fldI c15 ev_CONTAINS
  have F_EQUIVALENT_ordinal := own_fldI c17 ev_EQUIVALENT
  have F_DIV_ordinal := own_fldI c19 ev_DIV
  have F_IS_ordinal := own_fldI c21 ev_IS
  have F_LESS_ordinal := own_fldI c23 ev_LESS
  have F_NOT_EQUAL_ordinal := own_fldI c25 ev_NOT_EQUAL
  have F_AS_ordinal := own_fldI c27 ev_AS
  have F_DIVIDE_ordinal := own_fldI c29 ev_DIVIDE
  have F_LESS_OR_EQUAL_ordinal := own_fldI c31 ev_LESS_OR_EQUAL
  have F_UNION_ordinal := own_fldI c33 ev_UNION
  have F_ADD_ordinal := own_fldI c35 ev_ADD
  have F_IN_ordinal := own_fldI c37 ev_IN
  have F_SUBTRACT_ordinal := own_fldI c39 ev_SUBTRACT
  have F_CONCATENATE_ordinal := own_fldI c41 ev_CONCATENATE
  have F_GREATER_ordinal := own_fldI c43 ev_GREATER
  have F_NOT_EQUIVALENT_ordinal := own_fldI c45 ev_NOT_EQUIVALENT
  have F_GREATER_OR_EQUAL_ordinal := own_fldI c47 ev_GREATER_OR_EQUAL
  obtain ⟨w, hwd⟩ : ∃ w : Nat → Addr, w = (fun k => [w_MULTIPLY, w_DIVIDE, w_DIV, w_MOD, w_ADD, w_SUBTRACT, w_CONCATENATE, w_IS, w_AS, w_UNION, w_LESS_OR_EQUAL, w_LESS, w_GREATER, w_GREATER_OR_EQUAL, w_EQUAL, w_EQUIVALENT, w_NOT_EQUAL, w_NOT_EQUIVALENT, w_IN, w_CONTAINS, w_AND, w_OR, w_XOR, w_IMPLIES].getD k 0) := ⟨_, rfl⟩
  have ho : ∀ k, k < 24 → Fld s s.heap (w k) "java/lang/Enum" "ordinal" "I" (.int k.toInt32) := by
    intro k hk
    subst hwd
    match k, hk with
    | 0, _ => exact F_MULTIPLY_ordinal
    | 1, _ => exact F_DIVIDE_ordinal
    | 2, _ => exact F_DIV_ordinal
    | 3, _ => exact F_MOD_ordinal
    | 4, _ => exact F_ADD_ordinal
    | 5, _ => exact F_SUBTRACT_ordinal
    | 6, _ => exact F_CONCATENATE_ordinal
    | 7, _ => exact F_IS_ordinal
    | 8, _ => exact F_AS_ordinal
    | 9, _ => exact F_UNION_ordinal
    | 10, _ => exact F_LESS_OR_EQUAL_ordinal
    | 11, _ => exact F_LESS_ordinal
    | 12, _ => exact F_GREATER_ordinal
    | 13, _ => exact F_GREATER_OR_EQUAL_ordinal
    | 14, _ => exact F_EQUAL_ordinal
    | 15, _ => exact F_EQUIVALENT_ordinal
    | 16, _ => exact F_NOT_EQUAL_ordinal
    | 17, _ => exact F_NOT_EQUIVALENT_ordinal
    | 18, _ => exact F_IN_ordinal
    | 19, _ => exact F_CONTAINS_ordinal
    | 20, _ => exact F_AND_ordinal
    | 21, _ => exact F_OR_ordinal
    | 22, _ => exact F_XOR_ordinal
    | 23, _ => exact F_IMPLIES_ordinal
    | k + 24, hk => exact absurd hk (by omega)
  have hE : ∀ k, k < 24 → Exa s s.heap (w k) "com/example/pathloom/pathloom/Operator" := by
    intro k hk
    subst hwd
    match k, hk with
    | 0, _ => exact E_MULTIPLY
    | 1, _ => exact E_DIVIDE
    | 2, _ => exact E_DIV
    | 3, _ => exact E_MOD
    | 4, _ => exact E_ADD
    | 5, _ => exact E_SUBTRACT
    | 6, _ => exact E_CONCATENATE
    | 7, _ => exact E_IS
    | 8, _ => exact E_AS
    | 9, _ => exact E_UNION
    | 10, _ => exact E_LESS_OR_EQUAL
    | 11, _ => exact E_LESS
    | 12, _ => exact E_GREATER
    | 13, _ => exact E_GREATER_OR_EQUAL
    | 14, _ => exact E_EQUAL
    | 15, _ => exact E_EQUIVALENT
    | 16, _ => exact E_NOT_EQUAL
    | 17, _ => exact E_NOT_EQUIVALENT
    | 18, _ => exact E_IN
    | 19, _ => exact E_CONTAINS
    | 20, _ => exact E_AND
    | 21, _ => exact E_OR
    | 22, _ => exact E_XOR
    | 23, _ => exact E_IMPLIES
    | k + 24, hk => exact absurd hk (by omega)
  have hinj : ∀ i j, i < 24 → j < 24 → w i = w j → i = j := own_inj ho (by decide)
  have hr := own_rem i0 24 24 (by decide) (by decide)
  have T_MULTIPLY : Sta s s.heap "com/example/pathloom/pathloom/Operator" "MULTIPLY" "Lcom/example/pathloom/pathloom/Operator;" (.ref (w 0)) := by subst hwd; exact S_MULTIPLY
  have T_DIVIDE : Sta s s.heap "com/example/pathloom/pathloom/Operator" "DIVIDE" "Lcom/example/pathloom/pathloom/Operator;" (.ref (w 1)) := by subst hwd; exact S_DIVIDE
  have T_DIV : Sta s s.heap "com/example/pathloom/pathloom/Operator" "DIV" "Lcom/example/pathloom/pathloom/Operator;" (.ref (w 2)) := by subst hwd; exact S_DIV
  have T_MOD : Sta s s.heap "com/example/pathloom/pathloom/Operator" "MOD" "Lcom/example/pathloom/pathloom/Operator;" (.ref (w 3)) := by subst hwd; exact S_MOD
  have T_ADD : Sta s s.heap "com/example/pathloom/pathloom/Operator" "ADD" "Lcom/example/pathloom/pathloom/Operator;" (.ref (w 4)) := by subst hwd; exact S_ADD
  have T_SUBTRACT : Sta s s.heap "com/example/pathloom/pathloom/Operator" "SUBTRACT" "Lcom/example/pathloom/pathloom/Operator;" (.ref (w 5)) := by subst hwd; exact S_SUBTRACT
  have T_CONCATENATE : Sta s s.heap "com/example/pathloom/pathloom/Operator" "CONCATENATE" "Lcom/example/pathloom/pathloom/Operator;" (.ref (w 6)) := by subst hwd; exact S_CONCATENATE
  have T_IS : Sta s s.heap "com/example/pathloom/pathloom/Operator" "IS" "Lcom/example/pathloom/pathloom/Operator;" (.ref (w 7)) := by subst hwd; exact S_IS
  have T_AS : Sta s s.heap "com/example/pathloom/pathloom/Operator" "AS" "Lcom/example/pathloom/pathloom/Operator;" (.ref (w 8)) := by subst hwd; exact S_AS
  have T_UNION : Sta s s.heap "com/example/pathloom/pathloom/Operator" "UNION" "Lcom/example/pathloom/pathloom/Operator;" (.ref (w 9)) := by subst hwd; exact S_UNION
  have T_LESS_OR_EQUAL : Sta s s.heap "com/example/pathloom/pathloom/Operator" "LESS_OR_EQUAL" "Lcom/example/pathloom/pathloom/Operator;" (.ref (w 10)) := by subst hwd; exact S_LESS_OR_EQUAL
  have T_LESS : Sta s s.heap "com/example/pathloom/pathloom/Operator" "LESS" "Lcom/example/pathloom/pathloom/Operator;" (.ref (w 11)) := by subst hwd; exact S_LESS
  have T_GREATER : Sta s s.heap "com/example/pathloom/pathloom/Operator" "GREATER" "Lcom/example/pathloom/pathloom/Operator;" (.ref (w 12)) := by subst hwd; exact S_GREATER
  have T_GREATER_OR_EQUAL : Sta s s.heap "com/example/pathloom/pathloom/Operator" "GREATER_OR_EQUAL" "Lcom/example/pathloom/pathloom/Operator;" (.ref (w 13)) := by subst hwd; exact S_GREATER_OR_EQUAL
  have T_EQUAL : Sta s s.heap "com/example/pathloom/pathloom/Operator" "EQUAL" "Lcom/example/pathloom/pathloom/Operator;" (.ref (w 14)) := by subst hwd; exact S_EQUAL
  have T_EQUIVALENT : Sta s s.heap "com/example/pathloom/pathloom/Operator" "EQUIVALENT" "Lcom/example/pathloom/pathloom/Operator;" (.ref (w 15)) := by subst hwd; exact S_EQUIVALENT
  have T_NOT_EQUAL : Sta s s.heap "com/example/pathloom/pathloom/Operator" "NOT_EQUAL" "Lcom/example/pathloom/pathloom/Operator;" (.ref (w 16)) := by subst hwd; exact S_NOT_EQUAL
  have T_NOT_EQUIVALENT : Sta s s.heap "com/example/pathloom/pathloom/Operator" "NOT_EQUIVALENT" "Lcom/example/pathloom/pathloom/Operator;" (.ref (w 17)) := by subst hwd; exact S_NOT_EQUIVALENT
  have T_IN : Sta s s.heap "com/example/pathloom/pathloom/Operator" "IN" "Lcom/example/pathloom/pathloom/Operator;" (.ref (w 18)) := by subst hwd; exact S_IN
  have T_CONTAINS : Sta s s.heap "com/example/pathloom/pathloom/Operator" "CONTAINS" "Lcom/example/pathloom/pathloom/Operator;" (.ref (w 19)) := by subst hwd; exact S_CONTAINS
  have T_AND : Sta s s.heap "com/example/pathloom/pathloom/Operator" "AND" "Lcom/example/pathloom/pathloom/Operator;" (.ref (w 20)) := by subst hwd; exact S_AND
  have T_OR : Sta s s.heap "com/example/pathloom/pathloom/Operator" "OR" "Lcom/example/pathloom/pathloom/Operator;" (.ref (w 21)) := by subst hwd; exact S_OR
  have T_XOR : Sta s s.heap "com/example/pathloom/pathloom/Operator" "XOR" "Lcom/example/pathloom/pathloom/Operator;" (.ref (w 22)) := by subst hwd; exact S_XOR
  have T_IMPLIES : Sta s s.heap "com/example/pathloom/pathloom/Operator" "IMPLIES" "Lcom/example/pathloom/pathloom/Operator;" (.ref (w 23)) := by subst hwd; exact S_IMPLIES
  obtain ⟨n, o, h1, h2, h3, _, L, rfl, ⟨rfl, N⟩, hq⟩ := rm0 l s _ hw tables_1 i0 w _ s.heap s.heap.size (Nat.le_refl _) T_MULTIPLY T_DIVIDE T_DIV T_MOD T_ADD T_SUBTRACT T_CONCATENATE T_IS T_AS T_UNION T_LESS_OR_EQUAL T_LESS T_GREATER T_GREATER_OR_EQUAL T_EQUAL T_EQUIVALENT T_NOT_EQUAL T_NOT_EQUIVALENT T_IN T_CONTAINS T_AND T_OR T_XOR T_IMPLIES rfl hr.1 hr.2 hinj hE p e ha hc hk s m _ below hf ((Spec.applies_iff_loose hf).mp happ).1 ⟨rfl, State.Warmed39.refl s, rfl⟩ trivial
  refine ⟨n, _, h1, h2, h3, hpost _ _ _ _ _ _ ⟨Cond.after_iff.mpr rfl, Cond.after_iff.mpr (eq_i res_at (Term.int_eval (1)) rfl), trivial⟩ ⟨hq.1, hq.2.1, (hq.2.2.sift fun y hy => Or.inr (N y hy)).mono (by decide) (by decide)⟩⟩
theorem main_1_1 : Claimed_1_1 := comes_1 fun _ _ _ _ _ _ h hF => ⟨h.1, hF⟩
theorem main_1_2 : Claimed_1_2 := comes_1 fun _ _ _ _ _ _ h hF => ⟨h.2.1, hF⟩
end Jvm.Pilot.@@N@@
namespace Jvm.Pilot.@@N@@
open Jvm Jvm.ClassFile Sem Op Lib Jvm.Free Jvm.Stand Jvm.Pilot.@@N@@.Jvm.D
/-! MADE BY PROGRAM (witnessworld.py) out of the Statement's table words and the real class files: 12 classes; the members and pool entries that the words name. The judged class is class 1, her method 1. -/
namespace start1
open Jvm.ClassFile
def u (s : String) : CpInfo := .utf8 (stringToUtf16 s)
/-- a pool by its gaps: so many unusable entries, then the entry; so many at the end -/
def gap : Nat → List CpInfo → List CpInfo
  | 0, r => r
  | n + 1, r => .unusable :: gap n r
def poolList (es : List (Nat × CpInfo)) (last : Nat) : List CpInfo := es.foldr (fun e r => gap e.1 (e.2 :: r)) (gap last [])
def pool (es : List (Nat × CpInfo)) (last : Nat) : Array CpInfo := ⟨poolList es last⟩
def fileOf (pool : Array CpInfo) (this : Nat) (attrs : Array Attribute := #[]) (ms : Array MethodInfo := #[]) (fl : Nat := 33) (sup : Nat := 0) (ifs : Array Nat := #[]) (fds : Array FieldInfo := #[]) : ClassFile where
  minorVersion := 0
  majorVersion := 65
  constantPool := pool
  accessFlags := fl
  thisClass := this
  superClass := sup
  interfaces := ifs
  fields := fds
  methods := ms
  attributes := attrs
def plain (name : String) (sup : Option ClassId) : Class where
  name := name
  kind := .ordinary
  loader := none
  accessFlags := 33
  super := sup
  interfaces := #[]
  cf := none
  fields := #[]
  methods := #[]
  instanceTypes := #[]
  staticTypes := #[]
  resolved := #[]
  callSites := []
  init := .initialized
  statics := none
  mirror := none

def pool0 : Array CpInfo := pool [(5, u "<init>"), (0, u "()V"), (1, .class_ 10), (1, u "java/lang/Object")] 113

def k0m0 : Method := { name := "<init>", desc := "()V", sig := { parameters := [], returnType := none }, accessFlags := 1, code := none }
/-- java/lang/Object -/
def k0 : Class := { plain "java/lang/Object" none with
  accessFlags := 33
  interfaces := #[]
  cf := some (fileOf pool0 8 #[] #[{ accessFlags := 1, nameIndex := 5, descriptorIndex := 6, attributes := #[] }] 33 0 #[] #[])
  fields := #[]
  methods := #[k0m0]
  instanceTypes := #[]
  staticTypes := #[]
  resolved := Array.replicate 124 none
  statics := none }

def pool1 : Array CpInfo := pool [(2, .class_ 4), (1, u "java/lang/Object"), (0, u "<init>"), (0, u "()V"), (0, .integer 2147483647), (0, .methodref 9 10), (0, .class_ 11), (0, .nameAndType 12 13), (0, u "com/example/pathloom/pathloom/OperatorIsBooleanPinLaw"), (0, u "pick"), (0, u "(I)Lcom/example/pathloom/pathloom/Operator;"), (0, .methodref 15 16), (0, .class_ 17), (0, .nameAndType 18 19), (0, u "com/example/pathloom/pathloom/Operator"), (0, u "isBoolean"), (0, u "()Z"), (0, .fieldref 15 21), (0, .nameAndType 22 23), (0, u "MULTIPLY"), (0, u "Lcom/example/pathloom/pathloom/Operator;"), (0, .fieldref 15 25), (0, .nameAndType 26 23), (0, u "DIVIDE"), (0, .fieldref 15 28), (0, .nameAndType 29 23), (0, u "DIV"), (0, .fieldref 15 31), (0, .nameAndType 32 23), (0, u "MOD"), (0, .fieldref 15 34), (0, .nameAndType 35 23), (0, u "ADD"), (0, .fieldref 15 37), (0, .nameAndType 38 23), (0, u "SUBTRACT"), (0, .fieldref 15 40), (0, .nameAndType 41 23), (0, u "CONCATENATE"), (0, .fieldref 15 43), (0, .nameAndType 44 23), (0, u "IS"), (0, .fieldref 15 46), (0, .nameAndType 47 23), (0, u "AS"), (0, .fieldref 15 49), (0, .nameAndType 50 23), (0, u "UNION"), (0, .fieldref 15 52), (0, .nameAndType 53 23), (0, u "LESS_OR_EQUAL"), (0, .fieldref 15 55), (0, .nameAndType 56 23), (0, u "LESS"), (0, .fieldref 15 58), (0, .nameAndType 59 23), (0, u "GREATER"), (0, .fieldref 15 61), (0, .nameAndType 62 23), (0, u "GREATER_OR_EQUAL"), (0, .fieldref 15 64), (0, .nameAndType 65 23), (0, u "EQUAL"), (0, .fieldref 15 67), (0, .nameAndType 68 23), (0, u "EQUIVALENT"), (0, .fieldref 15 70), (0, .nameAndType 71 23), (0, u "NOT_EQUAL"), (0, .fieldref 15 73), (0, .nameAndType 74 23), (0, u "NOT_EQUIVALENT"), (0, .fieldref 15 76), (0, .nameAndType 77 23), (0, u "IN"), (0, .fieldref 15 79), (0, .nameAndType 80 23), (0, u "CONTAINS"), (0, .fieldref 15 82), (0, .nameAndType 83 23), (0, u "AND"), (0, .fieldref 15 85), (0, .nameAndType 86 23), (0, u "OR"), (0, .fieldref 15 88), (0, .nameAndType 89 23), (0, u "XOR"), (0, .fieldref 15 91), (0, .nameAndType 92 23), (0, u "IMPLIES"), (2, u "law"), (0, u "(I)Z")] 3

def k1m0 : Method := { name := "<init>", desc := "()V", sig := { parameters := [], returnType := none }, accessFlags := 1, code := none }
def k1c1 : Code := { maxStack := 2, maxLocals := 4, code := code, exceptionTable := #[], attributes := #[] }
def k1m1 : Method := { name := "law", desc := "(I)Z", sig := { parameters := [.int], returnType := some .boolean }, accessFlags := 9, code := some k1c1 }
def k1c2 : Code := { maxStack := 2, maxLocals := 1, code := method_3_code, exceptionTable := #[], attributes := #[] }
def k1m2 : Method := { name := "pick", desc := "(I)Lcom/example/pathloom/pathloom/Operator;", sig := { parameters := [.int], returnType := some (.object "com/example/pathloom/pathloom/Operator") }, accessFlags := 10, code := some k1c2 }
/-- com/example/pathloom/pathloom/OperatorIsBooleanPinLaw -/
def k1 : Class := { plain "com/example/pathloom/pathloom/OperatorIsBooleanPinLaw" (some 0) with
  accessFlags := 49
  interfaces := #[]
  cf := some (fileOf pool1 9 #[] #[{ accessFlags := 1, nameIndex := 5, descriptorIndex := 6, attributes := #[] }, { accessFlags := 9, nameIndex := 95, descriptorIndex := 96, attributes := #[] }, { accessFlags := 10, nameIndex := 12, descriptorIndex := 13, attributes := #[] }] 49 2 #[] #[])
  fields := #[]
  methods := #[k1m0, k1m1, k1m2]
  instanceTypes := #[]
  staticTypes := #[]
  resolved := Array.replicate 100 none
  statics := none }

def pool2 : Array CpInfo := pool [(1, .class_ 2), (0, u "java/lang/constant/Constable"), (0, .class_ 4), (0, u "java/lang/Object")] 6

/-- java/lang/constant/Constable -/
def k2 : Class := { plain "java/lang/constant/Constable" (some 0) with
  accessFlags := 1537
  interfaces := #[]
  cf := some (fileOf pool2 1 #[] #[] 1537 3 #[] #[])
  fields := #[]
  methods := #[]
  instanceTypes := #[]
  staticTypes := #[]
  resolved := Array.replicate 11 none
  statics := none }

def pool3 : Array CpInfo := pool [(1, .class_ 2), (0, u "java/lang/Comparable"), (0, .class_ 4), (0, u "java/lang/Object")] 7

/-- java/lang/Comparable -/
def k3 : Class := { plain "java/lang/Comparable" (some 0) with
  accessFlags := 1537
  interfaces := #[]
  cf := some (fileOf pool3 1 #[] #[] 1537 3 #[] #[])
  fields := #[]
  methods := #[]
  instanceTypes := #[]
  staticTypes := #[]
  resolved := Array.replicate 12 none
  statics := none }

def pool4 : Array CpInfo := pool [(1, .class_ 2), (0, u "java/io/Serializable"), (0, .class_ 4), (0, u "java/lang/Object")] 2

/-- java/io/Serializable -/
def k4 : Class := { plain "java/io/Serializable" (some 0) with
  accessFlags := 1537
  interfaces := #[]
  cf := some (fileOf pool4 1 #[] #[] 1537 3 #[] #[])
  fields := #[]
  methods := #[]
  instanceTypes := #[]
  staticTypes := #[]
  resolved := Array.replicate 7 none
  statics := none }

def pool5 : Array CpInfo := pool [(2, .class_ 4), (1, u "java/lang/Enum"), (0, u "name"), (0, u "Ljava/lang/String;"), (2, u "ordinal"), (0, u "I"), (1, .class_ 14), (1, u "java/lang/Object"), (4, u "hash"), (86, .class_ 108), (1, u "java/lang/Enum$EnumDesc"), (2, .class_ 112), (0, u "java/lang/constant/Constable"), (0, .class_ 114), (0, u "java/lang/Comparable"), (0, .class_ 116), (0, u "java/io/Serializable")] 87

/-- java/lang/Enum -/
def k5 : Class := { plain "java/lang/Enum" (some 0) with
  accessFlags := 1057
  interfaces := #[2, 3, 4]
  cf := some (fileOf pool5 2 #[.nestMembers #[106]] #[] 1057 12 #[111, 113, 115] #[{ accessFlags := 18, nameIndex := 5, descriptorIndex := 6, attributes := #[] }, { accessFlags := 18, nameIndex := 9, descriptorIndex := 10, attributes := #[] }, { accessFlags := 2, nameIndex := 19, descriptorIndex := 10, attributes := #[] }])
  fields := #[{ name := "name", type := (.object "java/lang/String"), accessFlags := 18, slot := 0, constantValue := 0 }, { name := "ordinal", type := .int, accessFlags := 18, slot := 1, constantValue := 0 }, { name := "hash", type := .int, accessFlags := 2, slot := 2, constantValue := 0 }]
  methods := #[]
  instanceTypes := #[(.object "java/lang/String"), .int, .int]
  staticTypes := #[]
  resolved := Array.replicate 204 none
  statics := none }

def pool6 : Array CpInfo := pool [(1, .class_ 2), (0, u "com/example/pathloom/pathloom/Operator"), (2, u "MULTIPLY"), (0, u "Lcom/example/pathloom/pathloom/Operator;"), (2, u "DIVIDE"), (2, u "DIV"), (2, u "MOD"), (2, u "ADD"), (2, u "SUBTRACT"), (2, u "CONCATENATE"), (2, u "IS"), (2, u "AS"), (2, u "UNION"), (2, u "LESS_OR_EQUAL"), (2, u "LESS"), (2, u "GREATER"), (2, u "GREATER_OR_EQUAL"), (2, u "EQUAL"), (2, u "EQUIVALENT"), (2, u "NOT_EQUAL"), (2, u "NOT_EQUIVALENT"), (2, u "IN"), (2, u "CONTAINS"), (0, .fieldref 1 65), (0, .nameAndType 66 6), (0, u "AND"), (0, .fieldref 1 68), (0, .nameAndType 69 6), (0, u "OR"), (0, .fieldref 1 71), (0, .nameAndType 72 6), (0, u "XOR"), (0, .fieldref 1 74), (0, .nameAndType 75 6), (0, u "IMPLIES"), (2, u "$VALUES"), (0, u "[Lcom/example/pathloom/pathloom/Operator;"), (6, .class_ 88), (1, u "java/lang/Enum"), (8, u "symbol"), (0, u "Ljava/lang/String;"), (2, u "level"), (0, u "I"), (2, u "WRITTEN"), (0, u "Ljava/util/Map;"), (115, u "LOOSEST"), (11, u "isBoolean"), (0, u "()Z")] 27

def k6c0 : Code := { maxStack := 2, maxLocals := 1, code := prog_16_method_7_code, exceptionTable := #[], attributes := #[] }
def k6m0 : Method := { name := "isBoolean", desc := "()Z", sig := { parameters := [], returnType := some .boolean }, accessFlags := 0, code := some k6c0 }
/-- com/example/pathloom/pathloom/Operator -/
def k6 : Class := { plain "com/example/pathloom/pathloom/Operator" (some 5) with
  accessFlags := 16432
  interfaces := #[]
  cf := some (fileOf pool6 1 #[] #[{ accessFlags := 0, nameIndex := 234, descriptorIndex := 235, attributes := #[] }] 16432 86 #[] #[{ accessFlags := 16409, nameIndex := 5, descriptorIndex := 6, attributes := #[] }, { accessFlags := 16409, nameIndex := 9, descriptorIndex := 6, attributes := #[] }, { accessFlags := 16409, nameIndex := 12, descriptorIndex := 6, attributes := #[] }, { accessFlags := 16409, nameIndex := 15, descriptorIndex := 6, attributes := #[] }, { accessFlags := 16409, nameIndex := 18, descriptorIndex := 6, attributes := #[] }, { accessFlags := 16409, nameIndex := 21, descriptorIndex := 6, attributes := #[] }, { accessFlags := 16409, nameIndex := 24, descriptorIndex := 6, attributes := #[] }, { accessFlags := 16409, nameIndex := 27, descriptorIndex := 6, attributes := #[] }, { accessFlags := 16409, nameIndex := 30, descriptorIndex := 6, attributes := #[] }, { accessFlags := 16409, nameIndex := 33, descriptorIndex := 6, attributes := #[] }, { accessFlags := 16409, nameIndex := 36, descriptorIndex := 6, attributes := #[] }, { accessFlags := 16409, nameIndex := 39, descriptorIndex := 6, attributes := #[] }, { accessFlags := 16409, nameIndex := 42, descriptorIndex := 6, attributes := #[] }, { accessFlags := 16409, nameIndex := 45, descriptorIndex := 6, attributes := #[] }, { accessFlags := 16409, nameIndex := 48, descriptorIndex := 6, attributes := #[] }, { accessFlags := 16409, nameIndex := 51, descriptorIndex := 6, attributes := #[] }, { accessFlags := 16409, nameIndex := 54, descriptorIndex := 6, attributes := #[] }, { accessFlags := 16409, nameIndex := 57, descriptorIndex := 6, attributes := #[] }, { accessFlags := 16409, nameIndex := 60, descriptorIndex := 6, attributes := #[] }, { accessFlags := 16409, nameIndex := 63, descriptorIndex := 6, attributes := #[] }, { accessFlags := 16409, nameIndex := 66, descriptorIndex := 6, attributes := #[] }, { accessFlags := 16409, nameIndex := 69, descriptorIndex := 6, attributes := #[] }, { accessFlags := 16409, nameIndex := 72, descriptorIndex := 6, attributes := #[] }, { accessFlags := 16409, nameIndex := 75, descriptorIndex := 6, attributes := #[] }, { accessFlags := 24, nameIndex := 222, descriptorIndex := 102, attributes := #[] }, { accessFlags := 26, nameIndex := 105, descriptorIndex := 106, attributes := #[] }, { accessFlags := 18, nameIndex := 97, descriptorIndex := 98, attributes := #[] }, { accessFlags := 18, nameIndex := 101, descriptorIndex := 102, attributes := #[] }, { accessFlags := 4122, nameIndex := 78, descriptorIndex := 79, attributes := #[] }])
  fields := #[{ name := "MULTIPLY", type := (.object "com/example/pathloom/pathloom/Operator"), accessFlags := 16409, slot := 0, constantValue := 0 }, { name := "DIVIDE", type := (.object "com/example/pathloom/pathloom/Operator"), accessFlags := 16409, slot := 1, constantValue := 0 }, { name := "DIV", type := (.object "com/example/pathloom/pathloom/Operator"), accessFlags := 16409, slot := 2, constantValue := 0 }, { name := "MOD", type := (.object "com/example/pathloom/pathloom/Operator"), accessFlags := 16409, slot := 3, constantValue := 0 }, { name := "ADD", type := (.object "com/example/pathloom/pathloom/Operator"), accessFlags := 16409, slot := 4, constantValue := 0 }, { name := "SUBTRACT", type := (.object "com/example/pathloom/pathloom/Operator"), accessFlags := 16409, slot := 5, constantValue := 0 }, { name := "CONCATENATE", type := (.object "com/example/pathloom/pathloom/Operator"), accessFlags := 16409, slot := 6, constantValue := 0 }, { name := "IS", type := (.object "com/example/pathloom/pathloom/Operator"), accessFlags := 16409, slot := 7, constantValue := 0 }, { name := "AS", type := (.object "com/example/pathloom/pathloom/Operator"), accessFlags := 16409, slot := 8, constantValue := 0 }, { name := "UNION", type := (.object "com/example/pathloom/pathloom/Operator"), accessFlags := 16409, slot := 9, constantValue := 0 }, { name := "LESS_OR_EQUAL", type := (.object "com/example/pathloom/pathloom/Operator"), accessFlags := 16409, slot := 10, constantValue := 0 }, { name := "LESS", type := (.object "com/example/pathloom/pathloom/Operator"), accessFlags := 16409, slot := 11, constantValue := 0 }, { name := "GREATER", type := (.object "com/example/pathloom/pathloom/Operator"), accessFlags := 16409, slot := 12, constantValue := 0 }, { name := "GREATER_OR_EQUAL", type := (.object "com/example/pathloom/pathloom/Operator"), accessFlags := 16409, slot := 13, constantValue := 0 }, { name := "EQUAL", type := (.object "com/example/pathloom/pathloom/Operator"), accessFlags := 16409, slot := 14, constantValue := 0 }, { name := "EQUIVALENT", type := (.object "com/example/pathloom/pathloom/Operator"), accessFlags := 16409, slot := 15, constantValue := 0 }, { name := "NOT_EQUAL", type := (.object "com/example/pathloom/pathloom/Operator"), accessFlags := 16409, slot := 16, constantValue := 0 }, { name := "NOT_EQUIVALENT", type := (.object "com/example/pathloom/pathloom/Operator"), accessFlags := 16409, slot := 17, constantValue := 0 }, { name := "IN", type := (.object "com/example/pathloom/pathloom/Operator"), accessFlags := 16409, slot := 18, constantValue := 0 }, { name := "CONTAINS", type := (.object "com/example/pathloom/pathloom/Operator"), accessFlags := 16409, slot := 19, constantValue := 0 }, { name := "AND", type := (.object "com/example/pathloom/pathloom/Operator"), accessFlags := 16409, slot := 20, constantValue := 0 }, { name := "OR", type := (.object "com/example/pathloom/pathloom/Operator"), accessFlags := 16409, slot := 21, constantValue := 0 }, { name := "XOR", type := (.object "com/example/pathloom/pathloom/Operator"), accessFlags := 16409, slot := 22, constantValue := 0 }, { name := "IMPLIES", type := (.object "com/example/pathloom/pathloom/Operator"), accessFlags := 16409, slot := 23, constantValue := 0 }, { name := "LOOSEST", type := .int, accessFlags := 24, slot := 24, constantValue := 0 }, { name := "WRITTEN", type := (.object "java/util/Map"), accessFlags := 26, slot := 25, constantValue := 0 }, { name := "symbol", type := (.object "java/lang/String"), accessFlags := 18, slot := 3, constantValue := 0 }, { name := "level", type := .int, accessFlags := 18, slot := 4, constantValue := 0 }, { name := "$VALUES", type := (.array (.object "com/example/pathloom/pathloom/Operator")), accessFlags := 4122, slot := 26, constantValue := 0 }]
  methods := #[k6m0]
  instanceTypes := #[(.object "java/lang/String"), .int, .int, (.object "java/lang/String"), .int]
  staticTypes := #[(.object "com/example/pathloom/pathloom/Operator"), (.object "com/example/pathloom/pathloom/Operator"), (.object "com/example/pathloom/pathloom/Operator"), (.object "com/example/pathloom/pathloom/Operator"), (.object "com/example/pathloom/pathloom/Operator"), (.object "com/example/pathloom/pathloom/Operator"), (.object "com/example/pathloom/pathloom/Operator"), (.object "com/example/pathloom/pathloom/Operator"), (.object "com/example/pathloom/pathloom/Operator"), (.object "com/example/pathloom/pathloom/Operator"), (.object "com/example/pathloom/pathloom/Operator"), (.object "com/example/pathloom/pathloom/Operator"), (.object "com/example/pathloom/pathloom/Operator"), (.object "com/example/pathloom/pathloom/Operator"), (.object "com/example/pathloom/pathloom/Operator"), (.object "com/example/pathloom/pathloom/Operator"), (.object "com/example/pathloom/pathloom/Operator"), (.object "com/example/pathloom/pathloom/Operator"), (.object "com/example/pathloom/pathloom/Operator"), (.object "com/example/pathloom/pathloom/Operator"), (.object "com/example/pathloom/pathloom/Operator"), (.object "com/example/pathloom/pathloom/Operator"), (.object "com/example/pathloom/pathloom/Operator"), (.object "com/example/pathloom/pathloom/Operator"), .int, (.object "java/util/Map"), (.array (.object "com/example/pathloom/pathloom/Operator"))]
  resolved := Array.replicate 263 none
  statics := some 0 }

def pool7 : Array CpInfo := pool [(1, u "java/lang/Cloneable"), (0, .class_ 1), (0, u "java/lang/Object"), (0, .class_ 3)] 3

/-- java/lang/Cloneable -/
def k7 : Class := { plain "java/lang/Cloneable" (some 0) with
  accessFlags := 1537
  interfaces := #[]
  cf := some (fileOf pool7 2 #[] #[] 1537 4 #[] #[])
  fields := #[]
  methods := #[]
  instanceTypes := #[]
  staticTypes := #[]
  resolved := Array.replicate 8 none
  statics := none }

/-- the primitive byte -/
def k8 : Class := { plain "byte" none with kind := .primitive 'B', accessFlags := 0x411 }
/-- [B -/
def k9 : Class := { plain "[B" (some 0) with kind := .array 8 .byte, interfaces := #[7, 4], accessFlags := 1041 }

/-- the primitive int -/
def k10 : Class := { plain "int" none with kind := .primitive 'I', accessFlags := 0x411 }
/-- [I -/
def k11 : Class := { plain "[I" (some 0) with kind := .array 10 .int, interfaces := #[7, 4], accessFlags := 1041 }

def heap : Heap := #[{ cls := 6, slots := #[.ref 1, .ref 2, .ref 3, .ref 4, .ref 5, .ref 6, .ref 7, .ref 8, .ref 9, .ref 10, .ref 11, .ref 12, .ref 13, .ref 14, .ref 15, .ref 16, .ref 17, .ref 18, .ref 19, .ref 20, .ref 21, .ref 22, .ref 23, .ref 24, .int 0, .null, .null], vm := .statics 6 },
  { cls := 6, slots := #[.null, .int 0, .int 0, .null, .int 0], vm := .none },
  { cls := 6, slots := #[.null, .int 1, .int 0, .null, .int 0], vm := .none },
  { cls := 6, slots := #[.null, .int 2, .int 0, .null, .int 0], vm := .none },
  { cls := 6, slots := #[.null, .int 3, .int 0, .null, .int 0], vm := .none },
  { cls := 6, slots := #[.null, .int 4, .int 0, .null, .int 0], vm := .none },
  { cls := 6, slots := #[.null, .int 5, .int 0, .null, .int 0], vm := .none },
  { cls := 6, slots := #[.null, .int 6, .int 0, .null, .int 0], vm := .none },
  { cls := 6, slots := #[.null, .int 7, .int 0, .null, .int 0], vm := .none },
  { cls := 6, slots := #[.null, .int 8, .int 0, .null, .int 0], vm := .none },
  { cls := 6, slots := #[.null, .int 9, .int 0, .null, .int 0], vm := .none },
  { cls := 6, slots := #[.null, .int 10, .int 0, .null, .int 0], vm := .none },
  { cls := 6, slots := #[.null, .int 11, .int 0, .null, .int 0], vm := .none },
  { cls := 6, slots := #[.null, .int 12, .int 0, .null, .int 0], vm := .none },
  { cls := 6, slots := #[.null, .int 13, .int 0, .null, .int 0], vm := .none },
  { cls := 6, slots := #[.null, .int 14, .int 0, .null, .int 0], vm := .none },
  { cls := 6, slots := #[.null, .int 15, .int 0, .null, .int 0], vm := .none },
  { cls := 6, slots := #[.null, .int 16, .int 0, .null, .int 0], vm := .none },
  { cls := 6, slots := #[.null, .int 17, .int 0, .null, .int 0], vm := .none },
  { cls := 6, slots := #[.null, .int 18, .int 0, .null, .int 0], vm := .none },
  { cls := 6, slots := #[.null, .int 19, .int 0, .null, .int 0], vm := .none },
  { cls := 6, slots := #[.null, .int 20, .int 0, .null, .int 0], vm := .none },
  { cls := 6, slots := #[.null, .int 21, .int 0, .null, .int 0], vm := .none },
  { cls := 6, slots := #[.null, .int 22, .int 0, .null, .int 0], vm := .none },
  { cls := 6, slots := #[.null, .int 23, .int 0, .null, .int 0], vm := .none }]
def classes : Array Class := #[k0, k1, k2, k3, k4, k5, k6, k7, k8, k9, k10, k11]
def interned : List (Array UInt16 × Addr) := []
def slotsUsed : Nat := 147
def theMethod : MethodId := ⟨1, 1⟩
def args0 : Array Value := #[.int 5]
def aboutOver (below : List Frame) : State where
  vm := { classes := classes, interned := interned.toArray }
  heap := heap
  slotsUsed := slotsUsed
  threads := #[{ frames := .invoking theMethod args0 :: below }]
def below0 : List Frame := [.native { method := ⟨0, 0⟩, args := #[] }]
def about1 : State := aboutOver below0
def p0 : Program := .bare "" "" ""
def e0 : Env := launch0.env 0 0 0
theorem w_frames : about1.frames = Frame.invoking theMethod args0 :: below0 := rfl
set_option maxRecDepth 65536 in
theorem w_args : argsFit about1.vm theMethod args0 = true := by decide +kernel
set_option maxRecDepth 65536 in
theorem w_heap : heapFits about1 = true := by decide +kernel
set_option maxRecDepth 65536 in
theorem w_runnable : about1.curStatus? = some .runnable := by decide +kernel
set_option maxRecDepth 65536 in
theorem w_alone : about1.alone = true := by decide +kernel
set_option maxRecDepth 65536 in
theorem w_named : about1.methodNamed? x = some theMethod := by decide +kernel
set_option maxRecDepth 65536 in
theorem w_hears : about1.hears theMethod below0 = true := by decide +kernel
set_option maxRecDepth 65536 in
theorem w_ripe : about1.ripe theMethod args0 below0 = true := by decide +kernel
theorem w_running : about1.status = .running := rfl
set_option maxRecDepth 65536 in
theorem w_room : about1.hasRoom e0.platform room_1 = true :=
  launch0.hasRoom_least _ room_1 (by decide +kernel) (by decide +kernel) (by decide +kernel) (by decide +kernel) (by decide +kernel) (by decide +kernel)
theorem allAtoms_all (ts : List Jvm.Cond) (a : Array Jvm.Value) (st : Jvm.State) : (allAtoms ts).before a st = ts.all (fun c => c.before a st) := by
  induction ts with
  | nil => rfl
  | cons c t ih =>
    show (Jvm.Cond.and c (allAtoms t)).before a st = _
    rw [Jvm.Cond.before_and, ih, List.all_cons]
def words1 : List Jvm.Cond := Jvm.Cond.code x code maxLocals ret :: tables_1
/-- a 'code' word, met by the world's own term for the bytes: nothing is compared byte by byte -/
theorem code_word {y : MethodName} {bytes : ByteArray} {mx : Nat} {rt : Option FieldType} {a : Array Value} {s : State} {m : MethodId} {meth : Method} {c : Code} (h1 : s.methodNamed? y = some m) (h2 : s.vm.method? m = some meth) (h3 : meth.code = some c) (h4 : c.code = bytes)
    (h5 : (c.maxLocals == mx && c.exceptionTable.isEmpty && decide (c.maxStack ≤ mostOperands) && decide (meth.sig.returnType = rt) && !meth.locks && decide (parseMethodDescriptor y.desc = some meth.sig)) = true) : (Jvm.Cond.code y bytes mx rt).before a s = true := by
  simp only [Bool.and_eq_true, beq_iff_eq, Bool.not_eq_true', decide_eq_true_eq] at h5
  obtain ⟨⟨⟨⟨⟨g1, g2⟩, g3⟩, g4⟩, g5⟩, g6⟩ := h5
  simp [Cond.before, Cond.holds, Cond.value, h1, h2, h3, h4, g1, g2, g3, g4, g5, g6]
def isCode : Jvm.Cond → Bool
  | .code _ _ _ _ => true
  | _ => false
theorem all_split {L : List Jvm.Cond} {P : Jvm.Cond → Bool} (h1 : L.all (fun c => isCode c || P c) = true) (h2 : ∀ c ∈ L.filter isCode, P c = true) : L.all P = true := by
  refine List.all_eq_true.mpr fun c hc => ?_
  have h := List.all_eq_true.mp h1 c hc
  rcases Bool.eq_false_or_eq_true (isCode c) with hi | hi
  · exact h2 c (List.mem_filter.mpr ⟨hc, hi⟩)
  · simpa [hi] using h
set_option maxRecDepth 65536 in
theorem w_c0 : (Jvm.Cond.code x code maxLocals ret).before args0 about1 = true := code_word (m := ⟨1, 1⟩) (meth := k1m1) (c := k1c1) (by decide +kernel) rfl rfl rfl (by decide +kernel)
set_option maxRecDepth 65536 in
theorem w_c1 : (Jvm.Cond.code ({ cls := "com/example/pathloom/pathloom/OperatorIsBooleanPinLaw", name := "pick", desc := "(I)Lcom/example/pathloom/pathloom/Operator;" } : Jvm.MethodName) method_3_code (1 : Nat) (Option.some (Jvm.ClassFile.FieldType.object "com/example/pathloom/pathloom/Operator"))).before args0 about1 = true := code_word (m := ⟨1, 2⟩) (meth := k1m2) (c := k1c2) (by decide +kernel) rfl rfl rfl (by decide +kernel)
set_option maxRecDepth 65536 in
theorem w_c2 : (Jvm.Cond.code ({ cls := "com/example/pathloom/pathloom/Operator", name := "isBoolean", desc := "()Z" } : Jvm.MethodName) prog_16_method_7_code (1 : Nat) (Option.some Jvm.ClassFile.FieldType.boolean)).before args0 about1 = true := code_word (m := ⟨6, 0⟩) (meth := k6m0) (c := k6c0) (by decide +kernel) rfl rfl rfl (by decide +kernel)
def codes1 : List Jvm.Cond := [Jvm.Cond.code x code maxLocals ret, Jvm.Cond.code ({ cls := "com/example/pathloom/pathloom/OperatorIsBooleanPinLaw", name := "pick", desc := "(I)Lcom/example/pathloom/pathloom/Operator;" } : Jvm.MethodName) method_3_code (1 : Nat) (Option.some (Jvm.ClassFile.FieldType.object "com/example/pathloom/pathloom/Operator")), Jvm.Cond.code ({ cls := "com/example/pathloom/pathloom/Operator", name := "isBoolean", desc := "()Z" } : Jvm.MethodName) prog_16_method_7_code (1 : Nat) (Option.some Jvm.ClassFile.FieldType.boolean)]
set_option maxRecDepth 65536 in
theorem codes_eq : words1.filter isCode = codes1 := rfl
theorem w_codes : ∀ c ∈ words1.filter isCode, c.before args0 about1 = true := by
  rw [codes_eq]
  intro c hc
  simp only [codes1, List.mem_cons, List.not_mem_nil, or_false] at hc
  rcases hc with rfl | rfl | rfl
  · exact w_c0
  · exact w_c1
  · exact w_c2
set_option maxRecDepth 65536 in
theorem w_t1 : (words1.take 24).all (fun c => isCode c || c.before args0 about1) = true := by decide +kernel
set_option maxRecDepth 65536 in
theorem w_t2 : ((words1.drop 24).take 24).all (fun c => isCode c || c.before args0 about1) = true := by decide +kernel
set_option maxRecDepth 65536 in
theorem w_t3 : ((words1.drop 24).drop 24).all (fun c => isCode c || c.before args0 about1) = true := by decide +kernel
theorem w_tables : (allAtoms (Jvm.Cond.code x code maxLocals ret :: tables_1)).before args0 about1 = true := by
  rw [allAtoms_all]
  show words1.all (fun c => c.before args0 about1) = true
  refine all_split ?_ w_codes
  rw [← List.take_append_drop 24 words1, List.all_append, w_t1, ← List.take_append_drop 24 (words1.drop 24), List.all_append, w_t2, w_t3]
  rfl
set_option maxRecDepth 65536 in
theorem w_case : (Jvm.Cond.and given_1 narrow_1).before args0 about1 = true := by decide +kernel
theorem w_applies : (headSpec (Jvm.Cond.code x code maxLocals ret :: tables_1) room_1).applies x e0.platform about1 = true :=
  (Spec.applies_iff w_frames).mpr ⟨w_running, w_runnable, w_alone, w_named, w_hears, w_ripe, w_room, w_tables⟩
theorem atStart : AtStart classFile x code maxLocals ret World_1 tables_1 room_1 Calls_1 rest_1 Pre_1 launch0 p0 e0 about1 theMethod args0 below0 :=
  ⟨lists_1, trivial, launch0.admits_env _ _ _, launch0.least_env, fairChoices_fair.cas, fairChoices_fair.clock, w_frames, w_args, w_heap, w_applies, trivial, trivial, w_case⟩
end start1
theorem witness_1 : WitnessClaimed_1 := ⟨start1.p0, start1.e0, start1.about1, start1.theMethod, start1.args0, start1.below0, start1.atStart⟩
end Jvm.Pilot.@@N@@
