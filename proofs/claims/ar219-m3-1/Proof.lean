import JvmDerived
import JvmDerived.Pilot.@@N@@Statement
import JvmDerived.Pilot.@@N@@Code
set_option linter.unusedVariables false
set_option linter.unusedSimpArgs false
namespace Jvm.Pilot.@@N@@
open Jvm Jvm.ClassFile Sem Op Lib Jvm.Free Jvm.Stand Jvm.LawKit Jvm.RoadKit Bundle Jvm.Pilot.@@N@@.Jvm.D
/-- whoever comes on from (T, g) comes from A -/
abbrev Gz (tb : Tables) (e : Env) (below : List Frame) (A T : State) (g : JFrame) : Prop := ∀ t, Steps tb e below (T.setTop g) t → Steps tb e below A t
theorem own_eqI {args : Array Value} {first s : State} {o : Option Outcome} {idx : List Nat} {a : Term} {n : Int32} (h : (Jvm.Cond.eq a (.int n)).value args first o s idx = some true) : a.eval args first o idx s = some (.int n) := by
  simp only [Cond.value, Term.eval] at h
  cases ha : a.eval args first o idx s with
  | none => simp [ha] at h
  | some x => cases x <;> simp [ha] at h ⊢ <;> exact h
theorem own_eqJ {args : Array Value} {first s : State} {o : Option Outcome} {idx : List Nat} {a : Term} {n : Int64} (h : (Jvm.Cond.eq a (.long n)).value args first o s idx = some true) : a.eval args first o idx s = some (.long n) := by
  simp only [Cond.value, Term.eval] at h
  cases ha : a.eval args first o idx s with
  | none => simp [ha] at h
  | some x => cases x <;> simp [ha] at h ⊢ <;> exact h
theorem own_eqR {args : Array Value} {first s : State} {o : Option Outcome} {idx : List Nat} {a b : Term} {x y : Addr} (h : (Jvm.Cond.eq a b).value args first o s idx = some true) (ha : a.eval args first o idx s = some (.ref x)) (hb : b.eval args first o idx s = some (.ref y)) : x = y := by
  simp only [Cond.value, ha, hb] at h
  simpa using h
theorem own_fldI {args : Array Value} {s : State} {t : Term} {C f d : String} {n : Int32} {x : Addr} (h : (Jvm.Cond.eq (.field t C f d) (.int n)).value args s none s [] = some true) (ht : t.eval args s none [] s = some (.ref x)) : Fld s s.heap x C f d (.int n) :=
  Fld.start (by rw [← fld_at (C := C) (n := f) (dd := d) ht]; exact own_eqI h)
theorem own_fldJ {args : Array Value} {s : State} {t : Term} {C f d : String} {n : Int64} {x : Addr} (h : (Jvm.Cond.eq (.field t C f d) (.long n)).value args s none s [] = some true) (ht : t.eval args s none [] s = some (.ref x)) : Fld s s.heap x C f d (.long n) :=
  Fld.start (by rw [← fld_at (C := C) (n := f) (dd := d) ht]; exact own_eqJ h)
theorem own_fldN {args : Array Value} {s : State} {t : Term} {C f d : String} {x : Addr} (h : (Jvm.Cond.eq (.field t C f d) .null).value args s none s [] = some true) (ht : t.eval args s none [] s = some (.ref x)) : Fld s s.heap x C f d .null :=
  Fld.start (by rw [← fld_at (C := C) (n := f) (dd := d) ht]; exact null_v h)
theorem own_ext {h0 h : Heap} (K : Keep h0 h []) : Ext h0 h := ⟨K.1, fun x c q => K.2.1 x c q nin0⟩
theorem own_keep {h0 h : Heap} (E : Ext h0 h) : Keep h0 h [] := (Keep.refl h0 []).ext E
theorem own_extE {h0 h h' : Heap} (K : Ext h0 h) (E : Ext h h') : Ext h0 h' := ⟨Nat.le_trans K.1 E.1, fun a c q => E.2 a c (K.2 a c q)⟩
theorem own_extW {h0 h h' : Heap} {a : Addr} {sl : Nat} {v : Value} (K : Ext h0 h) (W : Wr h h' a sl v) (q : h0.size ≤ a) : Ext h0 h' := own_ext ((own_keep K).wr W (Or.inr q))
theorem own_refl (h : Heap) : Ext h h := ⟨Nat.le_refl _, fun _ _ q => q⟩
theorem own_extK {h0 h h' : Heap} {ws : List Addr} (K : Ext h0 h) (Q : Keep h h' ws) (q : ∀ x ∈ ws, h0.size ≤ x) : Ext h0 h' := ⟨Nat.le_trans K.1 Q.1, fun a c hc => Q.2.1 a c (K.2 a c hc) fun z => absurd (Array.getElem?_eq_some_iff.mp hc).1 (Nat.not_lt.mpr (q a z))⟩
theorem own_getR {p : Program} {l : Launch} {e : Env} {R : Room} {s : State} {m : MethodId} {args : Array Value} {below : List Frame} {meth : Method} {c : Code} {T : State} {locs : List Loc} {cells slots : Nat} {Z : State} {a0 : Array Value} {h : Heap}
    (X : Stand p l e R s m args below meth c T locs cells slots) (hx : p.tables.exec = Jvm.exec) (hZ : Z.Warmed39 s.vm) {own O n d : String} {index : Nat} (hown : s.vm.findClass own = some m.cls) (w : (Cond.fieldRef own index O n d).before a0 Z = true) (eT : T.heap = h) {a : Addr} {v : Value} (F : Fld Z h a O n d v)
    {g : JFrame} (hg : g.method = m) {rest : List Value} (hs : g.stack = .ref a :: rest) (hd : decode c.code g.pc = .ok (.getfield index, 3)) : ∀ target, Steps p.tables e below (T.setTop { g with pc := g.pc + 3, stack := v :: rest }) target → Steps p.tables e below (T.setTop g) target := by
  obtain ⟨cell, cf, k, i, f, h1, h2, h3, h4, -, -, h7⟩ := F
  have hT : Z.Warmed39 T.vm := wtrans hZ X.warmed
  have w1 : (Cond.fieldRef own index O n d).before a0 (Z.setVm T.vm) = true := Cond.fieldRef_warmed39 hT w
  have hownT : (Z.setVm T.vm).vm.findClass own = some m.cls := by show T.vm.findClass own = _; rw [X.warmed.alike.findClass]; exact hown
  obtain ⟨c', k', i', f', hi, hready⟩ := Cond.fieldRef_spec (s := Z.setVm T.vm) hownT w1
  obtain ⟨k'', hi', -⟩ := State.fieldFound?_setVm (s := Z) hT.alike h2
  cases hi.symm.trans hi'
  exact fun target ht => (X.getfieldR hx hg hready h3 hs (by rw [eT]; exact h1) h4 h7 hd (Steps.refl _)).trans ht
theorem own_eqRef {args : Array Value} {first s : State} {o : Option Outcome} {idx : List Nat} {a b : Term} {y : Addr} (h : (Jvm.Cond.eq a b).value args first o s idx = some true) (hb : b.eval args first o idx s = some (.ref y)) : a.eval args first o idx s = some (.ref y) := by
  simp only [Cond.value, hb] at h
  cases ha : a.eval args first o idx s with
  | none => simp [ha] at h
  | some x => cases x <;> simp [ha] at h ⊢ <;> exact h
theorem own_fldR {args : Array Value} {s : State} {t u : Term} {C f d : String} {x y : Addr} (h : (Jvm.Cond.eq (.field t C f d) u).value args s none s [] = some true) (ht : t.eval args s none [] s = some (.ref x)) (hu : u.eval args s none [] s = some (.ref y)) : Fld s s.heap x C f d (.ref y) :=
  Fld.start (by rw [← fld_at (C := C) (n := f) (dd := d) ht]; exact own_eqRef h hu)
theorem own_len {args : Array Value} {s : State} {t : Term} {a : Addr} {cl : Cell} {z : Int32} (h : (Term.length t).eval args s none [] s = some (.int z)) (ht : t.eval args s none [] s = some (.ref a)) (ha : s.arrayAt? a = some cl) : cl.slots.size < 2 ^ 31 ∧ cl.slots.size.toInt32 = z := by
  simp only [Term.eval, ht, ha, Option.bind_eq_bind, Option.bind_some] at h
  split at h
  · rename_i q; exact ⟨q, by simpa using h⟩
  · cases h
theorem own_fldL {args : Array Value} {s : State} {idx : List Nat} {t u : Term} {C f d : String} {n : Int64} {x : Addr} (h : (Jvm.Cond.eq (.field t C f d) u).value args s none s idx = some true) (ht : t.eval args s none idx s = some (.ref x)) (hu : u.eval args s none idx s = some (.long n)) : Fld s s.heap x C f d (.long n) :=
  Fld.start (by
    rw [← fld_at (C := C) (n := f) (dd := d) ht]
    simp only [Cond.value, hu] at h
    cases ha : (Term.field t C f d).eval args s none idx s with
    | none => simp [ha] at h
    | some x => cases x <;> simp [ha] at h ⊢ <;> exact h)
theorem own_fldI2 {args : Array Value} {s : State} {idx : List Nat} {t u : Term} {C f d : String} {n : Int32} {x : Addr} (h : (Jvm.Cond.eq (.field t C f d) u).value args s none s idx = some true) (ht : t.eval args s none idx s = some (.ref x)) (hu : u.eval args s none idx s = some (.int n)) : Fld s s.heap x C f d (.int n) :=
  Fld.start (by
    rw [← fld_at (C := C) (n := f) (dd := d) ht]
    simp only [Cond.value, hu] at h
    cases ha : (Term.field t C f d).eval args s none idx s with
    | none => simp [ha] at h
    | some x => cases x <;> simp [ha] at h ⊢ <;> exact h)
theorem own_selp {s : State} {args : Array Value} {y z : MethodName} (hsel : (Cond.selects z.cls z z).before args s = true) (hcls : z.cls = y.cls) (hpriv : s.PrivateAt y) (hinst : (Cond.instanceMethod y).before args s = true) (hy : y.cls ≠ "java/lang/invoke/MethodHandle" ∧ y.cls ≠ "java/lang/invoke/VarHandle") : (Cond.selects y.cls y y).before args s = true := by
  obtain ⟨c2, r2, m2, q1, q2, q3, q4, kP, hkP, hkPi⟩ := Cond.selects_spec hsel
  exact selects_self_of_private (hcls ▸ findClass_of_methodNamed q3) hkP hkPi hpriv hinst hy
theorem own_nat {z : Int32} (h : 0 ≤ z.toInt) : z.toInt = z.toNatClampNeg := (Int.toNat_of_nonneg h).symm
theorem own_inb {z n : Int32} (N : Int) (hn : n.toInt = N) (h1 : 0 ≤ z.toInt) (h2 : z.toInt < N) : ¬ z < 0 ∧ z < n := by
  rw [Int32.lt_iff_toInt_lt, Int32.lt_iff_toInt_lt, hn]
  exact ⟨by have q : (0 : Int32).toInt = 0 := (by decide); omega, h2⟩
theorem own_inj {Z : State} {h : Heap} {C f d : String} {w : Nat → Addr} {n : Nat} (ho : ∀ k, k < n → Fld Z h (w k) C f d (.int k.toInt32)) (hn : n < 2 ^ 31) : ∀ i j, i < n → j < n → w i = w j → i = j := fun i j hi hj q => Classical.byContradiction fun ne => Fld.ne (ho i hi) (ho j hj) (fun z => ne (by
    have z1 : i.toInt32.toInt = j.toInt32.toInt := by rw [Value.int.inj z]
    rw [len_toInt (by omega), len_toInt (by omega)] at z1
    omega)) q
theorem own_mask (k : Int32) : 0 ≤ (k &&& 2147483647).toInt ∧ (k &&& 2147483647).toInt < 2147483648 := by
  have h1 : (k &&& 2147483647).toInt = ((k &&& 2147483647).toBitVec).toInt := rfl
  have h2 : (k &&& 2147483647).toBitVec = k.toBitVec &&& 2147483647#32 := rfl
  rw [h1, h2]
  have h3 : (k.toBitVec &&& 2147483647#32).msb = false := by rw [BitVec.msb_and, show (2147483647#32).msb = false from by decide, Bool.and_false]
  rw [BitVec.toInt_eq_toNat_of_msb h3]
  have h4 := BitVec.isLt (k.toBitVec &&& 2147483647#32)
  rw [BitVec.msb_eq_decide] at h3
  simp at h3 ⊢
  omega
theorem own_rem (k n : Int32) (N : Int) (hn : n.toInt = N) (hN : 0 < N) : 0 ≤ ((k &&& 2147483647) % n).toInt ∧ ((k &&& 2147483647) % n).toInt < N := by
  have h := own_mask k
  rw [Int32.toInt_mod, hn]
  generalize (k &&& 2147483647).toInt = z at h
  rw [Int.tmod_eq_emod_of_nonneg h.1]
  exact ⟨Int.emod_nonneg _ (by omega), Int.emod_lt_of_pos _ hN⟩
theorem own_i32_ne {x y : Int32} (h : ¬ x = y) : x.toInt ≠ y.toInt := fun q => h (Int32.toInt_inj.mp q)
theorem own_lt {x y : Int32} (h : x < y) : x.toInt < y.toInt := Int32.lt_iff_toInt_lt.mp h
theorem own_nlt {x y : Int32} (h : ¬ x < y) : y.toInt ≤ x.toInt := by rw [Int32.lt_iff_toInt_lt] at h; omega

def own_i (n : Nat) : Int32 := Int32.ofNat n
def own_l (n : Nat) : Int64 := Int64.ofNat n
def own_np (s L : Nat) : Nat := (L + 2 ^ s - 1) / 2 ^ s
def own_sz (s L j : Nat) : Nat := min (2 ^ s) (L - j * 2 ^ s)
def own_min (x y : Int64) : Int64 := if y < x then y else x
theorem own_f1 : ∀ s : Fin 8, ((1 : Int64) <<< ((own_i s.1) &&& 0x3f).toInt64) = own_l (2 ^ s.1) := by decide +kernel
theorem own_f2 : ∀ s : Fin 8, ∀ L : Fin 17, 1 ≤ L.1 → ((((((own_l L.1) + (own_l (2 ^ s.1))) - (1 : Int64)).toUInt64 >>> ((own_i s.1) &&& 0x3f).toInt64.toUInt64).toInt64).toInt32) = own_i (own_np s.1 L.1) := by decide +kernel
theorem own_f3 : ∀ s : Fin 8, ∀ L : Fin 17, own_np s.1 L.1 ≤ 16 ∧ (1 ≤ L.1 → 1 ≤ own_np s.1 L.1) := by decide +kernel
theorem own_f4 : ∀ s : Fin 8, ∀ L : Fin 17, ∀ i : Fin 17, i.1 < own_np s.1 L.1 → ((own_min (own_l (2 ^ s.1)) ((own_l L.1) - (((own_i i.1).toInt64) <<< ((own_i s.1) &&& 0x3f).toInt64))).toInt32) = own_i (own_sz s.1 L.1 i.1) := by decide +kernel
theorem own_f5 : ∀ i : Fin 17, ((own_i i.1) + (1 : Int32)) = own_i (i.1 + 1) := by decide +kernel
theorem own_f6 : ∀ i : Fin 129, ¬ (own_i i.1 < 0) ∧ (own_i i.1).toNatClampNeg = i.1 := by decide +kernel
theorem own_ix (n : Nat) (h : n < 129) : ¬ (own_i n < 0) ∧ (own_i n).toNatClampNeg = n := own_f6 ⟨n, h⟩
theorem own_f7 : ∀ i j : Fin 17, i.1 < j.1 → own_i i.1 < own_i j.1 := by decide +kernel
theorem own_f8 : ∀ s : Fin 8, ∀ i : Fin 17, ((((own_l i.1).toUInt64 >>> ((own_i s.1) &&& 0x3f).toInt64.toUInt64).toInt64).toInt32) = own_i (i.1 / 2 ^ s.1) := by decide +kernel
theorem own_f9 : ∀ s : Fin 8, ∀ i : Fin 17, (((own_l i.1).toInt32) &&& (((1 : Int32) <<< ((own_i s.1) &&& 31)) - (1 : Int32))) = own_i (i.1 % 2 ^ s.1) := by decide +kernel
theorem own_f10 : ∀ i : Fin 17, ((own_l i.1).toInt32) = own_i i.1 := by decide +kernel
theorem own_f11 : ∀ i : Fin 17, ((own_i i.1).toInt64) = own_l i.1 := by decide +kernel
theorem own_f12 : ∀ i j : Fin 17, own_l i.1 = own_l j.1 → i.1 = j.1 := by decide +kernel
theorem own_f13 : ∀ i : Fin 17, (own_i i.1).toInt = i.1 := by decide +kernel
theorem own_f14 : ∀ s : Fin 8, ∀ L : Fin 17, ∀ i : Fin 17, i.1 < L.1 → i.1 / 2 ^ s.1 < own_np s.1 L.1 ∧ i.1 % 2 ^ s.1 < own_sz s.1 L.1 (i.1 / 2 ^ s.1) ∧ (own_np s.1 L.1 = 1 → i.1 / 2 ^ s.1 = 0 ∧ i.1 % 2 ^ s.1 = i.1) := by decide +kernel
theorem own_f15 : ∀ s : Fin 8, ∀ L : Fin 17, ∀ i : Fin 17, own_sz s.1 L.1 i.1 ≤ 16 := by decide +kernel
theorem own_f16 : ∀ s : Fin 8, ∀ L : Fin 17, ∀ i : Fin 17, min L.1 (i.1 * 2 ^ s.1) + own_sz s.1 L.1 i.1 = min L.1 ((i.1 + 1) * 2 ^ s.1) := by decide +kernel
theorem own_i32 {x : Int32} {N : Nat} (h0 : 0 ≤ x.toInt) (h1 : x.toInt < N) (hN : N ≤ 17) : ∃ n, n < N ∧ x = own_i n := by
  refine ⟨x.toInt.toNat, by omega, ?_⟩
  have q := own_f13 ⟨x.toInt.toNat, by omega⟩
  refine Int32.toInt_inj.mp ?_
  rw [show x.toInt.toNat = (⟨x.toInt.toNat, by omega⟩ : Fin 17).1 from rfl, q]
  show x.toInt = (x.toInt.toNat : Int)
  omega
theorem own_and15 (x : Int32) : 0 ≤ (x &&& 15).toInt ∧ (x &&& 15).toInt < 16 := by
  have h2 : (x &&& 15).toBitVec = x.toBitVec &&& 15#32 := rfl
  have h1 : (x &&& 15).toInt = (x.toBitVec &&& 15#32).toInt := rfl
  have h4 : (x.toBitVec &&& 15#32).toNat ≤ 15 := by rw [BitVec.toNat_and]; exact Nat.and_le_right
  rw [h1, BitVec.toInt_eq_toNat_of_lt (by omega)]
  omega
theorem own_and7 (x : Int32) : 0 ≤ (x &&& 7).toInt ∧ (x &&& 7).toInt < 8 := by
  have h2 : (x &&& 7).toBitVec = x.toBitVec &&& 7#32 := rfl
  have h1 : (x &&& 7).toInt = (x.toBitVec &&& 7#32).toInt := rfl
  have h4 : (x.toBitVec &&& 7#32).toNat ≤ 7 := by rw [BitVec.toNat_and]; exact Nat.and_le_right
  rw [h1, BitVec.toInt_eq_toNat_of_lt (by omega)]
  omega
/-- a page of zeros -/
def own_Pg (Z : State) (h : Heap) (b : Addr) (n : Nat) : Prop := ∃ c : Cell, Arr Z h b c .long ∧ c.slots.size = n ∧ ∀ t, t < n → c.slots[t]? = some (.long 0)
/-- the first i pages lie in the array ps -/
def own_Inv (Z : State) (h : Heap) (ps : Addr) (k : ClassId) (sN LN i : Nat) (pg : Nat → Addr) : Prop :=
  (∃ c : Cell, Arr Z h ps c (.array .long) ∧ c.cls = k ∧ c.slots.size = own_np sN LN ∧ ∀ j, j < i → c.slots[j]? = some (.ref (pg j))) ∧ (∀ j, j < i → own_Pg Z h (pg j) (own_sz sN LN j)) ∧ (∀ j, j < i → ps < pg j ∧ pg j < h.size) ∧ ∀ j j', j < i → j' < i → pg j = pg j' → j = j'
/-- the word x at the place t of the array b -/
def own_Wd (Z : State) (h : Heap) (b : Addr) (t : Nat) (x : Int64) : Prop := ∃ c : Cell, Arr Z h b c .long ∧ t < c.slots.size ∧ c.slots[t]? = some (.long x)
theorem own_Wd.same {Z : State} {h h' : Heap} {b : Addr} {t : Nat} {x y : Int64} (F : own_Wd Z h b t x) (W : Wr h h' b t (.long y)) : own_Wd Z h' b t y := by
  obtain ⟨c, A, q, -⟩ := F
  exact ⟨c.setSlot t (.long y), A.same W, by rw [sz_set]; exact q, by simp [Cell.setSlot, q]⟩
theorem own_Wd.other {Z : State} {h h' : Heap} {b b' : Addr} {t t' : Nat} {x : Int64} {y : Value} (F : own_Wd Z h b t x) (W : Wr h h' b' t' y) (ne : b ≠ b' ∨ t ≠ t') : own_Wd Z h' b t x := by
  obtain ⟨c, A, q, r⟩ := F
  by_cases hb : b = b'
  · subst hb
    have nt : t ≠ t' := ne.resolve_left (fun z => z rfl)
    exact ⟨c.setSlot t' y, A.same W, by rw [sz_set]; exact q, by rw [← r]; exact Array.getElem?_setIfInBounds_ne (Ne.symm nt)⟩
  · exact ⟨c, A.other W hb, q, r⟩
/-- where the word i lies -/
def own_At (Z : State) (h : Heap) (a ps : Addr) (sN i : Nat) (b : Addr) (t : Nat) : Prop := Exa Z h a "com/example/rarebit/rarebit/util/WordArray" ∧ Fld Z h a "com/example/rarebit/rarebit/util/WordArray" "pageShift" "I" (.int (own_i sN)) ∧ ((Fld Z h a "com/example/rarebit/rarebit/util/WordArray" "only" "[J" (.ref b) ∧ i = t) ∨
  (Fld Z h a "com/example/rarebit/rarebit/util/WordArray" "only" "[J" .null ∧ Fld Z h a "com/example/rarebit/rarebit/util/WordArray" "pages" "[[J" (.ref ps) ∧ i % 2 ^ sN = t ∧ ∃ c : Cell, Arr Z h ps c (.array .long) ∧ i / 2 ^ sN < c.slots.size ∧ c.slots[i / 2 ^ sN]? = some (.ref b)))
theorem own_At.wr {Z : State} {h h' : Heap} {a ps b b' : Addr} {sN i t t' : Nat} {y : Value} (F : own_At Z h a ps sN i b t) (W : Wr h h' b' t' y) (n1 : a ≠ b') (n2 : ps ≠ b') : own_At Z h' a ps sN i b t := by
  obtain ⟨E, S, F⟩ := F
  refine ⟨E.wr W, S.other W (Or.inl n1), ?_⟩
  rcases F with ⟨F, q⟩ | ⟨F, G, q, c, A, r⟩
  · exact Or.inl ⟨F.other W (Or.inl n1), q⟩
  · exact Or.inr ⟨F.other W (Or.inl n1), G.other W (Or.inl n1), q, c, A.other W n2, r⟩

theorem d1_0 : decode jdk_29_method_70_code 0 = .ok (.lload_n 0, 1) := by decide +kernel
theorem d1_1 : decode jdk_29_method_70_code 1 = .ok (.lload_n 2, 1) := by decide +kernel
theorem d1_2 : decode jdk_29_method_70_code 2 = .ok (.lcmp, 1) := by decide +kernel
theorem d1_3 : decode jdk_29_method_70_code 3 = .ok (.ifCond .gt 7, 3) := by decide +kernel
theorem d1_6 : decode jdk_29_method_70_code 6 = .ok (.lload_n 0, 1) := by decide +kernel
theorem d1_7 : decode jdk_29_method_70_code 7 = .ok (.goto 4, 3) := by decide +kernel
theorem d1_10 : decode jdk_29_method_70_code 10 = .ok (.lload_n 2, 1) := by decide +kernel
theorem d1_11 : decode jdk_29_method_70_code 11 = .ok (.lreturn, 1) := by decide +kernel
theorem ef1 (m : MethodId) (x0 : Int64) (x1 : Int64) : entryFrame m #[(.long x0), (.long x1)] 4 = mkF m 0 #[.val (.long x0), .second, .val (.long x1), .second] [] := by first | (simp [entryFrame, mkF, argsToLocals, Value.category]; done) | rfl
def Q1 (Z : State) (x : Int64) (y : Int64) (h0 : Heap) (n0 : Nat) (v : Option Value) (h : Heap) (L : List Loc) : Prop := v = some (.long (own_min x y)) ∧ Fr n0 L ∧ h = h0
set_option maxRecDepth 65536 in
set_option maxHeartbeats 40000000 in
theorem rm1 (l : Launch) (Z : State) (a0 : Array Value) (hw : ∀ d ∈ tables_1, d.before a0 Z = true) (ws : List Jvm.Cond) (x : Int64) (y : Int64) (h0 : Heap) (n0 : Nat) (Z0 : n0 ≤ h0.size) :
    MetFree l (⟨"java/lang/Math", "min", "(JJ)J"⟩ : MethodName) (head1 (Jvm.Cond.code (⟨"java/lang/Math", "min", "(JJ)J"⟩ : MethodName) jdk_29_method_70_code 4 (some .long) :: ws) ({ frames := 0, cells := 0, slots := 0, locals := 0 } : Room)) (fun aq Uq => aq = #[(.long x), (.long y)] ∧ Z.Warmed39 Uq.vm ∧ Uq.heap = h0) (fun _ _ _ _ _ => True) (fun _ Uq oq Uq' => ∃ vq Lq, oq = .returned vq ∧ Q1 Z x y h0 n0 vq Uq'.heap Lq ∧ FrameEnd Uq oq Uq' Lq ({ frames := 0, cells := 0, slots := 0, locals := 0 } : Room).cells ({ frames := 0, cells := 0, slots := 0, locals := 0 } : Room).slots) := by
  refine MetFree.of_bodySF (Jvm.Free.JP.mathPlain rfl (by decide +kernel)) hisR ?_
  intro p e s m args below meth c s₁ Bd hml0 hP hK
  obtain ⟨rfl, hZ, hh⟩ := hP
  have hx := Bd.exec
  have hby := Bd.bytes
  have hml : c.maxLocals = 4 := hml0
  have hown : s.vm.findClass "java/lang/Math" = some m.cls := findClass_of_methodNamed Bd.named
  have hnm := (name_of_methodNamed Bd.named Bd.method).1
  have X0 : Stand p l e ({ frames := 0, cells := 0, slots := 0, locals := 0 } : Room) s m #[(.long x), (.long y)] below meth c s₁ [] 0 0 := Stand.of_body Bd
  have e0 : s₁.heap = h0 := by rw [← hh, Bd.state]; rfl
  have N0 := Fr.nil n0
  obtain ⟨A, hA⟩ : ∃ A, A = s₁.setTop (entryFrame m #[(.long x), (.long y)] 4) := ⟨_, rfl⟩
  rw [← hA]
  have g0 : Gz p.tables e below A s₁ (mkF m 0 #[.val (.long x), .second, .val (.long y), .second] []) := fun tq kq => by rw [hA]; exact castTop (ef1 m x y) kq
  have g1 : Gz p.tables e below A s₁ (mkF m 1 #[.val (.long x), .second, .val (.long y), .second] [(.long x)]) := fun tq kq => g0 tq (XS.lloadN X0.here hx rfl (hb hby d1_0) rfl kq)
  have g2 : Gz p.tables e below A s₁ (mkF m 2 #[.val (.long x), .second, .val (.long y), .second] [(.long y), (.long x)]) := fun tq kq => g1 tq (XS.lloadN X0.here hx rfl (hb hby d1_1) rfl kq)
  have g3 : Gz p.tables e below A s₁ (mkF m 3 #[.val (.long x), .second, .val (.long y), .second] [(.int (lcmpW x y))]) := fun tq kq => g2 tq (XS.lcmp X0.here hx rfl (hb hby d1_2) rfl kq)
  by_cases hc3 : y < x
  · have g4 : Gz p.tables e below A s₁ (mkF m 10 #[.val (.long x), .second, .val (.long y), .second] []) := fun tq kq => g3 tq (XS.ifYes X0.here hx rfl (pc0 := 3) (pc' := 10) rfl (hb hby d1_3) rfl ((if0 _ _).trans (tlt ((lw_gt _ _).mpr hc3)).2.2.1) (by decide) (by decide) kq)
    have g5 : Gz p.tables e below A s₁ (mkF m 11 #[.val (.long x), .second, .val (.long y), .second] [(.long y)]) := fun tq kq => g4 tq (XS.lloadN X0.here hx rfl (hb hby d1_10) rfl kq)
    obtain ⟨fs, hr, hrun, hended, hW, hsame⟩ := X0.leave (v := some (.long y)) (fun h => by rw [Bd.returns] at h; cases h)
    refine ⟨_, _, g5 _ (retOut X0 hx Bd.returns rfl (Or.inr (Or.inl ⟨rfl, rfl, _, rfl⟩)) (hb hby d1_11) hr), hrun, hended, _, _, rfl, ?_, ⟨_, rfl⟩, hW, hsame.mono (by decide) (by decide)⟩
    show Q1 Z x y h0 n0 _ s₁.heap _
    rw [e0]
    exact ⟨by unfold own_min; rw [if_pos hc3], N0, rfl⟩
  · have g6 : Gz p.tables e below A s₁ (mkF m 6 #[.val (.long x), .second, .val (.long y), .second] []) := fun tq kq => g3 tq (XS.ifNo X0.here hx rfl (hb hby d1_3) rfl ((if0 _ _).trans (flt (fun q => hc3 ((lw_gt _ _).mp q))).2.2.1) kq)
    have g7 : Gz p.tables e below A s₁ (mkF m 7 #[.val (.long x), .second, .val (.long y), .second] [(.long x)]) := fun tq kq => g6 tq (XS.lloadN X0.here hx rfl (hb hby d1_6) rfl kq)
    have g8 : Gz p.tables e below A s₁ (mkF m 11 #[.val (.long x), .second, .val (.long y), .second] [(.long x)]) := fun tq kq => g7 tq (XS.goto X0.here hx rfl (pc0 := 7) (pc' := 11) rfl (hb hby d1_7) (by decide) (by decide) kq)
    obtain ⟨fs, hr, hrun, hended, hW, hsame⟩ := X0.leave (v := some (.long x)) (fun h => by rw [Bd.returns] at h; cases h)
    refine ⟨_, _, g8 _ (retOut X0 hx Bd.returns rfl (Or.inr (Or.inl ⟨rfl, rfl, _, rfl⟩)) (hb hby d1_11) hr), hrun, hended, _, _, rfl, ?_, ⟨_, rfl⟩, hW, hsame.mono (by decide) (by decide)⟩
    show Q1 Z x y h0 n0 _ s₁.heap _
    rw [e0]
    exact ⟨by unfold own_min; rw [if_neg hc3], N0, rfl⟩

theorem d2_0 : decode prog_32_method_14_code 0 = .ok (.aload_n 0, 1) := by decide +kernel
theorem d2_1 : decode prog_32_method_14_code 1 = .ok (.getfield 22, 3) := by decide +kernel
theorem d2_4 : decode prog_32_method_14_code 4 = .ok (.lload_n 1, 1) := by decide +kernel
theorem d2_5 : decode prog_32_method_14_code 5 = .ok (.aload_n 0, 1) := by decide +kernel
theorem d2_6 : decode prog_32_method_14_code 6 = .ok (.getfield 16, 3) := by decide +kernel
theorem d2_9 : decode prog_32_method_14_code 9 = .ok (.lushr, 1) := by decide +kernel
theorem d2_10 : decode prog_32_method_14_code 10 = .ok (.l2i, 1) := by decide +kernel
theorem d2_11 : decode prog_32_method_14_code 11 = .ok (.aaload, 1) := by decide +kernel
theorem d2_12 : decode prog_32_method_14_code 12 = .ok (.areturn, 1) := by decide +kernel
theorem pn2 : plainName "com/example/rarebit/rarebit/util/WordArray" = true := by first | (simp [plainName, overriddenIn]; done) | decide +kernel
theorem ef2 (m : MethodId) (x0 : Addr) (x1 : Int64) : entryFrame m #[(.ref x0), (.long x1)] 3 = mkF m 0 #[.val (.ref x0), .val (.long x1), .second] [] := by first | (simp [entryFrame, mkF, argsToLocals, Value.category]; done) | rfl
def Q2 (Z : State) (a : Addr) (ps : Addr) (b : Addr) (clp : Cell) (sN : Nat) (iN : Nat) (h0 : Heap) (n0 : Nat) (v : Option Value) (h : Heap) (L : List Loc) : Prop := v = some (.ref b) ∧ Fr n0 L ∧ h = h0
set_option maxRecDepth 65536 in
set_option maxHeartbeats 40000000 in
theorem rm2 (l : Launch) (Z : State) (a0 : Array Value) (hw : ∀ d ∈ tables_1, d.before a0 Z = true) (ws : List Jvm.Cond) (a : Addr) (ps : Addr) (b : Addr) (clp : Cell) (sN : Nat) (iN : Nat) (h0 : Heap) (n0 : Nat) (Z0 : n0 ≤ h0.size) (F_s : Fld Z h0 a "com/example/rarebit/rarebit/util/WordArray" "pageShift" "I" (.int (own_i sN))) (F_p : Fld Z h0 a "com/example/rarebit/rarebit/util/WordArray" "pages" "[[J" (.ref ps)) (A_p : Arr Z h0 ps clp (.array .long)) (hin : iN / 2 ^ sN < clp.slots.size) (hat : clp.slots[iN / 2 ^ sN]? = some (.ref b)) (hs : sN < 8) (hi : iN < 17) :
    MetFree l (⟨"com/example/rarebit/rarebit/util/WordArray", "page", "(J)[J"⟩ : MethodName) (head1 (Jvm.Cond.code (⟨"com/example/rarebit/rarebit/util/WordArray", "page", "(J)[J"⟩ : MethodName) prog_32_method_14_code 3 (some (.array .long)) :: ws) ({ frames := 0, cells := 0, slots := 0, locals := 0 } : Room)) (fun aq Uq => aq = #[(.ref a), (.long (own_l iN))] ∧ Z.Warmed39 Uq.vm ∧ Uq.heap = h0) (fun _ _ _ _ _ => True) (fun _ Uq oq Uq' => ∃ vq Lq, oq = .returned vq ∧ Q2 Z a ps b clp sN iN h0 n0 vq Uq'.heap Lq ∧ FrameEnd Uq oq Uq' Lq ({ frames := 0, cells := 0, slots := 0, locals := 0 } : Room).cells ({ frames := 0, cells := 0, slots := 0, locals := 0 } : Room).slots) := by
  refine MetFree.of_bodySF (plainFor_of_name pn2) hisR ?_
  intro p e s m args below meth c s₁ Bd hml0 hP hK
  obtain ⟨rfl, hZ, hh⟩ := hP
  have hx := Bd.exec
  have hby := Bd.bytes
  have hml : c.maxLocals = 3 := hml0
  have hown : s.vm.findClass "com/example/rarebit/rarebit/util/WordArray" = some m.cls := findClass_of_methodNamed Bd.named
  have hnm := (name_of_methodNamed Bd.named Bd.method).1
  have X0 : Stand p l e ({ frames := 0, cells := 0, slots := 0, locals := 0 } : Room) s m #[(.ref a), (.long (own_l iN))] below meth c s₁ [] 0 0 := Stand.of_body Bd
  have e0 : s₁.heap = h0 := by rw [← hh, Bd.state]; rfl
  have N0 := Fr.nil n0
  obtain ⟨A, hA⟩ : ∃ A, A = s₁.setTop (entryFrame m #[(.ref a), (.long (own_l iN))] 3) := ⟨_, rfl⟩
  rw [← hA]
  have g0 : Gz p.tables e below A s₁ (mkF m 0 #[.val (.ref a), .val (.long (own_l iN)), .second] []) := fun tq kq => by rw [hA]; exact castTop (ef2 m a (own_l iN)) kq
  have g1 : Gz p.tables e below A s₁ (mkF m 1 #[.val (.ref a), .val (.long (own_l iN)), .second] [(.ref a)]) := fun tq kq => g0 tq (XS.aloadN X0.here hx rfl (hb hby d2_0) rfl rfl kq)
  obtain ⟨T2, X2, e2, st2⟩ := getF X0 hx hZ hown (host := "") (Or.inl (hw _ (List.mem_of_getElem? (i := 16) rfl))) Via.refl e0 F_p (g := (mkF m 1 #[.val (.ref a), .val (.long (own_l iN)), .second] [(.ref a)])) rfl rfl (hb hby d2_1)
  have g3 : Gz p.tables e below A T2 (mkF m 4 #[.val (.ref a), .val (.long (own_l iN)), .second] [(.ref ps)]) := fun tq kq => g1 tq (st2 tq kq)
  have g4 : Gz p.tables e below A T2 (mkF m 5 #[.val (.ref a), .val (.long (own_l iN)), .second] [(.long (own_l iN)), (.ref ps)]) := fun tq kq => g3 tq (XS.lloadN X2.here hx rfl (hb hby d2_4) rfl kq)
  have g5 : Gz p.tables e below A T2 (mkF m 6 #[.val (.ref a), .val (.long (own_l iN)), .second] [(.ref a), (.long (own_l iN)), (.ref ps)]) := fun tq kq => g4 tq (XS.aloadN X2.here hx rfl (hb hby d2_5) rfl rfl kq)
  obtain ⟨T6, X6, e6, st6⟩ := getF X2 hx hZ hown (host := "") (Or.inl (hw _ (List.mem_of_getElem? (i := 12) rfl))) Via.refl e2 F_s (g := (mkF m 6 #[.val (.ref a), .val (.long (own_l iN)), .second] [(.ref a), (.long (own_l iN)), (.ref ps)])) rfl rfl (hb hby d2_6)
  have g7 : Gz p.tables e below A T6 (mkF m 9 #[.val (.ref a), .val (.long (own_l iN)), .second] [(.int (own_i sN)), (.long (own_l iN)), (.ref ps)]) := fun tq kq => g5 tq (st6 tq kq)
  have g8 : Gz p.tables e below A T6 (mkF m 10 #[.val (.ref a), .val (.long (own_l iN)), .second] [(.long (((own_l iN).toUInt64 >>> ((own_i sN) &&& 0x3f).toInt64.toUInt64).toInt64)), (.ref ps)]) := fun tq kq => g7 tq (XS.lushr X6.here hx rfl (hb hby d2_9) rfl kq)
  have g9 : Gz p.tables e below A T6 (mkF m 11 #[.val (.ref a), .val (.long (own_l iN)), .second] [(.int ((((own_l iN).toUInt64 >>> ((own_i sN) &&& 0x3f).toInt64.toUInt64).toInt64).toInt32)), (.ref ps)]) := fun tq kq => g8 tq (XS.l2i X6.here hx rfl (hb hby d2_10) rfl kq)
  have hn10 : ((((own_l iN).toUInt64 >>> ((own_i sN) &&& 0x3f).toInt64.toUInt64).toInt64).toInt32) = (own_i (iN / 2 ^ sN)) := own_f8 ⟨sN, hs⟩ ⟨iN, hi⟩
  rw [hn10] at g9
  obtain ⟨j1, j2⟩ := own_ix (iN / 2 ^ sN) (by have := Nat.div_le_self iN (2 ^ sN); omega)
  have g11 : Gz p.tables e below A T6 (mkF m 12 #[.val (.ref a), .val (.long (own_l iN)), .second] [(.ref b)]) := fun tq kq => g9 tq (X6.aaload hx (j := own_i (iN / 2 ^ sN)) (v := .ref b) (by rw [e6]; exact A_p.1) (State.isArrayOf_alike hZ.alike A_p.2.1) rfl A_p.2.2 (fun z => z.elim j1 (fun z => absurd hin (Nat.not_lt.mpr (j2 ▸ z)))) (by rw [j2]; exact hat) (g := (mkF m 11 #[.val (.ref a), .val (.long (own_l iN)), .second] [(.int (own_i (iN / 2 ^ sN))), (.ref ps)])) rfl rfl (hb hby d2_11) _ kq)
  obtain ⟨fs, hr, hrun, hended, hW, hsame⟩ := X6.leave (v := some (.ref b)) (fun h => by rw [Bd.returns] at h; cases h)
  refine ⟨_, _, g11 _ (retOut X6 hx Bd.returns rfl (Or.inr (Or.inr (Or.inr (Or.inr ⟨rfl, rfl, rfl⟩)))) (hb hby d2_12) hr), hrun, hended, _, _, rfl, ?_, ⟨_, rfl⟩, hW, hsame.mono (by decide) (by decide)⟩
  show Q2 Z a ps b clp sN iN h0 n0 _ T6.heap _
  rw [e6]
  exact ⟨rfl, N0, rfl⟩

theorem d3_0 : decode prog_32_method_15_code 0 = .ok (.lload_n 1, 1) := by decide +kernel
theorem d3_1 : decode prog_32_method_15_code 1 = .ok (.l2i, 1) := by decide +kernel
theorem d3_2 : decode prog_32_method_15_code 2 = .ok (.iconst 1, 1) := by decide +kernel
theorem d3_3 : decode prog_32_method_15_code 3 = .ok (.aload_n 0, 1) := by decide +kernel
theorem d3_4 : decode prog_32_method_15_code 4 = .ok (.getfield 16, 3) := by decide +kernel
theorem d3_7 : decode prog_32_method_15_code 7 = .ok (.ishl, 1) := by decide +kernel
theorem d3_8 : decode prog_32_method_15_code 8 = .ok (.iconst 1, 1) := by decide +kernel
theorem d3_9 : decode prog_32_method_15_code 9 = .ok (.isub, 1) := by decide +kernel
theorem d3_10 : decode prog_32_method_15_code 10 = .ok (.iand, 1) := by decide +kernel
theorem d3_11 : decode prog_32_method_15_code 11 = .ok (.ireturn, 1) := by decide +kernel
theorem pn3 : plainName "com/example/rarebit/rarebit/util/WordArray" = true := by first | (simp [plainName, overriddenIn]; done) | decide +kernel
theorem ef3 (m : MethodId) (x0 : Addr) (x1 : Int64) : entryFrame m #[(.ref x0), (.long x1)] 3 = mkF m 0 #[.val (.ref x0), .val (.long x1), .second] [] := by first | (simp [entryFrame, mkF, argsToLocals, Value.category]; done) | rfl
def Q3 (Z : State) (a : Addr) (sN : Nat) (iN : Nat) (h0 : Heap) (n0 : Nat) (v : Option Value) (h : Heap) (L : List Loc) : Prop := v = some (.int (own_i (iN % 2 ^ sN))) ∧ Fr n0 L ∧ h = h0
set_option maxRecDepth 65536 in
set_option maxHeartbeats 40000000 in
theorem rm3 (l : Launch) (Z : State) (a0 : Array Value) (hw : ∀ d ∈ tables_1, d.before a0 Z = true) (ws : List Jvm.Cond) (a : Addr) (sN : Nat) (iN : Nat) (h0 : Heap) (n0 : Nat) (Z0 : n0 ≤ h0.size) (F_s : Fld Z h0 a "com/example/rarebit/rarebit/util/WordArray" "pageShift" "I" (.int (own_i sN))) (hs : sN < 8) (hi : iN < 17) :
    MetFree l (⟨"com/example/rarebit/rarebit/util/WordArray", "slot", "(J)I"⟩ : MethodName) (head1 (Jvm.Cond.code (⟨"com/example/rarebit/rarebit/util/WordArray", "slot", "(J)I"⟩ : MethodName) prog_32_method_15_code 3 (some .int) :: ws) ({ frames := 0, cells := 0, slots := 0, locals := 0 } : Room)) (fun aq Uq => aq = #[(.ref a), (.long (own_l iN))] ∧ Z.Warmed39 Uq.vm ∧ Uq.heap = h0) (fun _ _ _ _ _ => True) (fun _ Uq oq Uq' => ∃ vq Lq, oq = .returned vq ∧ Q3 Z a sN iN h0 n0 vq Uq'.heap Lq ∧ FrameEnd Uq oq Uq' Lq ({ frames := 0, cells := 0, slots := 0, locals := 0 } : Room).cells ({ frames := 0, cells := 0, slots := 0, locals := 0 } : Room).slots) := by
  refine MetFree.of_bodySF (plainFor_of_name pn3) hisR ?_
  intro p e s m args below meth c s₁ Bd hml0 hP hK
  obtain ⟨rfl, hZ, hh⟩ := hP
  have hx := Bd.exec
  have hby := Bd.bytes
  have hml : c.maxLocals = 3 := hml0
  have hown : s.vm.findClass "com/example/rarebit/rarebit/util/WordArray" = some m.cls := findClass_of_methodNamed Bd.named
  have hnm := (name_of_methodNamed Bd.named Bd.method).1
  have X0 : Stand p l e ({ frames := 0, cells := 0, slots := 0, locals := 0 } : Room) s m #[(.ref a), (.long (own_l iN))] below meth c s₁ [] 0 0 := Stand.of_body Bd
  have e0 : s₁.heap = h0 := by rw [← hh, Bd.state]; rfl
  have N0 := Fr.nil n0
  obtain ⟨A, hA⟩ : ∃ A, A = s₁.setTop (entryFrame m #[(.ref a), (.long (own_l iN))] 3) := ⟨_, rfl⟩
  rw [← hA]
  have g0 : Gz p.tables e below A s₁ (mkF m 0 #[.val (.ref a), .val (.long (own_l iN)), .second] []) := fun tq kq => by rw [hA]; exact castTop (ef3 m a (own_l iN)) kq
  have g1 : Gz p.tables e below A s₁ (mkF m 1 #[.val (.ref a), .val (.long (own_l iN)), .second] [(.long (own_l iN))]) := fun tq kq => g0 tq (XS.lloadN X0.here hx rfl (hb hby d3_0) rfl kq)
  have g2 : Gz p.tables e below A s₁ (mkF m 2 #[.val (.ref a), .val (.long (own_l iN)), .second] [(.int ((own_l iN).toInt32))]) := fun tq kq => g1 tq (XS.l2i X0.here hx rfl (hb hby d3_1) rfl kq)
  have g3 : Gz p.tables e below A s₁ (mkF m 3 #[.val (.ref a), .val (.long (own_l iN)), .second] [(.int (1 : Int32)), (.int ((own_l iN).toInt32))]) := fun tq kq => g2 tq (XS.iconst X0.here hx rfl (hb hby d3_2) kq)
  have g4 : Gz p.tables e below A s₁ (mkF m 4 #[.val (.ref a), .val (.long (own_l iN)), .second] [(.ref a), (.int (1 : Int32)), (.int ((own_l iN).toInt32))]) := fun tq kq => g3 tq (XS.aloadN X0.here hx rfl (hb hby d3_3) rfl rfl kq)
  obtain ⟨T5, X5, e5, st5⟩ := getF X0 hx hZ hown (host := "") (Or.inl (hw _ (List.mem_of_getElem? (i := 12) rfl))) Via.refl e0 F_s (g := (mkF m 4 #[.val (.ref a), .val (.long (own_l iN)), .second] [(.ref a), (.int (1 : Int32)), (.int ((own_l iN).toInt32))])) rfl rfl (hb hby d3_4)
  have g6 : Gz p.tables e below A T5 (mkF m 7 #[.val (.ref a), .val (.long (own_l iN)), .second] [(.int (own_i sN)), (.int (1 : Int32)), (.int ((own_l iN).toInt32))]) := fun tq kq => g4 tq (st5 tq kq)
  have g7 : Gz p.tables e below A T5 (mkF m 8 #[.val (.ref a), .val (.long (own_l iN)), .second] [(.int ((1 : Int32) <<< ((own_i sN) &&& 31))), (.int ((own_l iN).toInt32))]) := fun tq kq => g6 tq (XS.ishl X5.here hx rfl (hb hby d3_7) rfl kq)
  have g8 : Gz p.tables e below A T5 (mkF m 9 #[.val (.ref a), .val (.long (own_l iN)), .second] [(.int (1 : Int32)), (.int ((1 : Int32) <<< ((own_i sN) &&& 31))), (.int ((own_l iN).toInt32))]) := fun tq kq => g7 tq (XS.iconst X5.here hx rfl (hb hby d3_8) kq)
  have g9 : Gz p.tables e below A T5 (mkF m 10 #[.val (.ref a), .val (.long (own_l iN)), .second] [(.int (((1 : Int32) <<< ((own_i sN) &&& 31)) - (1 : Int32))), (.int ((own_l iN).toInt32))]) := fun tq kq => g8 tq (XS.isub X5.here hx rfl (hb hby d3_9) rfl kq)
  have g10 : Gz p.tables e below A T5 (mkF m 11 #[.val (.ref a), .val (.long (own_l iN)), .second] [(.int (((own_l iN).toInt32) &&& (((1 : Int32) <<< ((own_i sN) &&& 31)) - (1 : Int32))))]) := fun tq kq => g9 tq (XS.iand X5.here hx rfl (hb hby d3_10) rfl kq)
  have hn11 : (((own_l iN).toInt32) &&& (((1 : Int32) <<< ((own_i sN) &&& 31)) - (1 : Int32))) = (own_i (iN % 2 ^ sN)) := own_f9 ⟨sN, hs⟩ ⟨iN, hi⟩
  rw [hn11] at g10
  obtain ⟨fs, hr, hrun, hended, hW, hsame⟩ := X5.leave (v := some (.int (own_i (iN % 2 ^ sN)))) (fun h => by rw [Bd.returns] at h; cases h)
  refine ⟨_, _, g10 _ (retOut X5 hx Bd.returns rfl (Or.inl ⟨rfl, Or.inl rfl, _, rfl⟩) (hb hby d3_11) hr), hrun, hended, _, _, rfl, ?_, ⟨_, rfl⟩, hW, hsame.mono (by decide) (by decide)⟩
  show Q3 Z a sN iN h0 n0 _ T5.heap _
  rw [e5]
  exact ⟨rfl, N0, rfl⟩

theorem d4_0 : decode prog_32_method_5_code 0 = .ok (.aload_n 0, 1) := by decide +kernel
theorem d4_1 : decode prog_32_method_5_code 1 = .ok (.getfield 32, 3) := by decide +kernel
theorem d4_4 : decode prog_32_method_5_code 4 = .ok (.ifnull 11, 3) := by decide +kernel
theorem d4_7 : decode prog_32_method_5_code 7 = .ok (.aload_n 0, 1) := by decide +kernel
theorem d4_8 : decode prog_32_method_5_code 8 = .ok (.getfield 32, 3) := by decide +kernel
theorem d4_11 : decode prog_32_method_5_code 11 = .ok (.lload_n 1, 1) := by decide +kernel
theorem d4_12 : decode prog_32_method_5_code 12 = .ok (.l2i, 1) := by decide +kernel
theorem d4_13 : decode prog_32_method_5_code 13 = .ok (.laload, 1) := by decide +kernel
theorem d4_14 : decode prog_32_method_5_code 14 = .ok (.lreturn, 1) := by decide +kernel
theorem d4_15 : decode prog_32_method_5_code 15 = .ok (.aload_n 0, 1) := by decide +kernel
theorem d4_16 : decode prog_32_method_5_code 16 = .ok (.lload_n 1, 1) := by decide +kernel
theorem d4_17 : decode prog_32_method_5_code 17 = .ok (.invokevirtual 39, 3) := by decide +kernel
theorem d4_20 : decode prog_32_method_5_code 20 = .ok (.aload_n 0, 1) := by decide +kernel
theorem d4_21 : decode prog_32_method_5_code 21 = .ok (.lload_n 1, 1) := by decide +kernel
theorem d4_22 : decode prog_32_method_5_code 22 = .ok (.invokevirtual 43, 3) := by decide +kernel
theorem d4_25 : decode prog_32_method_5_code 25 = .ok (.laload, 1) := by decide +kernel
theorem d4_26 : decode prog_32_method_5_code 26 = .ok (.lreturn, 1) := by decide +kernel
theorem pn4 : plainName "com/example/rarebit/rarebit/util/WordArray" = true := by first | (simp [plainName, overriddenIn]; done) | decide +kernel
theorem pd4_0 : parseMethodDescriptor "(J)[J" = some ⟨[.long], some (.array .long)⟩ := by decide +kernel
theorem pd4_1 : parseMethodDescriptor "(J)I" = some ⟨[.long], some .int⟩ := by decide +kernel
theorem ef4 (m : MethodId) (x0 : Addr) (x1 : Int64) : entryFrame m #[(.ref x0), (.long x1)] 3 = mkF m 0 #[.val (.ref x0), .val (.long x1), .second] [] := by first | (simp [entryFrame, mkF, argsToLocals, Value.category]; done) | rfl
def Q4 (Z : State) (a : Addr) (ps : Addr) (sN : Nat) (iN : Nat) (b : Addr) (t : Nat) (x : Int64) (h0 : Heap) (n0 : Nat) (v : Option Value) (h : Heap) (L : List Loc) : Prop := v = some (.long x) ∧ Fr n0 L ∧ h = h0
set_option maxRecDepth 65536 in
set_option maxHeartbeats 40000000 in
theorem rm4 (l : Launch) (Z : State) (a0 : Array Value) (hw : ∀ d ∈ tables_1, d.before a0 Z = true) (ws : List Jvm.Cond) (a : Addr) (ps : Addr) (sN : Nat) (iN : Nat) (b : Addr) (t : Nat) (x : Int64) (h0 : Heap) (n0 : Nat) (Z0 : n0 ≤ h0.size) (H_at : own_At Z h0 a ps sN iN b t) (H_w : own_Wd Z h0 b t x) (hs : sN < 8) (hi16 : iN < 16) :
    MetFree l (⟨"com/example/rarebit/rarebit/util/WordArray", "get", "(J)J"⟩ : MethodName) (head1 (Jvm.Cond.code (⟨"com/example/rarebit/rarebit/util/WordArray", "get", "(J)J"⟩ : MethodName) prog_32_method_5_code 3 (some .long) :: ws) ({ frames := 1, cells := 0, slots := 0, locals := 15 } : Room)) (fun aq Uq => aq = #[(.ref a), (.long (own_l iN))] ∧ Z.Warmed39 Uq.vm ∧ Uq.heap = h0) (fun _ _ _ _ _ => True) (fun _ Uq oq Uq' => ∃ vq Lq, oq = .returned vq ∧ Q4 Z a ps sN iN b t x h0 n0 vq Uq'.heap Lq ∧ FrameEnd Uq oq Uq' Lq ({ frames := 1, cells := 0, slots := 0, locals := 15 } : Room).cells ({ frames := 1, cells := 0, slots := 0, locals := 15 } : Room).slots) := by
  refine MetFree.of_bodySF (plainFor_of_name pn4) hisR ?_
  intro p e s m args below meth c s₁ Bd hml0 hP hK
  obtain ⟨rfl, hZ, hh⟩ := hP
  have hx := Bd.exec
  have hby := Bd.bytes
  have hml : c.maxLocals = 3 := hml0
  have hown : s.vm.findClass "com/example/rarebit/rarebit/util/WordArray" = some m.cls := findClass_of_methodNamed Bd.named
  have hnm := (name_of_methodNamed Bd.named Bd.method).1
  have X0 : Stand p l e ({ frames := 1, cells := 0, slots := 0, locals := 15 } : Room) s m #[(.ref a), (.long (own_l iN))] below meth c s₁ [] 0 0 := Stand.of_body Bd
  have e0 : s₁.heap = h0 := by rw [← hh, Bd.state]; rfl
  have N0 := Fr.nil n0
  obtain ⟨A, hA⟩ : ∃ A, A = s₁.setTop (entryFrame m #[(.ref a), (.long (own_l iN))] 3) := ⟨_, rfl⟩
  rw [← hA]
  have g0 : Gz p.tables e below A s₁ (mkF m 0 #[.val (.ref a), .val (.long (own_l iN)), .second] []) := fun tq kq => by rw [hA]; exact castTop (ef4 m a (own_l iN)) kq
  obtain ⟨E_a, F_s, H_m⟩ := H_at
  obtain ⟨clw, A_w, hlt, hgv⟩ := H_w
  have hi : iN < 17 := by omega
  rcases H_m with ⟨F_o, ht⟩ | ⟨F_o, F_p, ht, clp, A_p, hinp, hatp⟩
  · subst ht
    have g1 : Gz p.tables e below A s₁ (mkF m 1 #[.val (.ref a), .val (.long (own_l iN)), .second] [(.ref a)]) := fun tq kq => g0 tq (XS.aloadN X0.here hx rfl (hb hby d4_0) rfl rfl kq)
    obtain ⟨T2, X2, e2, st2⟩ := getF X0 hx hZ hown (host := "") (Or.inl (hw _ (List.mem_of_getElem? (i := 24) rfl))) Via.refl e0 F_o (g := (mkF m 1 #[.val (.ref a), .val (.long (own_l iN)), .second] [(.ref a)])) rfl rfl (hb hby d4_1)
    have g3 : Gz p.tables e below A T2 (mkF m 4 #[.val (.ref a), .val (.long (own_l iN)), .second] [(.ref b)]) := fun tq kq => g1 tq (st2 tq kq)
    have g4 : Gz p.tables e below A T2 (mkF m 7 #[.val (.ref a), .val (.long (own_l iN)), .second] []) := fun tq kq => g3 tq (XS.ifnullNo X2.here hx rfl (hb hby d4_4) rfl kq)
    have g5 : Gz p.tables e below A T2 (mkF m 8 #[.val (.ref a), .val (.long (own_l iN)), .second] [(.ref a)]) := fun tq kq => g4 tq (XS.aloadN X2.here hx rfl (hb hby d4_7) rfl rfl kq)
    obtain ⟨T6, X6, e6, st6⟩ := getF X2 hx hZ hown (host := "") (Or.inl (hw _ (List.mem_of_getElem? (i := 24) rfl))) Via.refl e2 F_o (g := (mkF m 8 #[.val (.ref a), .val (.long (own_l iN)), .second] [(.ref a)])) rfl rfl (hb hby d4_8)
    have g7 : Gz p.tables e below A T6 (mkF m 11 #[.val (.ref a), .val (.long (own_l iN)), .second] [(.ref b)]) := fun tq kq => g5 tq (st6 tq kq)
    have g8 : Gz p.tables e below A T6 (mkF m 12 #[.val (.ref a), .val (.long (own_l iN)), .second] [(.long (own_l iN)), (.ref b)]) := fun tq kq => g7 tq (XS.lloadN X6.here hx rfl (hb hby d4_11) rfl kq)
    have g9 : Gz p.tables e below A T6 (mkF m 13 #[.val (.ref a), .val (.long (own_l iN)), .second] [(.int ((own_l iN).toInt32)), (.ref b)]) := fun tq kq => g8 tq (XS.l2i X6.here hx rfl (hb hby d4_12) rfl kq)
    have hn10 : ((own_l iN).toInt32) = (own_i iN) := own_f10 ⟨iN, hi⟩
    rw [hn10] at g9
    obtain ⟨j1, j2⟩ := own_ix (iN) (by omega)
    have g11 : Gz p.tables e below A T6 (mkF m 14 #[.val (.ref a), .val (.long (own_l iN)), .second] [(.long x)]) := fun tq kq => g9 tq (X6.laload hx (j := own_i iN) (v := .long x) (by rw [e6]; exact A_w.1) (State.isArrayOf_alike hZ.alike A_w.2.1) A_w.2.2 (fun z => z.elim j1 (fun z => absurd hlt (Nat.not_lt.mpr (j2 ▸ z)))) (by rw [j2]; exact hgv) (g := (mkF m 13 #[.val (.ref a), .val (.long (own_l iN)), .second] [(.int (own_i iN)), (.ref b)])) rfl rfl (hb hby d4_13) _ kq)
    obtain ⟨fs, hr, hrun, hended, hW, hsame⟩ := X6.leave (v := some (.long x)) (fun h => by rw [Bd.returns] at h; cases h)
    refine ⟨_, _, g11 _ (retOut X6 hx Bd.returns rfl (Or.inr (Or.inl ⟨rfl, rfl, _, rfl⟩)) (hb hby d4_14) hr), hrun, hended, _, _, rfl, ?_, ⟨_, rfl⟩, hW, hsame.mono (by decide) (by decide)⟩
    show Q4 Z a ps sN iN b iN x h0 n0 _ T6.heap _
    rw [e6]
    exact ⟨rfl, N0, rfl⟩
  · subst ht
    have g12 : Gz p.tables e below A s₁ (mkF m 1 #[.val (.ref a), .val (.long (own_l iN)), .second] [(.ref a)]) := fun tq kq => g0 tq (XS.aloadN X0.here hx rfl (hb hby d4_0) rfl rfl kq)
    obtain ⟨T13, X13, e13, st13⟩ := getF X0 hx hZ hown (host := "") (Or.inl (hw _ (List.mem_of_getElem? (i := 24) rfl))) Via.refl e0 F_o (g := (mkF m 1 #[.val (.ref a), .val (.long (own_l iN)), .second] [(.ref a)])) rfl rfl (hb hby d4_1)
    have g14 : Gz p.tables e below A T13 (mkF m 4 #[.val (.ref a), .val (.long (own_l iN)), .second] [.null]) := fun tq kq => g12 tq (st13 tq kq)
    have g15 : Gz p.tables e below A T13 (mkF m 15 #[.val (.ref a), .val (.long (own_l iN)), .second] []) := fun tq kq => g14 tq (XS.ifnullYes X13.here hx rfl (pc0 := 4) (pc' := 15) rfl (hb hby d4_4) rfl (by decide) (by decide) kq)
    have g16 : Gz p.tables e below A T13 (mkF m 16 #[.val (.ref a), .val (.long (own_l iN)), .second] [(.ref a)]) := fun tq kq => g15 tq (XS.aloadN X13.here hx rfl (hb hby d4_15) rfl rfl kq)
    have g17 : Gz p.tables e below A T13 (mkF m 17 #[.val (.ref a), .val (.long (own_l iN)), .second] [(.long (own_l iN)), (.ref a)]) := fun tq kq => g16 tq (XS.lloadN X13.here hx rfl (hb hby d4_16) rfl kq)
    obtain ⟨cq18, q18, q18'⟩ := E_a.cell
    obtain ⟨_, _, ⟨T18, L18, k18, n18⟩, -, X18, ⟨Lc18, hQ18, l18, y18, z18⟩, st18⟩ := X13.privateBack hx (y := (⟨"com/example/rarebit/rarebit/util/WordArray", "page", "(J)[J"⟩ : MethodName)) hown (mvT hZ (hw _ (List.mem_of_getElem? (i := 43) rfl))) (mvT hZ (hw _ (List.mem_of_getElem? (i := 44) rfl))) (own_selp (y := (⟨"com/example/rarebit/rarebit/util/WordArray", "page", "(J)[J"⟩ : MethodName)) (z := (⟨"com/example/rarebit/rarebit/util/WordArray", "set", "(JJ)V"⟩ : MethodName)) (mvT hZ (hw _ (List.mem_of_getElem? (i := 29) rfl))) rfl (Cond.privateMethod_at (mvP hZ (hw _ (List.mem_of_getElem? (i := 45) rfl)) (args := #[]))) (mvT hZ (hw _ (List.mem_of_getElem? (i := 44) rfl))) (by decide)) (Cond.privateMethod_at (mvP hZ (hw _ (List.mem_of_getElem? (i := 45) rfl)) (args := #[]))) (mvT hZ (hw _ (List.mem_of_getElem? (i := 46) rfl))) (by decide) (backOf (W := 0) (rm2 l Z a0 hw [] a ps b clp sN iN h0 n0 Z0 F_s F_p A_p hinp hatp hs hi) hZ (hw _ (List.mem_of_getElem? (i := 46) rfl)) (hw _ (List.mem_of_getElem? (i := 3) rfl)) (by decide) (by decide)) (g := (mkF m 17 #[.val (.ref a), .val (.long (own_l iN)), .second] [(.long (own_l iN)), (.ref a)])) rfl (by rw [hml]; rfl) (Steps.refl _) (a := a) (by rw [e13]; exact q18) q18' (argsL := [(.long (own_l iN))]) (rest := []) (lenOf pd4_0 rfl) rfl (by show 2 * 0 + _ ≤ _; exact Nat.le_of_eq rfl) (hb hby d4_17) (fun _ _ => ⟨rfl, e13, (by decide : 0 + 0 ≤ _), (by decide : 0 + 0 ≤ _)⟩)
    dsimp only [Pt.U, Pt.locs, Pt.cells, Pt.slots] at X18 l18 y18 z18 st18 hQ18
    subst l18 y18 z18
    obtain ⟨rfl, N18q, e18⟩ := hQ18
    have N18 := Fr.app N0 N18q
    have g19 : Gz p.tables e below A T18 (mkF m 20 #[.val (.ref a), .val (.long (own_l iN)), .second] [(.ref b)]) := fun tq kq => g17 tq (st18.trans kq)
    have g20 : Gz p.tables e below A T18 (mkF m 21 #[.val (.ref a), .val (.long (own_l iN)), .second] [(.ref a), (.ref b)]) := fun tq kq => g19 tq (XS.aloadN X18.here hx rfl (hb hby d4_20) rfl rfl kq)
    have g21 : Gz p.tables e below A T18 (mkF m 22 #[.val (.ref a), .val (.long (own_l iN)), .second] [(.long (own_l iN)), (.ref a), (.ref b)]) := fun tq kq => g20 tq (XS.lloadN X18.here hx rfl (hb hby d4_21) rfl kq)
    obtain ⟨cq22, q22, q22'⟩ := E_a.cell
    obtain ⟨_, _, ⟨T22, L22, k22, n22⟩, -, X22, ⟨Lc22, hQ22, l22, y22, z22⟩, st22⟩ := X18.privateBack hx (y := (⟨"com/example/rarebit/rarebit/util/WordArray", "slot", "(J)I"⟩ : MethodName)) hown (mvT hZ (hw _ (List.mem_of_getElem? (i := 47) rfl))) (mvT hZ (hw _ (List.mem_of_getElem? (i := 48) rfl))) (own_selp (y := (⟨"com/example/rarebit/rarebit/util/WordArray", "slot", "(J)I"⟩ : MethodName)) (z := (⟨"com/example/rarebit/rarebit/util/WordArray", "set", "(JJ)V"⟩ : MethodName)) (mvT hZ (hw _ (List.mem_of_getElem? (i := 29) rfl))) rfl (Cond.privateMethod_at (mvP hZ (hw _ (List.mem_of_getElem? (i := 49) rfl)) (args := #[]))) (mvT hZ (hw _ (List.mem_of_getElem? (i := 48) rfl))) (by decide)) (Cond.privateMethod_at (mvP hZ (hw _ (List.mem_of_getElem? (i := 49) rfl)) (args := #[]))) (mvT hZ (hw _ (List.mem_of_getElem? (i := 50) rfl))) (by decide) (backOf (W := 1) (rm3 l Z a0 hw [] a sN iN h0 n0 Z0 F_s hs hi) hZ (hw _ (List.mem_of_getElem? (i := 50) rfl)) (hw _ (List.mem_of_getElem? (i := 3) rfl)) (by decide) (by decide)) (g := (mkF m 22 #[.val (.ref a), .val (.long (own_l iN)), .second] [(.long (own_l iN)), (.ref a), (.ref b)])) rfl (by rw [hml]; rfl) (Steps.refl _) (a := a) (by rw [e18]; exact q22) q22' (argsL := [(.long (own_l iN))]) (rest := [(.ref b)]) (lenOf pd4_1 rfl) rfl (by show 2 * 0 + _ ≤ _; exact Nat.le_of_eq rfl) (hb hby d4_22) (fun _ _ => ⟨rfl, e18, (by decide : 0 + 0 ≤ _), (by decide : 0 + 0 ≤ _)⟩)
    dsimp only [Pt.U, Pt.locs, Pt.cells, Pt.slots] at X22 l22 y22 z22 st22 hQ22
    subst l22 y22 z22
    obtain ⟨rfl, N22q, e22⟩ := hQ22
    have N22 := Fr.app N18 N22q
    have g23 : Gz p.tables e below A T22 (mkF m 25 #[.val (.ref a), .val (.long (own_l iN)), .second] [(.int (own_i (iN % 2 ^ sN))), (.ref b)]) := fun tq kq => g21 tq (st22.trans kq)
    obtain ⟨j1, j2⟩ := own_ix (iN % 2 ^ sN) (by have := Nat.mod_le iN (2 ^ sN); omega)
    have g24 : Gz p.tables e below A T22 (mkF m 26 #[.val (.ref a), .val (.long (own_l iN)), .second] [(.long x)]) := fun tq kq => g23 tq (X22.laload hx (j := own_i (iN % 2 ^ sN)) (v := .long x) (by rw [e22]; exact A_w.1) (State.isArrayOf_alike hZ.alike A_w.2.1) A_w.2.2 (fun z => z.elim j1 (fun z => absurd hlt (Nat.not_lt.mpr (j2 ▸ z)))) (by rw [j2]; exact hgv) (g := (mkF m 25 #[.val (.ref a), .val (.long (own_l iN)), .second] [(.int (own_i (iN % 2 ^ sN))), (.ref b)])) rfl rfl (hb hby d4_25) _ kq)
    obtain ⟨fs, hr, hrun, hended, hW, hsame⟩ := X22.leave (v := some (.long x)) (fun h => by rw [Bd.returns] at h; cases h)
    refine ⟨_, _, g24 _ (retOut X22 hx Bd.returns rfl (Or.inr (Or.inl ⟨rfl, rfl, _, rfl⟩)) (hb hby d4_26) hr), hrun, hended, _, _, rfl, ?_, ⟨_, rfl⟩, hW, hsame.mono (by decide) (by decide)⟩
    show Q4 Z a ps sN iN b (iN % 2 ^ sN) x h0 n0 _ T22.heap _
    rw [e22]
    exact ⟨rfl, N22, rfl⟩

theorem d5_0 : decode prog_32_method_6_code 0 = .ok (.aload_n 0, 1) := by decide +kernel
theorem d5_1 : decode prog_32_method_6_code 1 = .ok (.getfield 32, 3) := by decide +kernel
theorem d5_4 : decode prog_32_method_6_code 4 = .ok (.ifnull 14, 3) := by decide +kernel
theorem d5_7 : decode prog_32_method_6_code 7 = .ok (.aload_n 0, 1) := by decide +kernel
theorem d5_8 : decode prog_32_method_6_code 8 = .ok (.getfield 32, 3) := by decide +kernel
theorem d5_11 : decode prog_32_method_6_code 11 = .ok (.lload_n 1, 1) := by decide +kernel
theorem d5_12 : decode prog_32_method_6_code 12 = .ok (.l2i, 1) := by decide +kernel
theorem d5_13 : decode prog_32_method_6_code 13 = .ok (.lload_n 3, 1) := by decide +kernel
theorem d5_14 : decode prog_32_method_6_code 14 = .ok (.lastore, 1) := by decide +kernel
theorem d5_15 : decode prog_32_method_6_code 15 = .ok (.goto 15, 3) := by decide +kernel
theorem d5_18 : decode prog_32_method_6_code 18 = .ok (.aload_n 0, 1) := by decide +kernel
theorem d5_19 : decode prog_32_method_6_code 19 = .ok (.lload_n 1, 1) := by decide +kernel
theorem d5_20 : decode prog_32_method_6_code 20 = .ok (.invokevirtual 39, 3) := by decide +kernel
theorem d5_23 : decode prog_32_method_6_code 23 = .ok (.aload_n 0, 1) := by decide +kernel
theorem d5_24 : decode prog_32_method_6_code 24 = .ok (.lload_n 1, 1) := by decide +kernel
theorem d5_25 : decode prog_32_method_6_code 25 = .ok (.invokevirtual 43, 3) := by decide +kernel
theorem d5_28 : decode prog_32_method_6_code 28 = .ok (.lload_n 3, 1) := by decide +kernel
theorem d5_29 : decode prog_32_method_6_code 29 = .ok (.lastore, 1) := by decide +kernel
theorem d5_30 : decode prog_32_method_6_code 30 = .ok (.return_, 1) := by decide +kernel
theorem pn5 : plainName "com/example/rarebit/rarebit/util/WordArray" = true := by first | (simp [plainName, overriddenIn]; done) | decide +kernel
theorem pd5_0 : parseMethodDescriptor "(J)[J" = some ⟨[.long], some (.array .long)⟩ := by decide +kernel
theorem pd5_1 : parseMethodDescriptor "(J)I" = some ⟨[.long], some .int⟩ := by decide +kernel
theorem ef5 (m : MethodId) (x0 : Addr) (x1 : Int64) (x2 : Int64) : entryFrame m #[(.ref x0), (.long x1), (.long x2)] 5 = mkF m 0 #[.val (.ref x0), .val (.long x1), .second, .val (.long x2), .second] [] := by first | (simp [entryFrame, mkF, argsToLocals, Value.category]; done) | rfl
def Q5 (Z : State) (a : Addr) (ps : Addr) (sN : Nat) (iN : Nat) (b : Addr) (t : Nat) (x : Int64) (y : Int64) (h0 : Heap) (n0 : Nat) (v : Option Value) (h : Heap) (L : List Loc) : Prop := v = none ∧ Fr n0 L ∧ Wr h0 h b t (.long y)
set_option maxRecDepth 65536 in
set_option maxHeartbeats 40000000 in
theorem rm5 (l : Launch) (Z : State) (a0 : Array Value) (hw : ∀ d ∈ tables_1, d.before a0 Z = true) (ws : List Jvm.Cond) (a : Addr) (ps : Addr) (sN : Nat) (iN : Nat) (b : Addr) (t : Nat) (x : Int64) (y : Int64) (h0 : Heap) (n0 : Nat) (Z0 : n0 ≤ h0.size) (H_at : own_At Z h0 a ps sN iN b t) (H_w : own_Wd Z h0 b t x) (hs : sN < 8) (hi16 : iN < 16) (g_b : n0 ≤ b) :
    MetFree l (⟨"com/example/rarebit/rarebit/util/WordArray", "set", "(JJ)V"⟩ : MethodName) (head1 (Jvm.Cond.code (⟨"com/example/rarebit/rarebit/util/WordArray", "set", "(JJ)V"⟩ : MethodName) prog_32_method_6_code 5 none :: ws) ({ frames := 1, cells := 0, slots := 0, locals := 15 } : Room)) (fun aq Uq => aq = #[(.ref a), (.long (own_l iN)), (.long y)] ∧ Z.Warmed39 Uq.vm ∧ Uq.heap = h0) (fun _ _ _ _ _ => True) (fun _ Uq oq Uq' => ∃ vq Lq, oq = .returned vq ∧ Q5 Z a ps sN iN b t x y h0 n0 vq Uq'.heap Lq ∧ FrameEnd Uq oq Uq' Lq ({ frames := 1, cells := 0, slots := 0, locals := 15 } : Room).cells ({ frames := 1, cells := 0, slots := 0, locals := 15 } : Room).slots) := by
  refine MetFree.of_bodySF (plainFor_of_name pn5) hisR ?_
  intro p e s m args below meth c s₁ Bd hml0 hP hK
  obtain ⟨rfl, hZ, hh⟩ := hP
  have hx := Bd.exec
  have hby := Bd.bytes
  have hml : c.maxLocals = 5 := hml0
  have hown : s.vm.findClass "com/example/rarebit/rarebit/util/WordArray" = some m.cls := findClass_of_methodNamed Bd.named
  have hnm := (name_of_methodNamed Bd.named Bd.method).1
  have X0 : Stand p l e ({ frames := 1, cells := 0, slots := 0, locals := 15 } : Room) s m #[(.ref a), (.long (own_l iN)), (.long y)] below meth c s₁ [] 0 0 := Stand.of_body Bd
  have e0 : s₁.heap = h0 := by rw [← hh, Bd.state]; rfl
  have N0 := Fr.nil n0
  obtain ⟨A, hA⟩ : ∃ A, A = s₁.setTop (entryFrame m #[(.ref a), (.long (own_l iN)), (.long y)] 5) := ⟨_, rfl⟩
  rw [← hA]
  have g0 : Gz p.tables e below A s₁ (mkF m 0 #[.val (.ref a), .val (.long (own_l iN)), .second, .val (.long y), .second] []) := fun tq kq => by rw [hA]; exact castTop (ef5 m a (own_l iN) y) kq
  obtain ⟨E_a, F_s, H_m⟩ := H_at
  obtain ⟨clw, A_w, hlt, hgv⟩ := H_w
  have hi : iN < 17 := by omega
  rcases H_m with ⟨F_o, ht⟩ | ⟨F_o, F_p, ht, clp, A_p, hinp, hatp⟩
  · subst ht
    have g1 : Gz p.tables e below A s₁ (mkF m 1 #[.val (.ref a), .val (.long (own_l iN)), .second, .val (.long y), .second] [(.ref a)]) := fun tq kq => g0 tq (XS.aloadN X0.here hx rfl (hb hby d5_0) rfl rfl kq)
    obtain ⟨T2, X2, e2, st2⟩ := getF X0 hx hZ hown (host := "") (Or.inl (hw _ (List.mem_of_getElem? (i := 24) rfl))) Via.refl e0 F_o (g := (mkF m 1 #[.val (.ref a), .val (.long (own_l iN)), .second, .val (.long y), .second] [(.ref a)])) rfl rfl (hb hby d5_1)
    have g3 : Gz p.tables e below A T2 (mkF m 4 #[.val (.ref a), .val (.long (own_l iN)), .second, .val (.long y), .second] [(.ref b)]) := fun tq kq => g1 tq (st2 tq kq)
    have g4 : Gz p.tables e below A T2 (mkF m 7 #[.val (.ref a), .val (.long (own_l iN)), .second, .val (.long y), .second] []) := fun tq kq => g3 tq (XS.ifnullNo X2.here hx rfl (hb hby d5_4) rfl kq)
    have g5 : Gz p.tables e below A T2 (mkF m 8 #[.val (.ref a), .val (.long (own_l iN)), .second, .val (.long y), .second] [(.ref a)]) := fun tq kq => g4 tq (XS.aloadN X2.here hx rfl (hb hby d5_7) rfl rfl kq)
    obtain ⟨T6, X6, e6, st6⟩ := getF X2 hx hZ hown (host := "") (Or.inl (hw _ (List.mem_of_getElem? (i := 24) rfl))) Via.refl e2 F_o (g := (mkF m 8 #[.val (.ref a), .val (.long (own_l iN)), .second, .val (.long y), .second] [(.ref a)])) rfl rfl (hb hby d5_8)
    have g7 : Gz p.tables e below A T6 (mkF m 11 #[.val (.ref a), .val (.long (own_l iN)), .second, .val (.long y), .second] [(.ref b)]) := fun tq kq => g5 tq (st6 tq kq)
    have g8 : Gz p.tables e below A T6 (mkF m 12 #[.val (.ref a), .val (.long (own_l iN)), .second, .val (.long y), .second] [(.long (own_l iN)), (.ref b)]) := fun tq kq => g7 tq (XS.lloadN X6.here hx rfl (hb hby d5_11) rfl kq)
    have g9 : Gz p.tables e below A T6 (mkF m 13 #[.val (.ref a), .val (.long (own_l iN)), .second, .val (.long y), .second] [(.int ((own_l iN).toInt32)), (.ref b)]) := fun tq kq => g8 tq (XS.l2i X6.here hx rfl (hb hby d5_12) rfl kq)
    have g10 : Gz p.tables e below A T6 (mkF m 14 #[.val (.ref a), .val (.long (own_l iN)), .second, .val (.long y), .second] [(.long y), (.int ((own_l iN).toInt32)), (.ref b)]) := fun tq kq => g9 tq (XS.lloadN X6.here hx rfl (hb hby d5_13) rfl kq)
    have hn11 : ((own_l iN).toInt32) = (own_i iN) := own_f10 ⟨iN, hi⟩
    rw [hn11] at g10
    obtain ⟨j1, j2⟩ := own_ix (iN) (by omega)
    obtain ⟨T12, h12, X12, e12, W12, st12⟩ := stJ X6 hx hZ e6 A_w (j := own_i iN) (fun z => z.elim j1 (fun z => absurd hlt (Nat.not_lt.mpr (j2 ▸ z)))) (g := (mkF m 14 #[.val (.ref a), .val (.long (own_l iN)), .second, .val (.long y), .second] [(.long y), (.int (own_i iN)), (.ref b)])) rfl rfl (hb hby d5_14)
    have N12 := Fr.snoc X12 N0 g_b
    rw [j2] at W12
    have g13 : Gz p.tables e below A T12 (mkF m 15 #[.val (.ref a), .val (.long (own_l iN)), .second, .val (.long y), .second] []) := fun tq kq => g10 tq (st12 tq kq)
    have g14 : Gz p.tables e below A T12 (mkF m 30 #[.val (.ref a), .val (.long (own_l iN)), .second, .val (.long y), .second] []) := fun tq kq => g13 tq (XS.goto X12.here hx rfl (pc0 := 15) (pc' := 30) rfl (hb hby d5_15) (by decide) (by decide) kq)
    obtain ⟨fs, hr, hrun, hended, hW, hsame⟩ := X12.leave (v := none) (fun _ => rfl)
    refine ⟨_, _, g14 _ (X12.returnOut hx Bd.returns (hb hby d5_30) hr), hrun, hended, _, _, rfl, ?_, ⟨_, rfl⟩, hW, hsame.mono (by decide) (by decide)⟩
    show Q5 Z a ps sN iN b iN x y h0 n0 _ T12.heap _
    rw [e12]
    exact ⟨rfl, N12, W12⟩
  · subst ht
    have g15 : Gz p.tables e below A s₁ (mkF m 1 #[.val (.ref a), .val (.long (own_l iN)), .second, .val (.long y), .second] [(.ref a)]) := fun tq kq => g0 tq (XS.aloadN X0.here hx rfl (hb hby d5_0) rfl rfl kq)
    obtain ⟨T16, X16, e16, st16⟩ := getF X0 hx hZ hown (host := "") (Or.inl (hw _ (List.mem_of_getElem? (i := 24) rfl))) Via.refl e0 F_o (g := (mkF m 1 #[.val (.ref a), .val (.long (own_l iN)), .second, .val (.long y), .second] [(.ref a)])) rfl rfl (hb hby d5_1)
    have g17 : Gz p.tables e below A T16 (mkF m 4 #[.val (.ref a), .val (.long (own_l iN)), .second, .val (.long y), .second] [.null]) := fun tq kq => g15 tq (st16 tq kq)
    have g18 : Gz p.tables e below A T16 (mkF m 18 #[.val (.ref a), .val (.long (own_l iN)), .second, .val (.long y), .second] []) := fun tq kq => g17 tq (XS.ifnullYes X16.here hx rfl (pc0 := 4) (pc' := 18) rfl (hb hby d5_4) rfl (by decide) (by decide) kq)
    have g19 : Gz p.tables e below A T16 (mkF m 19 #[.val (.ref a), .val (.long (own_l iN)), .second, .val (.long y), .second] [(.ref a)]) := fun tq kq => g18 tq (XS.aloadN X16.here hx rfl (hb hby d5_18) rfl rfl kq)
    have g20 : Gz p.tables e below A T16 (mkF m 20 #[.val (.ref a), .val (.long (own_l iN)), .second, .val (.long y), .second] [(.long (own_l iN)), (.ref a)]) := fun tq kq => g19 tq (XS.lloadN X16.here hx rfl (hb hby d5_19) rfl kq)
    obtain ⟨cq21, q21, q21'⟩ := E_a.cell
    obtain ⟨_, _, ⟨T21, L21, k21, n21⟩, -, X21, ⟨Lc21, hQ21, l21, y21, z21⟩, st21⟩ := X16.privateBack hx (y := (⟨"com/example/rarebit/rarebit/util/WordArray", "page", "(J)[J"⟩ : MethodName)) hown (mvT hZ (hw _ (List.mem_of_getElem? (i := 43) rfl))) (mvT hZ (hw _ (List.mem_of_getElem? (i := 44) rfl))) (own_selp (y := (⟨"com/example/rarebit/rarebit/util/WordArray", "page", "(J)[J"⟩ : MethodName)) (z := (⟨"com/example/rarebit/rarebit/util/WordArray", "set", "(JJ)V"⟩ : MethodName)) (mvT hZ (hw _ (List.mem_of_getElem? (i := 29) rfl))) rfl (Cond.privateMethod_at (mvP hZ (hw _ (List.mem_of_getElem? (i := 45) rfl)) (args := #[]))) (mvT hZ (hw _ (List.mem_of_getElem? (i := 44) rfl))) (by decide)) (Cond.privateMethod_at (mvP hZ (hw _ (List.mem_of_getElem? (i := 45) rfl)) (args := #[]))) (mvT hZ (hw _ (List.mem_of_getElem? (i := 46) rfl))) (by decide) (backOf (W := 0) (rm2 l Z a0 hw [] a ps b clp sN iN h0 n0 Z0 F_s F_p A_p hinp hatp hs hi) hZ (hw _ (List.mem_of_getElem? (i := 46) rfl)) (hw _ (List.mem_of_getElem? (i := 3) rfl)) (by decide) (by decide)) (g := (mkF m 20 #[.val (.ref a), .val (.long (own_l iN)), .second, .val (.long y), .second] [(.long (own_l iN)), (.ref a)])) rfl (by rw [hml]; rfl) (Steps.refl _) (a := a) (by rw [e16]; exact q21) q21' (argsL := [(.long (own_l iN))]) (rest := []) (lenOf pd5_0 rfl) rfl (by show 2 * 0 + _ ≤ _; exact Nat.le_of_eq rfl) (hb hby d5_20) (fun _ _ => ⟨rfl, e16, (by decide : 0 + 0 ≤ _), (by decide : 0 + 0 ≤ _)⟩)
    dsimp only [Pt.U, Pt.locs, Pt.cells, Pt.slots] at X21 l21 y21 z21 st21 hQ21
    subst l21 y21 z21
    obtain ⟨rfl, N21q, e21⟩ := hQ21
    have N21 := Fr.app N0 N21q
    have g22 : Gz p.tables e below A T21 (mkF m 23 #[.val (.ref a), .val (.long (own_l iN)), .second, .val (.long y), .second] [(.ref b)]) := fun tq kq => g20 tq (st21.trans kq)
    have g23 : Gz p.tables e below A T21 (mkF m 24 #[.val (.ref a), .val (.long (own_l iN)), .second, .val (.long y), .second] [(.ref a), (.ref b)]) := fun tq kq => g22 tq (XS.aloadN X21.here hx rfl (hb hby d5_23) rfl rfl kq)
    have g24 : Gz p.tables e below A T21 (mkF m 25 #[.val (.ref a), .val (.long (own_l iN)), .second, .val (.long y), .second] [(.long (own_l iN)), (.ref a), (.ref b)]) := fun tq kq => g23 tq (XS.lloadN X21.here hx rfl (hb hby d5_24) rfl kq)
    obtain ⟨cq25, q25, q25'⟩ := E_a.cell
    obtain ⟨_, _, ⟨T25, L25, k25, n25⟩, -, X25, ⟨Lc25, hQ25, l25, y25, z25⟩, st25⟩ := X21.privateBack hx (y := (⟨"com/example/rarebit/rarebit/util/WordArray", "slot", "(J)I"⟩ : MethodName)) hown (mvT hZ (hw _ (List.mem_of_getElem? (i := 47) rfl))) (mvT hZ (hw _ (List.mem_of_getElem? (i := 48) rfl))) (own_selp (y := (⟨"com/example/rarebit/rarebit/util/WordArray", "slot", "(J)I"⟩ : MethodName)) (z := (⟨"com/example/rarebit/rarebit/util/WordArray", "set", "(JJ)V"⟩ : MethodName)) (mvT hZ (hw _ (List.mem_of_getElem? (i := 29) rfl))) rfl (Cond.privateMethod_at (mvP hZ (hw _ (List.mem_of_getElem? (i := 49) rfl)) (args := #[]))) (mvT hZ (hw _ (List.mem_of_getElem? (i := 48) rfl))) (by decide)) (Cond.privateMethod_at (mvP hZ (hw _ (List.mem_of_getElem? (i := 49) rfl)) (args := #[]))) (mvT hZ (hw _ (List.mem_of_getElem? (i := 50) rfl))) (by decide) (backOf (W := 1) (rm3 l Z a0 hw [] a sN iN h0 n0 Z0 F_s hs hi) hZ (hw _ (List.mem_of_getElem? (i := 50) rfl)) (hw _ (List.mem_of_getElem? (i := 3) rfl)) (by decide) (by decide)) (g := (mkF m 25 #[.val (.ref a), .val (.long (own_l iN)), .second, .val (.long y), .second] [(.long (own_l iN)), (.ref a), (.ref b)])) rfl (by rw [hml]; rfl) (Steps.refl _) (a := a) (by rw [e21]; exact q25) q25' (argsL := [(.long (own_l iN))]) (rest := [(.ref b)]) (lenOf pd5_1 rfl) rfl (by show 2 * 0 + _ ≤ _; exact Nat.le_of_eq rfl) (hb hby d5_25) (fun _ _ => ⟨rfl, e21, (by decide : 0 + 0 ≤ _), (by decide : 0 + 0 ≤ _)⟩)
    dsimp only [Pt.U, Pt.locs, Pt.cells, Pt.slots] at X25 l25 y25 z25 st25 hQ25
    subst l25 y25 z25
    obtain ⟨rfl, N25q, e25⟩ := hQ25
    have N25 := Fr.app N21 N25q
    have g26 : Gz p.tables e below A T25 (mkF m 28 #[.val (.ref a), .val (.long (own_l iN)), .second, .val (.long y), .second] [(.int (own_i (iN % 2 ^ sN))), (.ref b)]) := fun tq kq => g24 tq (st25.trans kq)
    obtain ⟨j1, j2⟩ := own_ix (iN % 2 ^ sN) (by have := Nat.mod_le iN (2 ^ sN); omega)
    have g27 : Gz p.tables e below A T25 (mkF m 29 #[.val (.ref a), .val (.long (own_l iN)), .second, .val (.long y), .second] [(.long y), (.int (own_i (iN % 2 ^ sN))), (.ref b)]) := fun tq kq => g26 tq (XS.lloadN X25.here hx rfl (hb hby d5_28) rfl kq)
    obtain ⟨T28, h28, X28, e28, W28, st28⟩ := stJ X25 hx hZ e25 A_w (j := own_i (iN % 2 ^ sN)) (fun z => z.elim j1 (fun z => absurd hlt (Nat.not_lt.mpr (j2 ▸ z)))) (g := (mkF m 29 #[.val (.ref a), .val (.long (own_l iN)), .second, .val (.long y), .second] [(.long y), (.int (own_i (iN % 2 ^ sN))), (.ref b)])) rfl rfl (hb hby d5_29)
    have N28 := Fr.snoc X28 N25 g_b
    rw [j2] at W28
    have g29 : Gz p.tables e below A T28 (mkF m 30 #[.val (.ref a), .val (.long (own_l iN)), .second, .val (.long y), .second] []) := fun tq kq => g27 tq (st28 tq kq)
    obtain ⟨fs, hr, hrun, hended, hW, hsame⟩ := X28.leave (v := none) (fun _ => rfl)
    refine ⟨_, _, g29 _ (X28.returnOut hx Bd.returns (hb hby d5_30) hr), hrun, hended, _, _, rfl, ?_, ⟨_, rfl⟩, hW, hsame.mono (by decide) (by decide)⟩
    show Q5 Z a ps sN iN b (iN % 2 ^ sN) x y h0 n0 _ T28.heap _
    rw [e28]
    exact ⟨rfl, N28, W28⟩

theorem d6_0 : decode prog_32_method_7_code 0 = .ok (.aload_n 0, 1) := by decide +kernel
theorem d6_1 : decode prog_32_method_7_code 1 = .ok (.lload_n 1, 1) := by decide +kernel
theorem d6_2 : decode prog_32_method_7_code 2 = .ok (.invokevirtual 47, 3) := by decide +kernel
theorem d6_5 : decode prog_32_method_7_code 5 = .ok (.lstore 5, 2) := by decide +kernel
theorem d6_7 : decode prog_32_method_7_code 7 = .ok (.aload_n 0, 1) := by decide +kernel
theorem d6_8 : decode prog_32_method_7_code 8 = .ok (.lload_n 1, 1) := by decide +kernel
theorem d6_9 : decode prog_32_method_7_code 9 = .ok (.lload 5, 2) := by decide +kernel
theorem d6_11 : decode prog_32_method_7_code 11 = .ok (.lload_n 3, 1) := by decide +kernel
theorem d6_12 : decode prog_32_method_7_code 12 = .ok (.lor, 1) := by decide +kernel
theorem d6_13 : decode prog_32_method_7_code 13 = .ok (.invokevirtual 51, 3) := by decide +kernel
theorem d6_16 : decode prog_32_method_7_code 16 = .ok (.lload 5, 2) := by decide +kernel
theorem d6_18 : decode prog_32_method_7_code 18 = .ok (.lreturn, 1) := by decide +kernel
theorem pn6 : plainName "com/example/rarebit/rarebit/util/WordArray" = true := by first | (simp [plainName, overriddenIn]; done) | decide +kernel
theorem pd6_0 : parseMethodDescriptor "(J)J" = some ⟨[.long], some .long⟩ := by decide +kernel
theorem pd6_1 : parseMethodDescriptor "(JJ)V" = some ⟨[.long, .long], none⟩ := by decide +kernel
theorem ef6 (m : MethodId) (x0 : Addr) (x1 : Int64) (x2 : Int64) : entryFrame m #[(.ref x0), (.long x1), (.long x2)] 7 = mkF m 0 #[.val (.ref x0), .val (.long x1), .second, .val (.long x2), .second, .unset, .unset] [] := by first | (simp [entryFrame, mkF, argsToLocals, Value.category]; done) | rfl
def Q6 (Z : State) (a : Addr) (ps : Addr) (sN : Nat) (iN : Nat) (b : Addr) (t : Nat) (x : Int64) (y : Int64) (h0 : Heap) (n0 : Nat) (v : Option Value) (h : Heap) (L : List Loc) : Prop := v = some (.long x) ∧ Fr n0 L ∧ Wr h0 h b t (.long (x ||| y))
set_option maxRecDepth 65536 in
set_option maxHeartbeats 40000000 in
theorem rm6 (l : Launch) (Z : State) (a0 : Array Value) (hw : ∀ d ∈ tables_1, d.before a0 Z = true) (ws : List Jvm.Cond) (a : Addr) (ps : Addr) (sN : Nat) (iN : Nat) (b : Addr) (t : Nat) (x : Int64) (y : Int64) (h0 : Heap) (n0 : Nat) (Z0 : n0 ≤ h0.size) (H_at : own_At Z h0 a ps sN iN b t) (H_w : own_Wd Z h0 b t x) (hs : sN < 8) (hi16 : iN < 16) (g_b : n0 ≤ b) (E_a : Exa Z h0 a "com/example/rarebit/rarebit/util/WordArray") :
    MetFree l (⟨"com/example/rarebit/rarebit/util/WordArray", "getAndBitwiseOrPlain", "(JJ)J"⟩ : MethodName) (head1 (Jvm.Cond.code (⟨"com/example/rarebit/rarebit/util/WordArray", "getAndBitwiseOrPlain", "(JJ)J"⟩ : MethodName) prog_32_method_7_code 7 (some .long) :: ws) ({ frames := 2, cells := 0, slots := 0, locals := 31 } : Room)) (fun aq Uq => aq = #[(.ref a), (.long (own_l iN)), (.long y)] ∧ Z.Warmed39 Uq.vm ∧ Uq.heap = h0) (fun _ _ _ _ _ => True) (fun _ Uq oq Uq' => ∃ vq Lq, oq = .returned vq ∧ Q6 Z a ps sN iN b t x y h0 n0 vq Uq'.heap Lq ∧ FrameEnd Uq oq Uq' Lq ({ frames := 2, cells := 0, slots := 0, locals := 31 } : Room).cells ({ frames := 2, cells := 0, slots := 0, locals := 31 } : Room).slots) := by
  refine MetFree.of_bodySF (plainFor_of_name pn6) hisR ?_
  intro p e s m args below meth c s₁ Bd hml0 hP hK
  obtain ⟨rfl, hZ, hh⟩ := hP
  have hx := Bd.exec
  have hby := Bd.bytes
  have hml : c.maxLocals = 7 := hml0
  have hown : s.vm.findClass "com/example/rarebit/rarebit/util/WordArray" = some m.cls := findClass_of_methodNamed Bd.named
  have hnm := (name_of_methodNamed Bd.named Bd.method).1
  have X0 : Stand p l e ({ frames := 2, cells := 0, slots := 0, locals := 31 } : Room) s m #[(.ref a), (.long (own_l iN)), (.long y)] below meth c s₁ [] 0 0 := Stand.of_body Bd
  have e0 : s₁.heap = h0 := by rw [← hh, Bd.state]; rfl
  have N0 := Fr.nil n0
  obtain ⟨A, hA⟩ : ∃ A, A = s₁.setTop (entryFrame m #[(.ref a), (.long (own_l iN)), (.long y)] 7) := ⟨_, rfl⟩
  rw [← hA]
  have g0 : Gz p.tables e below A s₁ (mkF m 0 #[.val (.ref a), .val (.long (own_l iN)), .second, .val (.long y), .second, .unset, .unset] []) := fun tq kq => by rw [hA]; exact castTop (ef6 m a (own_l iN) y) kq
  have g1 : Gz p.tables e below A s₁ (mkF m 1 #[.val (.ref a), .val (.long (own_l iN)), .second, .val (.long y), .second, .unset, .unset] [(.ref a)]) := fun tq kq => g0 tq (XS.aloadN X0.here hx rfl (hb hby d6_0) rfl rfl kq)
  have g2 : Gz p.tables e below A s₁ (mkF m 2 #[.val (.ref a), .val (.long (own_l iN)), .second, .val (.long y), .second, .unset, .unset] [(.long (own_l iN)), (.ref a)]) := fun tq kq => g1 tq (XS.lloadN X0.here hx rfl (hb hby d6_1) rfl kq)
  obtain ⟨cq3, kq3, q3a, q3b, q3c⟩ := isOf hZ e0 E_a
  obtain ⟨_, _, ⟨T3, L3, k3, n3⟩, -, X3, ⟨Lc3, hQ3, l3, y3, z3⟩, st3⟩ := X0.virtualBack hx (y := (⟨"com/example/rarebit/rarebit/util/WordArray", "get", "(J)J"⟩ : MethodName)) (z := (⟨"com/example/rarebit/rarebit/util/WordArray", "get", "(J)J"⟩ : MethodName)) hown (mvT hZ (hw _ (List.mem_of_getElem? (i := 36) rfl))) (mvT hZ (hw _ (List.mem_of_getElem? (i := 37) rfl))) (notFace_of_selects (args := #[]) (mvT hZ (hw _ (List.mem_of_getElem? (i := 39) rfl)))) (mvT hZ (hw _ (List.mem_of_getElem? (i := 39) rfl))) (mvT hZ (hw _ (List.mem_of_getElem? (i := 38) rfl))) (by decide) (backOf (W := 0) (rm4 l Z a0 hw [] a ps sN iN b t x h0 n0 Z0 H_at H_w hs hi16) hZ (hw _ (List.mem_of_getElem? (i := 40) rfl)) (hw _ (List.mem_of_getElem? (i := 3) rfl)) (by decide) (by decide)) q3a q3c (g := (mkF m 2 #[.val (.ref a), .val (.long (own_l iN)), .second, .val (.long y), .second, .unset, .unset] [(.long (own_l iN)), (.ref a)])) rfl (by rw [hml]; rfl) (Steps.refl _) (argsL := [(.long (own_l iN))]) (rest := []) (lenOf pd6_0 rfl) rfl (by show 2 * 0 + _ ≤ _; exact Nat.le_of_eq rfl) (hb hby d6_2) (fun _ _ => ⟨rfl, e0, (by decide : 0 + 0 ≤ _), (by decide : 0 + 0 ≤ _)⟩)
  dsimp only [Pt.U, Pt.locs, Pt.cells, Pt.slots] at X3 l3 y3 z3 st3 hQ3
  subst l3 y3 z3
  obtain ⟨rfl, N3q, e3⟩ := hQ3
  have N3 := Fr.app N0 N3q
  have g4 : Gz p.tables e below A T3 (mkF m 5 #[.val (.ref a), .val (.long (own_l iN)), .second, .val (.long y), .second, .unset, .unset] [(.long x)]) := fun tq kq => g2 tq (st3.trans kq)
  have g5 : Gz p.tables e below A T3 (mkF m 7 #[.val (.ref a), .val (.long (own_l iN)), .second, .val (.long y), .second, .val (.long x), .second] []) := fun tq kq => g4 tq (XS.lstore X3.here hx rfl (hb hby d6_5) rfl (l' := #[.val (.ref a), .val (.long (own_l iN)), .second, .val (.long y), .second, .val (.long x), .second]) rfl kq)
  have g6 : Gz p.tables e below A T3 (mkF m 8 #[.val (.ref a), .val (.long (own_l iN)), .second, .val (.long y), .second, .val (.long x), .second] [(.ref a)]) := fun tq kq => g5 tq (XS.aloadN X3.here hx rfl (hb hby d6_7) rfl rfl kq)
  have g7 : Gz p.tables e below A T3 (mkF m 9 #[.val (.ref a), .val (.long (own_l iN)), .second, .val (.long y), .second, .val (.long x), .second] [(.long (own_l iN)), (.ref a)]) := fun tq kq => g6 tq (XS.lloadN X3.here hx rfl (hb hby d6_8) rfl kq)
  have g8 : Gz p.tables e below A T3 (mkF m 11 #[.val (.ref a), .val (.long (own_l iN)), .second, .val (.long y), .second, .val (.long x), .second] [(.long x), (.long (own_l iN)), (.ref a)]) := fun tq kq => g7 tq (XS.lload X3.here hx rfl (hb hby d6_9) rfl kq)
  have g9 : Gz p.tables e below A T3 (mkF m 12 #[.val (.ref a), .val (.long (own_l iN)), .second, .val (.long y), .second, .val (.long x), .second] [(.long y), (.long x), (.long (own_l iN)), (.ref a)]) := fun tq kq => g8 tq (XS.lloadN X3.here hx rfl (hb hby d6_11) rfl kq)
  have g10 : Gz p.tables e below A T3 (mkF m 13 #[.val (.ref a), .val (.long (own_l iN)), .second, .val (.long y), .second, .val (.long x), .second] [(.long (x ||| y)), (.long (own_l iN)), (.ref a)]) := fun tq kq => g9 tq (XS.lor X3.here hx rfl (hb hby d6_12) rfl kq)
  obtain ⟨cq11, kq11, q11a, q11b, q11c⟩ := isOf hZ e3 E_a
  obtain ⟨_, _, ⟨T11, L11, k11, n11⟩, -, X11, ⟨Lc11, hQ11, l11, y11, z11⟩, st11⟩ := X3.virtualBack hx (y := (⟨"com/example/rarebit/rarebit/util/WordArray", "set", "(JJ)V"⟩ : MethodName)) (z := (⟨"com/example/rarebit/rarebit/util/WordArray", "set", "(JJ)V"⟩ : MethodName)) hown (mvT hZ (hw _ (List.mem_of_getElem? (i := 41) rfl))) (mvT hZ (hw _ (List.mem_of_getElem? (i := 27) rfl))) (notFace_of_selects (args := #[]) (mvT hZ (hw _ (List.mem_of_getElem? (i := 29) rfl)))) (mvT hZ (hw _ (List.mem_of_getElem? (i := 29) rfl))) (mvT hZ (hw _ (List.mem_of_getElem? (i := 28) rfl))) (by decide) (backOf (W := 0) (rm5 l Z a0 hw [] a ps sN iN b t x (x ||| y) h0 n0 Z0 H_at H_w hs hi16 g_b) hZ (hw _ (List.mem_of_getElem? (i := 30) rfl)) (hw _ (List.mem_of_getElem? (i := 3) rfl)) (by decide) (by decide)) q11a q11c (g := (mkF m 13 #[.val (.ref a), .val (.long (own_l iN)), .second, .val (.long y), .second, .val (.long x), .second] [(.long (x ||| y)), (.long (own_l iN)), (.ref a)])) rfl (by rw [hml]; rfl) (Steps.refl _) (argsL := [(.long (own_l iN)), (.long (x ||| y))]) (rest := []) (lenOf pd6_1 rfl) rfl (by show 2 * 0 + _ ≤ _; exact Nat.le_of_eq rfl) (hb hby d6_13) (fun _ _ => ⟨rfl, e3, (by decide : 0 + 0 ≤ _), (by decide : 0 + 0 ≤ _)⟩)
  dsimp only [Pt.U, Pt.locs, Pt.cells, Pt.slots] at X11 l11 y11 z11 st11 hQ11
  subst l11 y11 z11
  obtain ⟨rfl, N11q, WQ11⟩ := hQ11
  have N11 := Fr.app N3 N11q
  have g12 : Gz p.tables e below A T11 (mkF m 16 #[.val (.ref a), .val (.long (own_l iN)), .second, .val (.long y), .second, .val (.long x), .second] []) := fun tq kq => g10 tq (st11.trans kq)
  have g13 : Gz p.tables e below A T11 (mkF m 18 #[.val (.ref a), .val (.long (own_l iN)), .second, .val (.long y), .second, .val (.long x), .second] [(.long x)]) := fun tq kq => g12 tq (XS.lload X11.here hx rfl (hb hby d6_16) rfl kq)
  obtain ⟨fs, hr, hrun, hended, hW, hsame⟩ := X11.leave (v := some (.long x)) (fun h => by rw [Bd.returns] at h; cases h)
  refine ⟨_, _, g13 _ (retOut X11 hx Bd.returns rfl (Or.inr (Or.inl ⟨rfl, rfl, _, rfl⟩)) (hb hby d6_18) hr), hrun, hended, _, _, rfl, ?_, ⟨_, rfl⟩, hW, hsame.mono (by decide) (by decide)⟩
  show Q6 Z a ps sN iN b t x y h0 n0 _ T11.heap _
  exact ⟨rfl, N11, WQ11⟩

theorem d7_38 : decode prog_32_method_2_code 38 = .ok (.iload 6, 2) := by decide +kernel
theorem d7_40 : decode prog_32_method_2_code 40 = .ok (.aload_n 0, 1) := by decide +kernel
theorem d7_41 : decode prog_32_method_2_code 41 = .ok (.getfield 22, 3) := by decide +kernel
theorem d7_44 : decode prog_32_method_2_code 44 = .ok (.arraylength, 1) := by decide +kernel
theorem d7_45 : decode prog_32_method_2_code 45 = .ok (.if_icmp .ge 31, 3) := by decide +kernel
theorem d7_48 : decode prog_32_method_2_code 48 = .ok (.aload_n 0, 1) := by decide +kernel
theorem d7_49 : decode prog_32_method_2_code 49 = .ok (.getfield 22, 3) := by decide +kernel
theorem d7_52 : decode prog_32_method_2_code 52 = .ok (.iload 6, 2) := by decide +kernel
theorem d7_54 : decode prog_32_method_2_code 54 = .ok (.lload 4, 2) := by decide +kernel
theorem d7_56 : decode prog_32_method_2_code 56 = .ok (.lload_n 1, 1) := by decide +kernel
theorem d7_57 : decode prog_32_method_2_code 57 = .ok (.iload 6, 2) := by decide +kernel
theorem d7_59 : decode prog_32_method_2_code 59 = .ok (.i2l, 1) := by decide +kernel
theorem d7_60 : decode prog_32_method_2_code 60 = .ok (.iload_n 3, 1) := by decide +kernel
theorem d7_61 : decode prog_32_method_2_code 61 = .ok (.lshl, 1) := by decide +kernel
theorem d7_62 : decode prog_32_method_2_code 62 = .ok (.lsub, 1) := by decide +kernel
theorem d7_63 : decode prog_32_method_2_code 63 = .ok (.invokestatic 26, 3) := by decide +kernel
theorem d7_66 : decode prog_32_method_2_code 66 = .ok (.l2i, 1) := by decide +kernel
theorem d7_67 : decode prog_32_method_2_code 67 = .ok (.newarray .long, 2) := by decide +kernel
theorem d7_69 : decode prog_32_method_2_code 69 = .ok (.aastore, 1) := by decide +kernel
theorem d7_70 : decode prog_32_method_2_code 70 = .ok (.iinc 6 1, 3) := by decide +kernel
theorem d7_73 : decode prog_32_method_2_code 73 = .ok (.goto (-35), 3) := by decide +kernel
theorem pd7_0 : parseMethodDescriptor "(JJ)J" = some ⟨[.long, .long], some .long⟩ := by decide +kernel
set_option maxRecDepth 65536 in
set_option maxHeartbeats 40000000 in
theorem own_loop7 {p : Program} {l : Launch} {e : Env} {s : State} {m : MethodId} {args : Array Value} {below : List Frame} {meth : Method} {c : Code} {Z : State} {a0 : Array Value} {A : State} {h00 : Heap} {n0 : Nat} {a ps : Addr} {k : ClassId} {sN LN : Nat}
    (hx : p.tables.exec = Jvm.exec) (hZ : Z.Warmed39 s.vm) (hw : ∀ d ∈ tables_1, d.before a0 Z = true) (hby : c.code = prog_32_method_2_code) (hml : c.maxLocals = 7) (hown : s.vm.findClass "com/example/rarebit/rarebit/util/WordArray" = some m.cls) (hs : sN < 8) (hL : LN < 17) (hL1 : 1 ≤ LN) (Z00 : n0 ≤ h00.size) (sz_ps : h00.size ≤ ps) (nap : a ≠ ps) (O_p : OvrA Z k .long "[J") : ∀ (n i : Nat) (T : State) (h : Heap) (locs : List Loc) (pg : Nat → Addr), i + n = own_np sN LN → Stand p l e ({ frames := 1, cells := 17, slots := 32, locals := 17 } : Room) s m args below meth c T locs (1 + i) (16 + min LN (i * 2 ^ sN)) → T.heap = h → Exa Z h a "com/example/rarebit/rarebit/util/WordArray" → Fld Z h a "com/example/rarebit/rarebit/util/WordArray" "pageShift" "I" (.int (own_i sN)) → Fld Z h a "com/example/rarebit/rarebit/util/WordArray" "pages" "[[J" (.ref ps) → Fld Z h a "com/example/rarebit/rarebit/util/WordArray" "only" "[J" .null → own_Inv Z h ps k sN LN i pg → Fr n0 locs → Keep h00 h [a] → Gz p.tables e below A T (mkF m 38 #[.val (.ref a), .val (.long (own_l LN)), .second, .val (.int (own_i sN)), .val (.long (own_l (2 ^ sN))), .second, .val (.int (own_i i))] []) →
      ∃ T' h' locs' pg', Stand p l e ({ frames := 1, cells := 17, slots := 32, locals := 17 } : Room) s m args below meth c T' locs' (1 + own_np sN LN) (16 + min LN (own_np sN LN * 2 ^ sN)) ∧ T'.heap = h' ∧ Exa Z h' a "com/example/rarebit/rarebit/util/WordArray" ∧ Fld Z h' a "com/example/rarebit/rarebit/util/WordArray" "pageShift" "I" (.int (own_i sN)) ∧ Fld Z h' a "com/example/rarebit/rarebit/util/WordArray" "pages" "[[J" (.ref ps) ∧ Fld Z h' a "com/example/rarebit/rarebit/util/WordArray" "only" "[J" .null ∧ own_Inv Z h' ps k sN LN (own_np sN LN) pg' ∧ Fr n0 locs' ∧ Keep h00 h' [a] ∧ Gz p.tables e below A T' (mkF m 38 #[.val (.ref a), .val (.long (own_l LN)), .second, .val (.int (own_i sN)), .val (.long (own_l (2 ^ sN))), .second, .val (.int (own_i (own_np sN LN)))] [])
  | 0, i, T, h, locs, pg, hin, X0, e0, E_a, F_s, F_p, F_o, inv, N0, K0, g0 => by
    obtain rfl : i = own_np sN LN := by omega
    exact ⟨T, h, locs, pg, X0, e0, E_a, F_s, F_p, F_o, inv, N0, K0, g0⟩
  | n + 1, i, T, h, locs, pg, hin, X0, e0, E_a, F_s, F_p, F_o, inv, N0, K0, g0 => by
    obtain ⟨⟨clp, A_p, q_p, S_p, G_p⟩, I_p, I_l, I_i⟩ := inv
    have hnp := (own_f3 ⟨sN, hs⟩ ⟨LN, hL⟩).1
    dsimp only at hnp
    have hi : i < own_np sN LN := by omega
    have hi17 : i < 17 := by omega
    have hz16 := own_f15 ⟨sN, hs⟩ ⟨LN, hL⟩ ⟨i, hi17⟩
    have hz17 := own_f16 ⟨sN, hs⟩ ⟨LN, hL⟩ ⟨i, hi17⟩
    dsimp only at hz16 hz17
    have Z0 : n0 ≤ h.size := Nat.le_trans Z00 K0.1
    have g_ps : n0 ≤ ps := Nat.le_trans Z00 sz_ps
    have hcl0 : 1 + i + 0 ≤ 17 := by omega
    have hsl0 : 16 + min LN (i * 2 ^ sN) + 0 ≤ 32 := by omega
    have hcl1 : 1 + i + 0 + 1 ≤ 17 := by omega
    have hsl1 : 16 + min LN (i * 2 ^ sN) + 0 + own_sz sN LN i ≤ 32 := by omega
    have g1 : Gz p.tables e below A T (mkF m 40 #[.val (.ref a), .val (.long (own_l LN)), .second, .val (.int (own_i sN)), .val (.long (own_l (2 ^ sN))), .second, .val (.int (own_i i))] [(.int (own_i i))]) := fun tq kq => g0 tq (XS.iload X0.here hx rfl (hb hby d7_38) rfl kq)
    have g2 : Gz p.tables e below A T (mkF m 41 #[.val (.ref a), .val (.long (own_l LN)), .second, .val (.int (own_i sN)), .val (.long (own_l (2 ^ sN))), .second, .val (.int (own_i i))] [(.ref a), (.int (own_i i))]) := fun tq kq => g1 tq (XS.aloadN X0.here hx rfl (hb hby d7_40) rfl rfl kq)
    obtain ⟨T3, X3, e3, st3⟩ := getF X0 hx hZ hown (host := "") (Or.inl (hw _ (List.mem_of_getElem? (i := 16) rfl))) Via.refl e0 F_p (g := (mkF m 41 #[.val (.ref a), .val (.long (own_l LN)), .second, .val (.int (own_i sN)), .val (.long (own_l (2 ^ sN))), .second, .val (.int (own_i i))] [(.ref a), (.int (own_i i))])) rfl rfl (hb hby d7_41)
    have g4 : Gz p.tables e below A T3 (mkF m 44 #[.val (.ref a), .val (.long (own_l LN)), .second, .val (.int (own_i sN)), .val (.long (own_l (2 ^ sN))), .second, .val (.int (own_i i))] [(.ref ps), (.int (own_i i))]) := fun tq kq => g2 tq (st3 tq kq)
    have g5 : Gz p.tables e below A T3 (mkF m 45 #[.val (.ref a), .val (.long (own_l LN)), .second, .val (.int (own_i sN)), .val (.long (own_l (2 ^ sN))), .second, .val (.int (own_i i))] [(.int (own_i (own_np sN LN))), (.int (own_i i))]) := fun tq kq => g4 tq (X3.arraylength hx (by rw [e3]; exact A_p.1) (State.isArrayOf_alike hZ.alike A_p.2.1) (g := (mkF m 44 #[.val (.ref a), .val (.long (own_l LN)), .second, .val (.int (own_i sN)), .val (.long (own_l (2 ^ sN))), .second, .val (.int (own_i i))] [(.ref ps), (.int (own_i i))])) rfl rfl (hb hby d7_44) _ (by rw [S_p]; exact kq))
    have g6 : Gz p.tables e below A T3 (mkF m 48 #[.val (.ref a), .val (.long (own_l LN)), .second, .val (.int (own_i sN)), .val (.long (own_l (2 ^ sN))), .second, .val (.int (own_i i))] []) := fun tq kq => g5 tq (XS.icmpNo X3.here hx rfl (hb hby d7_45) rfl (tlt (own_f7 ⟨i, hi17⟩ ⟨own_np sN LN, by omega⟩ hi)).2.1 kq)
    have g7 : Gz p.tables e below A T3 (mkF m 49 #[.val (.ref a), .val (.long (own_l LN)), .second, .val (.int (own_i sN)), .val (.long (own_l (2 ^ sN))), .second, .val (.int (own_i i))] [(.ref a)]) := fun tq kq => g6 tq (XS.aloadN X3.here hx rfl (hb hby d7_48) rfl rfl kq)
    obtain ⟨T8, X8, e8, st8⟩ := getF X3 hx hZ hown (host := "") (Or.inl (hw _ (List.mem_of_getElem? (i := 16) rfl))) Via.refl e3 F_p (g := (mkF m 49 #[.val (.ref a), .val (.long (own_l LN)), .second, .val (.int (own_i sN)), .val (.long (own_l (2 ^ sN))), .second, .val (.int (own_i i))] [(.ref a)])) rfl rfl (hb hby d7_49)
    have g9 : Gz p.tables e below A T8 (mkF m 52 #[.val (.ref a), .val (.long (own_l LN)), .second, .val (.int (own_i sN)), .val (.long (own_l (2 ^ sN))), .second, .val (.int (own_i i))] [(.ref ps)]) := fun tq kq => g7 tq (st8 tq kq)
    have g10 : Gz p.tables e below A T8 (mkF m 54 #[.val (.ref a), .val (.long (own_l LN)), .second, .val (.int (own_i sN)), .val (.long (own_l (2 ^ sN))), .second, .val (.int (own_i i))] [(.int (own_i i)), (.ref ps)]) := fun tq kq => g9 tq (XS.iload X8.here hx rfl (hb hby d7_52) rfl kq)
    have g11 : Gz p.tables e below A T8 (mkF m 56 #[.val (.ref a), .val (.long (own_l LN)), .second, .val (.int (own_i sN)), .val (.long (own_l (2 ^ sN))), .second, .val (.int (own_i i))] [(.long (own_l (2 ^ sN))), (.int (own_i i)), (.ref ps)]) := fun tq kq => g10 tq (XS.lload X8.here hx rfl (hb hby d7_54) rfl kq)
    have g12 : Gz p.tables e below A T8 (mkF m 57 #[.val (.ref a), .val (.long (own_l LN)), .second, .val (.int (own_i sN)), .val (.long (own_l (2 ^ sN))), .second, .val (.int (own_i i))] [(.long (own_l LN)), (.long (own_l (2 ^ sN))), (.int (own_i i)), (.ref ps)]) := fun tq kq => g11 tq (XS.lloadN X8.here hx rfl (hb hby d7_56) rfl kq)
    have g13 : Gz p.tables e below A T8 (mkF m 59 #[.val (.ref a), .val (.long (own_l LN)), .second, .val (.int (own_i sN)), .val (.long (own_l (2 ^ sN))), .second, .val (.int (own_i i))] [(.int (own_i i)), (.long (own_l LN)), (.long (own_l (2 ^ sN))), (.int (own_i i)), (.ref ps)]) := fun tq kq => g12 tq (XS.iload X8.here hx rfl (hb hby d7_57) rfl kq)
    have g14 : Gz p.tables e below A T8 (mkF m 60 #[.val (.ref a), .val (.long (own_l LN)), .second, .val (.int (own_i sN)), .val (.long (own_l (2 ^ sN))), .second, .val (.int (own_i i))] [(.long ((own_i i).toInt64)), (.long (own_l LN)), (.long (own_l (2 ^ sN))), (.int (own_i i)), (.ref ps)]) := fun tq kq => g13 tq (XS.i2l X8.here hx rfl (hb hby d7_59) rfl kq)
    have g15 : Gz p.tables e below A T8 (mkF m 61 #[.val (.ref a), .val (.long (own_l LN)), .second, .val (.int (own_i sN)), .val (.long (own_l (2 ^ sN))), .second, .val (.int (own_i i))] [(.int (own_i sN)), (.long ((own_i i).toInt64)), (.long (own_l LN)), (.long (own_l (2 ^ sN))), (.int (own_i i)), (.ref ps)]) := fun tq kq => g14 tq (XS.iloadN X8.here hx rfl (hb hby d7_60) rfl kq)
    have g16 : Gz p.tables e below A T8 (mkF m 62 #[.val (.ref a), .val (.long (own_l LN)), .second, .val (.int (own_i sN)), .val (.long (own_l (2 ^ sN))), .second, .val (.int (own_i i))] [(.long (((own_i i).toInt64) <<< ((own_i sN) &&& 0x3f).toInt64)), (.long (own_l LN)), (.long (own_l (2 ^ sN))), (.int (own_i i)), (.ref ps)]) := fun tq kq => g15 tq (XS.lshl X8.here hx rfl (hb hby d7_61) rfl kq)
    have g17 : Gz p.tables e below A T8 (mkF m 63 #[.val (.ref a), .val (.long (own_l LN)), .second, .val (.int (own_i sN)), .val (.long (own_l (2 ^ sN))), .second, .val (.int (own_i i))] [(.long ((own_l LN) - (((own_i i).toInt64) <<< ((own_i sN) &&& 0x3f).toInt64))), (.long (own_l (2 ^ sN))), (.int (own_i i)), (.ref ps)]) := fun tq kq => g16 tq (XS.lsub X8.here hx rfl (hb hby d7_62) rfl kq)
    obtain ⟨_, _, ⟨T18, L18, k18, n18⟩, -, X18, ⟨Lc18, hQ18, l18, y18, z18⟩, st18⟩ := Jvm.LawKit.callS X8 hx (y := (⟨"java/lang/Math", "min", "(JJ)J"⟩ : MethodName)) hown (mvT hZ (hw _ (List.mem_of_getElem? (i := 18) rfl))) (mvT hZ (hw _ (List.mem_of_getElem? (i := 19) rfl))) (mvT hZ (hw _ (List.mem_of_getElem? (i := 20) rfl))) (mvT hZ (hw _ (List.mem_of_getElem? (i := 21) rfl))) (by decide) (backOf (W := 2) (rm1 l Z a0 hw [] (own_l (2 ^ sN)) ((own_l LN) - (((own_i i).toInt64) <<< ((own_i sN) &&& 0x3f).toInt64)) h n0 Z0) hZ (hw _ (List.mem_of_getElem? (i := 21) rfl)) (hw _ (List.mem_of_getElem? (i := 20) rfl)) (by decide) (by decide)) (g := (mkF m 63 #[.val (.ref a), .val (.long (own_l LN)), .second, .val (.int (own_i sN)), .val (.long (own_l (2 ^ sN))), .second, .val (.int (own_i i))] [(.long ((own_l LN) - (((own_i i).toInt64) <<< ((own_i sN) &&& 0x3f).toInt64))), (.long (own_l (2 ^ sN))), (.int (own_i i)), (.ref ps)])) rfl (by rw [hml]; rfl) (argsL := [(.long (own_l (2 ^ sN))), (.long ((own_l LN) - (((own_i i).toInt64) <<< ((own_i sN) &&& 0x3f).toInt64)))]) (rest := [(.int (own_i i)), (.ref ps)]) (lenOf pd7_0 rfl) rfl (by show 2 * 0 + _ ≤ _; exact Nat.le_of_eq rfl) (hb hby d7_63) (fun _ _ => ⟨rfl, e8, hcl0, hsl0⟩)
    dsimp only [Pt.U, Pt.locs, Pt.cells, Pt.slots] at X18 l18 y18 z18 st18 hQ18
    subst l18 y18 z18
    obtain ⟨rfl, N18q, e18⟩ := hQ18
    have N18 := Fr.app N0 N18q
    have g19 : Gz p.tables e below A T18 (mkF m 66 #[.val (.ref a), .val (.long (own_l LN)), .second, .val (.int (own_i sN)), .val (.long (own_l (2 ^ sN))), .second, .val (.int (own_i i))] [(.long (own_min (own_l (2 ^ sN)) ((own_l LN) - (((own_i i).toInt64) <<< ((own_i sN) &&& 0x3f).toInt64)))), (.int (own_i i)), (.ref ps)]) := fun tq kq => g17 tq (st18 _ kq)
    have g20 : Gz p.tables e below A T18 (mkF m 67 #[.val (.ref a), .val (.long (own_l LN)), .second, .val (.int (own_i sN)), .val (.long (own_l (2 ^ sN))), .second, .val (.int (own_i i))] [(.int ((own_min (own_l (2 ^ sN)) ((own_l LN) - (((own_i i).toInt64) <<< ((own_i sN) &&& 0x3f).toInt64))).toInt32)), (.int (own_i i)), (.ref ps)]) := fun tq kq => g19 tq (XS.l2i X18.here hx rfl (hb hby d7_66) rfl kq)
    have hn21 : ((own_min (own_l (2 ^ sN)) ((own_l LN) - (((own_i i).toInt64) <<< ((own_i sN) &&& 0x3f).toInt64))).toInt32) = (own_i (own_sz sN LN i)) := own_f4 ⟨sN, hs⟩ ⟨LN, hL⟩ ⟨i, hi17⟩ hi
    rw [hn21] at g20
    obtain ⟨z1, z2⟩ := own_ix (own_sz sN LN i) (by omega)
    obtain ⟨T22, h22, k22, X22, e22, E22, A22, C22, st22⟩ := newPE X18 hx hZ (aty := .long) (hw _ (List.mem_of_getElem? (i := 22) rfl)) e18 (g := (mkF m 67 #[.val (.ref a), .val (.long (own_l LN)), .second, .val (.int (own_i sN)), .val (.long (own_l (2 ^ sN))), .second, .val (.int (own_i i))] [(.int (own_i (own_sz sN LN i))), (.int (own_i i)), (.ref ps)])) rfl (hb hby d7_67) rfl z1 (cap := own_sz sN LN i) (Nat.le_of_eq z2) (by omega) hcl1 hsl1 (ad := "[J") rfl
    obtain ⟨b, gb⟩ : ∃ z, z = h.size := ⟨_, rfl⟩
    rw [← gb] at A22 C22 st22
    have g23 : Gz p.tables e below A T22 (mkF m 69 #[.val (.ref a), .val (.long (own_l LN)), .second, .val (.int (own_i sN)), .val (.long (own_l (2 ^ sN))), .second, .val (.int (own_i i))] [(.ref b), (.int (own_i i)), (.ref ps)]) := fun tq kq => g20 tq (st22 tq kq)
    have A_p1 := A_p.ext E22
    obtain ⟨y1, y2⟩ := own_ix (i) (by omega)
    obtain ⟨T24, h24, X24, e24, W24, st24⟩ := stR X22 hx hZ e22 A_p1 (j := own_i i) (fun z => z.elim y1 (fun z => absurd hi (Nat.not_lt.mpr (S_p ▸ (y2 ▸ z))))) rfl (Sto.ofVA A_p1 q_p O_p (Ins.self C22)) (g := (mkF m 69 #[.val (.ref a), .val (.long (own_l LN)), .second, .val (.int (own_i sN)), .val (.long (own_l (2 ^ sN))), .second, .val (.int (own_i i))] [(.ref b), (.int (own_i i)), (.ref ps)])) rfl rfl (hb hby d7_69)
    have N24 := Fr.snoc X24 N18 g_ps
    rw [y2] at W24
    have g25 : Gz p.tables e below A T24 (mkF m 70 #[.val (.ref a), .val (.long (own_l LN)), .second, .val (.int (own_i sN)), .val (.long (own_l (2 ^ sN))), .second, .val (.int (own_i i))] []) := fun tq kq => g23 tq (st24 tq kq)
    have g26 : Gz p.tables e below A T24 (mkF m 73 #[.val (.ref a), .val (.long (own_l LN)), .second, .val (.int (own_i sN)), .val (.long (own_l (2 ^ sN))), .second, .val (.int ((own_i i) + (1 : Int32)))] []) := fun tq kq => g25 tq (XS.iinc X24.here hx rfl (hb hby d7_70) rfl (l' := #[.val (.ref a), .val (.long (own_l LN)), .second, .val (.int (own_i sN)), .val (.long (own_l (2 ^ sN))), .second, .val (.int ((own_i i) + (1 : Int32)))]) rfl kq)
    have hn27 : ((own_i i) + (1 : Int32)) = (own_i (i + 1)) := own_f5 ⟨i, hi17⟩
    rw [hn27] at g26
    have g28 : Gz p.tables e below A T24 (mkF m 38 #[.val (.ref a), .val (.long (own_l LN)), .second, .val (.int (own_i sN)), .val (.long (own_l (2 ^ sN))), .second, .val (.int (own_i (i + 1)))] []) := fun tq kq => g26 tq (XS.goto X24.here hx rfl (pc0 := 73) (pc' := 38) rfl (hb hby d7_73) (by decide) (by decide) kq)
    have hb1 : b < h22.size := C22.lt
    have nab : a ≠ b := Nat.ne_of_lt (Nat.lt_of_lt_of_le E_a.lt (Nat.le_of_eq gb.symm))
    have npb : ps ≠ b := Nat.ne_of_lt (Nat.lt_of_lt_of_le A_p.lt (Nat.le_of_eq gb.symm))
    have hsz : h24.size = h22.size := W24.size
    have Ap2 := A_p1.same W24
    have hlt_i : i < clp.slots.size := by rw [S_p]; exact hi
    have bp : own_Pg Z h24 b (own_sz sN LN i) := ⟨_, A22.other W24 (Ne.symm npb), by rw [sz_new]; exact z2, fun t ht => by
      rw [show (newA k22 (newarray.typeOf .long) (own_i (own_sz sN LN i))).slots = Array.replicate (own_i (own_sz sN LN i)).toNatClampNeg (.long 0) from rfl, z2]
      simp [ht]⟩
    have inv : own_Inv Z h24 ps k sN LN (i + 1) (fun j => if j = i then b else pg j) := by
      refine ⟨⟨_, Ap2, q_p, by rw [sz_set]; exact S_p, fun j hj => ?_⟩, fun j hj => ?_, fun j hj => ?_, fun j j' hj hj' hq => ?_⟩
      · dsimp only
        by_cases hji : j = i
        · subst hji; rw [if_pos rfl]; simp [Cell.setSlot, hlt_i]
        · rw [if_neg hji, ← G_p j (by omega)]; exact Array.getElem?_setIfInBounds_ne (Ne.symm hji)
      · dsimp only
        by_cases hji : j = i
        · subst hji; rw [if_pos rfl]; exact bp
        · rw [if_neg hji]
          obtain ⟨cj, Aj, Sj, Gj⟩ := I_p j (by omega)
          exact ⟨cj, (Aj.ext E22).other W24 (Ne.symm (Nat.ne_of_lt (I_l j (by omega)).1)), Sj, Gj⟩
      · dsimp only
        by_cases hji : j = i
        · subst hji; rw [if_pos rfl]; exact ⟨by rw [gb]; exact A_p.lt, by rw [hsz]; exact hb1⟩
        · rw [if_neg hji]; exact ⟨(I_l j (by omega)).1, Nat.lt_of_lt_of_le (I_l j (by omega)).2 (Nat.le_trans E22.1 (Nat.le_of_eq hsz.symm))⟩
      · dsimp only at hq
        by_cases hji : j = i <;> by_cases hji' : j' = i
        · omega
        · rw [if_pos hji, if_neg hji'] at hq; exact absurd (I_l j' (by omega)).2 (by rw [← hq, gb]; exact Nat.lt_irrefl _)
        · rw [if_neg hji, if_pos hji'] at hq; exact absurd (I_l j (by omega)).2 (by rw [hq, gb]; exact Nat.lt_irrefl _)
        · rw [if_neg hji, if_neg hji'] at hq; exact I_i j j' (by omega) (by omega) hq
    have KK : Keep h00 h24 [a] := (K0.ext E22).wr W24 (Or.inr sz_ps)
    have hc' : 1 + i + 1 = 1 + (i + 1) := by omega
    have hs' : 16 + min LN (i * 2 ^ sN) + own_sz sN LN i = 16 + min LN ((i + 1) * 2 ^ sN) := by have := own_f16 ⟨sN, hs⟩ ⟨LN, hL⟩ ⟨i, hi17⟩; dsimp only at this; omega
    have XX : Stand p l e ({ frames := 1, cells := 17, slots := 32, locals := 17 } : Room) s m args below meth c T24 _ (1 + (i + 1)) (16 + min LN ((i + 1) * 2 ^ sN)) := hs' ▸ hc' ▸ X24
    exact own_loop7 hx hZ hw hby hml hown hs hL hL1 Z00 sz_ps nap O_p n (i + 1) T24 h24 _ _ (by omega) XX e24 ((E_a.ext E22).wr W24) ((F_s.ext E22).other W24 (Or.inl nap)) ((F_p.ext E22).other W24 (Or.inl nap)) ((F_o.ext E22).other W24 (Or.inl nap)) inv N24 KK g28

theorem d8_0 : decode prog_32_method_2_code 0 = .ok (.aload_n 0, 1) := by decide +kernel
theorem d8_1 : decode prog_32_method_2_code 1 = .ok (.invokespecial 7, 3) := by decide +kernel
theorem d8_4 : decode prog_32_method_2_code 4 = .ok (.aload_n 0, 1) := by decide +kernel
theorem d8_5 : decode prog_32_method_2_code 5 = .ok (.lload_n 1, 1) := by decide +kernel
theorem d8_6 : decode prog_32_method_2_code 6 = .ok (.putfield 12, 3) := by decide +kernel
theorem d8_9 : decode prog_32_method_2_code 9 = .ok (.aload_n 0, 1) := by decide +kernel
theorem d8_10 : decode prog_32_method_2_code 10 = .ok (.iload_n 3, 1) := by decide +kernel
theorem d8_11 : decode prog_32_method_2_code 11 = .ok (.putfield 16, 3) := by decide +kernel
theorem d8_14 : decode prog_32_method_2_code 14 = .ok (.lconst 1, 1) := by decide +kernel
theorem d8_15 : decode prog_32_method_2_code 15 = .ok (.iload_n 3, 1) := by decide +kernel
theorem d8_16 : decode prog_32_method_2_code 16 = .ok (.lshl, 1) := by decide +kernel
theorem d8_17 : decode prog_32_method_2_code 17 = .ok (.lstore 4, 2) := by decide +kernel
theorem d8_19 : decode prog_32_method_2_code 19 = .ok (.aload_n 0, 1) := by decide +kernel
theorem d8_20 : decode prog_32_method_2_code 20 = .ok (.lload_n 1, 1) := by decide +kernel
theorem d8_21 : decode prog_32_method_2_code 21 = .ok (.lload 4, 2) := by decide +kernel
theorem d8_23 : decode prog_32_method_2_code 23 = .ok (.ladd, 1) := by decide +kernel
theorem d8_24 : decode prog_32_method_2_code 24 = .ok (.lconst 1, 1) := by decide +kernel
theorem d8_25 : decode prog_32_method_2_code 25 = .ok (.lsub, 1) := by decide +kernel
theorem d8_26 : decode prog_32_method_2_code 26 = .ok (.iload_n 3, 1) := by decide +kernel
theorem d8_27 : decode prog_32_method_2_code 27 = .ok (.lushr, 1) := by decide +kernel
theorem d8_28 : decode prog_32_method_2_code 28 = .ok (.l2i, 1) := by decide +kernel
theorem d8_29 : decode prog_32_method_2_code 29 = .ok (.anewarray 20, 3) := by decide +kernel
theorem d8_32 : decode prog_32_method_2_code 32 = .ok (.putfield 22, 3) := by decide +kernel
theorem d8_35 : decode prog_32_method_2_code 35 = .ok (.iconst 0, 1) := by decide +kernel
theorem d8_36 : decode prog_32_method_2_code 36 = .ok (.istore 6, 2) := by decide +kernel
theorem d8_38 : decode prog_32_method_2_code 38 = .ok (.iload 6, 2) := by decide +kernel
theorem d8_40 : decode prog_32_method_2_code 40 = .ok (.aload_n 0, 1) := by decide +kernel
theorem d8_41 : decode prog_32_method_2_code 41 = .ok (.getfield 22, 3) := by decide +kernel
theorem d8_44 : decode prog_32_method_2_code 44 = .ok (.arraylength, 1) := by decide +kernel
theorem d8_45 : decode prog_32_method_2_code 45 = .ok (.if_icmp .ge 31, 3) := by decide +kernel
theorem d8_76 : decode prog_32_method_2_code 76 = .ok (.aload_n 0, 1) := by decide +kernel
theorem d8_77 : decode prog_32_method_2_code 77 = .ok (.aload_n 0, 1) := by decide +kernel
theorem d8_78 : decode prog_32_method_2_code 78 = .ok (.getfield 22, 3) := by decide +kernel
theorem d8_81 : decode prog_32_method_2_code 81 = .ok (.arraylength, 1) := by decide +kernel
theorem d8_82 : decode prog_32_method_2_code 82 = .ok (.iconst 1, 1) := by decide +kernel
theorem d8_83 : decode prog_32_method_2_code 83 = .ok (.if_icmp .ne 12, 3) := by decide +kernel
theorem d8_86 : decode prog_32_method_2_code 86 = .ok (.aload_n 0, 1) := by decide +kernel
theorem d8_87 : decode prog_32_method_2_code 87 = .ok (.getfield 22, 3) := by decide +kernel
theorem d8_90 : decode prog_32_method_2_code 90 = .ok (.iconst 0, 1) := by decide +kernel
theorem d8_91 : decode prog_32_method_2_code 91 = .ok (.aaload, 1) := by decide +kernel
theorem d8_92 : decode prog_32_method_2_code 92 = .ok (.goto 4, 3) := by decide +kernel
theorem d8_95 : decode prog_32_method_2_code 95 = .ok (.aconst_null, 1) := by decide +kernel
theorem d8_96 : decode prog_32_method_2_code 96 = .ok (.putfield 32, 3) := by decide +kernel
theorem d8_99 : decode prog_32_method_2_code 99 = .ok (.return_, 1) := by decide +kernel
theorem pn8 : plainName "com/example/rarebit/rarebit/util/WordArray" = true := by first | (simp [plainName, overriddenIn]; done) | decide +kernel
theorem ef8 (m : MethodId) (x0 : Addr) (x1 : Int64) (x2 : Int32) : entryFrame m #[(.ref x0), (.long x1), (.int x2)] 7 = mkF m 0 #[.val (.ref x0), .val (.long x1), .second, .val (.int x2), .unset, .unset, .unset] [] := by first | (simp [entryFrame, mkF, argsToLocals, Value.category]; done) | rfl
def Q8 (Z : State) (a : Addr) (LN : Nat) (sN : Nat) (h0 : Heap) (n0 : Nat) (v : Option Value) (h : Heap) (L : List Loc) : Prop := ∃ ps k pg, v = none ∧ Fr n0 L ∧ Keep h0 h [a] ∧ h0.size ≤ ps ∧ Exa Z h a "com/example/rarebit/rarebit/util/WordArray" ∧ Fld Z h a "com/example/rarebit/rarebit/util/WordArray" "pageShift" "I" (.int (own_i sN)) ∧ Fld Z h a "com/example/rarebit/rarebit/util/WordArray" "pages" "[[J" (.ref ps) ∧ own_Inv Z h ps k sN LN (own_np sN LN) pg ∧ ((own_np sN LN = 1 ∧ Fld Z h a "com/example/rarebit/rarebit/util/WordArray" "only" "[J" (.ref (pg 0))) ∨ (own_np sN LN ≠ 1 ∧ Fld Z h a "com/example/rarebit/rarebit/util/WordArray" "only" "[J" .null))
set_option maxRecDepth 65536 in
set_option maxHeartbeats 40000000 in
theorem rm8 (l : Launch) (Z : State) (a0 : Array Value) (hw : ∀ d ∈ tables_1, d.before a0 Z = true) (ws : List Jvm.Cond) (a : Addr) (LN : Nat) (sN : Nat) (h0 : Heap) (n0 : Nat) (Z0 : n0 ≤ h0.size) (E_a : Exa Z h0 a "com/example/rarebit/rarebit/util/WordArray") (F_length : Fld Z h0 a "com/example/rarebit/rarebit/util/WordArray" "length" "J" (.long (0 : Int64))) (F_pageShift : Fld Z h0 a "com/example/rarebit/rarebit/util/WordArray" "pageShift" "I" (.int (0 : Int32))) (F_pages : Fld Z h0 a "com/example/rarebit/rarebit/util/WordArray" "pages" "[[J" .null) (F_only : Fld Z h0 a "com/example/rarebit/rarebit/util/WordArray" "only" "[J" .null) (g_a : n0 ≤ a) (hs : sN < 8) (hL : LN < 17) (hL1 : 1 ≤ LN) :
    MetFree l (⟨"com/example/rarebit/rarebit/util/WordArray", "<init>", "(JI)V"⟩ : MethodName) (head1 (Jvm.Cond.code (⟨"com/example/rarebit/rarebit/util/WordArray", "<init>", "(JI)V"⟩ : MethodName) prog_32_method_2_code 7 none :: ws) ({ frames := 1, cells := 17, slots := 32, locals := 17 } : Room)) (fun aq Uq => aq = #[(.ref a), (.long (own_l LN)), (.int (own_i sN))] ∧ Z.Warmed39 Uq.vm ∧ Uq.heap = h0) (fun _ _ _ _ _ => True) (fun _ Uq oq Uq' => ∃ vq Lq, oq = .returned vq ∧ Q8 Z a LN sN h0 n0 vq Uq'.heap Lq ∧ FrameEnd Uq oq Uq' Lq ({ frames := 1, cells := 17, slots := 32, locals := 17 } : Room).cells ({ frames := 1, cells := 17, slots := 32, locals := 17 } : Room).slots) := by
  refine MetFree.of_bodySF (plainFor_of_name pn8) hisR ?_
  intro p e s m args below meth c s₁ Bd hml0 hP hK
  obtain ⟨rfl, hZ, hh⟩ := hP
  have hx := Bd.exec
  have hby := Bd.bytes
  have hml : c.maxLocals = 7 := hml0
  have hown : s.vm.findClass "com/example/rarebit/rarebit/util/WordArray" = some m.cls := findClass_of_methodNamed Bd.named
  have hnm := (name_of_methodNamed Bd.named Bd.method).1
  have X0 : Stand p l e ({ frames := 1, cells := 17, slots := 32, locals := 17 } : Room) s m #[(.ref a), (.long (own_l LN)), (.int (own_i sN))] below meth c s₁ [] 0 0 := Stand.of_body Bd
  have e0 : s₁.heap = h0 := by rw [← hh, Bd.state]; rfl
  have N0 := Fr.nil n0
  obtain ⟨A, hA⟩ : ∃ A, A = s₁.setTop (entryFrame m #[(.ref a), (.long (own_l LN)), (.int (own_i sN))] 7) := ⟨_, rfl⟩
  rw [← hA]
  have g0 : Gz p.tables e below A s₁ (mkF m 0 #[.val (.ref a), .val (.long (own_l LN)), .second, .val (.int (own_i sN)), .unset, .unset, .unset] []) := fun tq kq => by rw [hA]; exact castTop (ef8 m a (own_l LN) (own_i sN)) kq
  have KW0 := Keep.refl h0 [a]
  have g1 : Gz p.tables e below A s₁ (mkF m 1 #[.val (.ref a), .val (.long (own_l LN)), .second, .val (.int (own_i sN)), .unset, .unset, .unset] [(.ref a)]) := fun tq kq => g0 tq (XS.aloadN X0.here hx rfl (hb hby d8_0) rfl rfl kq)
  obtain ⟨T2, X2, e2, st2⟩ := initO X0 hx hZ hown (hw _ (List.mem_of_getElem? (i := 7) rfl)) (hw _ (List.mem_of_getElem? (i := 8) rfl)) (hw _ (List.mem_of_getElem? (i := 9) rfl)) e0 (g := (mkF m 1 #[.val (.ref a), .val (.long (own_l LN)), .second, .val (.int (own_i sN)), .unset, .unset, .unset] [(.ref a)])) rfl (by rw [hml]; rfl) rfl (hb hby d8_1) (by decide) (W := 0) (by show 2 * 0 + _ ≤ _; exact Nat.le_of_eq rfl) (by decide)
  have g3 : Gz p.tables e below A T2 (mkF m 4 #[.val (.ref a), .val (.long (own_l LN)), .second, .val (.int (own_i sN)), .unset, .unset, .unset] []) := fun tq kq => g1 tq (st2 tq kq)
  have g4 : Gz p.tables e below A T2 (mkF m 5 #[.val (.ref a), .val (.long (own_l LN)), .second, .val (.int (own_i sN)), .unset, .unset, .unset] [(.ref a)]) := fun tq kq => g3 tq (XS.aloadN X2.here hx rfl (hb hby d8_4) rfl rfl kq)
  have g5 : Gz p.tables e below A T2 (mkF m 6 #[.val (.ref a), .val (.long (own_l LN)), .second, .val (.int (own_i sN)), .unset, .unset, .unset] [(.long (own_l LN)), (.ref a)]) := fun tq kq => g4 tq (XS.lloadN X2.here hx rfl (hb hby d8_5) rfl kq)
  obtain ⟨T6, h6, X6, e6, W6, st6⟩ := putF X2 hx hZ hown (host := "") (Or.inl (hw _ (List.mem_of_getElem? (i := 10) rfl))) Via.refl e2 F_length E_a (Or.inr ⟨(hw _ (List.mem_of_getElem? (i := 11) rfl)), rfl, hnm⟩) (hw _ (List.mem_of_getElem? (i := 2) rfl)) (ty := .long) (by decide) rfl rfl (g := (mkF m 6 #[.val (.ref a), .val (.long (own_l LN)), .second, .val (.int (own_i sN)), .unset, .unset, .unset] [(.long (own_l LN)), (.ref a)])) rfl rfl (hb hby d8_6)
  have KW7 := KW0.wr W6 (Or.inl (List.mem_of_getElem? (i := 0) rfl))
  have E_a := E_a.wr W6
  have F_length := F_length.same W6
  have F_pageShift := F_pageShift.other W6 (Or.inr (slot_ne (Or.inr (hw _ (List.mem_of_getElem? (i := 13) rfl))) (Or.inr (hw _ (List.mem_of_getElem? (i := 11) rfl))) (by decide) (t := .int) (t' := .long) (by decide) (by decide)))
  have F_pages := F_pages.other W6 (Or.inr (slot_ne (Or.inr (hw _ (List.mem_of_getElem? (i := 17) rfl))) (Or.inr (hw _ (List.mem_of_getElem? (i := 11) rfl))) (by decide) (t := (.array (.array .long))) (t' := .long) (by decide) (by decide)))
  have F_only := F_only.other W6 (Or.inr (slot_ne (Or.inr (hw _ (List.mem_of_getElem? (i := 25) rfl))) (Or.inr (hw _ (List.mem_of_getElem? (i := 11) rfl))) (by decide) (t := (.array .long)) (t' := .long) (by decide) (by decide)))
  have N6 := Fr.snoc X6 N0 g_a
  have g8 : Gz p.tables e below A T6 (mkF m 9 #[.val (.ref a), .val (.long (own_l LN)), .second, .val (.int (own_i sN)), .unset, .unset, .unset] []) := fun tq kq => g5 tq (st6 tq kq)
  have g9 : Gz p.tables e below A T6 (mkF m 10 #[.val (.ref a), .val (.long (own_l LN)), .second, .val (.int (own_i sN)), .unset, .unset, .unset] [(.ref a)]) := fun tq kq => g8 tq (XS.aloadN X6.here hx rfl (hb hby d8_9) rfl rfl kq)
  have g10 : Gz p.tables e below A T6 (mkF m 11 #[.val (.ref a), .val (.long (own_l LN)), .second, .val (.int (own_i sN)), .unset, .unset, .unset] [(.int (own_i sN)), (.ref a)]) := fun tq kq => g9 tq (XS.iloadN X6.here hx rfl (hb hby d8_10) rfl kq)
  obtain ⟨T11, h11, X11, e11, W11, st11⟩ := putF X6 hx hZ hown (host := "") (Or.inl (hw _ (List.mem_of_getElem? (i := 12) rfl))) Via.refl e6 F_pageShift E_a (Or.inr ⟨(hw _ (List.mem_of_getElem? (i := 13) rfl)), rfl, hnm⟩) (hw _ (List.mem_of_getElem? (i := 2) rfl)) (ty := .int) (by decide) rfl rfl (g := (mkF m 11 #[.val (.ref a), .val (.long (own_l LN)), .second, .val (.int (own_i sN)), .unset, .unset, .unset] [(.int (own_i sN)), (.ref a)])) rfl rfl (hb hby d8_11)
  have KW12 := KW7.wr W11 (Or.inl (List.mem_of_getElem? (i := 0) rfl))
  have E_a := E_a.wr W11
  have F_length := F_length.other W11 (Or.inr (slot_ne (Or.inr (hw _ (List.mem_of_getElem? (i := 11) rfl))) (Or.inr (hw _ (List.mem_of_getElem? (i := 13) rfl))) (by decide) (t := .long) (t' := .int) (by decide) (by decide)))
  have F_pageShift := F_pageShift.same W11
  have F_pages := F_pages.other W11 (Or.inr (slot_ne (Or.inr (hw _ (List.mem_of_getElem? (i := 17) rfl))) (Or.inr (hw _ (List.mem_of_getElem? (i := 13) rfl))) (by decide) (t := (.array (.array .long))) (t' := .int) (by decide) (by decide)))
  have F_only := F_only.other W11 (Or.inr (slot_ne (Or.inr (hw _ (List.mem_of_getElem? (i := 25) rfl))) (Or.inr (hw _ (List.mem_of_getElem? (i := 13) rfl))) (by decide) (t := (.array .long)) (t' := .int) (by decide) (by decide)))
  have N11 := Fr.snoc X11 N6 g_a
  have g13 : Gz p.tables e below A T11 (mkF m 14 #[.val (.ref a), .val (.long (own_l LN)), .second, .val (.int (own_i sN)), .unset, .unset, .unset] []) := fun tq kq => g10 tq (st11 tq kq)
  have g14 : Gz p.tables e below A T11 (mkF m 15 #[.val (.ref a), .val (.long (own_l LN)), .second, .val (.int (own_i sN)), .unset, .unset, .unset] [(.long (1 : Int64))]) := fun tq kq => g13 tq (XS.lconst X11.here hx rfl (hb hby d8_14) kq)
  have g15 : Gz p.tables e below A T11 (mkF m 16 #[.val (.ref a), .val (.long (own_l LN)), .second, .val (.int (own_i sN)), .unset, .unset, .unset] [(.int (own_i sN)), (.long (1 : Int64))]) := fun tq kq => g14 tq (XS.iloadN X11.here hx rfl (hb hby d8_15) rfl kq)
  have g16 : Gz p.tables e below A T11 (mkF m 17 #[.val (.ref a), .val (.long (own_l LN)), .second, .val (.int (own_i sN)), .unset, .unset, .unset] [(.long ((1 : Int64) <<< ((own_i sN) &&& 0x3f).toInt64))]) := fun tq kq => g15 tq (XS.lshl X11.here hx rfl (hb hby d8_16) rfl kq)
  have hn17 : ((1 : Int64) <<< ((own_i sN) &&& 0x3f).toInt64) = (own_l (2 ^ sN)) := own_f1 ⟨sN, hs⟩
  rw [hn17] at g16
  have g18 : Gz p.tables e below A T11 (mkF m 19 #[.val (.ref a), .val (.long (own_l LN)), .second, .val (.int (own_i sN)), .val (.long (own_l (2 ^ sN))), .second, .unset] []) := fun tq kq => g16 tq (XS.lstore X11.here hx rfl (hb hby d8_17) rfl (l' := #[.val (.ref a), .val (.long (own_l LN)), .second, .val (.int (own_i sN)), .val (.long (own_l (2 ^ sN))), .second, .unset]) rfl kq)
  have g19 : Gz p.tables e below A T11 (mkF m 20 #[.val (.ref a), .val (.long (own_l LN)), .second, .val (.int (own_i sN)), .val (.long (own_l (2 ^ sN))), .second, .unset] [(.ref a)]) := fun tq kq => g18 tq (XS.aloadN X11.here hx rfl (hb hby d8_19) rfl rfl kq)
  have g20 : Gz p.tables e below A T11 (mkF m 21 #[.val (.ref a), .val (.long (own_l LN)), .second, .val (.int (own_i sN)), .val (.long (own_l (2 ^ sN))), .second, .unset] [(.long (own_l LN)), (.ref a)]) := fun tq kq => g19 tq (XS.lloadN X11.here hx rfl (hb hby d8_20) rfl kq)
  have g21 : Gz p.tables e below A T11 (mkF m 23 #[.val (.ref a), .val (.long (own_l LN)), .second, .val (.int (own_i sN)), .val (.long (own_l (2 ^ sN))), .second, .unset] [(.long (own_l (2 ^ sN))), (.long (own_l LN)), (.ref a)]) := fun tq kq => g20 tq (XS.lload X11.here hx rfl (hb hby d8_21) rfl kq)
  have g22 : Gz p.tables e below A T11 (mkF m 24 #[.val (.ref a), .val (.long (own_l LN)), .second, .val (.int (own_i sN)), .val (.long (own_l (2 ^ sN))), .second, .unset] [(.long ((own_l LN) + (own_l (2 ^ sN)))), (.ref a)]) := fun tq kq => g21 tq (XS.ladd X11.here hx rfl (hb hby d8_23) rfl kq)
  have g23 : Gz p.tables e below A T11 (mkF m 25 #[.val (.ref a), .val (.long (own_l LN)), .second, .val (.int (own_i sN)), .val (.long (own_l (2 ^ sN))), .second, .unset] [(.long (1 : Int64)), (.long ((own_l LN) + (own_l (2 ^ sN)))), (.ref a)]) := fun tq kq => g22 tq (XS.lconst X11.here hx rfl (hb hby d8_24) kq)
  have g24 : Gz p.tables e below A T11 (mkF m 26 #[.val (.ref a), .val (.long (own_l LN)), .second, .val (.int (own_i sN)), .val (.long (own_l (2 ^ sN))), .second, .unset] [(.long (((own_l LN) + (own_l (2 ^ sN))) - (1 : Int64))), (.ref a)]) := fun tq kq => g23 tq (XS.lsub X11.here hx rfl (hb hby d8_25) rfl kq)
  have g25 : Gz p.tables e below A T11 (mkF m 27 #[.val (.ref a), .val (.long (own_l LN)), .second, .val (.int (own_i sN)), .val (.long (own_l (2 ^ sN))), .second, .unset] [(.int (own_i sN)), (.long (((own_l LN) + (own_l (2 ^ sN))) - (1 : Int64))), (.ref a)]) := fun tq kq => g24 tq (XS.iloadN X11.here hx rfl (hb hby d8_26) rfl kq)
  have g26 : Gz p.tables e below A T11 (mkF m 28 #[.val (.ref a), .val (.long (own_l LN)), .second, .val (.int (own_i sN)), .val (.long (own_l (2 ^ sN))), .second, .unset] [(.long (((((own_l LN) + (own_l (2 ^ sN))) - (1 : Int64)).toUInt64 >>> ((own_i sN) &&& 0x3f).toInt64.toUInt64).toInt64)), (.ref a)]) := fun tq kq => g25 tq (XS.lushr X11.here hx rfl (hb hby d8_27) rfl kq)
  have g27 : Gz p.tables e below A T11 (mkF m 29 #[.val (.ref a), .val (.long (own_l LN)), .second, .val (.int (own_i sN)), .val (.long (own_l (2 ^ sN))), .second, .unset] [(.int ((((((own_l LN) + (own_l (2 ^ sN))) - (1 : Int64)).toUInt64 >>> ((own_i sN) &&& 0x3f).toInt64.toUInt64).toInt64).toInt32)), (.ref a)]) := fun tq kq => g26 tq (XS.l2i X11.here hx rfl (hb hby d8_28) rfl kq)
  have hn28 : ((((((own_l LN) + (own_l (2 ^ sN))) - (1 : Int64)).toUInt64 >>> ((own_i sN) &&& 0x3f).toInt64.toUInt64).toInt64).toInt32) = (own_i (own_np sN LN)) := own_f2 ⟨sN, hs⟩ ⟨LN, hL⟩ hL1
  rw [hn28] at g27
  have hnp := own_f3 ⟨sN, hs⟩ ⟨LN, hL⟩
  dsimp only at hnp
  obtain ⟨z1, z2⟩ := own_ix (own_np sN LN) (by omega)
  obtain ⟨T29, h29, k29, X29, e29, E29, A29, C29, O29, st29⟩ := newRA X11 hx hZ (ty := .long) (C := "[J") hown rfl (hw _ (List.mem_of_getElem? (i := 14) rfl)) (hw _ (List.mem_of_getElem? (i := 15) rfl)) e11 (g := (mkF m 29 #[.val (.ref a), .val (.long (own_l LN)), .second, .val (.int (own_i sN)), .val (.long (own_l (2 ^ sN))), .second, .unset] [(.int (own_i (own_np sN LN))), (.ref a)])) rfl (hb hby d8_29) rfl z1 (cap := 16) (by rw [z2]; exact hnp.1) (by decide) (by decide) (by decide) (ad := "[[J") rfl
  obtain ⟨ps, gb29⟩ : ∃ z, z = h11.size := ⟨_, rfl⟩
  rw [← gb29] at A29 C29 st29
  have sz_ps : h0.size ≤ ps := Nat.le_trans KW12.1 (Nat.le_of_eq gb29.symm)
  have hap : a < ps := Nat.lt_of_lt_of_le E_a.lt (Nat.le_of_eq gb29.symm)
  have nap : a ≠ ps := Nat.ne_of_lt hap
  have E_a := E_a.ext E29
  have F_length := F_length.ext E29
  have F_pageShift := F_pageShift.ext E29
  have F_pages := F_pages.ext E29
  have F_only := F_only.ext E29
  have KW29 := KW12.ext E29
  have g30 : Gz p.tables e below A T29 (mkF m 32 #[.val (.ref a), .val (.long (own_l LN)), .second, .val (.int (own_i sN)), .val (.long (own_l (2 ^ sN))), .second, .unset] [(.ref ps), (.ref a)]) := fun tq kq => g27 tq (st29 tq kq)
  obtain ⟨T31, h31, X31, e31, W31, st31⟩ := putF X29 hx hZ hown (host := "") (Or.inl (hw _ (List.mem_of_getElem? (i := 16) rfl))) Via.refl e29 F_pages E_a (Or.inr ⟨(hw _ (List.mem_of_getElem? (i := 17) rfl)), rfl, hnm⟩) (hw _ (List.mem_of_getElem? (i := 2) rfl)) (ty := (.array (.array .long))) (by decide) rfl rfl (g := (mkF m 32 #[.val (.ref a), .val (.long (own_l LN)), .second, .val (.int (own_i sN)), .val (.long (own_l (2 ^ sN))), .second, .unset] [(.ref ps), (.ref a)])) rfl rfl (hb hby d8_32)
  have KW32 := KW29.wr W31 (Or.inl (List.mem_of_getElem? (i := 0) rfl))
  have E_a := E_a.wr W31
  have F_length := F_length.other W31 (Or.inr (slot_ne (Or.inr (hw _ (List.mem_of_getElem? (i := 11) rfl))) (Or.inr (hw _ (List.mem_of_getElem? (i := 17) rfl))) (by decide) (t := .long) (t' := (.array (.array .long))) (by decide) (by decide)))
  have F_pageShift := F_pageShift.other W31 (Or.inr (slot_ne (Or.inr (hw _ (List.mem_of_getElem? (i := 13) rfl))) (Or.inr (hw _ (List.mem_of_getElem? (i := 17) rfl))) (by decide) (t := .int) (t' := (.array (.array .long))) (by decide) (by decide)))
  have F_pages := F_pages.same W31
  have F_only := F_only.other W31 (Or.inr (slot_ne (Or.inr (hw _ (List.mem_of_getElem? (i := 25) rfl))) (Or.inr (hw _ (List.mem_of_getElem? (i := 17) rfl))) (by decide) (t := (.array .long)) (t' := (.array (.array .long))) (by decide) (by decide)))
  have A29 := A29.other W31 (Ne.symm nap)
  have N31 := Fr.snoc X31 N11 g_a
  have g33 : Gz p.tables e below A T31 (mkF m 35 #[.val (.ref a), .val (.long (own_l LN)), .second, .val (.int (own_i sN)), .val (.long (own_l (2 ^ sN))), .second, .unset] []) := fun tq kq => g30 tq (st31 tq kq)
  have g34 : Gz p.tables e below A T31 (mkF m 36 #[.val (.ref a), .val (.long (own_l LN)), .second, .val (.int (own_i sN)), .val (.long (own_l (2 ^ sN))), .second, .unset] [(.int (0 : Int32))]) := fun tq kq => g33 tq (XS.iconst X31.here hx rfl (hb hby d8_35) kq)
  have g35 : Gz p.tables e below A T31 (mkF m 38 #[.val (.ref a), .val (.long (own_l LN)), .second, .val (.int (own_i sN)), .val (.long (own_l (2 ^ sN))), .second, .val (.int (0 : Int32))] []) := fun tq kq => g34 tq (XS.istore X31.here hx rfl (hb hby d8_36) rfl (l' := #[.val (.ref a), .val (.long (own_l LN)), .second, .val (.int (own_i sN)), .val (.long (own_l (2 ^ sN))), .second, .val (.int (0 : Int32))]) rfl kq)
  have inv0 : own_Inv Z h31 ps k29 sN LN 0 (fun _ => 0) := ⟨⟨_, A29, rfl, by rw [sz_new]; exact z2, fun j hj => absurd hj (Nat.not_lt_zero j)⟩, fun j hj => absurd hj (Nat.not_lt_zero j), fun j hj => absurd hj (Nat.not_lt_zero j), fun j j' hj => absurd hj (Nat.not_lt_zero j)⟩
  have XL : Stand p l e ({ frames := 1, cells := 17, slots := 32, locals := 17 } : Room) s m #[(.ref a), (.long (own_l LN)), (.int (own_i sN))] below meth c T31 _ (1 + 0) (16 + min LN (0 * 2 ^ sN)) := (by rw [Nat.zero_mul, Nat.min_zero]; exact X31)
  obtain ⟨TL, hL', locsL, pg, XL, eL, E_a, F_s, F_p, F_o, inv, NL, KL, gL⟩ := own_loop7 hx hZ hw hby hml hown hs hL hL1 Z0 sz_ps nap O29 (own_np sN LN) 0 T31 h31 _ _ (Nat.zero_add _) XL e31 E_a F_pageShift F_pages F_only inv0 N31 KW32 g35
  obtain ⟨⟨clp, A_p, q_p, S_p, G_p⟩, I_p, I_l, I_i⟩ := inv
  have hcF : 1 + own_np sN LN ≤ 17 := by omega
  have hsF : 16 + min LN (own_np sN LN * 2 ^ sN) ≤ 32 := by omega
  have g36 : Gz p.tables e below A TL (mkF m 40 #[.val (.ref a), .val (.long (own_l LN)), .second, .val (.int (own_i sN)), .val (.long (own_l (2 ^ sN))), .second, .val (.int (own_i (own_np sN LN)))] [(.int (own_i (own_np sN LN)))]) := fun tq kq => gL tq (XS.iload XL.here hx rfl (hb hby d8_38) rfl kq)
  have g37 : Gz p.tables e below A TL (mkF m 41 #[.val (.ref a), .val (.long (own_l LN)), .second, .val (.int (own_i sN)), .val (.long (own_l (2 ^ sN))), .second, .val (.int (own_i (own_np sN LN)))] [(.ref a), (.int (own_i (own_np sN LN)))]) := fun tq kq => g36 tq (XS.aloadN XL.here hx rfl (hb hby d8_40) rfl rfl kq)
  obtain ⟨T38, X38, e38, st38⟩ := getF XL hx hZ hown (host := "") (Or.inl (hw _ (List.mem_of_getElem? (i := 16) rfl))) Via.refl eL F_p (g := (mkF m 41 #[.val (.ref a), .val (.long (own_l LN)), .second, .val (.int (own_i sN)), .val (.long (own_l (2 ^ sN))), .second, .val (.int (own_i (own_np sN LN)))] [(.ref a), (.int (own_i (own_np sN LN)))])) rfl rfl (hb hby d8_41)
  have g39 : Gz p.tables e below A T38 (mkF m 44 #[.val (.ref a), .val (.long (own_l LN)), .second, .val (.int (own_i sN)), .val (.long (own_l (2 ^ sN))), .second, .val (.int (own_i (own_np sN LN)))] [(.ref ps), (.int (own_i (own_np sN LN)))]) := fun tq kq => g37 tq (st38 tq kq)
  have g40 : Gz p.tables e below A T38 (mkF m 45 #[.val (.ref a), .val (.long (own_l LN)), .second, .val (.int (own_i sN)), .val (.long (own_l (2 ^ sN))), .second, .val (.int (own_i (own_np sN LN)))] [(.int (own_i (own_np sN LN))), (.int (own_i (own_np sN LN)))]) := fun tq kq => g39 tq (X38.arraylength hx (by rw [e38]; exact A_p.1) (State.isArrayOf_alike hZ.alike A_p.2.1) (g := (mkF m 44 #[.val (.ref a), .val (.long (own_l LN)), .second, .val (.int (own_i sN)), .val (.long (own_l (2 ^ sN))), .second, .val (.int (own_i (own_np sN LN)))] [(.ref ps), (.int (own_i (own_np sN LN)))])) rfl rfl (hb hby d8_44) _ (by rw [S_p]; exact kq))
  have g41 : Gz p.tables e below A T38 (mkF m 76 #[.val (.ref a), .val (.long (own_l LN)), .second, .val (.int (own_i sN)), .val (.long (own_l (2 ^ sN))), .second, .val (.int (own_i (own_np sN LN)))] []) := fun tq kq => g40 tq (XS.icmpYes X38.here hx rfl (pc0 := 45) (pc' := 76) rfl (hb hby d8_45) rfl (flt (fun q => absurd (own_lt q) (Int.lt_irrefl _))).2.1 (by decide) (by decide) kq)
  have g42 : Gz p.tables e below A T38 (mkF m 77 #[.val (.ref a), .val (.long (own_l LN)), .second, .val (.int (own_i sN)), .val (.long (own_l (2 ^ sN))), .second, .val (.int (own_i (own_np sN LN)))] [(.ref a)]) := fun tq kq => g41 tq (XS.aloadN X38.here hx rfl (hb hby d8_76) rfl rfl kq)
  have g43 : Gz p.tables e below A T38 (mkF m 78 #[.val (.ref a), .val (.long (own_l LN)), .second, .val (.int (own_i sN)), .val (.long (own_l (2 ^ sN))), .second, .val (.int (own_i (own_np sN LN)))] [(.ref a), (.ref a)]) := fun tq kq => g42 tq (XS.aloadN X38.here hx rfl (hb hby d8_77) rfl rfl kq)
  obtain ⟨T44, X44, e44, st44⟩ := getF X38 hx hZ hown (host := "") (Or.inl (hw _ (List.mem_of_getElem? (i := 16) rfl))) Via.refl e38 F_p (g := (mkF m 78 #[.val (.ref a), .val (.long (own_l LN)), .second, .val (.int (own_i sN)), .val (.long (own_l (2 ^ sN))), .second, .val (.int (own_i (own_np sN LN)))] [(.ref a), (.ref a)])) rfl rfl (hb hby d8_78)
  have g45 : Gz p.tables e below A T44 (mkF m 81 #[.val (.ref a), .val (.long (own_l LN)), .second, .val (.int (own_i sN)), .val (.long (own_l (2 ^ sN))), .second, .val (.int (own_i (own_np sN LN)))] [(.ref ps), (.ref a)]) := fun tq kq => g43 tq (st44 tq kq)
  have g46 : Gz p.tables e below A T44 (mkF m 82 #[.val (.ref a), .val (.long (own_l LN)), .second, .val (.int (own_i sN)), .val (.long (own_l (2 ^ sN))), .second, .val (.int (own_i (own_np sN LN)))] [(.int (own_i (own_np sN LN))), (.ref a)]) := fun tq kq => g45 tq (X44.arraylength hx (by rw [e44]; exact A_p.1) (State.isArrayOf_alike hZ.alike A_p.2.1) (g := (mkF m 81 #[.val (.ref a), .val (.long (own_l LN)), .second, .val (.int (own_i sN)), .val (.long (own_l (2 ^ sN))), .second, .val (.int (own_i (own_np sN LN)))] [(.ref ps), (.ref a)])) rfl rfl (hb hby d8_81) _ (by rw [S_p]; exact kq))
  have g47 : Gz p.tables e below A T44 (mkF m 83 #[.val (.ref a), .val (.long (own_l LN)), .second, .val (.int (own_i sN)), .val (.long (own_l (2 ^ sN))), .second, .val (.int (own_i (own_np sN LN)))] [(.int (1 : Int32)), (.int (own_i (own_np sN LN))), (.ref a)]) := fun tq kq => g46 tq (XS.iconst X44.here hx rfl (hb hby d8_82) kq)
  by_cases hc83 : (own_i (own_np sN LN)) = (1 : Int32)
  · have g48 : Gz p.tables e below A T44 (mkF m 86 #[.val (.ref a), .val (.long (own_l LN)), .second, .val (.int (own_i sN)), .val (.long (own_l (2 ^ sN))), .second, .val (.int (own_i (own_np sN LN)))] [(.ref a)]) := fun tq kq => g47 tq (XS.icmpNo X44.here hx rfl (hb hby d8_83) rfl (teq hc83).2 kq)
    have g49 : Gz p.tables e below A T44 (mkF m 87 #[.val (.ref a), .val (.long (own_l LN)), .second, .val (.int (own_i sN)), .val (.long (own_l (2 ^ sN))), .second, .val (.int (own_i (own_np sN LN)))] [(.ref a), (.ref a)]) := fun tq kq => g48 tq (XS.aloadN X44.here hx rfl (hb hby d8_86) rfl rfl kq)
    obtain ⟨T50, X50, e50, st50⟩ := getF X44 hx hZ hown (host := "") (Or.inl (hw _ (List.mem_of_getElem? (i := 16) rfl))) Via.refl e44 F_p (g := (mkF m 87 #[.val (.ref a), .val (.long (own_l LN)), .second, .val (.int (own_i sN)), .val (.long (own_l (2 ^ sN))), .second, .val (.int (own_i (own_np sN LN)))] [(.ref a), (.ref a)])) rfl rfl (hb hby d8_87)
    have g51 : Gz p.tables e below A T50 (mkF m 90 #[.val (.ref a), .val (.long (own_l LN)), .second, .val (.int (own_i sN)), .val (.long (own_l (2 ^ sN))), .second, .val (.int (own_i (own_np sN LN)))] [(.ref ps), (.ref a)]) := fun tq kq => g49 tq (st50 tq kq)
    have g52 : Gz p.tables e below A T50 (mkF m 91 #[.val (.ref a), .val (.long (own_l LN)), .second, .val (.int (own_i sN)), .val (.long (own_l (2 ^ sN))), .second, .val (.int (own_i (own_np sN LN)))] [(.int (0 : Int32)), (.ref ps), (.ref a)]) := fun tq kq => g51 tq (XS.iconst X50.here hx rfl (hb hby d8_90) kq)
    have hp1 : 0 < own_np sN LN := hnp.2 hL1
    have g53 : Gz p.tables e below A T50 (mkF m 92 #[.val (.ref a), .val (.long (own_l LN)), .second, .val (.int (own_i sN)), .val (.long (own_l (2 ^ sN))), .second, .val (.int (own_i (own_np sN LN)))] [(.ref (pg 0)), (.ref a)]) := fun tq kq => g52 tq (X50.aaload hx (j := (0 : Int32)) (v := .ref (pg 0)) (by rw [e50]; exact A_p.1) (State.isArrayOf_alike hZ.alike A_p.2.1) rfl A_p.2.2 (fun z => z.elim (by decide) (fun z => absurd hp1 (Nat.not_lt.mpr (S_p ▸ z)))) (G_p 0 hp1) (g := (mkF m 91 #[.val (.ref a), .val (.long (own_l LN)), .second, .val (.int (own_i sN)), .val (.long (own_l (2 ^ sN))), .second, .val (.int (own_i (own_np sN LN)))] [(.int (0 : Int32)), (.ref ps), (.ref a)])) rfl rfl (hb hby d8_91) _ kq)
    have g54 : Gz p.tables e below A T50 (mkF m 96 #[.val (.ref a), .val (.long (own_l LN)), .second, .val (.int (own_i sN)), .val (.long (own_l (2 ^ sN))), .second, .val (.int (own_i (own_np sN LN)))] [(.ref (pg 0)), (.ref a)]) := fun tq kq => g53 tq (XS.goto X50.here hx rfl (pc0 := 92) (pc' := 96) rfl (hb hby d8_92) (by decide) (by decide) kq)
    obtain ⟨T55, h55, X55, e55, W55, st55⟩ := putF X50 hx hZ hown (host := "") (Or.inl (hw _ (List.mem_of_getElem? (i := 24) rfl))) Via.refl e50 F_o E_a (Or.inr ⟨(hw _ (List.mem_of_getElem? (i := 25) rfl)), rfl, hnm⟩) (hw _ (List.mem_of_getElem? (i := 2) rfl)) (ty := (.array .long)) (by decide) rfl rfl (g := (mkF m 96 #[.val (.ref a), .val (.long (own_l LN)), .second, .val (.int (own_i sN)), .val (.long (own_l (2 ^ sN))), .second, .val (.int (own_i (own_np sN LN)))] [(.ref (pg 0)), (.ref a)])) rfl rfl (hb hby d8_96)
    have KW56 := KL.wr W55 (Or.inl (List.mem_of_getElem? (i := 0) rfl))
    have E_a := E_a.wr W55
    have F_s := F_s.other W55 (Or.inr (slot_ne (Or.inr (hw _ (List.mem_of_getElem? (i := 13) rfl))) (Or.inr (hw _ (List.mem_of_getElem? (i := 25) rfl))) (by decide) (t := .int) (t' := (.array .long)) (by decide) (by decide)))
    have F_p := F_p.other W55 (Or.inr (slot_ne (Or.inr (hw _ (List.mem_of_getElem? (i := 17) rfl))) (Or.inr (hw _ (List.mem_of_getElem? (i := 25) rfl))) (by decide) (t := (.array (.array .long))) (t' := (.array .long)) (by decide) (by decide)))
    have F_o := F_o.same W55
    have N55 := Fr.snoc X55 NL g_a
    have g57 : Gz p.tables e below A T55 (mkF m 99 #[.val (.ref a), .val (.long (own_l LN)), .second, .val (.int (own_i sN)), .val (.long (own_l (2 ^ sN))), .second, .val (.int (own_i (own_np sN LN)))] []) := fun tq kq => g54 tq (st55 tq kq)
    obtain ⟨fs, hr, hrun, hended, hW, hsame⟩ := X55.leave (v := none) (fun _ => rfl)
    refine ⟨_, _, g57 _ (X55.returnOut hx Bd.returns (hb hby d8_99) hr), hrun, hended, _, _, rfl, ?_, ⟨_, rfl⟩, hW, hsame.mono hcF hsF⟩
    show Q8 Z a LN sN h0 n0 _ T55.heap _
    rw [e55]
    have np1 : own_np sN LN = 1 := by
      have q := own_f13 ⟨own_np sN LN, by omega⟩
      dsimp only at q
      rw [hc83] at q
      have q2 : (1 : Int32).toInt = 1 := by decide
      omega
    have inv' : own_Inv Z h55 ps k29 sN LN (own_np sN LN) pg := by
      refine ⟨⟨clp, A_p.other W55 (Ne.symm nap), q_p, S_p, G_p⟩, fun j hj => ?_, fun j hj => ⟨(I_l j hj).1, by rw [W55.size]; exact (I_l j hj).2⟩, I_i⟩
      obtain ⟨cj, Aj, Sj, Gj⟩ := I_p j hj
      exact ⟨cj, Aj.other W55 (Ne.symm (Nat.ne_of_lt (Nat.lt_trans hap (I_l j hj).1))), Sj, Gj⟩
    exact ⟨ps, _, pg, rfl, N55, KW56, sz_ps, E_a, F_s, F_p, inv', Or.inl ⟨np1, F_o⟩⟩
  · have g58 : Gz p.tables e below A T44 (mkF m 95 #[.val (.ref a), .val (.long (own_l LN)), .second, .val (.int (own_i sN)), .val (.long (own_l (2 ^ sN))), .second, .val (.int (own_i (own_np sN LN)))] [(.ref a)]) := fun tq kq => g47 tq (XS.icmpYes X44.here hx rfl (pc0 := 83) (pc' := 95) rfl (hb hby d8_83) rfl (feq hc83).2 (by decide) (by decide) kq)
    have g59 : Gz p.tables e below A T44 (mkF m 96 #[.val (.ref a), .val (.long (own_l LN)), .second, .val (.int (own_i sN)), .val (.long (own_l (2 ^ sN))), .second, .val (.int (own_i (own_np sN LN)))] [.null, (.ref a)]) := fun tq kq => g58 tq (XS.aconstNull X44.here hx rfl (hb hby d8_95) kq)
    obtain ⟨T60, h60, X60, e60, W60, st60⟩ := putF X44 hx hZ hown (host := "") (Or.inl (hw _ (List.mem_of_getElem? (i := 24) rfl))) Via.refl e44 F_o E_a (Or.inr ⟨(hw _ (List.mem_of_getElem? (i := 25) rfl)), rfl, hnm⟩) (hw _ (List.mem_of_getElem? (i := 2) rfl)) (ty := (.array .long)) (by decide) rfl rfl (g := (mkF m 96 #[.val (.ref a), .val (.long (own_l LN)), .second, .val (.int (own_i sN)), .val (.long (own_l (2 ^ sN))), .second, .val (.int (own_i (own_np sN LN)))] [.null, (.ref a)])) rfl rfl (hb hby d8_96)
    have KW61 := KL.wr W60 (Or.inl (List.mem_of_getElem? (i := 0) rfl))
    have E_a := E_a.wr W60
    have F_s := F_s.other W60 (Or.inr (slot_ne (Or.inr (hw _ (List.mem_of_getElem? (i := 13) rfl))) (Or.inr (hw _ (List.mem_of_getElem? (i := 25) rfl))) (by decide) (t := .int) (t' := (.array .long)) (by decide) (by decide)))
    have F_p := F_p.other W60 (Or.inr (slot_ne (Or.inr (hw _ (List.mem_of_getElem? (i := 17) rfl))) (Or.inr (hw _ (List.mem_of_getElem? (i := 25) rfl))) (by decide) (t := (.array (.array .long))) (t' := (.array .long)) (by decide) (by decide)))
    have F_o := F_o.same W60
    have N60 := Fr.snoc X60 NL g_a
    have g62 : Gz p.tables e below A T60 (mkF m 99 #[.val (.ref a), .val (.long (own_l LN)), .second, .val (.int (own_i sN)), .val (.long (own_l (2 ^ sN))), .second, .val (.int (own_i (own_np sN LN)))] []) := fun tq kq => g59 tq (st60 tq kq)
    obtain ⟨fs, hr, hrun, hended, hW, hsame⟩ := X60.leave (v := none) (fun _ => rfl)
    refine ⟨_, _, g62 _ (X60.returnOut hx Bd.returns (hb hby d8_99) hr), hrun, hended, _, _, rfl, ?_, ⟨_, rfl⟩, hW, hsame.mono hcF hsF⟩
    show Q8 Z a LN sN h0 n0 _ T60.heap _
    rw [e60]
    have np1 : own_np sN LN ≠ 1 := fun q => hc83 (by rw [q]; rfl)
    have inv' : own_Inv Z h60 ps k29 sN LN (own_np sN LN) pg := by
      refine ⟨⟨clp, A_p.other W60 (Ne.symm nap), q_p, S_p, G_p⟩, fun j hj => ?_, fun j hj => ⟨(I_l j hj).1, by rw [W60.size]; exact (I_l j hj).2⟩, I_i⟩
      obtain ⟨cj, Aj, Sj, Gj⟩ := I_p j hj
      exact ⟨cj, Aj.other W60 (Ne.symm (Nat.ne_of_lt (Nat.lt_trans hap (I_l j hj).1))), Sj, Gj⟩
    exact ⟨ps, _, pg, rfl, N60, KW61, sz_ps, E_a, F_s, F_p, inv', Or.inr ⟨np1, F_o⟩⟩

theorem pn0 : plainName "com/example/rarebit/rarebit/util/WordArrayGetAndBitwiseOrPlainPinLaw" = true := by first | (simp [plainName, overriddenIn]; done) | decide +kernel
theorem pd0_0 : parseMethodDescriptor "(JI)V" = some ⟨[.long, .int], none⟩ := by decide +kernel
theorem pd0_1 : parseMethodDescriptor "(JJ)V" = some ⟨[.long, .long], none⟩ := by decide +kernel
theorem pd0_2 : parseMethodDescriptor "(JJ)J" = some ⟨[.long, .long], some .long⟩ := by decide +kernel
theorem pd0_3 : parseMethodDescriptor "(J)J" = some ⟨[.long], some .long⟩ := by decide +kernel
theorem ef0 (m : MethodId) (x0 : Int32) (x1 : Int32) (x2 : Int32) (x3 : Int64) (x4 : Int64) (x5 : Int64) : entryFrame m #[(.int x0), (.int x1), (.int x2), (.long x3), (.long x4), (.long x5)] maxLocals = mkF m 0 #[.val (.int x0), .val (.int x1), .val (.int x2), .val (.long x3), .second, .val (.long x4), .second, .val (.long x5), .second, .unset, .unset, .unset, .unset, .unset, .unset, .unset, .unset, .unset, .unset, .unset, .unset] [] := by first | (simp [entryFrame, mkF, argsToLocals, Value.category, maxLocals]; done) | rfl
def Q0 (Z : State) (p0 : Int32) (p1 : Int32) (p2 : Int32) (w0 : Int64) (mask : Int64) (vv : Int64) (LN : Nat) (sN : Nat) (iN : Nat) (oN : Nat) (h0 : Heap) (n0 : Nat) (v : Option Value) (h : Heap) (L : List Loc) : Prop := v = some (.int 1) ∧ Fr n0 L
set_option maxRecDepth 65536 in
set_option maxHeartbeats 40000000 in
theorem rm0 (l : Launch) (Z : State) (a0 : Array Value) (hw : ∀ d ∈ tables_1, d.before a0 Z = true) (ws : List Jvm.Cond) (p0 : Int32) (p1 : Int32) (p2 : Int32) (w0 : Int64) (mask : Int64) (vv : Int64) (LN : Nat) (sN : Nat) (iN : Nat) (oN : Nat) (h0 : Heap) (n0 : Nat) (Z0 : n0 ≤ h0.size) (hs : sN < 8) (hL : LN < 17) (hL1 : 1 ≤ LN) (hiL : iN < LN) (hoL : oN < LN) (hi16 : iN < 16) (ho16 : oN < 16) (hlen : ((p0 &&& (15 : Int32)) + (1 : Int32)) = (own_i LN)) (hsh : (((p0.toUInt32 >>> ((4 : Int32) &&& 31).toUInt32).toInt32) &&& (7 : Int32)) = (own_i sN)) (hidx : ((p1 &&& (2147483647 : Int32)) % (own_i LN)) = (own_i iN)) (hoth : ((p2 &&& (2147483647 : Int32)) % (own_i LN)) = (own_i oN)) (hnz : (own_i LN) ≠ 0) :
    MetFree l x (head1 (Jvm.Cond.code x code maxLocals ret :: ws) room_1) (fun aq Uq => aq = #[(.int p0), (.int p1), (.int p2), (.long w0), (.long mask), (.long vv)] ∧ Z.Warmed39 Uq.vm ∧ Uq.heap = h0) (fun _ _ _ _ _ => True) (fun _ Uq oq Uq' => ∃ vq Lq, oq = .returned vq ∧ Q0 Z p0 p1 p2 w0 mask vv LN sN iN oN h0 n0 vq Uq'.heap Lq ∧ FrameEnd Uq oq Uq' Lq room_1.cells room_1.slots) := by
  refine MetFree.of_bodySF (plainFor_of_name pn0) hisR ?_
  intro p e s m args below meth c s₁ Bd hml0 hP hK
  obtain ⟨rfl, hZ, hh⟩ := hP
  have hx := Bd.exec
  have hby := Bd.bytes
  have hml : c.maxLocals = 21 := hml0
  have hown : s.vm.findClass "com/example/rarebit/rarebit/util/WordArrayGetAndBitwiseOrPlainPinLaw" = some m.cls := findClass_of_methodNamed Bd.named
  have hnm := (name_of_methodNamed Bd.named Bd.method).1
  have X0 : Stand p l e room_1 s m #[(.int p0), (.int p1), (.int p2), (.long w0), (.long mask), (.long vv)] below meth c s₁ [] 0 0 := Stand.of_body Bd
  have e0 : s₁.heap = h0 := by rw [← hh, Bd.state]; rfl
  have N0 := Fr.nil n0
  obtain ⟨A, hA⟩ : ∃ A, A = s₁.setTop (entryFrame m #[(.int p0), (.int p1), (.int p2), (.long w0), (.long mask), (.long vv)] maxLocals) := ⟨_, rfl⟩
  rw [← hA]
  have g0 : Gz p.tables e below A s₁ (mkF m 0 #[.val (.int p0), .val (.int p1), .val (.int p2), .val (.long w0), .second, .val (.long mask), .second, .val (.long vv), .second, .unset, .unset, .unset, .unset, .unset, .unset, .unset, .unset, .unset, .unset, .unset, .unset] []) := fun tq kq => by rw [hA]; exact castTop (ef0 m p0 p1 p2 w0 mask vv) kq
  have g1 : Gz p.tables e below A s₁ (mkF m 1 #[.val (.int p0), .val (.int p1), .val (.int p2), .val (.long w0), .second, .val (.long mask), .second, .val (.long vv), .second, .unset, .unset, .unset, .unset, .unset, .unset, .unset, .unset, .unset, .unset, .unset, .unset] [(.int p0)]) := fun tq kq => g0 tq (XS.iloadN X0.here hx rfl (hb hby at_0) rfl kq)
  have g2 : Gz p.tables e below A s₁ (mkF m 3 #[.val (.int p0), .val (.int p1), .val (.int p2), .val (.long w0), .second, .val (.long mask), .second, .val (.long vv), .second, .unset, .unset, .unset, .unset, .unset, .unset, .unset, .unset, .unset, .unset, .unset, .unset] [(.int (15 : Int32)), (.int p0)]) := fun tq kq => g1 tq (XS.bipush X0.here hx rfl (hb hby at_1) kq)
  have g3 : Gz p.tables e below A s₁ (mkF m 4 #[.val (.int p0), .val (.int p1), .val (.int p2), .val (.long w0), .second, .val (.long mask), .second, .val (.long vv), .second, .unset, .unset, .unset, .unset, .unset, .unset, .unset, .unset, .unset, .unset, .unset, .unset] [(.int (p0 &&& (15 : Int32)))]) := fun tq kq => g2 tq (XS.iand X0.here hx rfl (hb hby at_3) rfl kq)
  have g4 : Gz p.tables e below A s₁ (mkF m 5 #[.val (.int p0), .val (.int p1), .val (.int p2), .val (.long w0), .second, .val (.long mask), .second, .val (.long vv), .second, .unset, .unset, .unset, .unset, .unset, .unset, .unset, .unset, .unset, .unset, .unset, .unset] [(.int (1 : Int32)), (.int (p0 &&& (15 : Int32)))]) := fun tq kq => g3 tq (XS.iconst X0.here hx rfl (hb hby at_4) kq)
  have g5 : Gz p.tables e below A s₁ (mkF m 6 #[.val (.int p0), .val (.int p1), .val (.int p2), .val (.long w0), .second, .val (.long mask), .second, .val (.long vv), .second, .unset, .unset, .unset, .unset, .unset, .unset, .unset, .unset, .unset, .unset, .unset, .unset] [(.int ((p0 &&& (15 : Int32)) + (1 : Int32)))]) := fun tq kq => g4 tq (XS.iadd X0.here hx rfl (hb hby at_5) rfl kq)
  have hn6 : ((p0 &&& (15 : Int32)) + (1 : Int32)) = (own_i LN) := hlen
  rw [hn6] at g5
  have g7 : Gz p.tables e below A s₁ (mkF m 8 #[.val (.int p0), .val (.int p1), .val (.int p2), .val (.long w0), .second, .val (.long mask), .second, .val (.long vv), .second, .val (.int (own_i LN)), .unset, .unset, .unset, .unset, .unset, .unset, .unset, .unset, .unset, .unset, .unset] []) := fun tq kq => g5 tq (XS.istore X0.here hx rfl (hb hby at_6) rfl (l' := #[.val (.int p0), .val (.int p1), .val (.int p2), .val (.long w0), .second, .val (.long mask), .second, .val (.long vv), .second, .val (.int (own_i LN)), .unset, .unset, .unset, .unset, .unset, .unset, .unset, .unset, .unset, .unset, .unset]) rfl kq)
  have g8 : Gz p.tables e below A s₁ (mkF m 9 #[.val (.int p0), .val (.int p1), .val (.int p2), .val (.long w0), .second, .val (.long mask), .second, .val (.long vv), .second, .val (.int (own_i LN)), .unset, .unset, .unset, .unset, .unset, .unset, .unset, .unset, .unset, .unset, .unset] [(.int p0)]) := fun tq kq => g7 tq (XS.iloadN X0.here hx rfl (hb hby at_8) rfl kq)
  have g9 : Gz p.tables e below A s₁ (mkF m 10 #[.val (.int p0), .val (.int p1), .val (.int p2), .val (.long w0), .second, .val (.long mask), .second, .val (.long vv), .second, .val (.int (own_i LN)), .unset, .unset, .unset, .unset, .unset, .unset, .unset, .unset, .unset, .unset, .unset] [(.int (4 : Int32)), (.int p0)]) := fun tq kq => g8 tq (XS.iconst X0.here hx rfl (hb hby at_9) kq)
  have g10 : Gz p.tables e below A s₁ (mkF m 11 #[.val (.int p0), .val (.int p1), .val (.int p2), .val (.long w0), .second, .val (.long mask), .second, .val (.long vv), .second, .val (.int (own_i LN)), .unset, .unset, .unset, .unset, .unset, .unset, .unset, .unset, .unset, .unset, .unset] [(.int ((p0.toUInt32 >>> ((4 : Int32) &&& 31).toUInt32).toInt32))]) := fun tq kq => g9 tq (XS.iushr X0.here hx rfl (hb hby at_10) rfl kq)
  have g11 : Gz p.tables e below A s₁ (mkF m 13 #[.val (.int p0), .val (.int p1), .val (.int p2), .val (.long w0), .second, .val (.long mask), .second, .val (.long vv), .second, .val (.int (own_i LN)), .unset, .unset, .unset, .unset, .unset, .unset, .unset, .unset, .unset, .unset, .unset] [(.int (7 : Int32)), (.int ((p0.toUInt32 >>> ((4 : Int32) &&& 31).toUInt32).toInt32))]) := fun tq kq => g10 tq (XS.bipush X0.here hx rfl (hb hby at_11) kq)
  have g12 : Gz p.tables e below A s₁ (mkF m 14 #[.val (.int p0), .val (.int p1), .val (.int p2), .val (.long w0), .second, .val (.long mask), .second, .val (.long vv), .second, .val (.int (own_i LN)), .unset, .unset, .unset, .unset, .unset, .unset, .unset, .unset, .unset, .unset, .unset] [(.int (((p0.toUInt32 >>> ((4 : Int32) &&& 31).toUInt32).toInt32) &&& (7 : Int32)))]) := fun tq kq => g11 tq (XS.iand X0.here hx rfl (hb hby at_13) rfl kq)
  have hn13 : (((p0.toUInt32 >>> ((4 : Int32) &&& 31).toUInt32).toInt32) &&& (7 : Int32)) = (own_i sN) := hsh
  rw [hn13] at g12
  have g14 : Gz p.tables e below A s₁ (mkF m 16 #[.val (.int p0), .val (.int p1), .val (.int p2), .val (.long w0), .second, .val (.long mask), .second, .val (.long vv), .second, .val (.int (own_i LN)), .val (.int (own_i sN)), .unset, .unset, .unset, .unset, .unset, .unset, .unset, .unset, .unset, .unset] []) := fun tq kq => g12 tq (XS.istore X0.here hx rfl (hb hby at_14) rfl (l' := #[.val (.int p0), .val (.int p1), .val (.int p2), .val (.long w0), .second, .val (.long mask), .second, .val (.long vv), .second, .val (.int (own_i LN)), .val (.int (own_i sN)), .unset, .unset, .unset, .unset, .unset, .unset, .unset, .unset, .unset, .unset]) rfl kq)
  have g15 : Gz p.tables e below A s₁ (mkF m 17 #[.val (.int p0), .val (.int p1), .val (.int p2), .val (.long w0), .second, .val (.long mask), .second, .val (.long vv), .second, .val (.int (own_i LN)), .val (.int (own_i sN)), .unset, .unset, .unset, .unset, .unset, .unset, .unset, .unset, .unset, .unset] [(.int p1)]) := fun tq kq => g14 tq (XS.iloadN X0.here hx rfl (hb hby at_16) rfl kq)
  have g16 : Gz p.tables e below A s₁ (mkF m 19 #[.val (.int p0), .val (.int p1), .val (.int p2), .val (.long w0), .second, .val (.long mask), .second, .val (.long vv), .second, .val (.int (own_i LN)), .val (.int (own_i sN)), .unset, .unset, .unset, .unset, .unset, .unset, .unset, .unset, .unset, .unset] [(.int (2147483647 : Int32)), (.int p1)]) := fun tq kq => g15 tq (X0.ldcInt hx hown (mvT hZ (hw _ (List.mem_of_getElem? (i := 0) rfl))) (g := (mkF m 17 #[.val (.int p0), .val (.int p1), .val (.int p2), .val (.long w0), .second, .val (.long mask), .second, .val (.long vv), .second, .val (.int (own_i LN)), .val (.int (own_i sN)), .unset, .unset, .unset, .unset, .unset, .unset, .unset, .unset, .unset, .unset] [(.int p1)])) rfl (hb hby at_17) _ kq)
  have g17 : Gz p.tables e below A s₁ (mkF m 20 #[.val (.int p0), .val (.int p1), .val (.int p2), .val (.long w0), .second, .val (.long mask), .second, .val (.long vv), .second, .val (.int (own_i LN)), .val (.int (own_i sN)), .unset, .unset, .unset, .unset, .unset, .unset, .unset, .unset, .unset, .unset] [(.int (p1 &&& (2147483647 : Int32)))]) := fun tq kq => g16 tq (XS.iand X0.here hx rfl (hb hby at_19) rfl kq)
  have g18 : Gz p.tables e below A s₁ (mkF m 22 #[.val (.int p0), .val (.int p1), .val (.int p2), .val (.long w0), .second, .val (.long mask), .second, .val (.long vv), .second, .val (.int (own_i LN)), .val (.int (own_i sN)), .unset, .unset, .unset, .unset, .unset, .unset, .unset, .unset, .unset, .unset] [(.int (own_i LN)), (.int (p1 &&& (2147483647 : Int32)))]) := fun tq kq => g17 tq (XS.iload X0.here hx rfl (hb hby at_20) rfl kq)
  have g19 : Gz p.tables e below A s₁ (mkF m 23 #[.val (.int p0), .val (.int p1), .val (.int p2), .val (.long w0), .second, .val (.long mask), .second, .val (.long vv), .second, .val (.int (own_i LN)), .val (.int (own_i sN)), .unset, .unset, .unset, .unset, .unset, .unset, .unset, .unset, .unset, .unset] [(.int ((p1 &&& (2147483647 : Int32)) % (own_i LN)))]) := fun tq kq => g18 tq (iremM X0 hx rfl (hb hby at_22) rfl hnz kq)
  have hn20 : ((p1 &&& (2147483647 : Int32)) % (own_i LN)) = (own_i iN) := hidx
  rw [hn20] at g19
  have g21 : Gz p.tables e below A s₁ (mkF m 24 #[.val (.int p0), .val (.int p1), .val (.int p2), .val (.long w0), .second, .val (.long mask), .second, .val (.long vv), .second, .val (.int (own_i LN)), .val (.int (own_i sN)), .unset, .unset, .unset, .unset, .unset, .unset, .unset, .unset, .unset, .unset] [(.long ((own_i iN).toInt64))]) := fun tq kq => g19 tq (XS.i2l X0.here hx rfl (hb hby at_23) rfl kq)
  have hn22 : ((own_i iN).toInt64) = (own_l iN) := own_f11 ⟨iN, by omega⟩
  rw [hn22] at g21
  have g23 : Gz p.tables e below A s₁ (mkF m 26 #[.val (.int p0), .val (.int p1), .val (.int p2), .val (.long w0), .second, .val (.long mask), .second, .val (.long vv), .second, .val (.int (own_i LN)), .val (.int (own_i sN)), .val (.long (own_l iN)), .second, .unset, .unset, .unset, .unset, .unset, .unset, .unset, .unset] []) := fun tq kq => g21 tq (XS.lstore X0.here hx rfl (hb hby at_24) rfl (l' := #[.val (.int p0), .val (.int p1), .val (.int p2), .val (.long w0), .second, .val (.long mask), .second, .val (.long vv), .second, .val (.int (own_i LN)), .val (.int (own_i sN)), .val (.long (own_l iN)), .second, .unset, .unset, .unset, .unset, .unset, .unset, .unset, .unset]) rfl kq)
  have g24 : Gz p.tables e below A s₁ (mkF m 27 #[.val (.int p0), .val (.int p1), .val (.int p2), .val (.long w0), .second, .val (.long mask), .second, .val (.long vv), .second, .val (.int (own_i LN)), .val (.int (own_i sN)), .val (.long (own_l iN)), .second, .unset, .unset, .unset, .unset, .unset, .unset, .unset, .unset] [(.int p2)]) := fun tq kq => g23 tq (XS.iloadN X0.here hx rfl (hb hby at_26) rfl kq)
  have g25 : Gz p.tables e below A s₁ (mkF m 29 #[.val (.int p0), .val (.int p1), .val (.int p2), .val (.long w0), .second, .val (.long mask), .second, .val (.long vv), .second, .val (.int (own_i LN)), .val (.int (own_i sN)), .val (.long (own_l iN)), .second, .unset, .unset, .unset, .unset, .unset, .unset, .unset, .unset] [(.int (2147483647 : Int32)), (.int p2)]) := fun tq kq => g24 tq (X0.ldcInt hx hown (mvT hZ (hw _ (List.mem_of_getElem? (i := 0) rfl))) (g := (mkF m 27 #[.val (.int p0), .val (.int p1), .val (.int p2), .val (.long w0), .second, .val (.long mask), .second, .val (.long vv), .second, .val (.int (own_i LN)), .val (.int (own_i sN)), .val (.long (own_l iN)), .second, .unset, .unset, .unset, .unset, .unset, .unset, .unset, .unset] [(.int p2)])) rfl (hb hby at_27) _ kq)
  have g26 : Gz p.tables e below A s₁ (mkF m 30 #[.val (.int p0), .val (.int p1), .val (.int p2), .val (.long w0), .second, .val (.long mask), .second, .val (.long vv), .second, .val (.int (own_i LN)), .val (.int (own_i sN)), .val (.long (own_l iN)), .second, .unset, .unset, .unset, .unset, .unset, .unset, .unset, .unset] [(.int (p2 &&& (2147483647 : Int32)))]) := fun tq kq => g25 tq (XS.iand X0.here hx rfl (hb hby at_29) rfl kq)
  have g27 : Gz p.tables e below A s₁ (mkF m 32 #[.val (.int p0), .val (.int p1), .val (.int p2), .val (.long w0), .second, .val (.long mask), .second, .val (.long vv), .second, .val (.int (own_i LN)), .val (.int (own_i sN)), .val (.long (own_l iN)), .second, .unset, .unset, .unset, .unset, .unset, .unset, .unset, .unset] [(.int (own_i LN)), (.int (p2 &&& (2147483647 : Int32)))]) := fun tq kq => g26 tq (XS.iload X0.here hx rfl (hb hby at_30) rfl kq)
  have g28 : Gz p.tables e below A s₁ (mkF m 33 #[.val (.int p0), .val (.int p1), .val (.int p2), .val (.long w0), .second, .val (.long mask), .second, .val (.long vv), .second, .val (.int (own_i LN)), .val (.int (own_i sN)), .val (.long (own_l iN)), .second, .unset, .unset, .unset, .unset, .unset, .unset, .unset, .unset] [(.int ((p2 &&& (2147483647 : Int32)) % (own_i LN)))]) := fun tq kq => g27 tq (iremM X0 hx rfl (hb hby at_32) rfl hnz kq)
  have hn29 : ((p2 &&& (2147483647 : Int32)) % (own_i LN)) = (own_i oN) := hoth
  rw [hn29] at g28
  have g30 : Gz p.tables e below A s₁ (mkF m 34 #[.val (.int p0), .val (.int p1), .val (.int p2), .val (.long w0), .second, .val (.long mask), .second, .val (.long vv), .second, .val (.int (own_i LN)), .val (.int (own_i sN)), .val (.long (own_l iN)), .second, .unset, .unset, .unset, .unset, .unset, .unset, .unset, .unset] [(.long ((own_i oN).toInt64))]) := fun tq kq => g28 tq (XS.i2l X0.here hx rfl (hb hby at_33) rfl kq)
  have hn31 : ((own_i oN).toInt64) = (own_l oN) := own_f11 ⟨oN, by omega⟩
  rw [hn31] at g30
  have g32 : Gz p.tables e below A s₁ (mkF m 36 #[.val (.int p0), .val (.int p1), .val (.int p2), .val (.long w0), .second, .val (.long mask), .second, .val (.long vv), .second, .val (.int (own_i LN)), .val (.int (own_i sN)), .val (.long (own_l iN)), .second, .val (.long (own_l oN)), .second, .unset, .unset, .unset, .unset, .unset, .unset] []) := fun tq kq => g30 tq (XS.lstore X0.here hx rfl (hb hby at_34) rfl (l' := #[.val (.int p0), .val (.int p1), .val (.int p2), .val (.long w0), .second, .val (.long mask), .second, .val (.long vv), .second, .val (.int (own_i LN)), .val (.int (own_i sN)), .val (.long (own_l iN)), .second, .val (.long (own_l oN)), .second, .unset, .unset, .unset, .unset, .unset, .unset]) rfl kq)
  obtain ⟨T33, h33, X33, e33, E33, A33, D33, -, st33⟩ := newO X0 hx hZ hown (hw _ (List.mem_of_getElem? (i := 1) rfl)) (hw _ (List.mem_of_getElem? (i := 2) rfl)) (hw _ (List.mem_of_getElem? (i := 3) rfl)) e0 (g := (mkF m 36 #[.val (.int p0), .val (.int p1), .val (.int p2), .val (.long w0), .second, .val (.long mask), .second, .val (.long vv), .second, .val (.int (own_i LN)), .val (.int (own_i sN)), .val (.long (own_l iN)), .second, .val (.long (own_l oN)), .second, .unset, .unset, .unset, .unset, .unset, .unset] [])) rfl (hb hby at_36) (by decide) (by decide)
  obtain ⟨b33, gb33⟩ : ∃ z, z = h0.size := ⟨_, rfl⟩
  rw [← gb33] at A33 D33 st33
  have sz_b33 : h0.size ≤ b33 := Nat.le_of_eq gb33.symm
  have g_b33 : n0 ≤ b33 := Nat.le_trans Z0 sz_b33
  have K34 := E33
  have F_length_b33 : Fld Z h33 b33 "com/example/rarebit/rarebit/util/WordArray" "length" "J" (.long (0 : Int64)) := D33 (Or.inr (hw _ (List.mem_of_getElem? (i := 11) rfl))) (ty := .long) (by decide)
  have F_pageShift_b33 : Fld Z h33 b33 "com/example/rarebit/rarebit/util/WordArray" "pageShift" "I" (.int (0 : Int32)) := D33 (Or.inr (hw _ (List.mem_of_getElem? (i := 13) rfl))) (ty := .int) (by decide)
  have F_pages_b33 : Fld Z h33 b33 "com/example/rarebit/rarebit/util/WordArray" "pages" "[[J" .null := D33 (Or.inr (hw _ (List.mem_of_getElem? (i := 17) rfl))) (ty := (.array (.array .long))) (by decide)
  have F_only_b33 : Fld Z h33 b33 "com/example/rarebit/rarebit/util/WordArray" "only" "[J" .null := D33 (Or.inr (hw _ (List.mem_of_getElem? (i := 25) rfl))) (ty := (.array .long)) (by decide)
  have g35 : Gz p.tables e below A T33 (mkF m 39 #[.val (.int p0), .val (.int p1), .val (.int p2), .val (.long w0), .second, .val (.long mask), .second, .val (.long vv), .second, .val (.int (own_i LN)), .val (.int (own_i sN)), .val (.long (own_l iN)), .second, .val (.long (own_l oN)), .second, .unset, .unset, .unset, .unset, .unset, .unset] [(.ref b33)]) := fun tq kq => g32 tq (st33 tq kq)
  have g36 : Gz p.tables e below A T33 (mkF m 40 #[.val (.int p0), .val (.int p1), .val (.int p2), .val (.long w0), .second, .val (.long mask), .second, .val (.long vv), .second, .val (.int (own_i LN)), .val (.int (own_i sN)), .val (.long (own_l iN)), .second, .val (.long (own_l oN)), .second, .unset, .unset, .unset, .unset, .unset, .unset] [(.ref b33), (.ref b33)]) := fun tq kq => g35 tq (XS.dup X33.here hx rfl (hb hby at_39) rfl rfl kq)
  have g37 : Gz p.tables e below A T33 (mkF m 42 #[.val (.int p0), .val (.int p1), .val (.int p2), .val (.long w0), .second, .val (.long mask), .second, .val (.long vv), .second, .val (.int (own_i LN)), .val (.int (own_i sN)), .val (.long (own_l iN)), .second, .val (.long (own_l oN)), .second, .unset, .unset, .unset, .unset, .unset, .unset] [(.int (own_i LN)), (.ref b33), (.ref b33)]) := fun tq kq => g36 tq (XS.iload X33.here hx rfl (hb hby at_40) rfl kq)
  have g38 : Gz p.tables e below A T33 (mkF m 43 #[.val (.int p0), .val (.int p1), .val (.int p2), .val (.long w0), .second, .val (.long mask), .second, .val (.long vv), .second, .val (.int (own_i LN)), .val (.int (own_i sN)), .val (.long (own_l iN)), .second, .val (.long (own_l oN)), .second, .unset, .unset, .unset, .unset, .unset, .unset] [(.long ((own_i LN).toInt64)), (.ref b33), (.ref b33)]) := fun tq kq => g37 tq (XS.i2l X33.here hx rfl (hb hby at_42) rfl kq)
  have hn39 : ((own_i LN).toInt64) = (own_l LN) := own_f11 ⟨LN, hL⟩
  rw [hn39] at g38
  have g40 : Gz p.tables e below A T33 (mkF m 45 #[.val (.int p0), .val (.int p1), .val (.int p2), .val (.long w0), .second, .val (.long mask), .second, .val (.long vv), .second, .val (.int (own_i LN)), .val (.int (own_i sN)), .val (.long (own_l iN)), .second, .val (.long (own_l oN)), .second, .unset, .unset, .unset, .unset, .unset, .unset] [(.int (own_i sN)), (.long (own_l LN)), (.ref b33), (.ref b33)]) := fun tq kq => g38 tq (XS.iload X33.here hx rfl (hb hby at_43) rfl kq)
  obtain ⟨_, _, ⟨T41, L41, k41, n41⟩, -, X41, ⟨Lc41, hQ41, l41, y41, z41⟩, st41⟩ := X33.specialBack hx (y := (⟨"com/example/rarebit/rarebit/util/WordArray", "<init>", "(JI)V"⟩ : MethodName)) rfl hown (mvT hZ (hw _ (List.mem_of_getElem? (i := 4) rfl))) (mvT hZ (hw _ (List.mem_of_getElem? (i := 5) rfl))) (mvT hZ (hw _ (List.mem_of_getElem? (i := 6) rfl))) (by decide) (backOf (W := 1) (rm8 l Z a0 hw [] b33 LN sN h33 n0 (Nat.le_trans Z0 K34.1) A33 F_length_b33 F_pageShift_b33 F_pages_b33 F_only_b33 g_b33 hs hL hL1) hZ (hw _ (List.mem_of_getElem? (i := 6) rfl)) (hw _ (List.mem_of_getElem? (i := 3) rfl)) (by decide) (by decide)) (g := (mkF m 45 #[.val (.int p0), .val (.int p1), .val (.int p2), .val (.long w0), .second, .val (.long mask), .second, .val (.long vv), .second, .val (.int (own_i LN)), .val (.int (own_i sN)), .val (.long (own_l iN)), .second, .val (.long (own_l oN)), .second, .unset, .unset, .unset, .unset, .unset, .unset] [(.int (own_i sN)), (.long (own_l LN)), (.ref b33), (.ref b33)])) rfl (by rw [hml]; rfl) (Steps.refl _) (a := b33) (argsL := [(.long (own_l LN)), (.int (own_i sN))]) (rest := [(.ref b33)]) (lenOf pd0_0 rfl) rfl (by show 2 * 0 + _ ≤ _; exact Nat.le_of_eq rfl) (hb hby at_45) (fun _ _ => ⟨rfl, e33, (by decide : 1 + 17 ≤ _), (by decide : 4 + 32 ≤ _)⟩)
  dsimp only [Pt.U, Pt.locs, Pt.cells, Pt.slots] at X41 l41 y41 z41 st41 hQ41
  subst l41 y41 z41
  obtain ⟨ps, k41, pg, rfl, N41q, KQ41, sz_ps, EQ41, FS41, FP41, inv, HM41⟩ := hQ41
  have N41 := Fr.app N0 N41q
  have g42 : Gz p.tables e below A T41 (mkF m 48 #[.val (.int p0), .val (.int p1), .val (.int p2), .val (.long w0), .second, .val (.long mask), .second, .val (.long vv), .second, .val (.int (own_i LN)), .val (.int (own_i sN)), .val (.long (own_l iN)), .second, .val (.long (own_l oN)), .second, .unset, .unset, .unset, .unset, .unset, .unset] [(.ref b33)]) := fun tq kq => g40 tq (st41.trans kq)
  have K43 := own_extK K34 KQ41 (allS sz_b33 all0)
  obtain ⟨⟨clp, A_p, q_p, S_p, G_p⟩, I_p, I_l, I_i⟩ := inv
  have hps0 : h0.size ≤ ps := Nat.le_trans K34.1 sz_ps
  have hap : b33 < ps := Nat.lt_of_lt_of_le A33.lt sz_ps
  have gen : ∀ q, q < LN → ∃ b t, b = pg (q / 2 ^ sN) ∧ t = q % 2 ^ sN ∧ own_At Z T41.heap b33 ps sN q b t ∧ own_Wd Z T41.heap b t 0 ∧ n0 ≤ b ∧ b33 ≠ b ∧ ps ≠ b := by
    intro q hq
    have w1 := own_f14 ⟨sN, hs⟩ ⟨LN, hL⟩ ⟨q, by omega⟩ hq
    dsimp only at w1
    obtain ⟨w1, w2, w3⟩ := w1
    obtain ⟨cj, Aj, Sj, Gj⟩ := I_p _ w1
    have l1 := (I_l _ w1).1
    refine ⟨_, _, rfl, rfl, ⟨EQ41, FS41, ?_⟩, ⟨cj, Aj, by rw [Sj]; exact w2, Gj _ w2⟩, Nat.le_trans (Nat.le_trans Z0 hps0) (Nat.le_of_lt l1), Nat.ne_of_lt (Nat.lt_trans hap l1), Nat.ne_of_lt l1⟩
    rcases HM41 with ⟨np1, FO⟩ | ⟨np1, FO⟩
    · obtain ⟨v1, v2⟩ := w3 np1
      rw [v1]
      exact Or.inl ⟨FO, v2.symm⟩
    · exact Or.inr ⟨FO, FP41, rfl, clp, A_p, by rw [S_p]; exact w1, G_p _ w1⟩
  obtain ⟨bi, ti, hbi, hti, ATi, WDi, gbi, n1i, n2i⟩ := gen iN hiL
  obtain ⟨bo, tO, hbo, hto, ATo, WDo, gbo, n1o, n2o⟩ := gen oN hoL
  have hne : oN ≠ iN → bo ≠ bi ∨ tO ≠ ti := by
    intro hne
    by_cases hb : bo = bi
    · refine Or.inr fun ht => hne ?_
      rw [hbo, hbi] at hb
      have q1 := own_f14 ⟨sN, hs⟩ ⟨LN, hL⟩ ⟨oN, by omega⟩ hoL
      have q2 := own_f14 ⟨sN, hs⟩ ⟨LN, hL⟩ ⟨iN, by omega⟩ hiL
      dsimp only at q1 q2
      have q3 := I_i _ _ q1.1 q2.1 hb
      have d1 := Nat.div_add_mod oN (2 ^ sN)
      have d2 := Nat.div_add_mod iN (2 ^ sN)
      rw [hto, hti] at ht
      rw [q3, ht] at d1
      omega
    · exact Or.inl hb
  have g44 : Gz p.tables e below A T41 (mkF m 50 #[.val (.int p0), .val (.int p1), .val (.int p2), .val (.long w0), .second, .val (.long mask), .second, .val (.long vv), .second, .val (.int (own_i LN)), .val (.int (own_i sN)), .val (.long (own_l iN)), .second, .val (.long (own_l oN)), .second, .val (.ref b33), .unset, .unset, .unset, .unset, .unset] []) := fun tq kq => g42 tq (XS.astore X41.here hx rfl (hb hby at_48) rfl rfl (l' := #[.val (.int p0), .val (.int p1), .val (.int p2), .val (.long w0), .second, .val (.long mask), .second, .val (.long vv), .second, .val (.int (own_i LN)), .val (.int (own_i sN)), .val (.long (own_l iN)), .second, .val (.long (own_l oN)), .second, .val (.ref b33), .unset, .unset, .unset, .unset, .unset]) rfl kq)
  have g45 : Gz p.tables e below A T41 (mkF m 52 #[.val (.int p0), .val (.int p1), .val (.int p2), .val (.long w0), .second, .val (.long mask), .second, .val (.long vv), .second, .val (.int (own_i LN)), .val (.int (own_i sN)), .val (.long (own_l iN)), .second, .val (.long (own_l oN)), .second, .val (.ref b33), .unset, .unset, .unset, .unset, .unset] [(.ref b33)]) := fun tq kq => g44 tq (XS.aload X41.here hx rfl (hb hby at_50) rfl rfl kq)
  have g46 : Gz p.tables e below A T41 (mkF m 54 #[.val (.int p0), .val (.int p1), .val (.int p2), .val (.long w0), .second, .val (.long mask), .second, .val (.long vv), .second, .val (.int (own_i LN)), .val (.int (own_i sN)), .val (.long (own_l iN)), .second, .val (.long (own_l oN)), .second, .val (.ref b33), .unset, .unset, .unset, .unset, .unset] [(.long (own_l oN)), (.ref b33)]) := fun tq kq => g45 tq (XS.lload X41.here hx rfl (hb hby at_52) rfl kq)
  have g47 : Gz p.tables e below A T41 (mkF m 56 #[.val (.int p0), .val (.int p1), .val (.int p2), .val (.long w0), .second, .val (.long mask), .second, .val (.long vv), .second, .val (.int (own_i LN)), .val (.int (own_i sN)), .val (.long (own_l iN)), .second, .val (.long (own_l oN)), .second, .val (.ref b33), .unset, .unset, .unset, .unset, .unset] [(.long vv), (.long (own_l oN)), (.ref b33)]) := fun tq kq => g46 tq (XS.lload X41.here hx rfl (hb hby at_54) rfl kq)
  have sz_bi : h0.size ≤ bi := by rw [hbi]; have q1 := own_f14 ⟨sN, hs⟩ ⟨LN, hL⟩ ⟨iN, by omega⟩ hiL; have q2 := (I_l _ q1.1).1; exact Nat.le_trans hps0 (Nat.le_of_lt q2)
  have sz_bo : h0.size ≤ bo := by rw [hbo]; have q1 := own_f14 ⟨sN, hs⟩ ⟨LN, hL⟩ ⟨oN, by omega⟩ hoL; have q2 := (I_l _ q1.1).1; exact Nat.le_trans hps0 (Nat.le_of_lt q2)
  by_cases hoi : iN = oN
  · subst hoi
    obtain rfl : bi = bo := by rw [hbo, hbi]
    obtain rfl : ti = tO := by rw [hto, hti]
    obtain ⟨cq48, kq48, q48a, q48b, q48c⟩ := isOf hZ rfl EQ41
    obtain ⟨_, _, ⟨T48, L48, k48, n48⟩, -, X48, ⟨Lc48, hQ48, l48, y48, z48⟩, st48⟩ := X41.virtualBack hx (y := (⟨"com/example/rarebit/rarebit/util/WordArray", "set", "(JJ)V"⟩ : MethodName)) (z := (⟨"com/example/rarebit/rarebit/util/WordArray", "set", "(JJ)V"⟩ : MethodName)) hown (mvT hZ (hw _ (List.mem_of_getElem? (i := 26) rfl))) (mvT hZ (hw _ (List.mem_of_getElem? (i := 27) rfl))) (notFace_of_selects (args := #[]) (mvT hZ (hw _ (List.mem_of_getElem? (i := 29) rfl)))) (mvT hZ (hw _ (List.mem_of_getElem? (i := 29) rfl))) (mvT hZ (hw _ (List.mem_of_getElem? (i := 28) rfl))) (by decide) (backOf (W := 0) (rm5 l Z a0 hw [] b33 ps sN iN bi ti 0 vv T41.heap n0 (Nat.le_trans Z0 K43.1) ATi WDi hs hi16 gbi) hZ (hw _ (List.mem_of_getElem? (i := 30) rfl)) (hw _ (List.mem_of_getElem? (i := 3) rfl)) (by decide) (by decide)) q48a q48c (g := (mkF m 56 #[.val (.int p0), .val (.int p1), .val (.int p2), .val (.long w0), .second, .val (.long mask), .second, .val (.long vv), .second, .val (.int (own_i LN)), .val (.int (own_i sN)), .val (.long (own_l iN)), .second, .val (.long (own_l iN)), .second, .val (.ref b33), .unset, .unset, .unset, .unset, .unset] [(.long vv), (.long (own_l iN)), (.ref b33)])) rfl (by rw [hml]; rfl) (Steps.refl _) (argsL := [(.long (own_l iN)), (.long vv)]) (rest := []) (lenOf pd0_1 rfl) rfl (by show 2 * 0 + _ ≤ _; exact Nat.le_of_eq rfl) (hb hby at_56) (fun _ _ => ⟨rfl, rfl, (by decide : 18 + 0 ≤ _), (by decide : 36 + 0 ≤ _)⟩)
    dsimp only [Pt.U, Pt.locs, Pt.cells, Pt.slots] at X48 l48 y48 z48 st48 hQ48
    subst l48 y48 z48
    obtain ⟨rfl, N48q, WQ48⟩ := hQ48
    have N48 := Fr.app N41 N48q
    have g49 : Gz p.tables e below A T48 (mkF m 59 #[.val (.int p0), .val (.int p1), .val (.int p2), .val (.long w0), .second, .val (.long mask), .second, .val (.long vv), .second, .val (.int (own_i LN)), .val (.int (own_i sN)), .val (.long (own_l iN)), .second, .val (.long (own_l iN)), .second, .val (.ref b33), .unset, .unset, .unset, .unset, .unset] []) := fun tq kq => g47 tq (st48.trans kq)
    have K48' := own_extW K43 WQ48 (sz_bi)
    have E48' := EQ41.wr WQ48
    have ATi := ATi.wr WQ48 n1i n2i
    have WDi := WDi.same WQ48
    have g50 : Gz p.tables e below A T48 (mkF m 61 #[.val (.int p0), .val (.int p1), .val (.int p2), .val (.long w0), .second, .val (.long mask), .second, .val (.long vv), .second, .val (.int (own_i LN)), .val (.int (own_i sN)), .val (.long (own_l iN)), .second, .val (.long (own_l iN)), .second, .val (.ref b33), .unset, .unset, .unset, .unset, .unset] [(.ref b33)]) := fun tq kq => g49 tq (XS.aload X48.here hx rfl (hb hby at_59) rfl rfl kq)
    have g51 : Gz p.tables e below A T48 (mkF m 63 #[.val (.int p0), .val (.int p1), .val (.int p2), .val (.long w0), .second, .val (.long mask), .second, .val (.long vv), .second, .val (.int (own_i LN)), .val (.int (own_i sN)), .val (.long (own_l iN)), .second, .val (.long (own_l iN)), .second, .val (.ref b33), .unset, .unset, .unset, .unset, .unset] [(.long (own_l iN)), (.ref b33)]) := fun tq kq => g50 tq (XS.lload X48.here hx rfl (hb hby at_61) rfl kq)
    have g52 : Gz p.tables e below A T48 (mkF m 64 #[.val (.int p0), .val (.int p1), .val (.int p2), .val (.long w0), .second, .val (.long mask), .second, .val (.long vv), .second, .val (.int (own_i LN)), .val (.int (own_i sN)), .val (.long (own_l iN)), .second, .val (.long (own_l iN)), .second, .val (.ref b33), .unset, .unset, .unset, .unset, .unset] [(.long w0), (.long (own_l iN)), (.ref b33)]) := fun tq kq => g51 tq (XS.lloadN X48.here hx rfl (hb hby at_63) rfl kq)
    obtain ⟨cq53, kq53, q53a, q53b, q53c⟩ := isOf hZ rfl E48'
    obtain ⟨_, _, ⟨T53, L53, k53, n53⟩, -, X53, ⟨Lc53, hQ53, l53, y53, z53⟩, st53⟩ := X48.virtualBack hx (y := (⟨"com/example/rarebit/rarebit/util/WordArray", "set", "(JJ)V"⟩ : MethodName)) (z := (⟨"com/example/rarebit/rarebit/util/WordArray", "set", "(JJ)V"⟩ : MethodName)) hown (mvT hZ (hw _ (List.mem_of_getElem? (i := 26) rfl))) (mvT hZ (hw _ (List.mem_of_getElem? (i := 27) rfl))) (notFace_of_selects (args := #[]) (mvT hZ (hw _ (List.mem_of_getElem? (i := 29) rfl)))) (mvT hZ (hw _ (List.mem_of_getElem? (i := 29) rfl))) (mvT hZ (hw _ (List.mem_of_getElem? (i := 28) rfl))) (by decide) (backOf (W := 0) (rm5 l Z a0 hw [] b33 ps sN iN bi ti vv w0 T48.heap n0 (Nat.le_trans Z0 K48'.1) ATi WDi hs hi16 gbi) hZ (hw _ (List.mem_of_getElem? (i := 30) rfl)) (hw _ (List.mem_of_getElem? (i := 3) rfl)) (by decide) (by decide)) q53a q53c (g := (mkF m 64 #[.val (.int p0), .val (.int p1), .val (.int p2), .val (.long w0), .second, .val (.long mask), .second, .val (.long vv), .second, .val (.int (own_i LN)), .val (.int (own_i sN)), .val (.long (own_l iN)), .second, .val (.long (own_l iN)), .second, .val (.ref b33), .unset, .unset, .unset, .unset, .unset] [(.long w0), (.long (own_l iN)), (.ref b33)])) rfl (by rw [hml]; rfl) (Steps.refl _) (argsL := [(.long (own_l iN)), (.long w0)]) (rest := []) (lenOf pd0_1 rfl) rfl (by show 2 * 0 + _ ≤ _; exact Nat.le_of_eq rfl) (hb hby at_64) (fun _ _ => ⟨rfl, rfl, (by decide : 18 + 0 ≤ _), (by decide : 36 + 0 ≤ _)⟩)
    dsimp only [Pt.U, Pt.locs, Pt.cells, Pt.slots] at X53 l53 y53 z53 st53 hQ53
    subst l53 y53 z53
    obtain ⟨rfl, N53q, WQ53⟩ := hQ53
    have N53 := Fr.app N48 N53q
    have g54 : Gz p.tables e below A T53 (mkF m 67 #[.val (.int p0), .val (.int p1), .val (.int p2), .val (.long w0), .second, .val (.long mask), .second, .val (.long vv), .second, .val (.int (own_i LN)), .val (.int (own_i sN)), .val (.long (own_l iN)), .second, .val (.long (own_l iN)), .second, .val (.ref b33), .unset, .unset, .unset, .unset, .unset] []) := fun tq kq => g52 tq (st53.trans kq)
    have K53' := own_extW K48' WQ53 (sz_bi)
    have E53' := E48'.wr WQ53
    have ATi := ATi.wr WQ53 n1i n2i
    have WDi := WDi.same WQ53
    have g55 : Gz p.tables e below A T53 (mkF m 69 #[.val (.int p0), .val (.int p1), .val (.int p2), .val (.long w0), .second, .val (.long mask), .second, .val (.long vv), .second, .val (.int (own_i LN)), .val (.int (own_i sN)), .val (.long (own_l iN)), .second, .val (.long (own_l iN)), .second, .val (.ref b33), .unset, .unset, .unset, .unset, .unset] [(.ref b33)]) := fun tq kq => g54 tq (XS.aload X53.here hx rfl (hb hby at_67) rfl rfl kq)
    have g56 : Gz p.tables e below A T53 (mkF m 71 #[.val (.int p0), .val (.int p1), .val (.int p2), .val (.long w0), .second, .val (.long mask), .second, .val (.long vv), .second, .val (.int (own_i LN)), .val (.int (own_i sN)), .val (.long (own_l iN)), .second, .val (.long (own_l iN)), .second, .val (.ref b33), .unset, .unset, .unset, .unset, .unset] [(.long (own_l iN)), (.ref b33)]) := fun tq kq => g55 tq (XS.lload X53.here hx rfl (hb hby at_69) rfl kq)
    have g57 : Gz p.tables e below A T53 (mkF m 73 #[.val (.int p0), .val (.int p1), .val (.int p2), .val (.long w0), .second, .val (.long mask), .second, .val (.long vv), .second, .val (.int (own_i LN)), .val (.int (own_i sN)), .val (.long (own_l iN)), .second, .val (.long (own_l iN)), .second, .val (.ref b33), .unset, .unset, .unset, .unset, .unset] [(.long mask), (.long (own_l iN)), (.ref b33)]) := fun tq kq => g56 tq (XS.lload X53.here hx rfl (hb hby at_71) rfl kq)
    obtain ⟨cq58, kq58, q58a, q58b, q58c⟩ := isOf hZ rfl E53'
    obtain ⟨_, _, ⟨T58, L58, k58, n58⟩, -, X58, ⟨Lc58, hQ58, l58, y58, z58⟩, st58⟩ := X53.virtualBack hx (y := (⟨"com/example/rarebit/rarebit/util/WordArray", "getAndBitwiseOrPlain", "(JJ)J"⟩ : MethodName)) (z := (⟨"com/example/rarebit/rarebit/util/WordArray", "getAndBitwiseOrPlain", "(JJ)J"⟩ : MethodName)) hown (mvT hZ (hw _ (List.mem_of_getElem? (i := 31) rfl))) (mvT hZ (hw _ (List.mem_of_getElem? (i := 32) rfl))) (notFace_of_selects (args := #[]) (mvT hZ (hw _ (List.mem_of_getElem? (i := 34) rfl)))) (mvT hZ (hw _ (List.mem_of_getElem? (i := 34) rfl))) (mvT hZ (hw _ (List.mem_of_getElem? (i := 33) rfl))) (by decide) (backOf (W := 0) (rm6 l Z a0 hw [] b33 ps sN iN bi ti w0 mask T53.heap n0 (Nat.le_trans Z0 K53'.1) ATi WDi hs hi16 gbi E53') hZ (hw _ (List.mem_of_getElem? (i := 35) rfl)) (hw _ (List.mem_of_getElem? (i := 3) rfl)) (by decide) (by decide)) q58a q58c (g := (mkF m 73 #[.val (.int p0), .val (.int p1), .val (.int p2), .val (.long w0), .second, .val (.long mask), .second, .val (.long vv), .second, .val (.int (own_i LN)), .val (.int (own_i sN)), .val (.long (own_l iN)), .second, .val (.long (own_l iN)), .second, .val (.ref b33), .unset, .unset, .unset, .unset, .unset] [(.long mask), (.long (own_l iN)), (.ref b33)])) rfl (by rw [hml]; rfl) (Steps.refl _) (argsL := [(.long (own_l iN)), (.long mask)]) (rest := []) (lenOf pd0_2 rfl) rfl (by show 2 * 0 + _ ≤ _; exact Nat.le_of_eq rfl) (hb hby at_73) (fun _ _ => ⟨rfl, rfl, (by decide : 18 + 0 ≤ _), (by decide : 36 + 0 ≤ _)⟩)
    dsimp only [Pt.U, Pt.locs, Pt.cells, Pt.slots] at X58 l58 y58 z58 st58 hQ58
    subst l58 y58 z58
    obtain ⟨rfl, N58q, WQ58⟩ := hQ58
    have N58 := Fr.app N53 N58q
    have g59 : Gz p.tables e below A T58 (mkF m 76 #[.val (.int p0), .val (.int p1), .val (.int p2), .val (.long w0), .second, .val (.long mask), .second, .val (.long vv), .second, .val (.int (own_i LN)), .val (.int (own_i sN)), .val (.long (own_l iN)), .second, .val (.long (own_l iN)), .second, .val (.ref b33), .unset, .unset, .unset, .unset, .unset] [(.long w0)]) := fun tq kq => g57 tq (st58.trans kq)
    have K58' := own_extW K53' WQ58 (sz_bi)
    have E58' := E53'.wr WQ58
    have ATi := ATi.wr WQ58 n1i n2i
    have WDi := WDi.same WQ58
    have g60 : Gz p.tables e below A T58 (mkF m 78 #[.val (.int p0), .val (.int p1), .val (.int p2), .val (.long w0), .second, .val (.long mask), .second, .val (.long vv), .second, .val (.int (own_i LN)), .val (.int (own_i sN)), .val (.long (own_l iN)), .second, .val (.long (own_l iN)), .second, .val (.ref b33), .val (.long w0), .second, .unset, .unset, .unset] []) := fun tq kq => g59 tq (XS.lstore X58.here hx rfl (hb hby at_76) rfl (l' := #[.val (.int p0), .val (.int p1), .val (.int p2), .val (.long w0), .second, .val (.long mask), .second, .val (.long vv), .second, .val (.int (own_i LN)), .val (.int (own_i sN)), .val (.long (own_l iN)), .second, .val (.long (own_l iN)), .second, .val (.ref b33), .val (.long w0), .second, .unset, .unset, .unset]) rfl kq)
    have g61 : Gz p.tables e below A T58 (mkF m 80 #[.val (.int p0), .val (.int p1), .val (.int p2), .val (.long w0), .second, .val (.long mask), .second, .val (.long vv), .second, .val (.int (own_i LN)), .val (.int (own_i sN)), .val (.long (own_l iN)), .second, .val (.long (own_l iN)), .second, .val (.ref b33), .val (.long w0), .second, .unset, .unset, .unset] [(.long (own_l iN))]) := fun tq kq => g60 tq (XS.lload X58.here hx rfl (hb hby at_78) rfl kq)
    have g62 : Gz p.tables e below A T58 (mkF m 82 #[.val (.int p0), .val (.int p1), .val (.int p2), .val (.long w0), .second, .val (.long mask), .second, .val (.long vv), .second, .val (.int (own_i LN)), .val (.int (own_i sN)), .val (.long (own_l iN)), .second, .val (.long (own_l iN)), .second, .val (.ref b33), .val (.long w0), .second, .unset, .unset, .unset] [(.long (own_l iN)), (.long (own_l iN))]) := fun tq kq => g61 tq (XS.lload X58.here hx rfl (hb hby at_80) rfl kq)
    have g63 : Gz p.tables e below A T58 (mkF m 83 #[.val (.int p0), .val (.int p1), .val (.int p2), .val (.long w0), .second, .val (.long mask), .second, .val (.long vv), .second, .val (.int (own_i LN)), .val (.int (own_i sN)), .val (.long (own_l iN)), .second, .val (.long (own_l iN)), .second, .val (.ref b33), .val (.long w0), .second, .unset, .unset, .unset] [(.int (lcmpW (own_l iN) (own_l iN)))]) := fun tq kq => g62 tq (XS.lcmp X58.here hx rfl (hb hby at_82) rfl kq)
    have g64 : Gz p.tables e below A T58 (mkF m 86 #[.val (.int p0), .val (.int p1), .val (.int p2), .val (.long w0), .second, .val (.long mask), .second, .val (.long vv), .second, .val (.int (own_i LN)), .val (.int (own_i sN)), .val (.long (own_l iN)), .second, .val (.long (own_l iN)), .second, .val (.ref b33), .val (.long w0), .second, .unset, .unset, .unset] []) := fun tq kq => g63 tq (XS.ifNo X58.here hx rfl (hb hby at_83) rfl ((if0 _ _).trans (teq ((lw_eq _ _).mpr rfl)).2) kq)
    have g65 : Gz p.tables e below A T58 (mkF m 87 #[.val (.int p0), .val (.int p1), .val (.int p2), .val (.long w0), .second, .val (.long mask), .second, .val (.long vv), .second, .val (.int (own_i LN)), .val (.int (own_i sN)), .val (.long (own_l iN)), .second, .val (.long (own_l iN)), .second, .val (.ref b33), .val (.long w0), .second, .unset, .unset, .unset] [(.long w0)]) := fun tq kq => g64 tq (XS.lloadN X58.here hx rfl (hb hby at_86) rfl kq)
    have g66 : Gz p.tables e below A T58 (mkF m 89 #[.val (.int p0), .val (.int p1), .val (.int p2), .val (.long w0), .second, .val (.long mask), .second, .val (.long vv), .second, .val (.int (own_i LN)), .val (.int (own_i sN)), .val (.long (own_l iN)), .second, .val (.long (own_l iN)), .second, .val (.ref b33), .val (.long w0), .second, .unset, .unset, .unset] [(.long mask), (.long w0)]) := fun tq kq => g65 tq (XS.lload X58.here hx rfl (hb hby at_87) rfl kq)
    have g67 : Gz p.tables e below A T58 (mkF m 90 #[.val (.int p0), .val (.int p1), .val (.int p2), .val (.long w0), .second, .val (.long mask), .second, .val (.long vv), .second, .val (.int (own_i LN)), .val (.int (own_i sN)), .val (.long (own_l iN)), .second, .val (.long (own_l iN)), .second, .val (.ref b33), .val (.long w0), .second, .unset, .unset, .unset] [(.long (w0 ||| mask))]) := fun tq kq => g66 tq (XS.lor X58.here hx rfl (hb hby at_89) rfl kq)
    have g68 : Gz p.tables e below A T58 (mkF m 95 #[.val (.int p0), .val (.int p1), .val (.int p2), .val (.long w0), .second, .val (.long mask), .second, .val (.long vv), .second, .val (.int (own_i LN)), .val (.int (own_i sN)), .val (.long (own_l iN)), .second, .val (.long (own_l iN)), .second, .val (.ref b33), .val (.long w0), .second, .unset, .unset, .unset] [(.long (w0 ||| mask))]) := fun tq kq => g67 tq (XS.goto X58.here hx rfl (pc0 := 90) (pc' := 95) rfl (hb hby at_90) (by decide) (by decide) kq)
    have g69 : Gz p.tables e below A T58 (mkF m 97 #[.val (.int p0), .val (.int p1), .val (.int p2), .val (.long w0), .second, .val (.long mask), .second, .val (.long vv), .second, .val (.int (own_i LN)), .val (.int (own_i sN)), .val (.long (own_l iN)), .second, .val (.long (own_l iN)), .second, .val (.ref b33), .val (.long w0), .second, .val (.long (w0 ||| mask)), .second, .unset] []) := fun tq kq => g68 tq (XS.lstore X58.here hx rfl (hb hby at_95) rfl (l' := #[.val (.int p0), .val (.int p1), .val (.int p2), .val (.long w0), .second, .val (.long mask), .second, .val (.long vv), .second, .val (.int (own_i LN)), .val (.int (own_i sN)), .val (.long (own_l iN)), .second, .val (.long (own_l iN)), .second, .val (.ref b33), .val (.long w0), .second, .val (.long (w0 ||| mask)), .second, .unset]) rfl kq)
    have g70 : Gz p.tables e below A T58 (mkF m 99 #[.val (.int p0), .val (.int p1), .val (.int p2), .val (.long w0), .second, .val (.long mask), .second, .val (.long vv), .second, .val (.int (own_i LN)), .val (.int (own_i sN)), .val (.long (own_l iN)), .second, .val (.long (own_l iN)), .second, .val (.ref b33), .val (.long w0), .second, .val (.long (w0 ||| mask)), .second, .unset] [(.long w0)]) := fun tq kq => g69 tq (XS.lload X58.here hx rfl (hb hby at_97) rfl kq)
    have g71 : Gz p.tables e below A T58 (mkF m 100 #[.val (.int p0), .val (.int p1), .val (.int p2), .val (.long w0), .second, .val (.long mask), .second, .val (.long vv), .second, .val (.int (own_i LN)), .val (.int (own_i sN)), .val (.long (own_l iN)), .second, .val (.long (own_l iN)), .second, .val (.ref b33), .val (.long w0), .second, .val (.long (w0 ||| mask)), .second, .unset] [(.long w0), (.long w0)]) := fun tq kq => g70 tq (XS.lloadN X58.here hx rfl (hb hby at_99) rfl kq)
    have g72 : Gz p.tables e below A T58 (mkF m 101 #[.val (.int p0), .val (.int p1), .val (.int p2), .val (.long w0), .second, .val (.long mask), .second, .val (.long vv), .second, .val (.int (own_i LN)), .val (.int (own_i sN)), .val (.long (own_l iN)), .second, .val (.long (own_l iN)), .second, .val (.ref b33), .val (.long w0), .second, .val (.long (w0 ||| mask)), .second, .unset] [(.int (lcmpW w0 w0))]) := fun tq kq => g71 tq (XS.lcmp X58.here hx rfl (hb hby at_100) rfl kq)
    have g73 : Gz p.tables e below A T58 (mkF m 104 #[.val (.int p0), .val (.int p1), .val (.int p2), .val (.long w0), .second, .val (.long mask), .second, .val (.long vv), .second, .val (.int (own_i LN)), .val (.int (own_i sN)), .val (.long (own_l iN)), .second, .val (.long (own_l iN)), .second, .val (.ref b33), .val (.long w0), .second, .val (.long (w0 ||| mask)), .second, .unset] []) := fun tq kq => g72 tq (XS.ifNo X58.here hx rfl (hb hby at_101) rfl ((if0 _ _).trans (teq ((lw_eq _ _).mpr rfl)).2) kq)
    have g74 : Gz p.tables e below A T58 (mkF m 105 #[.val (.int p0), .val (.int p1), .val (.int p2), .val (.long w0), .second, .val (.long mask), .second, .val (.long vv), .second, .val (.int (own_i LN)), .val (.int (own_i sN)), .val (.long (own_l iN)), .second, .val (.long (own_l iN)), .second, .val (.ref b33), .val (.long w0), .second, .val (.long (w0 ||| mask)), .second, .unset] [(.int (1 : Int32))]) := fun tq kq => g73 tq (XS.iconst X58.here hx rfl (hb hby at_104) kq)
    have g75 : Gz p.tables e below A T58 (mkF m 109 #[.val (.int p0), .val (.int p1), .val (.int p2), .val (.long w0), .second, .val (.long mask), .second, .val (.long vv), .second, .val (.int (own_i LN)), .val (.int (own_i sN)), .val (.long (own_l iN)), .second, .val (.long (own_l iN)), .second, .val (.ref b33), .val (.long w0), .second, .val (.long (w0 ||| mask)), .second, .unset] [(.int (1 : Int32))]) := fun tq kq => g74 tq (XS.goto X58.here hx rfl (pc0 := 105) (pc' := 109) rfl (hb hby at_105) (by decide) (by decide) kq)
    have g76 : Gz p.tables e below A T58 (mkF m 111 #[.val (.int p0), .val (.int p1), .val (.int p2), .val (.long w0), .second, .val (.long mask), .second, .val (.long vv), .second, .val (.int (own_i LN)), .val (.int (own_i sN)), .val (.long (own_l iN)), .second, .val (.long (own_l iN)), .second, .val (.ref b33), .val (.long w0), .second, .val (.long (w0 ||| mask)), .second, .val (.int (1 : Int32))] []) := fun tq kq => g75 tq (XS.istore X58.here hx rfl (hb hby at_109) rfl (l' := #[.val (.int p0), .val (.int p1), .val (.int p2), .val (.long w0), .second, .val (.long mask), .second, .val (.long vv), .second, .val (.int (own_i LN)), .val (.int (own_i sN)), .val (.long (own_l iN)), .second, .val (.long (own_l iN)), .second, .val (.ref b33), .val (.long w0), .second, .val (.long (w0 ||| mask)), .second, .val (.int (1 : Int32))]) rfl kq)
    have g77 : Gz p.tables e below A T58 (mkF m 113 #[.val (.int p0), .val (.int p1), .val (.int p2), .val (.long w0), .second, .val (.long mask), .second, .val (.long vv), .second, .val (.int (own_i LN)), .val (.int (own_i sN)), .val (.long (own_l iN)), .second, .val (.long (own_l iN)), .second, .val (.ref b33), .val (.long w0), .second, .val (.long (w0 ||| mask)), .second, .val (.int (1 : Int32))] [(.int (1 : Int32))]) := fun tq kq => g76 tq (XS.iload X58.here hx rfl (hb hby at_111) rfl kq)
    have g78 : Gz p.tables e below A T58 (mkF m 116 #[.val (.int p0), .val (.int p1), .val (.int p2), .val (.long w0), .second, .val (.long mask), .second, .val (.long vv), .second, .val (.int (own_i LN)), .val (.int (own_i sN)), .val (.long (own_l iN)), .second, .val (.long (own_l iN)), .second, .val (.ref b33), .val (.long w0), .second, .val (.long (w0 ||| mask)), .second, .val (.int (1 : Int32))] []) := fun tq kq => g77 tq (XS.ifNo X58.here hx rfl (hb hby at_113) rfl ((if0 _ _).trans (feq (by decide)).1) kq)
    have g79 : Gz p.tables e below A T58 (mkF m 118 #[.val (.int p0), .val (.int p1), .val (.int p2), .val (.long w0), .second, .val (.long mask), .second, .val (.long vv), .second, .val (.int (own_i LN)), .val (.int (own_i sN)), .val (.long (own_l iN)), .second, .val (.long (own_l iN)), .second, .val (.ref b33), .val (.long w0), .second, .val (.long (w0 ||| mask)), .second, .val (.int (1 : Int32))] [(.ref b33)]) := fun tq kq => g78 tq (XS.aload X58.here hx rfl (hb hby at_116) rfl rfl kq)
    have g80 : Gz p.tables e below A T58 (mkF m 120 #[.val (.int p0), .val (.int p1), .val (.int p2), .val (.long w0), .second, .val (.long mask), .second, .val (.long vv), .second, .val (.int (own_i LN)), .val (.int (own_i sN)), .val (.long (own_l iN)), .second, .val (.long (own_l iN)), .second, .val (.ref b33), .val (.long w0), .second, .val (.long (w0 ||| mask)), .second, .val (.int (1 : Int32))] [(.long (own_l iN)), (.ref b33)]) := fun tq kq => g79 tq (XS.lload X58.here hx rfl (hb hby at_118) rfl kq)
    obtain ⟨cq81, kq81, q81a, q81b, q81c⟩ := isOf hZ rfl E58'
    obtain ⟨_, _, ⟨T81, L81, k81, n81⟩, -, X81, ⟨Lc81, hQ81, l81, y81, z81⟩, st81⟩ := X58.virtualBack hx (y := (⟨"com/example/rarebit/rarebit/util/WordArray", "get", "(J)J"⟩ : MethodName)) (z := (⟨"com/example/rarebit/rarebit/util/WordArray", "get", "(J)J"⟩ : MethodName)) hown (mvT hZ (hw _ (List.mem_of_getElem? (i := 42) rfl))) (mvT hZ (hw _ (List.mem_of_getElem? (i := 37) rfl))) (notFace_of_selects (args := #[]) (mvT hZ (hw _ (List.mem_of_getElem? (i := 39) rfl)))) (mvT hZ (hw _ (List.mem_of_getElem? (i := 39) rfl))) (mvT hZ (hw _ (List.mem_of_getElem? (i := 38) rfl))) (by decide) (backOf (W := 0) (rm4 l Z a0 hw [] b33 ps sN iN bi ti (w0 ||| mask) T58.heap n0 (Nat.le_trans Z0 K58'.1) ATi WDi hs hi16) hZ (hw _ (List.mem_of_getElem? (i := 40) rfl)) (hw _ (List.mem_of_getElem? (i := 3) rfl)) (by decide) (by decide)) q81a q81c (g := (mkF m 120 #[.val (.int p0), .val (.int p1), .val (.int p2), .val (.long w0), .second, .val (.long mask), .second, .val (.long vv), .second, .val (.int (own_i LN)), .val (.int (own_i sN)), .val (.long (own_l iN)), .second, .val (.long (own_l iN)), .second, .val (.ref b33), .val (.long w0), .second, .val (.long (w0 ||| mask)), .second, .val (.int (1 : Int32))] [(.long (own_l iN)), (.ref b33)])) rfl (by rw [hml]; rfl) (Steps.refl _) (argsL := [(.long (own_l iN))]) (rest := []) (lenOf pd0_3 rfl) rfl (by show 2 * 0 + _ ≤ _; exact Nat.le_of_eq rfl) (hb hby at_120) (fun _ _ => ⟨rfl, rfl, (by decide : 18 + 0 ≤ _), (by decide : 36 + 0 ≤ _)⟩)
    dsimp only [Pt.U, Pt.locs, Pt.cells, Pt.slots] at X81 l81 y81 z81 st81 hQ81
    subst l81 y81 z81
    obtain ⟨rfl, N81q, e81⟩ := hQ81
    have N81 := Fr.app N58 N81q
    have g82 : Gz p.tables e below A T81 (mkF m 123 #[.val (.int p0), .val (.int p1), .val (.int p2), .val (.long w0), .second, .val (.long mask), .second, .val (.long vv), .second, .val (.int (own_i LN)), .val (.int (own_i sN)), .val (.long (own_l iN)), .second, .val (.long (own_l iN)), .second, .val (.ref b33), .val (.long w0), .second, .val (.long (w0 ||| mask)), .second, .val (.int (1 : Int32))] [(.long (w0 ||| mask))]) := fun tq kq => g80 tq (st81.trans kq)
    have g83 : Gz p.tables e below A T81 (mkF m 124 #[.val (.int p0), .val (.int p1), .val (.int p2), .val (.long w0), .second, .val (.long mask), .second, .val (.long vv), .second, .val (.int (own_i LN)), .val (.int (own_i sN)), .val (.long (own_l iN)), .second, .val (.long (own_l iN)), .second, .val (.ref b33), .val (.long w0), .second, .val (.long (w0 ||| mask)), .second, .val (.int (1 : Int32))] [(.long w0), (.long (w0 ||| mask))]) := fun tq kq => g82 tq (XS.lloadN X81.here hx rfl (hb hby at_123) rfl kq)
    have g84 : Gz p.tables e below A T81 (mkF m 126 #[.val (.int p0), .val (.int p1), .val (.int p2), .val (.long w0), .second, .val (.long mask), .second, .val (.long vv), .second, .val (.int (own_i LN)), .val (.int (own_i sN)), .val (.long (own_l iN)), .second, .val (.long (own_l iN)), .second, .val (.ref b33), .val (.long w0), .second, .val (.long (w0 ||| mask)), .second, .val (.int (1 : Int32))] [(.long mask), (.long w0), (.long (w0 ||| mask))]) := fun tq kq => g83 tq (XS.lload X81.here hx rfl (hb hby at_124) rfl kq)
    have g85 : Gz p.tables e below A T81 (mkF m 127 #[.val (.int p0), .val (.int p1), .val (.int p2), .val (.long w0), .second, .val (.long mask), .second, .val (.long vv), .second, .val (.int (own_i LN)), .val (.int (own_i sN)), .val (.long (own_l iN)), .second, .val (.long (own_l iN)), .second, .val (.ref b33), .val (.long w0), .second, .val (.long (w0 ||| mask)), .second, .val (.int (1 : Int32))] [(.long (w0 ||| mask)), (.long (w0 ||| mask))]) := fun tq kq => g84 tq (XS.lor X81.here hx rfl (hb hby at_126) rfl kq)
    have g86 : Gz p.tables e below A T81 (mkF m 128 #[.val (.int p0), .val (.int p1), .val (.int p2), .val (.long w0), .second, .val (.long mask), .second, .val (.long vv), .second, .val (.int (own_i LN)), .val (.int (own_i sN)), .val (.long (own_l iN)), .second, .val (.long (own_l iN)), .second, .val (.ref b33), .val (.long w0), .second, .val (.long (w0 ||| mask)), .second, .val (.int (1 : Int32))] [(.int (lcmpW (w0 ||| mask) (w0 ||| mask)))]) := fun tq kq => g85 tq (XS.lcmp X81.here hx rfl (hb hby at_127) rfl kq)
    have g87 : Gz p.tables e below A T81 (mkF m 131 #[.val (.int p0), .val (.int p1), .val (.int p2), .val (.long w0), .second, .val (.long mask), .second, .val (.long vv), .second, .val (.int (own_i LN)), .val (.int (own_i sN)), .val (.long (own_l iN)), .second, .val (.long (own_l iN)), .second, .val (.ref b33), .val (.long w0), .second, .val (.long (w0 ||| mask)), .second, .val (.int (1 : Int32))] []) := fun tq kq => g86 tq (XS.ifNo X81.here hx rfl (hb hby at_128) rfl ((if0 _ _).trans (teq ((lw_eq _ _).mpr rfl)).2) kq)
    have g88 : Gz p.tables e below A T81 (mkF m 132 #[.val (.int p0), .val (.int p1), .val (.int p2), .val (.long w0), .second, .val (.long mask), .second, .val (.long vv), .second, .val (.int (own_i LN)), .val (.int (own_i sN)), .val (.long (own_l iN)), .second, .val (.long (own_l iN)), .second, .val (.ref b33), .val (.long w0), .second, .val (.long (w0 ||| mask)), .second, .val (.int (1 : Int32))] [(.int (1 : Int32))]) := fun tq kq => g87 tq (XS.iconst X81.here hx rfl (hb hby at_131) kq)
    have g89 : Gz p.tables e below A T81 (mkF m 136 #[.val (.int p0), .val (.int p1), .val (.int p2), .val (.long w0), .second, .val (.long mask), .second, .val (.long vv), .second, .val (.int (own_i LN)), .val (.int (own_i sN)), .val (.long (own_l iN)), .second, .val (.long (own_l iN)), .second, .val (.ref b33), .val (.long w0), .second, .val (.long (w0 ||| mask)), .second, .val (.int (1 : Int32))] [(.int (1 : Int32))]) := fun tq kq => g88 tq (XS.goto X81.here hx rfl (pc0 := 132) (pc' := 136) rfl (hb hby at_132) (by decide) (by decide) kq)
    have g90 : Gz p.tables e below A T81 (mkF m 138 #[.val (.int p0), .val (.int p1), .val (.int p2), .val (.long w0), .second, .val (.long mask), .second, .val (.long vv), .second, .val (.int (own_i LN)), .val (.int (own_i sN)), .val (.long (own_l iN)), .second, .val (.long (own_l iN)), .second, .val (.ref b33), .val (.long w0), .second, .val (.long (w0 ||| mask)), .second, .val (.int (1 : Int32))] []) := fun tq kq => g89 tq (XS.istore X81.here hx rfl (hb hby at_136) rfl (l' := #[.val (.int p0), .val (.int p1), .val (.int p2), .val (.long w0), .second, .val (.long mask), .second, .val (.long vv), .second, .val (.int (own_i LN)), .val (.int (own_i sN)), .val (.long (own_l iN)), .second, .val (.long (own_l iN)), .second, .val (.ref b33), .val (.long w0), .second, .val (.long (w0 ||| mask)), .second, .val (.int (1 : Int32))]) rfl kq)
    have g91 : Gz p.tables e below A T81 (mkF m 140 #[.val (.int p0), .val (.int p1), .val (.int p2), .val (.long w0), .second, .val (.long mask), .second, .val (.long vv), .second, .val (.int (own_i LN)), .val (.int (own_i sN)), .val (.long (own_l iN)), .second, .val (.long (own_l iN)), .second, .val (.ref b33), .val (.long w0), .second, .val (.long (w0 ||| mask)), .second, .val (.int (1 : Int32))] [(.int (1 : Int32))]) := fun tq kq => g90 tq (XS.iload X81.here hx rfl (hb hby at_138) rfl kq)
    have g92 : Gz p.tables e below A T81 (mkF m 143 #[.val (.int p0), .val (.int p1), .val (.int p2), .val (.long w0), .second, .val (.long mask), .second, .val (.long vv), .second, .val (.int (own_i LN)), .val (.int (own_i sN)), .val (.long (own_l iN)), .second, .val (.long (own_l iN)), .second, .val (.ref b33), .val (.long w0), .second, .val (.long (w0 ||| mask)), .second, .val (.int (1 : Int32))] []) := fun tq kq => g91 tq (XS.ifNo X81.here hx rfl (hb hby at_140) rfl ((if0 _ _).trans (feq (by decide)).1) kq)
    have g93 : Gz p.tables e below A T81 (mkF m 145 #[.val (.int p0), .val (.int p1), .val (.int p2), .val (.long w0), .second, .val (.long mask), .second, .val (.long vv), .second, .val (.int (own_i LN)), .val (.int (own_i sN)), .val (.long (own_l iN)), .second, .val (.long (own_l iN)), .second, .val (.ref b33), .val (.long w0), .second, .val (.long (w0 ||| mask)), .second, .val (.int (1 : Int32))] [(.ref b33)]) := fun tq kq => g92 tq (XS.aload X81.here hx rfl (hb hby at_143) rfl rfl kq)
    have g94 : Gz p.tables e below A T81 (mkF m 147 #[.val (.int p0), .val (.int p1), .val (.int p2), .val (.long w0), .second, .val (.long mask), .second, .val (.long vv), .second, .val (.int (own_i LN)), .val (.int (own_i sN)), .val (.long (own_l iN)), .second, .val (.long (own_l iN)), .second, .val (.ref b33), .val (.long w0), .second, .val (.long (w0 ||| mask)), .second, .val (.int (1 : Int32))] [(.long (own_l iN)), (.ref b33)]) := fun tq kq => g93 tq (XS.lload X81.here hx rfl (hb hby at_145) rfl kq)
    obtain ⟨cq95, kq95, q95a, q95b, q95c⟩ := isOf hZ e81 E58'
    obtain ⟨_, _, ⟨T95, L95, k95, n95⟩, -, X95, ⟨Lc95, hQ95, l95, y95, z95⟩, st95⟩ := X81.virtualBack hx (y := (⟨"com/example/rarebit/rarebit/util/WordArray", "get", "(J)J"⟩ : MethodName)) (z := (⟨"com/example/rarebit/rarebit/util/WordArray", "get", "(J)J"⟩ : MethodName)) hown (mvT hZ (hw _ (List.mem_of_getElem? (i := 42) rfl))) (mvT hZ (hw _ (List.mem_of_getElem? (i := 37) rfl))) (notFace_of_selects (args := #[]) (mvT hZ (hw _ (List.mem_of_getElem? (i := 39) rfl)))) (mvT hZ (hw _ (List.mem_of_getElem? (i := 39) rfl))) (mvT hZ (hw _ (List.mem_of_getElem? (i := 38) rfl))) (by decide) (backOf (W := 0) (rm4 l Z a0 hw [] b33 ps sN iN bi ti (w0 ||| mask) T58.heap n0 (Nat.le_trans Z0 K58'.1) ATi WDi hs hi16) hZ (hw _ (List.mem_of_getElem? (i := 40) rfl)) (hw _ (List.mem_of_getElem? (i := 3) rfl)) (by decide) (by decide)) q95a q95c (g := (mkF m 147 #[.val (.int p0), .val (.int p1), .val (.int p2), .val (.long w0), .second, .val (.long mask), .second, .val (.long vv), .second, .val (.int (own_i LN)), .val (.int (own_i sN)), .val (.long (own_l iN)), .second, .val (.long (own_l iN)), .second, .val (.ref b33), .val (.long w0), .second, .val (.long (w0 ||| mask)), .second, .val (.int (1 : Int32))] [(.long (own_l iN)), (.ref b33)])) rfl (by rw [hml]; rfl) (Steps.refl _) (argsL := [(.long (own_l iN))]) (rest := []) (lenOf pd0_3 rfl) rfl (by show 2 * 0 + _ ≤ _; exact Nat.le_of_eq rfl) (hb hby at_147) (fun _ _ => ⟨rfl, e81, (by decide : 18 + 0 ≤ _), (by decide : 36 + 0 ≤ _)⟩)
    dsimp only [Pt.U, Pt.locs, Pt.cells, Pt.slots] at X95 l95 y95 z95 st95 hQ95
    subst l95 y95 z95
    obtain ⟨rfl, N95q, e95⟩ := hQ95
    have N95 := Fr.app N81 N95q
    have g96 : Gz p.tables e below A T95 (mkF m 150 #[.val (.int p0), .val (.int p1), .val (.int p2), .val (.long w0), .second, .val (.long mask), .second, .val (.long vv), .second, .val (.int (own_i LN)), .val (.int (own_i sN)), .val (.long (own_l iN)), .second, .val (.long (own_l iN)), .second, .val (.ref b33), .val (.long w0), .second, .val (.long (w0 ||| mask)), .second, .val (.int (1 : Int32))] [(.long (w0 ||| mask))]) := fun tq kq => g94 tq (st95.trans kq)
    have g97 : Gz p.tables e below A T95 (mkF m 152 #[.val (.int p0), .val (.int p1), .val (.int p2), .val (.long w0), .second, .val (.long mask), .second, .val (.long vv), .second, .val (.int (own_i LN)), .val (.int (own_i sN)), .val (.long (own_l iN)), .second, .val (.long (own_l iN)), .second, .val (.ref b33), .val (.long w0), .second, .val (.long (w0 ||| mask)), .second, .val (.int (1 : Int32))] [(.long (w0 ||| mask)), (.long (w0 ||| mask))]) := fun tq kq => g96 tq (XS.lload X95.here hx rfl (hb hby at_150) rfl kq)
    have g98 : Gz p.tables e below A T95 (mkF m 153 #[.val (.int p0), .val (.int p1), .val (.int p2), .val (.long w0), .second, .val (.long mask), .second, .val (.long vv), .second, .val (.int (own_i LN)), .val (.int (own_i sN)), .val (.long (own_l iN)), .second, .val (.long (own_l iN)), .second, .val (.ref b33), .val (.long w0), .second, .val (.long (w0 ||| mask)), .second, .val (.int (1 : Int32))] [(.int (lcmpW (w0 ||| mask) (w0 ||| mask)))]) := fun tq kq => g97 tq (XS.lcmp X95.here hx rfl (hb hby at_152) rfl kq)
    have g99 : Gz p.tables e below A T95 (mkF m 156 #[.val (.int p0), .val (.int p1), .val (.int p2), .val (.long w0), .second, .val (.long mask), .second, .val (.long vv), .second, .val (.int (own_i LN)), .val (.int (own_i sN)), .val (.long (own_l iN)), .second, .val (.long (own_l iN)), .second, .val (.ref b33), .val (.long w0), .second, .val (.long (w0 ||| mask)), .second, .val (.int (1 : Int32))] []) := fun tq kq => g98 tq (XS.ifNo X95.here hx rfl (hb hby at_153) rfl ((if0 _ _).trans (teq ((lw_eq _ _).mpr rfl)).2) kq)
    have g100 : Gz p.tables e below A T95 (mkF m 157 #[.val (.int p0), .val (.int p1), .val (.int p2), .val (.long w0), .second, .val (.long mask), .second, .val (.long vv), .second, .val (.int (own_i LN)), .val (.int (own_i sN)), .val (.long (own_l iN)), .second, .val (.long (own_l iN)), .second, .val (.ref b33), .val (.long w0), .second, .val (.long (w0 ||| mask)), .second, .val (.int (1 : Int32))] [(.int (1 : Int32))]) := fun tq kq => g99 tq (XS.iconst X95.here hx rfl (hb hby at_156) kq)
    have g101 : Gz p.tables e below A T95 (mkF m 161 #[.val (.int p0), .val (.int p1), .val (.int p2), .val (.long w0), .second, .val (.long mask), .second, .val (.long vv), .second, .val (.int (own_i LN)), .val (.int (own_i sN)), .val (.long (own_l iN)), .second, .val (.long (own_l iN)), .second, .val (.ref b33), .val (.long w0), .second, .val (.long (w0 ||| mask)), .second, .val (.int (1 : Int32))] [(.int (1 : Int32))]) := fun tq kq => g100 tq (XS.goto X95.here hx rfl (pc0 := 157) (pc' := 161) rfl (hb hby at_157) (by decide) (by decide) kq)
    have g102 : Gz p.tables e below A T95 (mkF m 163 #[.val (.int p0), .val (.int p1), .val (.int p2), .val (.long w0), .second, .val (.long mask), .second, .val (.long vv), .second, .val (.int (own_i LN)), .val (.int (own_i sN)), .val (.long (own_l iN)), .second, .val (.long (own_l iN)), .second, .val (.ref b33), .val (.long w0), .second, .val (.long (w0 ||| mask)), .second, .val (.int (1 : Int32))] []) := fun tq kq => g101 tq (XS.istore X95.here hx rfl (hb hby at_161) rfl (l' := #[.val (.int p0), .val (.int p1), .val (.int p2), .val (.long w0), .second, .val (.long mask), .second, .val (.long vv), .second, .val (.int (own_i LN)), .val (.int (own_i sN)), .val (.long (own_l iN)), .second, .val (.long (own_l iN)), .second, .val (.ref b33), .val (.long w0), .second, .val (.long (w0 ||| mask)), .second, .val (.int (1 : Int32))]) rfl kq)
    have g103 : Gz p.tables e below A T95 (mkF m 165 #[.val (.int p0), .val (.int p1), .val (.int p2), .val (.long w0), .second, .val (.long mask), .second, .val (.long vv), .second, .val (.int (own_i LN)), .val (.int (own_i sN)), .val (.long (own_l iN)), .second, .val (.long (own_l iN)), .second, .val (.ref b33), .val (.long w0), .second, .val (.long (w0 ||| mask)), .second, .val (.int (1 : Int32))] [(.int (1 : Int32))]) := fun tq kq => g102 tq (XS.iload X95.here hx rfl (hb hby at_163) rfl kq)
    obtain ⟨fs, hr, hrun, hended, hW, hsame⟩ := X95.leave (v := some (.int (1 : Int32))) (fun h => by rw [Bd.returns] at h; cases h)
    refine ⟨_, _, g103 _ (retN X95 hx (t := .boolean) Bd.returns (by simp) (hb hby at_165) hr), hrun, hended, _, _, rfl, ?_, ⟨_, rfl⟩, hW, hsame.mono (by decide) (by decide)⟩
    show Q0 Z p0 p1 p2 w0 mask vv LN sN iN iN h0 n0 _ T95.heap _
    rw [e95]
    exact ⟨rfl, N95⟩
  · have hno := hne (fun q => hoi q.symm)
    obtain ⟨cq104, kq104, q104a, q104b, q104c⟩ := isOf hZ rfl EQ41
    obtain ⟨_, _, ⟨T104, L104, k104, n104⟩, -, X104, ⟨Lc104, hQ104, l104, y104, z104⟩, st104⟩ := X41.virtualBack hx (y := (⟨"com/example/rarebit/rarebit/util/WordArray", "set", "(JJ)V"⟩ : MethodName)) (z := (⟨"com/example/rarebit/rarebit/util/WordArray", "set", "(JJ)V"⟩ : MethodName)) hown (mvT hZ (hw _ (List.mem_of_getElem? (i := 26) rfl))) (mvT hZ (hw _ (List.mem_of_getElem? (i := 27) rfl))) (notFace_of_selects (args := #[]) (mvT hZ (hw _ (List.mem_of_getElem? (i := 29) rfl)))) (mvT hZ (hw _ (List.mem_of_getElem? (i := 29) rfl))) (mvT hZ (hw _ (List.mem_of_getElem? (i := 28) rfl))) (by decide) (backOf (W := 0) (rm5 l Z a0 hw [] b33 ps sN oN bo tO 0 vv T41.heap n0 (Nat.le_trans Z0 K43.1) ATo WDo hs ho16 gbo) hZ (hw _ (List.mem_of_getElem? (i := 30) rfl)) (hw _ (List.mem_of_getElem? (i := 3) rfl)) (by decide) (by decide)) q104a q104c (g := (mkF m 56 #[.val (.int p0), .val (.int p1), .val (.int p2), .val (.long w0), .second, .val (.long mask), .second, .val (.long vv), .second, .val (.int (own_i LN)), .val (.int (own_i sN)), .val (.long (own_l iN)), .second, .val (.long (own_l oN)), .second, .val (.ref b33), .unset, .unset, .unset, .unset, .unset] [(.long vv), (.long (own_l oN)), (.ref b33)])) rfl (by rw [hml]; rfl) (Steps.refl _) (argsL := [(.long (own_l oN)), (.long vv)]) (rest := []) (lenOf pd0_1 rfl) rfl (by show 2 * 0 + _ ≤ _; exact Nat.le_of_eq rfl) (hb hby at_56) (fun _ _ => ⟨rfl, rfl, (by decide : 18 + 0 ≤ _), (by decide : 36 + 0 ≤ _)⟩)
    dsimp only [Pt.U, Pt.locs, Pt.cells, Pt.slots] at X104 l104 y104 z104 st104 hQ104
    subst l104 y104 z104
    obtain ⟨rfl, N104q, WQ104⟩ := hQ104
    have N104 := Fr.app N41 N104q
    have g105 : Gz p.tables e below A T104 (mkF m 59 #[.val (.int p0), .val (.int p1), .val (.int p2), .val (.long w0), .second, .val (.long mask), .second, .val (.long vv), .second, .val (.int (own_i LN)), .val (.int (own_i sN)), .val (.long (own_l iN)), .second, .val (.long (own_l oN)), .second, .val (.ref b33), .unset, .unset, .unset, .unset, .unset] []) := fun tq kq => g47 tq (st104.trans kq)
    have K104' := own_extW K43 WQ104 (sz_bo)
    have E104' := EQ41.wr WQ104
    have ATi := ATi.wr WQ104 n1o n2o
    have ATo := ATo.wr WQ104 n1o n2o
    have WDo := WDo.same WQ104
    have WDi := WDi.other WQ104 (hno.imp Ne.symm Ne.symm)
    have g106 : Gz p.tables e below A T104 (mkF m 61 #[.val (.int p0), .val (.int p1), .val (.int p2), .val (.long w0), .second, .val (.long mask), .second, .val (.long vv), .second, .val (.int (own_i LN)), .val (.int (own_i sN)), .val (.long (own_l iN)), .second, .val (.long (own_l oN)), .second, .val (.ref b33), .unset, .unset, .unset, .unset, .unset] [(.ref b33)]) := fun tq kq => g105 tq (XS.aload X104.here hx rfl (hb hby at_59) rfl rfl kq)
    have g107 : Gz p.tables e below A T104 (mkF m 63 #[.val (.int p0), .val (.int p1), .val (.int p2), .val (.long w0), .second, .val (.long mask), .second, .val (.long vv), .second, .val (.int (own_i LN)), .val (.int (own_i sN)), .val (.long (own_l iN)), .second, .val (.long (own_l oN)), .second, .val (.ref b33), .unset, .unset, .unset, .unset, .unset] [(.long (own_l iN)), (.ref b33)]) := fun tq kq => g106 tq (XS.lload X104.here hx rfl (hb hby at_61) rfl kq)
    have g108 : Gz p.tables e below A T104 (mkF m 64 #[.val (.int p0), .val (.int p1), .val (.int p2), .val (.long w0), .second, .val (.long mask), .second, .val (.long vv), .second, .val (.int (own_i LN)), .val (.int (own_i sN)), .val (.long (own_l iN)), .second, .val (.long (own_l oN)), .second, .val (.ref b33), .unset, .unset, .unset, .unset, .unset] [(.long w0), (.long (own_l iN)), (.ref b33)]) := fun tq kq => g107 tq (XS.lloadN X104.here hx rfl (hb hby at_63) rfl kq)
    obtain ⟨cq109, kq109, q109a, q109b, q109c⟩ := isOf hZ rfl E104'
    obtain ⟨_, _, ⟨T109, L109, k109, n109⟩, -, X109, ⟨Lc109, hQ109, l109, y109, z109⟩, st109⟩ := X104.virtualBack hx (y := (⟨"com/example/rarebit/rarebit/util/WordArray", "set", "(JJ)V"⟩ : MethodName)) (z := (⟨"com/example/rarebit/rarebit/util/WordArray", "set", "(JJ)V"⟩ : MethodName)) hown (mvT hZ (hw _ (List.mem_of_getElem? (i := 26) rfl))) (mvT hZ (hw _ (List.mem_of_getElem? (i := 27) rfl))) (notFace_of_selects (args := #[]) (mvT hZ (hw _ (List.mem_of_getElem? (i := 29) rfl)))) (mvT hZ (hw _ (List.mem_of_getElem? (i := 29) rfl))) (mvT hZ (hw _ (List.mem_of_getElem? (i := 28) rfl))) (by decide) (backOf (W := 0) (rm5 l Z a0 hw [] b33 ps sN iN bi ti 0 w0 T104.heap n0 (Nat.le_trans Z0 K104'.1) ATi WDi hs hi16 gbi) hZ (hw _ (List.mem_of_getElem? (i := 30) rfl)) (hw _ (List.mem_of_getElem? (i := 3) rfl)) (by decide) (by decide)) q109a q109c (g := (mkF m 64 #[.val (.int p0), .val (.int p1), .val (.int p2), .val (.long w0), .second, .val (.long mask), .second, .val (.long vv), .second, .val (.int (own_i LN)), .val (.int (own_i sN)), .val (.long (own_l iN)), .second, .val (.long (own_l oN)), .second, .val (.ref b33), .unset, .unset, .unset, .unset, .unset] [(.long w0), (.long (own_l iN)), (.ref b33)])) rfl (by rw [hml]; rfl) (Steps.refl _) (argsL := [(.long (own_l iN)), (.long w0)]) (rest := []) (lenOf pd0_1 rfl) rfl (by show 2 * 0 + _ ≤ _; exact Nat.le_of_eq rfl) (hb hby at_64) (fun _ _ => ⟨rfl, rfl, (by decide : 18 + 0 ≤ _), (by decide : 36 + 0 ≤ _)⟩)
    dsimp only [Pt.U, Pt.locs, Pt.cells, Pt.slots] at X109 l109 y109 z109 st109 hQ109
    subst l109 y109 z109
    obtain ⟨rfl, N109q, WQ109⟩ := hQ109
    have N109 := Fr.app N104 N109q
    have g110 : Gz p.tables e below A T109 (mkF m 67 #[.val (.int p0), .val (.int p1), .val (.int p2), .val (.long w0), .second, .val (.long mask), .second, .val (.long vv), .second, .val (.int (own_i LN)), .val (.int (own_i sN)), .val (.long (own_l iN)), .second, .val (.long (own_l oN)), .second, .val (.ref b33), .unset, .unset, .unset, .unset, .unset] []) := fun tq kq => g108 tq (st109.trans kq)
    have K109' := own_extW K104' WQ109 (sz_bi)
    have E109' := E104'.wr WQ109
    have ATi := ATi.wr WQ109 n1i n2i
    have ATo := ATo.wr WQ109 n1i n2i
    have WDi := WDi.same WQ109
    have WDo := WDo.other WQ109 (hno)
    have g111 : Gz p.tables e below A T109 (mkF m 69 #[.val (.int p0), .val (.int p1), .val (.int p2), .val (.long w0), .second, .val (.long mask), .second, .val (.long vv), .second, .val (.int (own_i LN)), .val (.int (own_i sN)), .val (.long (own_l iN)), .second, .val (.long (own_l oN)), .second, .val (.ref b33), .unset, .unset, .unset, .unset, .unset] [(.ref b33)]) := fun tq kq => g110 tq (XS.aload X109.here hx rfl (hb hby at_67) rfl rfl kq)
    have g112 : Gz p.tables e below A T109 (mkF m 71 #[.val (.int p0), .val (.int p1), .val (.int p2), .val (.long w0), .second, .val (.long mask), .second, .val (.long vv), .second, .val (.int (own_i LN)), .val (.int (own_i sN)), .val (.long (own_l iN)), .second, .val (.long (own_l oN)), .second, .val (.ref b33), .unset, .unset, .unset, .unset, .unset] [(.long (own_l iN)), (.ref b33)]) := fun tq kq => g111 tq (XS.lload X109.here hx rfl (hb hby at_69) rfl kq)
    have g113 : Gz p.tables e below A T109 (mkF m 73 #[.val (.int p0), .val (.int p1), .val (.int p2), .val (.long w0), .second, .val (.long mask), .second, .val (.long vv), .second, .val (.int (own_i LN)), .val (.int (own_i sN)), .val (.long (own_l iN)), .second, .val (.long (own_l oN)), .second, .val (.ref b33), .unset, .unset, .unset, .unset, .unset] [(.long mask), (.long (own_l iN)), (.ref b33)]) := fun tq kq => g112 tq (XS.lload X109.here hx rfl (hb hby at_71) rfl kq)
    obtain ⟨cq114, kq114, q114a, q114b, q114c⟩ := isOf hZ rfl E109'
    obtain ⟨_, _, ⟨T114, L114, k114, n114⟩, -, X114, ⟨Lc114, hQ114, l114, y114, z114⟩, st114⟩ := X109.virtualBack hx (y := (⟨"com/example/rarebit/rarebit/util/WordArray", "getAndBitwiseOrPlain", "(JJ)J"⟩ : MethodName)) (z := (⟨"com/example/rarebit/rarebit/util/WordArray", "getAndBitwiseOrPlain", "(JJ)J"⟩ : MethodName)) hown (mvT hZ (hw _ (List.mem_of_getElem? (i := 31) rfl))) (mvT hZ (hw _ (List.mem_of_getElem? (i := 32) rfl))) (notFace_of_selects (args := #[]) (mvT hZ (hw _ (List.mem_of_getElem? (i := 34) rfl)))) (mvT hZ (hw _ (List.mem_of_getElem? (i := 34) rfl))) (mvT hZ (hw _ (List.mem_of_getElem? (i := 33) rfl))) (by decide) (backOf (W := 0) (rm6 l Z a0 hw [] b33 ps sN iN bi ti w0 mask T109.heap n0 (Nat.le_trans Z0 K109'.1) ATi WDi hs hi16 gbi E109') hZ (hw _ (List.mem_of_getElem? (i := 35) rfl)) (hw _ (List.mem_of_getElem? (i := 3) rfl)) (by decide) (by decide)) q114a q114c (g := (mkF m 73 #[.val (.int p0), .val (.int p1), .val (.int p2), .val (.long w0), .second, .val (.long mask), .second, .val (.long vv), .second, .val (.int (own_i LN)), .val (.int (own_i sN)), .val (.long (own_l iN)), .second, .val (.long (own_l oN)), .second, .val (.ref b33), .unset, .unset, .unset, .unset, .unset] [(.long mask), (.long (own_l iN)), (.ref b33)])) rfl (by rw [hml]; rfl) (Steps.refl _) (argsL := [(.long (own_l iN)), (.long mask)]) (rest := []) (lenOf pd0_2 rfl) rfl (by show 2 * 0 + _ ≤ _; exact Nat.le_of_eq rfl) (hb hby at_73) (fun _ _ => ⟨rfl, rfl, (by decide : 18 + 0 ≤ _), (by decide : 36 + 0 ≤ _)⟩)
    dsimp only [Pt.U, Pt.locs, Pt.cells, Pt.slots] at X114 l114 y114 z114 st114 hQ114
    subst l114 y114 z114
    obtain ⟨rfl, N114q, WQ114⟩ := hQ114
    have N114 := Fr.app N109 N114q
    have g115 : Gz p.tables e below A T114 (mkF m 76 #[.val (.int p0), .val (.int p1), .val (.int p2), .val (.long w0), .second, .val (.long mask), .second, .val (.long vv), .second, .val (.int (own_i LN)), .val (.int (own_i sN)), .val (.long (own_l iN)), .second, .val (.long (own_l oN)), .second, .val (.ref b33), .unset, .unset, .unset, .unset, .unset] [(.long w0)]) := fun tq kq => g113 tq (st114.trans kq)
    have K114' := own_extW K109' WQ114 (sz_bi)
    have E114' := E109'.wr WQ114
    have ATi := ATi.wr WQ114 n1i n2i
    have ATo := ATo.wr WQ114 n1i n2i
    have WDi := WDi.same WQ114
    have WDo := WDo.other WQ114 (hno)
    have g116 : Gz p.tables e below A T114 (mkF m 78 #[.val (.int p0), .val (.int p1), .val (.int p2), .val (.long w0), .second, .val (.long mask), .second, .val (.long vv), .second, .val (.int (own_i LN)), .val (.int (own_i sN)), .val (.long (own_l iN)), .second, .val (.long (own_l oN)), .second, .val (.ref b33), .val (.long w0), .second, .unset, .unset, .unset] []) := fun tq kq => g115 tq (XS.lstore X114.here hx rfl (hb hby at_76) rfl (l' := #[.val (.int p0), .val (.int p1), .val (.int p2), .val (.long w0), .second, .val (.long mask), .second, .val (.long vv), .second, .val (.int (own_i LN)), .val (.int (own_i sN)), .val (.long (own_l iN)), .second, .val (.long (own_l oN)), .second, .val (.ref b33), .val (.long w0), .second, .unset, .unset, .unset]) rfl kq)
    have g117 : Gz p.tables e below A T114 (mkF m 80 #[.val (.int p0), .val (.int p1), .val (.int p2), .val (.long w0), .second, .val (.long mask), .second, .val (.long vv), .second, .val (.int (own_i LN)), .val (.int (own_i sN)), .val (.long (own_l iN)), .second, .val (.long (own_l oN)), .second, .val (.ref b33), .val (.long w0), .second, .unset, .unset, .unset] [(.long (own_l oN))]) := fun tq kq => g116 tq (XS.lload X114.here hx rfl (hb hby at_78) rfl kq)
    have g118 : Gz p.tables e below A T114 (mkF m 82 #[.val (.int p0), .val (.int p1), .val (.int p2), .val (.long w0), .second, .val (.long mask), .second, .val (.long vv), .second, .val (.int (own_i LN)), .val (.int (own_i sN)), .val (.long (own_l iN)), .second, .val (.long (own_l oN)), .second, .val (.ref b33), .val (.long w0), .second, .unset, .unset, .unset] [(.long (own_l iN)), (.long (own_l oN))]) := fun tq kq => g117 tq (XS.lload X114.here hx rfl (hb hby at_80) rfl kq)
    have g119 : Gz p.tables e below A T114 (mkF m 83 #[.val (.int p0), .val (.int p1), .val (.int p2), .val (.long w0), .second, .val (.long mask), .second, .val (.long vv), .second, .val (.int (own_i LN)), .val (.int (own_i sN)), .val (.long (own_l iN)), .second, .val (.long (own_l oN)), .second, .val (.ref b33), .val (.long w0), .second, .unset, .unset, .unset] [(.int (lcmpW (own_l oN) (own_l iN)))]) := fun tq kq => g118 tq (XS.lcmp X114.here hx rfl (hb hby at_82) rfl kq)
    have g120 : Gz p.tables e below A T114 (mkF m 93 #[.val (.int p0), .val (.int p1), .val (.int p2), .val (.long w0), .second, .val (.long mask), .second, .val (.long vv), .second, .val (.int (own_i LN)), .val (.int (own_i sN)), .val (.long (own_l iN)), .second, .val (.long (own_l oN)), .second, .val (.ref b33), .val (.long w0), .second, .unset, .unset, .unset] []) := fun tq kq => g119 tq (XS.ifYes X114.here hx rfl (pc0 := 83) (pc' := 93) rfl (hb hby at_83) rfl ((if0 _ _).trans (feq (fun q => (fun q => hoi (own_f12 ⟨oN, by omega⟩ ⟨iN, by omega⟩ q).symm) ((lw_eq _ _).mp q))).2) (by decide) (by decide) kq)
    have g121 : Gz p.tables e below A T114 (mkF m 95 #[.val (.int p0), .val (.int p1), .val (.int p2), .val (.long w0), .second, .val (.long mask), .second, .val (.long vv), .second, .val (.int (own_i LN)), .val (.int (own_i sN)), .val (.long (own_l iN)), .second, .val (.long (own_l oN)), .second, .val (.ref b33), .val (.long w0), .second, .unset, .unset, .unset] [(.long vv)]) := fun tq kq => g120 tq (XS.lload X114.here hx rfl (hb hby at_93) rfl kq)
    have g122 : Gz p.tables e below A T114 (mkF m 97 #[.val (.int p0), .val (.int p1), .val (.int p2), .val (.long w0), .second, .val (.long mask), .second, .val (.long vv), .second, .val (.int (own_i LN)), .val (.int (own_i sN)), .val (.long (own_l iN)), .second, .val (.long (own_l oN)), .second, .val (.ref b33), .val (.long w0), .second, .val (.long vv), .second, .unset] []) := fun tq kq => g121 tq (XS.lstore X114.here hx rfl (hb hby at_95) rfl (l' := #[.val (.int p0), .val (.int p1), .val (.int p2), .val (.long w0), .second, .val (.long mask), .second, .val (.long vv), .second, .val (.int (own_i LN)), .val (.int (own_i sN)), .val (.long (own_l iN)), .second, .val (.long (own_l oN)), .second, .val (.ref b33), .val (.long w0), .second, .val (.long vv), .second, .unset]) rfl kq)
    have g123 : Gz p.tables e below A T114 (mkF m 99 #[.val (.int p0), .val (.int p1), .val (.int p2), .val (.long w0), .second, .val (.long mask), .second, .val (.long vv), .second, .val (.int (own_i LN)), .val (.int (own_i sN)), .val (.long (own_l iN)), .second, .val (.long (own_l oN)), .second, .val (.ref b33), .val (.long w0), .second, .val (.long vv), .second, .unset] [(.long w0)]) := fun tq kq => g122 tq (XS.lload X114.here hx rfl (hb hby at_97) rfl kq)
    have g124 : Gz p.tables e below A T114 (mkF m 100 #[.val (.int p0), .val (.int p1), .val (.int p2), .val (.long w0), .second, .val (.long mask), .second, .val (.long vv), .second, .val (.int (own_i LN)), .val (.int (own_i sN)), .val (.long (own_l iN)), .second, .val (.long (own_l oN)), .second, .val (.ref b33), .val (.long w0), .second, .val (.long vv), .second, .unset] [(.long w0), (.long w0)]) := fun tq kq => g123 tq (XS.lloadN X114.here hx rfl (hb hby at_99) rfl kq)
    have g125 : Gz p.tables e below A T114 (mkF m 101 #[.val (.int p0), .val (.int p1), .val (.int p2), .val (.long w0), .second, .val (.long mask), .second, .val (.long vv), .second, .val (.int (own_i LN)), .val (.int (own_i sN)), .val (.long (own_l iN)), .second, .val (.long (own_l oN)), .second, .val (.ref b33), .val (.long w0), .second, .val (.long vv), .second, .unset] [(.int (lcmpW w0 w0))]) := fun tq kq => g124 tq (XS.lcmp X114.here hx rfl (hb hby at_100) rfl kq)
    have g126 : Gz p.tables e below A T114 (mkF m 104 #[.val (.int p0), .val (.int p1), .val (.int p2), .val (.long w0), .second, .val (.long mask), .second, .val (.long vv), .second, .val (.int (own_i LN)), .val (.int (own_i sN)), .val (.long (own_l iN)), .second, .val (.long (own_l oN)), .second, .val (.ref b33), .val (.long w0), .second, .val (.long vv), .second, .unset] []) := fun tq kq => g125 tq (XS.ifNo X114.here hx rfl (hb hby at_101) rfl ((if0 _ _).trans (teq ((lw_eq _ _).mpr rfl)).2) kq)
    have g127 : Gz p.tables e below A T114 (mkF m 105 #[.val (.int p0), .val (.int p1), .val (.int p2), .val (.long w0), .second, .val (.long mask), .second, .val (.long vv), .second, .val (.int (own_i LN)), .val (.int (own_i sN)), .val (.long (own_l iN)), .second, .val (.long (own_l oN)), .second, .val (.ref b33), .val (.long w0), .second, .val (.long vv), .second, .unset] [(.int (1 : Int32))]) := fun tq kq => g126 tq (XS.iconst X114.here hx rfl (hb hby at_104) kq)
    have g128 : Gz p.tables e below A T114 (mkF m 109 #[.val (.int p0), .val (.int p1), .val (.int p2), .val (.long w0), .second, .val (.long mask), .second, .val (.long vv), .second, .val (.int (own_i LN)), .val (.int (own_i sN)), .val (.long (own_l iN)), .second, .val (.long (own_l oN)), .second, .val (.ref b33), .val (.long w0), .second, .val (.long vv), .second, .unset] [(.int (1 : Int32))]) := fun tq kq => g127 tq (XS.goto X114.here hx rfl (pc0 := 105) (pc' := 109) rfl (hb hby at_105) (by decide) (by decide) kq)
    have g129 : Gz p.tables e below A T114 (mkF m 111 #[.val (.int p0), .val (.int p1), .val (.int p2), .val (.long w0), .second, .val (.long mask), .second, .val (.long vv), .second, .val (.int (own_i LN)), .val (.int (own_i sN)), .val (.long (own_l iN)), .second, .val (.long (own_l oN)), .second, .val (.ref b33), .val (.long w0), .second, .val (.long vv), .second, .val (.int (1 : Int32))] []) := fun tq kq => g128 tq (XS.istore X114.here hx rfl (hb hby at_109) rfl (l' := #[.val (.int p0), .val (.int p1), .val (.int p2), .val (.long w0), .second, .val (.long mask), .second, .val (.long vv), .second, .val (.int (own_i LN)), .val (.int (own_i sN)), .val (.long (own_l iN)), .second, .val (.long (own_l oN)), .second, .val (.ref b33), .val (.long w0), .second, .val (.long vv), .second, .val (.int (1 : Int32))]) rfl kq)
    have g130 : Gz p.tables e below A T114 (mkF m 113 #[.val (.int p0), .val (.int p1), .val (.int p2), .val (.long w0), .second, .val (.long mask), .second, .val (.long vv), .second, .val (.int (own_i LN)), .val (.int (own_i sN)), .val (.long (own_l iN)), .second, .val (.long (own_l oN)), .second, .val (.ref b33), .val (.long w0), .second, .val (.long vv), .second, .val (.int (1 : Int32))] [(.int (1 : Int32))]) := fun tq kq => g129 tq (XS.iload X114.here hx rfl (hb hby at_111) rfl kq)
    have g131 : Gz p.tables e below A T114 (mkF m 116 #[.val (.int p0), .val (.int p1), .val (.int p2), .val (.long w0), .second, .val (.long mask), .second, .val (.long vv), .second, .val (.int (own_i LN)), .val (.int (own_i sN)), .val (.long (own_l iN)), .second, .val (.long (own_l oN)), .second, .val (.ref b33), .val (.long w0), .second, .val (.long vv), .second, .val (.int (1 : Int32))] []) := fun tq kq => g130 tq (XS.ifNo X114.here hx rfl (hb hby at_113) rfl ((if0 _ _).trans (feq (by decide)).1) kq)
    have g132 : Gz p.tables e below A T114 (mkF m 118 #[.val (.int p0), .val (.int p1), .val (.int p2), .val (.long w0), .second, .val (.long mask), .second, .val (.long vv), .second, .val (.int (own_i LN)), .val (.int (own_i sN)), .val (.long (own_l iN)), .second, .val (.long (own_l oN)), .second, .val (.ref b33), .val (.long w0), .second, .val (.long vv), .second, .val (.int (1 : Int32))] [(.ref b33)]) := fun tq kq => g131 tq (XS.aload X114.here hx rfl (hb hby at_116) rfl rfl kq)
    have g133 : Gz p.tables e below A T114 (mkF m 120 #[.val (.int p0), .val (.int p1), .val (.int p2), .val (.long w0), .second, .val (.long mask), .second, .val (.long vv), .second, .val (.int (own_i LN)), .val (.int (own_i sN)), .val (.long (own_l iN)), .second, .val (.long (own_l oN)), .second, .val (.ref b33), .val (.long w0), .second, .val (.long vv), .second, .val (.int (1 : Int32))] [(.long (own_l iN)), (.ref b33)]) := fun tq kq => g132 tq (XS.lload X114.here hx rfl (hb hby at_118) rfl kq)
    obtain ⟨cq134, kq134, q134a, q134b, q134c⟩ := isOf hZ rfl E114'
    obtain ⟨_, _, ⟨T134, L134, k134, n134⟩, -, X134, ⟨Lc134, hQ134, l134, y134, z134⟩, st134⟩ := X114.virtualBack hx (y := (⟨"com/example/rarebit/rarebit/util/WordArray", "get", "(J)J"⟩ : MethodName)) (z := (⟨"com/example/rarebit/rarebit/util/WordArray", "get", "(J)J"⟩ : MethodName)) hown (mvT hZ (hw _ (List.mem_of_getElem? (i := 42) rfl))) (mvT hZ (hw _ (List.mem_of_getElem? (i := 37) rfl))) (notFace_of_selects (args := #[]) (mvT hZ (hw _ (List.mem_of_getElem? (i := 39) rfl)))) (mvT hZ (hw _ (List.mem_of_getElem? (i := 39) rfl))) (mvT hZ (hw _ (List.mem_of_getElem? (i := 38) rfl))) (by decide) (backOf (W := 0) (rm4 l Z a0 hw [] b33 ps sN iN bi ti (w0 ||| mask) T114.heap n0 (Nat.le_trans Z0 K114'.1) ATi WDi hs hi16) hZ (hw _ (List.mem_of_getElem? (i := 40) rfl)) (hw _ (List.mem_of_getElem? (i := 3) rfl)) (by decide) (by decide)) q134a q134c (g := (mkF m 120 #[.val (.int p0), .val (.int p1), .val (.int p2), .val (.long w0), .second, .val (.long mask), .second, .val (.long vv), .second, .val (.int (own_i LN)), .val (.int (own_i sN)), .val (.long (own_l iN)), .second, .val (.long (own_l oN)), .second, .val (.ref b33), .val (.long w0), .second, .val (.long vv), .second, .val (.int (1 : Int32))] [(.long (own_l iN)), (.ref b33)])) rfl (by rw [hml]; rfl) (Steps.refl _) (argsL := [(.long (own_l iN))]) (rest := []) (lenOf pd0_3 rfl) rfl (by show 2 * 0 + _ ≤ _; exact Nat.le_of_eq rfl) (hb hby at_120) (fun _ _ => ⟨rfl, rfl, (by decide : 18 + 0 ≤ _), (by decide : 36 + 0 ≤ _)⟩)
    dsimp only [Pt.U, Pt.locs, Pt.cells, Pt.slots] at X134 l134 y134 z134 st134 hQ134
    subst l134 y134 z134
    obtain ⟨rfl, N134q, e134⟩ := hQ134
    have N134 := Fr.app N114 N134q
    have g135 : Gz p.tables e below A T134 (mkF m 123 #[.val (.int p0), .val (.int p1), .val (.int p2), .val (.long w0), .second, .val (.long mask), .second, .val (.long vv), .second, .val (.int (own_i LN)), .val (.int (own_i sN)), .val (.long (own_l iN)), .second, .val (.long (own_l oN)), .second, .val (.ref b33), .val (.long w0), .second, .val (.long vv), .second, .val (.int (1 : Int32))] [(.long (w0 ||| mask))]) := fun tq kq => g133 tq (st134.trans kq)
    have g136 : Gz p.tables e below A T134 (mkF m 124 #[.val (.int p0), .val (.int p1), .val (.int p2), .val (.long w0), .second, .val (.long mask), .second, .val (.long vv), .second, .val (.int (own_i LN)), .val (.int (own_i sN)), .val (.long (own_l iN)), .second, .val (.long (own_l oN)), .second, .val (.ref b33), .val (.long w0), .second, .val (.long vv), .second, .val (.int (1 : Int32))] [(.long w0), (.long (w0 ||| mask))]) := fun tq kq => g135 tq (XS.lloadN X134.here hx rfl (hb hby at_123) rfl kq)
    have g137 : Gz p.tables e below A T134 (mkF m 126 #[.val (.int p0), .val (.int p1), .val (.int p2), .val (.long w0), .second, .val (.long mask), .second, .val (.long vv), .second, .val (.int (own_i LN)), .val (.int (own_i sN)), .val (.long (own_l iN)), .second, .val (.long (own_l oN)), .second, .val (.ref b33), .val (.long w0), .second, .val (.long vv), .second, .val (.int (1 : Int32))] [(.long mask), (.long w0), (.long (w0 ||| mask))]) := fun tq kq => g136 tq (XS.lload X134.here hx rfl (hb hby at_124) rfl kq)
    have g138 : Gz p.tables e below A T134 (mkF m 127 #[.val (.int p0), .val (.int p1), .val (.int p2), .val (.long w0), .second, .val (.long mask), .second, .val (.long vv), .second, .val (.int (own_i LN)), .val (.int (own_i sN)), .val (.long (own_l iN)), .second, .val (.long (own_l oN)), .second, .val (.ref b33), .val (.long w0), .second, .val (.long vv), .second, .val (.int (1 : Int32))] [(.long (w0 ||| mask)), (.long (w0 ||| mask))]) := fun tq kq => g137 tq (XS.lor X134.here hx rfl (hb hby at_126) rfl kq)
    have g139 : Gz p.tables e below A T134 (mkF m 128 #[.val (.int p0), .val (.int p1), .val (.int p2), .val (.long w0), .second, .val (.long mask), .second, .val (.long vv), .second, .val (.int (own_i LN)), .val (.int (own_i sN)), .val (.long (own_l iN)), .second, .val (.long (own_l oN)), .second, .val (.ref b33), .val (.long w0), .second, .val (.long vv), .second, .val (.int (1 : Int32))] [(.int (lcmpW (w0 ||| mask) (w0 ||| mask)))]) := fun tq kq => g138 tq (XS.lcmp X134.here hx rfl (hb hby at_127) rfl kq)
    have g140 : Gz p.tables e below A T134 (mkF m 131 #[.val (.int p0), .val (.int p1), .val (.int p2), .val (.long w0), .second, .val (.long mask), .second, .val (.long vv), .second, .val (.int (own_i LN)), .val (.int (own_i sN)), .val (.long (own_l iN)), .second, .val (.long (own_l oN)), .second, .val (.ref b33), .val (.long w0), .second, .val (.long vv), .second, .val (.int (1 : Int32))] []) := fun tq kq => g139 tq (XS.ifNo X134.here hx rfl (hb hby at_128) rfl ((if0 _ _).trans (teq ((lw_eq _ _).mpr rfl)).2) kq)
    have g141 : Gz p.tables e below A T134 (mkF m 132 #[.val (.int p0), .val (.int p1), .val (.int p2), .val (.long w0), .second, .val (.long mask), .second, .val (.long vv), .second, .val (.int (own_i LN)), .val (.int (own_i sN)), .val (.long (own_l iN)), .second, .val (.long (own_l oN)), .second, .val (.ref b33), .val (.long w0), .second, .val (.long vv), .second, .val (.int (1 : Int32))] [(.int (1 : Int32))]) := fun tq kq => g140 tq (XS.iconst X134.here hx rfl (hb hby at_131) kq)
    have g142 : Gz p.tables e below A T134 (mkF m 136 #[.val (.int p0), .val (.int p1), .val (.int p2), .val (.long w0), .second, .val (.long mask), .second, .val (.long vv), .second, .val (.int (own_i LN)), .val (.int (own_i sN)), .val (.long (own_l iN)), .second, .val (.long (own_l oN)), .second, .val (.ref b33), .val (.long w0), .second, .val (.long vv), .second, .val (.int (1 : Int32))] [(.int (1 : Int32))]) := fun tq kq => g141 tq (XS.goto X134.here hx rfl (pc0 := 132) (pc' := 136) rfl (hb hby at_132) (by decide) (by decide) kq)
    have g143 : Gz p.tables e below A T134 (mkF m 138 #[.val (.int p0), .val (.int p1), .val (.int p2), .val (.long w0), .second, .val (.long mask), .second, .val (.long vv), .second, .val (.int (own_i LN)), .val (.int (own_i sN)), .val (.long (own_l iN)), .second, .val (.long (own_l oN)), .second, .val (.ref b33), .val (.long w0), .second, .val (.long vv), .second, .val (.int (1 : Int32))] []) := fun tq kq => g142 tq (XS.istore X134.here hx rfl (hb hby at_136) rfl (l' := #[.val (.int p0), .val (.int p1), .val (.int p2), .val (.long w0), .second, .val (.long mask), .second, .val (.long vv), .second, .val (.int (own_i LN)), .val (.int (own_i sN)), .val (.long (own_l iN)), .second, .val (.long (own_l oN)), .second, .val (.ref b33), .val (.long w0), .second, .val (.long vv), .second, .val (.int (1 : Int32))]) rfl kq)
    have g144 : Gz p.tables e below A T134 (mkF m 140 #[.val (.int p0), .val (.int p1), .val (.int p2), .val (.long w0), .second, .val (.long mask), .second, .val (.long vv), .second, .val (.int (own_i LN)), .val (.int (own_i sN)), .val (.long (own_l iN)), .second, .val (.long (own_l oN)), .second, .val (.ref b33), .val (.long w0), .second, .val (.long vv), .second, .val (.int (1 : Int32))] [(.int (1 : Int32))]) := fun tq kq => g143 tq (XS.iload X134.here hx rfl (hb hby at_138) rfl kq)
    have g145 : Gz p.tables e below A T134 (mkF m 143 #[.val (.int p0), .val (.int p1), .val (.int p2), .val (.long w0), .second, .val (.long mask), .second, .val (.long vv), .second, .val (.int (own_i LN)), .val (.int (own_i sN)), .val (.long (own_l iN)), .second, .val (.long (own_l oN)), .second, .val (.ref b33), .val (.long w0), .second, .val (.long vv), .second, .val (.int (1 : Int32))] []) := fun tq kq => g144 tq (XS.ifNo X134.here hx rfl (hb hby at_140) rfl ((if0 _ _).trans (feq (by decide)).1) kq)
    have g146 : Gz p.tables e below A T134 (mkF m 145 #[.val (.int p0), .val (.int p1), .val (.int p2), .val (.long w0), .second, .val (.long mask), .second, .val (.long vv), .second, .val (.int (own_i LN)), .val (.int (own_i sN)), .val (.long (own_l iN)), .second, .val (.long (own_l oN)), .second, .val (.ref b33), .val (.long w0), .second, .val (.long vv), .second, .val (.int (1 : Int32))] [(.ref b33)]) := fun tq kq => g145 tq (XS.aload X134.here hx rfl (hb hby at_143) rfl rfl kq)
    have g147 : Gz p.tables e below A T134 (mkF m 147 #[.val (.int p0), .val (.int p1), .val (.int p2), .val (.long w0), .second, .val (.long mask), .second, .val (.long vv), .second, .val (.int (own_i LN)), .val (.int (own_i sN)), .val (.long (own_l iN)), .second, .val (.long (own_l oN)), .second, .val (.ref b33), .val (.long w0), .second, .val (.long vv), .second, .val (.int (1 : Int32))] [(.long (own_l oN)), (.ref b33)]) := fun tq kq => g146 tq (XS.lload X134.here hx rfl (hb hby at_145) rfl kq)
    obtain ⟨cq148, kq148, q148a, q148b, q148c⟩ := isOf hZ e134 E114'
    obtain ⟨_, _, ⟨T148, L148, k148, n148⟩, -, X148, ⟨Lc148, hQ148, l148, y148, z148⟩, st148⟩ := X134.virtualBack hx (y := (⟨"com/example/rarebit/rarebit/util/WordArray", "get", "(J)J"⟩ : MethodName)) (z := (⟨"com/example/rarebit/rarebit/util/WordArray", "get", "(J)J"⟩ : MethodName)) hown (mvT hZ (hw _ (List.mem_of_getElem? (i := 42) rfl))) (mvT hZ (hw _ (List.mem_of_getElem? (i := 37) rfl))) (notFace_of_selects (args := #[]) (mvT hZ (hw _ (List.mem_of_getElem? (i := 39) rfl)))) (mvT hZ (hw _ (List.mem_of_getElem? (i := 39) rfl))) (mvT hZ (hw _ (List.mem_of_getElem? (i := 38) rfl))) (by decide) (backOf (W := 0) (rm4 l Z a0 hw [] b33 ps sN oN bo tO vv T114.heap n0 (Nat.le_trans Z0 K114'.1) ATo WDo hs ho16) hZ (hw _ (List.mem_of_getElem? (i := 40) rfl)) (hw _ (List.mem_of_getElem? (i := 3) rfl)) (by decide) (by decide)) q148a q148c (g := (mkF m 147 #[.val (.int p0), .val (.int p1), .val (.int p2), .val (.long w0), .second, .val (.long mask), .second, .val (.long vv), .second, .val (.int (own_i LN)), .val (.int (own_i sN)), .val (.long (own_l iN)), .second, .val (.long (own_l oN)), .second, .val (.ref b33), .val (.long w0), .second, .val (.long vv), .second, .val (.int (1 : Int32))] [(.long (own_l oN)), (.ref b33)])) rfl (by rw [hml]; rfl) (Steps.refl _) (argsL := [(.long (own_l oN))]) (rest := []) (lenOf pd0_3 rfl) rfl (by show 2 * 0 + _ ≤ _; exact Nat.le_of_eq rfl) (hb hby at_147) (fun _ _ => ⟨rfl, e134, (by decide : 18 + 0 ≤ _), (by decide : 36 + 0 ≤ _)⟩)
    dsimp only [Pt.U, Pt.locs, Pt.cells, Pt.slots] at X148 l148 y148 z148 st148 hQ148
    subst l148 y148 z148
    obtain ⟨rfl, N148q, e148⟩ := hQ148
    have N148 := Fr.app N134 N148q
    have g149 : Gz p.tables e below A T148 (mkF m 150 #[.val (.int p0), .val (.int p1), .val (.int p2), .val (.long w0), .second, .val (.long mask), .second, .val (.long vv), .second, .val (.int (own_i LN)), .val (.int (own_i sN)), .val (.long (own_l iN)), .second, .val (.long (own_l oN)), .second, .val (.ref b33), .val (.long w0), .second, .val (.long vv), .second, .val (.int (1 : Int32))] [(.long vv)]) := fun tq kq => g147 tq (st148.trans kq)
    have g150 : Gz p.tables e below A T148 (mkF m 152 #[.val (.int p0), .val (.int p1), .val (.int p2), .val (.long w0), .second, .val (.long mask), .second, .val (.long vv), .second, .val (.int (own_i LN)), .val (.int (own_i sN)), .val (.long (own_l iN)), .second, .val (.long (own_l oN)), .second, .val (.ref b33), .val (.long w0), .second, .val (.long vv), .second, .val (.int (1 : Int32))] [(.long vv), (.long vv)]) := fun tq kq => g149 tq (XS.lload X148.here hx rfl (hb hby at_150) rfl kq)
    have g151 : Gz p.tables e below A T148 (mkF m 153 #[.val (.int p0), .val (.int p1), .val (.int p2), .val (.long w0), .second, .val (.long mask), .second, .val (.long vv), .second, .val (.int (own_i LN)), .val (.int (own_i sN)), .val (.long (own_l iN)), .second, .val (.long (own_l oN)), .second, .val (.ref b33), .val (.long w0), .second, .val (.long vv), .second, .val (.int (1 : Int32))] [(.int (lcmpW vv vv))]) := fun tq kq => g150 tq (XS.lcmp X148.here hx rfl (hb hby at_152) rfl kq)
    have g152 : Gz p.tables e below A T148 (mkF m 156 #[.val (.int p0), .val (.int p1), .val (.int p2), .val (.long w0), .second, .val (.long mask), .second, .val (.long vv), .second, .val (.int (own_i LN)), .val (.int (own_i sN)), .val (.long (own_l iN)), .second, .val (.long (own_l oN)), .second, .val (.ref b33), .val (.long w0), .second, .val (.long vv), .second, .val (.int (1 : Int32))] []) := fun tq kq => g151 tq (XS.ifNo X148.here hx rfl (hb hby at_153) rfl ((if0 _ _).trans (teq ((lw_eq _ _).mpr rfl)).2) kq)
    have g153 : Gz p.tables e below A T148 (mkF m 157 #[.val (.int p0), .val (.int p1), .val (.int p2), .val (.long w0), .second, .val (.long mask), .second, .val (.long vv), .second, .val (.int (own_i LN)), .val (.int (own_i sN)), .val (.long (own_l iN)), .second, .val (.long (own_l oN)), .second, .val (.ref b33), .val (.long w0), .second, .val (.long vv), .second, .val (.int (1 : Int32))] [(.int (1 : Int32))]) := fun tq kq => g152 tq (XS.iconst X148.here hx rfl (hb hby at_156) kq)
    have g154 : Gz p.tables e below A T148 (mkF m 161 #[.val (.int p0), .val (.int p1), .val (.int p2), .val (.long w0), .second, .val (.long mask), .second, .val (.long vv), .second, .val (.int (own_i LN)), .val (.int (own_i sN)), .val (.long (own_l iN)), .second, .val (.long (own_l oN)), .second, .val (.ref b33), .val (.long w0), .second, .val (.long vv), .second, .val (.int (1 : Int32))] [(.int (1 : Int32))]) := fun tq kq => g153 tq (XS.goto X148.here hx rfl (pc0 := 157) (pc' := 161) rfl (hb hby at_157) (by decide) (by decide) kq)
    have g155 : Gz p.tables e below A T148 (mkF m 163 #[.val (.int p0), .val (.int p1), .val (.int p2), .val (.long w0), .second, .val (.long mask), .second, .val (.long vv), .second, .val (.int (own_i LN)), .val (.int (own_i sN)), .val (.long (own_l iN)), .second, .val (.long (own_l oN)), .second, .val (.ref b33), .val (.long w0), .second, .val (.long vv), .second, .val (.int (1 : Int32))] []) := fun tq kq => g154 tq (XS.istore X148.here hx rfl (hb hby at_161) rfl (l' := #[.val (.int p0), .val (.int p1), .val (.int p2), .val (.long w0), .second, .val (.long mask), .second, .val (.long vv), .second, .val (.int (own_i LN)), .val (.int (own_i sN)), .val (.long (own_l iN)), .second, .val (.long (own_l oN)), .second, .val (.ref b33), .val (.long w0), .second, .val (.long vv), .second, .val (.int (1 : Int32))]) rfl kq)
    have g156 : Gz p.tables e below A T148 (mkF m 165 #[.val (.int p0), .val (.int p1), .val (.int p2), .val (.long w0), .second, .val (.long mask), .second, .val (.long vv), .second, .val (.int (own_i LN)), .val (.int (own_i sN)), .val (.long (own_l iN)), .second, .val (.long (own_l oN)), .second, .val (.ref b33), .val (.long w0), .second, .val (.long vv), .second, .val (.int (1 : Int32))] [(.int (1 : Int32))]) := fun tq kq => g155 tq (XS.iload X148.here hx rfl (hb hby at_163) rfl kq)
    obtain ⟨fs, hr, hrun, hended, hW, hsame⟩ := X148.leave (v := some (.int (1 : Int32))) (fun h => by rw [Bd.returns] at h; cases h)
    refine ⟨_, _, g156 _ (retN X148 hx (t := .boolean) Bd.returns (by simp) (hb hby at_165) hr), hrun, hended, _, _, rfl, ?_, ⟨_, rfl⟩, hW, hsame.mono (by decide) (by decide)⟩
    show Q0 Z p0 p1 p2 w0 mask vv LN sN iN oN h0 n0 _ T148.heap _
    rw [e148]
    exact ⟨rfl, N148⟩

set_option maxRecDepth 65536 in
set_option maxHeartbeats 40000000 in
theorem comes_1 {Post : Tables → Env → Array Value → State → Outcome → State → Prop} (hpost : ∀ tb e args s v u, (limb_1_1.after args s (.returned v) u = true ∧ limb_1_2.after args s (.returned v) u = true ∧ True) → FrameEnd s (.returned v) u (Jvm.fieldLocs frame_1_writes args s ++ Jvm.arrayLocs frame_1_arrays args s ++ Jvm.staticLocs frame_1_statics s) 48 192 → Post tb e args s (.returned v) u) :
    ArmFor flags0 classFile x code maxLocals ret World_1 tables_1 room_1 Calls_1 rest_1 Pre_1 Post := by
  intro l hfl _ _ p e ha hc hk s m args below hf hA hF happ hP
  obtain ⟨hcalls, hrest, hpre⟩ := hP
  obtain ⟨-, -, -, hnamed, -, -, -, hat⟩ := (Spec.applies_iff hf).mp happ
  obtain ⟨hg, hn⟩ := and_e (Cond.before_iff.mp (show (Jvm.Cond.and given_1 narrow_1).before args s = true from hpre))
  obtain ⟨hcnt, hg⟩ := and_e hg
  obtain ⟨ga0, hg⟩ := and_e hg
  obtain ⟨ga1, hg⟩ := and_e hg
  obtain ⟨ga2, hg⟩ := and_e hg
  obtain ⟨ga3, hg⟩ := and_e hg
  obtain ⟨ga4, hg⟩ := and_e hg
  have ga5 := hg
  obtain ⟨w0, w1, w2, w3, w4, w5, rfl⟩ : ∃ w0 w1 w2 w3 w4 w5 : Value, args = #[w0, w1, w2, w3, w4, w5] := by
    have hs : args.size = 6 := by simpa [Cond.value, given_1] using hcnt
    obtain ⟨L⟩ := args
    match L, hs with
    | [w0, w1, w2, w3, w4, w5], _ => exact ⟨w0, w1, w2, w3, w4, w5, rfl⟩
  have hw := fun d (hd : d ∈ tables_1) => atoms_spec (ws := Jvm.Cond.code x code maxLocals ret :: tables_1) hat d (List.mem_cons_of_mem _ hd)
  have hfit : Fit s := fun {y c} hc i hi => by
    obtain ⟨ha, rfl⟩ := Array.getElem?_eq_some_iff.mp hc
    have q := List.all_eq_true.mp ((Array.all_eq_true_iff_forall_mem.mp hF) _ (Array.getElem_mem ha)) i (List.mem_range.mpr hi)
    simpa [Array.getElem?_eq_getElem hi] using q
  obtain ⟨i0, ei0⟩ := is_v ga0
  obtain rfl : w0 = (.int i0) := Option.some.inj ei0
  obtain ⟨i1, ei1⟩ := is_v ga1
  obtain rfl : w1 = (.int i1) := Option.some.inj ei1
  obtain ⟨i2, ei2⟩ := is_v ga2
  obtain rfl : w2 = (.int i2) := Option.some.inj ei2
  obtain ⟨i3, ei3⟩ := isL_v ga3
  obtain rfl : w3 = (.long i3) := Option.some.inj ei3
  obtain ⟨i4, ei4⟩ := isL_v ga4
  obtain rfl : w4 = (.long i4) := Option.some.inj ei4
  obtain ⟨i5, ei5⟩ := isL_v ga5
  obtain rfl : w5 = (.long i5) := Option.some.inj ei5
  have a15 := own_and15 i0
  have hlen3 : ((i0 &&& (15 : Int32)) + (1 : Int32)).toInt = (i0 &&& 15).toInt + 1 := by
    rw [Int32.toInt_add, show (1 : Int32).toInt = 1 from rfl, Int.bmod_eq_of_le (by omega) (by omega)]
  obtain ⟨LN, hLN, hlen⟩ := own_i32 (x := ((i0 &&& (15 : Int32)) + (1 : Int32))) (N := 17) (by omega) (by omega) (by decide)
  have hq13 := own_f13 ⟨LN, hLN⟩
  dsimp only at hq13
  have hL1 : 1 ≤ LN := by rw [hlen, hq13] at hlen3; omega
  have a7 := own_and7 ((i0.toUInt32 >>> ((4 : Int32) &&& 31).toUInt32).toInt32)
  obtain ⟨sN, hsN, hsh⟩ := own_i32 (N := 8) a7.1 a7.2 (by decide)
  have r1 := own_rem i1 (own_i LN) LN hq13 (by omega)
  obtain ⟨iN, hiN, hidx⟩ := own_i32 (N := LN) r1.1 r1.2 (by omega)
  have r2 := own_rem i2 (own_i LN) LN hq13 (by omega)
  obtain ⟨oN, hoN, hoth⟩ := own_i32 (N := LN) r2.1 r2.2 (by omega)
  have hnz : own_i LN ≠ 0 := fun q => by rw [q] at hq13; have z : (0 : Int32).toInt = 0 := (by decide); omega
  obtain ⟨n, o, h1, h2, h3, _, L, rfl, ⟨rfl, N⟩, hq⟩ := rm0 l s _ hw tables_1 i0 i1 i2 i3 i4 i5 LN sN iN oN s.heap s.heap.size (Nat.le_refl _) hsN hLN hL1 hiN hoN (by omega) (by omega) hlen hsh hidx hoth hnz p e ha hc hk s m _ below hf ((Spec.applies_iff_loose hf).mp happ).1 ⟨rfl, State.Warmed39.refl s, rfl⟩ trivial
  refine ⟨n, _, h1, h2, h3, hpost _ _ _ _ _ _ ⟨Cond.after_iff.mpr rfl, Cond.after_iff.mpr (eq_i res_at (Term.int_eval (1)) rfl), trivial⟩ ⟨hq.1, hq.2.1, (hq.2.2.sift fun y hy => Or.inr (N y hy)).mono (by decide) (by decide)⟩⟩
theorem main_1_1 : Claimed_1_1 := comes_1 fun _ _ _ _ _ _ h hF => ⟨h.1, hF⟩
theorem main_1_2 : Claimed_1_2 := comes_1 fun _ _ _ _ _ _ h hF => ⟨h.2.1, hF⟩
end Jvm.Pilot.@@N@@
namespace Jvm.Pilot.@@N@@
open Jvm Jvm.ClassFile Sem Op Lib Jvm.Free Jvm.Stand Jvm.Pilot.@@N@@.Jvm.D
/-! MADE BY PROGRAM (witnessworld.py) out of the Statement's table words and the real class files: 12 classes; the members and pool entries that the words name. The judged class is class 1, her method 1. -/
namespace start1
open Jvm.ClassFile
def u (s : String) : CpInfo := .utf8 (stringToUtf16 s)
/-- a pool by its gaps: so many unusable entries, then the entry; so many at the end -/
def gap : Nat → List CpInfo → List CpInfo
  | 0, r => r
  | n + 1, r => .unusable :: gap n r
def poolList (es : List (Nat × CpInfo)) (last : Nat) : List CpInfo := es.foldr (fun e r => gap e.1 (e.2 :: r)) (gap last [])
def pool (es : List (Nat × CpInfo)) (last : Nat) : Array CpInfo := ⟨poolList es last⟩
def fileOf (pool : Array CpInfo) (this : Nat) (attrs : Array Attribute := #[]) (ms : Array MethodInfo := #[]) (fl : Nat := 33) (sup : Nat := 0) (ifs : Array Nat := #[]) (fds : Array FieldInfo := #[]) : ClassFile where
  minorVersion := 0
  majorVersion := 65
  constantPool := pool
  accessFlags := fl
  thisClass := this
  superClass := sup
  interfaces := ifs
  fields := fds
  methods := ms
  attributes := attrs
def plain (name : String) (sup : Option ClassId) : Class where
  name := name
  kind := .ordinary
  loader := none
  accessFlags := 33
  super := sup
  interfaces := #[]
  cf := none
  fields := #[]
  methods := #[]
  instanceTypes := #[]
  staticTypes := #[]
  resolved := #[]
  callSites := []
  init := .initialized
  statics := none
  mirror := none

def pool0 : Array CpInfo := pool [(5, u "<init>"), (0, u "()V"), (1, .class_ 10), (1, u "java/lang/Object")] 113

def k0c0 : Code := { maxStack := 0, maxLocals := 1, code := object_method_1_code, exceptionTable := #[], attributes := #[] }
def k0m0 : Method := { name := "<init>", desc := "()V", sig := { parameters := [], returnType := none }, accessFlags := 1, code := some k0c0 }
/-- java/lang/Object -/
def k0 : Class := { plain "java/lang/Object" none with
  accessFlags := 33
  interfaces := #[]
  cf := some (fileOf pool0 8 #[] #[{ accessFlags := 1, nameIndex := 5, descriptorIndex := 6, attributes := #[] }] 33 0 #[] #[])
  fields := #[]
  methods := #[k0m0]
  instanceTypes := #[]
  staticTypes := #[]
  resolved := Array.replicate 124 none
  statics := none }

def pool1 : Array CpInfo := pool [(2, .class_ 4), (1, u "java/lang/Object"), (0, u "<init>"), (0, u "()V"), (0, .integer 2147483647), (0, .class_ 9), (0, u "com/example/rarebit/rarebit/util/WordArray"), (0, .methodref 8 11), (0, .nameAndType 5 12), (0, u "(JI)V"), (0, .methodref 8 14), (0, .nameAndType 15 16), (0, u "set"), (0, u "(JJ)V"), (0, .methodref 8 18), (0, .nameAndType 19 20), (0, u "getAndBitwiseOrPlain"), (0, u "(JJ)J"), (0, .methodref 8 22), (0, .nameAndType 23 24), (0, u "get"), (0, u "(J)J"), (0, .class_ 26), (0, u "com/example/rarebit/rarebit/util/WordArrayGetAndBitwiseOrPlainPinLaw"), (2, u "law"), (0, u "(IIIJJJ)Z")] 3

def k1m0 : Method := { name := "<init>", desc := "()V", sig := { parameters := [], returnType := none }, accessFlags := 1, code := none }
def k1c1 : Code := { maxStack := 6, maxLocals := 21, code := code, exceptionTable := #[], attributes := #[] }
def k1m1 : Method := { name := "law", desc := "(IIIJJJ)Z", sig := { parameters := [.int, .int, .int, .long, .long, .long], returnType := some .boolean }, accessFlags := 9, code := some k1c1 }
/-- com/example/rarebit/rarebit/util/WordArrayGetAndBitwiseOrPlainPinLaw -/
def k1 : Class := { plain "com/example/rarebit/rarebit/util/WordArrayGetAndBitwiseOrPlainPinLaw" (some 0) with
  accessFlags := 49
  interfaces := #[]
  cf := some (fileOf pool1 25 #[] #[{ accessFlags := 1, nameIndex := 5, descriptorIndex := 6, attributes := #[] }, { accessFlags := 9, nameIndex := 29, descriptorIndex := 30, attributes := #[] }] 49 2 #[] #[])
  fields := #[]
  methods := #[k1m0, k1m1]
  instanceTypes := #[]
  staticTypes := #[]
  resolved := Array.replicate 34 none
  statics := none }

def pool2 : Array CpInfo := pool [(1, .class_ 2), (0, u "com/example/rarebit/rarebit/util/WordArray"), (2, u "<init>"), (0, u "(JI)V"), (0, .methodref 8 9), (0, .class_ 10), (0, .nameAndType 5 11), (0, u "java/lang/Object"), (0, u "()V"), (0, .fieldref 1 13), (0, .nameAndType 14 15), (0, u "length"), (0, u "J"), (0, .fieldref 1 17), (0, .nameAndType 18 19), (0, u "pageShift"), (0, u "I"), (0, .class_ 21), (0, u "[J"), (0, .fieldref 1 23), (0, .nameAndType 24 25), (0, u "pages"), (0, u "[[J"), (0, .methodref 27 28), (0, .class_ 29), (0, .nameAndType 30 31), (0, u "java/lang/Math"), (0, u "min"), (0, u "(JJ)J"), (0, .fieldref 1 33), (0, .nameAndType 34 21), (0, u "only"), (4, .methodref 1 40), (0, .nameAndType 41 42), (0, u "page"), (0, u "(J)[J"), (0, .methodref 1 44), (0, .nameAndType 45 46), (0, u "slot"), (0, u "(J)I"), (0, .methodref 1 48), (0, .nameAndType 49 50), (0, u "get"), (0, u "(J)J"), (0, .methodref 1 52), (0, .nameAndType 53 54), (0, u "set"), (0, u "(JJ)V"), (2, u "WORD"), (0, u "Ljava/lang/invoke/VarHandle;"), (40, .class_ 101), (1, u "com/example/rarebit/rarebit/util/WordArray$PageCopy"), (7, u "PAGE_SHIFT"), (2, u "MAX_LENGTH"), (8, u "getAndBitwiseOrPlain")] 33

def k2c0 : Code := { maxStack := 9, maxLocals := 7, code := prog_32_method_2_code, exceptionTable := #[], attributes := #[] }
def k2m0 : Method := { name := "<init>", desc := "(JI)V", sig := { parameters := [.long, .int], returnType := none }, accessFlags := 0, code := some k2c0 }
def k2c1 : Code := { maxStack := 4, maxLocals := 3, code := prog_32_method_5_code, exceptionTable := #[], attributes := #[] }
def k2m1 : Method := { name := "get", desc := "(J)J", sig := { parameters := [.long], returnType := some .long }, accessFlags := 0, code := some k2c1 }
def k2c2 : Code := { maxStack := 4, maxLocals := 5, code := prog_32_method_6_code, exceptionTable := #[], attributes := #[] }
def k2m2 : Method := { name := "set", desc := "(JJ)V", sig := { parameters := [.long, .long], returnType := none }, accessFlags := 0, code := some k2c2 }
def k2c3 : Code := { maxStack := 7, maxLocals := 7, code := prog_32_method_7_code, exceptionTable := #[], attributes := #[] }
def k2m3 : Method := { name := "getAndBitwiseOrPlain", desc := "(JJ)J", sig := { parameters := [.long, .long], returnType := some .long }, accessFlags := 0, code := some k2c3 }
def k2c4 : Code := { maxStack := 4, maxLocals := 3, code := prog_32_method_14_code, exceptionTable := #[], attributes := #[] }
def k2m4 : Method := { name := "page", desc := "(J)[J", sig := { parameters := [.long], returnType := some (.array .long) }, accessFlags := 2, code := some k2c4 }
def k2c5 : Code := { maxStack := 3, maxLocals := 3, code := prog_32_method_15_code, exceptionTable := #[], attributes := #[] }
def k2m5 : Method := { name := "slot", desc := "(J)I", sig := { parameters := [.long], returnType := some .int }, accessFlags := 2, code := some k2c5 }
/-- com/example/rarebit/rarebit/util/WordArray -/
def k2 : Class := { plain "com/example/rarebit/rarebit/util/WordArray" (some 0) with
  accessFlags := 32
  interfaces := #[]
  cf := some (fileOf pool2 1 #[.nestMembers #[99]] #[{ accessFlags := 0, nameIndex := 5, descriptorIndex := 6, attributes := #[] }, { accessFlags := 0, nameIndex := 49, descriptorIndex := 50, attributes := #[] }, { accessFlags := 0, nameIndex := 53, descriptorIndex := 54, attributes := #[] }, { accessFlags := 0, nameIndex := 121, descriptorIndex := 31, attributes := #[] }, { accessFlags := 2, nameIndex := 41, descriptorIndex := 42, attributes := #[] }, { accessFlags := 2, nameIndex := 45, descriptorIndex := 46, attributes := #[] }] 32 8 #[] #[{ accessFlags := 26, nameIndex := 109, descriptorIndex := 19, attributes := #[] }, { accessFlags := 26, nameIndex := 57, descriptorIndex := 58, attributes := #[] }, { accessFlags := 24, nameIndex := 112, descriptorIndex := 15, attributes := #[] }, { accessFlags := 18, nameIndex := 14, descriptorIndex := 15, attributes := #[] }, { accessFlags := 18, nameIndex := 18, descriptorIndex := 19, attributes := #[] }, { accessFlags := 18, nameIndex := 24, descriptorIndex := 25, attributes := #[] }, { accessFlags := 18, nameIndex := 34, descriptorIndex := 21, attributes := #[] }])
  fields := #[{ name := "PAGE_SHIFT", type := .int, accessFlags := 26, slot := 0, constantValue := 0 }, { name := "WORD", type := (.object "java/lang/invoke/VarHandle"), accessFlags := 26, slot := 1, constantValue := 0 }, { name := "MAX_LENGTH", type := .long, accessFlags := 24, slot := 2, constantValue := 0 }, { name := "length", type := .long, accessFlags := 18, slot := 0, constantValue := 0 }, { name := "pageShift", type := .int, accessFlags := 18, slot := 1, constantValue := 0 }, { name := "pages", type := (.array (.array .long)), accessFlags := 18, slot := 2, constantValue := 0 }, { name := "only", type := (.array .long), accessFlags := 18, slot := 3, constantValue := 0 }]
  methods := #[k2m0, k2m1, k2m2, k2m3, k2m4, k2m5]
  instanceTypes := #[.long, .int, (.array (.array .long)), (.array .long)]
  staticTypes := #[.int, (.object "java/lang/invoke/VarHandle"), .long]
  resolved := Array.replicate 155 none
  statics := none }

def pool3 : Array CpInfo := pool [(1, .class_ 2), (0, u "java/lang/Math"), (1, .class_ 6), (1, u "java/lang/Object"), (0, u "<init>"), (0, u "()V"), (89, .class_ 100), (1, u "java/lang/Math$RandomNumberGeneratorHolder"), (20, u "(JJ)J"), (50, u "negativeZeroFloatBits"), (0, u "J"), (2, u "negativeZeroDoubleBits"), (24, u "min"), (43, u "$assertionsDisabled"), (0, u "Z"), (91, u "twoToTheDoubleScaleDown"), (0, u "D"), (4, u "twoToTheDoubleScaleUp"), (9, u "E"), (3, u "PI"), (2, u "TAU"), (2, u "DEGREES_TO_RADIANS"), (0, u "RADIANS_TO_DEGREES")] 94

def k3m0 : Method := { name := "<init>", desc := "()V", sig := { parameters := [], returnType := none }, accessFlags := 2, code := none }
def k3c1 : Code := { maxStack := 4, maxLocals := 4, code := jdk_29_method_70_code, exceptionTable := #[], attributes := #[] }
def k3m1 : Method := { name := "min", desc := "(JJ)J", sig := { parameters := [.long, .long], returnType := some .long }, accessFlags := 9, code := some k3c1 }
/-- java/lang/Math -/
def k3 : Class := { plain "java/lang/Math" (some 0) with
  accessFlags := 49
  interfaces := #[]
  cf := some (fileOf pool3 1 #[.nestMembers #[98]] #[{ accessFlags := 2, nameIndex := 7, descriptorIndex := 8, attributes := #[] }, { accessFlags := 9, nameIndex := 201, descriptorIndex := 121, attributes := #[] }] 49 4 #[] #[{ accessFlags := 25, nameIndex := 354, descriptorIndex := 339, attributes := #[] }, { accessFlags := 25, nameIndex := 358, descriptorIndex := 339, attributes := #[] }, { accessFlags := 25, nameIndex := 361, descriptorIndex := 339, attributes := #[] }, { accessFlags := 26, nameIndex := 364, descriptorIndex := 339, attributes := #[] }, { accessFlags := 26, nameIndex := 365, descriptorIndex := 339, attributes := #[] }, { accessFlags := 26, nameIndex := 172, descriptorIndex := 173, attributes := #[] }, { accessFlags := 26, nameIndex := 176, descriptorIndex := 173, attributes := #[] }, { accessFlags := 8, nameIndex := 344, descriptorIndex := 339, attributes := #[] }, { accessFlags := 8, nameIndex := 338, descriptorIndex := 339, attributes := #[] }, { accessFlags := 4120, nameIndex := 245, descriptorIndex := 246, attributes := #[] }])
  fields := #[{ name := "E", type := .double, accessFlags := 25, slot := 0, constantValue := 0 }, { name := "PI", type := .double, accessFlags := 25, slot := 1, constantValue := 0 }, { name := "TAU", type := .double, accessFlags := 25, slot := 2, constantValue := 0 }, { name := "DEGREES_TO_RADIANS", type := .double, accessFlags := 26, slot := 3, constantValue := 0 }, { name := "RADIANS_TO_DEGREES", type := .double, accessFlags := 26, slot := 4, constantValue := 0 }, { name := "negativeZeroFloatBits", type := .long, accessFlags := 26, slot := 5, constantValue := 0 }, { name := "negativeZeroDoubleBits", type := .long, accessFlags := 26, slot := 6, constantValue := 0 }, { name := "twoToTheDoubleScaleUp", type := .double, accessFlags := 8, slot := 7, constantValue := 0 }, { name := "twoToTheDoubleScaleDown", type := .double, accessFlags := 8, slot := 8, constantValue := 0 }, { name := "$assertionsDisabled", type := .boolean, accessFlags := 4120, slot := 9, constantValue := 0 }]
  methods := #[k3m0, k3m1]
  instanceTypes := #[]
  staticTypes := #[.double, .double, .double, .double, .double, .long, .long, .double, .double, .boolean]
  resolved := Array.replicate 460 none
  statics := none }

def pool4 : Array CpInfo := pool [(1, u "java/lang/Cloneable"), (0, .class_ 1), (0, u "java/lang/Object"), (0, .class_ 3)] 3

/-- java/lang/Cloneable -/
def k4 : Class := { plain "java/lang/Cloneable" (some 0) with
  accessFlags := 1537
  interfaces := #[]
  cf := some (fileOf pool4 2 #[] #[] 1537 4 #[] #[])
  fields := #[]
  methods := #[]
  instanceTypes := #[]
  staticTypes := #[]
  resolved := Array.replicate 8 none
  statics := none }

def pool5 : Array CpInfo := pool [(1, u "java/io/Serializable"), (0, .class_ 1), (0, u "java/lang/Object"), (0, .class_ 3)] 3

/-- java/io/Serializable -/
def k5 : Class := { plain "java/io/Serializable" (some 0) with
  accessFlags := 1537
  interfaces := #[]
  cf := some (fileOf pool5 2 #[] #[] 1537 4 #[] #[])
  fields := #[]
  methods := #[]
  instanceTypes := #[]
  staticTypes := #[]
  resolved := Array.replicate 8 none
  statics := none }

/-- the primitive byte -/
def k6 : Class := { plain "byte" none with kind := .primitive 'B', accessFlags := 0x411 }
/-- [B -/
def k7 : Class := { plain "[B" (some 0) with kind := .array 6 .byte, interfaces := #[4, 5], accessFlags := 1041 }

/-- the primitive int -/
def k8 : Class := { plain "int" none with kind := .primitive 'I', accessFlags := 0x411 }
/-- [I -/
def k9 : Class := { plain "[I" (some 0) with kind := .array 8 .int, interfaces := #[4, 5], accessFlags := 1041 }

/-- the primitive long -/
def k10 : Class := { plain "long" none with kind := .primitive 'J', accessFlags := 0x411 }
/-- [J -/
def k11 : Class := { plain "[J" (some 0) with kind := .array 10 .long, interfaces := #[4, 5], accessFlags := 1041 }
/-- [[J -/
def k12 : Class := { plain "[[J" (some 0) with kind := .array 11 (.array .long), interfaces := #[4, 5], accessFlags := 1041 }

def heap : Heap := #[]
def classes : Array Class := #[k0, k1, k2, k3, k4, k5, k6, k7, k8, k9, k10, k11, k12]
def interned : List (Array UInt16 × Addr) := []
def slotsUsed : Nat := 0
def theMethod : MethodId := ⟨1, 1⟩
def args0 : Array Value := #[.int 5, .int 7, .int 9, .long 5, .long 7, .long 9]
def aboutOver (below : List Frame) : State where
  vm := { classes := classes, interned := interned.toArray }
  heap := heap
  slotsUsed := slotsUsed
  threads := #[{ frames := .invoking theMethod args0 :: below }]
def below0 : List Frame := [.native { method := ⟨0, 0⟩, args := #[] }]
def about1 : State := aboutOver below0
def p0 : Program := .bare "" "" ""
def e0 : Env := launch0.env 0 0 0
theorem w_frames : about1.frames = Frame.invoking theMethod args0 :: below0 := rfl
set_option maxRecDepth 65536 in
theorem w_args : argsFit about1.vm theMethod args0 = true := by decide +kernel
set_option maxRecDepth 65536 in
theorem w_heap : heapFits about1 = true := by decide +kernel
set_option maxRecDepth 65536 in
theorem w_runnable : about1.curStatus? = some .runnable := by decide +kernel
set_option maxRecDepth 65536 in
theorem w_alone : about1.alone = true := by decide +kernel
set_option maxRecDepth 65536 in
theorem w_named : about1.methodNamed? x = some theMethod := by decide +kernel
set_option maxRecDepth 65536 in
theorem w_hears : about1.hears theMethod below0 = true := by decide +kernel
set_option maxRecDepth 65536 in
theorem w_ripe : about1.ripe theMethod args0 below0 = true := by decide +kernel
theorem w_running : about1.status = .running := rfl
set_option maxRecDepth 65536 in
theorem w_room : about1.hasRoom e0.platform room_1 = true :=
  launch0.hasRoom_least _ room_1 (by decide +kernel) (by decide +kernel) (by decide +kernel) (by decide +kernel) (by decide +kernel) (by decide +kernel)
theorem allAtoms_all (ts : List Jvm.Cond) (a : Array Jvm.Value) (st : Jvm.State) : (allAtoms ts).before a st = ts.all (fun c => c.before a st) := by
  induction ts with
  | nil => rfl
  | cons c t ih =>
    show (Jvm.Cond.and c (allAtoms t)).before a st = _
    rw [Jvm.Cond.before_and, ih, List.all_cons]
def words1 : List Jvm.Cond := Jvm.Cond.code x code maxLocals ret :: tables_1
/-- a 'code' word, met by the world's own term for the bytes: nothing is compared byte by byte -/
theorem code_word {y : MethodName} {bytes : ByteArray} {mx : Nat} {rt : Option FieldType} {a : Array Value} {s : State} {m : MethodId} {meth : Method} {c : Code} (h1 : s.methodNamed? y = some m) (h2 : s.vm.method? m = some meth) (h3 : meth.code = some c) (h4 : c.code = bytes)
    (h5 : (c.maxLocals == mx && c.exceptionTable.isEmpty && decide (c.maxStack ≤ mostOperands) && decide (meth.sig.returnType = rt) && !meth.locks && decide (parseMethodDescriptor y.desc = some meth.sig)) = true) : (Jvm.Cond.code y bytes mx rt).before a s = true := by
  simp only [Bool.and_eq_true, beq_iff_eq, Bool.not_eq_true', decide_eq_true_eq] at h5
  obtain ⟨⟨⟨⟨⟨g1, g2⟩, g3⟩, g4⟩, g5⟩, g6⟩ := h5
  simp [Cond.before, Cond.holds, Cond.value, h1, h2, h3, h4, g1, g2, g3, g4, g5, g6]
def isCode : Jvm.Cond → Bool
  | .code _ _ _ _ => true
  | _ => false
theorem all_split {L : List Jvm.Cond} {P : Jvm.Cond → Bool} (h1 : L.all (fun c => isCode c || P c) = true) (h2 : ∀ c ∈ L.filter isCode, P c = true) : L.all P = true := by
  refine List.all_eq_true.mpr fun c hc => ?_
  have h := List.all_eq_true.mp h1 c hc
  rcases Bool.eq_false_or_eq_true (isCode c) with hi | hi
  · exact h2 c (List.mem_filter.mpr ⟨hc, hi⟩)
  · simpa [hi] using h
set_option maxRecDepth 65536 in
theorem w_c0 : (Jvm.Cond.code x code maxLocals ret).before args0 about1 = true := code_word (m := ⟨1, 1⟩) (meth := k1m1) (c := k1c1) (by decide +kernel) rfl rfl rfl (by decide +kernel)
set_option maxRecDepth 65536 in
theorem w_c1 : (Jvm.Cond.code ({ cls := "com/example/rarebit/rarebit/util/WordArray", name := "<init>", desc := "(JI)V" } : Jvm.MethodName) prog_32_method_2_code (7 : Nat) (Option.none : Option Jvm.ClassFile.FieldType)).before args0 about1 = true := code_word (m := ⟨2, 0⟩) (meth := k2m0) (c := k2c0) (by decide +kernel) rfl rfl rfl (by decide +kernel)
set_option maxRecDepth 65536 in
theorem w_c2 : (Jvm.Cond.code ({ cls := "java/lang/Object", name := "<init>", desc := "()V" } : Jvm.MethodName) object_method_1_code (1 : Nat) (Option.none : Option Jvm.ClassFile.FieldType)).before args0 about1 = true := code_word (m := ⟨0, 0⟩) (meth := k0m0) (c := k0c0) (by decide +kernel) rfl rfl rfl (by decide +kernel)
set_option maxRecDepth 65536 in
theorem w_c3 : (Jvm.Cond.code ({ cls := "java/lang/Math", name := "min", desc := "(JJ)J" } : Jvm.MethodName) jdk_29_method_70_code (4 : Nat) (Option.some Jvm.ClassFile.FieldType.long)).before args0 about1 = true := code_word (m := ⟨3, 1⟩) (meth := k3m1) (c := k3c1) (by decide +kernel) rfl rfl rfl (by decide +kernel)
set_option maxRecDepth 65536 in
theorem w_c4 : (Jvm.Cond.code ({ cls := "com/example/rarebit/rarebit/util/WordArray", name := "set", desc := "(JJ)V" } : Jvm.MethodName) prog_32_method_6_code (5 : Nat) (Option.none : Option Jvm.ClassFile.FieldType)).before args0 about1 = true := code_word (m := ⟨2, 2⟩) (meth := k2m2) (c := k2c2) (by decide +kernel) rfl rfl rfl (by decide +kernel)
set_option maxRecDepth 65536 in
theorem w_c5 : (Jvm.Cond.code ({ cls := "com/example/rarebit/rarebit/util/WordArray", name := "getAndBitwiseOrPlain", desc := "(JJ)J" } : Jvm.MethodName) prog_32_method_7_code (7 : Nat) (Option.some Jvm.ClassFile.FieldType.long)).before args0 about1 = true := code_word (m := ⟨2, 3⟩) (meth := k2m3) (c := k2c3) (by decide +kernel) rfl rfl rfl (by decide +kernel)
set_option maxRecDepth 65536 in
theorem w_c6 : (Jvm.Cond.code ({ cls := "com/example/rarebit/rarebit/util/WordArray", name := "get", desc := "(J)J" } : Jvm.MethodName) prog_32_method_5_code (3 : Nat) (Option.some Jvm.ClassFile.FieldType.long)).before args0 about1 = true := code_word (m := ⟨2, 1⟩) (meth := k2m1) (c := k2c1) (by decide +kernel) rfl rfl rfl (by decide +kernel)
set_option maxRecDepth 65536 in
theorem w_c7 : (Jvm.Cond.code ({ cls := "com/example/rarebit/rarebit/util/WordArray", name := "page", desc := "(J)[J" } : Jvm.MethodName) prog_32_method_14_code (3 : Nat) (Option.some (Jvm.ClassFile.FieldType.array Jvm.ClassFile.FieldType.long))).before args0 about1 = true := code_word (m := ⟨2, 4⟩) (meth := k2m4) (c := k2c4) (by decide +kernel) rfl rfl rfl (by decide +kernel)
set_option maxRecDepth 65536 in
theorem w_c8 : (Jvm.Cond.code ({ cls := "com/example/rarebit/rarebit/util/WordArray", name := "slot", desc := "(J)I" } : Jvm.MethodName) prog_32_method_15_code (3 : Nat) (Option.some Jvm.ClassFile.FieldType.int)).before args0 about1 = true := code_word (m := ⟨2, 5⟩) (meth := k2m5) (c := k2c5) (by decide +kernel) rfl rfl rfl (by decide +kernel)
def codes1 : List Jvm.Cond := [Jvm.Cond.code x code maxLocals ret, Jvm.Cond.code ({ cls := "com/example/rarebit/rarebit/util/WordArray", name := "<init>", desc := "(JI)V" } : Jvm.MethodName) prog_32_method_2_code (7 : Nat) (Option.none : Option Jvm.ClassFile.FieldType), Jvm.Cond.code ({ cls := "java/lang/Object", name := "<init>", desc := "()V" } : Jvm.MethodName) object_method_1_code (1 : Nat) (Option.none : Option Jvm.ClassFile.FieldType), Jvm.Cond.code ({ cls := "java/lang/Math", name := "min", desc := "(JJ)J" } : Jvm.MethodName) jdk_29_method_70_code (4 : Nat) (Option.some Jvm.ClassFile.FieldType.long), Jvm.Cond.code ({ cls := "com/example/rarebit/rarebit/util/WordArray", name := "set", desc := "(JJ)V" } : Jvm.MethodName) prog_32_method_6_code (5 : Nat) (Option.none : Option Jvm.ClassFile.FieldType), Jvm.Cond.code ({ cls := "com/example/rarebit/rarebit/util/WordArray", name := "getAndBitwiseOrPlain", desc := "(JJ)J" } : Jvm.MethodName) prog_32_method_7_code (7 : Nat) (Option.some Jvm.ClassFile.FieldType.long), Jvm.Cond.code ({ cls := "com/example/rarebit/rarebit/util/WordArray", name := "get", desc := "(J)J" } : Jvm.MethodName) prog_32_method_5_code (3 : Nat) (Option.some Jvm.ClassFile.FieldType.long), Jvm.Cond.code ({ cls := "com/example/rarebit/rarebit/util/WordArray", name := "page", desc := "(J)[J" } : Jvm.MethodName) prog_32_method_14_code (3 : Nat) (Option.some (Jvm.ClassFile.FieldType.array Jvm.ClassFile.FieldType.long)), Jvm.Cond.code ({ cls := "com/example/rarebit/rarebit/util/WordArray", name := "slot", desc := "(J)I" } : Jvm.MethodName) prog_32_method_15_code (3 : Nat) (Option.some Jvm.ClassFile.FieldType.int)]
set_option maxRecDepth 65536 in
theorem codes_eq : words1.filter isCode = codes1 := rfl
theorem w_codes : ∀ c ∈ words1.filter isCode, c.before args0 about1 = true := by
  rw [codes_eq]
  intro c hc
  simp only [codes1, List.mem_cons, List.not_mem_nil, or_false] at hc
  rcases hc with rfl | rfl | rfl | rfl | rfl | rfl | rfl | rfl | rfl
  · exact w_c0
  · exact w_c1
  · exact w_c2
  · exact w_c3
  · exact w_c4
  · exact w_c5
  · exact w_c6
  · exact w_c7
  · exact w_c8
set_option maxRecDepth 65536 in
theorem w_t1 : (words1.take 24).all (fun c => isCode c || c.before args0 about1) = true := by decide +kernel
set_option maxRecDepth 65536 in
theorem w_t2 : ((words1.drop 24).take 24).all (fun c => isCode c || c.before args0 about1) = true := by decide +kernel
set_option maxRecDepth 65536 in
theorem w_t3 : ((words1.drop 24).drop 24).all (fun c => isCode c || c.before args0 about1) = true := by decide +kernel
theorem w_tables : (allAtoms (Jvm.Cond.code x code maxLocals ret :: tables_1)).before args0 about1 = true := by
  rw [allAtoms_all]
  show words1.all (fun c => c.before args0 about1) = true
  refine all_split ?_ w_codes
  rw [← List.take_append_drop 24 words1, List.all_append, w_t1, ← List.take_append_drop 24 (words1.drop 24), List.all_append, w_t2, w_t3]
  rfl
set_option maxRecDepth 65536 in
theorem w_case : (Jvm.Cond.and given_1 narrow_1).before args0 about1 = true := by decide +kernel
theorem w_applies : (headSpec (Jvm.Cond.code x code maxLocals ret :: tables_1) room_1).applies x e0.platform about1 = true :=
  (Spec.applies_iff w_frames).mpr ⟨w_running, w_runnable, w_alone, w_named, w_hears, w_ripe, w_room, w_tables⟩
theorem atStart : AtStart classFile x code maxLocals ret World_1 tables_1 room_1 Calls_1 rest_1 Pre_1 launch0 p0 e0 about1 theMethod args0 below0 :=
  ⟨lists_1, trivial, launch0.admits_env _ _ _, launch0.least_env, fairChoices_fair.cas, fairChoices_fair.clock, w_frames, w_args, w_heap, w_applies, trivial, trivial, w_case⟩
end start1
theorem witness_1 : WitnessClaimed_1 := ⟨start1.p0, start1.e0, start1.about1, start1.theMethod, start1.args0, start1.below0, start1.atStart⟩
end Jvm.Pilot.@@N@@
