import JvmDerived
import JvmDerived.Pilot.@@N@@Statement
import JvmDerived.Pilot.@@N@@Code
set_option linter.unusedVariables false
set_option linter.unusedSimpArgs false
@@BLOCK:NumsL.lean.txt@@
namespace Jvm.RoadKit
open Sem ClassFile Op Lib Jvm.Stand Jvm.Free Jvm.LawKit
section New
variable {p : Program} {l : Launch} {e : Env} {R : Room} {s : State} {m : MethodId} {args : Array Value} {below : List Frame} {meth : Method} {c : Code} {T : State} {locs : List Loc} {cells slots : Nat}
theorem retI (X : Stand p l e R s m args below meth c T locs cells slots) (hx : p.tables.exec = Jvm.exec) {pc : Nat} {Ls : Array Slot} {z : Int32} {rest : List Value} (hret : meth.sig.returnType = some .int) (hd : decode c.code pc = .ok (.ireturn, 1)) {fs : List Frame}
    (hl : ∀ (f : JFrame) (acts : List Action), f.method = m → f.locked = none → f.entered = [] → (doReturn e (T.setTop f) acts (some (.int z))).1 = T.setFrames fs) : Steps p.tables e below (T.setTop (mkF m pc Ls (.int z :: rest))) (T.setFrames fs) := by
  have hm' : T.vm.method? m = some meth := X.method'
  have hn : narrow .int (.int z) = .int z := rfl
  show Steps p.tables e below (T.setTop { method := m, pc := pc, locals := Ls, stack := _ :: rest, locked := none }) _
  jvm_step X.here [X.here.top, hx, hd, hm', hret, hn]
  first | (intro acts; rw [hl _ acts rfl rfl rfl]) | rw [hl _ _ rfl rfl rfl]
  exact Steps.refl _
end New
end Jvm.RoadKit
namespace Jvm.Pilot.@@N@@
open Jvm Jvm.ClassFile Sem Op Lib Jvm.Free Jvm.Stand Jvm.LawKit Jvm.RoadKit Bundle Jvm.Pilot.@@N@@.Jvm.D
theorem wk {a0 : Array Value} {Z : State} (hw : ∀ d ∈ tables_1, d.before a0 Z = true) {d : Jvm.Cond} (i : Nat) (h : tables_1[i]? = some d) : d.before a0 Z = true := hw _ (List.mem_of_getElem? h)
abbrev Go (tb : Tables) (e : Env) (below : List Frame) (T : State) (g : JFrame) (T0 : State) (g0 : JFrame) : Prop := ∀ t, Steps tb e below (T.setTop g) t → Steps tb e below (T0.setTop g0) t
theorem own_fldI {args : Array Value} {s : State} {t : Term} {C n d : String} {a : Addr} {k : Int32} (h : (Jvm.Cond.eq (Term.field t C n d) (Term.int k)).value args s none s [] = some true) (ht : t.eval args s none [] s = some (.ref a)) : s.fieldOf? a C n d = some (.int k) := by
  obtain ⟨x, y, e1, e2, k1, k2⟩ := cmp_v (Or.inl h)
  have e3 : (Term.int k).eval args s none [] s = some (.int k) := rfl
  obtain rfl : Value.int k = y := Option.some.inj (e3.symm.trans e2)
  obtain ⟨z, rfl⟩ := k2
  rw [fld_at ht] at e1
  have q : (Jvm.Cond.eq (Term.field t C n d) (Term.int k)).value args s none s [] = some (decide (z = k)) := by simp [Jvm.Cond.value, fld_at ht, e1, e3]
  rw [gotT q h] at e1
  exact e1
theorem own_fldR {args : Array Value} {s : State} {t u : Term} {C n d : String} {a b : Addr} (h : (Jvm.Cond.eq (Term.field t C n d) u).value args s none s [] = some true) (ht : t.eval args s none [] s = some (.ref a)) (hu : u.eval args s none [] s = some (.ref b)) : s.fieldOf? a C n d = some (.ref b) := by
  obtain ⟨x, y, e1, e2, k1, k2⟩ := cmp_v (Or.inl h)
  obtain rfl : Value.ref b = y := Option.some.inj (hu.symm.trans e2)
  have q := eq_R e1 hu k2.2 rfl
  rw [gotT q h, fld_at ht] at e1
  exact e1
theorem own_fldN {args : Array Value} {s : State} {t : Term} {C n d : String} {a : Addr} (h : (Jvm.Cond.eq (Term.field t C n d) Term.null).value args s none s [] = some true) (ht : t.eval args s none [] s = some (.ref a)) : s.fieldOf? a C n d = some .null := by
  have e := null_v h
  rw [fld_at ht] at e
  exact e
theorem own_or {args : Array Value} {first s : State} {o : Option Outcome} {idx : List Nat} {c d : Jvm.Cond} (h : (Jvm.Cond.or c d).value args first o s idx = some true) (hc : c.value args first o s idx = some false) : d.value args first o s idx = some true := by
  simpa [Jvm.Cond.value, hc] using h
theorem own_elemI {args : Array Value} {s : State} {t ix : Term} {idx : List Nat} {a : Addr} {cl : Cell} {j k : Int32} (h : (Jvm.Cond.eq (Term.elem t ix) (Term.int k)).value args s none s idx = some true) (ht : t.eval args s none idx s = some (.ref a)) (hj : ix.eval args s none idx s = some (.int j)) (hc : s.heap[a]? = some cl) : cl.slots[j.toNatClampNeg]? = some (.int k) := by
  obtain ⟨x, y, e1, e2, k1, k2⟩ := cmp_v (Or.inl h)
  have e3 : (Term.int k).eval args s none idx s = some (.int k) := rfl
  obtain rfl : Value.int k = y := Option.some.inj (e3.symm.trans e2)
  obtain ⟨z, rfl⟩ := k2
  have q : (Jvm.Cond.eq (Term.elem t ix) (Term.int k)).value args s none s idx = some (decide (z = k)) := by simp [Jvm.Cond.value, e1, e3]
  rw [gotT q h] at e1
  exact (elem_in e1 ht hj hc).2
theorem own_elemR {args : Array Value} {s : State} {t ix u : Term} {idx : List Nat} {a b : Addr} {cl : Cell} {j : Int32} (h : (Jvm.Cond.eq (Term.elem t ix) u).value args s none s idx = some true) (ht : t.eval args s none idx s = some (.ref a)) (hj : ix.eval args s none idx s = some (.int j)) (hu : u.eval args s none idx s = some (.ref b)) (hc : s.heap[a]? = some cl) : cl.slots[j.toNatClampNeg]? = some (.ref b) := by
  obtain ⟨x, y, e1, e2, k1, k2⟩ := cmp_v (Or.inl h)
  obtain rfl : Value.ref b = y := Option.some.inj (hu.symm.trans e2)
  have q := eq_R e1 hu k2.2 rfl
  rw [gotT q h] at e1
  exact (elem_in e1 ht hj hc).2
theorem own_len {args : Array Value} {s : State} {t : Term} {a : Addr} {cl : Cell} {k : Int32} (h : (Jvm.Cond.eq (Term.length t) (Term.int k)).value args s none s [] = some true) (ht : t.eval args s none [] s = some (.ref a)) (ha : s.arrayAt? a = some cl) : cl.slots.size.toInt32 = k ∧ cl.slots.size < 2 ^ 31 := by
  obtain ⟨x, y, e1, e2, k1, k2⟩ := cmp_v (Or.inl h)
  have e3 : (Term.int k).eval args s none [] s = some (.int k) := rfl
  obtain rfl : Value.int k = y := Option.some.inj (e3.symm.trans e2)
  by_cases hl : cl.slots.size < 2 ^ 31
  · have e4 := len_f (args := args) (first := s) (o := none) (idx := []) ht ha hl
    obtain rfl : x = .int cl.slots.size.toInt32 := Option.some.inj (e1.symm.trans e4)
    have q : (Jvm.Cond.eq (Term.length t) (Term.int k)).value args s none s [] = some (decide (cl.slots.size.toInt32 = k)) := by simp [Jvm.Cond.value, e1, e3]
    exact ⟨gotT q h, hl⟩
  · simp [Term.eval, ht, ha, hl] at e1
theorem own_size {n : Nat} {k : Int32} (h : n.toInt32 = k) (hn : n < 2 ^ 31) : (n : Int) = k.toInt := by
  rw [← h, len_toInt hn]
def QP (r : Value) (h0 : Heap) (n0 : Nat) (v : Option Value) (h : Heap) (L : List Loc) : Prop := v = some r ∧ Fr n0 L ∧ h = h0
def QL (r : Value) (h0 : Heap) (n0 : Nat) (v : Option Value) (h : Heap) (L : List Loc) : Prop := v = some r ∧ Fr n0 L
def expv (c : Int32) : Int32 := if (32 : Int32) < c then (if c = (60 : Int32) then 0 else if c = (62 : Int32) then 0 else if c = (34 : Int32) then 0 else if c = (123 : Int32) then 0 else if c = (125 : Int32) then 0 else if c = (124 : Int32) then 0 else if c = (94 : Int32) then 0 else if c = (96 : Int32) then 0 else if c = (92 : Int32) then 0 else 1) else 0
theorem own_01 (c : Int32) : expv c = 0 ∨ expv c = 1 := by
  simp only [expv]
  repeat' (first | exact Or.inl rfl | exact Or.inr rfl | split)
theorem own_big {c : Int32} (h : ¬ c < (128 : Int32)) : expv c = 1 := by
  have hh : ∀ k : Int32, k < (128 : Int32) → ¬ (c = k) := fun k hk q => h (q ▸ hk)
  have h32 : (32 : Int32) < c := by
    rw [Int32.lt_iff_toInt_lt] at h ⊢
    have a1 : (128 : Int32).toInt = 128 := by decide
    have a2 : (32 : Int32).toInt = 32 := by decide
    omega
  simp only [expv]
  rw [if_pos h32, if_neg (hh 60 (by decide)), if_neg (hh 62 (by decide)), if_neg (hh 34 (by decide)), if_neg (hh 123 (by decide)), if_neg (hh 125 (by decide)), if_neg (hh 124 (by decide)), if_neg (hh 94 (by decide)), if_neg (hh 96 (by decide)), if_neg (hh 92 (by decide))]
theorem own_mask (x m : Int32) {k : Nat} (hk : k < 32) (hm : m.toBitVec.toNat = 2 ^ k - 1) : ¬ (x &&& m) < (0 : Int32) := by
  have e1 : (x &&& m).toInt = x.toInt % 2 ^ k := Jvm.Kit.i32_mask x m (k := k) hk hm
  have e2 : (0 : Int32).toInt = 0 := by decide
  have e3 : (0 : Int) < 2 ^ k := Int.pow_pos (by decide)
  have e4 := Int.emod_nonneg x.toInt (Int.ne_of_gt e3)
  rw [Int32.lt_iff_toInt_lt, e1, e2]
  omega
theorem own_nat {i : Nat} (hi : i < 128) : i.toInt32.toNatClampNeg = i := (by decide +kernel : ∀ i : Fin 128, i.val.toInt32.toNatClampNeg = i.val) ⟨i, hi⟩
theorem own_static {args : Array Value} {s : State} {C n d : String} (idx : List Nat) : (Term.static C n d).eval args s none idx s = (Term.static C n d).eval args s none [] s := by simp only [Term.eval]
theorem own_allLe {args : Array Value} {s : State} {t : Term} {a : Addr} {cl : Cell} {b k : Int32} (h : (Jvm.Cond.all t (Jvm.Cond.or (Jvm.Cond.le (Term.int b) (Term.index 0)) (Jvm.Cond.eq (Term.elem t (Term.index 0)) (Term.int k)))).value args s none s [] = some true) (ht : ∀ idx, t.eval args s none idx s = some (.ref a)) (ha : s.arrayAt? a = some cl) (hc : s.heap[a]? = some cl) (hsz : cl.slots.size = 128) {i : Nat} (hi : i < 128) (hb : ¬ (b ≤ i.toInt32)) : cl.slots[i]? = some (.int k) := by
  have q := Jvm.Cond.all_elim (ht []) ha h i (by omega)
  have e1 : (Jvm.Cond.le (Term.int b) (Term.index 0)).value args s none s [i] = some (decide (b ≤ i.toInt32)) := by simp [Jvm.Cond.value, Term.eval]
  rw [decide_eq_false hb] at e1
  have q2 := own_elemI (own_or q e1) (ht [i]) (j := i.toInt32) rfl hc
  rwa [own_nat hi] at q2
theorem own_allIn {args : Array Value} {s : State} {t : Term} {a : Addr} {cl : Cell} {b1 b2 k : Int32} (h : (Jvm.Cond.all t (Jvm.Cond.or (Jvm.Cond.lt (Term.index 0) (Term.int b1)) (Jvm.Cond.or (Jvm.Cond.le (Term.int b2) (Term.index 0)) (Jvm.Cond.eq (Term.elem t (Term.index 0)) (Term.int k))))).value args s none s [] = some true) (ht : ∀ idx, t.eval args s none idx s = some (.ref a)) (ha : s.arrayAt? a = some cl) (hc : s.heap[a]? = some cl) (hsz : cl.slots.size = 128) {i : Nat} (hi : i < 128) (hb1 : ¬ (i.toInt32 < b1)) (hb2 : ¬ (b2 ≤ i.toInt32)) : cl.slots[i]? = some (.int k) := by
  have q := Jvm.Cond.all_elim (ht []) ha h i (by omega)
  have e1 : (Jvm.Cond.lt (Term.index 0) (Term.int b1)).value args s none s [i] = some (decide (i.toInt32 < b1)) := by simp [Jvm.Cond.value, Term.eval]
  have e2 : (Jvm.Cond.le (Term.int b2) (Term.index 0)).value args s none s [i] = some (decide (b2 ≤ i.toInt32)) := by simp [Jvm.Cond.value, Term.eval]
  rw [decide_eq_false hb1] at e1
  rw [decide_eq_false hb2] at e2
  have q2 := own_elemI (own_or (own_or q e1) e2) (ht [i]) (j := i.toInt32) rfl hc
  rwa [own_nat hi] at q2
theorem own_table {cl : Cell} (R0 : ∀ i, i < 128 → 0 ≤ i → i < 33 → cl.slots[i]? = some (.int 0)) (R35 : ∀ i, i < 128 → 35 ≤ i → i < 60 → cl.slots[i]? = some (.int 1)) (R63 : ∀ i, i < 128 → 63 ≤ i → i < 92 → cl.slots[i]? = some (.int 1)) (R97 : ∀ i, i < 128 → 97 ≤ i → i < 123 → cl.slots[i]? = some (.int 1)) (E33 : cl.slots[33]? = some (.int 1)) (E34 : cl.slots[34]? = some (.int 0)) (E60 : cl.slots[60]? = some (.int 0)) (E61 : cl.slots[61]? = some (.int 1)) (E62 : cl.slots[62]? = some (.int 0)) (E92 : cl.slots[92]? = some (.int 0)) (E93 : cl.slots[93]? = some (.int 1)) (E94 : cl.slots[94]? = some (.int 0)) (E95 : cl.slots[95]? = some (.int 1)) (E96 : cl.slots[96]? = some (.int 0)) (E123 : cl.slots[123]? = some (.int 0)) (E124 : cl.slots[124]? = some (.int 0)) (E125 : cl.slots[125]? = some (.int 0)) (E126 : cl.slots[126]? = some (.int 1)) (E127 : cl.slots[127]? = some (.int 1)) : ∀ i : Nat, i < 128 → cl.slots[i]? = some (.int (expv i.toInt32)) := by
  intro i hi
  have q0 : 0 ≤ i → i < 33 → expv i.toInt32 = 0 := (by decide +kernel : ∀ j : Fin 128, 0 ≤ j.val → j.val < 33 → expv j.val.toInt32 = 0) ⟨i, hi⟩
  have q35 : 35 ≤ i → i < 60 → expv i.toInt32 = 1 := (by decide +kernel : ∀ j : Fin 128, 35 ≤ j.val → j.val < 60 → expv j.val.toInt32 = 1) ⟨i, hi⟩
  have q63 : 63 ≤ i → i < 92 → expv i.toInt32 = 1 := (by decide +kernel : ∀ j : Fin 128, 63 ≤ j.val → j.val < 92 → expv j.val.toInt32 = 1) ⟨i, hi⟩
  have q97 : 97 ≤ i → i < 123 → expv i.toInt32 = 1 := (by decide +kernel : ∀ j : Fin 128, 97 ≤ j.val → j.val < 123 → expv j.val.toInt32 = 1) ⟨i, hi⟩
  by_cases c0 : 0 ≤ i ∧ i < 33
  · rw [R0 i hi c0.1 c0.2, q0 c0.1 c0.2]
  by_cases c35 : 35 ≤ i ∧ i < 60
  · rw [R35 i hi c35.1 c35.2, q35 c35.1 c35.2]
  by_cases c63 : 63 ≤ i ∧ i < 92
  · rw [R63 i hi c63.1 c63.2, q63 c63.1 c63.2]
  by_cases c97 : 97 ≤ i ∧ i < 123
  · rw [R97 i hi c97.1 c97.2, q97 c97.1 c97.2]
  have hp : i = 33 ∨ i = 34 ∨ i = 60 ∨ i = 61 ∨ i = 62 ∨ i = 92 ∨ i = 93 ∨ i = 94 ∨ i = 95 ∨ i = 96 ∨ i = 123 ∨ i = 124 ∨ i = 125 ∨ i = 126 ∨ i = 127 := by omega
  rcases hp with rfl | rfl | rfl | rfl | rfl | rfl | rfl | rfl | rfl | rfl | rfl | rfl | rfl | rfl | rfl
  · exact E33.trans (congrArg (fun z => some (Value.int z)) (by decide +kernel : (1 : Int32) = expv ((33 : Nat).toInt32)))
  · exact E34.trans (congrArg (fun z => some (Value.int z)) (by decide +kernel : (0 : Int32) = expv ((34 : Nat).toInt32)))
  · exact E60.trans (congrArg (fun z => some (Value.int z)) (by decide +kernel : (0 : Int32) = expv ((60 : Nat).toInt32)))
  · exact E61.trans (congrArg (fun z => some (Value.int z)) (by decide +kernel : (1 : Int32) = expv ((61 : Nat).toInt32)))
  · exact E62.trans (congrArg (fun z => some (Value.int z)) (by decide +kernel : (0 : Int32) = expv ((62 : Nat).toInt32)))
  · exact E92.trans (congrArg (fun z => some (Value.int z)) (by decide +kernel : (0 : Int32) = expv ((92 : Nat).toInt32)))
  · exact E93.trans (congrArg (fun z => some (Value.int z)) (by decide +kernel : (1 : Int32) = expv ((93 : Nat).toInt32)))
  · exact E94.trans (congrArg (fun z => some (Value.int z)) (by decide +kernel : (0 : Int32) = expv ((94 : Nat).toInt32)))
  · exact E95.trans (congrArg (fun z => some (Value.int z)) (by decide +kernel : (1 : Int32) = expv ((95 : Nat).toInt32)))
  · exact E96.trans (congrArg (fun z => some (Value.int z)) (by decide +kernel : (0 : Int32) = expv ((96 : Nat).toInt32)))
  · exact E123.trans (congrArg (fun z => some (Value.int z)) (by decide +kernel : (0 : Int32) = expv ((123 : Nat).toInt32)))
  · exact E124.trans (congrArg (fun z => some (Value.int z)) (by decide +kernel : (0 : Int32) = expv ((124 : Nat).toInt32)))
  · exact E125.trans (congrArg (fun z => some (Value.int z)) (by decide +kernel : (0 : Int32) = expv ((125 : Nat).toInt32)))
  · exact E126.trans (congrArg (fun z => some (Value.int z)) (by decide +kernel : (1 : Int32) = expv ((126 : Nat).toInt32)))
  · exact E127.trans (congrArg (fun z => some (Value.int z)) (by decide +kernel : (1 : Int32) = expv ((127 : Nat).toInt32)))
theorem own_tab32 {cl : Cell} (hsz : cl.slots.size = 128) (H : ∀ i : Nat, i < 128 → cl.slots[i]? = some (.int (expv i.toInt32))) (c : Int32) (h0 : ¬ c < 0) (h1 : c < 128) : ¬ (c < 0 ∨ cl.slots.size ≤ c.toNatClampNeg) ∧ cl.slots[c.toNatClampNeg]? = some (.int (expv c)) := by
  have hi : c.toNatClampNeg < 128 := by
    show c.toInt.toNat < 128
    rw [Int32.lt_iff_toInt_lt] at h1
    have a1 : (128 : Int32).toInt = 128 := by decide
    omega
  refine ⟨fun q => q.elim h0 (fun q => ?_), ?_⟩
  · omega
  · have q := H _ hi
    rwa [(back32 h0).1] at q
theorem pn_2 : plainName "com/example/triplewake/triplewake/rdf/IrisAllowsPinLaw" = true := by first | (simp [plainName, overriddenIn]; done) | decide +kernel
theorem ef_2 (m : MethodId) (x0 : Int32) : entryFrame m #[(.int x0)] 1 = mkF m 0 #[.val (.int x0)] [] := by first | (simp [entryFrame, mkF, argsToLocals, Value.category]; done) | rfl
theorem d2_0 : decode method_2_code 0 = .ok (.iload_n 0, 1) := by decide +kernel
theorem d2_1 : decode method_2_code 1 = .ok (.bipush 32, 2) := by decide +kernel
theorem d2_3 : decode method_2_code 3 = .ok (.if_icmp .gt 5, 3) := by decide +kernel
theorem d2_8 : decode method_2_code 8 = .ok (.iload_n 0, 1) := by decide +kernel
theorem d2_9 : decode method_2_code 9 = .ok (.bipush 60, 2) := by decide +kernel
theorem d2_11 : decode method_2_code 11 = .ok (.if_icmp .eq 27, 3) := by decide +kernel
theorem d2_38 : decode method_2_code 38 = .ok (.iconst 0, 1) := by decide +kernel
theorem d2_39 : decode method_2_code 39 = .ok (.ireturn, 1) := by decide +kernel
theorem d2_14 : decode method_2_code 14 = .ok (.iload_n 0, 1) := by decide +kernel
theorem d2_15 : decode method_2_code 15 = .ok (.bipush 62, 2) := by decide +kernel
theorem d2_17 : decode method_2_code 17 = .ok (.if_icmp .eq 21, 3) := by decide +kernel
theorem d2_20 : decode method_2_code 20 = .ok (.iload_n 0, 1) := by decide +kernel
theorem d2_21 : decode method_2_code 21 = .ok (.bipush 34, 2) := by decide +kernel
theorem d2_23 : decode method_2_code 23 = .ok (.if_icmp .eq 15, 3) := by decide +kernel
theorem d2_26 : decode method_2_code 26 = .ok (.iload_n 0, 1) := by decide +kernel
theorem d2_27 : decode method_2_code 27 = .ok (.bipush 123, 2) := by decide +kernel
theorem d2_29 : decode method_2_code 29 = .ok (.if_icmp .eq 9, 3) := by decide +kernel
theorem d2_32 : decode method_2_code 32 = .ok (.iload_n 0, 1) := by decide +kernel
theorem d2_33 : decode method_2_code 33 = .ok (.bipush 125, 2) := by decide +kernel
theorem d2_35 : decode method_2_code 35 = .ok (.if_icmp .ne 5, 3) := by decide +kernel
theorem d2_40 : decode method_2_code 40 = .ok (.iload_n 0, 1) := by decide +kernel
theorem d2_41 : decode method_2_code 41 = .ok (.bipush 124, 2) := by decide +kernel
theorem d2_43 : decode method_2_code 43 = .ok (.if_icmp .eq 21, 3) := by decide +kernel
theorem d2_64 : decode method_2_code 64 = .ok (.iconst 0, 1) := by decide +kernel
theorem d2_65 : decode method_2_code 65 = .ok (.ireturn, 1) := by decide +kernel
theorem d2_46 : decode method_2_code 46 = .ok (.iload_n 0, 1) := by decide +kernel
theorem d2_47 : decode method_2_code 47 = .ok (.bipush 94, 2) := by decide +kernel
theorem d2_49 : decode method_2_code 49 = .ok (.if_icmp .eq 15, 3) := by decide +kernel
theorem d2_52 : decode method_2_code 52 = .ok (.iload_n 0, 1) := by decide +kernel
theorem d2_53 : decode method_2_code 53 = .ok (.bipush 96, 2) := by decide +kernel
theorem d2_55 : decode method_2_code 55 = .ok (.if_icmp .eq 9, 3) := by decide +kernel
theorem d2_58 : decode method_2_code 58 = .ok (.iload_n 0, 1) := by decide +kernel
theorem d2_59 : decode method_2_code 59 = .ok (.bipush 92, 2) := by decide +kernel
theorem d2_61 : decode method_2_code 61 = .ok (.if_icmp .ne 5, 3) := by decide +kernel
theorem d2_66 : decode method_2_code 66 = .ok (.iconst 1, 1) := by decide +kernel
theorem d2_67 : decode method_2_code 67 = .ok (.ireturn, 1) := by decide +kernel
theorem d2_6 : decode method_2_code 6 = .ok (.iconst 0, 1) := by decide +kernel
theorem d2_7 : decode method_2_code 7 = .ok (.ireturn, 1) := by decide +kernel
set_option maxRecDepth 65536 in
set_option maxHeartbeats 40000000 in
theorem rm2 (l : Launch) (Z : State) (a0 : Array Value) (hw : ∀ d ∈ tables_1, d.before a0 Z = true) (ws : List Jvm.Cond) (p1 : Int32) (h0 : Heap) (n0 : Nat) (Z0 : n0 ≤ h0.size)  :
    MetFree l (⟨"com/example/triplewake/triplewake/rdf/IrisAllowsPinLaw", "expected", "(I)Z"⟩ : MethodName) (head1 (Jvm.Cond.code (⟨"com/example/triplewake/triplewake/rdf/IrisAllowsPinLaw", "expected", "(I)Z"⟩ : MethodName) method_2_code 1 (some .boolean) :: ws) ({ frames := 0, cells := 0, slots := 0, locals := 0 } : Room)) (fun a U => a = #[(.int p1)] ∧ Z.Warmed39 U.vm ∧ U.heap = h0) (fun _ _ _ _ _ => True) (fun _ U o U' => ∃ v L, o = .returned v ∧ QP (.int (expv p1)) h0 n0 v U'.heap L ∧ FrameEnd U o U' L ({ frames := 0, cells := 0, slots := 0, locals := 0 } : Room).cells ({ frames := 0, cells := 0, slots := 0, locals := 0 } : Room).slots) := by
  refine MetFree.of_bodySF (plainFor_of_name pn_2) hisR ?_
  intro p e s m args below meth c s₁ Bd hml0 hP hK
  obtain ⟨rfl, hZ, hh⟩ := hP
  have hx := Bd.exec
  have hby := Bd.bytes
  have hml : c.maxLocals = 1 := hml0
  have hown : s.vm.findClass "com/example/triplewake/triplewake/rdf/IrisAllowsPinLaw" = some m.cls := findClass_of_methodNamed Bd.named
  have hnm := (name_of_methodNamed Bd.named Bd.method).1
  have X0 : Stand p l e ({ frames := 0, cells := 0, slots := 0, locals := 0 } : Room) s m #[(.int p1)] below meth c s₁ [] 0 0 := Stand.of_body Bd
  have e0 : s₁.heap = h0 := by rw [← hh, Bd.state]; rfl
  have N0 := Fr.nil n0
  have go0 : Go p.tables e below s₁ (mkF m 0 #[.val (.int p1)] []) s₁ (entryFrame m #[(.int p1)] 1) := fun t k => castTop (ef_2 m p1) k
  have go1 : Go p.tables e below s₁ (mkF m 3 #[.val (.int p1)] [(.int (32 : Int32)), (.int p1)]) s₁ (entryFrame m #[(.int p1)] 1) := by
    intro t k
    refine go0 t ?_
    show Steps _ _ _ (s₁.setTop (mkF m 0 #[.val (.int p1)] [])) _
    refine XS.iloadN X0.here hx rfl (hb hby d2_0) rfl ?_
    show Steps _ _ _ (s₁.setTop (mkF m 1 #[.val (.int p1)] [(.int p1)])) _
    refine XS.bipush X0.here hx rfl (hb hby d2_1) ?_
    exact k
  by_cases hc3 : (32 : Int32) < p1
  · skip
    have go2 : Go p.tables e below s₁ (mkF m 11 #[.val (.int p1)] [(.int (60 : Int32)), (.int p1)]) s₁ (entryFrame m #[(.int p1)] 1) := by
      intro t k
      refine go1 t ?_
      show Steps _ _ _ (s₁.setTop (mkF m 3 #[.val (.int p1)] [(.int (32 : Int32)), (.int p1)])) _
      refine XS.icmpYes X0.here hx rfl (pc0 := 3) (pc' := 8) rfl (hb hby d2_3) rfl (tlt hc3).2.2.1 (by decide) (by decide) ?_
      show Steps _ _ _ (s₁.setTop (mkF m 8 #[.val (.int p1)] [])) _
      refine XS.iloadN X0.here hx rfl (hb hby d2_8) rfl ?_
      show Steps _ _ _ (s₁.setTop (mkF m 9 #[.val (.int p1)] [(.int p1)])) _
      refine XS.bipush X0.here hx rfl (hb hby d2_9) ?_
      exact k
    by_cases hc11 : p1 = (60 : Int32)
    · skip
      have go3 : Go p.tables e below s₁ (mkF m 39 #[.val (.int p1)] [(.int (0 : Int32))]) s₁ (entryFrame m #[(.int p1)] 1) := by
        intro t k
        refine go2 t ?_
        show Steps _ _ _ (s₁.setTop (mkF m 11 #[.val (.int p1)] [(.int (60 : Int32)), (.int p1)])) _
        refine XS.icmpYes X0.here hx rfl (pc0 := 11) (pc' := 38) rfl (hb hby d2_11) rfl (teq hc11).1 (by decide) (by decide) ?_
        show Steps _ _ _ (s₁.setTop (mkF m 38 #[.val (.int p1)] [])) _
        refine XS.iconst X0.here hx rfl (hb hby d2_38) ?_
        exact k
      obtain ⟨fs, hr, hrun, hended, hW, hsame⟩ := X0.leave (v := some (.int (0 : Int32))) (fun h => by rw [Bd.returns] at h; cases h)
      refine ⟨_, _, go3 _ ?_, hrun, hended, _, _, rfl, ?_, ⟨_, rfl⟩, hW, hsame.mono (by decide) (by decide)⟩
      · exact retN X0 hx (t := .boolean) Bd.returns (by simp) (hb hby d2_39) hr
      · show QP (.int (expv p1)) h0 n0 _ s₁.heap _
        rw [e0]
        exact ⟨by simp only [expv]; rw [if_pos hc3, if_pos hc11], N0, rfl⟩
    · skip
      have go4 : Go p.tables e below s₁ (mkF m 17 #[.val (.int p1)] [(.int (62 : Int32)), (.int p1)]) s₁ (entryFrame m #[(.int p1)] 1) := by
        intro t k
        refine go2 t ?_
        show Steps _ _ _ (s₁.setTop (mkF m 11 #[.val (.int p1)] [(.int (60 : Int32)), (.int p1)])) _
        refine XS.icmpNo X0.here hx rfl (hb hby d2_11) rfl (feq hc11).1 ?_
        show Steps _ _ _ (s₁.setTop (mkF m 14 #[.val (.int p1)] [])) _
        refine XS.iloadN X0.here hx rfl (hb hby d2_14) rfl ?_
        show Steps _ _ _ (s₁.setTop (mkF m 15 #[.val (.int p1)] [(.int p1)])) _
        refine XS.bipush X0.here hx rfl (hb hby d2_15) ?_
        exact k
      by_cases hc17 : p1 = (62 : Int32)
      · skip
        have go5 : Go p.tables e below s₁ (mkF m 39 #[.val (.int p1)] [(.int (0 : Int32))]) s₁ (entryFrame m #[(.int p1)] 1) := by
          intro t k
          refine go4 t ?_
          show Steps _ _ _ (s₁.setTop (mkF m 17 #[.val (.int p1)] [(.int (62 : Int32)), (.int p1)])) _
          refine XS.icmpYes X0.here hx rfl (pc0 := 17) (pc' := 38) rfl (hb hby d2_17) rfl (teq hc17).1 (by decide) (by decide) ?_
          show Steps _ _ _ (s₁.setTop (mkF m 38 #[.val (.int p1)] [])) _
          refine XS.iconst X0.here hx rfl (hb hby d2_38) ?_
          exact k
        obtain ⟨fs, hr, hrun, hended, hW, hsame⟩ := X0.leave (v := some (.int (0 : Int32))) (fun h => by rw [Bd.returns] at h; cases h)
        refine ⟨_, _, go5 _ ?_, hrun, hended, _, _, rfl, ?_, ⟨_, rfl⟩, hW, hsame.mono (by decide) (by decide)⟩
        · exact retN X0 hx (t := .boolean) Bd.returns (by simp) (hb hby d2_39) hr
        · show QP (.int (expv p1)) h0 n0 _ s₁.heap _
          rw [e0]
          exact ⟨by simp only [expv]; rw [if_pos hc3, if_neg hc11, if_pos hc17], N0, rfl⟩
      · skip
        have go6 : Go p.tables e below s₁ (mkF m 23 #[.val (.int p1)] [(.int (34 : Int32)), (.int p1)]) s₁ (entryFrame m #[(.int p1)] 1) := by
          intro t k
          refine go4 t ?_
          show Steps _ _ _ (s₁.setTop (mkF m 17 #[.val (.int p1)] [(.int (62 : Int32)), (.int p1)])) _
          refine XS.icmpNo X0.here hx rfl (hb hby d2_17) rfl (feq hc17).1 ?_
          show Steps _ _ _ (s₁.setTop (mkF m 20 #[.val (.int p1)] [])) _
          refine XS.iloadN X0.here hx rfl (hb hby d2_20) rfl ?_
          show Steps _ _ _ (s₁.setTop (mkF m 21 #[.val (.int p1)] [(.int p1)])) _
          refine XS.bipush X0.here hx rfl (hb hby d2_21) ?_
          exact k
        by_cases hc23 : p1 = (34 : Int32)
        · skip
          have go7 : Go p.tables e below s₁ (mkF m 39 #[.val (.int p1)] [(.int (0 : Int32))]) s₁ (entryFrame m #[(.int p1)] 1) := by
            intro t k
            refine go6 t ?_
            show Steps _ _ _ (s₁.setTop (mkF m 23 #[.val (.int p1)] [(.int (34 : Int32)), (.int p1)])) _
            refine XS.icmpYes X0.here hx rfl (pc0 := 23) (pc' := 38) rfl (hb hby d2_23) rfl (teq hc23).1 (by decide) (by decide) ?_
            show Steps _ _ _ (s₁.setTop (mkF m 38 #[.val (.int p1)] [])) _
            refine XS.iconst X0.here hx rfl (hb hby d2_38) ?_
            exact k
          obtain ⟨fs, hr, hrun, hended, hW, hsame⟩ := X0.leave (v := some (.int (0 : Int32))) (fun h => by rw [Bd.returns] at h; cases h)
          refine ⟨_, _, go7 _ ?_, hrun, hended, _, _, rfl, ?_, ⟨_, rfl⟩, hW, hsame.mono (by decide) (by decide)⟩
          · exact retN X0 hx (t := .boolean) Bd.returns (by simp) (hb hby d2_39) hr
          · show QP (.int (expv p1)) h0 n0 _ s₁.heap _
            rw [e0]
            exact ⟨by simp only [expv]; rw [if_pos hc3, if_neg hc11, if_neg hc17, if_pos hc23], N0, rfl⟩
        · skip
          have go8 : Go p.tables e below s₁ (mkF m 29 #[.val (.int p1)] [(.int (123 : Int32)), (.int p1)]) s₁ (entryFrame m #[(.int p1)] 1) := by
            intro t k
            refine go6 t ?_
            show Steps _ _ _ (s₁.setTop (mkF m 23 #[.val (.int p1)] [(.int (34 : Int32)), (.int p1)])) _
            refine XS.icmpNo X0.here hx rfl (hb hby d2_23) rfl (feq hc23).1 ?_
            show Steps _ _ _ (s₁.setTop (mkF m 26 #[.val (.int p1)] [])) _
            refine XS.iloadN X0.here hx rfl (hb hby d2_26) rfl ?_
            show Steps _ _ _ (s₁.setTop (mkF m 27 #[.val (.int p1)] [(.int p1)])) _
            refine XS.bipush X0.here hx rfl (hb hby d2_27) ?_
            exact k
          by_cases hc29 : p1 = (123 : Int32)
          · skip
            have go9 : Go p.tables e below s₁ (mkF m 39 #[.val (.int p1)] [(.int (0 : Int32))]) s₁ (entryFrame m #[(.int p1)] 1) := by
              intro t k
              refine go8 t ?_
              show Steps _ _ _ (s₁.setTop (mkF m 29 #[.val (.int p1)] [(.int (123 : Int32)), (.int p1)])) _
              refine XS.icmpYes X0.here hx rfl (pc0 := 29) (pc' := 38) rfl (hb hby d2_29) rfl (teq hc29).1 (by decide) (by decide) ?_
              show Steps _ _ _ (s₁.setTop (mkF m 38 #[.val (.int p1)] [])) _
              refine XS.iconst X0.here hx rfl (hb hby d2_38) ?_
              exact k
            obtain ⟨fs, hr, hrun, hended, hW, hsame⟩ := X0.leave (v := some (.int (0 : Int32))) (fun h => by rw [Bd.returns] at h; cases h)
            refine ⟨_, _, go9 _ ?_, hrun, hended, _, _, rfl, ?_, ⟨_, rfl⟩, hW, hsame.mono (by decide) (by decide)⟩
            · exact retN X0 hx (t := .boolean) Bd.returns (by simp) (hb hby d2_39) hr
            · show QP (.int (expv p1)) h0 n0 _ s₁.heap _
              rw [e0]
              exact ⟨by simp only [expv]; rw [if_pos hc3, if_neg hc11, if_neg hc17, if_neg hc23, if_pos hc29], N0, rfl⟩
          · skip
            have go10 : Go p.tables e below s₁ (mkF m 35 #[.val (.int p1)] [(.int (125 : Int32)), (.int p1)]) s₁ (entryFrame m #[(.int p1)] 1) := by
              intro t k
              refine go8 t ?_
              show Steps _ _ _ (s₁.setTop (mkF m 29 #[.val (.int p1)] [(.int (123 : Int32)), (.int p1)])) _
              refine XS.icmpNo X0.here hx rfl (hb hby d2_29) rfl (feq hc29).1 ?_
              show Steps _ _ _ (s₁.setTop (mkF m 32 #[.val (.int p1)] [])) _
              refine XS.iloadN X0.here hx rfl (hb hby d2_32) rfl ?_
              show Steps _ _ _ (s₁.setTop (mkF m 33 #[.val (.int p1)] [(.int p1)])) _
              refine XS.bipush X0.here hx rfl (hb hby d2_33) ?_
              exact k
            by_cases hc35 : p1 = (125 : Int32)
            · skip
              have go11 : Go p.tables e below s₁ (mkF m 39 #[.val (.int p1)] [(.int (0 : Int32))]) s₁ (entryFrame m #[(.int p1)] 1) := by
                intro t k
                refine go10 t ?_
                show Steps _ _ _ (s₁.setTop (mkF m 35 #[.val (.int p1)] [(.int (125 : Int32)), (.int p1)])) _
                refine XS.icmpNo X0.here hx rfl (hb hby d2_35) rfl (teq hc35).2 ?_
                show Steps _ _ _ (s₁.setTop (mkF m 38 #[.val (.int p1)] [])) _
                refine XS.iconst X0.here hx rfl (hb hby d2_38) ?_
                exact k
              obtain ⟨fs, hr, hrun, hended, hW, hsame⟩ := X0.leave (v := some (.int (0 : Int32))) (fun h => by rw [Bd.returns] at h; cases h)
              refine ⟨_, _, go11 _ ?_, hrun, hended, _, _, rfl, ?_, ⟨_, rfl⟩, hW, hsame.mono (by decide) (by decide)⟩
              · exact retN X0 hx (t := .boolean) Bd.returns (by simp) (hb hby d2_39) hr
              · show QP (.int (expv p1)) h0 n0 _ s₁.heap _
                rw [e0]
                exact ⟨by simp only [expv]; rw [if_pos hc3, if_neg hc11, if_neg hc17, if_neg hc23, if_neg hc29, if_pos hc35], N0, rfl⟩
            · skip
              have go12 : Go p.tables e below s₁ (mkF m 43 #[.val (.int p1)] [(.int (124 : Int32)), (.int p1)]) s₁ (entryFrame m #[(.int p1)] 1) := by
                intro t k
                refine go10 t ?_
                show Steps _ _ _ (s₁.setTop (mkF m 35 #[.val (.int p1)] [(.int (125 : Int32)), (.int p1)])) _
                refine XS.icmpYes X0.here hx rfl (pc0 := 35) (pc' := 40) rfl (hb hby d2_35) rfl (feq hc35).2 (by decide) (by decide) ?_
                show Steps _ _ _ (s₁.setTop (mkF m 40 #[.val (.int p1)] [])) _
                refine XS.iloadN X0.here hx rfl (hb hby d2_40) rfl ?_
                show Steps _ _ _ (s₁.setTop (mkF m 41 #[.val (.int p1)] [(.int p1)])) _
                refine XS.bipush X0.here hx rfl (hb hby d2_41) ?_
                exact k
              by_cases hc43 : p1 = (124 : Int32)
              · skip
                have go13 : Go p.tables e below s₁ (mkF m 65 #[.val (.int p1)] [(.int (0 : Int32))]) s₁ (entryFrame m #[(.int p1)] 1) := by
                  intro t k
                  refine go12 t ?_
                  show Steps _ _ _ (s₁.setTop (mkF m 43 #[.val (.int p1)] [(.int (124 : Int32)), (.int p1)])) _
                  refine XS.icmpYes X0.here hx rfl (pc0 := 43) (pc' := 64) rfl (hb hby d2_43) rfl (teq hc43).1 (by decide) (by decide) ?_
                  show Steps _ _ _ (s₁.setTop (mkF m 64 #[.val (.int p1)] [])) _
                  refine XS.iconst X0.here hx rfl (hb hby d2_64) ?_
                  exact k
                obtain ⟨fs, hr, hrun, hended, hW, hsame⟩ := X0.leave (v := some (.int (0 : Int32))) (fun h => by rw [Bd.returns] at h; cases h)
                refine ⟨_, _, go13 _ ?_, hrun, hended, _, _, rfl, ?_, ⟨_, rfl⟩, hW, hsame.mono (by decide) (by decide)⟩
                · exact retN X0 hx (t := .boolean) Bd.returns (by simp) (hb hby d2_65) hr
                · show QP (.int (expv p1)) h0 n0 _ s₁.heap _
                  rw [e0]
                  exact ⟨by simp only [expv]; rw [if_pos hc3, if_neg hc11, if_neg hc17, if_neg hc23, if_neg hc29, if_neg hc35, if_pos hc43], N0, rfl⟩
              · skip
                have go14 : Go p.tables e below s₁ (mkF m 49 #[.val (.int p1)] [(.int (94 : Int32)), (.int p1)]) s₁ (entryFrame m #[(.int p1)] 1) := by
                  intro t k
                  refine go12 t ?_
                  show Steps _ _ _ (s₁.setTop (mkF m 43 #[.val (.int p1)] [(.int (124 : Int32)), (.int p1)])) _
                  refine XS.icmpNo X0.here hx rfl (hb hby d2_43) rfl (feq hc43).1 ?_
                  show Steps _ _ _ (s₁.setTop (mkF m 46 #[.val (.int p1)] [])) _
                  refine XS.iloadN X0.here hx rfl (hb hby d2_46) rfl ?_
                  show Steps _ _ _ (s₁.setTop (mkF m 47 #[.val (.int p1)] [(.int p1)])) _
                  refine XS.bipush X0.here hx rfl (hb hby d2_47) ?_
                  exact k
                by_cases hc49 : p1 = (94 : Int32)
                · skip
                  have go15 : Go p.tables e below s₁ (mkF m 65 #[.val (.int p1)] [(.int (0 : Int32))]) s₁ (entryFrame m #[(.int p1)] 1) := by
                    intro t k
                    refine go14 t ?_
                    show Steps _ _ _ (s₁.setTop (mkF m 49 #[.val (.int p1)] [(.int (94 : Int32)), (.int p1)])) _
                    refine XS.icmpYes X0.here hx rfl (pc0 := 49) (pc' := 64) rfl (hb hby d2_49) rfl (teq hc49).1 (by decide) (by decide) ?_
                    show Steps _ _ _ (s₁.setTop (mkF m 64 #[.val (.int p1)] [])) _
                    refine XS.iconst X0.here hx rfl (hb hby d2_64) ?_
                    exact k
                  obtain ⟨fs, hr, hrun, hended, hW, hsame⟩ := X0.leave (v := some (.int (0 : Int32))) (fun h => by rw [Bd.returns] at h; cases h)
                  refine ⟨_, _, go15 _ ?_, hrun, hended, _, _, rfl, ?_, ⟨_, rfl⟩, hW, hsame.mono (by decide) (by decide)⟩
                  · exact retN X0 hx (t := .boolean) Bd.returns (by simp) (hb hby d2_65) hr
                  · show QP (.int (expv p1)) h0 n0 _ s₁.heap _
                    rw [e0]
                    exact ⟨by simp only [expv]; rw [if_pos hc3, if_neg hc11, if_neg hc17, if_neg hc23, if_neg hc29, if_neg hc35, if_neg hc43, if_pos hc49], N0, rfl⟩
                · skip
                  have go16 : Go p.tables e below s₁ (mkF m 55 #[.val (.int p1)] [(.int (96 : Int32)), (.int p1)]) s₁ (entryFrame m #[(.int p1)] 1) := by
                    intro t k
                    refine go14 t ?_
                    show Steps _ _ _ (s₁.setTop (mkF m 49 #[.val (.int p1)] [(.int (94 : Int32)), (.int p1)])) _
                    refine XS.icmpNo X0.here hx rfl (hb hby d2_49) rfl (feq hc49).1 ?_
                    show Steps _ _ _ (s₁.setTop (mkF m 52 #[.val (.int p1)] [])) _
                    refine XS.iloadN X0.here hx rfl (hb hby d2_52) rfl ?_
                    show Steps _ _ _ (s₁.setTop (mkF m 53 #[.val (.int p1)] [(.int p1)])) _
                    refine XS.bipush X0.here hx rfl (hb hby d2_53) ?_
                    exact k
                  by_cases hc55 : p1 = (96 : Int32)
                  · skip
                    have go17 : Go p.tables e below s₁ (mkF m 65 #[.val (.int p1)] [(.int (0 : Int32))]) s₁ (entryFrame m #[(.int p1)] 1) := by
                      intro t k
                      refine go16 t ?_
                      show Steps _ _ _ (s₁.setTop (mkF m 55 #[.val (.int p1)] [(.int (96 : Int32)), (.int p1)])) _
                      refine XS.icmpYes X0.here hx rfl (pc0 := 55) (pc' := 64) rfl (hb hby d2_55) rfl (teq hc55).1 (by decide) (by decide) ?_
                      show Steps _ _ _ (s₁.setTop (mkF m 64 #[.val (.int p1)] [])) _
                      refine XS.iconst X0.here hx rfl (hb hby d2_64) ?_
                      exact k
                    obtain ⟨fs, hr, hrun, hended, hW, hsame⟩ := X0.leave (v := some (.int (0 : Int32))) (fun h => by rw [Bd.returns] at h; cases h)
                    refine ⟨_, _, go17 _ ?_, hrun, hended, _, _, rfl, ?_, ⟨_, rfl⟩, hW, hsame.mono (by decide) (by decide)⟩
                    · exact retN X0 hx (t := .boolean) Bd.returns (by simp) (hb hby d2_65) hr
                    · show QP (.int (expv p1)) h0 n0 _ s₁.heap _
                      rw [e0]
                      exact ⟨by simp only [expv]; rw [if_pos hc3, if_neg hc11, if_neg hc17, if_neg hc23, if_neg hc29, if_neg hc35, if_neg hc43, if_neg hc49, if_pos hc55], N0, rfl⟩
                  · skip
                    have go18 : Go p.tables e below s₁ (mkF m 61 #[.val (.int p1)] [(.int (92 : Int32)), (.int p1)]) s₁ (entryFrame m #[(.int p1)] 1) := by
                      intro t k
                      refine go16 t ?_
                      show Steps _ _ _ (s₁.setTop (mkF m 55 #[.val (.int p1)] [(.int (96 : Int32)), (.int p1)])) _
                      refine XS.icmpNo X0.here hx rfl (hb hby d2_55) rfl (feq hc55).1 ?_
                      show Steps _ _ _ (s₁.setTop (mkF m 58 #[.val (.int p1)] [])) _
                      refine XS.iloadN X0.here hx rfl (hb hby d2_58) rfl ?_
                      show Steps _ _ _ (s₁.setTop (mkF m 59 #[.val (.int p1)] [(.int p1)])) _
                      refine XS.bipush X0.here hx rfl (hb hby d2_59) ?_
                      exact k
                    by_cases hc61 : p1 = (92 : Int32)
                    · skip
                      have go19 : Go p.tables e below s₁ (mkF m 65 #[.val (.int p1)] [(.int (0 : Int32))]) s₁ (entryFrame m #[(.int p1)] 1) := by
                        intro t k
                        refine go18 t ?_
                        show Steps _ _ _ (s₁.setTop (mkF m 61 #[.val (.int p1)] [(.int (92 : Int32)), (.int p1)])) _
                        refine XS.icmpNo X0.here hx rfl (hb hby d2_61) rfl (teq hc61).2 ?_
                        show Steps _ _ _ (s₁.setTop (mkF m 64 #[.val (.int p1)] [])) _
                        refine XS.iconst X0.here hx rfl (hb hby d2_64) ?_
                        exact k
                      obtain ⟨fs, hr, hrun, hended, hW, hsame⟩ := X0.leave (v := some (.int (0 : Int32))) (fun h => by rw [Bd.returns] at h; cases h)
                      refine ⟨_, _, go19 _ ?_, hrun, hended, _, _, rfl, ?_, ⟨_, rfl⟩, hW, hsame.mono (by decide) (by decide)⟩
                      · exact retN X0 hx (t := .boolean) Bd.returns (by simp) (hb hby d2_65) hr
                      · show QP (.int (expv p1)) h0 n0 _ s₁.heap _
                        rw [e0]
                        exact ⟨by simp only [expv]; rw [if_pos hc3, if_neg hc11, if_neg hc17, if_neg hc23, if_neg hc29, if_neg hc35, if_neg hc43, if_neg hc49, if_neg hc55, if_pos hc61], N0, rfl⟩
                    · skip
                      have go20 : Go p.tables e below s₁ (mkF m 67 #[.val (.int p1)] [(.int (1 : Int32))]) s₁ (entryFrame m #[(.int p1)] 1) := by
                        intro t k
                        refine go18 t ?_
                        show Steps _ _ _ (s₁.setTop (mkF m 61 #[.val (.int p1)] [(.int (92 : Int32)), (.int p1)])) _
                        refine XS.icmpYes X0.here hx rfl (pc0 := 61) (pc' := 66) rfl (hb hby d2_61) rfl (feq hc61).2 (by decide) (by decide) ?_
                        show Steps _ _ _ (s₁.setTop (mkF m 66 #[.val (.int p1)] [])) _
                        refine XS.iconst X0.here hx rfl (hb hby d2_66) ?_
                        exact k
                      obtain ⟨fs, hr, hrun, hended, hW, hsame⟩ := X0.leave (v := some (.int (1 : Int32))) (fun h => by rw [Bd.returns] at h; cases h)
                      refine ⟨_, _, go20 _ ?_, hrun, hended, _, _, rfl, ?_, ⟨_, rfl⟩, hW, hsame.mono (by decide) (by decide)⟩
                      · exact retN X0 hx (t := .boolean) Bd.returns (by simp) (hb hby d2_67) hr
                      · show QP (.int (expv p1)) h0 n0 _ s₁.heap _
                        rw [e0]
                        exact ⟨by simp only [expv]; rw [if_pos hc3, if_neg hc11, if_neg hc17, if_neg hc23, if_neg hc29, if_neg hc35, if_neg hc43, if_neg hc49, if_neg hc55, if_neg hc61], N0, rfl⟩
  · skip
    have go21 : Go p.tables e below s₁ (mkF m 7 #[.val (.int p1)] [(.int (0 : Int32))]) s₁ (entryFrame m #[(.int p1)] 1) := by
      intro t k
      refine go1 t ?_
      show Steps _ _ _ (s₁.setTop (mkF m 3 #[.val (.int p1)] [(.int (32 : Int32)), (.int p1)])) _
      refine XS.icmpNo X0.here hx rfl (hb hby d2_3) rfl (flt hc3).2.2.1 ?_
      show Steps _ _ _ (s₁.setTop (mkF m 6 #[.val (.int p1)] [])) _
      refine XS.iconst X0.here hx rfl (hb hby d2_6) ?_
      exact k
    obtain ⟨fs, hr, hrun, hended, hW, hsame⟩ := X0.leave (v := some (.int (0 : Int32))) (fun h => by rw [Bd.returns] at h; cases h)
    refine ⟨_, _, go21 _ ?_, hrun, hended, _, _, rfl, ?_, ⟨_, rfl⟩, hW, hsame.mono (by decide) (by decide)⟩
    · exact retN X0 hx (t := .boolean) Bd.returns (by simp) (hb hby d2_7) hr
    · show QP (.int (expv p1)) h0 n0 _ s₁.heap _
      rw [e0]
      exact ⟨by simp only [expv]; rw [if_neg hc3], N0, rfl⟩
theorem pn_1 : plainName "com/example/triplewake/triplewake/rdf/Iris" = true := by first | (simp [plainName, overriddenIn]; done) | decide +kernel
theorem ef_1 (m : MethodId) (x0 : Int32) : entryFrame m #[(.int x0)] 1 = mkF m 0 #[.val (.int x0)] [] := by first | (simp [entryFrame, mkF, argsToLocals, Value.category]; done) | rfl
theorem d1_0 : decode prog_6_method_2_code 0 = .ok (.iload_n 0, 1) := by decide +kernel
theorem d1_1 : decode prog_6_method_2_code 1 = .ok (.getstatic 7, 3) := by decide +kernel
theorem d1_4 : decode prog_6_method_2_code 4 = .ok (.arraylength, 1) := by decide +kernel
theorem d1_5 : decode prog_6_method_2_code 5 = .ok (.if_icmp .ge 15, 3) := by decide +kernel
theorem d1_8 : decode prog_6_method_2_code 8 = .ok (.iload_n 0, 1) := by decide +kernel
theorem d1_9 : decode prog_6_method_2_code 9 = .ok (.ifCond .lt 15, 3) := by decide +kernel
theorem d1_12 : decode prog_6_method_2_code 12 = .ok (.getstatic 7, 3) := by decide +kernel
theorem d1_15 : decode prog_6_method_2_code 15 = .ok (.iload_n 0, 1) := by decide +kernel
theorem d1_16 : decode prog_6_method_2_code 16 = .ok (.baload, 1) := by decide +kernel
theorem d1_17 : decode prog_6_method_2_code 17 = .ok (.ifCond .eq 7, 3) := by decide +kernel
theorem d1_24 : decode prog_6_method_2_code 24 = .ok (.iconst 0, 1) := by decide +kernel
theorem d1_25 : decode prog_6_method_2_code 25 = .ok (.ireturn, 1) := by decide +kernel
theorem d1_20 : decode prog_6_method_2_code 20 = .ok (.iconst 1, 1) := by decide +kernel
theorem d1_21 : decode prog_6_method_2_code 21 = .ok (.goto 4, 3) := by decide +kernel
set_option maxRecDepth 65536 in
set_option maxHeartbeats 40000000 in
theorem rm1 (l : Launch) (Z : State) (a0 : Array Value) (hw : ∀ d ∈ tables_1, d.before a0 Z = true) (ws : List Jvm.Cond) (p1 : Int32) (wT : Addr) (cl : Cell) (h0 : Heap) (n0 : Nat) (Z0 : n0 ≤ h0.size) (S_T : Sta Z h0 "com/example/triplewake/triplewake/rdf/Iris" "ASCII_IN_IRI" "[Z" (.ref wT)) (Ar : Arr Z h0 wT cl .boolean) (hlen : cl.slots.size.toInt32 = (128 : Int32)) (HT : ∀ c : Int32, ¬ c < 0 → c < 128 → ¬ (c < 0 ∨ cl.slots.size ≤ c.toNatClampNeg) ∧ cl.slots[c.toNatClampNeg]? = some (.int (expv c))) (hp : ¬ p1 < (0 : Int32)) :
    MetFree l (⟨"com/example/triplewake/triplewake/rdf/Iris", "allows", "(I)Z"⟩ : MethodName) (head1 (Jvm.Cond.code (⟨"com/example/triplewake/triplewake/rdf/Iris", "allows", "(I)Z"⟩ : MethodName) prog_6_method_2_code 1 (some .boolean) :: ws) ({ frames := 0, cells := 0, slots := 0, locals := 0 } : Room)) (fun a U => a = #[(.int p1)] ∧ Z.Warmed39 U.vm ∧ U.heap = h0) (fun _ _ _ _ _ => True) (fun _ U o U' => ∃ v L, o = .returned v ∧ QP (.int (expv p1)) h0 n0 v U'.heap L ∧ FrameEnd U o U' L ({ frames := 0, cells := 0, slots := 0, locals := 0 } : Room).cells ({ frames := 0, cells := 0, slots := 0, locals := 0 } : Room).slots) := by
  refine MetFree.of_bodySF (plainFor_of_name pn_1) hisR ?_
  intro p e s m args below meth c s₁ Bd hml0 hP hK
  obtain ⟨rfl, hZ, hh⟩ := hP
  have hx := Bd.exec
  have hby := Bd.bytes
  have hml : c.maxLocals = 1 := hml0
  have hown : s.vm.findClass "com/example/triplewake/triplewake/rdf/Iris" = some m.cls := findClass_of_methodNamed Bd.named
  have hnm := (name_of_methodNamed Bd.named Bd.method).1
  have X0 : Stand p l e ({ frames := 0, cells := 0, slots := 0, locals := 0 } : Room) s m #[(.int p1)] below meth c s₁ [] 0 0 := Stand.of_body Bd
  have e0 : s₁.heap = h0 := by rw [← hh, Bd.state]; rfl
  have N0 := Fr.nil n0
  have go0 : Go p.tables e below s₁ (mkF m 0 #[.val (.int p1)] []) s₁ (entryFrame m #[(.int p1)] 1) := fun t k => castTop (ef_1 m p1) k
  have go1 : Go p.tables e below s₁ (mkF m 1 #[.val (.int p1)] [(.int p1)]) s₁ (entryFrame m #[(.int p1)] 1) := by
    intro t k
    refine go0 t ?_
    show Steps _ _ _ (s₁.setTop (mkF m 0 #[.val (.int p1)] [])) _
    refine XS.iloadN X0.here hx rfl (hb hby d1_0) rfl ?_
    exact k
  obtain ⟨T2, X2, e2, st2⟩ := getS2 X0 hx hZ hown (host := "") (Or.inl (wk hw 5 rfl)) Via.refl e0 S_T (g := (mkF m 1 #[.val (.int p1)] [(.int p1)])) rfl (hb hby d1_1)
  have go3 : Go p.tables e below T2 (mkF m 5 #[.val (.int p1)] [(.int (128 : Int32)), (.int p1)]) s₁ (entryFrame m #[(.int p1)] 1) := by
    intro t k
    refine go1 t ?_
    show Steps _ _ _ (s₁.setTop (mkF m 1 #[.val (.int p1)] [(.int p1)])) _
    refine st2 _ ?_
    show Steps _ _ _ (T2.setTop (mkF m 4 #[.val (.int p1)] [(.ref wT), (.int p1)])) _
    refine X2.arraylength hx (by rw [e2]; exact Ar.1) (State.isArrayOf_alike hZ.alike Ar.2.1) (g := (mkF m 4 #[.val (.int p1)] [(.ref wT), (.int p1)])) rfl rfl (hb hby d1_4) _ ?_
    rw [hlen]
    exact k
  by_cases hc5 : p1 < (128 : Int32)
  · skip
    have go4 : Go p.tables e below T2 (mkF m 12 #[.val (.int p1)] []) s₁ (entryFrame m #[(.int p1)] 1) := by
      intro t k
      refine go3 t ?_
      show Steps _ _ _ (T2.setTop (mkF m 5 #[.val (.int p1)] [(.int (128 : Int32)), (.int p1)])) _
      refine XS.icmpNo X2.here hx rfl (hb hby d1_5) rfl (tlt hc5).2.1 ?_
      show Steps _ _ _ (T2.setTop (mkF m 8 #[.val (.int p1)] [])) _
      refine XS.iloadN X2.here hx rfl (hb hby d1_8) rfl ?_
      show Steps _ _ _ (T2.setTop (mkF m 9 #[.val (.int p1)] [(.int p1)])) _
      refine XS.ifNo X2.here hx rfl (hb hby d1_9) rfl ((if0 _ _).trans (flt hp).1) ?_
      exact k
    obtain ⟨T5, X5, e5, st5⟩ := getS2 X2 hx hZ hown (host := "") (Or.inl (wk hw 5 rfl)) Via.refl e2 S_T (g := (mkF m 12 #[.val (.int p1)] [])) rfl (hb hby d1_12)
    have go6 : Go p.tables e below T5 (mkF m 17 #[.val (.int p1)] [(.int (expv p1))]) s₁ (entryFrame m #[(.int p1)] 1) := by
      intro t k
      refine go4 t ?_
      show Steps _ _ _ (T2.setTop (mkF m 12 #[.val (.int p1)] [])) _
      refine st5 _ ?_
      show Steps _ _ _ (T5.setTop (mkF m 15 #[.val (.int p1)] [(.ref wT)])) _
      refine XS.iloadN X5.here hx rfl (hb hby d1_15) rfl ?_
      show Steps _ _ _ (T5.setTop (mkF m 16 #[.val (.int p1)] [(.int p1), (.ref wT)])) _
      refine X5.baloadBooleans hx (j := p1) (v := (.int (expv p1))) (by rw [e5]; exact Ar.1) (State.isArrayOf_alike hZ.alike Ar.2.1) Ar.2.2 (HT p1 hp hc5).1 (HT p1 hp hc5).2 (g := (mkF m 16 #[.val (.int p1)] [(.int p1), (.ref wT)])) rfl rfl (hb hby d1_16) _ ?_
      exact k
    by_cases hc17 : (expv p1) = (0 : Int32)
    · skip
      have go7 : Go p.tables e below T5 (mkF m 25 #[.val (.int p1)] [(.int (0 : Int32))]) s₁ (entryFrame m #[(.int p1)] 1) := by
        intro t k
        refine go6 t ?_
        show Steps _ _ _ (T5.setTop (mkF m 17 #[.val (.int p1)] [(.int (expv p1))])) _
        refine XS.ifYes X5.here hx rfl (pc0 := 17) (pc' := 24) rfl (hb hby d1_17) rfl ((if0 _ _).trans (teq hc17).1) (by decide) (by decide) ?_
        show Steps _ _ _ (T5.setTop (mkF m 24 #[.val (.int p1)] [])) _
        refine XS.iconst X5.here hx rfl (hb hby d1_24) ?_
        exact k
      obtain ⟨fs, hr, hrun, hended, hW, hsame⟩ := X5.leave (v := some (.int (0 : Int32))) (fun h => by rw [Bd.returns] at h; cases h)
      refine ⟨_, _, go7 _ ?_, hrun, hended, _, _, rfl, ?_, ⟨_, rfl⟩, hW, hsame.mono (by decide) (by decide)⟩
      · exact retN X5 hx (t := .boolean) Bd.returns (by simp) (hb hby d1_25) hr
      · show QP (.int (expv p1)) h0 n0 _ T5.heap _
        rw [e5]
        exact ⟨by rw [hc17], N0, rfl⟩
    · skip
      have go8 : Go p.tables e below T5 (mkF m 25 #[.val (.int p1)] [(.int (1 : Int32))]) s₁ (entryFrame m #[(.int p1)] 1) := by
        intro t k
        refine go6 t ?_
        show Steps _ _ _ (T5.setTop (mkF m 17 #[.val (.int p1)] [(.int (expv p1))])) _
        refine XS.ifNo X5.here hx rfl (hb hby d1_17) rfl ((if0 _ _).trans (feq hc17).1) ?_
        show Steps _ _ _ (T5.setTop (mkF m 20 #[.val (.int p1)] [])) _
        refine XS.iconst X5.here hx rfl (hb hby d1_20) ?_
        show Steps _ _ _ (T5.setTop (mkF m 21 #[.val (.int p1)] [(.int (1 : Int32))])) _
        refine XS.goto X5.here hx rfl (pc0 := 21) (pc' := 25) rfl (hb hby d1_21) (by decide) (by decide) ?_
        exact k
      obtain ⟨fs, hr, hrun, hended, hW, hsame⟩ := X5.leave (v := some (.int (1 : Int32))) (fun h => by rw [Bd.returns] at h; cases h)
      refine ⟨_, _, go8 _ ?_, hrun, hended, _, _, rfl, ?_, ⟨_, rfl⟩, hW, hsame.mono (by decide) (by decide)⟩
      · exact retN X5 hx (t := .boolean) Bd.returns (by simp) (hb hby d1_25) hr
      · show QP (.int (expv p1)) h0 n0 _ T5.heap _
        rw [e5]
        exact ⟨by rw [(own_01 p1).resolve_left hc17], N0, rfl⟩
  · skip
    have go9 : Go p.tables e below T2 (mkF m 25 #[.val (.int p1)] [(.int (1 : Int32))]) s₁ (entryFrame m #[(.int p1)] 1) := by
      intro t k
      refine go3 t ?_
      show Steps _ _ _ (T2.setTop (mkF m 5 #[.val (.int p1)] [(.int (128 : Int32)), (.int p1)])) _
      refine XS.icmpYes X2.here hx rfl (pc0 := 5) (pc' := 20) rfl (hb hby d1_5) rfl (flt hc5).2.1 (by decide) (by decide) ?_
      show Steps _ _ _ (T2.setTop (mkF m 20 #[.val (.int p1)] [])) _
      refine XS.iconst X2.here hx rfl (hb hby d1_20) ?_
      show Steps _ _ _ (T2.setTop (mkF m 21 #[.val (.int p1)] [(.int (1 : Int32))])) _
      refine XS.goto X2.here hx rfl (pc0 := 21) (pc' := 25) rfl (hb hby d1_21) (by decide) (by decide) ?_
      exact k
    obtain ⟨fs, hr, hrun, hended, hW, hsame⟩ := X2.leave (v := some (.int (1 : Int32))) (fun h => by rw [Bd.returns] at h; cases h)
    refine ⟨_, _, go9 _ ?_, hrun, hended, _, _, rfl, ?_, ⟨_, rfl⟩, hW, hsame.mono (by decide) (by decide)⟩
    · exact retN X2 hx (t := .boolean) Bd.returns (by simp) (hb hby d1_25) hr
    · show QP (.int (expv p1)) h0 n0 _ T2.heap _
      rw [e2]
      exact ⟨by rw [own_big hc5], N0, rfl⟩
theorem pn_0 : plainName "com/example/triplewake/triplewake/rdf/IrisAllowsPinLaw" = true := by first | (simp [plainName, overriddenIn]; done) | decide +kernel
theorem ef_0 (m : MethodId) (x0 : Int32) (x1 : Int32) : entryFrame m #[(.int x0), (.int x1)] maxLocals = mkF m 0 #[.val (.int x0), .val (.int x1), .unset, .unset] [] := by first | (simp [entryFrame, mkF, argsToLocals, Value.category, maxLocals]; done) | rfl
theorem pd_0 : parseMethodDescriptor "(I)Z" = some ⟨[.int], some .boolean⟩ := by decide +kernel
set_option maxRecDepth 65536 in
set_option maxHeartbeats 40000000 in
theorem rm0 (l : Launch) (Z : State) (a0 : Array Value) (hw : ∀ d ∈ tables_1, d.before a0 Z = true) (ws : List Jvm.Cond) (p1 p2 : Int32) (wT : Addr) (cl : Cell) (h0 : Heap) (n0 : Nat) (Z0 : n0 ≤ h0.size) (S_T : Sta Z h0 "com/example/triplewake/triplewake/rdf/Iris" "ASCII_IN_IRI" "[Z" (.ref wT)) (Ar : Arr Z h0 wT cl .boolean) (hlen : cl.slots.size.toInt32 = (128 : Int32)) (HT : ∀ c : Int32, ¬ c < 0 → c < 128 → ¬ (c < 0 ∨ cl.slots.size ≤ c.toNatClampNeg) ∧ cl.slots[c.toNatClampNeg]? = some (.int (expv c))) :
    MetFree l x (head1 (Jvm.Cond.code x code maxLocals ret :: ws) room_1) (fun a U => a = #[(.int p1), (.int p2)] ∧ Z.Warmed39 U.vm ∧ U.heap = h0) (fun _ _ _ _ _ => True) (fun _ U o U' => ∃ v L, o = .returned v ∧ QL (.int 1) h0 n0 v U'.heap L ∧ FrameEnd U o U' L room_1.cells room_1.slots) := by
  refine MetFree.of_bodySF (plainFor_of_name pn_0) hisR ?_
  intro p e s m args below meth c s₁ Bd hml0 hP hK
  obtain ⟨rfl, hZ, hh⟩ := hP
  have hx := Bd.exec
  have hby := Bd.bytes
  have hml : c.maxLocals = 4 := hml0
  have hown : s.vm.findClass "com/example/triplewake/triplewake/rdf/IrisAllowsPinLaw" = some m.cls := findClass_of_methodNamed Bd.named
  have hnm := (name_of_methodNamed Bd.named Bd.method).1
  have X0 : Stand p l e room_1 s m #[(.int p1), (.int p2)] below meth c s₁ [] 0 0 := Stand.of_body Bd
  have e0 : s₁.heap = h0 := by rw [← hh, Bd.state]; rfl
  have N0 := Fr.nil n0
  have go0 : Go p.tables e below s₁ (mkF m 0 #[.val (.int p1), .val (.int p2), .unset, .unset] []) s₁ (entryFrame m #[(.int p1), (.int p2)] maxLocals) := fun t k => castTop (ef_0 m p1 p2) k
  have go1 : Go p.tables e below s₁ (mkF m 5 #[.val (.int p1), .val (.int p2), .val (.int (p2 &&& (3 : Int32))), .unset] [(.int (p2 &&& (3 : Int32)))]) s₁ (entryFrame m #[(.int p1), (.int p2)] maxLocals) := by
    intro t k
    refine go0 t ?_
    show Steps _ _ _ (s₁.setTop (mkF m 0 #[.val (.int p1), .val (.int p2), .unset, .unset] [])) _
    refine XS.iloadN X0.here hx rfl (hb hby at_0) rfl ?_
    show Steps _ _ _ (s₁.setTop (mkF m 1 #[.val (.int p1), .val (.int p2), .unset, .unset] [(.int p2)])) _
    refine XS.iconst X0.here hx rfl (hb hby at_1) ?_
    show Steps _ _ _ (s₁.setTop (mkF m 2 #[.val (.int p1), .val (.int p2), .unset, .unset] [(.int (3 : Int32)), (.int p2)])) _
    refine XS.iand X0.here hx rfl (hb hby at_2) rfl ?_
    show Steps _ _ _ (s₁.setTop (mkF m 3 #[.val (.int p1), .val (.int p2), .unset, .unset] [(.int (p2 &&& (3 : Int32)))])) _
    refine XS.istoreN X0.here hx rfl (hb hby at_3) rfl (l' := #[.val (.int p1), .val (.int p2), .val (.int (p2 &&& (3 : Int32))), .unset]) rfl ?_
    show Steps _ _ _ (s₁.setTop (mkF m 4 #[.val (.int p1), .val (.int p2), .val (.int (p2 &&& (3 : Int32))), .unset] [])) _
    refine XS.iloadN X0.here hx rfl (hb hby at_4) rfl ?_
    exact k
  by_cases hc5 : (p2 &&& (3 : Int32)) = (0 : Int32)
  · skip
    have go3 : Go p.tables e below s₁ (mkF m 49 #[.val (.int p1), .val (.int p2), .val (.int (p2 &&& (3 : Int32))), .val (.int (p1 &&& (127 : Int32)))] [(.int (p1 &&& (127 : Int32)))]) s₁ (entryFrame m #[(.int p1), (.int p2)] maxLocals) := by
      intro t k
      refine go1 t ?_
      show Steps _ _ _ (s₁.setTop (mkF m 5 #[.val (.int p1), .val (.int p2), .val (.int (p2 &&& (3 : Int32))), .unset] [(.int (p2 &&& (3 : Int32)))])) _
      refine XS.ifNo X0.here hx rfl (hb hby at_5) rfl ((if0 _ _).trans (teq hc5).2) ?_
      show Steps _ _ _ (s₁.setTop (mkF m 8 #[.val (.int p1), .val (.int p2), .val (.int (p2 &&& (3 : Int32))), .unset] [])) _
      refine XS.iloadN X0.here hx rfl (hb hby at_8) rfl ?_
      show Steps _ _ _ (s₁.setTop (mkF m 9 #[.val (.int p1), .val (.int p2), .val (.int (p2 &&& (3 : Int32))), .unset] [(.int p1)])) _
      refine XS.bipush X0.here hx rfl (hb hby at_9) ?_
      show Steps _ _ _ (s₁.setTop (mkF m 11 #[.val (.int p1), .val (.int p2), .val (.int (p2 &&& (3 : Int32))), .unset] [(.int (127 : Int32)), (.int p1)])) _
      refine XS.iand X0.here hx rfl (hb hby at_11) rfl ?_
      show Steps _ _ _ (s₁.setTop (mkF m 12 #[.val (.int p1), .val (.int p2), .val (.int (p2 &&& (3 : Int32))), .unset] [(.int (p1 &&& (127 : Int32)))])) _
      refine XS.istoreN X0.here hx rfl (hb hby at_12) rfl (l' := #[.val (.int p1), .val (.int p2), .val (.int (p2 &&& (3 : Int32))), .val (.int (p1 &&& (127 : Int32)))]) rfl ?_
      show Steps _ _ _ (s₁.setTop (mkF m 13 #[.val (.int p1), .val (.int p2), .val (.int (p2 &&& (3 : Int32))), .val (.int (p1 &&& (127 : Int32)))] [])) _
      refine XS.goto X0.here hx rfl (pc0 := 13) (pc' := 48) rfl (hb hby at_13) (by decide) (by decide) ?_
      show Steps _ _ _ (s₁.setTop (mkF m 48 #[.val (.int p1), .val (.int p2), .val (.int (p2 &&& (3 : Int32))), .val (.int (p1 &&& (127 : Int32)))] [])) _
      refine XS.iloadN X0.here hx rfl (hb hby at_48) rfl ?_
      exact k
    obtain ⟨_, _, ⟨T2, L2, k2, n2⟩, -, X2, ⟨Lc2, hQ2, l2, y2, z2⟩, st2⟩ := Jvm.LawKit.callS X0 hx (y := (⟨"com/example/triplewake/triplewake/rdf/Iris", "allows", "(I)Z"⟩ : MethodName)) hown (mvT hZ (wk hw 1 rfl)) (mvT hZ (wk hw 2 rfl)) (mvT hZ (wk hw 3 rfl)) (mvT hZ (wk hw 4 rfl)) (by decide) (backOf (W := 0) (rm1 l Z a0 hw [] (p1 &&& (127 : Int32)) wT cl h0 n0 Z0 S_T Ar hlen HT (own_mask p1 127 (k := 7) (by decide) (by decide))) hZ (wk hw 4 rfl) (wk hw 3 rfl) (by decide) (by decide)) (g := (mkF m 49 #[.val (.int p1), .val (.int p2), .val (.int (p2 &&& (3 : Int32))), .val (.int (p1 &&& (127 : Int32)))] [(.int (p1 &&& (127 : Int32)))])) rfl (by rw [hml]; rfl) (argsL := [(.int (p1 &&& (127 : Int32)))]) (rest := []) (lenOf pd_0 rfl) rfl (by show 2 * 0 + _ ≤ _; exact Nat.le_of_eq rfl) (hb hby at_49) (fun _ _ => ⟨rfl, e0, (by decide : 0 + 0 ≤ _), (by decide : 0 + 0 ≤ _)⟩)
    dsimp only [Pt.U, Pt.locs, Pt.cells, Pt.slots] at X2 l2 y2 z2 st2 hQ2
    subst l2 y2 z2
    obtain ⟨rfl, N2q, e2⟩ := hQ2
    have N2 := Fr.app N0 N2q
    have go5 : Go p.tables e below T2 (mkF m 53 #[.val (.int p1), .val (.int p2), .val (.int (p2 &&& (3 : Int32))), .val (.int (p1 &&& (127 : Int32)))] [(.int (p1 &&& (127 : Int32))), (.int (expv (p1 &&& (127 : Int32))))]) s₁ (entryFrame m #[(.int p1), (.int p2)] maxLocals) := by
      intro t k
      refine go3 t ?_
      show Steps _ _ _ (s₁.setTop (mkF m 49 #[.val (.int p1), .val (.int p2), .val (.int (p2 &&& (3 : Int32))), .val (.int (p1 &&& (127 : Int32)))] [(.int (p1 &&& (127 : Int32)))])) _
      refine st2 _ ?_
      show Steps _ _ _ (T2.setTop (mkF m 52 #[.val (.int p1), .val (.int p2), .val (.int (p2 &&& (3 : Int32))), .val (.int (p1 &&& (127 : Int32)))] [(.int (expv (p1 &&& (127 : Int32))))])) _
      refine XS.iloadN X2.here hx rfl (hb hby at_52) rfl ?_
      exact k
    obtain ⟨_, _, ⟨T4, L4, k4, n4⟩, -, X4, ⟨Lc4, hQ4, l4, y4, z4⟩, st4⟩ := Jvm.LawKit.callS X2 hx (y := (⟨"com/example/triplewake/triplewake/rdf/IrisAllowsPinLaw", "expected", "(I)Z"⟩ : MethodName)) hown (mvT hZ (wk hw 7 rfl)) (mvT hZ (wk hw 8 rfl)) (mvT hZ (wk hw 9 rfl)) (mvT hZ (wk hw 10 rfl)) (by decide) (backOf (W := 1) (rm2 l Z a0 hw [] (p1 &&& (127 : Int32)) h0 n0 Z0) hZ (wk hw 10 rfl) (wk hw 9 rfl) (by decide) (by decide)) (g := (mkF m 53 #[.val (.int p1), .val (.int p2), .val (.int (p2 &&& (3 : Int32))), .val (.int (p1 &&& (127 : Int32)))] [(.int (p1 &&& (127 : Int32))), (.int (expv (p1 &&& (127 : Int32))))])) rfl (by rw [hml]; rfl) (argsL := [(.int (p1 &&& (127 : Int32)))]) (rest := [(.int (expv (p1 &&& (127 : Int32))))]) (lenOf pd_0 rfl) rfl (by show 2 * 0 + _ ≤ _; exact Nat.le_of_eq rfl) (hb hby at_53) (fun _ _ => ⟨rfl, e2, (by decide : 0 + 0 ≤ _), (by decide : 0 + 0 ≤ _)⟩)
    dsimp only [Pt.U, Pt.locs, Pt.cells, Pt.slots] at X4 l4 y4 z4 st4 hQ4
    subst l4 y4 z4
    obtain ⟨rfl, N4q, e4⟩ := hQ4
    have N4 := Fr.app N2 N4q
    have go6 : Go p.tables e below T4 (mkF m 64 #[.val (.int p1), .val (.int p2), .val (.int (p2 &&& (3 : Int32))), .val (.int (p1 &&& (127 : Int32)))] [(.int (1 : Int32))]) s₁ (entryFrame m #[(.int p1), (.int p2)] maxLocals) := by
      intro t k
      refine go5 t ?_
      show Steps _ _ _ (T2.setTop (mkF m 53 #[.val (.int p1), .val (.int p2), .val (.int (p2 &&& (3 : Int32))), .val (.int (p1 &&& (127 : Int32)))] [(.int (p1 &&& (127 : Int32))), (.int (expv (p1 &&& (127 : Int32))))])) _
      refine st4 _ ?_
      show Steps _ _ _ (T4.setTop (mkF m 56 #[.val (.int p1), .val (.int p2), .val (.int (p2 &&& (3 : Int32))), .val (.int (p1 &&& (127 : Int32)))] [(.int (expv (p1 &&& (127 : Int32)))), (.int (expv (p1 &&& (127 : Int32))))])) _
      refine XS.icmpNo X4.here hx rfl (hb hby at_56) rfl (teq rfl).2 ?_
      show Steps _ _ _ (T4.setTop (mkF m 59 #[.val (.int p1), .val (.int p2), .val (.int (p2 &&& (3 : Int32))), .val (.int (p1 &&& (127 : Int32)))] [])) _
      refine XS.iconst X4.here hx rfl (hb hby at_59) ?_
      show Steps _ _ _ (T4.setTop (mkF m 60 #[.val (.int p1), .val (.int p2), .val (.int (p2 &&& (3 : Int32))), .val (.int (p1 &&& (127 : Int32)))] [(.int (1 : Int32))])) _
      refine XS.goto X4.here hx rfl (pc0 := 60) (pc' := 64) rfl (hb hby at_60) (by decide) (by decide) ?_
      exact k
    obtain ⟨fs, hr, hrun, hended, hW, hsame⟩ := X4.leave (v := some (.int (1 : Int32))) (fun h => by rw [Bd.returns] at h; cases h)
    refine ⟨_, _, go6 _ ?_, hrun, hended, _, _, rfl, ?_, ⟨_, rfl⟩, hW, hsame.mono (by decide) (by decide)⟩
    · exact retN X4 hx (t := .boolean) Bd.returns (by simp) (hb hby at_64) hr
    · show QL (.int 1) h0 n0 _ T4.heap _
      rw [e4]
      exact ⟨rfl, N4⟩
  · skip
    have go7 : Go p.tables e below s₁ (mkF m 18 #[.val (.int p1), .val (.int p2), .val (.int (p2 &&& (3 : Int32))), .unset] [(.int (1 : Int32)), (.int (p2 &&& (3 : Int32)))]) s₁ (entryFrame m #[(.int p1), (.int p2)] maxLocals) := by
      intro t k
      refine go1 t ?_
      show Steps _ _ _ (s₁.setTop (mkF m 5 #[.val (.int p1), .val (.int p2), .val (.int (p2 &&& (3 : Int32))), .unset] [(.int (p2 &&& (3 : Int32)))])) _
      refine XS.ifYes X0.here hx rfl (pc0 := 5) (pc' := 16) rfl (hb hby at_5) rfl ((if0 _ _).trans (feq hc5).2) (by decide) (by decide) ?_
      show Steps _ _ _ (s₁.setTop (mkF m 16 #[.val (.int p1), .val (.int p2), .val (.int (p2 &&& (3 : Int32))), .unset] [])) _
      refine XS.iloadN X0.here hx rfl (hb hby at_16) rfl ?_
      show Steps _ _ _ (s₁.setTop (mkF m 17 #[.val (.int p1), .val (.int p2), .val (.int (p2 &&& (3 : Int32))), .unset] [(.int (p2 &&& (3 : Int32)))])) _
      refine XS.iconst X0.here hx rfl (hb hby at_17) ?_
      exact k
    by_cases hc18 : (p2 &&& (3 : Int32)) = (1 : Int32)
    · skip
      have go9 : Go p.tables e below s₁ (mkF m 49 #[.val (.int p1), .val (.int p2), .val (.int (p2 &&& (3 : Int32))), .val (.int (p1 &&& (255 : Int32)))] [(.int (p1 &&& (255 : Int32)))]) s₁ (entryFrame m #[(.int p1), (.int p2)] maxLocals) := by
        intro t k
        refine go7 t ?_
        show Steps _ _ _ (s₁.setTop (mkF m 18 #[.val (.int p1), .val (.int p2), .val (.int (p2 &&& (3 : Int32))), .unset] [(.int (1 : Int32)), (.int (p2 &&& (3 : Int32)))])) _
        refine XS.icmpNo X0.here hx rfl (hb hby at_18) rfl (teq hc18).2 ?_
        show Steps _ _ _ (s₁.setTop (mkF m 21 #[.val (.int p1), .val (.int p2), .val (.int (p2 &&& (3 : Int32))), .unset] [])) _
        refine XS.iloadN X0.here hx rfl (hb hby at_21) rfl ?_
        show Steps _ _ _ (s₁.setTop (mkF m 22 #[.val (.int p1), .val (.int p2), .val (.int (p2 &&& (3 : Int32))), .unset] [(.int p1)])) _
        refine XS.sipush X0.here hx rfl (hb hby at_22) ?_
        show Steps _ _ _ (s₁.setTop (mkF m 25 #[.val (.int p1), .val (.int p2), .val (.int (p2 &&& (3 : Int32))), .unset] [(.int (255 : Int32)), (.int p1)])) _
        refine XS.iand X0.here hx rfl (hb hby at_25) rfl ?_
        show Steps _ _ _ (s₁.setTop (mkF m 26 #[.val (.int p1), .val (.int p2), .val (.int (p2 &&& (3 : Int32))), .unset] [(.int (p1 &&& (255 : Int32)))])) _
        refine XS.istoreN X0.here hx rfl (hb hby at_26) rfl (l' := #[.val (.int p1), .val (.int p2), .val (.int (p2 &&& (3 : Int32))), .val (.int (p1 &&& (255 : Int32)))]) rfl ?_
        show Steps _ _ _ (s₁.setTop (mkF m 27 #[.val (.int p1), .val (.int p2), .val (.int (p2 &&& (3 : Int32))), .val (.int (p1 &&& (255 : Int32)))] [])) _
        refine XS.goto X0.here hx rfl (pc0 := 27) (pc' := 48) rfl (hb hby at_27) (by decide) (by decide) ?_
        show Steps _ _ _ (s₁.setTop (mkF m 48 #[.val (.int p1), .val (.int p2), .val (.int (p2 &&& (3 : Int32))), .val (.int (p1 &&& (255 : Int32)))] [])) _
        refine XS.iloadN X0.here hx rfl (hb hby at_48) rfl ?_
        exact k
      obtain ⟨_, _, ⟨T8, L8, k8, n8⟩, -, X8, ⟨Lc8, hQ8, l8, y8, z8⟩, st8⟩ := Jvm.LawKit.callS X0 hx (y := (⟨"com/example/triplewake/triplewake/rdf/Iris", "allows", "(I)Z"⟩ : MethodName)) hown (mvT hZ (wk hw 1 rfl)) (mvT hZ (wk hw 2 rfl)) (mvT hZ (wk hw 3 rfl)) (mvT hZ (wk hw 4 rfl)) (by decide) (backOf (W := 0) (rm1 l Z a0 hw [] (p1 &&& (255 : Int32)) wT cl h0 n0 Z0 S_T Ar hlen HT (own_mask p1 255 (k := 8) (by decide) (by decide))) hZ (wk hw 4 rfl) (wk hw 3 rfl) (by decide) (by decide)) (g := (mkF m 49 #[.val (.int p1), .val (.int p2), .val (.int (p2 &&& (3 : Int32))), .val (.int (p1 &&& (255 : Int32)))] [(.int (p1 &&& (255 : Int32)))])) rfl (by rw [hml]; rfl) (argsL := [(.int (p1 &&& (255 : Int32)))]) (rest := []) (lenOf pd_0 rfl) rfl (by show 2 * 0 + _ ≤ _; exact Nat.le_of_eq rfl) (hb hby at_49) (fun _ _ => ⟨rfl, e0, (by decide : 0 + 0 ≤ _), (by decide : 0 + 0 ≤ _)⟩)
      dsimp only [Pt.U, Pt.locs, Pt.cells, Pt.slots] at X8 l8 y8 z8 st8 hQ8
      subst l8 y8 z8
      obtain ⟨rfl, N8q, e8⟩ := hQ8
      have N8 := Fr.app N0 N8q
      have go11 : Go p.tables e below T8 (mkF m 53 #[.val (.int p1), .val (.int p2), .val (.int (p2 &&& (3 : Int32))), .val (.int (p1 &&& (255 : Int32)))] [(.int (p1 &&& (255 : Int32))), (.int (expv (p1 &&& (255 : Int32))))]) s₁ (entryFrame m #[(.int p1), (.int p2)] maxLocals) := by
        intro t k
        refine go9 t ?_
        show Steps _ _ _ (s₁.setTop (mkF m 49 #[.val (.int p1), .val (.int p2), .val (.int (p2 &&& (3 : Int32))), .val (.int (p1 &&& (255 : Int32)))] [(.int (p1 &&& (255 : Int32)))])) _
        refine st8 _ ?_
        show Steps _ _ _ (T8.setTop (mkF m 52 #[.val (.int p1), .val (.int p2), .val (.int (p2 &&& (3 : Int32))), .val (.int (p1 &&& (255 : Int32)))] [(.int (expv (p1 &&& (255 : Int32))))])) _
        refine XS.iloadN X8.here hx rfl (hb hby at_52) rfl ?_
        exact k
      obtain ⟨_, _, ⟨T10, L10, k10, n10⟩, -, X10, ⟨Lc10, hQ10, l10, y10, z10⟩, st10⟩ := Jvm.LawKit.callS X8 hx (y := (⟨"com/example/triplewake/triplewake/rdf/IrisAllowsPinLaw", "expected", "(I)Z"⟩ : MethodName)) hown (mvT hZ (wk hw 7 rfl)) (mvT hZ (wk hw 8 rfl)) (mvT hZ (wk hw 9 rfl)) (mvT hZ (wk hw 10 rfl)) (by decide) (backOf (W := 1) (rm2 l Z a0 hw [] (p1 &&& (255 : Int32)) h0 n0 Z0) hZ (wk hw 10 rfl) (wk hw 9 rfl) (by decide) (by decide)) (g := (mkF m 53 #[.val (.int p1), .val (.int p2), .val (.int (p2 &&& (3 : Int32))), .val (.int (p1 &&& (255 : Int32)))] [(.int (p1 &&& (255 : Int32))), (.int (expv (p1 &&& (255 : Int32))))])) rfl (by rw [hml]; rfl) (argsL := [(.int (p1 &&& (255 : Int32)))]) (rest := [(.int (expv (p1 &&& (255 : Int32))))]) (lenOf pd_0 rfl) rfl (by show 2 * 0 + _ ≤ _; exact Nat.le_of_eq rfl) (hb hby at_53) (fun _ _ => ⟨rfl, e8, (by decide : 0 + 0 ≤ _), (by decide : 0 + 0 ≤ _)⟩)
      dsimp only [Pt.U, Pt.locs, Pt.cells, Pt.slots] at X10 l10 y10 z10 st10 hQ10
      subst l10 y10 z10
      obtain ⟨rfl, N10q, e10⟩ := hQ10
      have N10 := Fr.app N8 N10q
      have go12 : Go p.tables e below T10 (mkF m 64 #[.val (.int p1), .val (.int p2), .val (.int (p2 &&& (3 : Int32))), .val (.int (p1 &&& (255 : Int32)))] [(.int (1 : Int32))]) s₁ (entryFrame m #[(.int p1), (.int p2)] maxLocals) := by
        intro t k
        refine go11 t ?_
        show Steps _ _ _ (T8.setTop (mkF m 53 #[.val (.int p1), .val (.int p2), .val (.int (p2 &&& (3 : Int32))), .val (.int (p1 &&& (255 : Int32)))] [(.int (p1 &&& (255 : Int32))), (.int (expv (p1 &&& (255 : Int32))))])) _
        refine st10 _ ?_
        show Steps _ _ _ (T10.setTop (mkF m 56 #[.val (.int p1), .val (.int p2), .val (.int (p2 &&& (3 : Int32))), .val (.int (p1 &&& (255 : Int32)))] [(.int (expv (p1 &&& (255 : Int32)))), (.int (expv (p1 &&& (255 : Int32))))])) _
        refine XS.icmpNo X10.here hx rfl (hb hby at_56) rfl (teq rfl).2 ?_
        show Steps _ _ _ (T10.setTop (mkF m 59 #[.val (.int p1), .val (.int p2), .val (.int (p2 &&& (3 : Int32))), .val (.int (p1 &&& (255 : Int32)))] [])) _
        refine XS.iconst X10.here hx rfl (hb hby at_59) ?_
        show Steps _ _ _ (T10.setTop (mkF m 60 #[.val (.int p1), .val (.int p2), .val (.int (p2 &&& (3 : Int32))), .val (.int (p1 &&& (255 : Int32)))] [(.int (1 : Int32))])) _
        refine XS.goto X10.here hx rfl (pc0 := 60) (pc' := 64) rfl (hb hby at_60) (by decide) (by decide) ?_
        exact k
      obtain ⟨fs, hr, hrun, hended, hW, hsame⟩ := X10.leave (v := some (.int (1 : Int32))) (fun h => by rw [Bd.returns] at h; cases h)
      refine ⟨_, _, go12 _ ?_, hrun, hended, _, _, rfl, ?_, ⟨_, rfl⟩, hW, hsame.mono (by decide) (by decide)⟩
      · exact retN X10 hx (t := .boolean) Bd.returns (by simp) (hb hby at_64) hr
      · show QL (.int 1) h0 n0 _ T10.heap _
        rw [e10]
        exact ⟨rfl, N10⟩
    · skip
      have go13 : Go p.tables e below s₁ (mkF m 32 #[.val (.int p1), .val (.int p2), .val (.int (p2 &&& (3 : Int32))), .unset] [(.int (2 : Int32)), (.int (p2 &&& (3 : Int32)))]) s₁ (entryFrame m #[(.int p1), (.int p2)] maxLocals) := by
        intro t k
        refine go7 t ?_
        show Steps _ _ _ (s₁.setTop (mkF m 18 #[.val (.int p1), .val (.int p2), .val (.int (p2 &&& (3 : Int32))), .unset] [(.int (1 : Int32)), (.int (p2 &&& (3 : Int32)))])) _
        refine XS.icmpYes X0.here hx rfl (pc0 := 18) (pc' := 30) rfl (hb hby at_18) rfl (feq hc18).2 (by decide) (by decide) ?_
        show Steps _ _ _ (s₁.setTop (mkF m 30 #[.val (.int p1), .val (.int p2), .val (.int (p2 &&& (3 : Int32))), .unset] [])) _
        refine XS.iloadN X0.here hx rfl (hb hby at_30) rfl ?_
        show Steps _ _ _ (s₁.setTop (mkF m 31 #[.val (.int p1), .val (.int p2), .val (.int (p2 &&& (3 : Int32))), .unset] [(.int (p2 &&& (3 : Int32)))])) _
        refine XS.iconst X0.here hx rfl (hb hby at_31) ?_
        exact k
      by_cases hc32 : (p2 &&& (3 : Int32)) = (2 : Int32)
      · skip
        have go15 : Go p.tables e below s₁ (mkF m 49 #[.val (.int p1), .val (.int p2), .val (.int (p2 &&& (3 : Int32))), .val (.int (p1 &&& (65535 : Int32)))] [(.int (p1 &&& (65535 : Int32)))]) s₁ (entryFrame m #[(.int p1), (.int p2)] maxLocals) := by
          intro t k
          refine go13 t ?_
          show Steps _ _ _ (s₁.setTop (mkF m 32 #[.val (.int p1), .val (.int p2), .val (.int (p2 &&& (3 : Int32))), .unset] [(.int (2 : Int32)), (.int (p2 &&& (3 : Int32)))])) _
          refine XS.icmpNo X0.here hx rfl (hb hby at_32) rfl (teq hc32).2 ?_
          show Steps _ _ _ (s₁.setTop (mkF m 35 #[.val (.int p1), .val (.int p2), .val (.int (p2 &&& (3 : Int32))), .unset] [])) _
          refine XS.iloadN X0.here hx rfl (hb hby at_35) rfl ?_
          show Steps _ _ _ (s₁.setTop (mkF m 36 #[.val (.int p1), .val (.int p2), .val (.int (p2 &&& (3 : Int32))), .unset] [(.int p1)])) _
          refine X0.ldcInt hx hown (mvT hZ (wk hw 11 rfl)) (g := (mkF m 36 #[.val (.int p1), .val (.int p2), .val (.int (p2 &&& (3 : Int32))), .unset] [(.int p1)])) rfl (hb hby at_36) _ ?_
          show Steps _ _ _ (s₁.setTop (mkF m 38 #[.val (.int p1), .val (.int p2), .val (.int (p2 &&& (3 : Int32))), .unset] [(.int (65535 : Int32)), (.int p1)])) _
          refine XS.iand X0.here hx rfl (hb hby at_38) rfl ?_
          show Steps _ _ _ (s₁.setTop (mkF m 39 #[.val (.int p1), .val (.int p2), .val (.int (p2 &&& (3 : Int32))), .unset] [(.int (p1 &&& (65535 : Int32)))])) _
          refine XS.istoreN X0.here hx rfl (hb hby at_39) rfl (l' := #[.val (.int p1), .val (.int p2), .val (.int (p2 &&& (3 : Int32))), .val (.int (p1 &&& (65535 : Int32)))]) rfl ?_
          show Steps _ _ _ (s₁.setTop (mkF m 40 #[.val (.int p1), .val (.int p2), .val (.int (p2 &&& (3 : Int32))), .val (.int (p1 &&& (65535 : Int32)))] [])) _
          refine XS.goto X0.here hx rfl (pc0 := 40) (pc' := 48) rfl (hb hby at_40) (by decide) (by decide) ?_
          show Steps _ _ _ (s₁.setTop (mkF m 48 #[.val (.int p1), .val (.int p2), .val (.int (p2 &&& (3 : Int32))), .val (.int (p1 &&& (65535 : Int32)))] [])) _
          refine XS.iloadN X0.here hx rfl (hb hby at_48) rfl ?_
          exact k
        obtain ⟨_, _, ⟨T14, L14, k14, n14⟩, -, X14, ⟨Lc14, hQ14, l14, y14, z14⟩, st14⟩ := Jvm.LawKit.callS X0 hx (y := (⟨"com/example/triplewake/triplewake/rdf/Iris", "allows", "(I)Z"⟩ : MethodName)) hown (mvT hZ (wk hw 1 rfl)) (mvT hZ (wk hw 2 rfl)) (mvT hZ (wk hw 3 rfl)) (mvT hZ (wk hw 4 rfl)) (by decide) (backOf (W := 0) (rm1 l Z a0 hw [] (p1 &&& (65535 : Int32)) wT cl h0 n0 Z0 S_T Ar hlen HT (own_mask p1 65535 (k := 16) (by decide) (by decide))) hZ (wk hw 4 rfl) (wk hw 3 rfl) (by decide) (by decide)) (g := (mkF m 49 #[.val (.int p1), .val (.int p2), .val (.int (p2 &&& (3 : Int32))), .val (.int (p1 &&& (65535 : Int32)))] [(.int (p1 &&& (65535 : Int32)))])) rfl (by rw [hml]; rfl) (argsL := [(.int (p1 &&& (65535 : Int32)))]) (rest := []) (lenOf pd_0 rfl) rfl (by show 2 * 0 + _ ≤ _; exact Nat.le_of_eq rfl) (hb hby at_49) (fun _ _ => ⟨rfl, e0, (by decide : 0 + 0 ≤ _), (by decide : 0 + 0 ≤ _)⟩)
        dsimp only [Pt.U, Pt.locs, Pt.cells, Pt.slots] at X14 l14 y14 z14 st14 hQ14
        subst l14 y14 z14
        obtain ⟨rfl, N14q, e14⟩ := hQ14
        have N14 := Fr.app N0 N14q
        have go17 : Go p.tables e below T14 (mkF m 53 #[.val (.int p1), .val (.int p2), .val (.int (p2 &&& (3 : Int32))), .val (.int (p1 &&& (65535 : Int32)))] [(.int (p1 &&& (65535 : Int32))), (.int (expv (p1 &&& (65535 : Int32))))]) s₁ (entryFrame m #[(.int p1), (.int p2)] maxLocals) := by
          intro t k
          refine go15 t ?_
          show Steps _ _ _ (s₁.setTop (mkF m 49 #[.val (.int p1), .val (.int p2), .val (.int (p2 &&& (3 : Int32))), .val (.int (p1 &&& (65535 : Int32)))] [(.int (p1 &&& (65535 : Int32)))])) _
          refine st14 _ ?_
          show Steps _ _ _ (T14.setTop (mkF m 52 #[.val (.int p1), .val (.int p2), .val (.int (p2 &&& (3 : Int32))), .val (.int (p1 &&& (65535 : Int32)))] [(.int (expv (p1 &&& (65535 : Int32))))])) _
          refine XS.iloadN X14.here hx rfl (hb hby at_52) rfl ?_
          exact k
        obtain ⟨_, _, ⟨T16, L16, k16, n16⟩, -, X16, ⟨Lc16, hQ16, l16, y16, z16⟩, st16⟩ := Jvm.LawKit.callS X14 hx (y := (⟨"com/example/triplewake/triplewake/rdf/IrisAllowsPinLaw", "expected", "(I)Z"⟩ : MethodName)) hown (mvT hZ (wk hw 7 rfl)) (mvT hZ (wk hw 8 rfl)) (mvT hZ (wk hw 9 rfl)) (mvT hZ (wk hw 10 rfl)) (by decide) (backOf (W := 1) (rm2 l Z a0 hw [] (p1 &&& (65535 : Int32)) h0 n0 Z0) hZ (wk hw 10 rfl) (wk hw 9 rfl) (by decide) (by decide)) (g := (mkF m 53 #[.val (.int p1), .val (.int p2), .val (.int (p2 &&& (3 : Int32))), .val (.int (p1 &&& (65535 : Int32)))] [(.int (p1 &&& (65535 : Int32))), (.int (expv (p1 &&& (65535 : Int32))))])) rfl (by rw [hml]; rfl) (argsL := [(.int (p1 &&& (65535 : Int32)))]) (rest := [(.int (expv (p1 &&& (65535 : Int32))))]) (lenOf pd_0 rfl) rfl (by show 2 * 0 + _ ≤ _; exact Nat.le_of_eq rfl) (hb hby at_53) (fun _ _ => ⟨rfl, e14, (by decide : 0 + 0 ≤ _), (by decide : 0 + 0 ≤ _)⟩)
        dsimp only [Pt.U, Pt.locs, Pt.cells, Pt.slots] at X16 l16 y16 z16 st16 hQ16
        subst l16 y16 z16
        obtain ⟨rfl, N16q, e16⟩ := hQ16
        have N16 := Fr.app N14 N16q
        have go18 : Go p.tables e below T16 (mkF m 64 #[.val (.int p1), .val (.int p2), .val (.int (p2 &&& (3 : Int32))), .val (.int (p1 &&& (65535 : Int32)))] [(.int (1 : Int32))]) s₁ (entryFrame m #[(.int p1), (.int p2)] maxLocals) := by
          intro t k
          refine go17 t ?_
          show Steps _ _ _ (T14.setTop (mkF m 53 #[.val (.int p1), .val (.int p2), .val (.int (p2 &&& (3 : Int32))), .val (.int (p1 &&& (65535 : Int32)))] [(.int (p1 &&& (65535 : Int32))), (.int (expv (p1 &&& (65535 : Int32))))])) _
          refine st16 _ ?_
          show Steps _ _ _ (T16.setTop (mkF m 56 #[.val (.int p1), .val (.int p2), .val (.int (p2 &&& (3 : Int32))), .val (.int (p1 &&& (65535 : Int32)))] [(.int (expv (p1 &&& (65535 : Int32)))), (.int (expv (p1 &&& (65535 : Int32))))])) _
          refine XS.icmpNo X16.here hx rfl (hb hby at_56) rfl (teq rfl).2 ?_
          show Steps _ _ _ (T16.setTop (mkF m 59 #[.val (.int p1), .val (.int p2), .val (.int (p2 &&& (3 : Int32))), .val (.int (p1 &&& (65535 : Int32)))] [])) _
          refine XS.iconst X16.here hx rfl (hb hby at_59) ?_
          show Steps _ _ _ (T16.setTop (mkF m 60 #[.val (.int p1), .val (.int p2), .val (.int (p2 &&& (3 : Int32))), .val (.int (p1 &&& (65535 : Int32)))] [(.int (1 : Int32))])) _
          refine XS.goto X16.here hx rfl (pc0 := 60) (pc' := 64) rfl (hb hby at_60) (by decide) (by decide) ?_
          exact k
        obtain ⟨fs, hr, hrun, hended, hW, hsame⟩ := X16.leave (v := some (.int (1 : Int32))) (fun h => by rw [Bd.returns] at h; cases h)
        refine ⟨_, _, go18 _ ?_, hrun, hended, _, _, rfl, ?_, ⟨_, rfl⟩, hW, hsame.mono (by decide) (by decide)⟩
        · exact retN X16 hx (t := .boolean) Bd.returns (by simp) (hb hby at_64) hr
        · show QL (.int 1) h0 n0 _ T16.heap _
          rw [e16]
          exact ⟨rfl, N16⟩
      · skip
        have go20 : Go p.tables e below s₁ (mkF m 49 #[.val (.int p1), .val (.int p2), .val (.int (p2 &&& (3 : Int32))), .val (.int (p1 &&& (2147483647 : Int32)))] [(.int (p1 &&& (2147483647 : Int32)))]) s₁ (entryFrame m #[(.int p1), (.int p2)] maxLocals) := by
          intro t k
          refine go13 t ?_
          show Steps _ _ _ (s₁.setTop (mkF m 32 #[.val (.int p1), .val (.int p2), .val (.int (p2 &&& (3 : Int32))), .unset] [(.int (2 : Int32)), (.int (p2 &&& (3 : Int32)))])) _
          refine XS.icmpYes X0.here hx rfl (pc0 := 32) (pc' := 43) rfl (hb hby at_32) rfl (feq hc32).2 (by decide) (by decide) ?_
          show Steps _ _ _ (s₁.setTop (mkF m 43 #[.val (.int p1), .val (.int p2), .val (.int (p2 &&& (3 : Int32))), .unset] [])) _
          refine XS.iloadN X0.here hx rfl (hb hby at_43) rfl ?_
          show Steps _ _ _ (s₁.setTop (mkF m 44 #[.val (.int p1), .val (.int p2), .val (.int (p2 &&& (3 : Int32))), .unset] [(.int p1)])) _
          refine X0.ldcInt hx hown (mvT hZ (wk hw 0 rfl)) (g := (mkF m 44 #[.val (.int p1), .val (.int p2), .val (.int (p2 &&& (3 : Int32))), .unset] [(.int p1)])) rfl (hb hby at_44) _ ?_
          show Steps _ _ _ (s₁.setTop (mkF m 46 #[.val (.int p1), .val (.int p2), .val (.int (p2 &&& (3 : Int32))), .unset] [(.int (2147483647 : Int32)), (.int p1)])) _
          refine XS.iand X0.here hx rfl (hb hby at_46) rfl ?_
          show Steps _ _ _ (s₁.setTop (mkF m 47 #[.val (.int p1), .val (.int p2), .val (.int (p2 &&& (3 : Int32))), .unset] [(.int (p1 &&& (2147483647 : Int32)))])) _
          refine XS.istoreN X0.here hx rfl (hb hby at_47) rfl (l' := #[.val (.int p1), .val (.int p2), .val (.int (p2 &&& (3 : Int32))), .val (.int (p1 &&& (2147483647 : Int32)))]) rfl ?_
          show Steps _ _ _ (s₁.setTop (mkF m 48 #[.val (.int p1), .val (.int p2), .val (.int (p2 &&& (3 : Int32))), .val (.int (p1 &&& (2147483647 : Int32)))] [])) _
          refine XS.iloadN X0.here hx rfl (hb hby at_48) rfl ?_
          exact k
        obtain ⟨_, _, ⟨T19, L19, k19, n19⟩, -, X19, ⟨Lc19, hQ19, l19, y19, z19⟩, st19⟩ := Jvm.LawKit.callS X0 hx (y := (⟨"com/example/triplewake/triplewake/rdf/Iris", "allows", "(I)Z"⟩ : MethodName)) hown (mvT hZ (wk hw 1 rfl)) (mvT hZ (wk hw 2 rfl)) (mvT hZ (wk hw 3 rfl)) (mvT hZ (wk hw 4 rfl)) (by decide) (backOf (W := 0) (rm1 l Z a0 hw [] (p1 &&& (2147483647 : Int32)) wT cl h0 n0 Z0 S_T Ar hlen HT (own_mask p1 2147483647 (k := 31) (by decide) (by decide))) hZ (wk hw 4 rfl) (wk hw 3 rfl) (by decide) (by decide)) (g := (mkF m 49 #[.val (.int p1), .val (.int p2), .val (.int (p2 &&& (3 : Int32))), .val (.int (p1 &&& (2147483647 : Int32)))] [(.int (p1 &&& (2147483647 : Int32)))])) rfl (by rw [hml]; rfl) (argsL := [(.int (p1 &&& (2147483647 : Int32)))]) (rest := []) (lenOf pd_0 rfl) rfl (by show 2 * 0 + _ ≤ _; exact Nat.le_of_eq rfl) (hb hby at_49) (fun _ _ => ⟨rfl, e0, (by decide : 0 + 0 ≤ _), (by decide : 0 + 0 ≤ _)⟩)
        dsimp only [Pt.U, Pt.locs, Pt.cells, Pt.slots] at X19 l19 y19 z19 st19 hQ19
        subst l19 y19 z19
        obtain ⟨rfl, N19q, e19⟩ := hQ19
        have N19 := Fr.app N0 N19q
        have go22 : Go p.tables e below T19 (mkF m 53 #[.val (.int p1), .val (.int p2), .val (.int (p2 &&& (3 : Int32))), .val (.int (p1 &&& (2147483647 : Int32)))] [(.int (p1 &&& (2147483647 : Int32))), (.int (expv (p1 &&& (2147483647 : Int32))))]) s₁ (entryFrame m #[(.int p1), (.int p2)] maxLocals) := by
          intro t k
          refine go20 t ?_
          show Steps _ _ _ (s₁.setTop (mkF m 49 #[.val (.int p1), .val (.int p2), .val (.int (p2 &&& (3 : Int32))), .val (.int (p1 &&& (2147483647 : Int32)))] [(.int (p1 &&& (2147483647 : Int32)))])) _
          refine st19 _ ?_
          show Steps _ _ _ (T19.setTop (mkF m 52 #[.val (.int p1), .val (.int p2), .val (.int (p2 &&& (3 : Int32))), .val (.int (p1 &&& (2147483647 : Int32)))] [(.int (expv (p1 &&& (2147483647 : Int32))))])) _
          refine XS.iloadN X19.here hx rfl (hb hby at_52) rfl ?_
          exact k
        obtain ⟨_, _, ⟨T21, L21, k21, n21⟩, -, X21, ⟨Lc21, hQ21, l21, y21, z21⟩, st21⟩ := Jvm.LawKit.callS X19 hx (y := (⟨"com/example/triplewake/triplewake/rdf/IrisAllowsPinLaw", "expected", "(I)Z"⟩ : MethodName)) hown (mvT hZ (wk hw 7 rfl)) (mvT hZ (wk hw 8 rfl)) (mvT hZ (wk hw 9 rfl)) (mvT hZ (wk hw 10 rfl)) (by decide) (backOf (W := 1) (rm2 l Z a0 hw [] (p1 &&& (2147483647 : Int32)) h0 n0 Z0) hZ (wk hw 10 rfl) (wk hw 9 rfl) (by decide) (by decide)) (g := (mkF m 53 #[.val (.int p1), .val (.int p2), .val (.int (p2 &&& (3 : Int32))), .val (.int (p1 &&& (2147483647 : Int32)))] [(.int (p1 &&& (2147483647 : Int32))), (.int (expv (p1 &&& (2147483647 : Int32))))])) rfl (by rw [hml]; rfl) (argsL := [(.int (p1 &&& (2147483647 : Int32)))]) (rest := [(.int (expv (p1 &&& (2147483647 : Int32))))]) (lenOf pd_0 rfl) rfl (by show 2 * 0 + _ ≤ _; exact Nat.le_of_eq rfl) (hb hby at_53) (fun _ _ => ⟨rfl, e19, (by decide : 0 + 0 ≤ _), (by decide : 0 + 0 ≤ _)⟩)
        dsimp only [Pt.U, Pt.locs, Pt.cells, Pt.slots] at X21 l21 y21 z21 st21 hQ21
        subst l21 y21 z21
        obtain ⟨rfl, N21q, e21⟩ := hQ21
        have N21 := Fr.app N19 N21q
        have go23 : Go p.tables e below T21 (mkF m 64 #[.val (.int p1), .val (.int p2), .val (.int (p2 &&& (3 : Int32))), .val (.int (p1 &&& (2147483647 : Int32)))] [(.int (1 : Int32))]) s₁ (entryFrame m #[(.int p1), (.int p2)] maxLocals) := by
          intro t k
          refine go22 t ?_
          show Steps _ _ _ (T19.setTop (mkF m 53 #[.val (.int p1), .val (.int p2), .val (.int (p2 &&& (3 : Int32))), .val (.int (p1 &&& (2147483647 : Int32)))] [(.int (p1 &&& (2147483647 : Int32))), (.int (expv (p1 &&& (2147483647 : Int32))))])) _
          refine st21 _ ?_
          show Steps _ _ _ (T21.setTop (mkF m 56 #[.val (.int p1), .val (.int p2), .val (.int (p2 &&& (3 : Int32))), .val (.int (p1 &&& (2147483647 : Int32)))] [(.int (expv (p1 &&& (2147483647 : Int32)))), (.int (expv (p1 &&& (2147483647 : Int32))))])) _
          refine XS.icmpNo X21.here hx rfl (hb hby at_56) rfl (teq rfl).2 ?_
          show Steps _ _ _ (T21.setTop (mkF m 59 #[.val (.int p1), .val (.int p2), .val (.int (p2 &&& (3 : Int32))), .val (.int (p1 &&& (2147483647 : Int32)))] [])) _
          refine XS.iconst X21.here hx rfl (hb hby at_59) ?_
          show Steps _ _ _ (T21.setTop (mkF m 60 #[.val (.int p1), .val (.int p2), .val (.int (p2 &&& (3 : Int32))), .val (.int (p1 &&& (2147483647 : Int32)))] [(.int (1 : Int32))])) _
          refine XS.goto X21.here hx rfl (pc0 := 60) (pc' := 64) rfl (hb hby at_60) (by decide) (by decide) ?_
          exact k
        obtain ⟨fs, hr, hrun, hended, hW, hsame⟩ := X21.leave (v := some (.int (1 : Int32))) (fun h => by rw [Bd.returns] at h; cases h)
        refine ⟨_, _, go23 _ ?_, hrun, hended, _, _, rfl, ?_, ⟨_, rfl⟩, hW, hsame.mono (by decide) (by decide)⟩
        · exact retN X21 hx (t := .boolean) Bd.returns (by simp) (hb hby at_64) hr
        · show QL (.int 1) h0 n0 _ T21.heap _
          rw [e21]
          exact ⟨rfl, N21⟩
set_option maxRecDepth 65536 in
set_option maxHeartbeats 40000000 in
theorem comes_1 {Post : Tables → Env → Array Value → State → Outcome → State → Prop} (hpost : ∀ tb e args s v u, (limb_1_1.after args s (.returned v) u = true ∧ limb_1_2.after args s (.returned v) u = true ∧ True) → FrameEnd s (.returned v) u (Jvm.fieldLocs frame_1_writes args s ++ Jvm.arrayLocs frame_1_arrays args s ++ Jvm.staticLocs frame_1_statics s) 0 0 → Post tb e args s (.returned v) u) :
    ArmFor flags0 classFile x code maxLocals ret World_1 tables_1 room_1 Calls_1 rest_1 Pre_1 Post := by
  intro l hfl _ _ p e ha hc hk s m args below hf hA hF happ hP
  obtain ⟨hcalls, hrest, hpre⟩ := hP
  obtain ⟨-, -, -, hnamed, -, -, -, hat⟩ := (Spec.applies_iff hf).mp happ
  obtain ⟨hg, hn⟩ := and_e (Cond.before_iff.mp (show (Jvm.Cond.and given_1 narrow_1).before args s = true from hpre))
  obtain ⟨gc, g0⟩ := and_e hg
  obtain ⟨ga0, g1⟩ := and_e g0
  have ga1 := g1
  obtain ⟨w0, w1, rfl⟩ : ∃ w0 w1 : Value, args = #[w0, w1] := by
    have hs : args.size = 2 := by simpa [Cond.value, given_1] using gc
    obtain ⟨L⟩ := args
    match L, hs with
    | [w0, w1], _ => exact ⟨w0, w1, rfl⟩
  have hw := fun d (hd : d ∈ tables_1) => atoms_spec (ws := Jvm.Cond.code x code maxLocals ret :: tables_1) hat d (List.mem_cons_of_mem _ hd)
  have hfit : Fit s := fun {y c} hc i hi => by
    obtain ⟨ha, rfl⟩ := Array.getElem?_eq_some_iff.mp hc
    have q := List.all_eq_true.mp ((Array.all_eq_true_iff_forall_mem.mp hF) _ (Array.getElem_mem ha)) i (List.mem_range.mpr hi)
    simpa [Array.getElem?_eq_getElem hi] using q
  obtain ⟨i0, ei0⟩ := is_v ga0
  obtain rfl : w0 = (.int i0) := Option.some.inj ei0
  obtain ⟨i1, ei1⟩ := is_v ga1
  obtain rfl : w1 = (.int i1) := Option.some.inj ei1
  obtain ⟨n1, m1⟩ := and_e hn
  obtain ⟨n2, m2⟩ := and_e m1
  obtain ⟨n3, m3⟩ := and_e m2
  obtain ⟨n4, m4⟩ := and_e m3
  obtain ⟨n5, m5⟩ := and_e m4
  obtain ⟨n6, m6⟩ := and_e m5
  obtain ⟨n7, m7⟩ := and_e m6
  obtain ⟨n8, m8⟩ := and_e m7
  obtain ⟨n9, m9⟩ := and_e m8
  obtain ⟨n10, m10⟩ := and_e m9
  obtain ⟨n11, m11⟩ := and_e m10
  obtain ⟨n12, m12⟩ := and_e m11
  obtain ⟨n13, m13⟩ := and_e m12
  obtain ⟨n14, m14⟩ := and_e m13
  obtain ⟨n15, m15⟩ := and_e m14
  obtain ⟨n16, m16⟩ := and_e m15
  obtain ⟨n17, m17⟩ := and_e m16
  obtain ⟨n18, m18⟩ := and_e m17
  obtain ⟨n19, m19⟩ := and_e m18
  obtain ⟨n20, m20⟩ := and_e m19
  have n21 := m20
  obtain ⟨wT, eT⟩ := arr_v n1
  obtain ⟨cl, Ar⟩ := Arr.start eT n1
  have ST := Sta.start eT (Or.inr ⟨(wk hw 3 rfl), (wk hw 6 rfl)⟩)
  have hat0 : s.arrayAt? wT = some cl := Ar.fin (Vm.Alike.refl _)
  obtain ⟨hlen, h31⟩ := own_len n2 eT hat0
  have hsz : cl.slots.size = 128 := by
    have q := own_size hlen h31
    have a1 : (128 : Int32).toInt = 128 := by decide
    omega
  have ht : ∀ idx, _ := fun idx => (own_static idx).trans eT
  have HT := own_tab32 hsz (own_table
    (fun i hi h1 h2 => own_allLe n3 ht hat0 Ar.1 hsz hi ((by decide +kernel : ∀ j : Fin 128, j.val < 33 → ¬ ((33 : Int32) ≤ j.val.toInt32)) ⟨i, hi⟩ h2))
    (fun i hi h1 h2 => own_allIn n6 ht hat0 Ar.1 hsz hi ((by decide +kernel : ∀ j : Fin 128, 35 ≤ j.val → ¬ (j.val.toInt32 < (35 : Int32))) ⟨i, hi⟩ h1) ((by decide +kernel : ∀ j : Fin 128, j.val < 60 → ¬ ((60 : Int32) ≤ j.val.toInt32)) ⟨i, hi⟩ h2))
    (fun i hi h1 h2 => own_allIn n10 ht hat0 Ar.1 hsz hi ((by decide +kernel : ∀ j : Fin 128, 63 ≤ j.val → ¬ (j.val.toInt32 < (63 : Int32))) ⟨i, hi⟩ h1) ((by decide +kernel : ∀ j : Fin 128, j.val < 92 → ¬ ((92 : Int32) ≤ j.val.toInt32)) ⟨i, hi⟩ h2))
    (fun i hi h1 h2 => own_allIn n16 ht hat0 Ar.1 hsz hi ((by decide +kernel : ∀ j : Fin 128, 97 ≤ j.val → ¬ (j.val.toInt32 < (97 : Int32))) ⟨i, hi⟩ h1) ((by decide +kernel : ∀ j : Fin 128, j.val < 123 → ¬ ((123 : Int32) ≤ j.val.toInt32)) ⟨i, hi⟩ h2))
    (own_elemI n4 eT (j := 33) rfl Ar.1)
    (own_elemI n5 eT (j := 34) rfl Ar.1)
    (own_elemI n7 eT (j := 60) rfl Ar.1)
    (own_elemI n8 eT (j := 61) rfl Ar.1)
    (own_elemI n9 eT (j := 62) rfl Ar.1)
    (own_elemI n11 eT (j := 92) rfl Ar.1)
    (own_elemI n12 eT (j := 93) rfl Ar.1)
    (own_elemI n13 eT (j := 94) rfl Ar.1)
    (own_elemI n14 eT (j := 95) rfl Ar.1)
    (own_elemI n15 eT (j := 96) rfl Ar.1)
    (own_elemI n17 eT (j := 123) rfl Ar.1)
    (own_elemI n18 eT (j := 124) rfl Ar.1)
    (own_elemI n19 eT (j := 125) rfl Ar.1)
    (own_elemI n20 eT (j := 126) rfl Ar.1)
    (own_elemI n21 eT (j := 127) rfl Ar.1))
  have key := rm0 l s _ hw tables_1 i0 i1 wT cl s.heap s.heap.size (Nat.le_refl _) ST Ar hlen HT p e ha hc hk s m _ below hf ((Spec.applies_iff_loose hf).mp happ).1 ⟨rfl, State.Warmed39.refl s, rfl⟩ trivial
  obtain ⟨n, o, h1, h2, h3, _, L, rfl, ⟨rfl, N⟩, hq⟩ := key
  refine ⟨n, _, h1, h2, h3, hpost _ _ _ _ _ _ ⟨Cond.after_iff.mpr rfl, Cond.after_iff.mpr (eq_i res_at (Term.int_eval (1)) rfl), trivial⟩ ⟨hq.1, hq.2.1, (hq.2.2.sift fun y hy => Or.inr (N y hy)).mono (by decide) (by decide)⟩⟩
theorem main_1_1 : Claimed_1_1 := comes_1 fun _ _ _ _ _ _ h hF => ⟨h.1, hF⟩
theorem main_1_2 : Claimed_1_2 := comes_1 fun _ _ _ _ _ _ h hF => ⟨h.2.1, hF⟩
end Jvm.Pilot.@@N@@
namespace Jvm.Pilot.@@N@@
open Jvm Jvm.ClassFile Sem Op Lib Jvm.Free Jvm.Stand Jvm.Pilot.@@N@@.Jvm.D
/-! MADE BY PROGRAM (witnessworld.py) out of the Statement's table words and the real class files: 11 classes; the members and pool entries that the words name. The judged class is class 1, her method 2. -/
namespace start1
open Jvm.ClassFile
def u (s : String) : CpInfo := .utf8 (stringToUtf16 s)
/-- a pool by its gaps: so many unusable entries, then the entry; so many at the end -/
def gap : Nat → List CpInfo → List CpInfo
  | 0, r => r
  | n + 1, r => .unusable :: gap n r
def poolList (es : List (Nat × CpInfo)) (last : Nat) : List CpInfo := es.foldr (fun e r => gap e.1 (e.2 :: r)) (gap last [])
def pool (es : List (Nat × CpInfo)) (last : Nat) : Array CpInfo := ⟨poolList es last⟩
def fileOf (pool : Array CpInfo) (this : Nat) (attrs : Array Attribute := #[]) (ms : Array MethodInfo := #[]) (fl : Nat := 33) (sup : Nat := 0) (ifs : Array Nat := #[]) (fds : Array FieldInfo := #[]) : ClassFile where
  minorVersion := 0
  majorVersion := 65
  constantPool := pool
  accessFlags := fl
  thisClass := this
  superClass := sup
  interfaces := ifs
  fields := fds
  methods := ms
  attributes := attrs
def plain (name : String) (sup : Option ClassId) : Class where
  name := name
  kind := .ordinary
  loader := none
  accessFlags := 33
  super := sup
  interfaces := #[]
  cf := none
  fields := #[]
  methods := #[]
  instanceTypes := #[]
  staticTypes := #[]
  resolved := #[]
  callSites := []
  init := .initialized
  statics := none
  mirror := none

def pool0 : Array CpInfo := pool [(5, u "<init>"), (0, u "()V"), (1, .class_ 10), (1, u "java/lang/Object")] 113

def k0m0 : Method := { name := "<init>", desc := "()V", sig := { parameters := [], returnType := none }, accessFlags := 1, code := none }
/-- java/lang/Object -/
def k0 : Class := { plain "java/lang/Object" none with
  accessFlags := 33
  interfaces := #[]
  cf := some (fileOf pool0 8 #[] #[{ accessFlags := 1, nameIndex := 5, descriptorIndex := 6, attributes := #[] }] 33 0 #[] #[])
  fields := #[]
  methods := #[k0m0]
  instanceTypes := #[]
  staticTypes := #[]
  resolved := Array.replicate 124 none
  statics := none }

def pool1 : Array CpInfo := pool [(2, .class_ 4), (1, u "java/lang/Object"), (0, u "<init>"), (0, u "()V"), (0, .integer 65535), (0, .integer 2147483647), (0, .methodref 10 11), (0, .class_ 12), (0, .nameAndType 13 14), (0, u "com/example/triplewake/triplewake/rdf/Iris"), (0, u "allows"), (0, u "(I)Z"), (0, .methodref 16 17), (0, .class_ 18), (0, .nameAndType 19 14), (0, u "com/example/triplewake/triplewake/rdf/IrisAllowsPinLaw"), (0, u "expected"), (3, u "law"), (0, u "(II)Z")] 2

def k1m0 : Method := { name := "<init>", desc := "()V", sig := { parameters := [], returnType := none }, accessFlags := 2, code := none }
def k1c1 : Code := { maxStack := 2, maxLocals := 1, code := method_2_code, exceptionTable := #[], attributes := #[] }
def k1m1 : Method := { name := "expected", desc := "(I)Z", sig := { parameters := [.int], returnType := some .boolean }, accessFlags := 10, code := some k1c1 }
def k1c2 : Code := { maxStack := 2, maxLocals := 4, code := code, exceptionTable := #[], attributes := #[] }
def k1m2 : Method := { name := "law", desc := "(II)Z", sig := { parameters := [.int, .int], returnType := some .boolean }, accessFlags := 9, code := some k1c2 }
/-- com/example/triplewake/triplewake/rdf/IrisAllowsPinLaw -/
def k1 : Class := { plain "com/example/triplewake/triplewake/rdf/IrisAllowsPinLaw" (some 0) with
  accessFlags := 49
  interfaces := #[]
  cf := some (fileOf pool1 16 #[] #[{ accessFlags := 2, nameIndex := 5, descriptorIndex := 6, attributes := #[] }, { accessFlags := 10, nameIndex := 19, descriptorIndex := 14, attributes := #[] }, { accessFlags := 9, nameIndex := 23, descriptorIndex := 24, attributes := #[] }] 49 2 #[] #[])
  fields := #[]
  methods := #[k1m0, k1m1, k1m2]
  instanceTypes := #[]
  staticTypes := #[]
  resolved := Array.replicate 27 none
  statics := none }

def pool2 : Array CpInfo := pool [(2, .class_ 4), (1, u "java/lang/Object"), (0, u "<init>"), (0, u "()V"), (0, .fieldref 8 9), (0, .class_ 10), (0, .nameAndType 11 12), (0, u "com/example/triplewake/triplewake/rdf/Iris"), (0, u "ASCII_IN_IRI"), (0, u "[Z"), (12, u "allows"), (0, u "(I)Z"), (37, u "NOT_IN_IRI"), (0, u "Ljava/lang/String;")] 33

def k2m0 : Method := { name := "<init>", desc := "()V", sig := { parameters := [], returnType := none }, accessFlags := 2, code := none }
def k2c1 : Code := { maxStack := 2, maxLocals := 1, code := prog_6_method_2_code, exceptionTable := #[], attributes := #[] }
def k2m1 : Method := { name := "allows", desc := "(I)Z", sig := { parameters := [.int], returnType := some .boolean }, accessFlags := 9, code := some k2c1 }
/-- com/example/triplewake/triplewake/rdf/Iris -/
def k2 : Class := { plain "com/example/triplewake/triplewake/rdf/Iris" (some 0) with
  accessFlags := 49
  interfaces := #[]
  cf := some (fileOf pool2 8 #[] #[{ accessFlags := 2, nameIndex := 5, descriptorIndex := 6, attributes := #[] }, { accessFlags := 9, nameIndex := 25, descriptorIndex := 26, attributes := #[] }] 49 2 #[] #[{ accessFlags := 26, nameIndex := 64, descriptorIndex := 65, attributes := #[] }, { accessFlags := 26, nameIndex := 11, descriptorIndex := 12, attributes := #[] }])
  fields := #[{ name := "NOT_IN_IRI", type := (.object "java/lang/String"), accessFlags := 26, slot := 0, constantValue := 0 }, { name := "ASCII_IN_IRI", type := (.array .boolean), accessFlags := 26, slot := 1, constantValue := 0 }]
  methods := #[k2m0, k2m1]
  instanceTypes := #[]
  staticTypes := #[(.object "java/lang/String"), (.array .boolean)]
  resolved := Array.replicate 99 none
  statics := some 0 }

def pool3 : Array CpInfo := pool [(1, u "java/lang/Cloneable"), (0, .class_ 1), (0, u "java/lang/Object"), (0, .class_ 3)] 3

/-- java/lang/Cloneable -/
def k3 : Class := { plain "java/lang/Cloneable" (some 0) with
  accessFlags := 1537
  interfaces := #[]
  cf := some (fileOf pool3 2 #[] #[] 1537 4 #[] #[])
  fields := #[]
  methods := #[]
  instanceTypes := #[]
  staticTypes := #[]
  resolved := Array.replicate 8 none
  statics := none }

def pool4 : Array CpInfo := pool [(1, u "java/io/Serializable"), (0, .class_ 1), (0, u "java/lang/Object"), (0, .class_ 3)] 3

/-- java/io/Serializable -/
def k4 : Class := { plain "java/io/Serializable" (some 0) with
  accessFlags := 1537
  interfaces := #[]
  cf := some (fileOf pool4 2 #[] #[] 1537 4 #[] #[])
  fields := #[]
  methods := #[]
  instanceTypes := #[]
  staticTypes := #[]
  resolved := Array.replicate 8 none
  statics := none }

/-- the primitive boolean -/
def k5 : Class := { plain "boolean" none with kind := .primitive 'Z', accessFlags := 0x411 }
/-- [Z -/
def k6 : Class := { plain "[Z" (some 0) with kind := .array 5 .boolean, interfaces := #[3, 4], accessFlags := 1041 }

/-- the primitive byte -/
def k7 : Class := { plain "byte" none with kind := .primitive 'B', accessFlags := 0x411 }
/-- [B -/
def k8 : Class := { plain "[B" (some 0) with kind := .array 7 .byte, interfaces := #[3, 4], accessFlags := 1041 }

/-- the primitive int -/
def k9 : Class := { plain "int" none with kind := .primitive 'I', accessFlags := 0x411 }
/-- [I -/
def k10 : Class := { plain "[I" (some 0) with kind := .array 9 .int, interfaces := #[3, 4], accessFlags := 1041 }

def heap : Heap := #[{ cls := 2, slots := #[.null, .ref 1], vm := .statics 2 },
  { cls := 6, slots := #[.int 0, .int 0, .int 0, .int 0, .int 0, .int 0, .int 0, .int 0, .int 0, .int 0, .int 0, .int 0, .int 0, .int 0, .int 0, .int 0, .int 0, .int 0, .int 0, .int 0, .int 0, .int 0, .int 0, .int 0, .int 0, .int 0, .int 0, .int 0, .int 0, .int 0, .int 0, .int 0, .int 0, .int 1, .int 0, .int 1, .int 1, .int 1, .int 1, .int 1, .int 1, .int 1, .int 1, .int 1, .int 1, .int 1, .int 1, .int 1, .int 1, .int 1, .int 1, .int 1, .int 1, .int 1, .int 1, .int 1, .int 1, .int 1, .int 1, .int 1, .int 0, .int 1, .int 0, .int 1, .int 1, .int 1, .int 1, .int 1, .int 1, .int 1, .int 1, .int 1, .int 1, .int 1, .int 1, .int 1, .int 1, .int 1, .int 1, .int 1, .int 1, .int 1, .int 1, .int 1, .int 1, .int 1, .int 1, .int 1, .int 1, .int 1, .int 1, .int 1, .int 0, .int 1, .int 0, .int 1, .int 0, .int 1, .int 1, .int 1, .int 1, .int 1, .int 1, .int 1, .int 1, .int 1, .int 1, .int 1, .int 1, .int 1, .int 1, .int 1, .int 1, .int 1, .int 1, .int 1, .int 1, .int 1, .int 1, .int 1, .int 1, .int 1, .int 1, .int 0, .int 0, .int 0, .int 1, .int 1], vm := .none }]
def classes : Array Class := #[k0, k1, k2, k3, k4, k5, k6, k7, k8, k9, k10]
def interned : List (Array UInt16 × Addr) := []
def slotsUsed : Nat := 130
def theMethod : MethodId := ⟨1, 2⟩
def args0 : Array Value := #[.int 5, .int 7]
def aboutOver (below : List Frame) : State where
  vm := { classes := classes, interned := interned.toArray }
  heap := heap
  slotsUsed := slotsUsed
  threads := #[{ frames := .invoking theMethod args0 :: below }]
def below0 : List Frame := [.native { method := ⟨0, 0⟩, args := #[] }]
def about1 : State := aboutOver below0
def p0 : Program := .bare "" "" ""
def e0 : Env := launch0.env 0 0 0
theorem w_frames : about1.frames = Frame.invoking theMethod args0 :: below0 := rfl
set_option maxRecDepth 65536 in
theorem w_args : argsFit about1.vm theMethod args0 = true := by decide +kernel
set_option maxRecDepth 65536 in
theorem w_heap : heapFits about1 = true := by decide +kernel
set_option maxRecDepth 65536 in
theorem w_runnable : about1.curStatus? = some .runnable := by decide +kernel
set_option maxRecDepth 65536 in
theorem w_alone : about1.alone = true := by decide +kernel
set_option maxRecDepth 65536 in
theorem w_named : about1.methodNamed? x = some theMethod := by decide +kernel
set_option maxRecDepth 65536 in
theorem w_hears : about1.hears theMethod below0 = true := by decide +kernel
set_option maxRecDepth 65536 in
theorem w_ripe : about1.ripe theMethod args0 below0 = true := by decide +kernel
theorem w_running : about1.status = .running := rfl
set_option maxRecDepth 65536 in
theorem w_room : about1.hasRoom e0.platform room_1 = true :=
  launch0.hasRoom_least _ room_1 (by decide +kernel) (by decide +kernel) (by decide +kernel) (by decide +kernel) (by decide +kernel) (by decide +kernel)
theorem allAtoms_all (ts : List Jvm.Cond) (a : Array Jvm.Value) (st : Jvm.State) : (allAtoms ts).before a st = ts.all (fun c => c.before a st) := by
  induction ts with
  | nil => rfl
  | cons c t ih =>
    show (Jvm.Cond.and c (allAtoms t)).before a st = _
    rw [Jvm.Cond.before_and, ih, List.all_cons]
def words1 : List Jvm.Cond := Jvm.Cond.code x code maxLocals ret :: tables_1
/-- a 'code' word, met by the world's own term for the bytes: nothing is compared byte by byte -/
theorem code_word {y : MethodName} {bytes : ByteArray} {mx : Nat} {rt : Option FieldType} {a : Array Value} {s : State} {m : MethodId} {meth : Method} {c : Code} (h1 : s.methodNamed? y = some m) (h2 : s.vm.method? m = some meth) (h3 : meth.code = some c) (h4 : c.code = bytes)
    (h5 : (c.maxLocals == mx && c.exceptionTable.isEmpty && decide (c.maxStack ≤ mostOperands) && decide (meth.sig.returnType = rt) && !meth.locks && decide (parseMethodDescriptor y.desc = some meth.sig)) = true) : (Jvm.Cond.code y bytes mx rt).before a s = true := by
  simp only [Bool.and_eq_true, beq_iff_eq, Bool.not_eq_true', decide_eq_true_eq] at h5
  obtain ⟨⟨⟨⟨⟨g1, g2⟩, g3⟩, g4⟩, g5⟩, g6⟩ := h5
  simp [Cond.before, Cond.holds, Cond.value, h1, h2, h3, h4, g1, g2, g3, g4, g5, g6]
def isCode : Jvm.Cond → Bool
  | .code _ _ _ _ => true
  | _ => false
theorem all_split {L : List Jvm.Cond} {P : Jvm.Cond → Bool} (h1 : L.all (fun c => isCode c || P c) = true) (h2 : ∀ c ∈ L.filter isCode, P c = true) : L.all P = true := by
  refine List.all_eq_true.mpr fun c hc => ?_
  have h := List.all_eq_true.mp h1 c hc
  rcases Bool.eq_false_or_eq_true (isCode c) with hi | hi
  · exact h2 c (List.mem_filter.mpr ⟨hc, hi⟩)
  · simpa [hi] using h
set_option maxRecDepth 65536 in
theorem w_c0 : (Jvm.Cond.code x code maxLocals ret).before args0 about1 = true := code_word (m := ⟨1, 2⟩) (meth := k1m2) (c := k1c2) (by decide +kernel) rfl rfl rfl (by decide +kernel)
set_option maxRecDepth 65536 in
theorem w_c1 : (Jvm.Cond.code ({ cls := "com/example/triplewake/triplewake/rdf/Iris", name := "allows", desc := "(I)Z" } : Jvm.MethodName) prog_6_method_2_code (1 : Nat) (Option.some Jvm.ClassFile.FieldType.boolean)).before args0 about1 = true := code_word (m := ⟨2, 1⟩) (meth := k2m1) (c := k2c1) (by decide +kernel) rfl rfl rfl (by decide +kernel)
set_option maxRecDepth 65536 in
theorem w_c2 : (Jvm.Cond.code ({ cls := "com/example/triplewake/triplewake/rdf/IrisAllowsPinLaw", name := "expected", desc := "(I)Z" } : Jvm.MethodName) method_2_code (1 : Nat) (Option.some Jvm.ClassFile.FieldType.boolean)).before args0 about1 = true := code_word (m := ⟨1, 1⟩) (meth := k1m1) (c := k1c1) (by decide +kernel) rfl rfl rfl (by decide +kernel)
def codes1 : List Jvm.Cond := [Jvm.Cond.code x code maxLocals ret, Jvm.Cond.code ({ cls := "com/example/triplewake/triplewake/rdf/Iris", name := "allows", desc := "(I)Z" } : Jvm.MethodName) prog_6_method_2_code (1 : Nat) (Option.some Jvm.ClassFile.FieldType.boolean), Jvm.Cond.code ({ cls := "com/example/triplewake/triplewake/rdf/IrisAllowsPinLaw", name := "expected", desc := "(I)Z" } : Jvm.MethodName) method_2_code (1 : Nat) (Option.some Jvm.ClassFile.FieldType.boolean)]
set_option maxRecDepth 65536 in
theorem codes_eq : words1.filter isCode = codes1 := rfl
theorem w_codes : ∀ c ∈ words1.filter isCode, c.before args0 about1 = true := by
  rw [codes_eq]
  intro c hc
  simp only [codes1, List.mem_cons, List.not_mem_nil, or_false] at hc
  rcases hc with rfl | rfl | rfl
  · exact w_c0
  · exact w_c1
  · exact w_c2
set_option maxRecDepth 65536 in
theorem w_t1 : words1.all (fun c => isCode c || c.before args0 about1) = true := by decide +kernel
theorem w_tables : (allAtoms (Jvm.Cond.code x code maxLocals ret :: tables_1)).before args0 about1 = true := by
  rw [allAtoms_all]
  show words1.all (fun c => c.before args0 about1) = true
  refine all_split ?_ w_codes
  rw [w_t1]
set_option maxRecDepth 65536 in
theorem w_case : (Jvm.Cond.and given_1 narrow_1).before args0 about1 = true := by decide +kernel
theorem w_applies : (headSpec (Jvm.Cond.code x code maxLocals ret :: tables_1) room_1).applies x e0.platform about1 = true :=
  (Spec.applies_iff w_frames).mpr ⟨w_running, w_runnable, w_alone, w_named, w_hears, w_ripe, w_room, w_tables⟩
theorem atStart : AtStart classFile x code maxLocals ret World_1 tables_1 room_1 Calls_1 rest_1 Pre_1 launch0 p0 e0 about1 theMethod args0 below0 :=
  ⟨lists_1, trivial, launch0.admits_env _ _ _, launch0.least_env, fairChoices_fair.cas, fairChoices_fair.clock, w_frames, w_args, w_heap, w_applies, trivial, trivial, w_case⟩
end start1
theorem witness_1 : WitnessClaimed_1 := ⟨start1.p0, start1.e0, start1.about1, start1.theMethod, start1.args0, start1.below0, start1.atStart⟩
end Jvm.Pilot.@@N@@
