import JvmDerived
import JvmDerived.Pilot.@@N@@Statement
import JvmDerived.Pilot.@@N@@Code
set_option linter.unusedVariables false
set_option linter.unusedSimpArgs false
@@BLOCK:NumsL.lean.txt@@
namespace Jvm.RoadKit
open Sem ClassFile Op Lib Jvm.Stand Jvm.Free Jvm.LawKit
section New
variable {p : Program} {l : Launch} {e : Env} {R : Room} {s : State} {m : MethodId} {args : Array Value} {below : List Frame} {meth : Method} {c : Code} {T : State} {locs : List Loc} {cells slots : Nat}
theorem retI (X : Stand p l e R s m args below meth c T locs cells slots) (hx : p.tables.exec = Jvm.exec) {pc : Nat} {Ls : Array Slot} {z : Int32} {rest : List Value} (hret : meth.sig.returnType = some .int) (hd : decode c.code pc = .ok (.ireturn, 1)) {fs : List Frame}
    (hl : ∀ (f : JFrame) (acts : List Action), f.method = m → f.locked = none → f.entered = [] → (doReturn e (T.setTop f) acts (some (.int z))).1 = T.setFrames fs) : Steps p.tables e below (T.setTop (mkF m pc Ls (.int z :: rest))) (T.setFrames fs) := by
  have hm' : T.vm.method? m = some meth := X.method'
  have hn : narrow .int (.int z) = .int z := rfl
  show Steps p.tables e below (T.setTop { method := m, pc := pc, locals := Ls, stack := _ :: rest, locked := none }) _
  jvm_step X.here [X.here.top, hx, hd, hm', hret, hn]
  first | (intro acts; rw [hl _ acts rfl rfl rfl]) | rw [hl _ _ rfl rfl rfl]
  exact Steps.refl _
end New
end Jvm.RoadKit
namespace Jvm.Pilot.@@N@@
open Jvm Jvm.ClassFile Sem Op Lib Jvm.Free Jvm.Stand Jvm.LawKit Jvm.RoadKit Bundle Jvm.Pilot.@@N@@.Jvm.D
theorem wk {a0 : Array Value} {Z : State} (hw : ∀ d ∈ tables_1, d.before a0 Z = true) {d : Jvm.Cond} (i : Nat) (h : tables_1[i]? = some d) : d.before a0 Z = true := hw _ (List.mem_of_getElem? h)
abbrev Go (tb : Tables) (e : Env) (below : List Frame) (T : State) (g : JFrame) (T0 : State) (g0 : JFrame) : Prop := ∀ t, Steps tb e below (T.setTop g) t → Steps tb e below (T0.setTop g0) t
theorem own_fldI {args : Array Value} {s : State} {t : Term} {C n d : String} {a : Addr} {k : Int32} (h : (Jvm.Cond.eq (Term.field t C n d) (Term.int k)).value args s none s [] = some true) (ht : t.eval args s none [] s = some (.ref a)) : s.fieldOf? a C n d = some (.int k) := by
  obtain ⟨x, y, e1, e2, k1, k2⟩ := cmp_v (Or.inl h)
  have e3 : (Term.int k).eval args s none [] s = some (.int k) := rfl
  obtain rfl : Value.int k = y := Option.some.inj (e3.symm.trans e2)
  obtain ⟨z, rfl⟩ := k2
  rw [fld_at ht] at e1
  have q : (Jvm.Cond.eq (Term.field t C n d) (Term.int k)).value args s none s [] = some (decide (z = k)) := by simp [Jvm.Cond.value, fld_at ht, e1, e3]
  rw [gotT q h] at e1
  exact e1
theorem own_fldR {args : Array Value} {s : State} {t u : Term} {C n d : String} {a b : Addr} (h : (Jvm.Cond.eq (Term.field t C n d) u).value args s none s [] = some true) (ht : t.eval args s none [] s = some (.ref a)) (hu : u.eval args s none [] s = some (.ref b)) : s.fieldOf? a C n d = some (.ref b) := by
  obtain ⟨x, y, e1, e2, k1, k2⟩ := cmp_v (Or.inl h)
  obtain rfl : Value.ref b = y := Option.some.inj (hu.symm.trans e2)
  have q := eq_R e1 hu k2.2 rfl
  rw [gotT q h, fld_at ht] at e1
  exact e1
theorem own_fldN {args : Array Value} {s : State} {t : Term} {C n d : String} {a : Addr} (h : (Jvm.Cond.eq (Term.field t C n d) Term.null).value args s none s [] = some true) (ht : t.eval args s none [] s = some (.ref a)) : s.fieldOf? a C n d = some .null := by
  have e := null_v h
  rw [fld_at ht] at e
  exact e
theorem own_or {args : Array Value} {first s : State} {o : Option Outcome} {idx : List Nat} {c d : Jvm.Cond} (h : (Jvm.Cond.or c d).value args first o s idx = some true) (hc : c.value args first o s idx = some false) : d.value args first o s idx = some true := by
  simpa [Jvm.Cond.value, hc] using h
theorem own_elemI {args : Array Value} {s : State} {t ix : Term} {idx : List Nat} {a : Addr} {cl : Cell} {j k : Int32} (h : (Jvm.Cond.eq (Term.elem t ix) (Term.int k)).value args s none s idx = some true) (ht : t.eval args s none idx s = some (.ref a)) (hj : ix.eval args s none idx s = some (.int j)) (hc : s.heap[a]? = some cl) : cl.slots[j.toNatClampNeg]? = some (.int k) := by
  obtain ⟨x, y, e1, e2, k1, k2⟩ := cmp_v (Or.inl h)
  have e3 : (Term.int k).eval args s none idx s = some (.int k) := rfl
  obtain rfl : Value.int k = y := Option.some.inj (e3.symm.trans e2)
  obtain ⟨z, rfl⟩ := k2
  have q : (Jvm.Cond.eq (Term.elem t ix) (Term.int k)).value args s none s idx = some (decide (z = k)) := by simp [Jvm.Cond.value, e1, e3]
  rw [gotT q h] at e1
  exact (elem_in e1 ht hj hc).2
theorem own_elemR {args : Array Value} {s : State} {t ix u : Term} {idx : List Nat} {a b : Addr} {cl : Cell} {j : Int32} (h : (Jvm.Cond.eq (Term.elem t ix) u).value args s none s idx = some true) (ht : t.eval args s none idx s = some (.ref a)) (hj : ix.eval args s none idx s = some (.int j)) (hu : u.eval args s none idx s = some (.ref b)) (hc : s.heap[a]? = some cl) : cl.slots[j.toNatClampNeg]? = some (.ref b) := by
  obtain ⟨x, y, e1, e2, k1, k2⟩ := cmp_v (Or.inl h)
  obtain rfl : Value.ref b = y := Option.some.inj (hu.symm.trans e2)
  have q := eq_R e1 hu k2.2 rfl
  rw [gotT q h] at e1
  exact (elem_in e1 ht hj hc).2
theorem own_len {args : Array Value} {s : State} {t : Term} {a : Addr} {cl : Cell} {k : Int32} (h : (Jvm.Cond.eq (Term.length t) (Term.int k)).value args s none s [] = some true) (ht : t.eval args s none [] s = some (.ref a)) (ha : s.arrayAt? a = some cl) : cl.slots.size.toInt32 = k ∧ cl.slots.size < 2 ^ 31 := by
  obtain ⟨x, y, e1, e2, k1, k2⟩ := cmp_v (Or.inl h)
  have e3 : (Term.int k).eval args s none [] s = some (.int k) := rfl
  obtain rfl : Value.int k = y := Option.some.inj (e3.symm.trans e2)
  by_cases hl : cl.slots.size < 2 ^ 31
  · have e4 := len_f (args := args) (first := s) (o := none) (idx := []) ht ha hl
    obtain rfl : x = .int cl.slots.size.toInt32 := Option.some.inj (e1.symm.trans e4)
    have q : (Jvm.Cond.eq (Term.length t) (Term.int k)).value args s none s [] = some (decide (cl.slots.size.toInt32 = k)) := by simp [Jvm.Cond.value, e1, e3]
    exact ⟨gotT q h, hl⟩
  · simp [Term.eval, ht, ha, hl] at e1
theorem own_size {n : Nat} {k : Int32} (h : n.toInt32 = k) (hn : n < 2 ^ 31) : (n : Int) = k.toInt := by
  rw [← h, len_toInt hn]
theorem own_static {args : Array Value} {s : State} {C n d : String} (idx : List Nat) : (Term.static C n d).eval args s none idx s = (Term.static C n d).eval args s none [] s := by simp only [Term.eval]
def LC (Z : State) (h : Heap) (wC : Addr) (cl : Cell) : Prop := Sta Z h "java/lang/Long$LongCache" "cache" "[Ljava/lang/Long;" (.ref wC) ∧ Arr Z h wC cl (.object "java/lang/Long") ∧ ∀ q : Int64, ¬ (lcmpW q (-128 : Int64) < (0 : Int32)) → ¬ ((0 : Int32) < lcmpW q (127 : Int64)) → ∃ b : Addr, ¬ ((q.toInt32 + (128 : Int32)) < 0 ∨ cl.slots.size ≤ (q.toInt32 + (128 : Int32)).toNatClampNeg) ∧ cl.slots[(q.toInt32 + (128 : Int32)).toNatClampNeg]? = some (.ref b) ∧ Exa Z h b "java/lang/Long" ∧ Fld Z h b "java/lang/Long" "value" "J" (.long q)
theorem own_LCext {Z : State} {h h' : Heap} {wC : Addr} {cl : Cell} (E : Ext h h') (F : LC Z h wC cl) : LC Z h' wC cl := ⟨F.1.ext E, F.2.1.ext E, fun q h1 h2 => by obtain ⟨b, a1, a2, a3, a4⟩ := F.2.2 q h1 h2; exact ⟨b, a1, a2, a3.ext E, a4.ext E⟩⟩
theorem own_ext0 {h0 h : Heap} (K : Keep h0 h []) : Ext h0 h := ⟨K.1, fun a c q => K.2.1 a c q nin0⟩
theorem own_LC {args : Array Value} {s : State} (c1 : (Jvm.Cond.initializedFor "java/lang/Long$LongCache" "cache" "[Ljava/lang/Long;").before args s = true) (c2 : (Jvm.Cond.arrayOf (Term.static "java/lang/Long$LongCache" "cache" "[Ljava/lang/Long;") (.object "java/lang/Long")).before args s = true)
    (c4 : (Jvm.Cond.eq (Term.length (Term.static "java/lang/Long$LongCache" "cache" "[Ljava/lang/Long;")) (Term.int 256)).before args s = true)
    (c5 : (Jvm.Cond.all (Term.static "java/lang/Long$LongCache" "cache" "[Ljava/lang/Long;") (Jvm.Cond.and (Jvm.Cond.exactly (Term.elem (Term.static "java/lang/Long$LongCache" "cache" "[Ljava/lang/Long;") (Term.index 0)) "java/lang/Long") (Jvm.Cond.eq (Term.field (Term.elem (Term.static "java/lang/Long$LongCache" "cache" "[Ljava/lang/Long;") (Term.index 0)) "java/lang/Long" "value" "J") (Term.op1 Jvm.Unary.i2l (Term.sub (Term.index 0) (Term.int 128)))))).before args s = true) : ∃ wC cl, LC s s.heap wC cl := by
  have v2 := Cond.before_iff.mp c2
  obtain ⟨wC, eC⟩ := arr_v v2
  obtain ⟨cl, Ar⟩ := Arr.start eC v2
  have ha : s.arrayAt? wC = some cl := Ar.fin (Vm.Alike.refl _)
  obtain ⟨hlen, h31⟩ := own_len (Cond.before_iff.mp c4) eC ha
  have hsz : cl.slots.size = 256 := by
    have q := own_size hlen h31
    have a1 : (256 : Int32).toInt = 256 := by decide
    omega
  refine ⟨wC, cl, Sta.start eC (Or.inl c1), Ar, fun q h1 h2 => ?_⟩
  have q1 : ¬ q < (-128 : Int64) := fun z => h1 ((lw_lt _ _).mpr z)
  have q2 : ¬ (127 : Int64) < q := fun z => h2 ((lw_gt _ _).mpr z)
  rw [Int64.lt_iff_toInt_lt] at q1 q2
  have a1 : (-128 : Int64).toInt = -128 := by decide
  have a2 : (127 : Int64).toInt = 127 := by decide
  have a3 : (128 : Int32).toInt = 128 := by decide
  have a4 : (0 : Int32).toInt = 0 := by decide
  rw [a1] at q1
  rw [a2] at q2
  have e1 : q.toInt32.toInt = q.toInt := Jvm.Kit.i32_of_i64 (by omega) (by omega)
  have e2 : (q.toInt32 + (128 : Int32)).toInt = q.toInt + 128 := by rw [Jvm.Kit.i32_add (by omega) (by omega), e1, a3]
  have hj0 : ¬ (q.toInt32 + (128 : Int32)) < 0 := by rw [Int32.lt_iff_toInt_lt, e2, a4]; omega
  have hj1 : (q.toInt32 + (128 : Int32)).toNatClampNeg < cl.slots.size := by
    show (q.toInt32 + (128 : Int32)).toInt.toNat < _
    omega
  have A := Jvm.Cond.all_elim eC ha (Cond.before_iff.mp c5) _ hj1
  obtain ⟨x1, x2⟩ := and_e A
  obtain ⟨b, eb⟩ := exa_v x1
  have el := elem_in eb ((own_static _).trans eC) (idx_at hj0) Ar.1
  refine ⟨b, el.1, el.2, exa_at eb x1, Fld.start ?_⟩
  have e6 : q.toInt32 + (128 : Int32) - (128 : Int32) = q.toInt32 := by
    rw [← Int32.toInt_inj, Jvm.Kit.i32_sub (by omega) (by omega), e2, a3, e1]
    omega
  have e7 : q.toInt32.toInt64 = q := by rw [← Int64.toInt_inj, Jvm.Kit.i64_of_i32, e1]
  have e8 : (Term.op1 Jvm.Unary.i2l (Term.sub (Term.index 0) (Term.int 128))).eval args s none [(q.toInt32 + (128 : Int32)).toNatClampNeg] s = some (.long q) := by
    have es : (Term.sub (Term.index 0) (Term.int 128)).eval args s none [(q.toInt32 + (128 : Int32)).toNatClampNeg] s = some (.int (q.toInt32 + (128 : Int32) - 128)) := by
      have ei := idx_at (args := args) (s := s) (first := s) (o := none) hj0
      simp only [Term.eval] at ei ⊢
      rw [ei]
      rfl
    rw [op1_f es, e6]
    show some (Value.long q.toInt32.toInt64) = _
    rw [e7]
  obtain ⟨u, y, g1, g2, k1, k2⟩ := cmp_v (Or.inl x2)
  obtain rfl : Value.long q = y := Option.some.inj (e8.symm.trans g2)
  obtain ⟨z, rfl⟩ := k2
  have hq := eq_L g1 e8
  rw [gotT hq x2, fld_at eb] at g1
  exact g1
def QP (r : Value) (h0 : Heap) (n0 : Nat) (v : Option Value) (h : Heap) (L : List Loc) : Prop := v = some r ∧ Fr n0 L ∧ h = h0
def QL (r : Value) (h0 : Heap) (n0 : Nat) (v : Option Value) (h : Heap) (L : List Loc) : Prop := v = some r ∧ Fr n0 L
def QV (h0 : Heap) (n0 : Nat) (v : Option Value) (h : Heap) (L : List Loc) : Prop := v = none ∧ Fr n0 L ∧ h = h0
def QLI (Z : State) (a1 : Addr) (q2 : Int64) (h0 : Heap) (n0 : Nat) (v : Option Value) (h : Heap) (L : List Loc) : Prop := v = none ∧ Fr n0 L ∧ Keep h0 h [a1] ∧ Exa Z h a1 "java/lang/Long" ∧ Fld Z h a1 "java/lang/Long" "value" "J" (.long q2)
def QLV (Z : State) (q1 : Int64) (h0 : Heap) (n0 : Nat) (v : Option Value) (h : Heap) (L : List Loc) : Prop := ∃ b : Addr, v = some (.ref b) ∧ Fr n0 L ∧ Keep h0 h [] ∧ Exa Z h b "java/lang/Long" ∧ Fld Z h b "java/lang/Long" "value" "J" (.long q1)
def QPI (Z : State) (a1 : Addr) (q2 : Int64) (p3 : Int32) (h0 : Heap) (n0 : Nat) (v : Option Value) (h : Heap) (L : List Loc) : Prop := v = none ∧ Fr n0 L ∧ Keep h0 h [a1] ∧ Fld Z h a1 "com/example/horn_to_horn/horntohorn/language/Position" "line" "J" (.long q2) ∧ Fld Z h a1 "com/example/horn_to_horn/horntohorn/language/Position" "column" "I" (.int p3)
def eqv (a b : Int64) (c d : Int32) : Int32 := if lcmpW a b = (0 : Int32) then (if c = d then 1 else 0) else 0
theorem own_sym (a b : Int64) : lcmpW a b = (0 : Int32) ↔ lcmpW b a = (0 : Int32) := by rw [lw_eq, lw_eq]; exact ⟨Eq.symm, Eq.symm⟩
theorem own_eqs (a b : Int64) (c d : Int32) : eqv b a d c = (if (lcmpW a b) = (0 : Int32) then (if c = d then (1 : Int32) else (0 : Int32)) else (0 : Int32)) := by
  simp only [eqv]
  by_cases h1 : lcmpW a b = (0 : Int32)
  · rw [if_pos h1, if_pos ((own_sym a b).mp h1)]
    by_cases h2 : c = d
    · rw [if_pos h2, if_pos h2.symm]
    · rw [if_neg h2, if_neg (fun q => h2 q.symm)]
  · rw [if_neg h1, if_neg (fun q => h1 ((own_sym a b).mpr q))]
theorem own_self (a : Int64) (c : Int32) : ¬ (eqv a a c c = (0 : Int32)) := by
  unfold eqv
  rw [if_pos ((lw_eq a a).mpr rfl), if_pos rfl]
  decide
theorem own_notP {Z : State} {a0 : Array Value} {n : Nat} (w1 : (Jvm.Cond.superclass "java/lang/Long" "java/lang/Number").before a0 Z = true) (w2 : (Jvm.Cond.superclass "java/lang/Number" "java/lang/Object").before a0 Z = true) (w3 : (Jvm.Cond.noSuperclass "java/lang/Object").before a0 Z = true) (wi : (Jvm.Cond.instantiable "com/example/horn_to_horn/horntohorn/language/Position" n).before a0 Z = true) : ∃ c t, Z.vm.findClass "java/lang/Long" = some c ∧ Z.vm.findClass "com/example/horn_to_horn/horntohorn/language/Position" = some t ∧ Z.vm.assignable c t = false := by
  obtain ⟨cO, kO, o1, o2, o3, -, -⟩ := Cond.noSuperclass_spec w3
  obtain ⟨t, kt, g1, g2, g3, g4, -⟩ := Cond.instantiable_spec wi
  have g5 : kt.isInterface = false := (Bool.or_eq_false_iff.mp g4).1
  have n0 : NS Z "java/lang/Object" "com/example/horn_to_horn/horntohorn/language/Position" := by
    have ne := ids_ne o1 g1 (by decide)
    refine ⟨cO, t, o1, g1, fun fuel => ?_⟩
    cases fuel with
    | zero => rfl
    | succ f => simp [Vm.isSubclassAux, ne, o2, o3]
  obtain ⟨c, t', h0, h1, n3⟩ := NS.step w1 (NS.step w2 n0 (by decide)) (by decide)
  cases g1.symm.trans h1
  obtain ⟨q, k, kq, r1, r2, r3, r4, r5, -, r7⟩ := Cond.superclass_spec h0 w1
  have ne := ids_ne h0 g1 (by decide)
  refine ⟨c, t, h0, g1, ?_⟩
  show Z.vm.assignableAux (255 + 1) c t = false
  simp [Vm.assignableAux, ne, r2, g2, r5, g3, g5, Vm.isSubclass, n3]
theorem pn_6 : plainName "java/lang/Number" = true := by first | (simp [plainName, overriddenIn]; done) | decide +kernel
theorem ef_6 (m : MethodId) (x0 : Addr) : entryFrame m #[(.ref x0)] 1 = mkF m 0 #[.val (.ref x0)] [] := by first | (simp [entryFrame, mkF, argsToLocals, Value.category]; done) | rfl
theorem d6_0 : decode jdk_18_method_1_code 0 = .ok (.aload_n 0, 1) := by decide +kernel
theorem d6_1 : decode jdk_18_method_1_code 1 = .ok (.invokespecial 1, 3) := by decide +kernel
theorem d6_4 : decode jdk_18_method_1_code 4 = .ok (.return_, 1) := by decide +kernel
set_option maxRecDepth 65536 in
set_option maxHeartbeats 40000000 in
theorem rm6 (l : Launch) (Z : State) (a0 : Array Value) (hw : ∀ d ∈ tables_1, d.before a0 Z = true) (ws : List Jvm.Cond) (a1 : Addr) (h0 : Heap) (n0 : Nat) (Z0 : n0 ≤ h0.size)  :
    MetFree l (⟨"java/lang/Number", "<init>", "()V"⟩ : MethodName) (head1 (Jvm.Cond.code (⟨"java/lang/Number", "<init>", "()V"⟩ : MethodName) jdk_18_method_1_code 1 none :: ws) ({ frames := 1, cells := 0, slots := 0, locals := 12 } : Room)) (fun a U => a = #[(.ref a1)] ∧ Z.Warmed39 U.vm ∧ U.heap = h0) (fun _ _ _ _ _ => True) (fun _ U o U' => ∃ v L, o = .returned v ∧ QV h0 n0 v U'.heap L ∧ FrameEnd U o U' L ({ frames := 1, cells := 0, slots := 0, locals := 12 } : Room).cells ({ frames := 1, cells := 0, slots := 0, locals := 12 } : Room).slots) := by
  refine MetFree.of_bodySF (plainFor_of_name pn_6) hisR ?_
  intro p e s m args below meth c s₁ Bd hml0 hP hK
  obtain ⟨rfl, hZ, hh⟩ := hP
  have hx := Bd.exec
  have hby := Bd.bytes
  have hml : c.maxLocals = 1 := hml0
  have hown : s.vm.findClass "java/lang/Number" = some m.cls := findClass_of_methodNamed Bd.named
  have hnm := (name_of_methodNamed Bd.named Bd.method).1
  have X0 : Stand p l e ({ frames := 1, cells := 0, slots := 0, locals := 12 } : Room) s m #[(.ref a1)] below meth c s₁ [] 0 0 := Stand.of_body Bd
  have e0 : s₁.heap = h0 := by rw [← hh, Bd.state]; rfl
  have N0 := Fr.nil n0
  have go0 : Go p.tables e below s₁ (mkF m 0 #[.val (.ref a1)] []) s₁ (entryFrame m #[(.ref a1)] 1) := fun t k => castTop (ef_6 m a1) k
  have go1 : Go p.tables e below s₁ (mkF m 1 #[.val (.ref a1)] [(.ref a1)]) s₁ (entryFrame m #[(.ref a1)] 1) := by
    intro t k
    refine go0 t ?_
    show Steps _ _ _ (s₁.setTop (mkF m 0 #[.val (.ref a1)] [])) _
    refine XS.aloadN X0.here hx rfl (hb hby d6_0) rfl rfl ?_
    exact k
  obtain ⟨T2, X2, e2, st2⟩ := initO X0 hx hZ hown (wk hw 43 rfl) (wk hw 7 rfl) (wk hw 8 rfl) e0 (g := (mkF m 1 #[.val (.ref a1)] [(.ref a1)])) rfl (by rw [hml]; rfl) rfl (hb hby d6_1) (by decide) (W := 0) (by show 2 * 0 + _ ≤ _; exact Nat.le_of_eq rfl) (by decide)
  have go3 : Go p.tables e below T2 (mkF m 4 #[.val (.ref a1)] []) s₁ (entryFrame m #[(.ref a1)] 1) := by
    intro t k
    refine go1 t ?_
    show Steps _ _ _ (s₁.setTop (mkF m 1 #[.val (.ref a1)] [(.ref a1)])) _
    refine st2 _ ?_
    exact k
  obtain ⟨fs, hr, hrun, hended, hW, hsame⟩ := X2.leave (v := none) (fun _ => rfl)
  refine ⟨_, _, go3 _ ?_, hrun, hended, _, _, rfl, ?_, ⟨_, rfl⟩, hW, hsame.mono (by decide) (by decide)⟩
  · exact X2.returnOut hx Bd.returns (hb hby d6_4) hr
  · show QV h0 n0 _ T2.heap _
    rw [e2]
    exact ⟨rfl, N0, rfl⟩
theorem pn_5 : plainName "java/lang/Long" = true := by first | (simp [plainName, overriddenIn]; done) | decide +kernel
theorem ef_5 (m : MethodId) (x0 : Addr) (x1 : Int64) : entryFrame m #[(.ref x0), (.long x1)] 3 = mkF m 0 #[.val (.ref x0), .val (.long x1), .second] [] := by first | (simp [entryFrame, mkF, argsToLocals, Value.category]; done) | rfl
theorem d5_0 : decode jdk_35_method_26_code 0 = .ok (.aload_n 0, 1) := by decide +kernel
theorem d5_1 : decode jdk_35_method_26_code 1 = .ok (.invokespecial 270, 3) := by decide +kernel
theorem pd_0 : parseMethodDescriptor "()V" = some ⟨[], none⟩ := by decide +kernel
theorem d5_4 : decode jdk_35_method_26_code 4 = .ok (.aload_n 0, 1) := by decide +kernel
theorem d5_5 : decode jdk_35_method_26_code 5 = .ok (.lload_n 1, 1) := by decide +kernel
theorem d5_6 : decode jdk_35_method_26_code 6 = .ok (.putfield 273, 3) := by decide +kernel
theorem d5_9 : decode jdk_35_method_26_code 9 = .ok (.return_, 1) := by decide +kernel
set_option maxRecDepth 65536 in
set_option maxHeartbeats 40000000 in
theorem rm5 (l : Launch) (Z : State) (a0 : Array Value) (hw : ∀ d ∈ tables_1, d.before a0 Z = true) (ws : List Jvm.Cond) (a1 : Addr) (q2 : Int64) (u1 : Value) (h0 : Heap) (n0 : Nat) (Z0 : n0 ≤ h0.size) (E_a1 : Exa Z h0 a1 "java/lang/Long") (F_a1 : Fld Z h0 a1 "java/lang/Long" "value" "J" u1) (g_a1 : n0 ≤ a1) :
    MetFree l (⟨"java/lang/Long", "<init>", "(J)V"⟩ : MethodName) (head1 (Jvm.Cond.code (⟨"java/lang/Long", "<init>", "(J)V"⟩ : MethodName) jdk_35_method_26_code 3 none :: ws) ({ frames := 2, cells := 0, slots := 0, locals := 24 } : Room)) (fun a U => a = #[(.ref a1), (.long q2)] ∧ Z.Warmed39 U.vm ∧ U.heap = h0) (fun _ _ _ _ _ => True) (fun _ U o U' => ∃ v L, o = .returned v ∧ QLI Z a1 q2 h0 n0 v U'.heap L ∧ FrameEnd U o U' L ({ frames := 2, cells := 0, slots := 0, locals := 24 } : Room).cells ({ frames := 2, cells := 0, slots := 0, locals := 24 } : Room).slots) := by
  refine MetFree.of_bodySF (plainFor_of_name pn_5) hisR ?_
  intro p e s m args below meth c s₁ Bd hml0 hP hK
  obtain ⟨rfl, hZ, hh⟩ := hP
  have hx := Bd.exec
  have hby := Bd.bytes
  have hml : c.maxLocals = 3 := hml0
  have hown : s.vm.findClass "java/lang/Long" = some m.cls := findClass_of_methodNamed Bd.named
  have hnm := (name_of_methodNamed Bd.named Bd.method).1
  have X0 : Stand p l e ({ frames := 2, cells := 0, slots := 0, locals := 24 } : Room) s m #[(.ref a1), (.long q2)] below meth c s₁ [] 0 0 := Stand.of_body Bd
  have e0 : s₁.heap = h0 := by rw [← hh, Bd.state]; rfl
  have N0 := Fr.nil n0
  have go0 : Go p.tables e below s₁ (mkF m 0 #[.val (.ref a1), .val (.long q2), .second] []) s₁ (entryFrame m #[(.ref a1), (.long q2)] 3) := fun t k => castTop (ef_5 m a1 q2) k
  have go2 : Go p.tables e below s₁ (mkF m 1 #[.val (.ref a1), .val (.long q2), .second] [(.ref a1)]) s₁ (entryFrame m #[(.ref a1), (.long q2)] 3) := by
    intro t k
    refine go0 t ?_
    show Steps _ _ _ (s₁.setTop (mkF m 0 #[.val (.ref a1), .val (.long q2), .second] [])) _
    refine XS.aloadN X0.here hx rfl (hb hby d5_0) rfl rfl ?_
    exact k
  obtain ⟨_, _, ⟨T1, L1, k1, n1⟩, -, X1, ⟨Lc1, hQ1, l1, y1, z1⟩, st1⟩ := X0.specialBack hx (y := (⟨"java/lang/Number", "<init>", "()V"⟩ : MethodName)) rfl hown (mvT hZ (wk hw 37 rfl)) (mvT hZ (wk hw 38 rfl)) (mvT hZ (wk hw 42 rfl)) (by decide) (backOf (W := 0) (rm6 l Z a0 hw [] a1 h0 n0 Z0) hZ (wk hw 42 rfl) (wk hw 41 rfl) (by decide) (by decide)) (g := (mkF m 1 #[.val (.ref a1), .val (.long q2), .second] [(.ref a1)])) rfl (by rw [hml]; rfl) (Steps.refl _) (a := a1) (argsL := []) (rest := []) (lenOf pd_0 rfl) rfl (by show 2 * 0 + _ ≤ _; exact Nat.le_of_eq rfl) (hb hby d5_1) (fun _ _ => ⟨rfl, e0, (by decide : 0 + 0 ≤ _), (by decide : 0 + 0 ≤ _)⟩)
  dsimp only [Pt.U, Pt.locs, Pt.cells, Pt.slots] at X1 l1 y1 z1 st1 hQ1
  subst l1 y1 z1
  obtain ⟨rfl, N1q, e1⟩ := hQ1
  have N1 := Fr.app N0 N1q
  have go3 : Go p.tables e below T1 (mkF m 6 #[.val (.ref a1), .val (.long q2), .second] [(.long q2), (.ref a1)]) s₁ (entryFrame m #[(.ref a1), (.long q2)] 3) := by
    intro t k
    refine go2 t ?_
    show Steps _ _ _ (s₁.setTop (mkF m 1 #[.val (.ref a1), .val (.long q2), .second] [(.ref a1)])) _
    refine st1.trans ?_
    show Steps _ _ _ (T1.setTop (mkF m 4 #[.val (.ref a1), .val (.long q2), .second] [])) _
    refine XS.aloadN X1.here hx rfl (hb hby d5_4) rfl rfl ?_
    show Steps _ _ _ (T1.setTop (mkF m 5 #[.val (.ref a1), .val (.long q2), .second] [(.ref a1)])) _
    refine XS.lloadN X1.here hx rfl (hb hby d5_5) rfl ?_
    exact k
  obtain ⟨T4, h4, X4, e4, W4, st4⟩ := putF X1 hx hZ hown (host := "") (Or.inl (wk hw 44 rfl)) Via.refl e1 F_a1 E_a1 (Or.inr ⟨(wk hw 45 rfl), rfl, hnm⟩) (wk hw 32 rfl) (ty := .long) (by decide) rfl rfl (g := (mkF m 6 #[.val (.ref a1), .val (.long q2), .second] [(.long q2), (.ref a1)])) rfl rfl (hb hby d5_6)
  have N4 := Fr.snoc X4 N1 g_a1
  have Fw4 : Fld Z h4 a1 "java/lang/Long" "value" "J" (.long q2) := F_a1.same W4
  have go5 : Go p.tables e below T4 (mkF m 9 #[.val (.ref a1), .val (.long q2), .second] []) s₁ (entryFrame m #[(.ref a1), (.long q2)] 3) := by
    intro t k
    refine go3 t ?_
    show Steps _ _ _ (T1.setTop (mkF m 6 #[.val (.ref a1), .val (.long q2), .second] [(.long q2), (.ref a1)])) _
    refine st4 _ ?_
    exact k
  have f6 : Keep h0 h4 [a1] := ((Keep.refl h0 [a1]).wr W4 (Or.inl (List.mem_of_getElem? (i := 0) rfl)))
  have f7 : Exa Z h4 a1 "java/lang/Long" := (E_a1.wr W4)
  obtain ⟨fs, hr, hrun, hended, hW, hsame⟩ := X4.leave (v := none) (fun _ => rfl)
  refine ⟨_, _, go5 _ ?_, hrun, hended, _, _, rfl, ?_, ⟨_, rfl⟩, hW, hsame.mono (by decide) (by decide)⟩
  · exact X4.returnOut hx Bd.returns (hb hby d5_9) hr
  · show QLI Z a1 q2 h0 n0 _ T4.heap _
    rw [e4]
    exact ⟨rfl, N4, f6, f7, Fw4⟩
theorem pn_3 : plainName "java/lang/Long" = true := by first | (simp [plainName, overriddenIn]; done) | decide +kernel
theorem ef_3 (m : MethodId) (x0 : Int64) : entryFrame m #[(.long x0)] 3 = mkF m 0 #[.val (.long x0), .second, .unset] [] := by first | (simp [entryFrame, mkF, argsToLocals, Value.category]; done) | rfl
theorem d3_0 : decode jdk_35_method_24_code 0 = .ok (.sipush 128, 3) := by decide +kernel
theorem d3_3 : decode jdk_35_method_24_code 3 = .ok (.istore_n 2, 1) := by decide +kernel
theorem d3_4 : decode jdk_35_method_24_code 4 = .ok (.lload_n 0, 1) := by decide +kernel
theorem d3_5 : decode jdk_35_method_24_code 5 = .ok (.ldc2_w 230, 3) := by decide +kernel
theorem d3_8 : decode jdk_35_method_24_code 8 = .ok (.lcmp, 1) := by decide +kernel
theorem d3_9 : decode jdk_35_method_24_code 9 = .ok (.ifCond .lt 22, 3) := by decide +kernel
theorem d3_31 : decode jdk_35_method_24_code 31 = .ok (.new 1, 3) := by decide +kernel
theorem d3_34 : decode jdk_35_method_24_code 34 = .ok (.dup, 1) := by decide +kernel
theorem d3_35 : decode jdk_35_method_24_code 35 = .ok (.lload_n 0, 1) := by decide +kernel
theorem d3_36 : decode jdk_35_method_24_code 36 = .ok (.invokespecial 240, 3) := by decide +kernel
theorem pd_1 : parseMethodDescriptor "(J)V" = some ⟨[.long], none⟩ := by decide +kernel
theorem d3_39 : decode jdk_35_method_24_code 39 = .ok (.areturn, 1) := by decide +kernel
theorem d3_12 : decode jdk_35_method_24_code 12 = .ok (.lload_n 0, 1) := by decide +kernel
theorem d3_13 : decode jdk_35_method_24_code 13 = .ok (.ldc2_w 232, 3) := by decide +kernel
theorem d3_16 : decode jdk_35_method_24_code 16 = .ok (.lcmp, 1) := by decide +kernel
theorem d3_17 : decode jdk_35_method_24_code 17 = .ok (.ifCond .gt 14, 3) := by decide +kernel
theorem d3_20 : decode jdk_35_method_24_code 20 = .ok (.getstatic 234, 3) := by decide +kernel
theorem d3_23 : decode jdk_35_method_24_code 23 = .ok (.lload_n 0, 1) := by decide +kernel
theorem d3_24 : decode jdk_35_method_24_code 24 = .ok (.l2i, 1) := by decide +kernel
theorem d3_25 : decode jdk_35_method_24_code 25 = .ok (.sipush 128, 3) := by decide +kernel
theorem d3_28 : decode jdk_35_method_24_code 28 = .ok (.iadd, 1) := by decide +kernel
theorem d3_29 : decode jdk_35_method_24_code 29 = .ok (.aaload, 1) := by decide +kernel
theorem d3_30 : decode jdk_35_method_24_code 30 = .ok (.areturn, 1) := by decide +kernel
set_option maxRecDepth 65536 in
set_option maxHeartbeats 40000000 in
theorem rm3 (l : Launch) (Z : State) (a0 : Array Value) (hw : ∀ d ∈ tables_1, d.before a0 Z = true) (ws : List Jvm.Cond) (q1 : Int64) (wC : Addr) (clC : Cell) (h0 : Heap) (n0 : Nat) (Z0 : n0 ≤ h0.size) (HC : LC Z h0 wC clC) :
    MetFree l (⟨"java/lang/Long", "valueOf", "(J)Ljava/lang/Long;"⟩ : MethodName) (head1 (Jvm.Cond.code (⟨"java/lang/Long", "valueOf", "(J)Ljava/lang/Long;"⟩ : MethodName) jdk_35_method_24_code 3 (some (.object "java/lang/Long")) :: ws) ({ frames := 3, cells := 1, slots := 1, locals := 39 } : Room)) (fun a U => a = #[(.long q1)] ∧ Z.Warmed39 U.vm ∧ U.heap = h0) (fun _ _ _ _ _ => True) (fun _ U o U' => ∃ v L, o = .returned v ∧ QLV Z q1 h0 n0 v U'.heap L ∧ FrameEnd U o U' L ({ frames := 3, cells := 1, slots := 1, locals := 39 } : Room).cells ({ frames := 3, cells := 1, slots := 1, locals := 39 } : Room).slots) := by
  refine MetFree.of_bodySF (plainFor_of_name pn_3) hisR ?_
  intro p e s m args below meth c s₁ Bd hml0 hP hK
  obtain ⟨rfl, hZ, hh⟩ := hP
  have hx := Bd.exec
  have hby := Bd.bytes
  have hml : c.maxLocals = 3 := hml0
  have hown : s.vm.findClass "java/lang/Long" = some m.cls := findClass_of_methodNamed Bd.named
  have hnm := (name_of_methodNamed Bd.named Bd.method).1
  have X0 : Stand p l e ({ frames := 3, cells := 1, slots := 1, locals := 39 } : Room) s m #[(.long q1)] below meth c s₁ [] 0 0 := Stand.of_body Bd
  have e0 : s₁.heap = h0 := by rw [← hh, Bd.state]; rfl
  have N0 := Fr.nil n0
  have go0 : Go p.tables e below s₁ (mkF m 0 #[.val (.long q1), .second, .unset] []) s₁ (entryFrame m #[(.long q1)] 3) := fun t k => castTop (ef_3 m q1) k
  have go1 : Go p.tables e below s₁ (mkF m 9 #[.val (.long q1), .second, .val (.int (128 : Int32))] [(.int (lcmpW q1 (-128 : Int64)))]) s₁ (entryFrame m #[(.long q1)] 3) := by
    intro t k
    refine go0 t ?_
    show Steps _ _ _ (s₁.setTop (mkF m 0 #[.val (.long q1), .second, .unset] [])) _
    refine XS.sipush X0.here hx rfl (hb hby d3_0) ?_
    show Steps _ _ _ (s₁.setTop (mkF m 3 #[.val (.long q1), .second, .unset] [(.int (128 : Int32))])) _
    refine XS.istoreN X0.here hx rfl (hb hby d3_3) rfl (l' := #[.val (.long q1), .second, .val (.int (128 : Int32))]) rfl ?_
    show Steps _ _ _ (s₁.setTop (mkF m 4 #[.val (.long q1), .second, .val (.int (128 : Int32))] [])) _
    refine XS.lloadN X0.here hx rfl (hb hby d3_4) rfl ?_
    show Steps _ _ _ (s₁.setTop (mkF m 5 #[.val (.long q1), .second, .val (.int (128 : Int32))] [(.long q1)])) _
    refine X0.ldc2Long hx hown (mvT hZ (wk hw 17 rfl)) (g := (mkF m 5 #[.val (.long q1), .second, .val (.int (128 : Int32))] [(.long q1)])) rfl (hb hby d3_5) _ ?_
    show Steps _ _ _ (s₁.setTop (mkF m 8 #[.val (.long q1), .second, .val (.int (128 : Int32))] [(.long (-128 : Int64)), (.long q1)])) _
    refine XS.lcmp X0.here hx rfl (hb hby d3_8) rfl ?_
    exact k
  by_cases hc9 : (lcmpW q1 (-128 : Int64)) < (0 : Int32)
  · skip
    have go3 : Go p.tables e below s₁ (mkF m 31 #[.val (.long q1), .second, .val (.int (128 : Int32))] []) s₁ (entryFrame m #[(.long q1)] 3) := by
      intro t k
      refine go1 t ?_
      show Steps _ _ _ (s₁.setTop (mkF m 9 #[.val (.long q1), .second, .val (.int (128 : Int32))] [(.int (lcmpW q1 (-128 : Int64)))])) _
      refine XS.ifYes X0.here hx rfl (pc0 := 9) (pc' := 31) rfl (hb hby d3_9) rfl ((if0 _ _).trans (tlt hc9).1) (by decide) (by decide) ?_
      exact k
    obtain ⟨T4, h4, X4, e4, E4, A4, D4, -, st4⟩ := newO X0 hx hZ hown (wk hw 31 rfl) (wk hw 32 rfl) (wk hw 15 rfl) e0 (g := (mkF m 31 #[.val (.long q1), .second, .val (.int (128 : Int32))] [])) rfl (hb hby d3_31) (by decide) (by decide)
    obtain ⟨b2, g4⟩ : ∃ z, z = h0.size := ⟨_, rfl⟩
    rw [← g4] at A4 D4 st4
    have g_b2 : n0 ≤ b2 := Nat.le_trans Z0 (Nat.le_of_eq g4.symm)
    have sz_b2 : h0.size ≤ b2 := Nat.le_trans (Keep.refl h0 []).1 (Nat.le_of_eq g4.symm)
    have F_value_b2 : Fld Z h4 b2 "java/lang/Long" "value" "J" (.long (0 : Int64)) := D4 (Or.inr (wk hw 45 rfl)) (ty := .long) (by decide)
    have go7 : Go p.tables e below T4 (mkF m 36 #[.val (.long q1), .second, .val (.int (128 : Int32))] [(.long q1), (.ref b2), (.ref b2)]) s₁ (entryFrame m #[(.long q1)] 3) := by
      intro t k
      refine go3 t ?_
      show Steps _ _ _ (s₁.setTop (mkF m 31 #[.val (.long q1), .second, .val (.int (128 : Int32))] [])) _
      refine st4 _ ?_
      show Steps _ _ _ (T4.setTop (mkF m 34 #[.val (.long q1), .second, .val (.int (128 : Int32))] [(.ref b2)])) _
      refine XS.dup X4.here hx rfl (hb hby d3_34) rfl rfl ?_
      show Steps _ _ _ (T4.setTop (mkF m 35 #[.val (.long q1), .second, .val (.int (128 : Int32))] [(.ref b2), (.ref b2)])) _
      refine XS.lloadN X4.here hx rfl (hb hby d3_35) rfl ?_
      exact k
    have f6 : n0 ≤ h4.size := (Nat.le_trans Z0 E4.1)
    obtain ⟨_, _, ⟨T5, L5, k5, n5⟩, -, X5, ⟨Lc5, hQ5, l5, y5, z5⟩, st5⟩ := X4.specialBack hx (y := (⟨"java/lang/Long", "<init>", "(J)V"⟩ : MethodName)) rfl hown (mvT hZ (wk hw 33 rfl)) (mvT hZ (wk hw 34 rfl)) (mvT hZ (wk hw 36 rfl)) (by decide) (backOf (W := 1) (rm5 l Z a0 hw [] b2 q1 (.long (0 : Int64)) h4 n0 f6 A4 F_value_b2 g_b2) hZ (wk hw 36 rfl) (wk hw 15 rfl) (by decide) (by decide)) (g := (mkF m 36 #[.val (.long q1), .second, .val (.int (128 : Int32))] [(.long q1), (.ref b2), (.ref b2)])) rfl (by rw [hml]; rfl) (Steps.refl _) (a := b2) (argsL := [(.long q1)]) (rest := [(.ref b2)]) (lenOf pd_1 rfl) rfl (by show 2 * 0 + _ ≤ _; exact Nat.le_of_eq rfl) (hb hby d3_36) (fun _ _ => ⟨rfl, e4, (by decide : 1 + 0 ≤ _), (by decide : 1 + 0 ≤ _)⟩)
    dsimp only [Pt.U, Pt.locs, Pt.cells, Pt.slots] at X5 l5 y5 z5 st5 hQ5
    subst l5 y5 z5
    obtain ⟨rfl, N5q, K5, Ex5, Fx5⟩ := hQ5
    have N5 := Fr.app N0 N5q
    have go8 : Go p.tables e below T5 (mkF m 39 #[.val (.long q1), .second, .val (.int (128 : Int32))] [(.ref b2)]) s₁ (entryFrame m #[(.long q1)] 3) := by
      intro t k
      refine go7 t ?_
      show Steps _ _ _ (T4.setTop (mkF m 36 #[.val (.long q1), .second, .val (.int (128 : Int32))] [(.long q1), (.ref b2), (.ref b2)])) _
      refine st5.trans ?_
      exact k
    have f9 : Keep h0 T5.heap [] := (((Keep.refl h0 []).ext E4).trans K5 (allS (Or.inr sz_b2) all0))
    have f10 : Exa Z T5.heap b2 "java/lang/Long" := (A4.keep K5)
    obtain ⟨fs, hr, hrun, hended, hW, hsame⟩ := X5.leave (v := some (.ref b2)) (fun h => by rw [Bd.returns] at h; cases h)
    refine ⟨_, _, go8 _ ?_, hrun, hended, _, _, rfl, ?_, ⟨_, rfl⟩, hW, hsame.mono (by decide) (by decide)⟩
    · exact retOut X5 hx Bd.returns rfl (Or.inr (Or.inr (Or.inr (Or.inr ⟨rfl, rfl, rfl⟩)))) (hb hby d3_39) hr
    · show QLV Z q1 h0 n0 _ T5.heap _
      exact ⟨b2, rfl, N5, f9, f10, Fx5⟩
  · skip
    have go11 : Go p.tables e below s₁ (mkF m 17 #[.val (.long q1), .second, .val (.int (128 : Int32))] [(.int (lcmpW q1 (127 : Int64)))]) s₁ (entryFrame m #[(.long q1)] 3) := by
      intro t k
      refine go1 t ?_
      show Steps _ _ _ (s₁.setTop (mkF m 9 #[.val (.long q1), .second, .val (.int (128 : Int32))] [(.int (lcmpW q1 (-128 : Int64)))])) _
      refine XS.ifNo X0.here hx rfl (hb hby d3_9) rfl ((if0 _ _).trans (flt hc9).1) ?_
      show Steps _ _ _ (s₁.setTop (mkF m 12 #[.val (.long q1), .second, .val (.int (128 : Int32))] [])) _
      refine XS.lloadN X0.here hx rfl (hb hby d3_12) rfl ?_
      show Steps _ _ _ (s₁.setTop (mkF m 13 #[.val (.long q1), .second, .val (.int (128 : Int32))] [(.long q1)])) _
      refine X0.ldc2Long hx hown (mvT hZ (wk hw 18 rfl)) (g := (mkF m 13 #[.val (.long q1), .second, .val (.int (128 : Int32))] [(.long q1)])) rfl (hb hby d3_13) _ ?_
      show Steps _ _ _ (s₁.setTop (mkF m 16 #[.val (.long q1), .second, .val (.int (128 : Int32))] [(.long (127 : Int64)), (.long q1)])) _
      refine XS.lcmp X0.here hx rfl (hb hby d3_16) rfl ?_
      exact k
    by_cases hc17 : (0 : Int32) < (lcmpW q1 (127 : Int64))
    · skip
      have go13 : Go p.tables e below s₁ (mkF m 31 #[.val (.long q1), .second, .val (.int (128 : Int32))] []) s₁ (entryFrame m #[(.long q1)] 3) := by
        intro t k
        refine go11 t ?_
        show Steps _ _ _ (s₁.setTop (mkF m 17 #[.val (.long q1), .second, .val (.int (128 : Int32))] [(.int (lcmpW q1 (127 : Int64)))])) _
        refine XS.ifYes X0.here hx rfl (pc0 := 17) (pc' := 31) rfl (hb hby d3_17) rfl ((if0 _ _).trans (tlt hc17).2.2.1) (by decide) (by decide) ?_
        exact k
      obtain ⟨T14, h14, X14, e14, E14, A14, D14, -, st14⟩ := newO X0 hx hZ hown (wk hw 31 rfl) (wk hw 32 rfl) (wk hw 15 rfl) e0 (g := (mkF m 31 #[.val (.long q1), .second, .val (.int (128 : Int32))] [])) rfl (hb hby d3_31) (by decide) (by decide)
      obtain ⟨b12, g14⟩ : ∃ z, z = h0.size := ⟨_, rfl⟩
      rw [← g14] at A14 D14 st14
      have g_b12 : n0 ≤ b12 := Nat.le_trans Z0 (Nat.le_of_eq g14.symm)
      have sz_b12 : h0.size ≤ b12 := Nat.le_trans (Keep.refl h0 []).1 (Nat.le_of_eq g14.symm)
      have F_value_b12 : Fld Z h14 b12 "java/lang/Long" "value" "J" (.long (0 : Int64)) := D14 (Or.inr (wk hw 45 rfl)) (ty := .long) (by decide)
      have go17 : Go p.tables e below T14 (mkF m 36 #[.val (.long q1), .second, .val (.int (128 : Int32))] [(.long q1), (.ref b12), (.ref b12)]) s₁ (entryFrame m #[(.long q1)] 3) := by
        intro t k
        refine go13 t ?_
        show Steps _ _ _ (s₁.setTop (mkF m 31 #[.val (.long q1), .second, .val (.int (128 : Int32))] [])) _
        refine st14 _ ?_
        show Steps _ _ _ (T14.setTop (mkF m 34 #[.val (.long q1), .second, .val (.int (128 : Int32))] [(.ref b12)])) _
        refine XS.dup X14.here hx rfl (hb hby d3_34) rfl rfl ?_
        show Steps _ _ _ (T14.setTop (mkF m 35 #[.val (.long q1), .second, .val (.int (128 : Int32))] [(.ref b12), (.ref b12)])) _
        refine XS.lloadN X14.here hx rfl (hb hby d3_35) rfl ?_
        exact k
      have f16 : n0 ≤ h14.size := (Nat.le_trans Z0 E14.1)
      obtain ⟨_, _, ⟨T15, L15, k15, n15⟩, -, X15, ⟨Lc15, hQ15, l15, y15, z15⟩, st15⟩ := X14.specialBack hx (y := (⟨"java/lang/Long", "<init>", "(J)V"⟩ : MethodName)) rfl hown (mvT hZ (wk hw 33 rfl)) (mvT hZ (wk hw 34 rfl)) (mvT hZ (wk hw 36 rfl)) (by decide) (backOf (W := 1) (rm5 l Z a0 hw [] b12 q1 (.long (0 : Int64)) h14 n0 f16 A14 F_value_b12 g_b12) hZ (wk hw 36 rfl) (wk hw 15 rfl) (by decide) (by decide)) (g := (mkF m 36 #[.val (.long q1), .second, .val (.int (128 : Int32))] [(.long q1), (.ref b12), (.ref b12)])) rfl (by rw [hml]; rfl) (Steps.refl _) (a := b12) (argsL := [(.long q1)]) (rest := [(.ref b12)]) (lenOf pd_1 rfl) rfl (by show 2 * 0 + _ ≤ _; exact Nat.le_of_eq rfl) (hb hby d3_36) (fun _ _ => ⟨rfl, e14, (by decide : 1 + 0 ≤ _), (by decide : 1 + 0 ≤ _)⟩)
      dsimp only [Pt.U, Pt.locs, Pt.cells, Pt.slots] at X15 l15 y15 z15 st15 hQ15
      subst l15 y15 z15
      obtain ⟨rfl, N15q, K15, Ex15, Fx15⟩ := hQ15
      have N15 := Fr.app N0 N15q
      have go18 : Go p.tables e below T15 (mkF m 39 #[.val (.long q1), .second, .val (.int (128 : Int32))] [(.ref b12)]) s₁ (entryFrame m #[(.long q1)] 3) := by
        intro t k
        refine go17 t ?_
        show Steps _ _ _ (T14.setTop (mkF m 36 #[.val (.long q1), .second, .val (.int (128 : Int32))] [(.long q1), (.ref b12), (.ref b12)])) _
        refine st15.trans ?_
        exact k
      have f19 : Keep h0 T15.heap [] := (((Keep.refl h0 []).ext E14).trans K15 (allS (Or.inr sz_b12) all0))
      have f20 : Exa Z T15.heap b12 "java/lang/Long" := (A14.keep K15)
      obtain ⟨fs, hr, hrun, hended, hW, hsame⟩ := X15.leave (v := some (.ref b12)) (fun h => by rw [Bd.returns] at h; cases h)
      refine ⟨_, _, go18 _ ?_, hrun, hended, _, _, rfl, ?_, ⟨_, rfl⟩, hW, hsame.mono (by decide) (by decide)⟩
      · exact retOut X15 hx Bd.returns rfl (Or.inr (Or.inr (Or.inr (Or.inr ⟨rfl, rfl, rfl⟩)))) (hb hby d3_39) hr
      · show QLV Z q1 h0 n0 _ T15.heap _
        exact ⟨b12, rfl, N15, f19, f20, Fx15⟩
    · skip
      have go21 : Go p.tables e below s₁ (mkF m 20 #[.val (.long q1), .second, .val (.int (128 : Int32))] []) s₁ (entryFrame m #[(.long q1)] 3) := by
        intro t k
        refine go11 t ?_
        show Steps _ _ _ (s₁.setTop (mkF m 17 #[.val (.long q1), .second, .val (.int (128 : Int32))] [(.int (lcmpW q1 (127 : Int64)))])) _
        refine XS.ifNo X0.here hx rfl (hb hby d3_17) rfl ((if0 _ _).trans (flt hc17).2.2.1) ?_
        exact k
      obtain ⟨bq, hin, hat, Eb, Fb⟩ := HC.2.2 q1 hc9 hc17
      obtain ⟨T22, X22, e22, st22⟩ := getS2 X0 hx hZ hown (host := "") (Or.inl (wk hw 19 rfl)) Via.refl e0 HC.1 (g := (mkF m 20 #[.val (.long q1), .second, .val (.int (128 : Int32))] [])) rfl (hb hby d3_20)
      have go23 : Go p.tables e below T22 (mkF m 30 #[.val (.long q1), .second, .val (.int (128 : Int32))] [(.ref bq)]) s₁ (entryFrame m #[(.long q1)] 3) := by
        intro t k
        refine go21 t ?_
        show Steps _ _ _ (s₁.setTop (mkF m 20 #[.val (.long q1), .second, .val (.int (128 : Int32))] [])) _
        refine st22 _ ?_
        show Steps _ _ _ (T22.setTop (mkF m 23 #[.val (.long q1), .second, .val (.int (128 : Int32))] [(.ref wC)])) _
        refine XS.lloadN X22.here hx rfl (hb hby d3_23) rfl ?_
        show Steps _ _ _ (T22.setTop (mkF m 24 #[.val (.long q1), .second, .val (.int (128 : Int32))] [(.long q1), (.ref wC)])) _
        refine XS.l2i X22.here hx rfl (hb hby d3_24) rfl ?_
        show Steps _ _ _ (T22.setTop (mkF m 25 #[.val (.long q1), .second, .val (.int (128 : Int32))] [(.int (q1.toInt32)), (.ref wC)])) _
        refine XS.sipush X22.here hx rfl (hb hby d3_25) ?_
        show Steps _ _ _ (T22.setTop (mkF m 28 #[.val (.long q1), .second, .val (.int (128 : Int32))] [(.int (128 : Int32)), (.int (q1.toInt32)), (.ref wC)])) _
        refine XS.iadd X22.here hx rfl (hb hby d3_28) rfl ?_
        show Steps _ _ _ (T22.setTop (mkF m 29 #[.val (.long q1), .second, .val (.int (128 : Int32))] [(.int ((q1.toInt32) + (128 : Int32))), (.ref wC)])) _
        refine X22.aaload hx (j := ((q1.toInt32) + (128 : Int32))) (v := (.ref bq)) (by rw [e22]; exact HC.2.1.1) (State.isArrayOf_alike hZ.alike HC.2.1.2.1) rfl HC.2.1.2.2 hin hat (g := (mkF m 29 #[.val (.long q1), .second, .val (.int (128 : Int32))] [(.int ((q1.toInt32) + (128 : Int32))), (.ref wC)])) rfl rfl (hb hby d3_29) _ ?_
        exact k
      obtain ⟨fs, hr, hrun, hended, hW, hsame⟩ := X22.leave (v := some (.ref bq)) (fun h => by rw [Bd.returns] at h; cases h)
      refine ⟨_, _, go23 _ ?_, hrun, hended, _, _, rfl, ?_, ⟨_, rfl⟩, hW, hsame.mono (by decide) (by decide)⟩
      · exact retOut X22 hx Bd.returns rfl (Or.inr (Or.inr (Or.inr (Or.inr ⟨rfl, rfl, rfl⟩)))) (hb hby d3_30) hr
      · show QLV Z q1 h0 n0 _ T22.heap _
        rw [e22]
        exact ⟨bq, rfl, N0, Keep.refl h0 [], Eb, Fb⟩
theorem pn_1 : plainName "com/example/horn_to_horn/horntohorn/language/Position" = true := by first | (simp [plainName, overriddenIn]; done) | decide +kernel
theorem ef_1 (m : MethodId) (x0 : Addr) (x1 : Int64) (x2 : Int32) : entryFrame m #[(.ref x0), (.long x1), (.int x2)] 4 = mkF m 0 #[.val (.ref x0), .val (.long x1), .second, .val (.int x2)] [] := by first | (simp [entryFrame, mkF, argsToLocals, Value.category]; done) | rfl
theorem d1_0 : decode prog_38_method_1_code 0 = .ok (.aload_n 0, 1) := by decide +kernel
theorem d1_1 : decode prog_38_method_1_code 1 = .ok (.invokespecial 1, 3) := by decide +kernel
theorem d1_4 : decode prog_38_method_1_code 4 = .ok (.aload_n 0, 1) := by decide +kernel
theorem d1_5 : decode prog_38_method_1_code 5 = .ok (.lload_n 1, 1) := by decide +kernel
theorem d1_6 : decode prog_38_method_1_code 6 = .ok (.putfield 7, 3) := by decide +kernel
theorem d1_9 : decode prog_38_method_1_code 9 = .ok (.aload_n 0, 1) := by decide +kernel
theorem d1_10 : decode prog_38_method_1_code 10 = .ok (.iload_n 3, 1) := by decide +kernel
theorem d1_11 : decode prog_38_method_1_code 11 = .ok (.putfield 13, 3) := by decide +kernel
theorem d1_14 : decode prog_38_method_1_code 14 = .ok (.return_, 1) := by decide +kernel
set_option maxRecDepth 65536 in
set_option maxHeartbeats 40000000 in
theorem rm1 (l : Launch) (Z : State) (a0 : Array Value) (hw : ∀ d ∈ tables_1, d.before a0 Z = true) (ws : List Jvm.Cond) (a1 : Addr) (q2 : Int64) (p3 : Int32) (u1 u2 : Value) (h0 : Heap) (n0 : Nat) (Z0 : n0 ≤ h0.size) (E_a1 : Exa Z h0 a1 "com/example/horn_to_horn/horntohorn/language/Position") (Fl_a1 : Fld Z h0 a1 "com/example/horn_to_horn/horntohorn/language/Position" "line" "J" u1) (Fc_a1 : Fld Z h0 a1 "com/example/horn_to_horn/horntohorn/language/Position" "column" "I" u2) (g_a1 : n0 ≤ a1) :
    MetFree l (⟨"com/example/horn_to_horn/horntohorn/language/Position", "<init>", "(JI)V"⟩ : MethodName) (head1 (Jvm.Cond.code (⟨"com/example/horn_to_horn/horntohorn/language/Position", "<init>", "(JI)V"⟩ : MethodName) prog_38_method_1_code 4 none :: ws) ({ frames := 1, cells := 0, slots := 0, locals := 12 } : Room)) (fun a U => a = #[(.ref a1), (.long q2), (.int p3)] ∧ Z.Warmed39 U.vm ∧ U.heap = h0) (fun _ _ _ _ _ => True) (fun _ U o U' => ∃ v L, o = .returned v ∧ QPI Z a1 q2 p3 h0 n0 v U'.heap L ∧ FrameEnd U o U' L ({ frames := 1, cells := 0, slots := 0, locals := 12 } : Room).cells ({ frames := 1, cells := 0, slots := 0, locals := 12 } : Room).slots) := by
  refine MetFree.of_bodySF (plainFor_of_name pn_1) hisR ?_
  intro p e s m args below meth c s₁ Bd hml0 hP hK
  obtain ⟨rfl, hZ, hh⟩ := hP
  have hx := Bd.exec
  have hby := Bd.bytes
  have hml : c.maxLocals = 4 := hml0
  have hown : s.vm.findClass "com/example/horn_to_horn/horntohorn/language/Position" = some m.cls := findClass_of_methodNamed Bd.named
  have hnm := (name_of_methodNamed Bd.named Bd.method).1
  have X0 : Stand p l e ({ frames := 1, cells := 0, slots := 0, locals := 12 } : Room) s m #[(.ref a1), (.long q2), (.int p3)] below meth c s₁ [] 0 0 := Stand.of_body Bd
  have e0 : s₁.heap = h0 := by rw [← hh, Bd.state]; rfl
  have N0 := Fr.nil n0
  have go0 : Go p.tables e below s₁ (mkF m 0 #[.val (.ref a1), .val (.long q2), .second, .val (.int p3)] []) s₁ (entryFrame m #[(.ref a1), (.long q2), (.int p3)] 4) := fun t k => castTop (ef_1 m a1 q2 p3) k
  have go1 : Go p.tables e below s₁ (mkF m 1 #[.val (.ref a1), .val (.long q2), .second, .val (.int p3)] [(.ref a1)]) s₁ (entryFrame m #[(.ref a1), (.long q2), (.int p3)] 4) := by
    intro t k
    refine go0 t ?_
    show Steps _ _ _ (s₁.setTop (mkF m 0 #[.val (.ref a1), .val (.long q2), .second, .val (.int p3)] [])) _
    refine XS.aloadN X0.here hx rfl (hb hby d1_0) rfl rfl ?_
    exact k
  obtain ⟨T2, X2, e2, st2⟩ := initO X0 hx hZ hown (wk hw 6 rfl) (wk hw 7 rfl) (wk hw 8 rfl) e0 (g := (mkF m 1 #[.val (.ref a1), .val (.long q2), .second, .val (.int p3)] [(.ref a1)])) rfl (by rw [hml]; rfl) rfl (hb hby d1_1) (by decide) (W := 0) (by show 2 * 0 + _ ≤ _; exact Nat.le_of_eq rfl) (by decide)
  have go3 : Go p.tables e below T2 (mkF m 6 #[.val (.ref a1), .val (.long q2), .second, .val (.int p3)] [(.long q2), (.ref a1)]) s₁ (entryFrame m #[(.ref a1), (.long q2), (.int p3)] 4) := by
    intro t k
    refine go1 t ?_
    show Steps _ _ _ (s₁.setTop (mkF m 1 #[.val (.ref a1), .val (.long q2), .second, .val (.int p3)] [(.ref a1)])) _
    refine st2 _ ?_
    show Steps _ _ _ (T2.setTop (mkF m 4 #[.val (.ref a1), .val (.long q2), .second, .val (.int p3)] [])) _
    refine XS.aloadN X2.here hx rfl (hb hby d1_4) rfl rfl ?_
    show Steps _ _ _ (T2.setTop (mkF m 5 #[.val (.ref a1), .val (.long q2), .second, .val (.int p3)] [(.ref a1)])) _
    refine XS.lloadN X2.here hx rfl (hb hby d1_5) rfl ?_
    exact k
  obtain ⟨T4, h4, X4, e4, W4, st4⟩ := putF X2 hx hZ hown (host := "") (Or.inl (wk hw 9 rfl)) Via.refl e2 Fl_a1 E_a1 (Or.inr ⟨(wk hw 10 rfl), rfl, hnm⟩) (wk hw 1 rfl) (ty := .long) (by decide) rfl rfl (g := (mkF m 6 #[.val (.ref a1), .val (.long q2), .second, .val (.int p3)] [(.long q2), (.ref a1)])) rfl rfl (hb hby d1_6)
  have N4 := Fr.snoc X4 N0 g_a1
  have Fw4 : Fld Z h4 a1 "com/example/horn_to_horn/horntohorn/language/Position" "line" "J" (.long q2) := Fl_a1.same W4
  have go6 : Go p.tables e below T4 (mkF m 11 #[.val (.ref a1), .val (.long q2), .second, .val (.int p3)] [(.int p3), (.ref a1)]) s₁ (entryFrame m #[(.ref a1), (.long q2), (.int p3)] 4) := by
    intro t k
    refine go3 t ?_
    show Steps _ _ _ (T2.setTop (mkF m 6 #[.val (.ref a1), .val (.long q2), .second, .val (.int p3)] [(.long q2), (.ref a1)])) _
    refine st4 _ ?_
    show Steps _ _ _ (T4.setTop (mkF m 9 #[.val (.ref a1), .val (.long q2), .second, .val (.int p3)] [])) _
    refine XS.aloadN X4.here hx rfl (hb hby d1_9) rfl rfl ?_
    show Steps _ _ _ (T4.setTop (mkF m 10 #[.val (.ref a1), .val (.long q2), .second, .val (.int p3)] [(.ref a1)])) _
    refine XS.iloadN X4.here hx rfl (hb hby d1_10) rfl ?_
    exact k
  have f5 : Exa Z h4 a1 "com/example/horn_to_horn/horntohorn/language/Position" := (E_a1.wr W4)
  have f7 : Fld Z h4 a1 "com/example/horn_to_horn/horntohorn/language/Position" "column" "I" u2 := (Fc_a1.other W4 (Or.inr (slot_ne (Or.inr (wk hw 12 rfl)) (Or.inr (wk hw 10 rfl)) (by decide) (t := .int) (t' := .long) (by decide) (by decide))))
  obtain ⟨T8, h8, X8, e8, W8, st8⟩ := putF X4 hx hZ hown (host := "") (Or.inl (wk hw 11 rfl)) Via.refl e4 f7 f5 (Or.inr ⟨(wk hw 12 rfl), rfl, hnm⟩) (wk hw 1 rfl) (ty := .int) (by decide) rfl rfl (g := (mkF m 11 #[.val (.ref a1), .val (.long q2), .second, .val (.int p3)] [(.int p3), (.ref a1)])) rfl rfl (hb hby d1_11)
  have N8 := Fr.snoc X8 N4 g_a1
  have Fw8 : Fld Z h8 a1 "com/example/horn_to_horn/horntohorn/language/Position" "column" "I" (.int p3) := f7.same W8
  have go9 : Go p.tables e below T8 (mkF m 14 #[.val (.ref a1), .val (.long q2), .second, .val (.int p3)] []) s₁ (entryFrame m #[(.ref a1), (.long q2), (.int p3)] 4) := by
    intro t k
    refine go6 t ?_
    show Steps _ _ _ (T4.setTop (mkF m 11 #[.val (.ref a1), .val (.long q2), .second, .val (.int p3)] [(.int p3), (.ref a1)])) _
    refine st8 _ ?_
    exact k
  have f10 : Keep h0 h8 [a1] := (((Keep.refl h0 [a1]).wr W4 (Or.inl (List.mem_of_getElem? (i := 0) rfl))).wr W8 (Or.inl (List.mem_of_getElem? (i := 0) rfl)))
  have f11 : Fld Z h8 a1 "com/example/horn_to_horn/horntohorn/language/Position" "line" "J" (.long q2) := (Fw4.other W8 (Or.inr (slot_ne (Or.inr (wk hw 10 rfl)) (Or.inr (wk hw 12 rfl)) (by decide) (t := .long) (t' := .int) (by decide) (by decide))))
  obtain ⟨fs, hr, hrun, hended, hW, hsame⟩ := X8.leave (v := none) (fun _ => rfl)
  refine ⟨_, _, go9 _ ?_, hrun, hended, _, _, rfl, ?_, ⟨_, rfl⟩, hW, hsame.mono (by decide) (by decide)⟩
  · exact X8.returnOut hx Bd.returns (hb hby d1_14) hr
  · show QPI Z a1 q2 p3 h0 n0 _ T8.heap _
    rw [e8]
    exact ⟨rfl, N8, f10, f11, Fw8⟩
theorem pn_4 : plainName "com/example/horn_to_horn/horntohorn/language/Position" = true := by first | (simp [plainName, overriddenIn]; done) | decide +kernel
theorem ef_4 (m : MethodId) (x0 : Addr) (x1 : Addr) : entryFrame m #[(.ref x0), (.ref x1)] 3 = mkF m 0 #[.val (.ref x0), .val (.ref x1), .unset] [] := by first | (simp [entryFrame, mkF, argsToLocals, Value.category]; done) | rfl
theorem d4_0 : decode prog_38_method_4_code 0 = .ok (.aload_n 1, 1) := by decide +kernel
theorem d4_1 : decode prog_38_method_4_code 1 = .ok (.instanceof 8, 3) := by decide +kernel
theorem d4_4 : decode prog_38_method_4_code 4 = .ok (.ifCond .eq 35, 3) := by decide +kernel
theorem d4_7 : decode prog_38_method_4_code 7 = .ok (.aload_n 1, 1) := by decide +kernel
theorem d4_8 : decode prog_38_method_4_code 8 = .ok (.checkcast 8, 3) := by decide +kernel
theorem d4_11 : decode prog_38_method_4_code 11 = .ok (.astore_n 2, 1) := by decide +kernel
theorem d4_12 : decode prog_38_method_4_code 12 = .ok (.aload_n 2, 1) := by decide +kernel
theorem d4_13 : decode prog_38_method_4_code 13 = .ok (.getfield 7, 3) := by decide +kernel
theorem d4_16 : decode prog_38_method_4_code 16 = .ok (.aload_n 0, 1) := by decide +kernel
theorem d4_17 : decode prog_38_method_4_code 17 = .ok (.getfield 7, 3) := by decide +kernel
theorem d4_20 : decode prog_38_method_4_code 20 = .ok (.lcmp, 1) := by decide +kernel
theorem d4_21 : decode prog_38_method_4_code 21 = .ok (.ifCond .ne 18, 3) := by decide +kernel
theorem d4_24 : decode prog_38_method_4_code 24 = .ok (.aload_n 2, 1) := by decide +kernel
theorem d4_25 : decode prog_38_method_4_code 25 = .ok (.getfield 13, 3) := by decide +kernel
theorem d4_28 : decode prog_38_method_4_code 28 = .ok (.aload_n 0, 1) := by decide +kernel
theorem d4_29 : decode prog_38_method_4_code 29 = .ok (.getfield 13, 3) := by decide +kernel
theorem d4_32 : decode prog_38_method_4_code 32 = .ok (.if_icmp .ne 7, 3) := by decide +kernel
theorem d4_35 : decode prog_38_method_4_code 35 = .ok (.iconst 1, 1) := by decide +kernel
theorem d4_36 : decode prog_38_method_4_code 36 = .ok (.goto 4, 3) := by decide +kernel
theorem d4_40 : decode prog_38_method_4_code 40 = .ok (.ireturn, 1) := by decide +kernel
theorem d4_39 : decode prog_38_method_4_code 39 = .ok (.iconst 0, 1) := by decide +kernel
set_option maxRecDepth 65536 in
set_option maxHeartbeats 40000000 in
theorem rm4_p (l : Launch) (Z : State) (a0 : Array Value) (hw : ∀ d ∈ tables_1, d.before a0 Z = true) (ws : List Jvm.Cond) (a1 a2 : Addr) (l1 l2 : Int64) (c1 c2 : Int32) (h0 : Heap) (n0 : Nat) (Z0 : n0 ≤ h0.size) (E_a2 : Exa Z h0 a2 "com/example/horn_to_horn/horntohorn/language/Position") (Fl1 : Fld Z h0 a1 "com/example/horn_to_horn/horntohorn/language/Position" "line" "J" (.long l1)) (Fc1 : Fld Z h0 a1 "com/example/horn_to_horn/horntohorn/language/Position" "column" "I" (.int c1)) (Fl2 : Fld Z h0 a2 "com/example/horn_to_horn/horntohorn/language/Position" "line" "J" (.long l2)) (Fc2 : Fld Z h0 a2 "com/example/horn_to_horn/horntohorn/language/Position" "column" "I" (.int c2)) :
    MetFree l (⟨"com/example/horn_to_horn/horntohorn/language/Position", "equals", "(Ljava/lang/Object;)Z"⟩ : MethodName) (head1 (Jvm.Cond.code (⟨"com/example/horn_to_horn/horntohorn/language/Position", "equals", "(Ljava/lang/Object;)Z"⟩ : MethodName) prog_38_method_4_code 3 (some .boolean) :: ws) ({ frames := 0, cells := 0, slots := 0, locals := 0 } : Room)) (fun a U => a = #[(.ref a1), (.ref a2)] ∧ Z.Warmed39 U.vm ∧ U.heap = h0) (fun _ _ _ _ _ => True) (fun _ U o U' => ∃ v L, o = .returned v ∧ QP (.int (eqv l2 l1 c2 c1)) h0 n0 v U'.heap L ∧ FrameEnd U o U' L ({ frames := 0, cells := 0, slots := 0, locals := 0 } : Room).cells ({ frames := 0, cells := 0, slots := 0, locals := 0 } : Room).slots) := by
  refine MetFree.of_bodySF (plainFor_of_name pn_4) hisR ?_
  intro p e s m args below meth c s₁ Bd hml0 hP hK
  obtain ⟨rfl, hZ, hh⟩ := hP
  have hx := Bd.exec
  have hby := Bd.bytes
  have hml : c.maxLocals = 3 := hml0
  have hown : s.vm.findClass "com/example/horn_to_horn/horntohorn/language/Position" = some m.cls := findClass_of_methodNamed Bd.named
  have hnm := (name_of_methodNamed Bd.named Bd.method).1
  have X0 : Stand p l e ({ frames := 0, cells := 0, slots := 0, locals := 0 } : Room) s m #[(.ref a1), (.ref a2)] below meth c s₁ [] 0 0 := Stand.of_body Bd
  have e0 : s₁.heap = h0 := by rw [← hh, Bd.state]; rfl
  have N0 := Fr.nil n0
  have go0 : Go p.tables e below s₁ (mkF m 0 #[.val (.ref a1), .val (.ref a2), .unset] []) s₁ (entryFrame m #[(.ref a1), (.ref a2)] 3) := fun t k => castTop (ef_4 m a1 a2) k
  have go1 : Go p.tables e below s₁ (mkF m 1 #[.val (.ref a1), .val (.ref a2), .unset] [(.ref a2)]) s₁ (entryFrame m #[(.ref a1), (.ref a2)] 3) := by
    intro t k
    refine go0 t ?_
    show Steps _ _ _ (s₁.setTop (mkF m 0 #[.val (.ref a1), .val (.ref a2), .unset] [])) _
    refine XS.aloadN X0.here hx rfl (hb hby d4_0) rfl rfl ?_
    exact k
  obtain ⟨T2, X2, e2, st2⟩ := instY X0 hx hZ hown (wk hw 26 rfl) e0 (Ins.self E_a2) (g := (mkF m 1 #[.val (.ref a1), .val (.ref a2), .unset] [(.ref a2)])) rfl rfl (hb hby d4_1)
  have go3 : Go p.tables e below T2 (mkF m 8 #[.val (.ref a1), .val (.ref a2), .unset] [(.ref a2)]) s₁ (entryFrame m #[(.ref a1), (.ref a2)] 3) := by
    intro t k
    refine go1 t ?_
    show Steps _ _ _ (s₁.setTop (mkF m 1 #[.val (.ref a1), .val (.ref a2), .unset] [(.ref a2)])) _
    refine st2 _ ?_
    show Steps _ _ _ (T2.setTop (mkF m 4 #[.val (.ref a1), .val (.ref a2), .unset] [(.int (1 : Int32))])) _
    refine XS.ifNo X2.here hx rfl (hb hby d4_4) rfl ((if0 _ _).trans (feq (by decide)).1) ?_
    show Steps _ _ _ (T2.setTop (mkF m 7 #[.val (.ref a1), .val (.ref a2), .unset] [])) _
    refine XS.aloadN X2.here hx rfl (hb hby d4_7) rfl rfl ?_
    exact k
  obtain ⟨T4, X4, e4, st4⟩ := castY X2 hx hZ hown (wk hw 26 rfl) e2 (Ins.self E_a2) (g := (mkF m 8 #[.val (.ref a1), .val (.ref a2), .unset] [(.ref a2)])) rfl rfl (hb hby d4_8)
  have go5 : Go p.tables e below T4 (mkF m 13 #[.val (.ref a1), .val (.ref a2), .val (.ref a2)] [(.ref a2)]) s₁ (entryFrame m #[(.ref a1), (.ref a2)] 3) := by
    intro t k
    refine go3 t ?_
    show Steps _ _ _ (T2.setTop (mkF m 8 #[.val (.ref a1), .val (.ref a2), .unset] [(.ref a2)])) _
    refine st4 _ ?_
    show Steps _ _ _ (T4.setTop (mkF m 11 #[.val (.ref a1), .val (.ref a2), .unset] [(.ref a2)])) _
    refine XS.astoreN X4.here hx rfl (hb hby d4_11) rfl rfl (l' := #[.val (.ref a1), .val (.ref a2), .val (.ref a2)]) rfl ?_
    show Steps _ _ _ (T4.setTop (mkF m 12 #[.val (.ref a1), .val (.ref a2), .val (.ref a2)] [])) _
    refine XS.aloadN X4.here hx rfl (hb hby d4_12) rfl rfl ?_
    exact k
  obtain ⟨T6, X6, e6, st6⟩ := getF X4 hx hZ hown (host := "") (Or.inl (wk hw 9 rfl)) Via.refl e4 Fl2 (g := (mkF m 13 #[.val (.ref a1), .val (.ref a2), .val (.ref a2)] [(.ref a2)])) rfl rfl (hb hby d4_13)
  have go7 : Go p.tables e below T6 (mkF m 17 #[.val (.ref a1), .val (.ref a2), .val (.ref a2)] [(.ref a1), (.long l2)]) s₁ (entryFrame m #[(.ref a1), (.ref a2)] 3) := by
    intro t k
    refine go5 t ?_
    show Steps _ _ _ (T4.setTop (mkF m 13 #[.val (.ref a1), .val (.ref a2), .val (.ref a2)] [(.ref a2)])) _
    refine st6 _ ?_
    show Steps _ _ _ (T6.setTop (mkF m 16 #[.val (.ref a1), .val (.ref a2), .val (.ref a2)] [(.long l2)])) _
    refine XS.aloadN X6.here hx rfl (hb hby d4_16) rfl rfl ?_
    exact k
  obtain ⟨T8, X8, e8, st8⟩ := getF X6 hx hZ hown (host := "") (Or.inl (wk hw 9 rfl)) Via.refl e6 Fl1 (g := (mkF m 17 #[.val (.ref a1), .val (.ref a2), .val (.ref a2)] [(.ref a1), (.long l2)])) rfl rfl (hb hby d4_17)
  have go9 : Go p.tables e below T8 (mkF m 21 #[.val (.ref a1), .val (.ref a2), .val (.ref a2)] [(.int (lcmpW l2 l1))]) s₁ (entryFrame m #[(.ref a1), (.ref a2)] 3) := by
    intro t k
    refine go7 t ?_
    show Steps _ _ _ (T6.setTop (mkF m 17 #[.val (.ref a1), .val (.ref a2), .val (.ref a2)] [(.ref a1), (.long l2)])) _
    refine st8 _ ?_
    show Steps _ _ _ (T8.setTop (mkF m 20 #[.val (.ref a1), .val (.ref a2), .val (.ref a2)] [(.long l1), (.long l2)])) _
    refine XS.lcmp X8.here hx rfl (hb hby d4_20) rfl ?_
    exact k
  by_cases hc21 : (lcmpW l2 l1) = (0 : Int32)
  · skip
    have go10 : Go p.tables e below T8 (mkF m 25 #[.val (.ref a1), .val (.ref a2), .val (.ref a2)] [(.ref a2)]) s₁ (entryFrame m #[(.ref a1), (.ref a2)] 3) := by
      intro t k
      refine go9 t ?_
      show Steps _ _ _ (T8.setTop (mkF m 21 #[.val (.ref a1), .val (.ref a2), .val (.ref a2)] [(.int (lcmpW l2 l1))])) _
      refine XS.ifNo X8.here hx rfl (hb hby d4_21) rfl ((if0 _ _).trans (teq hc21).2) ?_
      show Steps _ _ _ (T8.setTop (mkF m 24 #[.val (.ref a1), .val (.ref a2), .val (.ref a2)] [])) _
      refine XS.aloadN X8.here hx rfl (hb hby d4_24) rfl rfl ?_
      exact k
    obtain ⟨T11, X11, e11, st11⟩ := getF X8 hx hZ hown (host := "") (Or.inl (wk hw 11 rfl)) Via.refl e8 Fc2 (g := (mkF m 25 #[.val (.ref a1), .val (.ref a2), .val (.ref a2)] [(.ref a2)])) rfl rfl (hb hby d4_25)
    have go12 : Go p.tables e below T11 (mkF m 29 #[.val (.ref a1), .val (.ref a2), .val (.ref a2)] [(.ref a1), (.int c2)]) s₁ (entryFrame m #[(.ref a1), (.ref a2)] 3) := by
      intro t k
      refine go10 t ?_
      show Steps _ _ _ (T8.setTop (mkF m 25 #[.val (.ref a1), .val (.ref a2), .val (.ref a2)] [(.ref a2)])) _
      refine st11 _ ?_
      show Steps _ _ _ (T11.setTop (mkF m 28 #[.val (.ref a1), .val (.ref a2), .val (.ref a2)] [(.int c2)])) _
      refine XS.aloadN X11.here hx rfl (hb hby d4_28) rfl rfl ?_
      exact k
    obtain ⟨T13, X13, e13, st13⟩ := getF X11 hx hZ hown (host := "") (Or.inl (wk hw 11 rfl)) Via.refl e11 Fc1 (g := (mkF m 29 #[.val (.ref a1), .val (.ref a2), .val (.ref a2)] [(.ref a1), (.int c2)])) rfl rfl (hb hby d4_29)
    have go14 : Go p.tables e below T13 (mkF m 32 #[.val (.ref a1), .val (.ref a2), .val (.ref a2)] [(.int c1), (.int c2)]) s₁ (entryFrame m #[(.ref a1), (.ref a2)] 3) := by
      intro t k
      refine go12 t ?_
      show Steps _ _ _ (T11.setTop (mkF m 29 #[.val (.ref a1), .val (.ref a2), .val (.ref a2)] [(.ref a1), (.int c2)])) _
      refine st13 _ ?_
      exact k
    by_cases hc32 : c2 = c1
    · skip
      have go15 : Go p.tables e below T13 (mkF m 40 #[.val (.ref a1), .val (.ref a2), .val (.ref a2)] [(.int (1 : Int32))]) s₁ (entryFrame m #[(.ref a1), (.ref a2)] 3) := by
        intro t k
        refine go14 t ?_
        show Steps _ _ _ (T13.setTop (mkF m 32 #[.val (.ref a1), .val (.ref a2), .val (.ref a2)] [(.int c1), (.int c2)])) _
        refine XS.icmpNo X13.here hx rfl (hb hby d4_32) rfl (teq hc32).2 ?_
        show Steps _ _ _ (T13.setTop (mkF m 35 #[.val (.ref a1), .val (.ref a2), .val (.ref a2)] [])) _
        refine XS.iconst X13.here hx rfl (hb hby d4_35) ?_
        show Steps _ _ _ (T13.setTop (mkF m 36 #[.val (.ref a1), .val (.ref a2), .val (.ref a2)] [(.int (1 : Int32))])) _
        refine XS.goto X13.here hx rfl (pc0 := 36) (pc' := 40) rfl (hb hby d4_36) (by decide) (by decide) ?_
        exact k
      obtain ⟨fs, hr, hrun, hended, hW, hsame⟩ := X13.leave (v := some (.int (1 : Int32))) (fun h => by rw [Bd.returns] at h; cases h)
      refine ⟨_, _, go15 _ ?_, hrun, hended, _, _, rfl, ?_, ⟨_, rfl⟩, hW, hsame.mono (by decide) (by decide)⟩
      · exact retN X13 hx (t := .boolean) Bd.returns (by simp) (hb hby d4_40) hr
      · show QP (.int (eqv l2 l1 c2 c1)) h0 n0 _ T13.heap _
        rw [e13]
        exact ⟨by simp only [eqv]; rw [if_pos hc21, if_pos hc32], N0, rfl⟩
    · skip
      have go16 : Go p.tables e below T13 (mkF m 40 #[.val (.ref a1), .val (.ref a2), .val (.ref a2)] [(.int (0 : Int32))]) s₁ (entryFrame m #[(.ref a1), (.ref a2)] 3) := by
        intro t k
        refine go14 t ?_
        show Steps _ _ _ (T13.setTop (mkF m 32 #[.val (.ref a1), .val (.ref a2), .val (.ref a2)] [(.int c1), (.int c2)])) _
        refine XS.icmpYes X13.here hx rfl (pc0 := 32) (pc' := 39) rfl (hb hby d4_32) rfl (feq hc32).2 (by decide) (by decide) ?_
        show Steps _ _ _ (T13.setTop (mkF m 39 #[.val (.ref a1), .val (.ref a2), .val (.ref a2)] [])) _
        refine XS.iconst X13.here hx rfl (hb hby d4_39) ?_
        exact k
      obtain ⟨fs, hr, hrun, hended, hW, hsame⟩ := X13.leave (v := some (.int (0 : Int32))) (fun h => by rw [Bd.returns] at h; cases h)
      refine ⟨_, _, go16 _ ?_, hrun, hended, _, _, rfl, ?_, ⟨_, rfl⟩, hW, hsame.mono (by decide) (by decide)⟩
      · exact retN X13 hx (t := .boolean) Bd.returns (by simp) (hb hby d4_40) hr
      · show QP (.int (eqv l2 l1 c2 c1)) h0 n0 _ T13.heap _
        rw [e13]
        exact ⟨by simp only [eqv]; rw [if_pos hc21, if_neg hc32], N0, rfl⟩
  · skip
    have go17 : Go p.tables e below T8 (mkF m 40 #[.val (.ref a1), .val (.ref a2), .val (.ref a2)] [(.int (0 : Int32))]) s₁ (entryFrame m #[(.ref a1), (.ref a2)] 3) := by
      intro t k
      refine go9 t ?_
      show Steps _ _ _ (T8.setTop (mkF m 21 #[.val (.ref a1), .val (.ref a2), .val (.ref a2)] [(.int (lcmpW l2 l1))])) _
      refine XS.ifYes X8.here hx rfl (pc0 := 21) (pc' := 39) rfl (hb hby d4_21) rfl ((if0 _ _).trans (feq hc21).2) (by decide) (by decide) ?_
      show Steps _ _ _ (T8.setTop (mkF m 39 #[.val (.ref a1), .val (.ref a2), .val (.ref a2)] [])) _
      refine XS.iconst X8.here hx rfl (hb hby d4_39) ?_
      exact k
    obtain ⟨fs, hr, hrun, hended, hW, hsame⟩ := X8.leave (v := some (.int (0 : Int32))) (fun h => by rw [Bd.returns] at h; cases h)
    refine ⟨_, _, go17 _ ?_, hrun, hended, _, _, rfl, ?_, ⟨_, rfl⟩, hW, hsame.mono (by decide) (by decide)⟩
    · exact retN X8 hx (t := .boolean) Bd.returns (by simp) (hb hby d4_40) hr
    · show QP (.int (eqv l2 l1 c2 c1)) h0 n0 _ T8.heap _
      rw [e8]
      exact ⟨by simp only [eqv]; rw [if_neg hc21], N0, rfl⟩
theorem ef_4n (m : MethodId) (x0 : Addr) : entryFrame m #[(.ref x0), .null] 3 = mkF m 0 #[.val (.ref x0), .val .null, .unset] [] := by first | (simp [entryFrame, mkF, argsToLocals, Value.category]; done) | rfl
set_option maxRecDepth 65536 in
set_option maxHeartbeats 40000000 in
theorem rm4_n (l : Launch) (Z : State) (a0 : Array Value) (hw : ∀ d ∈ tables_1, d.before a0 Z = true) (ws : List Jvm.Cond) (a1 : Addr) (h0 : Heap) (n0 : Nat) (Z0 : n0 ≤ h0.size)  :
    MetFree l (⟨"com/example/horn_to_horn/horntohorn/language/Position", "equals", "(Ljava/lang/Object;)Z"⟩ : MethodName) (head1 (Jvm.Cond.code (⟨"com/example/horn_to_horn/horntohorn/language/Position", "equals", "(Ljava/lang/Object;)Z"⟩ : MethodName) prog_38_method_4_code 3 (some .boolean) :: ws) ({ frames := 0, cells := 0, slots := 0, locals := 0 } : Room)) (fun a U => a = #[(.ref a1), .null] ∧ Z.Warmed39 U.vm ∧ U.heap = h0) (fun _ _ _ _ _ => True) (fun _ U o U' => ∃ v L, o = .returned v ∧ QP (.int (0 : Int32)) h0 n0 v U'.heap L ∧ FrameEnd U o U' L ({ frames := 0, cells := 0, slots := 0, locals := 0 } : Room).cells ({ frames := 0, cells := 0, slots := 0, locals := 0 } : Room).slots) := by
  refine MetFree.of_bodySF (plainFor_of_name pn_4) hisR ?_
  intro p e s m args below meth c s₁ Bd hml0 hP hK
  obtain ⟨rfl, hZ, hh⟩ := hP
  have hx := Bd.exec
  have hby := Bd.bytes
  have hml : c.maxLocals = 3 := hml0
  have hown : s.vm.findClass "com/example/horn_to_horn/horntohorn/language/Position" = some m.cls := findClass_of_methodNamed Bd.named
  have hnm := (name_of_methodNamed Bd.named Bd.method).1
  have X0 : Stand p l e ({ frames := 0, cells := 0, slots := 0, locals := 0 } : Room) s m #[(.ref a1), .null] below meth c s₁ [] 0 0 := Stand.of_body Bd
  have e0 : s₁.heap = h0 := by rw [← hh, Bd.state]; rfl
  have N0 := Fr.nil n0
  have go0 : Go p.tables e below s₁ (mkF m 0 #[.val (.ref a1), .val .null, .unset] []) s₁ (entryFrame m #[(.ref a1), .null] 3) := fun t k => castTop (ef_4n m a1) k
  have go1 : Go p.tables e below s₁ (mkF m 40 #[.val (.ref a1), .val .null, .unset] [(.int (0 : Int32))]) s₁ (entryFrame m #[(.ref a1), .null] 3) := by
    intro t k
    refine go0 t ?_
    show Steps _ _ _ (s₁.setTop (mkF m 0 #[.val (.ref a1), .val .null, .unset] [])) _
    refine XS.aloadN X0.here hx rfl (hb hby d4_0) rfl rfl ?_
    show Steps _ _ _ (s₁.setTop (mkF m 1 #[.val (.ref a1), .val .null, .unset] [.null])) _
    refine X0.instanceofNull hx (g := (mkF m 1 #[.val (.ref a1), .val .null, .unset] [.null])) rfl rfl (hb hby d4_1) _ ?_
    show Steps _ _ _ (s₁.setTop (mkF m 4 #[.val (.ref a1), .val .null, .unset] [(.int (0 : Int32))])) _
    refine XS.ifYes X0.here hx rfl (pc0 := 4) (pc' := 39) rfl (hb hby d4_4) rfl ((if0 _ _).trans (teq rfl).1) (by decide) (by decide) ?_
    show Steps _ _ _ (s₁.setTop (mkF m 39 #[.val (.ref a1), .val .null, .unset] [])) _
    refine XS.iconst X0.here hx rfl (hb hby d4_39) ?_
    exact k
  obtain ⟨fs, hr, hrun, hended, hW, hsame⟩ := X0.leave (v := some (.int (0 : Int32))) (fun h => by rw [Bd.returns] at h; cases h)
  refine ⟨_, _, go1 _ ?_, hrun, hended, _, _, rfl, ?_, ⟨_, rfl⟩, hW, hsame.mono (by decide) (by decide)⟩
  · exact retN X0 hx (t := .boolean) Bd.returns (by simp) (hb hby d4_40) hr
  · show QP (.int (0 : Int32)) h0 n0 _ s₁.heap _
    rw [e0]
    exact ⟨rfl, N0, rfl⟩
set_option maxRecDepth 65536 in
set_option maxHeartbeats 40000000 in
theorem rm4_l (l : Launch) (Z : State) (a0 : Array Value) (hw : ∀ d ∈ tables_1, d.before a0 Z = true) (ws : List Jvm.Cond) (a1 a2 : Addr) (h0 : Heap) (n0 : Nat) (Z0 : n0 ≤ h0.size) (E_a2 : Exa Z h0 a2 "java/lang/Long") :
    MetFree l (⟨"com/example/horn_to_horn/horntohorn/language/Position", "equals", "(Ljava/lang/Object;)Z"⟩ : MethodName) (head1 (Jvm.Cond.code (⟨"com/example/horn_to_horn/horntohorn/language/Position", "equals", "(Ljava/lang/Object;)Z"⟩ : MethodName) prog_38_method_4_code 3 (some .boolean) :: ws) ({ frames := 0, cells := 0, slots := 0, locals := 0 } : Room)) (fun a U => a = #[(.ref a1), (.ref a2)] ∧ Z.Warmed39 U.vm ∧ U.heap = h0) (fun _ _ _ _ _ => True) (fun _ U o U' => ∃ v L, o = .returned v ∧ QP (.int (0 : Int32)) h0 n0 v U'.heap L ∧ FrameEnd U o U' L ({ frames := 0, cells := 0, slots := 0, locals := 0 } : Room).cells ({ frames := 0, cells := 0, slots := 0, locals := 0 } : Room).slots) := by
  refine MetFree.of_bodySF (plainFor_of_name pn_4) hisR ?_
  intro p e s m args below meth c s₁ Bd hml0 hP hK
  obtain ⟨rfl, hZ, hh⟩ := hP
  have hx := Bd.exec
  have hby := Bd.bytes
  have hml : c.maxLocals = 3 := hml0
  have hown : s.vm.findClass "com/example/horn_to_horn/horntohorn/language/Position" = some m.cls := findClass_of_methodNamed Bd.named
  have hnm := (name_of_methodNamed Bd.named Bd.method).1
  have X0 : Stand p l e ({ frames := 0, cells := 0, slots := 0, locals := 0 } : Room) s m #[(.ref a1), (.ref a2)] below meth c s₁ [] 0 0 := Stand.of_body Bd
  have e0 : s₁.heap = h0 := by rw [← hh, Bd.state]; rfl
  have N0 := Fr.nil n0
  have go0 : Go p.tables e below s₁ (mkF m 0 #[.val (.ref a1), .val (.ref a2), .unset] []) s₁ (entryFrame m #[(.ref a1), (.ref a2)] 3) := fun t k => castTop (ef_4 m a1 a2) k
  have go1 : Go p.tables e below s₁ (mkF m 1 #[.val (.ref a1), .val (.ref a2), .unset] [(.ref a2)]) s₁ (entryFrame m #[(.ref a1), (.ref a2)] 3) := by
    intro t k
    refine go0 t ?_
    show Steps _ _ _ (s₁.setTop (mkF m 0 #[.val (.ref a1), .val (.ref a2), .unset] [])) _
    refine XS.aloadN X0.here hx rfl (hb hby d4_0) rfl rfl ?_
    exact k
  obtain ⟨T2, X2, e2, st2⟩ := instNo X0 hx hZ hown (wk hw 26 rfl) e0 E_a2 (own_notP (wk hw 28 rfl) (wk hw 29 rfl) (wk hw 30 rfl) (wk hw 1 rfl)) (g := (mkF m 1 #[.val (.ref a1), .val (.ref a2), .unset] [(.ref a2)])) rfl rfl (hb hby d4_1)
  have go3 : Go p.tables e below T2 (mkF m 40 #[.val (.ref a1), .val (.ref a2), .unset] [(.int (0 : Int32))]) s₁ (entryFrame m #[(.ref a1), (.ref a2)] 3) := by
    intro t k
    refine go1 t ?_
    show Steps _ _ _ (s₁.setTop (mkF m 1 #[.val (.ref a1), .val (.ref a2), .unset] [(.ref a2)])) _
    refine st2 _ ?_
    show Steps _ _ _ (T2.setTop (mkF m 4 #[.val (.ref a1), .val (.ref a2), .unset] [(.int (0 : Int32))])) _
    refine XS.ifYes X2.here hx rfl (pc0 := 4) (pc' := 39) rfl (hb hby d4_4) rfl ((if0 _ _).trans (teq rfl).1) (by decide) (by decide) ?_
    show Steps _ _ _ (T2.setTop (mkF m 39 #[.val (.ref a1), .val (.ref a2), .unset] [])) _
    refine XS.iconst X2.here hx rfl (hb hby d4_39) ?_
    exact k
  obtain ⟨fs, hr, hrun, hended, hW, hsame⟩ := X2.leave (v := some (.int (0 : Int32))) (fun h => by rw [Bd.returns] at h; cases h)
  refine ⟨_, _, go3 _ ?_, hrun, hended, _, _, rfl, ?_, ⟨_, rfl⟩, hW, hsame.mono (by decide) (by decide)⟩
  · exact retN X2 hx (t := .boolean) Bd.returns (by simp) (hb hby d4_40) hr
  · show QP (.int (0 : Int32)) h0 n0 _ T2.heap _
    rw [e2]
    exact ⟨rfl, N0, rfl⟩
theorem pn_0 : plainName "com/example/horn_to_horn/horntohorn/language/PositionEqualsPinLaw" = true := by first | (simp [plainName, overriddenIn]; done) | decide +kernel
theorem ef_0 (m : MethodId) (x0 : Int64) (x1 : Int32) (x2 : Int64) (x3 : Int32) (x4 : Int32) : entryFrame m #[(.long x0), (.int x1), (.long x2), (.int x3), (.int x4)] maxLocals = mkF m 0 #[.val (.long x0), .second, .val (.int x1), .val (.long x2), .second, .val (.int x3), .val (.int x4), .unset, .unset, .unset, .unset, .unset, .unset, .unset, .unset, .unset, .unset, .unset, .unset, .unset] [] := by first | (simp [entryFrame, mkF, argsToLocals, Value.category, maxLocals]; done) | rfl
theorem pd_2 : parseMethodDescriptor "(JI)V" = some ⟨[.long, .int], none⟩ := by decide +kernel
theorem pd_3 : parseMethodDescriptor "(J)Ljava/lang/Long;" = some ⟨[.long], some (.object "java/lang/Long")⟩ := by decide +kernel
theorem pd_4 : parseMethodDescriptor "(Ljava/lang/Object;)Z" = some ⟨[(.object "java/lang/Object")], some .boolean⟩ := by decide +kernel
set_option maxRecDepth 65536 in
set_option maxHeartbeats 40000000 in
theorem rm0 (l : Launch) (Z : State) (a0 : Array Value) (hw : ∀ d ∈ tables_1, d.before a0 Z = true) (ws : List Jvm.Cond) (q1 : Int64) (p2 : Int32) (q3 : Int64) (p4 p5 : Int32) (wC : Addr) (clC : Cell) (h0 : Heap) (n0 : Nat) (Z0 : n0 ≤ h0.size) (HC : LC Z h0 wC clC) :
    MetFree l x (head1 (Jvm.Cond.code x code maxLocals ret :: ws) room_1) (fun a U => a = #[(.long q1), (.int p2), (.long q3), (.int p4), (.int p5)] ∧ Z.Warmed39 U.vm ∧ U.heap = h0) (fun _ _ _ _ _ => True) (fun _ U o U' => ∃ v L, o = .returned v ∧ QL (.int 1) h0 n0 v U'.heap L ∧ FrameEnd U o U' L room_1.cells room_1.slots) := by
  refine MetFree.of_bodySF (plainFor_of_name pn_0) hisR ?_
  intro p e s m args below meth c s₁ Bd hml0 hP hK
  obtain ⟨rfl, hZ, hh⟩ := hP
  have hx := Bd.exec
  have hby := Bd.bytes
  have hml : c.maxLocals = 20 := hml0
  have hown : s.vm.findClass "com/example/horn_to_horn/horntohorn/language/PositionEqualsPinLaw" = some m.cls := findClass_of_methodNamed Bd.named
  have hnm := (name_of_methodNamed Bd.named Bd.method).1
  have X0 : Stand p l e room_1 s m #[(.long q1), (.int p2), (.long q3), (.int p4), (.int p5)] below meth c s₁ [] 0 0 := Stand.of_body Bd
  have e0 : s₁.heap = h0 := by rw [← hh, Bd.state]; rfl
  have N0 := Fr.nil n0
  have go0 : Go p.tables e below s₁ (mkF m 0 #[.val (.long q1), .second, .val (.int p2), .val (.long q3), .second, .val (.int p4), .val (.int p5), .unset, .unset, .unset, .unset, .unset, .unset, .unset, .unset, .unset, .unset, .unset, .unset, .unset] []) s₁ (entryFrame m #[(.long q1), (.int p2), (.long q3), (.int p4), (.int p5)] maxLocals) := fun t k => castTop (ef_0 m q1 p2 q3 p4 p5) k
  obtain ⟨T2, h2, X2, e2, E2, A2, D2, -, st2⟩ := newO X0 hx hZ hown (wk hw 0 rfl) (wk hw 1 rfl) (wk hw 2 rfl) e0 (g := (mkF m 0 #[.val (.long q1), .second, .val (.int p2), .val (.long q3), .second, .val (.int p4), .val (.int p5), .unset, .unset, .unset, .unset, .unset, .unset, .unset, .unset, .unset, .unset, .unset, .unset, .unset] [])) rfl (hb hby at_0) (by decide) (by decide)
  obtain ⟨b1, g2⟩ : ∃ z, z = h0.size := ⟨_, rfl⟩
  rw [← g2] at A2 D2 st2
  have g_b1 : n0 ≤ b1 := Nat.le_trans Z0 (Nat.le_of_eq g2.symm)
  have sz_b1 : h0.size ≤ b1 := Nat.le_trans (Keep.refl h0 []).1 (Nat.le_of_eq g2.symm)
  have F_line_b1 : Fld Z h2 b1 "com/example/horn_to_horn/horntohorn/language/Position" "line" "J" (.long (0 : Int64)) := D2 (Or.inr (wk hw 10 rfl)) (ty := .long) (by decide)
  have F_column_b1 : Fld Z h2 b1 "com/example/horn_to_horn/horntohorn/language/Position" "column" "I" (.int (0 : Int32)) := D2 (Or.inr (wk hw 12 rfl)) (ty := .int) (by decide)
  have go5 : Go p.tables e below T2 (mkF m 6 #[.val (.long q1), .second, .val (.int p2), .val (.long q3), .second, .val (.int p4), .val (.int p5), .unset, .unset, .unset, .unset, .unset, .unset, .unset, .unset, .unset, .unset, .unset, .unset, .unset] [(.int p2), (.long q1), (.ref b1), (.ref b1)]) s₁ (entryFrame m #[(.long q1), (.int p2), (.long q3), (.int p4), (.int p5)] maxLocals) := by
    intro t k
    refine go0 t ?_
    show Steps _ _ _ (s₁.setTop (mkF m 0 #[.val (.long q1), .second, .val (.int p2), .val (.long q3), .second, .val (.int p4), .val (.int p5), .unset, .unset, .unset, .unset, .unset, .unset, .unset, .unset, .unset, .unset, .unset, .unset, .unset] [])) _
    refine st2 _ ?_
    show Steps _ _ _ (T2.setTop (mkF m 3 #[.val (.long q1), .second, .val (.int p2), .val (.long q3), .second, .val (.int p4), .val (.int p5), .unset, .unset, .unset, .unset, .unset, .unset, .unset, .unset, .unset, .unset, .unset, .unset, .unset] [(.ref b1)])) _
    refine XS.dup X2.here hx rfl (hb hby at_3) rfl rfl ?_
    show Steps _ _ _ (T2.setTop (mkF m 4 #[.val (.long q1), .second, .val (.int p2), .val (.long q3), .second, .val (.int p4), .val (.int p5), .unset, .unset, .unset, .unset, .unset, .unset, .unset, .unset, .unset, .unset, .unset, .unset, .unset] [(.ref b1), (.ref b1)])) _
    refine XS.lloadN X2.here hx rfl (hb hby at_4) rfl ?_
    show Steps _ _ _ (T2.setTop (mkF m 5 #[.val (.long q1), .second, .val (.int p2), .val (.long q3), .second, .val (.int p4), .val (.int p5), .unset, .unset, .unset, .unset, .unset, .unset, .unset, .unset, .unset, .unset, .unset, .unset, .unset] [(.long q1), (.ref b1), (.ref b1)])) _
    refine XS.iloadN X2.here hx rfl (hb hby at_5) rfl ?_
    exact k
  have f4 : n0 ≤ h2.size := (Nat.le_trans Z0 E2.1)
  obtain ⟨_, _, ⟨T3, L3, k3, n3⟩, -, X3, ⟨Lc3, hQ3, l3, y3, z3⟩, st3⟩ := X2.specialBack hx (y := (⟨"com/example/horn_to_horn/horntohorn/language/Position", "<init>", "(JI)V"⟩ : MethodName)) rfl hown (mvT hZ (wk hw 3 rfl)) (mvT hZ (wk hw 4 rfl)) (mvT hZ (wk hw 5 rfl)) (by decide) (backOf (W := 1) (rm1 l Z a0 hw [] b1 q1 p2 (.long (0 : Int64)) (.int (0 : Int32)) h2 n0 f4 A2 F_line_b1 F_column_b1 g_b1) hZ (wk hw 5 rfl) (wk hw 2 rfl) (by decide) (by decide)) (g := (mkF m 6 #[.val (.long q1), .second, .val (.int p2), .val (.long q3), .second, .val (.int p4), .val (.int p5), .unset, .unset, .unset, .unset, .unset, .unset, .unset, .unset, .unset, .unset, .unset, .unset, .unset] [(.int p2), (.long q1), (.ref b1), (.ref b1)])) rfl (by rw [hml]; rfl) (Steps.refl _) (a := b1) (argsL := [(.long q1), (.int p2)]) (rest := [(.ref b1)]) (lenOf pd_2 rfl) rfl (by show 2 * 0 + _ ≤ _; exact Nat.le_of_eq rfl) (hb hby at_6) (fun _ _ => ⟨rfl, e2, (by decide : 1 + 0 ≤ _), (by decide : 2 + 0 ≤ _)⟩)
  dsimp only [Pt.U, Pt.locs, Pt.cells, Pt.slots] at X3 l3 y3 z3 st3 hQ3
  subst l3 y3 z3
  obtain ⟨rfl, N3q, K3, Fl3, Fc3⟩ := hQ3
  have N3 := Fr.app N0 N3q
  have go6 : Go p.tables e below T3 (mkF m 15 #[.val (.long q1), .second, .val (.int p2), .val (.long q3), .second, .val (.int p4), .val (.int p5), .val (.ref b1), .unset, .unset, .unset, .unset, .unset, .unset, .unset, .unset, .unset, .unset, .unset, .unset] [(.int (p5 &&& (1 : Int32)))]) s₁ (entryFrame m #[(.long q1), (.int p2), (.long q3), (.int p4), (.int p5)] maxLocals) := by
    intro t k
    refine go5 t ?_
    show Steps _ _ _ (T2.setTop (mkF m 6 #[.val (.long q1), .second, .val (.int p2), .val (.long q3), .second, .val (.int p4), .val (.int p5), .unset, .unset, .unset, .unset, .unset, .unset, .unset, .unset, .unset, .unset, .unset, .unset, .unset] [(.int p2), (.long q1), (.ref b1), (.ref b1)])) _
    refine st3.trans ?_
    show Steps _ _ _ (T3.setTop (mkF m 9 #[.val (.long q1), .second, .val (.int p2), .val (.long q3), .second, .val (.int p4), .val (.int p5), .unset, .unset, .unset, .unset, .unset, .unset, .unset, .unset, .unset, .unset, .unset, .unset, .unset] [(.ref b1)])) _
    refine XS.astore X3.here hx rfl (hb hby at_9) rfl rfl (l' := #[.val (.long q1), .second, .val (.int p2), .val (.long q3), .second, .val (.int p4), .val (.int p5), .val (.ref b1), .unset, .unset, .unset, .unset, .unset, .unset, .unset, .unset, .unset, .unset, .unset, .unset]) rfl ?_
    show Steps _ _ _ (T3.setTop (mkF m 11 #[.val (.long q1), .second, .val (.int p2), .val (.long q3), .second, .val (.int p4), .val (.int p5), .val (.ref b1), .unset, .unset, .unset, .unset, .unset, .unset, .unset, .unset, .unset, .unset, .unset, .unset] [])) _
    refine XS.iload X3.here hx rfl (hb hby at_11) rfl ?_
    show Steps _ _ _ (T3.setTop (mkF m 13 #[.val (.long q1), .second, .val (.int p2), .val (.long q3), .second, .val (.int p4), .val (.int p5), .val (.ref b1), .unset, .unset, .unset, .unset, .unset, .unset, .unset, .unset, .unset, .unset, .unset, .unset] [(.int p5)])) _
    refine XS.iconst X3.here hx rfl (hb hby at_13) ?_
    show Steps _ _ _ (T3.setTop (mkF m 14 #[.val (.long q1), .second, .val (.int p2), .val (.long q3), .second, .val (.int p4), .val (.int p5), .val (.ref b1), .unset, .unset, .unset, .unset, .unset, .unset, .unset, .unset, .unset, .unset, .unset, .unset] [(.int (1 : Int32)), (.int p5)])) _
    refine XS.iand X3.here hx rfl (hb hby at_14) rfl ?_
    exact k
  have go7 : Go p.tables e below T3 (mkF m 23 #[.val (.long q1), .second, .val (.int p2), .val (.long q3), .second, .val (.int p4), .val (.int p5), .val (.ref b1), .unset, .unset, .unset, .unset, .unset, .unset, .unset, .unset, .unset, .unset, .unset, .unset] [(.long (if (p5 &&& (1 : Int32)) = (0 : Int32) then q3 else q1))]) s₁ (entryFrame m #[(.long q1), (.int p2), (.long q3), (.int p4), (.int p5)] maxLocals) := by
    intro t k
    refine go6 t ?_
    by_cases hc15 : (p5 &&& (1 : Int32)) = (0 : Int32)
    · try simp only [if_pos hc15] at k
      show Steps _ _ _ (T3.setTop (mkF m 15 #[.val (.long q1), .second, .val (.int p2), .val (.long q3), .second, .val (.int p4), .val (.int p5), .val (.ref b1), .unset, .unset, .unset, .unset, .unset, .unset, .unset, .unset, .unset, .unset, .unset, .unset] [(.int (p5 &&& (1 : Int32)))])) _
      refine XS.ifYes X3.here hx rfl (pc0 := 15) (pc' := 22) rfl (hb hby at_15) rfl ((if0 _ _).trans (teq hc15).1) (by decide) (by decide) ?_
      show Steps _ _ _ (T3.setTop (mkF m 22 #[.val (.long q1), .second, .val (.int p2), .val (.long q3), .second, .val (.int p4), .val (.int p5), .val (.ref b1), .unset, .unset, .unset, .unset, .unset, .unset, .unset, .unset, .unset, .unset, .unset, .unset] [])) _
      refine XS.lloadN X3.here hx rfl (hb hby at_22) rfl ?_
      exact k
    · try simp only [if_neg hc15] at k
      show Steps _ _ _ (T3.setTop (mkF m 15 #[.val (.long q1), .second, .val (.int p2), .val (.long q3), .second, .val (.int p4), .val (.int p5), .val (.ref b1), .unset, .unset, .unset, .unset, .unset, .unset, .unset, .unset, .unset, .unset, .unset, .unset] [(.int (p5 &&& (1 : Int32)))])) _
      refine XS.ifNo X3.here hx rfl (hb hby at_15) rfl ((if0 _ _).trans (feq hc15).1) ?_
      show Steps _ _ _ (T3.setTop (mkF m 18 #[.val (.long q1), .second, .val (.int p2), .val (.long q3), .second, .val (.int p4), .val (.int p5), .val (.ref b1), .unset, .unset, .unset, .unset, .unset, .unset, .unset, .unset, .unset, .unset, .unset, .unset] [])) _
      refine XS.lloadN X3.here hx rfl (hb hby at_18) rfl ?_
      show Steps _ _ _ (T3.setTop (mkF m 19 #[.val (.long q1), .second, .val (.int p2), .val (.long q3), .second, .val (.int p4), .val (.int p5), .val (.ref b1), .unset, .unset, .unset, .unset, .unset, .unset, .unset, .unset, .unset, .unset, .unset, .unset] [(.long q1)])) _
      refine XS.goto X3.here hx rfl (pc0 := 19) (pc' := 23) rfl (hb hby at_19) (by decide) (by decide) ?_
      exact k
  have go8 : Go p.tables e below T3 (mkF m 29 #[.val (.long q1), .second, .val (.int p2), .val (.long q3), .second, .val (.int p4), .val (.int p5), .val (.ref b1), .val (.long (if (p5 &&& (1 : Int32)) = (0 : Int32) then q3 else q1)), .second, .unset, .unset, .unset, .unset, .unset, .unset, .unset, .unset, .unset, .unset] [(.int (p5 &&& (2 : Int32)))]) s₁ (entryFrame m #[(.long q1), (.int p2), (.long q3), (.int p4), (.int p5)] maxLocals) := by
    intro t k
    refine go7 t ?_
    show Steps _ _ _ (T3.setTop (mkF m 23 #[.val (.long q1), .second, .val (.int p2), .val (.long q3), .second, .val (.int p4), .val (.int p5), .val (.ref b1), .unset, .unset, .unset, .unset, .unset, .unset, .unset, .unset, .unset, .unset, .unset, .unset] [(.long (if (p5 &&& (1 : Int32)) = (0 : Int32) then q3 else q1))])) _
    refine XS.lstore X3.here hx rfl (hb hby at_23) rfl (l' := #[.val (.long q1), .second, .val (.int p2), .val (.long q3), .second, .val (.int p4), .val (.int p5), .val (.ref b1), .val (.long (if (p5 &&& (1 : Int32)) = (0 : Int32) then q3 else q1)), .second, .unset, .unset, .unset, .unset, .unset, .unset, .unset, .unset, .unset, .unset]) rfl ?_
    show Steps _ _ _ (T3.setTop (mkF m 25 #[.val (.long q1), .second, .val (.int p2), .val (.long q3), .second, .val (.int p4), .val (.int p5), .val (.ref b1), .val (.long (if (p5 &&& (1 : Int32)) = (0 : Int32) then q3 else q1)), .second, .unset, .unset, .unset, .unset, .unset, .unset, .unset, .unset, .unset, .unset] [])) _
    refine XS.iload X3.here hx rfl (hb hby at_25) rfl ?_
    show Steps _ _ _ (T3.setTop (mkF m 27 #[.val (.long q1), .second, .val (.int p2), .val (.long q3), .second, .val (.int p4), .val (.int p5), .val (.ref b1), .val (.long (if (p5 &&& (1 : Int32)) = (0 : Int32) then q3 else q1)), .second, .unset, .unset, .unset, .unset, .unset, .unset, .unset, .unset, .unset, .unset] [(.int p5)])) _
    refine XS.iconst X3.here hx rfl (hb hby at_27) ?_
    show Steps _ _ _ (T3.setTop (mkF m 28 #[.val (.long q1), .second, .val (.int p2), .val (.long q3), .second, .val (.int p4), .val (.int p5), .val (.ref b1), .val (.long (if (p5 &&& (1 : Int32)) = (0 : Int32) then q3 else q1)), .second, .unset, .unset, .unset, .unset, .unset, .unset, .unset, .unset, .unset, .unset] [(.int (2 : Int32)), (.int p5)])) _
    refine XS.iand X3.here hx rfl (hb hby at_28) rfl ?_
    exact k
  have go9 : Go p.tables e below T3 (mkF m 38 #[.val (.long q1), .second, .val (.int p2), .val (.long q3), .second, .val (.int p4), .val (.int p5), .val (.ref b1), .val (.long (if (p5 &&& (1 : Int32)) = (0 : Int32) then q3 else q1)), .second, .unset, .unset, .unset, .unset, .unset, .unset, .unset, .unset, .unset, .unset] [(.int (if (p5 &&& (2 : Int32)) = (0 : Int32) then p4 else p2))]) s₁ (entryFrame m #[(.long q1), (.int p2), (.long q3), (.int p4), (.int p5)] maxLocals) := by
    intro t k
    refine go8 t ?_
    by_cases hc29 : (p5 &&& (2 : Int32)) = (0 : Int32)
    · try simp only [if_pos hc29] at k
      show Steps _ _ _ (T3.setTop (mkF m 29 #[.val (.long q1), .second, .val (.int p2), .val (.long q3), .second, .val (.int p4), .val (.int p5), .val (.ref b1), .val (.long (if (p5 &&& (1 : Int32)) = (0 : Int32) then q3 else q1)), .second, .unset, .unset, .unset, .unset, .unset, .unset, .unset, .unset, .unset, .unset] [(.int (p5 &&& (2 : Int32)))])) _
      refine XS.ifYes X3.here hx rfl (pc0 := 29) (pc' := 36) rfl (hb hby at_29) rfl ((if0 _ _).trans (teq hc29).1) (by decide) (by decide) ?_
      show Steps _ _ _ (T3.setTop (mkF m 36 #[.val (.long q1), .second, .val (.int p2), .val (.long q3), .second, .val (.int p4), .val (.int p5), .val (.ref b1), .val (.long (if (p5 &&& (1 : Int32)) = (0 : Int32) then q3 else q1)), .second, .unset, .unset, .unset, .unset, .unset, .unset, .unset, .unset, .unset, .unset] [])) _
      refine XS.iload X3.here hx rfl (hb hby at_36) rfl ?_
      exact k
    · try simp only [if_neg hc29] at k
      show Steps _ _ _ (T3.setTop (mkF m 29 #[.val (.long q1), .second, .val (.int p2), .val (.long q3), .second, .val (.int p4), .val (.int p5), .val (.ref b1), .val (.long (if (p5 &&& (1 : Int32)) = (0 : Int32) then q3 else q1)), .second, .unset, .unset, .unset, .unset, .unset, .unset, .unset, .unset, .unset, .unset] [(.int (p5 &&& (2 : Int32)))])) _
      refine XS.ifNo X3.here hx rfl (hb hby at_29) rfl ((if0 _ _).trans (feq hc29).1) ?_
      show Steps _ _ _ (T3.setTop (mkF m 32 #[.val (.long q1), .second, .val (.int p2), .val (.long q3), .second, .val (.int p4), .val (.int p5), .val (.ref b1), .val (.long (if (p5 &&& (1 : Int32)) = (0 : Int32) then q3 else q1)), .second, .unset, .unset, .unset, .unset, .unset, .unset, .unset, .unset, .unset, .unset] [])) _
      refine XS.iloadN X3.here hx rfl (hb hby at_32) rfl ?_
      show Steps _ _ _ (T3.setTop (mkF m 33 #[.val (.long q1), .second, .val (.int p2), .val (.long q3), .second, .val (.int p4), .val (.int p5), .val (.ref b1), .val (.long (if (p5 &&& (1 : Int32)) = (0 : Int32) then q3 else q1)), .second, .unset, .unset, .unset, .unset, .unset, .unset, .unset, .unset, .unset, .unset] [(.int p2)])) _
      refine XS.goto X3.here hx rfl (pc0 := 33) (pc' := 38) rfl (hb hby at_33) (by decide) (by decide) ?_
      exact k
  have go11 : Go p.tables e below T3 (mkF m 40 #[.val (.long q1), .second, .val (.int p2), .val (.long q3), .second, .val (.int p4), .val (.int p5), .val (.ref b1), .val (.long (if (p5 &&& (1 : Int32)) = (0 : Int32) then q3 else q1)), .second, .val (.int (if (p5 &&& (2 : Int32)) = (0 : Int32) then p4 else p2)), .unset, .unset, .unset, .unset, .unset, .unset, .unset, .unset, .unset] []) s₁ (entryFrame m #[(.long q1), (.int p2), (.long q3), (.int p4), (.int p5)] maxLocals) := by
    intro t k
    refine go9 t ?_
    show Steps _ _ _ (T3.setTop (mkF m 38 #[.val (.long q1), .second, .val (.int p2), .val (.long q3), .second, .val (.int p4), .val (.int p5), .val (.ref b1), .val (.long (if (p5 &&& (1 : Int32)) = (0 : Int32) then q3 else q1)), .second, .unset, .unset, .unset, .unset, .unset, .unset, .unset, .unset, .unset, .unset] [(.int (if (p5 &&& (2 : Int32)) = (0 : Int32) then p4 else p2))])) _
    refine XS.istore X3.here hx rfl (hb hby at_38) rfl (l' := #[.val (.long q1), .second, .val (.int p2), .val (.long q3), .second, .val (.int p4), .val (.int p5), .val (.ref b1), .val (.long (if (p5 &&& (1 : Int32)) = (0 : Int32) then q3 else q1)), .second, .val (.int (if (p5 &&& (2 : Int32)) = (0 : Int32) then p4 else p2)), .unset, .unset, .unset, .unset, .unset, .unset, .unset, .unset, .unset]) rfl ?_
    exact k
  have f10 : n0 ≤ T3.heap.size := (Nat.le_trans f4 K3.1)
  have f12 : Keep h0 T3.heap [] := (((Keep.refl h0 []).ext E2).trans K3 (allS (Or.inr sz_b1) all0))
  have f14 : Exa Z T3.heap b1 "com/example/horn_to_horn/horntohorn/language/Position" := (A2.keep K3)
  obtain ⟨T15, h15, X15, e15, E15, A15, D15, -, st15⟩ := newO X3 hx hZ hown (wk hw 0 rfl) (wk hw 1 rfl) (wk hw 2 rfl) rfl (g := (mkF m 40 #[.val (.long q1), .second, .val (.int p2), .val (.long q3), .second, .val (.int p4), .val (.int p5), .val (.ref b1), .val (.long (if (p5 &&& (1 : Int32)) = (0 : Int32) then q3 else q1)), .second, .val (.int (if (p5 &&& (2 : Int32)) = (0 : Int32) then p4 else p2)), .unset, .unset, .unset, .unset, .unset, .unset, .unset, .unset, .unset] [])) rfl (hb hby at_40) (by decide) (by decide)
  obtain ⟨b13, g15⟩ : ∃ z, z = T3.heap.size := ⟨_, rfl⟩
  rw [← g15] at A15 D15 st15
  have ne_b1_b13 : b1 ≠ b13 := Nat.ne_of_lt (Nat.lt_of_lt_of_le f14.lt (Nat.le_of_eq g15.symm))
  have g_b13 : n0 ≤ b13 := Nat.le_trans f10 (Nat.le_of_eq g15.symm)
  have sz_b13 : h0.size ≤ b13 := Nat.le_trans f12.1 (Nat.le_of_eq g15.symm)
  have F_line_b13 : Fld Z h15 b13 "com/example/horn_to_horn/horntohorn/language/Position" "line" "J" (.long (0 : Int64)) := D15 (Or.inr (wk hw 10 rfl)) (ty := .long) (by decide)
  have F_column_b13 : Fld Z h15 b13 "com/example/horn_to_horn/horntohorn/language/Position" "column" "I" (.int (0 : Int32)) := D15 (Or.inr (wk hw 12 rfl)) (ty := .int) (by decide)
  have go18 : Go p.tables e below T15 (mkF m 48 #[.val (.long q1), .second, .val (.int p2), .val (.long q3), .second, .val (.int p4), .val (.int p5), .val (.ref b1), .val (.long (if (p5 &&& (1 : Int32)) = (0 : Int32) then q3 else q1)), .second, .val (.int (if (p5 &&& (2 : Int32)) = (0 : Int32) then p4 else p2)), .unset, .unset, .unset, .unset, .unset, .unset, .unset, .unset, .unset] [(.int (if (p5 &&& (2 : Int32)) = (0 : Int32) then p4 else p2)), (.long (if (p5 &&& (1 : Int32)) = (0 : Int32) then q3 else q1)), (.ref b13), (.ref b13)]) s₁ (entryFrame m #[(.long q1), (.int p2), (.long q3), (.int p4), (.int p5)] maxLocals) := by
    intro t k
    refine go11 t ?_
    show Steps _ _ _ (T3.setTop (mkF m 40 #[.val (.long q1), .second, .val (.int p2), .val (.long q3), .second, .val (.int p4), .val (.int p5), .val (.ref b1), .val (.long (if (p5 &&& (1 : Int32)) = (0 : Int32) then q3 else q1)), .second, .val (.int (if (p5 &&& (2 : Int32)) = (0 : Int32) then p4 else p2)), .unset, .unset, .unset, .unset, .unset, .unset, .unset, .unset, .unset] [])) _
    refine st15 _ ?_
    show Steps _ _ _ (T15.setTop (mkF m 43 #[.val (.long q1), .second, .val (.int p2), .val (.long q3), .second, .val (.int p4), .val (.int p5), .val (.ref b1), .val (.long (if (p5 &&& (1 : Int32)) = (0 : Int32) then q3 else q1)), .second, .val (.int (if (p5 &&& (2 : Int32)) = (0 : Int32) then p4 else p2)), .unset, .unset, .unset, .unset, .unset, .unset, .unset, .unset, .unset] [(.ref b13)])) _
    refine XS.dup X15.here hx rfl (hb hby at_43) rfl rfl ?_
    show Steps _ _ _ (T15.setTop (mkF m 44 #[.val (.long q1), .second, .val (.int p2), .val (.long q3), .second, .val (.int p4), .val (.int p5), .val (.ref b1), .val (.long (if (p5 &&& (1 : Int32)) = (0 : Int32) then q3 else q1)), .second, .val (.int (if (p5 &&& (2 : Int32)) = (0 : Int32) then p4 else p2)), .unset, .unset, .unset, .unset, .unset, .unset, .unset, .unset, .unset] [(.ref b13), (.ref b13)])) _
    refine XS.lload X15.here hx rfl (hb hby at_44) rfl ?_
    show Steps _ _ _ (T15.setTop (mkF m 46 #[.val (.long q1), .second, .val (.int p2), .val (.long q3), .second, .val (.int p4), .val (.int p5), .val (.ref b1), .val (.long (if (p5 &&& (1 : Int32)) = (0 : Int32) then q3 else q1)), .second, .val (.int (if (p5 &&& (2 : Int32)) = (0 : Int32) then p4 else p2)), .unset, .unset, .unset, .unset, .unset, .unset, .unset, .unset, .unset] [(.long (if (p5 &&& (1 : Int32)) = (0 : Int32) then q3 else q1)), (.ref b13), (.ref b13)])) _
    refine XS.iload X15.here hx rfl (hb hby at_46) rfl ?_
    exact k
  have f17 : n0 ≤ h15.size := (Nat.le_trans f10 E15.1)
  obtain ⟨_, _, ⟨T16, L16, k16, n16⟩, -, X16, ⟨Lc16, hQ16, l16, y16, z16⟩, st16⟩ := X15.specialBack hx (y := (⟨"com/example/horn_to_horn/horntohorn/language/Position", "<init>", "(JI)V"⟩ : MethodName)) rfl hown (mvT hZ (wk hw 3 rfl)) (mvT hZ (wk hw 4 rfl)) (mvT hZ (wk hw 5 rfl)) (by decide) (backOf (W := 1) (rm1 l Z a0 hw [] b13 (if (p5 &&& (1 : Int32)) = (0 : Int32) then q3 else q1) (if (p5 &&& (2 : Int32)) = (0 : Int32) then p4 else p2) (.long (0 : Int64)) (.int (0 : Int32)) h15 n0 f17 A15 F_line_b13 F_column_b13 g_b13) hZ (wk hw 5 rfl) (wk hw 2 rfl) (by decide) (by decide)) (g := (mkF m 48 #[.val (.long q1), .second, .val (.int p2), .val (.long q3), .second, .val (.int p4), .val (.int p5), .val (.ref b1), .val (.long (if (p5 &&& (1 : Int32)) = (0 : Int32) then q3 else q1)), .second, .val (.int (if (p5 &&& (2 : Int32)) = (0 : Int32) then p4 else p2)), .unset, .unset, .unset, .unset, .unset, .unset, .unset, .unset, .unset] [(.int (if (p5 &&& (2 : Int32)) = (0 : Int32) then p4 else p2)), (.long (if (p5 &&& (1 : Int32)) = (0 : Int32) then q3 else q1)), (.ref b13), (.ref b13)])) rfl (by rw [hml]; rfl) (Steps.refl _) (a := b13) (argsL := [(.long (if (p5 &&& (1 : Int32)) = (0 : Int32) then q3 else q1)), (.int (if (p5 &&& (2 : Int32)) = (0 : Int32) then p4 else p2))]) (rest := [(.ref b13)]) (lenOf pd_2 rfl) rfl (by show 2 * 0 + _ ≤ _; exact Nat.le_of_eq rfl) (hb hby at_48) (fun _ _ => ⟨rfl, e15, (by decide : 2 + 0 ≤ _), (by decide : 4 + 0 ≤ _)⟩)
  dsimp only [Pt.U, Pt.locs, Pt.cells, Pt.slots] at X16 l16 y16 z16 st16 hQ16
  subst l16 y16 z16
  obtain ⟨rfl, N16q, K16, Fl16, Fc16⟩ := hQ16
  have N16 := Fr.app N3 N16q
  have go21 : Go p.tables e below T16 (mkF m 57 #[.val (.long q1), .second, .val (.int p2), .val (.long q3), .second, .val (.int p4), .val (.int p5), .val (.ref b1), .val (.long (if (p5 &&& (1 : Int32)) = (0 : Int32) then q3 else q1)), .second, .val (.int (if (p5 &&& (2 : Int32)) = (0 : Int32) then p4 else p2)), .val (.ref b13), .val .null, .unset, .unset, .unset, .unset, .unset, .unset, .unset] [(.long q1)]) s₁ (entryFrame m #[(.long q1), (.int p2), (.long q3), (.int p4), (.int p5)] maxLocals) := by
    intro t k
    refine go18 t ?_
    show Steps _ _ _ (T15.setTop (mkF m 48 #[.val (.long q1), .second, .val (.int p2), .val (.long q3), .second, .val (.int p4), .val (.int p5), .val (.ref b1), .val (.long (if (p5 &&& (1 : Int32)) = (0 : Int32) then q3 else q1)), .second, .val (.int (if (p5 &&& (2 : Int32)) = (0 : Int32) then p4 else p2)), .unset, .unset, .unset, .unset, .unset, .unset, .unset, .unset, .unset] [(.int (if (p5 &&& (2 : Int32)) = (0 : Int32) then p4 else p2)), (.long (if (p5 &&& (1 : Int32)) = (0 : Int32) then q3 else q1)), (.ref b13), (.ref b13)])) _
    refine st16.trans ?_
    show Steps _ _ _ (T16.setTop (mkF m 51 #[.val (.long q1), .second, .val (.int p2), .val (.long q3), .second, .val (.int p4), .val (.int p5), .val (.ref b1), .val (.long (if (p5 &&& (1 : Int32)) = (0 : Int32) then q3 else q1)), .second, .val (.int (if (p5 &&& (2 : Int32)) = (0 : Int32) then p4 else p2)), .unset, .unset, .unset, .unset, .unset, .unset, .unset, .unset, .unset] [(.ref b13)])) _
    refine XS.astore X16.here hx rfl (hb hby at_51) rfl rfl (l' := #[.val (.long q1), .second, .val (.int p2), .val (.long q3), .second, .val (.int p4), .val (.int p5), .val (.ref b1), .val (.long (if (p5 &&& (1 : Int32)) = (0 : Int32) then q3 else q1)), .second, .val (.int (if (p5 &&& (2 : Int32)) = (0 : Int32) then p4 else p2)), .val (.ref b13), .unset, .unset, .unset, .unset, .unset, .unset, .unset, .unset]) rfl ?_
    show Steps _ _ _ (T16.setTop (mkF m 53 #[.val (.long q1), .second, .val (.int p2), .val (.long q3), .second, .val (.int p4), .val (.int p5), .val (.ref b1), .val (.long (if (p5 &&& (1 : Int32)) = (0 : Int32) then q3 else q1)), .second, .val (.int (if (p5 &&& (2 : Int32)) = (0 : Int32) then p4 else p2)), .val (.ref b13), .unset, .unset, .unset, .unset, .unset, .unset, .unset, .unset] [])) _
    refine XS.aconstNull X16.here hx rfl (hb hby at_53) ?_
    show Steps _ _ _ (T16.setTop (mkF m 54 #[.val (.long q1), .second, .val (.int p2), .val (.long q3), .second, .val (.int p4), .val (.int p5), .val (.ref b1), .val (.long (if (p5 &&& (1 : Int32)) = (0 : Int32) then q3 else q1)), .second, .val (.int (if (p5 &&& (2 : Int32)) = (0 : Int32) then p4 else p2)), .val (.ref b13), .unset, .unset, .unset, .unset, .unset, .unset, .unset, .unset] [.null])) _
    refine XS.astore X16.here hx rfl (hb hby at_54) rfl rfl (l' := #[.val (.long q1), .second, .val (.int p2), .val (.long q3), .second, .val (.int p4), .val (.int p5), .val (.ref b1), .val (.long (if (p5 &&& (1 : Int32)) = (0 : Int32) then q3 else q1)), .second, .val (.int (if (p5 &&& (2 : Int32)) = (0 : Int32) then p4 else p2)), .val (.ref b13), .val .null, .unset, .unset, .unset, .unset, .unset, .unset, .unset]) rfl ?_
    show Steps _ _ _ (T16.setTop (mkF m 56 #[.val (.long q1), .second, .val (.int p2), .val (.long q3), .second, .val (.int p4), .val (.int p5), .val (.ref b1), .val (.long (if (p5 &&& (1 : Int32)) = (0 : Int32) then q3 else q1)), .second, .val (.int (if (p5 &&& (2 : Int32)) = (0 : Int32) then p4 else p2)), .val (.ref b13), .val .null, .unset, .unset, .unset, .unset, .unset, .unset, .unset] [])) _
    refine XS.lloadN X16.here hx rfl (hb hby at_56) rfl ?_
    exact k
  have f20 : n0 ≤ T16.heap.size := (Nat.le_trans f17 K16.1)
  have f22 : Keep h0 T16.heap [] := ((f12.ext E15).trans K16 (allS (Or.inr sz_b13) all0))
  obtain ⟨_, _, ⟨T19, L19, k19, n19⟩, -, X19, ⟨Lc19, hQ19, l19, y19, z19⟩, st19⟩ := Jvm.LawKit.callS X16 hx (y := (⟨"java/lang/Long", "valueOf", "(J)Ljava/lang/Long;"⟩ : MethodName)) hown (mvT hZ (wk hw 13 rfl)) (mvT hZ (wk hw 14 rfl)) (mvT hZ (wk hw 15 rfl)) (mvT hZ (wk hw 16 rfl)) (by decide) (backOf (W := 0) (rm3 l Z a0 hw [] q1 wC clC T16.heap n0 f20 (own_LCext (own_ext0 f22) HC)) hZ (wk hw 16 rfl) (wk hw 15 rfl) (by decide) (by decide)) (g := (mkF m 57 #[.val (.long q1), .second, .val (.int p2), .val (.long q3), .second, .val (.int p4), .val (.int p5), .val (.ref b1), .val (.long (if (p5 &&& (1 : Int32)) = (0 : Int32) then q3 else q1)), .second, .val (.int (if (p5 &&& (2 : Int32)) = (0 : Int32) then p4 else p2)), .val (.ref b13), .val .null, .unset, .unset, .unset, .unset, .unset, .unset, .unset] [(.long q1)])) rfl (by rw [hml]; rfl) (argsL := [(.long q1)]) (rest := []) (lenOf pd_3 rfl) rfl (by show 2 * 0 + _ ≤ _; exact Nat.le_of_eq rfl) (hb hby at_57) (fun _ _ => ⟨rfl, rfl, (by decide : 2 + 1 ≤ _), (by decide : 4 + 1 ≤ _)⟩)
  dsimp only [Pt.U, Pt.locs, Pt.cells, Pt.slots] at X19 l19 y19 z19 st19 hQ19
  subst l19 y19 z19
  obtain ⟨b19, rfl, N19q, K19, Ex19, Fx19⟩ := hQ19
  have N19 := Fr.app N16 N19q
  have go23 : Go p.tables e below T19 (mkF m 66 #[.val (.long q1), .second, .val (.int p2), .val (.long q3), .second, .val (.int p4), .val (.int p5), .val (.ref b1), .val (.long (if (p5 &&& (1 : Int32)) = (0 : Int32) then q3 else q1)), .second, .val (.int (if (p5 &&& (2 : Int32)) = (0 : Int32) then p4 else p2)), .val (.ref b13), .val .null, .val (.ref b19), .unset, .unset, .unset, .unset, .unset, .unset] [(.int (lcmpW q1 (if (p5 &&& (1 : Int32)) = (0 : Int32) then q3 else q1)))]) s₁ (entryFrame m #[(.long q1), (.int p2), (.long q3), (.int p4), (.int p5)] maxLocals) := by
    intro t k
    refine go21 t ?_
    show Steps _ _ _ (T16.setTop (mkF m 57 #[.val (.long q1), .second, .val (.int p2), .val (.long q3), .second, .val (.int p4), .val (.int p5), .val (.ref b1), .val (.long (if (p5 &&& (1 : Int32)) = (0 : Int32) then q3 else q1)), .second, .val (.int (if (p5 &&& (2 : Int32)) = (0 : Int32) then p4 else p2)), .val (.ref b13), .val .null, .unset, .unset, .unset, .unset, .unset, .unset, .unset] [(.long q1)])) _
    refine st19 _ ?_
    show Steps _ _ _ (T19.setTop (mkF m 60 #[.val (.long q1), .second, .val (.int p2), .val (.long q3), .second, .val (.int p4), .val (.int p5), .val (.ref b1), .val (.long (if (p5 &&& (1 : Int32)) = (0 : Int32) then q3 else q1)), .second, .val (.int (if (p5 &&& (2 : Int32)) = (0 : Int32) then p4 else p2)), .val (.ref b13), .val .null, .unset, .unset, .unset, .unset, .unset, .unset, .unset] [(.ref b19)])) _
    refine XS.astore X19.here hx rfl (hb hby at_60) rfl rfl (l' := #[.val (.long q1), .second, .val (.int p2), .val (.long q3), .second, .val (.int p4), .val (.int p5), .val (.ref b1), .val (.long (if (p5 &&& (1 : Int32)) = (0 : Int32) then q3 else q1)), .second, .val (.int (if (p5 &&& (2 : Int32)) = (0 : Int32) then p4 else p2)), .val (.ref b13), .val .null, .val (.ref b19), .unset, .unset, .unset, .unset, .unset, .unset]) rfl ?_
    show Steps _ _ _ (T19.setTop (mkF m 62 #[.val (.long q1), .second, .val (.int p2), .val (.long q3), .second, .val (.int p4), .val (.int p5), .val (.ref b1), .val (.long (if (p5 &&& (1 : Int32)) = (0 : Int32) then q3 else q1)), .second, .val (.int (if (p5 &&& (2 : Int32)) = (0 : Int32) then p4 else p2)), .val (.ref b13), .val .null, .val (.ref b19), .unset, .unset, .unset, .unset, .unset, .unset] [])) _
    refine XS.lloadN X19.here hx rfl (hb hby at_62) rfl ?_
    show Steps _ _ _ (T19.setTop (mkF m 63 #[.val (.long q1), .second, .val (.int p2), .val (.long q3), .second, .val (.int p4), .val (.int p5), .val (.ref b1), .val (.long (if (p5 &&& (1 : Int32)) = (0 : Int32) then q3 else q1)), .second, .val (.int (if (p5 &&& (2 : Int32)) = (0 : Int32) then p4 else p2)), .val (.ref b13), .val .null, .val (.ref b19), .unset, .unset, .unset, .unset, .unset, .unset] [(.long q1)])) _
    refine XS.lload X19.here hx rfl (hb hby at_63) rfl ?_
    show Steps _ _ _ (T19.setTop (mkF m 65 #[.val (.long q1), .second, .val (.int p2), .val (.long q3), .second, .val (.int p4), .val (.int p5), .val (.ref b1), .val (.long (if (p5 &&& (1 : Int32)) = (0 : Int32) then q3 else q1)), .second, .val (.int (if (p5 &&& (2 : Int32)) = (0 : Int32) then p4 else p2)), .val (.ref b13), .val .null, .val (.ref b19), .unset, .unset, .unset, .unset, .unset, .unset] [(.long (if (p5 &&& (1 : Int32)) = (0 : Int32) then q3 else q1)), (.long q1)])) _
    refine XS.lcmp X19.here hx rfl (hb hby at_65) rfl ?_
    exact k
  have go24 : Go p.tables e below T19 (mkF m 80 #[.val (.long q1), .second, .val (.int p2), .val (.long q3), .second, .val (.int p4), .val (.int p5), .val (.ref b1), .val (.long (if (p5 &&& (1 : Int32)) = (0 : Int32) then q3 else q1)), .second, .val (.int (if (p5 &&& (2 : Int32)) = (0 : Int32) then p4 else p2)), .val (.ref b13), .val .null, .val (.ref b19), .unset, .unset, .unset, .unset, .unset, .unset] [(.int (if (lcmpW q1 (if (p5 &&& (1 : Int32)) = (0 : Int32) then q3 else q1)) = (0 : Int32) then (if p2 = (if (p5 &&& (2 : Int32)) = (0 : Int32) then p4 else p2) then (1 : Int32) else (0 : Int32)) else (0 : Int32)))]) s₁ (entryFrame m #[(.long q1), (.int p2), (.long q3), (.int p4), (.int p5)] maxLocals) := by
    intro t k
    refine go23 t ?_
    by_cases hc66 : (lcmpW q1 (if (p5 &&& (1 : Int32)) = (0 : Int32) then q3 else q1)) = (0 : Int32)
    · try simp only [if_pos hc66] at k
      show Steps _ _ _ (T19.setTop (mkF m 66 #[.val (.long q1), .second, .val (.int p2), .val (.long q3), .second, .val (.int p4), .val (.int p5), .val (.ref b1), .val (.long (if (p5 &&& (1 : Int32)) = (0 : Int32) then q3 else q1)), .second, .val (.int (if (p5 &&& (2 : Int32)) = (0 : Int32) then p4 else p2)), .val (.ref b13), .val .null, .val (.ref b19), .unset, .unset, .unset, .unset, .unset, .unset] [(.int (lcmpW q1 (if (p5 &&& (1 : Int32)) = (0 : Int32) then q3 else q1)))])) _
      refine XS.ifNo X19.here hx rfl (hb hby at_66) rfl ((if0 _ _).trans (teq hc66).2) ?_
      show Steps _ _ _ (T19.setTop (mkF m 69 #[.val (.long q1), .second, .val (.int p2), .val (.long q3), .second, .val (.int p4), .val (.int p5), .val (.ref b1), .val (.long (if (p5 &&& (1 : Int32)) = (0 : Int32) then q3 else q1)), .second, .val (.int (if (p5 &&& (2 : Int32)) = (0 : Int32) then p4 else p2)), .val (.ref b13), .val .null, .val (.ref b19), .unset, .unset, .unset, .unset, .unset, .unset] [])) _
      refine XS.iloadN X19.here hx rfl (hb hby at_69) rfl ?_
      show Steps _ _ _ (T19.setTop (mkF m 70 #[.val (.long q1), .second, .val (.int p2), .val (.long q3), .second, .val (.int p4), .val (.int p5), .val (.ref b1), .val (.long (if (p5 &&& (1 : Int32)) = (0 : Int32) then q3 else q1)), .second, .val (.int (if (p5 &&& (2 : Int32)) = (0 : Int32) then p4 else p2)), .val (.ref b13), .val .null, .val (.ref b19), .unset, .unset, .unset, .unset, .unset, .unset] [(.int p2)])) _
      refine XS.iload X19.here hx rfl (hb hby at_70) rfl ?_
      by_cases hc72 : p2 = (if (p5 &&& (2 : Int32)) = (0 : Int32) then p4 else p2)
      · try simp only [if_pos hc72] at k
        show Steps _ _ _ (T19.setTop (mkF m 72 #[.val (.long q1), .second, .val (.int p2), .val (.long q3), .second, .val (.int p4), .val (.int p5), .val (.ref b1), .val (.long (if (p5 &&& (1 : Int32)) = (0 : Int32) then q3 else q1)), .second, .val (.int (if (p5 &&& (2 : Int32)) = (0 : Int32) then p4 else p2)), .val (.ref b13), .val .null, .val (.ref b19), .unset, .unset, .unset, .unset, .unset, .unset] [(.int (if (p5 &&& (2 : Int32)) = (0 : Int32) then p4 else p2)), (.int p2)])) _
        refine XS.icmpNo X19.here hx rfl (hb hby at_72) rfl (teq hc72).2 ?_
        show Steps _ _ _ (T19.setTop (mkF m 75 #[.val (.long q1), .second, .val (.int p2), .val (.long q3), .second, .val (.int p4), .val (.int p5), .val (.ref b1), .val (.long (if (p5 &&& (1 : Int32)) = (0 : Int32) then q3 else q1)), .second, .val (.int (if (p5 &&& (2 : Int32)) = (0 : Int32) then p4 else p2)), .val (.ref b13), .val .null, .val (.ref b19), .unset, .unset, .unset, .unset, .unset, .unset] [])) _
        refine XS.iconst X19.here hx rfl (hb hby at_75) ?_
        show Steps _ _ _ (T19.setTop (mkF m 76 #[.val (.long q1), .second, .val (.int p2), .val (.long q3), .second, .val (.int p4), .val (.int p5), .val (.ref b1), .val (.long (if (p5 &&& (1 : Int32)) = (0 : Int32) then q3 else q1)), .second, .val (.int (if (p5 &&& (2 : Int32)) = (0 : Int32) then p4 else p2)), .val (.ref b13), .val .null, .val (.ref b19), .unset, .unset, .unset, .unset, .unset, .unset] [(.int (1 : Int32))])) _
        refine XS.goto X19.here hx rfl (pc0 := 76) (pc' := 80) rfl (hb hby at_76) (by decide) (by decide) ?_
        exact k
      · try simp only [if_neg hc72] at k
        show Steps _ _ _ (T19.setTop (mkF m 72 #[.val (.long q1), .second, .val (.int p2), .val (.long q3), .second, .val (.int p4), .val (.int p5), .val (.ref b1), .val (.long (if (p5 &&& (1 : Int32)) = (0 : Int32) then q3 else q1)), .second, .val (.int (if (p5 &&& (2 : Int32)) = (0 : Int32) then p4 else p2)), .val (.ref b13), .val .null, .val (.ref b19), .unset, .unset, .unset, .unset, .unset, .unset] [(.int (if (p5 &&& (2 : Int32)) = (0 : Int32) then p4 else p2)), (.int p2)])) _
        refine XS.icmpYes X19.here hx rfl (pc0 := 72) (pc' := 79) rfl (hb hby at_72) rfl (feq hc72).2 (by decide) (by decide) ?_
        show Steps _ _ _ (T19.setTop (mkF m 79 #[.val (.long q1), .second, .val (.int p2), .val (.long q3), .second, .val (.int p4), .val (.int p5), .val (.ref b1), .val (.long (if (p5 &&& (1 : Int32)) = (0 : Int32) then q3 else q1)), .second, .val (.int (if (p5 &&& (2 : Int32)) = (0 : Int32) then p4 else p2)), .val (.ref b13), .val .null, .val (.ref b19), .unset, .unset, .unset, .unset, .unset, .unset] [])) _
        refine XS.iconst X19.here hx rfl (hb hby at_79) ?_
        exact k
    · try simp only [if_neg hc66] at k
      show Steps _ _ _ (T19.setTop (mkF m 66 #[.val (.long q1), .second, .val (.int p2), .val (.long q3), .second, .val (.int p4), .val (.int p5), .val (.ref b1), .val (.long (if (p5 &&& (1 : Int32)) = (0 : Int32) then q3 else q1)), .second, .val (.int (if (p5 &&& (2 : Int32)) = (0 : Int32) then p4 else p2)), .val (.ref b13), .val .null, .val (.ref b19), .unset, .unset, .unset, .unset, .unset, .unset] [(.int (lcmpW q1 (if (p5 &&& (1 : Int32)) = (0 : Int32) then q3 else q1)))])) _
      refine XS.ifYes X19.here hx rfl (pc0 := 66) (pc' := 79) rfl (hb hby at_66) rfl ((if0 _ _).trans (feq hc66).2) (by decide) (by decide) ?_
      show Steps _ _ _ (T19.setTop (mkF m 79 #[.val (.long q1), .second, .val (.int p2), .val (.long q3), .second, .val (.int p4), .val (.int p5), .val (.ref b1), .val (.long (if (p5 &&& (1 : Int32)) = (0 : Int32) then q3 else q1)), .second, .val (.int (if (p5 &&& (2 : Int32)) = (0 : Int32) then p4 else p2)), .val (.ref b13), .val .null, .val (.ref b19), .unset, .unset, .unset, .unset, .unset, .unset] [])) _
      refine XS.iconst X19.here hx rfl (hb hby at_79) ?_
      exact k
  have go27 : Go p.tables e below T19 (mkF m 86 #[.val (.long q1), .second, .val (.int p2), .val (.long q3), .second, .val (.int p4), .val (.int p5), .val (.ref b1), .val (.long (if (p5 &&& (1 : Int32)) = (0 : Int32) then q3 else q1)), .second, .val (.int (if (p5 &&& (2 : Int32)) = (0 : Int32) then p4 else p2)), .val (.ref b13), .val .null, .val (.ref b19), .val (.int (if (lcmpW q1 (if (p5 &&& (1 : Int32)) = (0 : Int32) then q3 else q1)) = (0 : Int32) then (if p2 = (if (p5 &&& (2 : Int32)) = (0 : Int32) then p4 else p2) then (1 : Int32) else (0 : Int32)) else (0 : Int32))), .unset, .unset, .unset, .unset, .unset] [(.ref b13), (.ref b1)]) s₁ (entryFrame m #[(.long q1), (.int p2), (.long q3), (.int p4), (.int p5)] maxLocals) := by
    intro t k
    refine go24 t ?_
    show Steps _ _ _ (T19.setTop (mkF m 80 #[.val (.long q1), .second, .val (.int p2), .val (.long q3), .second, .val (.int p4), .val (.int p5), .val (.ref b1), .val (.long (if (p5 &&& (1 : Int32)) = (0 : Int32) then q3 else q1)), .second, .val (.int (if (p5 &&& (2 : Int32)) = (0 : Int32) then p4 else p2)), .val (.ref b13), .val .null, .val (.ref b19), .unset, .unset, .unset, .unset, .unset, .unset] [(.int (if (lcmpW q1 (if (p5 &&& (1 : Int32)) = (0 : Int32) then q3 else q1)) = (0 : Int32) then (if p2 = (if (p5 &&& (2 : Int32)) = (0 : Int32) then p4 else p2) then (1 : Int32) else (0 : Int32)) else (0 : Int32)))])) _
    refine XS.istore X19.here hx rfl (hb hby at_80) rfl (l' := #[.val (.long q1), .second, .val (.int p2), .val (.long q3), .second, .val (.int p4), .val (.int p5), .val (.ref b1), .val (.long (if (p5 &&& (1 : Int32)) = (0 : Int32) then q3 else q1)), .second, .val (.int (if (p5 &&& (2 : Int32)) = (0 : Int32) then p4 else p2)), .val (.ref b13), .val .null, .val (.ref b19), .val (.int (if (lcmpW q1 (if (p5 &&& (1 : Int32)) = (0 : Int32) then q3 else q1)) = (0 : Int32) then (if p2 = (if (p5 &&& (2 : Int32)) = (0 : Int32) then p4 else p2) then (1 : Int32) else (0 : Int32)) else (0 : Int32))), .unset, .unset, .unset, .unset, .unset]) rfl ?_
    show Steps _ _ _ (T19.setTop (mkF m 82 #[.val (.long q1), .second, .val (.int p2), .val (.long q3), .second, .val (.int p4), .val (.int p5), .val (.ref b1), .val (.long (if (p5 &&& (1 : Int32)) = (0 : Int32) then q3 else q1)), .second, .val (.int (if (p5 &&& (2 : Int32)) = (0 : Int32) then p4 else p2)), .val (.ref b13), .val .null, .val (.ref b19), .val (.int (if (lcmpW q1 (if (p5 &&& (1 : Int32)) = (0 : Int32) then q3 else q1)) = (0 : Int32) then (if p2 = (if (p5 &&& (2 : Int32)) = (0 : Int32) then p4 else p2) then (1 : Int32) else (0 : Int32)) else (0 : Int32))), .unset, .unset, .unset, .unset, .unset] [])) _
    refine XS.aload X19.here hx rfl (hb hby at_82) rfl rfl ?_
    show Steps _ _ _ (T19.setTop (mkF m 84 #[.val (.long q1), .second, .val (.int p2), .val (.long q3), .second, .val (.int p4), .val (.int p5), .val (.ref b1), .val (.long (if (p5 &&& (1 : Int32)) = (0 : Int32) then q3 else q1)), .second, .val (.int (if (p5 &&& (2 : Int32)) = (0 : Int32) then p4 else p2)), .val (.ref b13), .val .null, .val (.ref b19), .val (.int (if (lcmpW q1 (if (p5 &&& (1 : Int32)) = (0 : Int32) then q3 else q1)) = (0 : Int32) then (if p2 = (if (p5 &&& (2 : Int32)) = (0 : Int32) then p4 else p2) then (1 : Int32) else (0 : Int32)) else (0 : Int32))), .unset, .unset, .unset, .unset, .unset] [(.ref b1)])) _
    refine XS.aload X19.here hx rfl (hb hby at_84) rfl rfl ?_
    exact k
  have f26 : n0 ≤ T19.heap.size := (Nat.le_trans f20 K19.1)
  have f28 : Exa Z T19.heap b13 "com/example/horn_to_horn/horntohorn/language/Position" := ((A15.keep K16).keep K19)
  have f29 : Fld Z T19.heap b1 "com/example/horn_to_horn/horntohorn/language/Position" "line" "J" (.long q1) := (((Fl3.ext E15).keep K16 (ninS ne_b1_b13 nin0)).keep K19 nin0)
  have f30 : Fld Z T19.heap b1 "com/example/horn_to_horn/horntohorn/language/Position" "column" "I" (.int p2) := (((Fc3.ext E15).keep K16 (ninS ne_b1_b13 nin0)).keep K19 nin0)
  have f31 : Fld Z T19.heap b13 "com/example/horn_to_horn/horntohorn/language/Position" "line" "J" (.long (if (p5 &&& (1 : Int32)) = (0 : Int32) then q3 else q1)) := (Fl16.keep K19 nin0)
  have f32 : Fld Z T19.heap b13 "com/example/horn_to_horn/horntohorn/language/Position" "column" "I" (.int (if (p5 &&& (2 : Int32)) = (0 : Int32) then p4 else p2)) := (Fc16.keep K19 nin0)
  have f33 : Exa Z T19.heap b1 "com/example/horn_to_horn/horntohorn/language/Position" := (((f14.ext E15).keep K16).keep K19)
  obtain ⟨cq25, kq25, q25a, q25b, q25c⟩ := isOf hZ rfl f33
  obtain ⟨_, _, ⟨T25, L25, k25, n25⟩, -, X25, ⟨Lc25, hQ25, l25, y25, z25⟩, st25⟩ := X19.virtualBack hx (y := (⟨"com/example/horn_to_horn/horntohorn/language/Position", "equals", "(Ljava/lang/Object;)Z"⟩ : MethodName)) (z := (⟨"com/example/horn_to_horn/horntohorn/language/Position", "equals", "(Ljava/lang/Object;)Z"⟩ : MethodName)) hown (mvT hZ (wk hw 21 rfl)) (mvT hZ (wk hw 22 rfl)) (notFace_of_selects (args := #[]) (mvT hZ (wk hw 24 rfl))) (mvT hZ (wk hw 24 rfl)) (mvT hZ (wk hw 23 rfl)) (by decide) (backOf (W := 0) (rm4_p l Z a0 hw [] b1 b13 q1 (if (p5 &&& (1 : Int32)) = (0 : Int32) then q3 else q1) p2 (if (p5 &&& (2 : Int32)) = (0 : Int32) then p4 else p2) T19.heap n0 f26 f28 f29 f30 f31 f32) hZ (wk hw 25 rfl) (wk hw 2 rfl) (by decide) (by decide)) q25a q25c (g := (mkF m 86 #[.val (.long q1), .second, .val (.int p2), .val (.long q3), .second, .val (.int p4), .val (.int p5), .val (.ref b1), .val (.long (if (p5 &&& (1 : Int32)) = (0 : Int32) then q3 else q1)), .second, .val (.int (if (p5 &&& (2 : Int32)) = (0 : Int32) then p4 else p2)), .val (.ref b13), .val .null, .val (.ref b19), .val (.int (if (lcmpW q1 (if (p5 &&& (1 : Int32)) = (0 : Int32) then q3 else q1)) = (0 : Int32) then (if p2 = (if (p5 &&& (2 : Int32)) = (0 : Int32) then p4 else p2) then (1 : Int32) else (0 : Int32)) else (0 : Int32))), .unset, .unset, .unset, .unset, .unset] [(.ref b13), (.ref b1)])) rfl (by rw [hml]; rfl) (Steps.refl _) (argsL := [(.ref b13)]) (rest := []) (lenOf pd_4 rfl) rfl (by show 2 * 0 + _ ≤ _; exact Nat.le_of_eq rfl) (hb hby at_86) (fun _ _ => ⟨rfl, rfl, (by decide : 3 + 0 ≤ _), (by decide : 5 + 0 ≤ _)⟩)
  dsimp only [Pt.U, Pt.locs, Pt.cells, Pt.slots] at X25 l25 y25 z25 st25 hQ25
  subst l25 y25 z25
  obtain ⟨rfl, N25q, e25⟩ := hQ25
  have N25 := Fr.app N19 N25q
  have go35 : Go p.tables e below T25 (mkF m 95 #[.val (.long q1), .second, .val (.int p2), .val (.long q3), .second, .val (.int p4), .val (.int p5), .val (.ref b1), .val (.long (if (p5 &&& (1 : Int32)) = (0 : Int32) then q3 else q1)), .second, .val (.int (if (p5 &&& (2 : Int32)) = (0 : Int32) then p4 else p2)), .val (.ref b13), .val .null, .val (.ref b19), .val (.int (if (lcmpW q1 (if (p5 &&& (1 : Int32)) = (0 : Int32) then q3 else q1)) = (0 : Int32) then (if p2 = (if (p5 &&& (2 : Int32)) = (0 : Int32) then p4 else p2) then (1 : Int32) else (0 : Int32)) else (0 : Int32))), .val (.int (eqv (if (p5 &&& (1 : Int32)) = (0 : Int32) then q3 else q1) q1 (if (p5 &&& (2 : Int32)) = (0 : Int32) then p4 else p2) p2)), .unset, .unset, .unset, .unset] [(.ref b1), (.ref b13)]) s₁ (entryFrame m #[(.long q1), (.int p2), (.long q3), (.int p4), (.int p5)] maxLocals) := by
    intro t k
    refine go27 t ?_
    show Steps _ _ _ (T19.setTop (mkF m 86 #[.val (.long q1), .second, .val (.int p2), .val (.long q3), .second, .val (.int p4), .val (.int p5), .val (.ref b1), .val (.long (if (p5 &&& (1 : Int32)) = (0 : Int32) then q3 else q1)), .second, .val (.int (if (p5 &&& (2 : Int32)) = (0 : Int32) then p4 else p2)), .val (.ref b13), .val .null, .val (.ref b19), .val (.int (if (lcmpW q1 (if (p5 &&& (1 : Int32)) = (0 : Int32) then q3 else q1)) = (0 : Int32) then (if p2 = (if (p5 &&& (2 : Int32)) = (0 : Int32) then p4 else p2) then (1 : Int32) else (0 : Int32)) else (0 : Int32))), .unset, .unset, .unset, .unset, .unset] [(.ref b13), (.ref b1)])) _
    refine st25.trans ?_
    show Steps _ _ _ (T25.setTop (mkF m 89 #[.val (.long q1), .second, .val (.int p2), .val (.long q3), .second, .val (.int p4), .val (.int p5), .val (.ref b1), .val (.long (if (p5 &&& (1 : Int32)) = (0 : Int32) then q3 else q1)), .second, .val (.int (if (p5 &&& (2 : Int32)) = (0 : Int32) then p4 else p2)), .val (.ref b13), .val .null, .val (.ref b19), .val (.int (if (lcmpW q1 (if (p5 &&& (1 : Int32)) = (0 : Int32) then q3 else q1)) = (0 : Int32) then (if p2 = (if (p5 &&& (2 : Int32)) = (0 : Int32) then p4 else p2) then (1 : Int32) else (0 : Int32)) else (0 : Int32))), .unset, .unset, .unset, .unset, .unset] [(.int (eqv (if (p5 &&& (1 : Int32)) = (0 : Int32) then q3 else q1) q1 (if (p5 &&& (2 : Int32)) = (0 : Int32) then p4 else p2) p2))])) _
    refine XS.istore X25.here hx rfl (hb hby at_89) rfl (l' := #[.val (.long q1), .second, .val (.int p2), .val (.long q3), .second, .val (.int p4), .val (.int p5), .val (.ref b1), .val (.long (if (p5 &&& (1 : Int32)) = (0 : Int32) then q3 else q1)), .second, .val (.int (if (p5 &&& (2 : Int32)) = (0 : Int32) then p4 else p2)), .val (.ref b13), .val .null, .val (.ref b19), .val (.int (if (lcmpW q1 (if (p5 &&& (1 : Int32)) = (0 : Int32) then q3 else q1)) = (0 : Int32) then (if p2 = (if (p5 &&& (2 : Int32)) = (0 : Int32) then p4 else p2) then (1 : Int32) else (0 : Int32)) else (0 : Int32))), .val (.int (eqv (if (p5 &&& (1 : Int32)) = (0 : Int32) then q3 else q1) q1 (if (p5 &&& (2 : Int32)) = (0 : Int32) then p4 else p2) p2)), .unset, .unset, .unset, .unset]) rfl ?_
    show Steps _ _ _ (T25.setTop (mkF m 91 #[.val (.long q1), .second, .val (.int p2), .val (.long q3), .second, .val (.int p4), .val (.int p5), .val (.ref b1), .val (.long (if (p5 &&& (1 : Int32)) = (0 : Int32) then q3 else q1)), .second, .val (.int (if (p5 &&& (2 : Int32)) = (0 : Int32) then p4 else p2)), .val (.ref b13), .val .null, .val (.ref b19), .val (.int (if (lcmpW q1 (if (p5 &&& (1 : Int32)) = (0 : Int32) then q3 else q1)) = (0 : Int32) then (if p2 = (if (p5 &&& (2 : Int32)) = (0 : Int32) then p4 else p2) then (1 : Int32) else (0 : Int32)) else (0 : Int32))), .val (.int (eqv (if (p5 &&& (1 : Int32)) = (0 : Int32) then q3 else q1) q1 (if (p5 &&& (2 : Int32)) = (0 : Int32) then p4 else p2) p2)), .unset, .unset, .unset, .unset] [])) _
    refine XS.aload X25.here hx rfl (hb hby at_91) rfl rfl ?_
    show Steps _ _ _ (T25.setTop (mkF m 93 #[.val (.long q1), .second, .val (.int p2), .val (.long q3), .second, .val (.int p4), .val (.int p5), .val (.ref b1), .val (.long (if (p5 &&& (1 : Int32)) = (0 : Int32) then q3 else q1)), .second, .val (.int (if (p5 &&& (2 : Int32)) = (0 : Int32) then p4 else p2)), .val (.ref b13), .val .null, .val (.ref b19), .val (.int (if (lcmpW q1 (if (p5 &&& (1 : Int32)) = (0 : Int32) then q3 else q1)) = (0 : Int32) then (if p2 = (if (p5 &&& (2 : Int32)) = (0 : Int32) then p4 else p2) then (1 : Int32) else (0 : Int32)) else (0 : Int32))), .val (.int (eqv (if (p5 &&& (1 : Int32)) = (0 : Int32) then q3 else q1) q1 (if (p5 &&& (2 : Int32)) = (0 : Int32) then p4 else p2) p2)), .unset, .unset, .unset, .unset] [(.ref b13)])) _
    refine XS.aload X25.here hx rfl (hb hby at_93) rfl rfl ?_
    exact k
  obtain ⟨cq34, kq34, q34a, q34b, q34c⟩ := isOf hZ e25 f28
  obtain ⟨_, _, ⟨T34, L34, k34, n34⟩, -, X34, ⟨Lc34, hQ34, l34, y34, z34⟩, st34⟩ := X25.virtualBack hx (y := (⟨"com/example/horn_to_horn/horntohorn/language/Position", "equals", "(Ljava/lang/Object;)Z"⟩ : MethodName)) (z := (⟨"com/example/horn_to_horn/horntohorn/language/Position", "equals", "(Ljava/lang/Object;)Z"⟩ : MethodName)) hown (mvT hZ (wk hw 21 rfl)) (mvT hZ (wk hw 22 rfl)) (notFace_of_selects (args := #[]) (mvT hZ (wk hw 24 rfl))) (mvT hZ (wk hw 24 rfl)) (mvT hZ (wk hw 23 rfl)) (by decide) (backOf (W := 0) (rm4_p l Z a0 hw [] b13 b1 (if (p5 &&& (1 : Int32)) = (0 : Int32) then q3 else q1) q1 (if (p5 &&& (2 : Int32)) = (0 : Int32) then p4 else p2) p2 T19.heap n0 f26 f33 f31 f32 f29 f30) hZ (wk hw 25 rfl) (wk hw 2 rfl) (by decide) (by decide)) q34a q34c (g := (mkF m 95 #[.val (.long q1), .second, .val (.int p2), .val (.long q3), .second, .val (.int p4), .val (.int p5), .val (.ref b1), .val (.long (if (p5 &&& (1 : Int32)) = (0 : Int32) then q3 else q1)), .second, .val (.int (if (p5 &&& (2 : Int32)) = (0 : Int32) then p4 else p2)), .val (.ref b13), .val .null, .val (.ref b19), .val (.int (if (lcmpW q1 (if (p5 &&& (1 : Int32)) = (0 : Int32) then q3 else q1)) = (0 : Int32) then (if p2 = (if (p5 &&& (2 : Int32)) = (0 : Int32) then p4 else p2) then (1 : Int32) else (0 : Int32)) else (0 : Int32))), .val (.int (eqv (if (p5 &&& (1 : Int32)) = (0 : Int32) then q3 else q1) q1 (if (p5 &&& (2 : Int32)) = (0 : Int32) then p4 else p2) p2)), .unset, .unset, .unset, .unset] [(.ref b1), (.ref b13)])) rfl (by rw [hml]; rfl) (Steps.refl _) (argsL := [(.ref b1)]) (rest := []) (lenOf pd_4 rfl) rfl (by show 2 * 0 + _ ≤ _; exact Nat.le_of_eq rfl) (hb hby at_95) (fun _ _ => ⟨rfl, e25, (by decide : 3 + 0 ≤ _), (by decide : 5 + 0 ≤ _)⟩)
  dsimp only [Pt.U, Pt.locs, Pt.cells, Pt.slots] at X34 l34 y34 z34 st34 hQ34
  subst l34 y34 z34
  obtain ⟨rfl, N34q, e34⟩ := hQ34
  have N34 := Fr.app N25 N34q
  have go37 : Go p.tables e below T34 (mkF m 104 #[.val (.long q1), .second, .val (.int p2), .val (.long q3), .second, .val (.int p4), .val (.int p5), .val (.ref b1), .val (.long (if (p5 &&& (1 : Int32)) = (0 : Int32) then q3 else q1)), .second, .val (.int (if (p5 &&& (2 : Int32)) = (0 : Int32) then p4 else p2)), .val (.ref b13), .val .null, .val (.ref b19), .val (.int (if (lcmpW q1 (if (p5 &&& (1 : Int32)) = (0 : Int32) then q3 else q1)) = (0 : Int32) then (if p2 = (if (p5 &&& (2 : Int32)) = (0 : Int32) then p4 else p2) then (1 : Int32) else (0 : Int32)) else (0 : Int32))), .val (.int (eqv (if (p5 &&& (1 : Int32)) = (0 : Int32) then q3 else q1) q1 (if (p5 &&& (2 : Int32)) = (0 : Int32) then p4 else p2) p2)), .val (.int (eqv q1 (if (p5 &&& (1 : Int32)) = (0 : Int32) then q3 else q1) p2 (if (p5 &&& (2 : Int32)) = (0 : Int32) then p4 else p2))), .unset, .unset, .unset] [(.ref b1), (.ref b1)]) s₁ (entryFrame m #[(.long q1), (.int p2), (.long q3), (.int p4), (.int p5)] maxLocals) := by
    intro t k
    refine go35 t ?_
    show Steps _ _ _ (T25.setTop (mkF m 95 #[.val (.long q1), .second, .val (.int p2), .val (.long q3), .second, .val (.int p4), .val (.int p5), .val (.ref b1), .val (.long (if (p5 &&& (1 : Int32)) = (0 : Int32) then q3 else q1)), .second, .val (.int (if (p5 &&& (2 : Int32)) = (0 : Int32) then p4 else p2)), .val (.ref b13), .val .null, .val (.ref b19), .val (.int (if (lcmpW q1 (if (p5 &&& (1 : Int32)) = (0 : Int32) then q3 else q1)) = (0 : Int32) then (if p2 = (if (p5 &&& (2 : Int32)) = (0 : Int32) then p4 else p2) then (1 : Int32) else (0 : Int32)) else (0 : Int32))), .val (.int (eqv (if (p5 &&& (1 : Int32)) = (0 : Int32) then q3 else q1) q1 (if (p5 &&& (2 : Int32)) = (0 : Int32) then p4 else p2) p2)), .unset, .unset, .unset, .unset] [(.ref b1), (.ref b13)])) _
    refine st34.trans ?_
    show Steps _ _ _ (T34.setTop (mkF m 98 #[.val (.long q1), .second, .val (.int p2), .val (.long q3), .second, .val (.int p4), .val (.int p5), .val (.ref b1), .val (.long (if (p5 &&& (1 : Int32)) = (0 : Int32) then q3 else q1)), .second, .val (.int (if (p5 &&& (2 : Int32)) = (0 : Int32) then p4 else p2)), .val (.ref b13), .val .null, .val (.ref b19), .val (.int (if (lcmpW q1 (if (p5 &&& (1 : Int32)) = (0 : Int32) then q3 else q1)) = (0 : Int32) then (if p2 = (if (p5 &&& (2 : Int32)) = (0 : Int32) then p4 else p2) then (1 : Int32) else (0 : Int32)) else (0 : Int32))), .val (.int (eqv (if (p5 &&& (1 : Int32)) = (0 : Int32) then q3 else q1) q1 (if (p5 &&& (2 : Int32)) = (0 : Int32) then p4 else p2) p2)), .unset, .unset, .unset, .unset] [(.int (eqv q1 (if (p5 &&& (1 : Int32)) = (0 : Int32) then q3 else q1) p2 (if (p5 &&& (2 : Int32)) = (0 : Int32) then p4 else p2)))])) _
    refine XS.istore X34.here hx rfl (hb hby at_98) rfl (l' := #[.val (.long q1), .second, .val (.int p2), .val (.long q3), .second, .val (.int p4), .val (.int p5), .val (.ref b1), .val (.long (if (p5 &&& (1 : Int32)) = (0 : Int32) then q3 else q1)), .second, .val (.int (if (p5 &&& (2 : Int32)) = (0 : Int32) then p4 else p2)), .val (.ref b13), .val .null, .val (.ref b19), .val (.int (if (lcmpW q1 (if (p5 &&& (1 : Int32)) = (0 : Int32) then q3 else q1)) = (0 : Int32) then (if p2 = (if (p5 &&& (2 : Int32)) = (0 : Int32) then p4 else p2) then (1 : Int32) else (0 : Int32)) else (0 : Int32))), .val (.int (eqv (if (p5 &&& (1 : Int32)) = (0 : Int32) then q3 else q1) q1 (if (p5 &&& (2 : Int32)) = (0 : Int32) then p4 else p2) p2)), .val (.int (eqv q1 (if (p5 &&& (1 : Int32)) = (0 : Int32) then q3 else q1) p2 (if (p5 &&& (2 : Int32)) = (0 : Int32) then p4 else p2))), .unset, .unset, .unset]) rfl ?_
    show Steps _ _ _ (T34.setTop (mkF m 100 #[.val (.long q1), .second, .val (.int p2), .val (.long q3), .second, .val (.int p4), .val (.int p5), .val (.ref b1), .val (.long (if (p5 &&& (1 : Int32)) = (0 : Int32) then q3 else q1)), .second, .val (.int (if (p5 &&& (2 : Int32)) = (0 : Int32) then p4 else p2)), .val (.ref b13), .val .null, .val (.ref b19), .val (.int (if (lcmpW q1 (if (p5 &&& (1 : Int32)) = (0 : Int32) then q3 else q1)) = (0 : Int32) then (if p2 = (if (p5 &&& (2 : Int32)) = (0 : Int32) then p4 else p2) then (1 : Int32) else (0 : Int32)) else (0 : Int32))), .val (.int (eqv (if (p5 &&& (1 : Int32)) = (0 : Int32) then q3 else q1) q1 (if (p5 &&& (2 : Int32)) = (0 : Int32) then p4 else p2) p2)), .val (.int (eqv q1 (if (p5 &&& (1 : Int32)) = (0 : Int32) then q3 else q1) p2 (if (p5 &&& (2 : Int32)) = (0 : Int32) then p4 else p2))), .unset, .unset, .unset] [])) _
    refine XS.aload X34.here hx rfl (hb hby at_100) rfl rfl ?_
    show Steps _ _ _ (T34.setTop (mkF m 102 #[.val (.long q1), .second, .val (.int p2), .val (.long q3), .second, .val (.int p4), .val (.int p5), .val (.ref b1), .val (.long (if (p5 &&& (1 : Int32)) = (0 : Int32) then q3 else q1)), .second, .val (.int (if (p5 &&& (2 : Int32)) = (0 : Int32) then p4 else p2)), .val (.ref b13), .val .null, .val (.ref b19), .val (.int (if (lcmpW q1 (if (p5 &&& (1 : Int32)) = (0 : Int32) then q3 else q1)) = (0 : Int32) then (if p2 = (if (p5 &&& (2 : Int32)) = (0 : Int32) then p4 else p2) then (1 : Int32) else (0 : Int32)) else (0 : Int32))), .val (.int (eqv (if (p5 &&& (1 : Int32)) = (0 : Int32) then q3 else q1) q1 (if (p5 &&& (2 : Int32)) = (0 : Int32) then p4 else p2) p2)), .val (.int (eqv q1 (if (p5 &&& (1 : Int32)) = (0 : Int32) then q3 else q1) p2 (if (p5 &&& (2 : Int32)) = (0 : Int32) then p4 else p2))), .unset, .unset, .unset] [(.ref b1)])) _
    refine XS.aload X34.here hx rfl (hb hby at_102) rfl rfl ?_
    exact k
  obtain ⟨cq36, kq36, q36a, q36b, q36c⟩ := isOf hZ e34 f33
  obtain ⟨_, _, ⟨T36, L36, k36, n36⟩, -, X36, ⟨Lc36, hQ36, l36, y36, z36⟩, st36⟩ := X34.virtualBack hx (y := (⟨"com/example/horn_to_horn/horntohorn/language/Position", "equals", "(Ljava/lang/Object;)Z"⟩ : MethodName)) (z := (⟨"com/example/horn_to_horn/horntohorn/language/Position", "equals", "(Ljava/lang/Object;)Z"⟩ : MethodName)) hown (mvT hZ (wk hw 21 rfl)) (mvT hZ (wk hw 22 rfl)) (notFace_of_selects (args := #[]) (mvT hZ (wk hw 24 rfl))) (mvT hZ (wk hw 24 rfl)) (mvT hZ (wk hw 23 rfl)) (by decide) (backOf (W := 0) (rm4_p l Z a0 hw [] b1 b1 q1 q1 p2 p2 T19.heap n0 f26 f33 f29 f30 f29 f30) hZ (wk hw 25 rfl) (wk hw 2 rfl) (by decide) (by decide)) q36a q36c (g := (mkF m 104 #[.val (.long q1), .second, .val (.int p2), .val (.long q3), .second, .val (.int p4), .val (.int p5), .val (.ref b1), .val (.long (if (p5 &&& (1 : Int32)) = (0 : Int32) then q3 else q1)), .second, .val (.int (if (p5 &&& (2 : Int32)) = (0 : Int32) then p4 else p2)), .val (.ref b13), .val .null, .val (.ref b19), .val (.int (if (lcmpW q1 (if (p5 &&& (1 : Int32)) = (0 : Int32) then q3 else q1)) = (0 : Int32) then (if p2 = (if (p5 &&& (2 : Int32)) = (0 : Int32) then p4 else p2) then (1 : Int32) else (0 : Int32)) else (0 : Int32))), .val (.int (eqv (if (p5 &&& (1 : Int32)) = (0 : Int32) then q3 else q1) q1 (if (p5 &&& (2 : Int32)) = (0 : Int32) then p4 else p2) p2)), .val (.int (eqv q1 (if (p5 &&& (1 : Int32)) = (0 : Int32) then q3 else q1) p2 (if (p5 &&& (2 : Int32)) = (0 : Int32) then p4 else p2))), .unset, .unset, .unset] [(.ref b1), (.ref b1)])) rfl (by rw [hml]; rfl) (Steps.refl _) (argsL := [(.ref b1)]) (rest := []) (lenOf pd_4 rfl) rfl (by show 2 * 0 + _ ≤ _; exact Nat.le_of_eq rfl) (hb hby at_104) (fun _ _ => ⟨rfl, e34, (by decide : 3 + 0 ≤ _), (by decide : 5 + 0 ≤ _)⟩)
  dsimp only [Pt.U, Pt.locs, Pt.cells, Pt.slots] at X36 l36 y36 z36 st36 hQ36
  subst l36 y36 z36
  obtain ⟨rfl, N36q, e36⟩ := hQ36
  have N36 := Fr.app N34 N36q
  have go39 : Go p.tables e below T36 (mkF m 113 #[.val (.long q1), .second, .val (.int p2), .val (.long q3), .second, .val (.int p4), .val (.int p5), .val (.ref b1), .val (.long (if (p5 &&& (1 : Int32)) = (0 : Int32) then q3 else q1)), .second, .val (.int (if (p5 &&& (2 : Int32)) = (0 : Int32) then p4 else p2)), .val (.ref b13), .val .null, .val (.ref b19), .val (.int (if (lcmpW q1 (if (p5 &&& (1 : Int32)) = (0 : Int32) then q3 else q1)) = (0 : Int32) then (if p2 = (if (p5 &&& (2 : Int32)) = (0 : Int32) then p4 else p2) then (1 : Int32) else (0 : Int32)) else (0 : Int32))), .val (.int (eqv (if (p5 &&& (1 : Int32)) = (0 : Int32) then q3 else q1) q1 (if (p5 &&& (2 : Int32)) = (0 : Int32) then p4 else p2) p2)), .val (.int (eqv q1 (if (p5 &&& (1 : Int32)) = (0 : Int32) then q3 else q1) p2 (if (p5 &&& (2 : Int32)) = (0 : Int32) then p4 else p2))), .val (.int (eqv q1 q1 p2 p2)), .unset, .unset] [.null, (.ref b1)]) s₁ (entryFrame m #[(.long q1), (.int p2), (.long q3), (.int p4), (.int p5)] maxLocals) := by
    intro t k
    refine go37 t ?_
    show Steps _ _ _ (T34.setTop (mkF m 104 #[.val (.long q1), .second, .val (.int p2), .val (.long q3), .second, .val (.int p4), .val (.int p5), .val (.ref b1), .val (.long (if (p5 &&& (1 : Int32)) = (0 : Int32) then q3 else q1)), .second, .val (.int (if (p5 &&& (2 : Int32)) = (0 : Int32) then p4 else p2)), .val (.ref b13), .val .null, .val (.ref b19), .val (.int (if (lcmpW q1 (if (p5 &&& (1 : Int32)) = (0 : Int32) then q3 else q1)) = (0 : Int32) then (if p2 = (if (p5 &&& (2 : Int32)) = (0 : Int32) then p4 else p2) then (1 : Int32) else (0 : Int32)) else (0 : Int32))), .val (.int (eqv (if (p5 &&& (1 : Int32)) = (0 : Int32) then q3 else q1) q1 (if (p5 &&& (2 : Int32)) = (0 : Int32) then p4 else p2) p2)), .val (.int (eqv q1 (if (p5 &&& (1 : Int32)) = (0 : Int32) then q3 else q1) p2 (if (p5 &&& (2 : Int32)) = (0 : Int32) then p4 else p2))), .unset, .unset, .unset] [(.ref b1), (.ref b1)])) _
    refine st36.trans ?_
    show Steps _ _ _ (T36.setTop (mkF m 107 #[.val (.long q1), .second, .val (.int p2), .val (.long q3), .second, .val (.int p4), .val (.int p5), .val (.ref b1), .val (.long (if (p5 &&& (1 : Int32)) = (0 : Int32) then q3 else q1)), .second, .val (.int (if (p5 &&& (2 : Int32)) = (0 : Int32) then p4 else p2)), .val (.ref b13), .val .null, .val (.ref b19), .val (.int (if (lcmpW q1 (if (p5 &&& (1 : Int32)) = (0 : Int32) then q3 else q1)) = (0 : Int32) then (if p2 = (if (p5 &&& (2 : Int32)) = (0 : Int32) then p4 else p2) then (1 : Int32) else (0 : Int32)) else (0 : Int32))), .val (.int (eqv (if (p5 &&& (1 : Int32)) = (0 : Int32) then q3 else q1) q1 (if (p5 &&& (2 : Int32)) = (0 : Int32) then p4 else p2) p2)), .val (.int (eqv q1 (if (p5 &&& (1 : Int32)) = (0 : Int32) then q3 else q1) p2 (if (p5 &&& (2 : Int32)) = (0 : Int32) then p4 else p2))), .unset, .unset, .unset] [(.int (eqv q1 q1 p2 p2))])) _
    refine XS.istore X36.here hx rfl (hb hby at_107) rfl (l' := #[.val (.long q1), .second, .val (.int p2), .val (.long q3), .second, .val (.int p4), .val (.int p5), .val (.ref b1), .val (.long (if (p5 &&& (1 : Int32)) = (0 : Int32) then q3 else q1)), .second, .val (.int (if (p5 &&& (2 : Int32)) = (0 : Int32) then p4 else p2)), .val (.ref b13), .val .null, .val (.ref b19), .val (.int (if (lcmpW q1 (if (p5 &&& (1 : Int32)) = (0 : Int32) then q3 else q1)) = (0 : Int32) then (if p2 = (if (p5 &&& (2 : Int32)) = (0 : Int32) then p4 else p2) then (1 : Int32) else (0 : Int32)) else (0 : Int32))), .val (.int (eqv (if (p5 &&& (1 : Int32)) = (0 : Int32) then q3 else q1) q1 (if (p5 &&& (2 : Int32)) = (0 : Int32) then p4 else p2) p2)), .val (.int (eqv q1 (if (p5 &&& (1 : Int32)) = (0 : Int32) then q3 else q1) p2 (if (p5 &&& (2 : Int32)) = (0 : Int32) then p4 else p2))), .val (.int (eqv q1 q1 p2 p2)), .unset, .unset]) rfl ?_
    show Steps _ _ _ (T36.setTop (mkF m 109 #[.val (.long q1), .second, .val (.int p2), .val (.long q3), .second, .val (.int p4), .val (.int p5), .val (.ref b1), .val (.long (if (p5 &&& (1 : Int32)) = (0 : Int32) then q3 else q1)), .second, .val (.int (if (p5 &&& (2 : Int32)) = (0 : Int32) then p4 else p2)), .val (.ref b13), .val .null, .val (.ref b19), .val (.int (if (lcmpW q1 (if (p5 &&& (1 : Int32)) = (0 : Int32) then q3 else q1)) = (0 : Int32) then (if p2 = (if (p5 &&& (2 : Int32)) = (0 : Int32) then p4 else p2) then (1 : Int32) else (0 : Int32)) else (0 : Int32))), .val (.int (eqv (if (p5 &&& (1 : Int32)) = (0 : Int32) then q3 else q1) q1 (if (p5 &&& (2 : Int32)) = (0 : Int32) then p4 else p2) p2)), .val (.int (eqv q1 (if (p5 &&& (1 : Int32)) = (0 : Int32) then q3 else q1) p2 (if (p5 &&& (2 : Int32)) = (0 : Int32) then p4 else p2))), .val (.int (eqv q1 q1 p2 p2)), .unset, .unset] [])) _
    refine XS.aload X36.here hx rfl (hb hby at_109) rfl rfl ?_
    show Steps _ _ _ (T36.setTop (mkF m 111 #[.val (.long q1), .second, .val (.int p2), .val (.long q3), .second, .val (.int p4), .val (.int p5), .val (.ref b1), .val (.long (if (p5 &&& (1 : Int32)) = (0 : Int32) then q3 else q1)), .second, .val (.int (if (p5 &&& (2 : Int32)) = (0 : Int32) then p4 else p2)), .val (.ref b13), .val .null, .val (.ref b19), .val (.int (if (lcmpW q1 (if (p5 &&& (1 : Int32)) = (0 : Int32) then q3 else q1)) = (0 : Int32) then (if p2 = (if (p5 &&& (2 : Int32)) = (0 : Int32) then p4 else p2) then (1 : Int32) else (0 : Int32)) else (0 : Int32))), .val (.int (eqv (if (p5 &&& (1 : Int32)) = (0 : Int32) then q3 else q1) q1 (if (p5 &&& (2 : Int32)) = (0 : Int32) then p4 else p2) p2)), .val (.int (eqv q1 (if (p5 &&& (1 : Int32)) = (0 : Int32) then q3 else q1) p2 (if (p5 &&& (2 : Int32)) = (0 : Int32) then p4 else p2))), .val (.int (eqv q1 q1 p2 p2)), .unset, .unset] [(.ref b1)])) _
    refine XS.aload X36.here hx rfl (hb hby at_111) rfl rfl ?_
    exact k
  obtain ⟨cq38, kq38, q38a, q38b, q38c⟩ := isOf hZ e36 f33
  obtain ⟨_, _, ⟨T38, L38, k38, n38⟩, -, X38, ⟨Lc38, hQ38, l38, y38, z38⟩, st38⟩ := X36.virtualBack hx (y := (⟨"com/example/horn_to_horn/horntohorn/language/Position", "equals", "(Ljava/lang/Object;)Z"⟩ : MethodName)) (z := (⟨"com/example/horn_to_horn/horntohorn/language/Position", "equals", "(Ljava/lang/Object;)Z"⟩ : MethodName)) hown (mvT hZ (wk hw 21 rfl)) (mvT hZ (wk hw 22 rfl)) (notFace_of_selects (args := #[]) (mvT hZ (wk hw 24 rfl))) (mvT hZ (wk hw 24 rfl)) (mvT hZ (wk hw 23 rfl)) (by decide) (backOf (W := 0) (rm4_n l Z a0 hw [] b1 T19.heap n0 f26) hZ (wk hw 25 rfl) (wk hw 2 rfl) (by decide) (by decide)) q38a q38c (g := (mkF m 113 #[.val (.long q1), .second, .val (.int p2), .val (.long q3), .second, .val (.int p4), .val (.int p5), .val (.ref b1), .val (.long (if (p5 &&& (1 : Int32)) = (0 : Int32) then q3 else q1)), .second, .val (.int (if (p5 &&& (2 : Int32)) = (0 : Int32) then p4 else p2)), .val (.ref b13), .val .null, .val (.ref b19), .val (.int (if (lcmpW q1 (if (p5 &&& (1 : Int32)) = (0 : Int32) then q3 else q1)) = (0 : Int32) then (if p2 = (if (p5 &&& (2 : Int32)) = (0 : Int32) then p4 else p2) then (1 : Int32) else (0 : Int32)) else (0 : Int32))), .val (.int (eqv (if (p5 &&& (1 : Int32)) = (0 : Int32) then q3 else q1) q1 (if (p5 &&& (2 : Int32)) = (0 : Int32) then p4 else p2) p2)), .val (.int (eqv q1 (if (p5 &&& (1 : Int32)) = (0 : Int32) then q3 else q1) p2 (if (p5 &&& (2 : Int32)) = (0 : Int32) then p4 else p2))), .val (.int (eqv q1 q1 p2 p2)), .unset, .unset] [.null, (.ref b1)])) rfl (by rw [hml]; rfl) (Steps.refl _) (argsL := [.null]) (rest := []) (lenOf pd_4 rfl) rfl (by show 2 * 0 + _ ≤ _; exact Nat.le_of_eq rfl) (hb hby at_113) (fun _ _ => ⟨rfl, e36, (by decide : 3 + 0 ≤ _), (by decide : 5 + 0 ≤ _)⟩)
  dsimp only [Pt.U, Pt.locs, Pt.cells, Pt.slots] at X38 l38 y38 z38 st38 hQ38
  subst l38 y38 z38
  obtain ⟨rfl, N38q, e38⟩ := hQ38
  have N38 := Fr.app N36 N38q
  have go41 : Go p.tables e below T38 (mkF m 122 #[.val (.long q1), .second, .val (.int p2), .val (.long q3), .second, .val (.int p4), .val (.int p5), .val (.ref b1), .val (.long (if (p5 &&& (1 : Int32)) = (0 : Int32) then q3 else q1)), .second, .val (.int (if (p5 &&& (2 : Int32)) = (0 : Int32) then p4 else p2)), .val (.ref b13), .val .null, .val (.ref b19), .val (.int (if (lcmpW q1 (if (p5 &&& (1 : Int32)) = (0 : Int32) then q3 else q1)) = (0 : Int32) then (if p2 = (if (p5 &&& (2 : Int32)) = (0 : Int32) then p4 else p2) then (1 : Int32) else (0 : Int32)) else (0 : Int32))), .val (.int (eqv (if (p5 &&& (1 : Int32)) = (0 : Int32) then q3 else q1) q1 (if (p5 &&& (2 : Int32)) = (0 : Int32) then p4 else p2) p2)), .val (.int (eqv q1 (if (p5 &&& (1 : Int32)) = (0 : Int32) then q3 else q1) p2 (if (p5 &&& (2 : Int32)) = (0 : Int32) then p4 else p2))), .val (.int (eqv q1 q1 p2 p2)), .val (.int (0 : Int32)), .unset] [(.ref b19), (.ref b1)]) s₁ (entryFrame m #[(.long q1), (.int p2), (.long q3), (.int p4), (.int p5)] maxLocals) := by
    intro t k
    refine go39 t ?_
    show Steps _ _ _ (T36.setTop (mkF m 113 #[.val (.long q1), .second, .val (.int p2), .val (.long q3), .second, .val (.int p4), .val (.int p5), .val (.ref b1), .val (.long (if (p5 &&& (1 : Int32)) = (0 : Int32) then q3 else q1)), .second, .val (.int (if (p5 &&& (2 : Int32)) = (0 : Int32) then p4 else p2)), .val (.ref b13), .val .null, .val (.ref b19), .val (.int (if (lcmpW q1 (if (p5 &&& (1 : Int32)) = (0 : Int32) then q3 else q1)) = (0 : Int32) then (if p2 = (if (p5 &&& (2 : Int32)) = (0 : Int32) then p4 else p2) then (1 : Int32) else (0 : Int32)) else (0 : Int32))), .val (.int (eqv (if (p5 &&& (1 : Int32)) = (0 : Int32) then q3 else q1) q1 (if (p5 &&& (2 : Int32)) = (0 : Int32) then p4 else p2) p2)), .val (.int (eqv q1 (if (p5 &&& (1 : Int32)) = (0 : Int32) then q3 else q1) p2 (if (p5 &&& (2 : Int32)) = (0 : Int32) then p4 else p2))), .val (.int (eqv q1 q1 p2 p2)), .unset, .unset] [.null, (.ref b1)])) _
    refine st38.trans ?_
    show Steps _ _ _ (T38.setTop (mkF m 116 #[.val (.long q1), .second, .val (.int p2), .val (.long q3), .second, .val (.int p4), .val (.int p5), .val (.ref b1), .val (.long (if (p5 &&& (1 : Int32)) = (0 : Int32) then q3 else q1)), .second, .val (.int (if (p5 &&& (2 : Int32)) = (0 : Int32) then p4 else p2)), .val (.ref b13), .val .null, .val (.ref b19), .val (.int (if (lcmpW q1 (if (p5 &&& (1 : Int32)) = (0 : Int32) then q3 else q1)) = (0 : Int32) then (if p2 = (if (p5 &&& (2 : Int32)) = (0 : Int32) then p4 else p2) then (1 : Int32) else (0 : Int32)) else (0 : Int32))), .val (.int (eqv (if (p5 &&& (1 : Int32)) = (0 : Int32) then q3 else q1) q1 (if (p5 &&& (2 : Int32)) = (0 : Int32) then p4 else p2) p2)), .val (.int (eqv q1 (if (p5 &&& (1 : Int32)) = (0 : Int32) then q3 else q1) p2 (if (p5 &&& (2 : Int32)) = (0 : Int32) then p4 else p2))), .val (.int (eqv q1 q1 p2 p2)), .unset, .unset] [(.int (0 : Int32))])) _
    refine XS.istore X38.here hx rfl (hb hby at_116) rfl (l' := #[.val (.long q1), .second, .val (.int p2), .val (.long q3), .second, .val (.int p4), .val (.int p5), .val (.ref b1), .val (.long (if (p5 &&& (1 : Int32)) = (0 : Int32) then q3 else q1)), .second, .val (.int (if (p5 &&& (2 : Int32)) = (0 : Int32) then p4 else p2)), .val (.ref b13), .val .null, .val (.ref b19), .val (.int (if (lcmpW q1 (if (p5 &&& (1 : Int32)) = (0 : Int32) then q3 else q1)) = (0 : Int32) then (if p2 = (if (p5 &&& (2 : Int32)) = (0 : Int32) then p4 else p2) then (1 : Int32) else (0 : Int32)) else (0 : Int32))), .val (.int (eqv (if (p5 &&& (1 : Int32)) = (0 : Int32) then q3 else q1) q1 (if (p5 &&& (2 : Int32)) = (0 : Int32) then p4 else p2) p2)), .val (.int (eqv q1 (if (p5 &&& (1 : Int32)) = (0 : Int32) then q3 else q1) p2 (if (p5 &&& (2 : Int32)) = (0 : Int32) then p4 else p2))), .val (.int (eqv q1 q1 p2 p2)), .val (.int (0 : Int32)), .unset]) rfl ?_
    show Steps _ _ _ (T38.setTop (mkF m 118 #[.val (.long q1), .second, .val (.int p2), .val (.long q3), .second, .val (.int p4), .val (.int p5), .val (.ref b1), .val (.long (if (p5 &&& (1 : Int32)) = (0 : Int32) then q3 else q1)), .second, .val (.int (if (p5 &&& (2 : Int32)) = (0 : Int32) then p4 else p2)), .val (.ref b13), .val .null, .val (.ref b19), .val (.int (if (lcmpW q1 (if (p5 &&& (1 : Int32)) = (0 : Int32) then q3 else q1)) = (0 : Int32) then (if p2 = (if (p5 &&& (2 : Int32)) = (0 : Int32) then p4 else p2) then (1 : Int32) else (0 : Int32)) else (0 : Int32))), .val (.int (eqv (if (p5 &&& (1 : Int32)) = (0 : Int32) then q3 else q1) q1 (if (p5 &&& (2 : Int32)) = (0 : Int32) then p4 else p2) p2)), .val (.int (eqv q1 (if (p5 &&& (1 : Int32)) = (0 : Int32) then q3 else q1) p2 (if (p5 &&& (2 : Int32)) = (0 : Int32) then p4 else p2))), .val (.int (eqv q1 q1 p2 p2)), .val (.int (0 : Int32)), .unset] [])) _
    refine XS.aload X38.here hx rfl (hb hby at_118) rfl rfl ?_
    show Steps _ _ _ (T38.setTop (mkF m 120 #[.val (.long q1), .second, .val (.int p2), .val (.long q3), .second, .val (.int p4), .val (.int p5), .val (.ref b1), .val (.long (if (p5 &&& (1 : Int32)) = (0 : Int32) then q3 else q1)), .second, .val (.int (if (p5 &&& (2 : Int32)) = (0 : Int32) then p4 else p2)), .val (.ref b13), .val .null, .val (.ref b19), .val (.int (if (lcmpW q1 (if (p5 &&& (1 : Int32)) = (0 : Int32) then q3 else q1)) = (0 : Int32) then (if p2 = (if (p5 &&& (2 : Int32)) = (0 : Int32) then p4 else p2) then (1 : Int32) else (0 : Int32)) else (0 : Int32))), .val (.int (eqv (if (p5 &&& (1 : Int32)) = (0 : Int32) then q3 else q1) q1 (if (p5 &&& (2 : Int32)) = (0 : Int32) then p4 else p2) p2)), .val (.int (eqv q1 (if (p5 &&& (1 : Int32)) = (0 : Int32) then q3 else q1) p2 (if (p5 &&& (2 : Int32)) = (0 : Int32) then p4 else p2))), .val (.int (eqv q1 q1 p2 p2)), .val (.int (0 : Int32)), .unset] [(.ref b1)])) _
    refine XS.aload X38.here hx rfl (hb hby at_120) rfl rfl ?_
    exact k
  obtain ⟨cq40, kq40, q40a, q40b, q40c⟩ := isOf hZ e38 f33
  obtain ⟨_, _, ⟨T40, L40, k40, n40⟩, -, X40, ⟨Lc40, hQ40, l40, y40, z40⟩, st40⟩ := X38.virtualBack hx (y := (⟨"com/example/horn_to_horn/horntohorn/language/Position", "equals", "(Ljava/lang/Object;)Z"⟩ : MethodName)) (z := (⟨"com/example/horn_to_horn/horntohorn/language/Position", "equals", "(Ljava/lang/Object;)Z"⟩ : MethodName)) hown (mvT hZ (wk hw 21 rfl)) (mvT hZ (wk hw 22 rfl)) (notFace_of_selects (args := #[]) (mvT hZ (wk hw 24 rfl))) (mvT hZ (wk hw 24 rfl)) (mvT hZ (wk hw 23 rfl)) (by decide) (backOf (W := 0) (rm4_l l Z a0 hw [] b1 b19 T19.heap n0 f26 Ex19) hZ (wk hw 25 rfl) (wk hw 2 rfl) (by decide) (by decide)) q40a q40c (g := (mkF m 122 #[.val (.long q1), .second, .val (.int p2), .val (.long q3), .second, .val (.int p4), .val (.int p5), .val (.ref b1), .val (.long (if (p5 &&& (1 : Int32)) = (0 : Int32) then q3 else q1)), .second, .val (.int (if (p5 &&& (2 : Int32)) = (0 : Int32) then p4 else p2)), .val (.ref b13), .val .null, .val (.ref b19), .val (.int (if (lcmpW q1 (if (p5 &&& (1 : Int32)) = (0 : Int32) then q3 else q1)) = (0 : Int32) then (if p2 = (if (p5 &&& (2 : Int32)) = (0 : Int32) then p4 else p2) then (1 : Int32) else (0 : Int32)) else (0 : Int32))), .val (.int (eqv (if (p5 &&& (1 : Int32)) = (0 : Int32) then q3 else q1) q1 (if (p5 &&& (2 : Int32)) = (0 : Int32) then p4 else p2) p2)), .val (.int (eqv q1 (if (p5 &&& (1 : Int32)) = (0 : Int32) then q3 else q1) p2 (if (p5 &&& (2 : Int32)) = (0 : Int32) then p4 else p2))), .val (.int (eqv q1 q1 p2 p2)), .val (.int (0 : Int32)), .unset] [(.ref b19), (.ref b1)])) rfl (by rw [hml]; rfl) (Steps.refl _) (argsL := [(.ref b19)]) (rest := []) (lenOf pd_4 rfl) rfl (by show 2 * 0 + _ ≤ _; exact Nat.le_of_eq rfl) (hb hby at_122) (fun _ _ => ⟨rfl, e38, (by decide : 3 + 0 ≤ _), (by decide : 5 + 0 ≤ _)⟩)
  dsimp only [Pt.U, Pt.locs, Pt.cells, Pt.slots] at X40 l40 y40 z40 st40 hQ40
  subst l40 y40 z40
  obtain ⟨rfl, N40q, e40⟩ := hQ40
  have N40 := Fr.app N38 N40q
  have go42 : Go p.tables e below T40 (mkF m 161 #[.val (.long q1), .second, .val (.int p2), .val (.long q3), .second, .val (.int p4), .val (.int p5), .val (.ref b1), .val (.long (if (p5 &&& (1 : Int32)) = (0 : Int32) then q3 else q1)), .second, .val (.int (if (p5 &&& (2 : Int32)) = (0 : Int32) then p4 else p2)), .val (.ref b13), .val .null, .val (.ref b19), .val (.int (if (lcmpW q1 (if (p5 &&& (1 : Int32)) = (0 : Int32) then q3 else q1)) = (0 : Int32) then (if p2 = (if (p5 &&& (2 : Int32)) = (0 : Int32) then p4 else p2) then (1 : Int32) else (0 : Int32)) else (0 : Int32))), .val (.int (eqv (if (p5 &&& (1 : Int32)) = (0 : Int32) then q3 else q1) q1 (if (p5 &&& (2 : Int32)) = (0 : Int32) then p4 else p2) p2)), .val (.int (eqv q1 (if (p5 &&& (1 : Int32)) = (0 : Int32) then q3 else q1) p2 (if (p5 &&& (2 : Int32)) = (0 : Int32) then p4 else p2))), .val (.int (eqv q1 q1 p2 p2)), .val (.int (0 : Int32)), .val (.int (0 : Int32))] [(.int (1 : Int32))]) s₁ (entryFrame m #[(.long q1), (.int p2), (.long q3), (.int p4), (.int p5)] maxLocals) := by
    intro t k
    refine go41 t ?_
    show Steps _ _ _ (T38.setTop (mkF m 122 #[.val (.long q1), .second, .val (.int p2), .val (.long q3), .second, .val (.int p4), .val (.int p5), .val (.ref b1), .val (.long (if (p5 &&& (1 : Int32)) = (0 : Int32) then q3 else q1)), .second, .val (.int (if (p5 &&& (2 : Int32)) = (0 : Int32) then p4 else p2)), .val (.ref b13), .val .null, .val (.ref b19), .val (.int (if (lcmpW q1 (if (p5 &&& (1 : Int32)) = (0 : Int32) then q3 else q1)) = (0 : Int32) then (if p2 = (if (p5 &&& (2 : Int32)) = (0 : Int32) then p4 else p2) then (1 : Int32) else (0 : Int32)) else (0 : Int32))), .val (.int (eqv (if (p5 &&& (1 : Int32)) = (0 : Int32) then q3 else q1) q1 (if (p5 &&& (2 : Int32)) = (0 : Int32) then p4 else p2) p2)), .val (.int (eqv q1 (if (p5 &&& (1 : Int32)) = (0 : Int32) then q3 else q1) p2 (if (p5 &&& (2 : Int32)) = (0 : Int32) then p4 else p2))), .val (.int (eqv q1 q1 p2 p2)), .val (.int (0 : Int32)), .unset] [(.ref b19), (.ref b1)])) _
    refine st40.trans ?_
    show Steps _ _ _ (T40.setTop (mkF m 125 #[.val (.long q1), .second, .val (.int p2), .val (.long q3), .second, .val (.int p4), .val (.int p5), .val (.ref b1), .val (.long (if (p5 &&& (1 : Int32)) = (0 : Int32) then q3 else q1)), .second, .val (.int (if (p5 &&& (2 : Int32)) = (0 : Int32) then p4 else p2)), .val (.ref b13), .val .null, .val (.ref b19), .val (.int (if (lcmpW q1 (if (p5 &&& (1 : Int32)) = (0 : Int32) then q3 else q1)) = (0 : Int32) then (if p2 = (if (p5 &&& (2 : Int32)) = (0 : Int32) then p4 else p2) then (1 : Int32) else (0 : Int32)) else (0 : Int32))), .val (.int (eqv (if (p5 &&& (1 : Int32)) = (0 : Int32) then q3 else q1) q1 (if (p5 &&& (2 : Int32)) = (0 : Int32) then p4 else p2) p2)), .val (.int (eqv q1 (if (p5 &&& (1 : Int32)) = (0 : Int32) then q3 else q1) p2 (if (p5 &&& (2 : Int32)) = (0 : Int32) then p4 else p2))), .val (.int (eqv q1 q1 p2 p2)), .val (.int (0 : Int32)), .unset] [(.int (0 : Int32))])) _
    refine XS.istore X40.here hx rfl (hb hby at_125) rfl (l' := #[.val (.long q1), .second, .val (.int p2), .val (.long q3), .second, .val (.int p4), .val (.int p5), .val (.ref b1), .val (.long (if (p5 &&& (1 : Int32)) = (0 : Int32) then q3 else q1)), .second, .val (.int (if (p5 &&& (2 : Int32)) = (0 : Int32) then p4 else p2)), .val (.ref b13), .val .null, .val (.ref b19), .val (.int (if (lcmpW q1 (if (p5 &&& (1 : Int32)) = (0 : Int32) then q3 else q1)) = (0 : Int32) then (if p2 = (if (p5 &&& (2 : Int32)) = (0 : Int32) then p4 else p2) then (1 : Int32) else (0 : Int32)) else (0 : Int32))), .val (.int (eqv (if (p5 &&& (1 : Int32)) = (0 : Int32) then q3 else q1) q1 (if (p5 &&& (2 : Int32)) = (0 : Int32) then p4 else p2) p2)), .val (.int (eqv q1 (if (p5 &&& (1 : Int32)) = (0 : Int32) then q3 else q1) p2 (if (p5 &&& (2 : Int32)) = (0 : Int32) then p4 else p2))), .val (.int (eqv q1 q1 p2 p2)), .val (.int (0 : Int32)), .val (.int (0 : Int32))]) rfl ?_
    show Steps _ _ _ (T40.setTop (mkF m 127 #[.val (.long q1), .second, .val (.int p2), .val (.long q3), .second, .val (.int p4), .val (.int p5), .val (.ref b1), .val (.long (if (p5 &&& (1 : Int32)) = (0 : Int32) then q3 else q1)), .second, .val (.int (if (p5 &&& (2 : Int32)) = (0 : Int32) then p4 else p2)), .val (.ref b13), .val .null, .val (.ref b19), .val (.int (if (lcmpW q1 (if (p5 &&& (1 : Int32)) = (0 : Int32) then q3 else q1)) = (0 : Int32) then (if p2 = (if (p5 &&& (2 : Int32)) = (0 : Int32) then p4 else p2) then (1 : Int32) else (0 : Int32)) else (0 : Int32))), .val (.int (eqv (if (p5 &&& (1 : Int32)) = (0 : Int32) then q3 else q1) q1 (if (p5 &&& (2 : Int32)) = (0 : Int32) then p4 else p2) p2)), .val (.int (eqv q1 (if (p5 &&& (1 : Int32)) = (0 : Int32) then q3 else q1) p2 (if (p5 &&& (2 : Int32)) = (0 : Int32) then p4 else p2))), .val (.int (eqv q1 q1 p2 p2)), .val (.int (0 : Int32)), .val (.int (0 : Int32))] [])) _
    refine XS.iload X40.here hx rfl (hb hby at_127) rfl ?_
    show Steps _ _ _ (T40.setTop (mkF m 129 #[.val (.long q1), .second, .val (.int p2), .val (.long q3), .second, .val (.int p4), .val (.int p5), .val (.ref b1), .val (.long (if (p5 &&& (1 : Int32)) = (0 : Int32) then q3 else q1)), .second, .val (.int (if (p5 &&& (2 : Int32)) = (0 : Int32) then p4 else p2)), .val (.ref b13), .val .null, .val (.ref b19), .val (.int (if (lcmpW q1 (if (p5 &&& (1 : Int32)) = (0 : Int32) then q3 else q1)) = (0 : Int32) then (if p2 = (if (p5 &&& (2 : Int32)) = (0 : Int32) then p4 else p2) then (1 : Int32) else (0 : Int32)) else (0 : Int32))), .val (.int (eqv (if (p5 &&& (1 : Int32)) = (0 : Int32) then q3 else q1) q1 (if (p5 &&& (2 : Int32)) = (0 : Int32) then p4 else p2) p2)), .val (.int (eqv q1 (if (p5 &&& (1 : Int32)) = (0 : Int32) then q3 else q1) p2 (if (p5 &&& (2 : Int32)) = (0 : Int32) then p4 else p2))), .val (.int (eqv q1 q1 p2 p2)), .val (.int (0 : Int32)), .val (.int (0 : Int32))] [(.int (eqv (if (p5 &&& (1 : Int32)) = (0 : Int32) then q3 else q1) q1 (if (p5 &&& (2 : Int32)) = (0 : Int32) then p4 else p2) p2))])) _
    refine XS.iload X40.here hx rfl (hb hby at_129) rfl ?_
    show Steps _ _ _ (T40.setTop (mkF m 131 #[.val (.long q1), .second, .val (.int p2), .val (.long q3), .second, .val (.int p4), .val (.int p5), .val (.ref b1), .val (.long (if (p5 &&& (1 : Int32)) = (0 : Int32) then q3 else q1)), .second, .val (.int (if (p5 &&& (2 : Int32)) = (0 : Int32) then p4 else p2)), .val (.ref b13), .val .null, .val (.ref b19), .val (.int (if (lcmpW q1 (if (p5 &&& (1 : Int32)) = (0 : Int32) then q3 else q1)) = (0 : Int32) then (if p2 = (if (p5 &&& (2 : Int32)) = (0 : Int32) then p4 else p2) then (1 : Int32) else (0 : Int32)) else (0 : Int32))), .val (.int (eqv (if (p5 &&& (1 : Int32)) = (0 : Int32) then q3 else q1) q1 (if (p5 &&& (2 : Int32)) = (0 : Int32) then p4 else p2) p2)), .val (.int (eqv q1 (if (p5 &&& (1 : Int32)) = (0 : Int32) then q3 else q1) p2 (if (p5 &&& (2 : Int32)) = (0 : Int32) then p4 else p2))), .val (.int (eqv q1 q1 p2 p2)), .val (.int (0 : Int32)), .val (.int (0 : Int32))] [(.int (if (lcmpW q1 (if (p5 &&& (1 : Int32)) = (0 : Int32) then q3 else q1)) = (0 : Int32) then (if p2 = (if (p5 &&& (2 : Int32)) = (0 : Int32) then p4 else p2) then (1 : Int32) else (0 : Int32)) else (0 : Int32))), (.int (eqv (if (p5 &&& (1 : Int32)) = (0 : Int32) then q3 else q1) q1 (if (p5 &&& (2 : Int32)) = (0 : Int32) then p4 else p2) p2))])) _
    refine XS.icmpNo X40.here hx rfl (hb hby at_131) rfl (teq (own_eqs _ _ _ _)).2 ?_
    show Steps _ _ _ (T40.setTop (mkF m 134 #[.val (.long q1), .second, .val (.int p2), .val (.long q3), .second, .val (.int p4), .val (.int p5), .val (.ref b1), .val (.long (if (p5 &&& (1 : Int32)) = (0 : Int32) then q3 else q1)), .second, .val (.int (if (p5 &&& (2 : Int32)) = (0 : Int32) then p4 else p2)), .val (.ref b13), .val .null, .val (.ref b19), .val (.int (if (lcmpW q1 (if (p5 &&& (1 : Int32)) = (0 : Int32) then q3 else q1)) = (0 : Int32) then (if p2 = (if (p5 &&& (2 : Int32)) = (0 : Int32) then p4 else p2) then (1 : Int32) else (0 : Int32)) else (0 : Int32))), .val (.int (eqv (if (p5 &&& (1 : Int32)) = (0 : Int32) then q3 else q1) q1 (if (p5 &&& (2 : Int32)) = (0 : Int32) then p4 else p2) p2)), .val (.int (eqv q1 (if (p5 &&& (1 : Int32)) = (0 : Int32) then q3 else q1) p2 (if (p5 &&& (2 : Int32)) = (0 : Int32) then p4 else p2))), .val (.int (eqv q1 q1 p2 p2)), .val (.int (0 : Int32)), .val (.int (0 : Int32))] [])) _
    refine XS.iload X40.here hx rfl (hb hby at_134) rfl ?_
    show Steps _ _ _ (T40.setTop (mkF m 136 #[.val (.long q1), .second, .val (.int p2), .val (.long q3), .second, .val (.int p4), .val (.int p5), .val (.ref b1), .val (.long (if (p5 &&& (1 : Int32)) = (0 : Int32) then q3 else q1)), .second, .val (.int (if (p5 &&& (2 : Int32)) = (0 : Int32) then p4 else p2)), .val (.ref b13), .val .null, .val (.ref b19), .val (.int (if (lcmpW q1 (if (p5 &&& (1 : Int32)) = (0 : Int32) then q3 else q1)) = (0 : Int32) then (if p2 = (if (p5 &&& (2 : Int32)) = (0 : Int32) then p4 else p2) then (1 : Int32) else (0 : Int32)) else (0 : Int32))), .val (.int (eqv (if (p5 &&& (1 : Int32)) = (0 : Int32) then q3 else q1) q1 (if (p5 &&& (2 : Int32)) = (0 : Int32) then p4 else p2) p2)), .val (.int (eqv q1 (if (p5 &&& (1 : Int32)) = (0 : Int32) then q3 else q1) p2 (if (p5 &&& (2 : Int32)) = (0 : Int32) then p4 else p2))), .val (.int (eqv q1 q1 p2 p2)), .val (.int (0 : Int32)), .val (.int (0 : Int32))] [(.int (eqv q1 (if (p5 &&& (1 : Int32)) = (0 : Int32) then q3 else q1) p2 (if (p5 &&& (2 : Int32)) = (0 : Int32) then p4 else p2)))])) _
    refine XS.iload X40.here hx rfl (hb hby at_136) rfl ?_
    show Steps _ _ _ (T40.setTop (mkF m 138 #[.val (.long q1), .second, .val (.int p2), .val (.long q3), .second, .val (.int p4), .val (.int p5), .val (.ref b1), .val (.long (if (p5 &&& (1 : Int32)) = (0 : Int32) then q3 else q1)), .second, .val (.int (if (p5 &&& (2 : Int32)) = (0 : Int32) then p4 else p2)), .val (.ref b13), .val .null, .val (.ref b19), .val (.int (if (lcmpW q1 (if (p5 &&& (1 : Int32)) = (0 : Int32) then q3 else q1)) = (0 : Int32) then (if p2 = (if (p5 &&& (2 : Int32)) = (0 : Int32) then p4 else p2) then (1 : Int32) else (0 : Int32)) else (0 : Int32))), .val (.int (eqv (if (p5 &&& (1 : Int32)) = (0 : Int32) then q3 else q1) q1 (if (p5 &&& (2 : Int32)) = (0 : Int32) then p4 else p2) p2)), .val (.int (eqv q1 (if (p5 &&& (1 : Int32)) = (0 : Int32) then q3 else q1) p2 (if (p5 &&& (2 : Int32)) = (0 : Int32) then p4 else p2))), .val (.int (eqv q1 q1 p2 p2)), .val (.int (0 : Int32)), .val (.int (0 : Int32))] [(.int (if (lcmpW q1 (if (p5 &&& (1 : Int32)) = (0 : Int32) then q3 else q1)) = (0 : Int32) then (if p2 = (if (p5 &&& (2 : Int32)) = (0 : Int32) then p4 else p2) then (1 : Int32) else (0 : Int32)) else (0 : Int32))), (.int (eqv q1 (if (p5 &&& (1 : Int32)) = (0 : Int32) then q3 else q1) p2 (if (p5 &&& (2 : Int32)) = (0 : Int32) then p4 else p2)))])) _
    refine XS.icmpNo X40.here hx rfl (hb hby at_138) rfl (teq rfl).2 ?_
    show Steps _ _ _ (T40.setTop (mkF m 141 #[.val (.long q1), .second, .val (.int p2), .val (.long q3), .second, .val (.int p4), .val (.int p5), .val (.ref b1), .val (.long (if (p5 &&& (1 : Int32)) = (0 : Int32) then q3 else q1)), .second, .val (.int (if (p5 &&& (2 : Int32)) = (0 : Int32) then p4 else p2)), .val (.ref b13), .val .null, .val (.ref b19), .val (.int (if (lcmpW q1 (if (p5 &&& (1 : Int32)) = (0 : Int32) then q3 else q1)) = (0 : Int32) then (if p2 = (if (p5 &&& (2 : Int32)) = (0 : Int32) then p4 else p2) then (1 : Int32) else (0 : Int32)) else (0 : Int32))), .val (.int (eqv (if (p5 &&& (1 : Int32)) = (0 : Int32) then q3 else q1) q1 (if (p5 &&& (2 : Int32)) = (0 : Int32) then p4 else p2) p2)), .val (.int (eqv q1 (if (p5 &&& (1 : Int32)) = (0 : Int32) then q3 else q1) p2 (if (p5 &&& (2 : Int32)) = (0 : Int32) then p4 else p2))), .val (.int (eqv q1 q1 p2 p2)), .val (.int (0 : Int32)), .val (.int (0 : Int32))] [])) _
    refine XS.iload X40.here hx rfl (hb hby at_141) rfl ?_
    show Steps _ _ _ (T40.setTop (mkF m 143 #[.val (.long q1), .second, .val (.int p2), .val (.long q3), .second, .val (.int p4), .val (.int p5), .val (.ref b1), .val (.long (if (p5 &&& (1 : Int32)) = (0 : Int32) then q3 else q1)), .second, .val (.int (if (p5 &&& (2 : Int32)) = (0 : Int32) then p4 else p2)), .val (.ref b13), .val .null, .val (.ref b19), .val (.int (if (lcmpW q1 (if (p5 &&& (1 : Int32)) = (0 : Int32) then q3 else q1)) = (0 : Int32) then (if p2 = (if (p5 &&& (2 : Int32)) = (0 : Int32) then p4 else p2) then (1 : Int32) else (0 : Int32)) else (0 : Int32))), .val (.int (eqv (if (p5 &&& (1 : Int32)) = (0 : Int32) then q3 else q1) q1 (if (p5 &&& (2 : Int32)) = (0 : Int32) then p4 else p2) p2)), .val (.int (eqv q1 (if (p5 &&& (1 : Int32)) = (0 : Int32) then q3 else q1) p2 (if (p5 &&& (2 : Int32)) = (0 : Int32) then p4 else p2))), .val (.int (eqv q1 q1 p2 p2)), .val (.int (0 : Int32)), .val (.int (0 : Int32))] [(.int (eqv q1 q1 p2 p2))])) _
    refine XS.ifNo X40.here hx rfl (hb hby at_143) rfl ((if0 _ _).trans (feq (own_self _ _)).1) ?_
    show Steps _ _ _ (T40.setTop (mkF m 146 #[.val (.long q1), .second, .val (.int p2), .val (.long q3), .second, .val (.int p4), .val (.int p5), .val (.ref b1), .val (.long (if (p5 &&& (1 : Int32)) = (0 : Int32) then q3 else q1)), .second, .val (.int (if (p5 &&& (2 : Int32)) = (0 : Int32) then p4 else p2)), .val (.ref b13), .val .null, .val (.ref b19), .val (.int (if (lcmpW q1 (if (p5 &&& (1 : Int32)) = (0 : Int32) then q3 else q1)) = (0 : Int32) then (if p2 = (if (p5 &&& (2 : Int32)) = (0 : Int32) then p4 else p2) then (1 : Int32) else (0 : Int32)) else (0 : Int32))), .val (.int (eqv (if (p5 &&& (1 : Int32)) = (0 : Int32) then q3 else q1) q1 (if (p5 &&& (2 : Int32)) = (0 : Int32) then p4 else p2) p2)), .val (.int (eqv q1 (if (p5 &&& (1 : Int32)) = (0 : Int32) then q3 else q1) p2 (if (p5 &&& (2 : Int32)) = (0 : Int32) then p4 else p2))), .val (.int (eqv q1 q1 p2 p2)), .val (.int (0 : Int32)), .val (.int (0 : Int32))] [])) _
    refine XS.iload X40.here hx rfl (hb hby at_146) rfl ?_
    show Steps _ _ _ (T40.setTop (mkF m 148 #[.val (.long q1), .second, .val (.int p2), .val (.long q3), .second, .val (.int p4), .val (.int p5), .val (.ref b1), .val (.long (if (p5 &&& (1 : Int32)) = (0 : Int32) then q3 else q1)), .second, .val (.int (if (p5 &&& (2 : Int32)) = (0 : Int32) then p4 else p2)), .val (.ref b13), .val .null, .val (.ref b19), .val (.int (if (lcmpW q1 (if (p5 &&& (1 : Int32)) = (0 : Int32) then q3 else q1)) = (0 : Int32) then (if p2 = (if (p5 &&& (2 : Int32)) = (0 : Int32) then p4 else p2) then (1 : Int32) else (0 : Int32)) else (0 : Int32))), .val (.int (eqv (if (p5 &&& (1 : Int32)) = (0 : Int32) then q3 else q1) q1 (if (p5 &&& (2 : Int32)) = (0 : Int32) then p4 else p2) p2)), .val (.int (eqv q1 (if (p5 &&& (1 : Int32)) = (0 : Int32) then q3 else q1) p2 (if (p5 &&& (2 : Int32)) = (0 : Int32) then p4 else p2))), .val (.int (eqv q1 q1 p2 p2)), .val (.int (0 : Int32)), .val (.int (0 : Int32))] [(.int (0 : Int32))])) _
    refine XS.ifNo X40.here hx rfl (hb hby at_148) rfl ((if0 _ _).trans (teq rfl).2) ?_
    show Steps _ _ _ (T40.setTop (mkF m 151 #[.val (.long q1), .second, .val (.int p2), .val (.long q3), .second, .val (.int p4), .val (.int p5), .val (.ref b1), .val (.long (if (p5 &&& (1 : Int32)) = (0 : Int32) then q3 else q1)), .second, .val (.int (if (p5 &&& (2 : Int32)) = (0 : Int32) then p4 else p2)), .val (.ref b13), .val .null, .val (.ref b19), .val (.int (if (lcmpW q1 (if (p5 &&& (1 : Int32)) = (0 : Int32) then q3 else q1)) = (0 : Int32) then (if p2 = (if (p5 &&& (2 : Int32)) = (0 : Int32) then p4 else p2) then (1 : Int32) else (0 : Int32)) else (0 : Int32))), .val (.int (eqv (if (p5 &&& (1 : Int32)) = (0 : Int32) then q3 else q1) q1 (if (p5 &&& (2 : Int32)) = (0 : Int32) then p4 else p2) p2)), .val (.int (eqv q1 (if (p5 &&& (1 : Int32)) = (0 : Int32) then q3 else q1) p2 (if (p5 &&& (2 : Int32)) = (0 : Int32) then p4 else p2))), .val (.int (eqv q1 q1 p2 p2)), .val (.int (0 : Int32)), .val (.int (0 : Int32))] [])) _
    refine XS.iload X40.here hx rfl (hb hby at_151) rfl ?_
    show Steps _ _ _ (T40.setTop (mkF m 153 #[.val (.long q1), .second, .val (.int p2), .val (.long q3), .second, .val (.int p4), .val (.int p5), .val (.ref b1), .val (.long (if (p5 &&& (1 : Int32)) = (0 : Int32) then q3 else q1)), .second, .val (.int (if (p5 &&& (2 : Int32)) = (0 : Int32) then p4 else p2)), .val (.ref b13), .val .null, .val (.ref b19), .val (.int (if (lcmpW q1 (if (p5 &&& (1 : Int32)) = (0 : Int32) then q3 else q1)) = (0 : Int32) then (if p2 = (if (p5 &&& (2 : Int32)) = (0 : Int32) then p4 else p2) then (1 : Int32) else (0 : Int32)) else (0 : Int32))), .val (.int (eqv (if (p5 &&& (1 : Int32)) = (0 : Int32) then q3 else q1) q1 (if (p5 &&& (2 : Int32)) = (0 : Int32) then p4 else p2) p2)), .val (.int (eqv q1 (if (p5 &&& (1 : Int32)) = (0 : Int32) then q3 else q1) p2 (if (p5 &&& (2 : Int32)) = (0 : Int32) then p4 else p2))), .val (.int (eqv q1 q1 p2 p2)), .val (.int (0 : Int32)), .val (.int (0 : Int32))] [(.int (0 : Int32))])) _
    refine XS.ifNo X40.here hx rfl (hb hby at_153) rfl ((if0 _ _).trans (teq rfl).2) ?_
    show Steps _ _ _ (T40.setTop (mkF m 156 #[.val (.long q1), .second, .val (.int p2), .val (.long q3), .second, .val (.int p4), .val (.int p5), .val (.ref b1), .val (.long (if (p5 &&& (1 : Int32)) = (0 : Int32) then q3 else q1)), .second, .val (.int (if (p5 &&& (2 : Int32)) = (0 : Int32) then p4 else p2)), .val (.ref b13), .val .null, .val (.ref b19), .val (.int (if (lcmpW q1 (if (p5 &&& (1 : Int32)) = (0 : Int32) then q3 else q1)) = (0 : Int32) then (if p2 = (if (p5 &&& (2 : Int32)) = (0 : Int32) then p4 else p2) then (1 : Int32) else (0 : Int32)) else (0 : Int32))), .val (.int (eqv (if (p5 &&& (1 : Int32)) = (0 : Int32) then q3 else q1) q1 (if (p5 &&& (2 : Int32)) = (0 : Int32) then p4 else p2) p2)), .val (.int (eqv q1 (if (p5 &&& (1 : Int32)) = (0 : Int32) then q3 else q1) p2 (if (p5 &&& (2 : Int32)) = (0 : Int32) then p4 else p2))), .val (.int (eqv q1 q1 p2 p2)), .val (.int (0 : Int32)), .val (.int (0 : Int32))] [])) _
    refine XS.iconst X40.here hx rfl (hb hby at_156) ?_
    show Steps _ _ _ (T40.setTop (mkF m 157 #[.val (.long q1), .second, .val (.int p2), .val (.long q3), .second, .val (.int p4), .val (.int p5), .val (.ref b1), .val (.long (if (p5 &&& (1 : Int32)) = (0 : Int32) then q3 else q1)), .second, .val (.int (if (p5 &&& (2 : Int32)) = (0 : Int32) then p4 else p2)), .val (.ref b13), .val .null, .val (.ref b19), .val (.int (if (lcmpW q1 (if (p5 &&& (1 : Int32)) = (0 : Int32) then q3 else q1)) = (0 : Int32) then (if p2 = (if (p5 &&& (2 : Int32)) = (0 : Int32) then p4 else p2) then (1 : Int32) else (0 : Int32)) else (0 : Int32))), .val (.int (eqv (if (p5 &&& (1 : Int32)) = (0 : Int32) then q3 else q1) q1 (if (p5 &&& (2 : Int32)) = (0 : Int32) then p4 else p2) p2)), .val (.int (eqv q1 (if (p5 &&& (1 : Int32)) = (0 : Int32) then q3 else q1) p2 (if (p5 &&& (2 : Int32)) = (0 : Int32) then p4 else p2))), .val (.int (eqv q1 q1 p2 p2)), .val (.int (0 : Int32)), .val (.int (0 : Int32))] [(.int (1 : Int32))])) _
    refine XS.goto X40.here hx rfl (pc0 := 157) (pc' := 161) rfl (hb hby at_157) (by decide) (by decide) ?_
    exact k
  obtain ⟨fs, hr, hrun, hended, hW, hsame⟩ := X40.leave (v := some (.int (1 : Int32))) (fun h => by rw [Bd.returns] at h; cases h)
  refine ⟨_, _, go42 _ ?_, hrun, hended, _, _, rfl, ?_, ⟨_, rfl⟩, hW, hsame.mono (by decide) (by decide)⟩
  · exact retN X40 hx (t := .boolean) Bd.returns (by simp) (hb hby at_161) hr
  · show QL (.int 1) h0 n0 _ T40.heap _
    rw [e40]
    exact ⟨rfl, N40⟩
set_option maxRecDepth 65536 in
set_option maxHeartbeats 40000000 in
theorem comes_1 {Post : Tables → Env → Array Value → State → Outcome → State → Prop} (hpost : ∀ tb e args s v u, (limb_1_1.after args s (.returned v) u = true ∧ limb_1_2.after args s (.returned v) u = true ∧ True) → FrameEnd s (.returned v) u (Jvm.fieldLocs frame_1_writes args s ++ Jvm.arrayLocs frame_1_arrays args s ++ Jvm.staticLocs frame_1_statics s) 16 128 → Post tb e args s (.returned v) u) :
    ArmFor flags0 classFile x code maxLocals ret World_1 tables_1 room_1 Calls_1 rest_1 Pre_1 Post := by
  intro l hfl _ _ p e ha hc hk s m args below hf hA hF happ hP
  obtain ⟨hcalls, hrest, hpre⟩ := hP
  obtain ⟨-, -, -, hnamed, -, -, -, hat⟩ := (Spec.applies_iff hf).mp happ
  obtain ⟨hg, hn⟩ := and_e (Cond.before_iff.mp (show (Jvm.Cond.and given_1 narrow_1).before args s = true from hpre))
  obtain ⟨gc, g0⟩ := and_e hg
  obtain ⟨ga0, g1⟩ := and_e g0
  obtain ⟨ga1, g2⟩ := and_e g1
  obtain ⟨ga2, g3⟩ := and_e g2
  obtain ⟨ga3, g4⟩ := and_e g3
  have ga4 := g4
  obtain ⟨w0, w1, w2, w3, w4, rfl⟩ : ∃ w0 w1 w2 w3 w4 : Value, args = #[w0, w1, w2, w3, w4] := by
    have hs : args.size = 5 := by simpa [Cond.value, given_1] using gc
    obtain ⟨L⟩ := args
    match L, hs with
    | [w0, w1, w2, w3, w4], _ => exact ⟨w0, w1, w2, w3, w4, rfl⟩
  have hw := fun d (hd : d ∈ tables_1) => atoms_spec (ws := Jvm.Cond.code x code maxLocals ret :: tables_1) hat d (List.mem_cons_of_mem _ hd)
  have hfit : Fit s := fun {y c} hc i hi => by
    obtain ⟨ha, rfl⟩ := Array.getElem?_eq_some_iff.mp hc
    have q := List.all_eq_true.mp ((Array.all_eq_true_iff_forall_mem.mp hF) _ (Array.getElem_mem ha)) i (List.mem_range.mpr hi)
    simpa [Array.getElem?_eq_getElem hi] using q
  obtain ⟨hsets, hown0⟩ := atoms_of _ (rest_1_c_eq ▸ (show rest_1_c.before _ s = true from hrest))
  have hr0 := Cond.before_iff.mp hown0
  obtain ⟨i0, ei0⟩ := isL_v ga0
  obtain rfl : w0 = (.long i0) := Option.some.inj ei0
  obtain ⟨i1, ei1⟩ := is_v ga1
  obtain rfl : w1 = (.int i1) := Option.some.inj ei1
  obtain ⟨i2, ei2⟩ := isL_v ga2
  obtain rfl : w2 = (.long i2) := Option.some.inj ei2
  obtain ⟨i3, ei3⟩ := is_v ga3
  obtain rfl : w3 = (.int i3) := Option.some.inj ei3
  obtain ⟨i4, ei4⟩ := is_v ga4
  obtain rfl : w4 = (.int i4) := Option.some.inj ei4
  obtain ⟨wC, clC, HC⟩ := own_LC (hsets _ (List.mem_of_getElem? (i := 1) rfl)) (hsets _ (List.mem_of_getElem? (i := 2) rfl)) (hsets _ (List.mem_of_getElem? (i := 4) rfl)) (hsets _ (List.mem_of_getElem? (i := 5) rfl))
  have key := rm0 l s _ hw tables_1 i0 i1 i2 i3 i4 wC clC s.heap s.heap.size (Nat.le_refl _) HC p e ha hc hk s m _ below hf ((Spec.applies_iff_loose hf).mp happ).1 ⟨rfl, State.Warmed39.refl s, rfl⟩ trivial
  obtain ⟨n, o, h1, h2, h3, _, L, rfl, ⟨rfl, N⟩, hq⟩ := key
  refine ⟨n, _, h1, h2, h3, hpost _ _ _ _ _ _ ⟨Cond.after_iff.mpr rfl, Cond.after_iff.mpr (eq_i res_at (Term.int_eval (1)) rfl), trivial⟩ ⟨hq.1, hq.2.1, (hq.2.2.sift fun y hy => Or.inr (N y hy)).mono (by decide) (by decide)⟩⟩
theorem main_1_1 : Claimed_1_1 := comes_1 fun _ _ _ _ _ _ h hF => ⟨h.1, hF⟩
theorem main_1_2 : Claimed_1_2 := comes_1 fun _ _ _ _ _ _ h hF => ⟨h.2.1, hF⟩
end Jvm.Pilot.@@N@@
namespace Jvm.Pilot.@@N@@
open Jvm Jvm.ClassFile Sem Op Lib Jvm.Free Jvm.Stand Jvm.Pilot.@@N@@.Jvm.D
/-! MADE BY PROGRAM (witnessworld.py) out of the Statement's table words and the real class files: 16 classes; the members and pool entries that the words name. The judged class is class 1, her method 1. -/
namespace start1
open Jvm.ClassFile
def u (s : String) : CpInfo := .utf8 (stringToUtf16 s)
/-- a pool by its gaps: so many unusable entries, then the entry; so many at the end -/
def gap : Nat → List CpInfo → List CpInfo
  | 0, r => r
  | n + 1, r => .unusable :: gap n r
def poolList (es : List (Nat × CpInfo)) (last : Nat) : List CpInfo := es.foldr (fun e r => gap e.1 (e.2 :: r)) (gap last [])
def pool (es : List (Nat × CpInfo)) (last : Nat) : Array CpInfo := ⟨poolList es last⟩
def fileOf (pool : Array CpInfo) (this : Nat) (attrs : Array Attribute := #[]) (ms : Array MethodInfo := #[]) (fl : Nat := 33) (sup : Nat := 0) (ifs : Array Nat := #[]) (fds : Array FieldInfo := #[]) : ClassFile where
  minorVersion := 0
  majorVersion := 65
  constantPool := pool
  accessFlags := fl
  thisClass := this
  superClass := sup
  interfaces := ifs
  fields := fds
  methods := ms
  attributes := attrs
def plain (name : String) (sup : Option ClassId) : Class where
  name := name
  kind := .ordinary
  loader := none
  accessFlags := 33
  super := sup
  interfaces := #[]
  cf := none
  fields := #[]
  methods := #[]
  instanceTypes := #[]
  staticTypes := #[]
  resolved := #[]
  callSites := []
  init := .initialized
  statics := none
  mirror := none

def pool0 : Array CpInfo := pool [(5, u "<init>"), (0, u "()V"), (1, .class_ 10), (1, u "java/lang/Object")] 113

def k0c0 : Code := { maxStack := 0, maxLocals := 1, code := object_method_1_code, exceptionTable := #[], attributes := #[] }
def k0m0 : Method := { name := "<init>", desc := "()V", sig := { parameters := [], returnType := none }, accessFlags := 1, code := some k0c0 }
/-- java/lang/Object -/
def k0 : Class := { plain "java/lang/Object" none with
  accessFlags := 33
  interfaces := #[]
  cf := some (fileOf pool0 8 #[] #[{ accessFlags := 1, nameIndex := 5, descriptorIndex := 6, attributes := #[] }] 33 0 #[] #[])
  fields := #[]
  methods := #[k0m0]
  instanceTypes := #[]
  staticTypes := #[]
  resolved := Array.replicate 124 none
  statics := none }

def pool1 : Array CpInfo := pool [(2, .class_ 4), (1, u "java/lang/Object"), (0, u "<init>"), (0, u "()V"), (0, .class_ 8), (0, u "com/example/horn_to_horn/horntohorn/language/Position"), (0, .methodref 7 10), (0, .nameAndType 5 11), (0, u "(JI)V"), (0, .methodref 13 14), (0, .class_ 15), (0, .nameAndType 16 17), (0, u "java/lang/Long"), (0, u "valueOf"), (0, u "(J)Ljava/lang/Long;"), (0, .methodref 7 19), (0, .nameAndType 20 21), (0, u "equals"), (0, u "(Ljava/lang/Object;)Z"), (0, .class_ 23), (0, u "com/example/horn_to_horn/horntohorn/language/PositionEqualsPinLaw"), (2, u "law"), (0, u "(JIJII)Z")] 3

def k1m0 : Method := { name := "<init>", desc := "()V", sig := { parameters := [], returnType := none }, accessFlags := 1, code := none }
def k1c1 : Code := { maxStack := 5, maxLocals := 20, code := code, exceptionTable := #[], attributes := #[] }
def k1m1 : Method := { name := "law", desc := "(JIJII)Z", sig := { parameters := [.long, .int, .long, .int, .int], returnType := some .boolean }, accessFlags := 9, code := some k1c1 }
/-- com/example/horn_to_horn/horntohorn/language/PositionEqualsPinLaw -/
def k1 : Class := { plain "com/example/horn_to_horn/horntohorn/language/PositionEqualsPinLaw" (some 0) with
  accessFlags := 49
  interfaces := #[]
  cf := some (fileOf pool1 22 #[] #[{ accessFlags := 1, nameIndex := 5, descriptorIndex := 6, attributes := #[] }, { accessFlags := 9, nameIndex := 26, descriptorIndex := 27, attributes := #[] }] 49 2 #[] #[])
  fields := #[]
  methods := #[k1m0, k1m1]
  instanceTypes := #[]
  staticTypes := #[]
  resolved := Array.replicate 31 none
  statics := none }

def pool2 : Array CpInfo := pool [(1, .class_ 2), (0, u "java/io/Serializable"), (0, .class_ 4), (0, u "java/lang/Object")] 2

/-- java/io/Serializable -/
def k2 : Class := { plain "java/io/Serializable" (some 0) with
  accessFlags := 1537
  interfaces := #[]
  cf := some (fileOf pool2 1 #[] #[] 1537 3 #[] #[])
  fields := #[]
  methods := #[]
  instanceTypes := #[]
  staticTypes := #[]
  resolved := Array.replicate 7 none
  statics := none }

def pool3 : Array CpInfo := pool [(1, .methodref 2 3), (0, .class_ 4), (0, .nameAndType 5 6), (0, u "java/lang/Object"), (0, u "<init>"), (0, u "()V"), (0, .fieldref 8 9), (0, .class_ 10), (0, .nameAndType 11 12), (0, u "com/example/horn_to_horn/horntohorn/language/Position"), (0, u "line"), (0, u "J"), (0, .fieldref 8 14), (0, .nameAndType 15 16), (0, u "column"), (0, u "I"), (10, .class_ 28), (0, u "java/io/Serializable"), (0, u "serialVersionUID"), (3, u "(JI)V"), (4, u "equals"), (0, u "(Ljava/lang/Object;)Z")] 20

def k3c0 : Code := { maxStack := 3, maxLocals := 4, code := prog_38_method_1_code, exceptionTable := #[], attributes := #[] }
def k3m0 : Method := { name := "<init>", desc := "(JI)V", sig := { parameters := [.long, .int], returnType := none }, accessFlags := 1, code := some k3c0 }
def k3c1 : Code := { maxStack := 4, maxLocals := 3, code := prog_38_method_4_code, exceptionTable := #[], attributes := #[] }
def k3m1 : Method := { name := "equals", desc := "(Ljava/lang/Object;)Z", sig := { parameters := [(.object "java/lang/Object")], returnType := some .boolean }, accessFlags := 1, code := some k3c1 }
/-- com/example/horn_to_horn/horntohorn/language/Position -/
def k3 : Class := { plain "com/example/horn_to_horn/horntohorn/language/Position" (some 0) with
  accessFlags := 49
  interfaces := #[2]
  cf := some (fileOf pool3 8 #[] #[{ accessFlags := 1, nameIndex := 5, descriptorIndex := 33, attributes := #[] }, { accessFlags := 1, nameIndex := 38, descriptorIndex := 39, attributes := #[] }] 49 2 #[27] #[{ accessFlags := 26, nameIndex := 29, descriptorIndex := 12, attributes := #[] }, { accessFlags := 18, nameIndex := 11, descriptorIndex := 12, attributes := #[] }, { accessFlags := 18, nameIndex := 15, descriptorIndex := 16, attributes := #[] }])
  fields := #[{ name := "serialVersionUID", type := .long, accessFlags := 26, slot := 0, constantValue := 0 }, { name := "line", type := .long, accessFlags := 18, slot := 0, constantValue := 0 }, { name := "column", type := .int, accessFlags := 18, slot := 1, constantValue := 0 }]
  methods := #[k3m0, k3m1]
  instanceTypes := #[.long, .int]
  staticTypes := #[.long]
  resolved := Array.replicate 60 none
  statics := none }

def pool4 : Array CpInfo := pool [(1, .methodref 2 3), (0, .class_ 4), (0, .nameAndType 5 6), (0, u "java/lang/Object"), (0, u "<init>"), (0, u "()V"), (1, .class_ 10), (1, u "java/lang/Number"), (2, .class_ 14), (0, u "java/io/Serializable"), (0, u "serialVersionUID"), (0, u "J")] 20

def k4c0 : Code := { maxStack := 1, maxLocals := 1, code := jdk_18_method_1_code, exceptionTable := #[], attributes := #[] }
def k4m0 : Method := { name := "<init>", desc := "()V", sig := { parameters := [], returnType := none }, accessFlags := 1, code := some k4c0 }
/-- java/lang/Number -/
def k4 : Class := { plain "java/lang/Number" (some 0) with
  accessFlags := 1057
  interfaces := #[2]
  cf := some (fileOf pool4 8 #[] #[{ accessFlags := 1, nameIndex := 5, descriptorIndex := 6, attributes := #[] }] 1057 2 #[13] #[{ accessFlags := 26, nameIndex := 15, descriptorIndex := 16, attributes := #[] }])
  fields := #[{ name := "serialVersionUID", type := .long, accessFlags := 26, slot := 0, constantValue := 0 }]
  methods := #[k4m0]
  instanceTypes := #[]
  staticTypes := #[.long]
  resolved := Array.replicate 37 none
  statics := none }

def pool5 : Array CpInfo := pool [(1, .class_ 2), (0, u "java/lang/Comparable"), (0, .class_ 4), (0, u "java/lang/Object")] 7

/-- java/lang/Comparable -/
def k5 : Class := { plain "java/lang/Comparable" (some 0) with
  accessFlags := 1537
  interfaces := #[]
  cf := some (fileOf pool5 1 #[] #[] 1537 3 #[] #[])
  fields := #[]
  methods := #[]
  instanceTypes := #[]
  staticTypes := #[]
  resolved := Array.replicate 12 none
  statics := none }

def pool6 : Array CpInfo := pool [(1, .class_ 2), (0, u "java/lang/constant/Constable"), (0, .class_ 4), (0, u "java/lang/Object")] 6

/-- java/lang/constant/Constable -/
def k6 : Class := { plain "java/lang/constant/Constable" (some 0) with
  accessFlags := 1537
  interfaces := #[]
  cf := some (fileOf pool6 1 #[] #[] 1537 3 #[] #[])
  fields := #[]
  methods := #[]
  instanceTypes := #[]
  staticTypes := #[]
  resolved := Array.replicate 11 none
  statics := none }

def pool7 : Array CpInfo := pool [(1, .class_ 2), (0, u "java/lang/constant/ConstantDesc"), (0, .class_ 4), (0, u "java/lang/Object")] 32

/-- java/lang/constant/ConstantDesc -/
def k7 : Class := { plain "java/lang/constant/ConstantDesc" (some 0) with
  accessFlags := 1537
  interfaces := #[]
  cf := some (fileOf pool7 1 #[] #[] 1537 3 #[] #[])
  fields := #[]
  methods := #[]
  instanceTypes := #[]
  staticTypes := #[]
  resolved := Array.replicate 37 none
  statics := none }

def pool8 : Array CpInfo := pool [(1, .class_ 2), (0, u "java/lang/Long"), (55, .nameAndType 59 60), (0, u "<init>"), (0, u "()V"), (24, u "valueOf"), (143, u "(J)Ljava/lang/Long;"), (0, .long 18446744073709551488), (1, .long 127), (1, .fieldref 235 236), (0, .class_ 237), (0, .nameAndType 238 239), (0, u "java/lang/Long$LongCache"), (0, u "cache"), (0, u "[Ljava/lang/Long;"), (0, .methodref 1 241), (0, .nameAndType 59 242), (0, u "(J)V"), (27, .methodref 271 58), (0, .class_ 272), (0, u "java/lang/Number"), (0, .fieldref 1 274), (0, .nameAndType 275 276), (0, u "value"), (0, u "J"), (84, u "TYPE"), (0, u "Ljava/lang/Class;"), (0, .class_ 364), (0, u "java/lang/Comparable"), (0, .class_ 366), (0, u "java/lang/constant/Constable"), (0, .class_ 368), (0, u "java/lang/constant/ConstantDesc"), (0, u "MIN_VALUE"), (1, u "MAX_VALUE"), (4, u "SIZE"), (0, u "I"), (1, u "BYTES"), (1, u "serialVersionUID")] 142

def k8c0 : Code := { maxStack := 4, maxLocals := 3, code := jdk_35_method_24_code, exceptionTable := #[], attributes := #[] }
def k8m0 : Method := { name := "valueOf", desc := "(J)Ljava/lang/Long;", sig := { parameters := [.long], returnType := some (.object "java/lang/Long") }, accessFlags := 9, code := some k8c0 }
def k8c1 : Code := { maxStack := 3, maxLocals := 3, code := jdk_35_method_26_code, exceptionTable := #[], attributes := #[] }
def k8m1 : Method := { name := "<init>", desc := "(J)V", sig := { parameters := [.long], returnType := none }, accessFlags := 1, code := some k8c1 }
/-- java/lang/Long -/
def k8 : Class := { plain "java/lang/Long" (some 4) with
  accessFlags := 49
  interfaces := #[5, 6, 7]
  cf := some (fileOf pool8 1 #[.nestMembers #[235]] #[{ accessFlags := 9, nameIndex := 85, descriptorIndex := 229, attributes := #[] }, { accessFlags := 1, nameIndex := 59, descriptorIndex := 242, attributes := #[] }] 49 271 #[363, 365, 367] #[{ accessFlags := 25, nameIndex := 369, descriptorIndex := 276, attributes := #[] }, { accessFlags := 25, nameIndex := 371, descriptorIndex := 276, attributes := #[] }, { accessFlags := 25, nameIndex := 361, descriptorIndex := 362, attributes := #[] }, { accessFlags := 18, nameIndex := 275, descriptorIndex := 276, attributes := #[] }, { accessFlags := 25, nameIndex := 376, descriptorIndex := 377, attributes := #[] }, { accessFlags := 25, nameIndex := 379, descriptorIndex := 377, attributes := #[] }, { accessFlags := 26, nameIndex := 381, descriptorIndex := 276, attributes := #[] }])
  fields := #[{ name := "MIN_VALUE", type := .long, accessFlags := 25, slot := 0, constantValue := 0 }, { name := "MAX_VALUE", type := .long, accessFlags := 25, slot := 1, constantValue := 0 }, { name := "TYPE", type := (.object "java/lang/Class"), accessFlags := 25, slot := 2, constantValue := 0 }, { name := "value", type := .long, accessFlags := 18, slot := 0, constantValue := 0 }, { name := "SIZE", type := .int, accessFlags := 25, slot := 3, constantValue := 0 }, { name := "BYTES", type := .int, accessFlags := 25, slot := 4, constantValue := 0 }, { name := "serialVersionUID", type := .long, accessFlags := 26, slot := 5, constantValue := 0 }]
  methods := #[k8m0, k8m1]
  instanceTypes := #[.long]
  staticTypes := #[.long, .long, (.object "java/lang/Class"), .int, .int, .long]
  resolved := Array.replicate 524 none
  statics := none }

def pool9 : Array CpInfo := pool [(2, .class_ 4), (1, u "java/lang/Object"), (0, u "<init>"), (0, u "()V"), (0, .class_ 8), (0, u "java/lang/Long"), (7, .class_ 18), (1, u "java/lang/Long$LongCache"), (0, u "$assertionsDisabled"), (0, u "Z"), (8, u "archivedCache"), (0, u "[Ljava/lang/Long;"), (7, u "cache")] 24

def k9m0 : Method := { name := "<init>", desc := "()V", sig := { parameters := [], returnType := none }, accessFlags := 2, code := none }
/-- java/lang/Long$LongCache -/
def k9 : Class := { plain "java/lang/Long$LongCache" (some 0) with
  accessFlags := 48
  interfaces := #[]
  cf := some (fileOf pool9 16 #[.nestHost 7] #[{ accessFlags := 2, nameIndex := 5, descriptorIndex := 6, attributes := #[] }] 48 2 #[] #[{ accessFlags := 24, nameIndex := 38, descriptorIndex := 30, attributes := #[] }, { accessFlags := 8, nameIndex := 29, descriptorIndex := 30, attributes := #[] }, { accessFlags := 4120, nameIndex := 19, descriptorIndex := 20, attributes := #[] }])
  fields := #[{ name := "cache", type := (.array (.object "java/lang/Long")), accessFlags := 24, slot := 0, constantValue := 0 }, { name := "archivedCache", type := (.array (.object "java/lang/Long")), accessFlags := 8, slot := 1, constantValue := 0 }, { name := "$assertionsDisabled", type := .boolean, accessFlags := 4120, slot := 2, constantValue := 0 }]
  methods := #[k9m0]
  instanceTypes := #[]
  staticTypes := #[(.array (.object "java/lang/Long")), (.array (.object "java/lang/Long")), .boolean]
  resolved := Array.replicate 63 none
  statics := some 0 }

def pool10 : Array CpInfo := pool [(1, u "java/lang/Cloneable"), (0, .class_ 1), (0, u "java/lang/Object"), (0, .class_ 3)] 3

/-- java/lang/Cloneable -/
def k10 : Class := { plain "java/lang/Cloneable" (some 0) with
  accessFlags := 1537
  interfaces := #[]
  cf := some (fileOf pool10 2 #[] #[] 1537 4 #[] #[])
  fields := #[]
  methods := #[]
  instanceTypes := #[]
  staticTypes := #[]
  resolved := Array.replicate 8 none
  statics := none }

/-- the primitive byte -/
def k11 : Class := { plain "byte" none with kind := .primitive 'B', accessFlags := 0x411 }
/-- [B -/
def k12 : Class := { plain "[B" (some 0) with kind := .array 11 .byte, interfaces := #[10, 2], accessFlags := 1041 }

/-- the primitive int -/
def k13 : Class := { plain "int" none with kind := .primitive 'I', accessFlags := 0x411 }
/-- [I -/
def k14 : Class := { plain "[I" (some 0) with kind := .array 13 .int, interfaces := #[10, 2], accessFlags := 1041 }

/-- [Ljava/lang/Long; -/
def k15 : Class := { plain "[Ljava/lang/Long;" (some 0) with kind := .array 8 (.object "java/lang/Long"), interfaces := #[10, 2], accessFlags := 1041 }

def heap : Heap := #[{ cls := 9, slots := #[.ref 1, .null, .int 0], vm := .statics 9 },
  { cls := 15, slots := #[.ref 2, .ref 3, .ref 4, .ref 5, .ref 6, .ref 7, .ref 8, .ref 9, .ref 10, .ref 11, .ref 12, .ref 13, .ref 14, .ref 15, .ref 16, .ref 17, .ref 18, .ref 19, .ref 20, .ref 21, .ref 22, .ref 23, .ref 24, .ref 25, .ref 26, .ref 27, .ref 28, .ref 29, .ref 30, .ref 31, .ref 32, .ref 33, .ref 34, .ref 35, .ref 36, .ref 37, .ref 38, .ref 39, .ref 40, .ref 41, .ref 42, .ref 43, .ref 44, .ref 45, .ref 46, .ref 47, .ref 48, .ref 49, .ref 50, .ref 51, .ref 52, .ref 53, .ref 54, .ref 55, .ref 56, .ref 57, .ref 58, .ref 59, .ref 60, .ref 61, .ref 62, .ref 63, .ref 64, .ref 65, .ref 66, .ref 67, .ref 68, .ref 69, .ref 70, .ref 71, .ref 72, .ref 73, .ref 74, .ref 75, .ref 76, .ref 77, .ref 78, .ref 79, .ref 80, .ref 81, .ref 82, .ref 83, .ref 84, .ref 85, .ref 86, .ref 87, .ref 88, .ref 89, .ref 90, .ref 91, .ref 92, .ref 93, .ref 94, .ref 95, .ref 96, .ref 97, .ref 98, .ref 99, .ref 100, .ref 101, .ref 102, .ref 103, .ref 104, .ref 105, .ref 106, .ref 107, .ref 108, .ref 109, .ref 110, .ref 111, .ref 112, .ref 113, .ref 114, .ref 115, .ref 116, .ref 117, .ref 118, .ref 119, .ref 120, .ref 121, .ref 122, .ref 123, .ref 124, .ref 125, .ref 126, .ref 127, .ref 128, .ref 129, .ref 130, .ref 131, .ref 132, .ref 133, .ref 134, .ref 135, .ref 136, .ref 137, .ref 138, .ref 139, .ref 140, .ref 141, .ref 142, .ref 143, .ref 144, .ref 145, .ref 146, .ref 147, .ref 148, .ref 149, .ref 150, .ref 151, .ref 152, .ref 153, .ref 154, .ref 155, .ref 156, .ref 157, .ref 158, .ref 159, .ref 160, .ref 161, .ref 162, .ref 163, .ref 164, .ref 165, .ref 166, .ref 167, .ref 168, .ref 169, .ref 170, .ref 171, .ref 172, .ref 173, .ref 174, .ref 175, .ref 176, .ref 177, .ref 178, .ref 179, .ref 180, .ref 181, .ref 182, .ref 183, .ref 184, .ref 185, .ref 186, .ref 187, .ref 188, .ref 189, .ref 190, .ref 191, .ref 192, .ref 193, .ref 194, .ref 195, .ref 196, .ref 197, .ref 198, .ref 199, .ref 200, .ref 201, .ref 202, .ref 203, .ref 204, .ref 205, .ref 206, .ref 207, .ref 208, .ref 209, .ref 210, .ref 211, .ref 212, .ref 213, .ref 214, .ref 215, .ref 216, .ref 217, .ref 218, .ref 219, .ref 220, .ref 221, .ref 222, .ref 223, .ref 224, .ref 225, .ref 226, .ref 227, .ref 228, .ref 229, .ref 230, .ref 231, .ref 232, .ref 233, .ref 234, .ref 235, .ref 236, .ref 237, .ref 238, .ref 239, .ref 240, .ref 241, .ref 242, .ref 243, .ref 244, .ref 245, .ref 246, .ref 247, .ref 248, .ref 249, .ref 250, .ref 251, .ref 252, .ref 253, .ref 254, .ref 255, .ref 256, .ref 257], vm := .none },
  { cls := 8, slots := #[.long (-128)], vm := .none },
  { cls := 8, slots := #[.long (-127)], vm := .none },
  { cls := 8, slots := #[.long (-126)], vm := .none },
  { cls := 8, slots := #[.long (-125)], vm := .none },
  { cls := 8, slots := #[.long (-124)], vm := .none },
  { cls := 8, slots := #[.long (-123)], vm := .none },
  { cls := 8, slots := #[.long (-122)], vm := .none },
  { cls := 8, slots := #[.long (-121)], vm := .none },
  { cls := 8, slots := #[.long (-120)], vm := .none },
  { cls := 8, slots := #[.long (-119)], vm := .none },
  { cls := 8, slots := #[.long (-118)], vm := .none },
  { cls := 8, slots := #[.long (-117)], vm := .none },
  { cls := 8, slots := #[.long (-116)], vm := .none },
  { cls := 8, slots := #[.long (-115)], vm := .none },
  { cls := 8, slots := #[.long (-114)], vm := .none },
  { cls := 8, slots := #[.long (-113)], vm := .none },
  { cls := 8, slots := #[.long (-112)], vm := .none },
  { cls := 8, slots := #[.long (-111)], vm := .none },
  { cls := 8, slots := #[.long (-110)], vm := .none },
  { cls := 8, slots := #[.long (-109)], vm := .none },
  { cls := 8, slots := #[.long (-108)], vm := .none },
  { cls := 8, slots := #[.long (-107)], vm := .none },
  { cls := 8, slots := #[.long (-106)], vm := .none },
  { cls := 8, slots := #[.long (-105)], vm := .none },
  { cls := 8, slots := #[.long (-104)], vm := .none },
  { cls := 8, slots := #[.long (-103)], vm := .none },
  { cls := 8, slots := #[.long (-102)], vm := .none },
  { cls := 8, slots := #[.long (-101)], vm := .none },
  { cls := 8, slots := #[.long (-100)], vm := .none },
  { cls := 8, slots := #[.long (-99)], vm := .none },
  { cls := 8, slots := #[.long (-98)], vm := .none },
  { cls := 8, slots := #[.long (-97)], vm := .none },
  { cls := 8, slots := #[.long (-96)], vm := .none },
  { cls := 8, slots := #[.long (-95)], vm := .none },
  { cls := 8, slots := #[.long (-94)], vm := .none },
  { cls := 8, slots := #[.long (-93)], vm := .none },
  { cls := 8, slots := #[.long (-92)], vm := .none },
  { cls := 8, slots := #[.long (-91)], vm := .none },
  { cls := 8, slots := #[.long (-90)], vm := .none },
  { cls := 8, slots := #[.long (-89)], vm := .none },
  { cls := 8, slots := #[.long (-88)], vm := .none },
  { cls := 8, slots := #[.long (-87)], vm := .none },
  { cls := 8, slots := #[.long (-86)], vm := .none },
  { cls := 8, slots := #[.long (-85)], vm := .none },
  { cls := 8, slots := #[.long (-84)], vm := .none },
  { cls := 8, slots := #[.long (-83)], vm := .none },
  { cls := 8, slots := #[.long (-82)], vm := .none },
  { cls := 8, slots := #[.long (-81)], vm := .none },
  { cls := 8, slots := #[.long (-80)], vm := .none },
  { cls := 8, slots := #[.long (-79)], vm := .none },
  { cls := 8, slots := #[.long (-78)], vm := .none },
  { cls := 8, slots := #[.long (-77)], vm := .none },
  { cls := 8, slots := #[.long (-76)], vm := .none },
  { cls := 8, slots := #[.long (-75)], vm := .none },
  { cls := 8, slots := #[.long (-74)], vm := .none },
  { cls := 8, slots := #[.long (-73)], vm := .none },
  { cls := 8, slots := #[.long (-72)], vm := .none },
  { cls := 8, slots := #[.long (-71)], vm := .none },
  { cls := 8, slots := #[.long (-70)], vm := .none },
  { cls := 8, slots := #[.long (-69)], vm := .none },
  { cls := 8, slots := #[.long (-68)], vm := .none },
  { cls := 8, slots := #[.long (-67)], vm := .none },
  { cls := 8, slots := #[.long (-66)], vm := .none },
  { cls := 8, slots := #[.long (-65)], vm := .none },
  { cls := 8, slots := #[.long (-64)], vm := .none },
  { cls := 8, slots := #[.long (-63)], vm := .none },
  { cls := 8, slots := #[.long (-62)], vm := .none },
  { cls := 8, slots := #[.long (-61)], vm := .none },
  { cls := 8, slots := #[.long (-60)], vm := .none },
  { cls := 8, slots := #[.long (-59)], vm := .none },
  { cls := 8, slots := #[.long (-58)], vm := .none },
  { cls := 8, slots := #[.long (-57)], vm := .none },
  { cls := 8, slots := #[.long (-56)], vm := .none },
  { cls := 8, slots := #[.long (-55)], vm := .none },
  { cls := 8, slots := #[.long (-54)], vm := .none },
  { cls := 8, slots := #[.long (-53)], vm := .none },
  { cls := 8, slots := #[.long (-52)], vm := .none },
  { cls := 8, slots := #[.long (-51)], vm := .none },
  { cls := 8, slots := #[.long (-50)], vm := .none },
  { cls := 8, slots := #[.long (-49)], vm := .none },
  { cls := 8, slots := #[.long (-48)], vm := .none },
  { cls := 8, slots := #[.long (-47)], vm := .none },
  { cls := 8, slots := #[.long (-46)], vm := .none },
  { cls := 8, slots := #[.long (-45)], vm := .none },
  { cls := 8, slots := #[.long (-44)], vm := .none },
  { cls := 8, slots := #[.long (-43)], vm := .none },
  { cls := 8, slots := #[.long (-42)], vm := .none },
  { cls := 8, slots := #[.long (-41)], vm := .none },
  { cls := 8, slots := #[.long (-40)], vm := .none },
  { cls := 8, slots := #[.long (-39)], vm := .none },
  { cls := 8, slots := #[.long (-38)], vm := .none },
  { cls := 8, slots := #[.long (-37)], vm := .none },
  { cls := 8, slots := #[.long (-36)], vm := .none },
  { cls := 8, slots := #[.long (-35)], vm := .none },
  { cls := 8, slots := #[.long (-34)], vm := .none },
  { cls := 8, slots := #[.long (-33)], vm := .none },
  { cls := 8, slots := #[.long (-32)], vm := .none },
  { cls := 8, slots := #[.long (-31)], vm := .none },
  { cls := 8, slots := #[.long (-30)], vm := .none },
  { cls := 8, slots := #[.long (-29)], vm := .none },
  { cls := 8, slots := #[.long (-28)], vm := .none },
  { cls := 8, slots := #[.long (-27)], vm := .none },
  { cls := 8, slots := #[.long (-26)], vm := .none },
  { cls := 8, slots := #[.long (-25)], vm := .none },
  { cls := 8, slots := #[.long (-24)], vm := .none },
  { cls := 8, slots := #[.long (-23)], vm := .none },
  { cls := 8, slots := #[.long (-22)], vm := .none },
  { cls := 8, slots := #[.long (-21)], vm := .none },
  { cls := 8, slots := #[.long (-20)], vm := .none },
  { cls := 8, slots := #[.long (-19)], vm := .none },
  { cls := 8, slots := #[.long (-18)], vm := .none },
  { cls := 8, slots := #[.long (-17)], vm := .none },
  { cls := 8, slots := #[.long (-16)], vm := .none },
  { cls := 8, slots := #[.long (-15)], vm := .none },
  { cls := 8, slots := #[.long (-14)], vm := .none },
  { cls := 8, slots := #[.long (-13)], vm := .none },
  { cls := 8, slots := #[.long (-12)], vm := .none },
  { cls := 8, slots := #[.long (-11)], vm := .none },
  { cls := 8, slots := #[.long (-10)], vm := .none },
  { cls := 8, slots := #[.long (-9)], vm := .none },
  { cls := 8, slots := #[.long (-8)], vm := .none },
  { cls := 8, slots := #[.long (-7)], vm := .none },
  { cls := 8, slots := #[.long (-6)], vm := .none },
  { cls := 8, slots := #[.long (-5)], vm := .none },
  { cls := 8, slots := #[.long (-4)], vm := .none },
  { cls := 8, slots := #[.long (-3)], vm := .none },
  { cls := 8, slots := #[.long (-2)], vm := .none },
  { cls := 8, slots := #[.long (-1)], vm := .none },
  { cls := 8, slots := #[.long (0)], vm := .none },
  { cls := 8, slots := #[.long (1)], vm := .none },
  { cls := 8, slots := #[.long (2)], vm := .none },
  { cls := 8, slots := #[.long (3)], vm := .none },
  { cls := 8, slots := #[.long (4)], vm := .none },
  { cls := 8, slots := #[.long (5)], vm := .none },
  { cls := 8, slots := #[.long (6)], vm := .none },
  { cls := 8, slots := #[.long (7)], vm := .none },
  { cls := 8, slots := #[.long (8)], vm := .none },
  { cls := 8, slots := #[.long (9)], vm := .none },
  { cls := 8, slots := #[.long (10)], vm := .none },
  { cls := 8, slots := #[.long (11)], vm := .none },
  { cls := 8, slots := #[.long (12)], vm := .none },
  { cls := 8, slots := #[.long (13)], vm := .none },
  { cls := 8, slots := #[.long (14)], vm := .none },
  { cls := 8, slots := #[.long (15)], vm := .none },
  { cls := 8, slots := #[.long (16)], vm := .none },
  { cls := 8, slots := #[.long (17)], vm := .none },
  { cls := 8, slots := #[.long (18)], vm := .none },
  { cls := 8, slots := #[.long (19)], vm := .none },
  { cls := 8, slots := #[.long (20)], vm := .none },
  { cls := 8, slots := #[.long (21)], vm := .none },
  { cls := 8, slots := #[.long (22)], vm := .none },
  { cls := 8, slots := #[.long (23)], vm := .none },
  { cls := 8, slots := #[.long (24)], vm := .none },
  { cls := 8, slots := #[.long (25)], vm := .none },
  { cls := 8, slots := #[.long (26)], vm := .none },
  { cls := 8, slots := #[.long (27)], vm := .none },
  { cls := 8, slots := #[.long (28)], vm := .none },
  { cls := 8, slots := #[.long (29)], vm := .none },
  { cls := 8, slots := #[.long (30)], vm := .none },
  { cls := 8, slots := #[.long (31)], vm := .none },
  { cls := 8, slots := #[.long (32)], vm := .none },
  { cls := 8, slots := #[.long (33)], vm := .none },
  { cls := 8, slots := #[.long (34)], vm := .none },
  { cls := 8, slots := #[.long (35)], vm := .none },
  { cls := 8, slots := #[.long (36)], vm := .none },
  { cls := 8, slots := #[.long (37)], vm := .none },
  { cls := 8, slots := #[.long (38)], vm := .none },
  { cls := 8, slots := #[.long (39)], vm := .none },
  { cls := 8, slots := #[.long (40)], vm := .none },
  { cls := 8, slots := #[.long (41)], vm := .none },
  { cls := 8, slots := #[.long (42)], vm := .none },
  { cls := 8, slots := #[.long (43)], vm := .none },
  { cls := 8, slots := #[.long (44)], vm := .none },
  { cls := 8, slots := #[.long (45)], vm := .none },
  { cls := 8, slots := #[.long (46)], vm := .none },
  { cls := 8, slots := #[.long (47)], vm := .none },
  { cls := 8, slots := #[.long (48)], vm := .none },
  { cls := 8, slots := #[.long (49)], vm := .none },
  { cls := 8, slots := #[.long (50)], vm := .none },
  { cls := 8, slots := #[.long (51)], vm := .none },
  { cls := 8, slots := #[.long (52)], vm := .none },
  { cls := 8, slots := #[.long (53)], vm := .none },
  { cls := 8, slots := #[.long (54)], vm := .none },
  { cls := 8, slots := #[.long (55)], vm := .none },
  { cls := 8, slots := #[.long (56)], vm := .none },
  { cls := 8, slots := #[.long (57)], vm := .none },
  { cls := 8, slots := #[.long (58)], vm := .none },
  { cls := 8, slots := #[.long (59)], vm := .none },
  { cls := 8, slots := #[.long (60)], vm := .none },
  { cls := 8, slots := #[.long (61)], vm := .none },
  { cls := 8, slots := #[.long (62)], vm := .none },
  { cls := 8, slots := #[.long (63)], vm := .none },
  { cls := 8, slots := #[.long (64)], vm := .none },
  { cls := 8, slots := #[.long (65)], vm := .none },
  { cls := 8, slots := #[.long (66)], vm := .none },
  { cls := 8, slots := #[.long (67)], vm := .none },
  { cls := 8, slots := #[.long (68)], vm := .none },
  { cls := 8, slots := #[.long (69)], vm := .none },
  { cls := 8, slots := #[.long (70)], vm := .none },
  { cls := 8, slots := #[.long (71)], vm := .none },
  { cls := 8, slots := #[.long (72)], vm := .none },
  { cls := 8, slots := #[.long (73)], vm := .none },
  { cls := 8, slots := #[.long (74)], vm := .none },
  { cls := 8, slots := #[.long (75)], vm := .none },
  { cls := 8, slots := #[.long (76)], vm := .none },
  { cls := 8, slots := #[.long (77)], vm := .none },
  { cls := 8, slots := #[.long (78)], vm := .none },
  { cls := 8, slots := #[.long (79)], vm := .none },
  { cls := 8, slots := #[.long (80)], vm := .none },
  { cls := 8, slots := #[.long (81)], vm := .none },
  { cls := 8, slots := #[.long (82)], vm := .none },
  { cls := 8, slots := #[.long (83)], vm := .none },
  { cls := 8, slots := #[.long (84)], vm := .none },
  { cls := 8, slots := #[.long (85)], vm := .none },
  { cls := 8, slots := #[.long (86)], vm := .none },
  { cls := 8, slots := #[.long (87)], vm := .none },
  { cls := 8, slots := #[.long (88)], vm := .none },
  { cls := 8, slots := #[.long (89)], vm := .none },
  { cls := 8, slots := #[.long (90)], vm := .none },
  { cls := 8, slots := #[.long (91)], vm := .none },
  { cls := 8, slots := #[.long (92)], vm := .none },
  { cls := 8, slots := #[.long (93)], vm := .none },
  { cls := 8, slots := #[.long (94)], vm := .none },
  { cls := 8, slots := #[.long (95)], vm := .none },
  { cls := 8, slots := #[.long (96)], vm := .none },
  { cls := 8, slots := #[.long (97)], vm := .none },
  { cls := 8, slots := #[.long (98)], vm := .none },
  { cls := 8, slots := #[.long (99)], vm := .none },
  { cls := 8, slots := #[.long (100)], vm := .none },
  { cls := 8, slots := #[.long (101)], vm := .none },
  { cls := 8, slots := #[.long (102)], vm := .none },
  { cls := 8, slots := #[.long (103)], vm := .none },
  { cls := 8, slots := #[.long (104)], vm := .none },
  { cls := 8, slots := #[.long (105)], vm := .none },
  { cls := 8, slots := #[.long (106)], vm := .none },
  { cls := 8, slots := #[.long (107)], vm := .none },
  { cls := 8, slots := #[.long (108)], vm := .none },
  { cls := 8, slots := #[.long (109)], vm := .none },
  { cls := 8, slots := #[.long (110)], vm := .none },
  { cls := 8, slots := #[.long (111)], vm := .none },
  { cls := 8, slots := #[.long (112)], vm := .none },
  { cls := 8, slots := #[.long (113)], vm := .none },
  { cls := 8, slots := #[.long (114)], vm := .none },
  { cls := 8, slots := #[.long (115)], vm := .none },
  { cls := 8, slots := #[.long (116)], vm := .none },
  { cls := 8, slots := #[.long (117)], vm := .none },
  { cls := 8, slots := #[.long (118)], vm := .none },
  { cls := 8, slots := #[.long (119)], vm := .none },
  { cls := 8, slots := #[.long (120)], vm := .none },
  { cls := 8, slots := #[.long (121)], vm := .none },
  { cls := 8, slots := #[.long (122)], vm := .none },
  { cls := 8, slots := #[.long (123)], vm := .none },
  { cls := 8, slots := #[.long (124)], vm := .none },
  { cls := 8, slots := #[.long (125)], vm := .none },
  { cls := 8, slots := #[.long (126)], vm := .none },
  { cls := 8, slots := #[.long (127)], vm := .none }]
def classes : Array Class := #[k0, k1, k2, k3, k4, k5, k6, k7, k8, k9, k10, k11, k12, k13, k14, k15]
def interned : List (Array UInt16 × Addr) := []
def slotsUsed : Nat := 515
def theMethod : MethodId := ⟨1, 1⟩
def args0 : Array Value := #[.long 5, .int 7, .long 6, .int 8, .int 3]
def aboutOver (below : List Frame) : State where
  vm := { classes := classes, interned := interned.toArray }
  heap := heap
  slotsUsed := slotsUsed
  threads := #[{ frames := .invoking theMethod args0 :: below }]
def below0 : List Frame := [.native { method := ⟨0, 0⟩, args := #[] }]
def about1 : State := aboutOver below0
def p0 : Program := .bare "" "" ""
def e0 : Env := launch0.env 0 0 0
theorem w_frames : about1.frames = Frame.invoking theMethod args0 :: below0 := rfl
set_option maxRecDepth 65536 in
theorem w_args : argsFit about1.vm theMethod args0 = true := by decide +kernel
set_option maxRecDepth 65536 in
theorem w_heap : heapFits about1 = true := by decide +kernel
set_option maxRecDepth 65536 in
theorem w_runnable : about1.curStatus? = some .runnable := by decide +kernel
set_option maxRecDepth 65536 in
theorem w_alone : about1.alone = true := by decide +kernel
set_option maxRecDepth 65536 in
theorem w_named : about1.methodNamed? x = some theMethod := by decide +kernel
set_option maxRecDepth 65536 in
theorem w_hears : about1.hears theMethod below0 = true := by decide +kernel
set_option maxRecDepth 65536 in
theorem w_ripe : about1.ripe theMethod args0 below0 = true := by decide +kernel
theorem w_running : about1.status = .running := rfl
set_option maxRecDepth 65536 in
theorem w_room : about1.hasRoom e0.platform room_1 = true :=
  launch0.hasRoom_least _ room_1 (by decide +kernel) (by decide +kernel) (by decide +kernel) (by decide +kernel) (by decide +kernel) (by decide +kernel)
theorem allAtoms_all (ts : List Jvm.Cond) (a : Array Jvm.Value) (st : Jvm.State) : (allAtoms ts).before a st = ts.all (fun c => c.before a st) := by
  induction ts with
  | nil => rfl
  | cons c t ih =>
    show (Jvm.Cond.and c (allAtoms t)).before a st = _
    rw [Jvm.Cond.before_and, ih, List.all_cons]
def words1 : List Jvm.Cond := Jvm.Cond.code x code maxLocals ret :: tables_1
/-- a 'code' word, met by the world's own term for the bytes: nothing is compared byte by byte -/
theorem code_word {y : MethodName} {bytes : ByteArray} {mx : Nat} {rt : Option FieldType} {a : Array Value} {s : State} {m : MethodId} {meth : Method} {c : Code} (h1 : s.methodNamed? y = some m) (h2 : s.vm.method? m = some meth) (h3 : meth.code = some c) (h4 : c.code = bytes)
    (h5 : (c.maxLocals == mx && c.exceptionTable.isEmpty && decide (c.maxStack ≤ mostOperands) && decide (meth.sig.returnType = rt) && !meth.locks && decide (parseMethodDescriptor y.desc = some meth.sig)) = true) : (Jvm.Cond.code y bytes mx rt).before a s = true := by
  simp only [Bool.and_eq_true, beq_iff_eq, Bool.not_eq_true', decide_eq_true_eq] at h5
  obtain ⟨⟨⟨⟨⟨g1, g2⟩, g3⟩, g4⟩, g5⟩, g6⟩ := h5
  simp [Cond.before, Cond.holds, Cond.value, h1, h2, h3, h4, g1, g2, g3, g4, g5, g6]
def isCode : Jvm.Cond → Bool
  | .code _ _ _ _ => true
  | _ => false
theorem all_split {L : List Jvm.Cond} {P : Jvm.Cond → Bool} (h1 : L.all (fun c => isCode c || P c) = true) (h2 : ∀ c ∈ L.filter isCode, P c = true) : L.all P = true := by
  refine List.all_eq_true.mpr fun c hc => ?_
  have h := List.all_eq_true.mp h1 c hc
  rcases Bool.eq_false_or_eq_true (isCode c) with hi | hi
  · exact h2 c (List.mem_filter.mpr ⟨hc, hi⟩)
  · simpa [hi] using h
set_option maxRecDepth 65536 in
theorem w_c0 : (Jvm.Cond.code x code maxLocals ret).before args0 about1 = true := code_word (m := ⟨1, 1⟩) (meth := k1m1) (c := k1c1) (by decide +kernel) rfl rfl rfl (by decide +kernel)
set_option maxRecDepth 65536 in
theorem w_c1 : (Jvm.Cond.code ({ cls := "com/example/horn_to_horn/horntohorn/language/Position", name := "<init>", desc := "(JI)V" } : Jvm.MethodName) prog_38_method_1_code (4 : Nat) (Option.none : Option Jvm.ClassFile.FieldType)).before args0 about1 = true := code_word (m := ⟨3, 0⟩) (meth := k3m0) (c := k3c0) (by decide +kernel) rfl rfl rfl (by decide +kernel)
set_option maxRecDepth 65536 in
theorem w_c2 : (Jvm.Cond.code ({ cls := "java/lang/Object", name := "<init>", desc := "()V" } : Jvm.MethodName) object_method_1_code (1 : Nat) (Option.none : Option Jvm.ClassFile.FieldType)).before args0 about1 = true := code_word (m := ⟨0, 0⟩) (meth := k0m0) (c := k0c0) (by decide +kernel) rfl rfl rfl (by decide +kernel)
set_option maxRecDepth 65536 in
theorem w_c3 : (Jvm.Cond.code ({ cls := "java/lang/Long", name := "valueOf", desc := "(J)Ljava/lang/Long;" } : Jvm.MethodName) jdk_35_method_24_code (3 : Nat) (Option.some (Jvm.ClassFile.FieldType.object "java/lang/Long"))).before args0 about1 = true := code_word (m := ⟨8, 0⟩) (meth := k8m0) (c := k8c0) (by decide +kernel) rfl rfl rfl (by decide +kernel)
set_option maxRecDepth 65536 in
theorem w_c4 : (Jvm.Cond.code ({ cls := "com/example/horn_to_horn/horntohorn/language/Position", name := "equals", desc := "(Ljava/lang/Object;)Z" } : Jvm.MethodName) prog_38_method_4_code (3 : Nat) (Option.some Jvm.ClassFile.FieldType.boolean)).before args0 about1 = true := code_word (m := ⟨3, 1⟩) (meth := k3m1) (c := k3c1) (by decide +kernel) rfl rfl rfl (by decide +kernel)
set_option maxRecDepth 65536 in
theorem w_c5 : (Jvm.Cond.code ({ cls := "java/lang/Long", name := "<init>", desc := "(J)V" } : Jvm.MethodName) jdk_35_method_26_code (3 : Nat) (Option.none : Option Jvm.ClassFile.FieldType)).before args0 about1 = true := code_word (m := ⟨8, 1⟩) (meth := k8m1) (c := k8c1) (by decide +kernel) rfl rfl rfl (by decide +kernel)
set_option maxRecDepth 65536 in
theorem w_c6 : (Jvm.Cond.code ({ cls := "java/lang/Number", name := "<init>", desc := "()V" } : Jvm.MethodName) jdk_18_method_1_code (1 : Nat) (Option.none : Option Jvm.ClassFile.FieldType)).before args0 about1 = true := code_word (m := ⟨4, 0⟩) (meth := k4m0) (c := k4c0) (by decide +kernel) rfl rfl rfl (by decide +kernel)
def codes1 : List Jvm.Cond := [Jvm.Cond.code x code maxLocals ret, Jvm.Cond.code ({ cls := "com/example/horn_to_horn/horntohorn/language/Position", name := "<init>", desc := "(JI)V" } : Jvm.MethodName) prog_38_method_1_code (4 : Nat) (Option.none : Option Jvm.ClassFile.FieldType), Jvm.Cond.code ({ cls := "java/lang/Object", name := "<init>", desc := "()V" } : Jvm.MethodName) object_method_1_code (1 : Nat) (Option.none : Option Jvm.ClassFile.FieldType), Jvm.Cond.code ({ cls := "java/lang/Long", name := "valueOf", desc := "(J)Ljava/lang/Long;" } : Jvm.MethodName) jdk_35_method_24_code (3 : Nat) (Option.some (Jvm.ClassFile.FieldType.object "java/lang/Long")), Jvm.Cond.code ({ cls := "com/example/horn_to_horn/horntohorn/language/Position", name := "equals", desc := "(Ljava/lang/Object;)Z" } : Jvm.MethodName) prog_38_method_4_code (3 : Nat) (Option.some Jvm.ClassFile.FieldType.boolean), Jvm.Cond.code ({ cls := "java/lang/Long", name := "<init>", desc := "(J)V" } : Jvm.MethodName) jdk_35_method_26_code (3 : Nat) (Option.none : Option Jvm.ClassFile.FieldType), Jvm.Cond.code ({ cls := "java/lang/Number", name := "<init>", desc := "()V" } : Jvm.MethodName) jdk_18_method_1_code (1 : Nat) (Option.none : Option Jvm.ClassFile.FieldType)]
set_option maxRecDepth 65536 in
theorem codes_eq : words1.filter isCode = codes1 := rfl
theorem w_codes : ∀ c ∈ words1.filter isCode, c.before args0 about1 = true := by
  rw [codes_eq]
  intro c hc
  simp only [codes1, List.mem_cons, List.not_mem_nil, or_false] at hc
  rcases hc with rfl | rfl | rfl | rfl | rfl | rfl | rfl
  · exact w_c0
  · exact w_c1
  · exact w_c2
  · exact w_c3
  · exact w_c4
  · exact w_c5
  · exact w_c6
set_option maxRecDepth 65536 in
theorem w_t1 : (words1.take 24).all (fun c => isCode c || c.before args0 about1) = true := by decide +kernel
set_option maxRecDepth 65536 in
theorem w_t2 : (words1.drop 24).all (fun c => isCode c || c.before args0 about1) = true := by decide +kernel
theorem w_tables : (allAtoms (Jvm.Cond.code x code maxLocals ret :: tables_1)).before args0 about1 = true := by
  rw [allAtoms_all]
  show words1.all (fun c => c.before args0 about1) = true
  refine all_split ?_ w_codes
  rw [← List.take_append_drop 24 words1, List.all_append, w_t1, w_t2]
  rfl
set_option maxRecDepth 65536 in
theorem w_rest : rest_1_c.before args0 about1 = true := by decide +kernel
set_option maxRecDepth 65536 in
theorem w_case : (Jvm.Cond.and given_1 narrow_1).before args0 about1 = true := by decide +kernel
theorem w_applies : (headSpec (Jvm.Cond.code x code maxLocals ret :: tables_1) room_1).applies x e0.platform about1 = true :=
  (Spec.applies_iff w_frames).mpr ⟨w_running, w_runnable, w_alone, w_named, w_hears, w_ripe, w_room, w_tables⟩
theorem atStart : AtStart classFile x code maxLocals ret World_1 tables_1 room_1 Calls_1 rest_1 Pre_1 launch0 p0 e0 about1 theMethod args0 below0 :=
  ⟨lists_1, trivial, launch0.admits_env _ _ _, launch0.least_env, fairChoices_fair.cas, fairChoices_fair.clock, w_frames, w_args, w_heap, w_applies, trivial, w_rest, w_case⟩
end start1
theorem witness_1 : WitnessClaimed_1 := ⟨start1.p0, start1.e0, start1.about1, start1.theMethod, start1.args0, start1.below0, start1.atStart⟩
end Jvm.Pilot.@@N@@
