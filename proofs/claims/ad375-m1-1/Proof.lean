import JvmDerived
import JvmDerived.Pilot.@@N@@Statement
import JvmDerived.Pilot.@@N@@Code
set_option linter.unusedVariables false
set_option linter.unusedSimpArgs false
@@BLOCK:NumsL.lean.txt@@
namespace Jvm.RoadKit
open Sem ClassFile Op Lib Jvm.Stand Jvm.Free Jvm.LawKit
section New
variable {p : Program} {l : Launch} {e : Env} {R : Room} {s : State} {m : MethodId} {args : Array Value} {below : List Frame} {meth : Method} {c : Code} {T : State} {locs : List Loc} {cells slots : Nat}
theorem retI (X : Stand p l e R s m args below meth c T locs cells slots) (hx : p.tables.exec = Jvm.exec) {pc : Nat} {Ls : Array Slot} {z : Int32} {rest : List Value} (hret : meth.sig.returnType = some .int) (hd : decode c.code pc = .ok (.ireturn, 1)) {fs : List Frame}
    (hl : ∀ (f : JFrame) (acts : List Action), f.method = m → f.locked = none → f.entered = [] → (doReturn e (T.setTop f) acts (some (.int z))).1 = T.setFrames fs) : Steps p.tables e below (T.setTop (mkF m pc Ls (.int z :: rest))) (T.setFrames fs) := by
  have hm' : T.vm.method? m = some meth := X.method'
  have hn : narrow .int (.int z) = .int z := rfl
  show Steps p.tables e below (T.setTop { method := m, pc := pc, locals := Ls, stack := _ :: rest, locked := none }) _
  jvm_step X.here [X.here.top, hx, hd, hm', hret, hn]
  first | (intro acts; rw [hl _ acts rfl rfl rfl]) | rw [hl _ _ rfl rfl rfl]
  exact Steps.refl _
end New
end Jvm.RoadKit
namespace Jvm.Pilot.@@N@@
open Jvm Jvm.ClassFile Sem Op Lib Jvm.Free Jvm.Stand Jvm.LawKit Jvm.RoadKit Bundle Jvm.Pilot.@@N@@.Jvm.D
theorem wk {a0 : Array Value} {Z : State} (hw : ∀ d ∈ tables_1, d.before a0 Z = true) {d : Jvm.Cond} (i : Nat) (h : tables_1[i]? = some d) : d.before a0 Z = true := hw _ (List.mem_of_getElem? h)
abbrev Go (tb : Tables) (e : Env) (below : List Frame) (T : State) (g : JFrame) (T0 : State) (g0 : JFrame) : Prop := ∀ t, Steps tb e below (T.setTop g) t → Steps tb e below (T0.setTop g0) t
theorem own_fldI {args : Array Value} {s : State} {t : Term} {C n d : String} {a : Addr} {k : Int32} (h : (Jvm.Cond.eq (Term.field t C n d) (Term.int k)).value args s none s [] = some true) (ht : t.eval args s none [] s = some (.ref a)) : s.fieldOf? a C n d = some (.int k) := by
  obtain ⟨x, y, e1, e2, k1, k2⟩ := cmp_v (Or.inl h)
  have e3 : (Term.int k).eval args s none [] s = some (.int k) := rfl
  obtain rfl : Value.int k = y := Option.some.inj (e3.symm.trans e2)
  obtain ⟨z, rfl⟩ := k2
  rw [fld_at ht] at e1
  have q : (Jvm.Cond.eq (Term.field t C n d) (Term.int k)).value args s none s [] = some (decide (z = k)) := by simp [Jvm.Cond.value, fld_at ht, e1, e3]
  rw [gotT q h] at e1
  exact e1
theorem own_fldR {args : Array Value} {s : State} {t u : Term} {C n d : String} {a b : Addr} (h : (Jvm.Cond.eq (Term.field t C n d) u).value args s none s [] = some true) (ht : t.eval args s none [] s = some (.ref a)) (hu : u.eval args s none [] s = some (.ref b)) : s.fieldOf? a C n d = some (.ref b) := by
  obtain ⟨x, y, e1, e2, k1, k2⟩ := cmp_v (Or.inl h)
  obtain rfl : Value.ref b = y := Option.some.inj (hu.symm.trans e2)
  have q := eq_R e1 hu k2.2 rfl
  rw [gotT q h, fld_at ht] at e1
  exact e1
theorem own_fldN {args : Array Value} {s : State} {t : Term} {C n d : String} {a : Addr} (h : (Jvm.Cond.eq (Term.field t C n d) Term.null).value args s none s [] = some true) (ht : t.eval args s none [] s = some (.ref a)) : s.fieldOf? a C n d = some .null := by
  have e := null_v h
  rw [fld_at ht] at e
  exact e
theorem own_or {args : Array Value} {first s : State} {o : Option Outcome} {idx : List Nat} {c d : Jvm.Cond} (h : (Jvm.Cond.or c d).value args first o s idx = some true) (hc : c.value args first o s idx = some false) : d.value args first o s idx = some true := by
  simpa [Jvm.Cond.value, hc] using h
theorem own_elemI {args : Array Value} {s : State} {t ix : Term} {idx : List Nat} {a : Addr} {cl : Cell} {j k : Int32} (h : (Jvm.Cond.eq (Term.elem t ix) (Term.int k)).value args s none s idx = some true) (ht : t.eval args s none idx s = some (.ref a)) (hj : ix.eval args s none idx s = some (.int j)) (hc : s.heap[a]? = some cl) : cl.slots[j.toNatClampNeg]? = some (.int k) := by
  obtain ⟨x, y, e1, e2, k1, k2⟩ := cmp_v (Or.inl h)
  have e3 : (Term.int k).eval args s none idx s = some (.int k) := rfl
  obtain rfl : Value.int k = y := Option.some.inj (e3.symm.trans e2)
  obtain ⟨z, rfl⟩ := k2
  have q : (Jvm.Cond.eq (Term.elem t ix) (Term.int k)).value args s none s idx = some (decide (z = k)) := by simp [Jvm.Cond.value, e1, e3]
  rw [gotT q h] at e1
  exact (elem_in e1 ht hj hc).2
theorem own_elemR {args : Array Value} {s : State} {t ix u : Term} {idx : List Nat} {a b : Addr} {cl : Cell} {j : Int32} (h : (Jvm.Cond.eq (Term.elem t ix) u).value args s none s idx = some true) (ht : t.eval args s none idx s = some (.ref a)) (hj : ix.eval args s none idx s = some (.int j)) (hu : u.eval args s none idx s = some (.ref b)) (hc : s.heap[a]? = some cl) : cl.slots[j.toNatClampNeg]? = some (.ref b) := by
  obtain ⟨x, y, e1, e2, k1, k2⟩ := cmp_v (Or.inl h)
  obtain rfl : Value.ref b = y := Option.some.inj (hu.symm.trans e2)
  have q := eq_R e1 hu k2.2 rfl
  rw [gotT q h] at e1
  exact (elem_in e1 ht hj hc).2
theorem own_len {args : Array Value} {s : State} {t : Term} {a : Addr} {cl : Cell} {k : Int32} (h : (Jvm.Cond.eq (Term.length t) (Term.int k)).value args s none s [] = some true) (ht : t.eval args s none [] s = some (.ref a)) (ha : s.arrayAt? a = some cl) : cl.slots.size.toInt32 = k ∧ cl.slots.size < 2 ^ 31 := by
  obtain ⟨x, y, e1, e2, k1, k2⟩ := cmp_v (Or.inl h)
  have e3 : (Term.int k).eval args s none [] s = some (.int k) := rfl
  obtain rfl : Value.int k = y := Option.some.inj (e3.symm.trans e2)
  by_cases hl : cl.slots.size < 2 ^ 31
  · have e4 := len_f (args := args) (first := s) (o := none) (idx := []) ht ha hl
    obtain rfl : x = .int cl.slots.size.toInt32 := Option.some.inj (e1.symm.trans e4)
    have q : (Jvm.Cond.eq (Term.length t) (Term.int k)).value args s none s [] = some (decide (cl.slots.size.toInt32 = k)) := by simp [Jvm.Cond.value, e1, e3]
    exact ⟨gotT q h, hl⟩
  · simp [Term.eval, ht, ha, hl] at e1
theorem own_size {n : Nat} {k : Int32} (h : n.toInt32 = k) (hn : n < 2 ^ 31) : (n : Int) = k.toInt := by
  rw [← h, len_toInt hn]
theorem own_static {args : Array Value} {s : State} {C n d : String} (idx : List Nat) : (Term.static C n d).eval args s none idx s = (Term.static C n d).eval args s none [] s := by simp only [Term.eval]
def LC (Z : State) (h : Heap) (wC : Addr) (cl : Cell) : Prop := Sta Z h "java/lang/Long$LongCache" "cache" "[Ljava/lang/Long;" (.ref wC) ∧ Arr Z h wC cl (.object "java/lang/Long") ∧ ∀ q : Int64, ¬ (lcmpW q (-128 : Int64) < (0 : Int32)) → ¬ ((0 : Int32) < lcmpW q (127 : Int64)) → ∃ b : Addr, ¬ ((q.toInt32 + (128 : Int32)) < 0 ∨ cl.slots.size ≤ (q.toInt32 + (128 : Int32)).toNatClampNeg) ∧ cl.slots[(q.toInt32 + (128 : Int32)).toNatClampNeg]? = some (.ref b) ∧ Exa Z h b "java/lang/Long" ∧ Fld Z h b "java/lang/Long" "value" "J" (.long q)
theorem own_LCext {Z : State} {h h' : Heap} {wC : Addr} {cl : Cell} (E : Ext h h') (F : LC Z h wC cl) : LC Z h' wC cl := ⟨F.1.ext E, F.2.1.ext E, fun q h1 h2 => by obtain ⟨b, a1, a2, a3, a4⟩ := F.2.2 q h1 h2; exact ⟨b, a1, a2, a3.ext E, a4.ext E⟩⟩
theorem own_ext0 {h0 h : Heap} (K : Keep h0 h []) : Ext h0 h := ⟨K.1, fun a c q => K.2.1 a c q nin0⟩
theorem own_LC {args : Array Value} {s : State} (c1 : (Jvm.Cond.initializedFor "java/lang/Long$LongCache" "cache" "[Ljava/lang/Long;").before args s = true) (c2 : (Jvm.Cond.arrayOf (Term.static "java/lang/Long$LongCache" "cache" "[Ljava/lang/Long;") (.object "java/lang/Long")).before args s = true)
    (c4 : (Jvm.Cond.eq (Term.length (Term.static "java/lang/Long$LongCache" "cache" "[Ljava/lang/Long;")) (Term.int 256)).before args s = true)
    (c5 : (Jvm.Cond.all (Term.static "java/lang/Long$LongCache" "cache" "[Ljava/lang/Long;") (Jvm.Cond.and (Jvm.Cond.exactly (Term.elem (Term.static "java/lang/Long$LongCache" "cache" "[Ljava/lang/Long;") (Term.index 0)) "java/lang/Long") (Jvm.Cond.eq (Term.field (Term.elem (Term.static "java/lang/Long$LongCache" "cache" "[Ljava/lang/Long;") (Term.index 0)) "java/lang/Long" "value" "J") (Term.op1 Jvm.Unary.i2l (Term.sub (Term.index 0) (Term.int 128)))))).before args s = true) : ∃ wC cl, LC s s.heap wC cl := by
  have v2 := Cond.before_iff.mp c2
  obtain ⟨wC, eC⟩ := arr_v v2
  obtain ⟨cl, Ar⟩ := Arr.start eC v2
  have ha : s.arrayAt? wC = some cl := Ar.fin (Vm.Alike.refl _)
  obtain ⟨hlen, h31⟩ := own_len (Cond.before_iff.mp c4) eC ha
  have hsz : cl.slots.size = 256 := by
    have q := own_size hlen h31
    have a1 : (256 : Int32).toInt = 256 := by decide
    omega
  refine ⟨wC, cl, Sta.start eC (Or.inl c1), Ar, fun q h1 h2 => ?_⟩
  have q1 : ¬ q < (-128 : Int64) := fun z => h1 ((lw_lt _ _).mpr z)
  have q2 : ¬ (127 : Int64) < q := fun z => h2 ((lw_gt _ _).mpr z)
  rw [Int64.lt_iff_toInt_lt] at q1 q2
  have a1 : (-128 : Int64).toInt = -128 := by decide
  have a2 : (127 : Int64).toInt = 127 := by decide
  have a3 : (128 : Int32).toInt = 128 := by decide
  have a4 : (0 : Int32).toInt = 0 := by decide
  rw [a1] at q1
  rw [a2] at q2
  have e1 : q.toInt32.toInt = q.toInt := Jvm.Kit.i32_of_i64 (by omega) (by omega)
  have e2 : (q.toInt32 + (128 : Int32)).toInt = q.toInt + 128 := by rw [Jvm.Kit.i32_add (by omega) (by omega), e1, a3]
  have hj0 : ¬ (q.toInt32 + (128 : Int32)) < 0 := by rw [Int32.lt_iff_toInt_lt, e2, a4]; omega
  have hj1 : (q.toInt32 + (128 : Int32)).toNatClampNeg < cl.slots.size := by
    show (q.toInt32 + (128 : Int32)).toInt.toNat < _
    omega
  have A := Jvm.Cond.all_elim eC ha (Cond.before_iff.mp c5) _ hj1
  obtain ⟨x1, x2⟩ := and_e A
  obtain ⟨b, eb⟩ := exa_v x1
  have el := elem_in eb ((own_static _).trans eC) (idx_at hj0) Ar.1
  refine ⟨b, el.1, el.2, exa_at eb x1, Fld.start ?_⟩
  have e6 : q.toInt32 + (128 : Int32) - (128 : Int32) = q.toInt32 := by
    rw [← Int32.toInt_inj, Jvm.Kit.i32_sub (by omega) (by omega), e2, a3, e1]
    omega
  have e7 : q.toInt32.toInt64 = q := by rw [← Int64.toInt_inj, Jvm.Kit.i64_of_i32, e1]
  have e8 : (Term.op1 Jvm.Unary.i2l (Term.sub (Term.index 0) (Term.int 128))).eval args s none [(q.toInt32 + (128 : Int32)).toNatClampNeg] s = some (.long q) := by
    have es : (Term.sub (Term.index 0) (Term.int 128)).eval args s none [(q.toInt32 + (128 : Int32)).toNatClampNeg] s = some (.int (q.toInt32 + (128 : Int32) - 128)) := by
      have ei := idx_at (args := args) (s := s) (first := s) (o := none) hj0
      simp only [Term.eval] at ei ⊢
      rw [ei]
      rfl
    rw [op1_f es, e6]
    show some (Value.long q.toInt32.toInt64) = _
    rw [e7]
  obtain ⟨u, y, g1, g2, k1, k2⟩ := cmp_v (Or.inl x2)
  obtain rfl : Value.long q = y := Option.some.inj (e8.symm.trans g2)
  obtain ⟨z, rfl⟩ := k2
  have hq := eq_L g1 e8
  rw [gotT hq x2, fld_at eb] at g1
  exact g1
def QP (r : Value) (h0 : Heap) (n0 : Nat) (v : Option Value) (h : Heap) (L : List Loc) : Prop := v = some r ∧ Fr n0 L ∧ h = h0
def QL (r : Value) (h0 : Heap) (n0 : Nat) (v : Option Value) (h : Heap) (L : List Loc) : Prop := v = some r ∧ Fr n0 L
def Mr (Z : State) (C : String) (m : Addr) : Prop := (Term.mirror C).eval #[] Z none [] Z = some (.ref m)
section Own
variable {p : Program} {l : Launch} {e : Env} {R : Room} {s : State} {m : MethodId} {args : Array Value} {below : List Frame} {meth : Method} {c : Code} {T : State} {locs : List Loc} {cells slots : Nat} {Z : State} {a0 : Array Value} {h : Heap}
theorem own_ldcM (X : Stand p l e R s m args below meth c T locs cells slots) (hx : p.tables.exec = Jvm.exec) (hZ : Z.Warmed39 s.vm) {own C : String} {index : Nat} (hown : s.vm.findClass own = some m.cls) (w : (Jvm.Cond.classLink own index C).before a0 Z = true) (eT : T.heap = h) {mr : Addr} (M : Mr Z C mr)
    {g : JFrame} (hg : g.method = m) (hd : decode c.code g.pc = .ok (.ldc index, 2)) : ∃ T', Stand p l e R s m args below meth c T' locs cells slots ∧ T'.heap = h ∧ ∀ target, Steps p.tables e below (T'.setTop { g with pc := g.pc + 2, stack := .ref mr :: g.stack }) target → Steps p.tables e below (T.setTop g) target := by
  obtain ⟨vm', X', st⟩ := X.ldcMirror hx hown (mvT hZ w) (Jvm.Free.ULB.mirror_move hZ.alike M) hg hd
  exact ⟨_, X', eT, st⟩
theorem own_gcI (X : Stand p l e R s m args below meth c T locs cells slots) (hx : p.tables.exec = Jvm.exec) (hZ : Z.Warmed39 s.vm) {own C : String} {index count : Nat} (hown : s.vm.findClass own = some m.cls)
    (w1 : (Jvm.Cond.methodLink own index ⟨"java/util/List", "getClass", "()Ljava/lang/Class;"⟩).before a0 Z = true) (w2 : (Jvm.Cond.declares ⟨"java/lang/Object", "getClass", "()Ljava/lang/Class;"⟩).before a0 Z = true) (w3 : (Jvm.Cond.interfaceMethod "java/util/List" "java/lang/Object" "getClass" "()Ljava/lang/Class;").before a0 Z = true) (w4 : (Jvm.Cond.selects C ⟨"java/util/List", "getClass", "()Ljava/lang/Class;"⟩ ⟨"java/lang/Object", "getClass", "()Ljava/lang/Class;"⟩).before a0 Z = true)
    (w5 : (Jvm.Cond.instanceMethod ⟨"java/lang/Object", "getClass", "()Ljava/lang/Class;"⟩).before a0 Z = true) (w6 : (Jvm.Cond.publicMethod ⟨"java/lang/Object", "getClass", "()Ljava/lang/Class;"⟩).before a0 Z = true) (w7 : (Jvm.Cond.unhidden C "getClass" "()Ljava/lang/Class;").before a0 Z = true) (w8 : (Jvm.Cond.castable C "java/util/List").before a0 Z = true) (w9 : (Jvm.Cond.native ⟨"java/lang/Object", "getClass", "()Ljava/lang/Class;"⟩).before a0 Z = true)
    (eT : T.heap = h) {a : Addr} (E : Exa Z h a C) {mr : Addr} (M : Mr Z C mr) {g : JFrame} (hg : g.method = m) (hsize : g.locals.size = c.maxLocals) {rest : List Value} (hs : g.stack = .ref a :: rest) (hd : decode c.code g.pc = .ok (.invokeinterface index count, 5)) (hf : 1 ≤ R.frames) (hl : 2 * g.monitorRoom + (rest.map fun v => v.category).sum + (nativeFrameWords "java/lang/Object" "getClass" 1 + 11) ≤ R.locals) :
    ∃ T', Stand p l e R s m args below meth c T' locs cells slots ∧ T'.heap = h ∧ ∀ target, Steps p.tables e below (T'.setTop { g with pc := g.pc + 5, stack := .ref mr :: rest }) target → Steps p.tables e below (T.setTop g) target := by
  obtain ⟨cB, kB, i1, i2, i3⟩ := isOf hZ eT E
  obtain ⟨cc, kc, mm, m1, m2, m3, m4⟩ := Term.mirror_spec M
  cases m4
  have i1' := i1
  rw [hZ.alike.findClass] at i1'
  cases i1'.symm.trans m1
  obtain ⟨k', q, ek⟩ := hZ.alike.2.2 _ _ m2
  obtain ⟨vm', X', st⟩ := X.getClassOfI hx (xi := ⟨"java/util/List", "getClass", "()Ljava/lang/Class;"⟩) hown (mvT hZ w1) (mvT hZ w2) (Jvm.Free.ULB.iface_rides hZ.alike w3) (mvT hZ w4) (mvT hZ w5) (mvT hZ w6) (mvT hZ w7) (mvT hZ w8) (mvT hZ w9) ⟨by decide, by decide⟩ (by decide) rfl rfl i1 q i3 (by rw [ek]; exact m3) hg hsize hs hd hf hl
  exact ⟨_, X', eT, st⟩
end Own
theorem own_Mr {s : State} {C : String} (h : Jvm.Pilot.@@N@@.Jvm.D.MirrorMade s C) : ∃ m, Mr s C m ∧ Mir s C m := by
  obtain ⟨c, k, m, h1, h2, h3, cell, h4, h5⟩ := h
  exact ⟨m, by simp [Mr, Term.eval, h1, h2, h3], c, k, h1, h2, h3, cell, h4, h5⟩
theorem own_r {x r : Int32} (h : r = (x &&& (2147483647 : Int32)) % (1001 : Int32)) : ¬ r < (0 : Int32) ∧ ¬ (1000 : Int32) < r := by
  have e1 : (x &&& (2147483647 : Int32)).toInt = x.toInt % 2 ^ 31 := Jvm.Kit.i32_mask x 2147483647 (k := 31) (by decide) (by decide)
  have e2 := Jvm.Kit.i32_rem_nonneg (x := x &&& (2147483647 : Int32)) (y := (1001 : Int32)) (by omega)
  have e3 : (1001 : Int32).toInt = 1001 := by decide
  have e4 : (0 : Int32).toInt = 0 := by decide
  have e5 : (1000 : Int32).toInt = 1000 := by decide
  rw [← h, e3] at e2
  rw [Int32.lt_iff_toInt_lt, Int32.lt_iff_toInt_lt, e4, e5]
  omega
theorem own_c {x r : Int32} (h : r = (x &&& (2147483647 : Int32)) % (3 : Int32) + (1 : Int32)) : r = 1 ∨ r = 2 ∨ r = 3 := by
  have e1 : (x &&& (2147483647 : Int32)).toInt = x.toInt % 2 ^ 31 := Jvm.Kit.i32_mask x 2147483647 (k := 31) (by decide) (by decide)
  have e2 := Jvm.Kit.i32_rem_nonneg (x := x &&& (2147483647 : Int32)) (y := (3 : Int32)) (by omega)
  have e3 : (3 : Int32).toInt = 3 := by decide
  have e4 : (1 : Int32).toInt = 1 := by decide
  have e5 : (2 : Int32).toInt = 2 := by decide
  rw [e3] at e2
  have e6 : ((x &&& (2147483647 : Int32)) % (3 : Int32) + (1 : Int32)).toInt = ((x &&& (2147483647 : Int32)) % (3 : Int32)).toInt + 1 := by rw [Jvm.Kit.i32_add (by omega) (by omega), e4]
  rw [← h] at e6
  rw [← Int32.toInt_inj, ← Int32.toInt_inj, ← Int32.toInt_inj, e3, e4, e5]
  omega
theorem own_w {q x : Int64} (h : x = (q &&& (9223372036854775807 : Int64)) - (q &&& (9223372036854775807 : Int64)) / (86400000 : Int64) * (86400000 : Int64) + (1 : Int64)) : ¬ (lcmpW x (1 : Int64) < (0 : Int32)) ∧ ¬ ((0 : Int32) < lcmpW x (86400000 : Int64)) := by
  have e1 : (q &&& (9223372036854775807 : Int64)).toInt = q.toInt % 2 ^ 63 := Jvm.Kit.i64_mask q 9223372036854775807 (k := 63) (by decide) (by decide)
  have e2 := Jvm.Kit.i64_rem_nonneg (x := q &&& (9223372036854775807 : Int64)) (y := (86400000 : Int64)) (by omega)
  have e3 : (86400000 : Int64).toInt = 86400000 := by decide
  have e4 : (1 : Int64).toInt = 1 := by decide
  rw [e3] at e2
  have e6 : ((q &&& (9223372036854775807 : Int64)) - (q &&& (9223372036854775807 : Int64)) / (86400000 : Int64) * (86400000 : Int64) + (1 : Int64)).toInt = ((q &&& (9223372036854775807 : Int64)) - (q &&& (9223372036854775807 : Int64)) / (86400000 : Int64) * (86400000 : Int64)).toInt + 1 := by rw [Jvm.Kit.i64_add (by omega) (by omega), e4]
  rw [← h] at e6
  rw [lw_lt, lw_gt, Int64.lt_iff_toInt_lt, Int64.lt_iff_toInt_lt, e3, e4]
  omega
theorem own_min {n r m : Int32} (h : (n < r ∧ m = n) ∨ (¬ n < r ∧ m = r)) : (if n < r then n else r) = m := by
  rcases h with ⟨h1, rfl⟩ | ⟨h1, rfl⟩
  · exact if_pos h1
  · exact if_neg h1
theorem own_minr {n r : Int32} {k : Int} (hn : n.toInt = k) (hk : 1 ≤ k ∧ k ≤ 3) (h1 : ¬ r < (1 : Int32)) (h2 : ∀ j : Int32, 1 ≤ j.toInt → j.toInt < k → ¬ r = j) : (if n < r then n else r) = n := by
  by_cases hq : n < r
  · exact if_pos hq
  · rw [if_neg hq]
    have e1 : (1 : Int32).toInt = 1 := by decide
    rw [Int32.lt_iff_toInt_lt, e1] at h1
    rw [Int32.lt_iff_toInt_lt, hn] at hq
    by_cases q : r.toInt < k
    · exact absurd rfl (h2 r (by omega) q)
    · rw [← Int32.toInt_inj, hn]; omega
def QV (h0 : Heap) (n0 : Nat) (v : Option Value) (h : Heap) (L : List Loc) : Prop := v = none ∧ Fr n0 L ∧ h = h0
def QLI (Z : State) (a1 : Addr) (q2 : Int64) (h0 : Heap) (n0 : Nat) (v : Option Value) (h : Heap) (L : List Loc) : Prop := v = none ∧ Fr n0 L ∧ Keep h0 h [a1] ∧ Exa Z h a1 "java/lang/Long" ∧ Fld Z h a1 "java/lang/Long" "value" "J" (.long q2)
def QLV (Z : State) (q1 : Int64) (h0 : Heap) (n0 : Nat) (v : Option Value) (h : Heap) (L : List Loc) : Prop := ∃ b : Addr, v = some (.ref b) ∧ Fr n0 L ∧ Keep h0 h [] ∧ Exa Z h b "java/lang/Long" ∧ Fld Z h b "java/lang/Long" "value" "J" (.long q1)
abbrev LW (p1 : Int32) (q2 q3 q4 : Int64) (p5 rr : Int32) (xa xb xc : Int64) (cc : Int32) (s16 s17 s18 s19 s20 s21 s22 s23 s24 : Slot) : Array Slot := #[.val (.int p1), .val (.long q2), .second, .val (.long q3), .second, .val (.long q4), .second, .val (.int p5), .val (.int rr), .val (.long xa), .second, .val (.long xb), .second, .val (.long xc), .second, .val (.int cc), s16, s17, s18, s19, s20, s21, s22, s23, s24]
theorem own_c3 {c : Int32} (h : c = 1 ∨ c = 2 ∨ c = 3) (h1 : ¬ c = (1 : Int32)) (h2 : ¬ c = (2 : Int32)) : c = (3 : Int32) := (h.resolve_left h1).resolve_left h2
theorem own_no2 {r : Int32} (h1 : ¬ r = (1 : Int32)) : ∀ j : Int32, 1 ≤ j.toInt → j.toInt < 2 → ¬ r = j := fun j q1 q2 q => h1 (by
  have e1 : (1 : Int32).toInt = 1 := by decide
  rw [q, ← Int32.toInt_inj, e1]; omega)
theorem own_no3 {r : Int32} (h1 : ¬ r = (1 : Int32)) (h2 : ¬ r = (2 : Int32)) : ∀ j : Int32, 1 ≤ j.toInt → j.toInt < 3 → ¬ r = j := fun j q1 q2 q => by
  have e1 : (1 : Int32).toInt = 1 := by decide
  have e2 : (2 : Int32).toInt = 2 := by decide
  have d : j.toInt = 1 ∨ j.toInt = 2 := by omega
  rcases d with d | d
  · exact h1 (by rw [q, ← Int32.toInt_inj, e1]; exact d)
  · exact h2 (by rw [q, ← Int32.toInt_inj, e2]; exact d)
def Q3 (Z : State) (a1 : Addr) (u1 u2 : Value) (h0 : Heap) (n0 : Nat) (v : Option Value) (h : Heap) (L : List Loc) : Prop := v = none ∧ Fr n0 L ∧ Keep h0 h [a1] ∧ Fld Z h a1 "java/util/AbstractList" "modCount" "I" (.int (0 : Int32)) ∧ Fld Z h a1 "java/util/ArrayList" "elementData" "[Ljava/lang/Object;" u1 ∧ Fld Z h a1 "java/util/ArrayList" "size" "I" u2
def Q2_1 (Z : State) (a1 : Addr) (h0 : Heap) (n0 : Nat) (v : Option Value) (h : Heap) (L : List Loc) : Prop := v = none ∧ Fr n0 L ∧ Keep h0 h [a1] ∧ ∃ (ea : Addr) (kE : ClassId), h0.size ≤ ea ∧ Fld Z h a1 "java/util/AbstractList" "modCount" "I" (.int (0 : Int32)) ∧ Fld Z h a1 "java/util/ArrayList" "elementData" "[Ljava/lang/Object;" (.ref ea) ∧ Fld Z h a1 "java/util/ArrayList" "size" "I" (.int (0 : Int32)) ∧ Arv Z h ea kE (.object "java/lang/Object") (1 : Int32) [.null] .null ∧ Ovr Z kE "java/lang/Object"
def Q2_2 (Z : State) (a1 : Addr) (h0 : Heap) (n0 : Nat) (v : Option Value) (h : Heap) (L : List Loc) : Prop := v = none ∧ Fr n0 L ∧ Keep h0 h [a1] ∧ ∃ (ea : Addr) (kE : ClassId), h0.size ≤ ea ∧ Fld Z h a1 "java/util/AbstractList" "modCount" "I" (.int (0 : Int32)) ∧ Fld Z h a1 "java/util/ArrayList" "elementData" "[Ljava/lang/Object;" (.ref ea) ∧ Fld Z h a1 "java/util/ArrayList" "size" "I" (.int (0 : Int32)) ∧ Arv Z h ea kE (.object "java/lang/Object") (2 : Int32) [.null, .null] .null ∧ Ovr Z kE "java/lang/Object"
def Q2_3 (Z : State) (a1 : Addr) (h0 : Heap) (n0 : Nat) (v : Option Value) (h : Heap) (L : List Loc) : Prop := v = none ∧ Fr n0 L ∧ Keep h0 h [a1] ∧ ∃ (ea : Addr) (kE : ClassId), h0.size ≤ ea ∧ Fld Z h a1 "java/util/AbstractList" "modCount" "I" (.int (0 : Int32)) ∧ Fld Z h a1 "java/util/ArrayList" "elementData" "[Ljava/lang/Object;" (.ref ea) ∧ Fld Z h a1 "java/util/ArrayList" "size" "I" (.int (0 : Int32)) ∧ Arv Z h ea kE (.object "java/lang/Object") (3 : Int32) [.null, .null, .null] .null ∧ Ovr Z kE "java/lang/Object"
def Q8 (Z : State) (a1 a2 ea : Addr) (kE : ClassId) (mc n kx : Int32) (i : Nat) (vs : List Value) (h0 : Heap) (n0 : Nat) (v : Option Value) (h : Heap) (L : List Loc) : Prop := v = none ∧ Fr n0 L ∧ Keep h0 h [a1, ea] ∧ Fld Z h a1 "java/util/AbstractList" "modCount" "I" (.int mc) ∧ Fld Z h a1 "java/util/ArrayList" "elementData" "[Ljava/lang/Object;" (.ref ea) ∧ Fld Z h a1 "java/util/ArrayList" "size" "I" (.int (kx + (1 : Int32))) ∧ Arv Z h ea kE (.object "java/lang/Object") n (vs.set i (.ref a2)) .null
def Q7 (Z : State) (a1 a2 ea : Addr) (kE : ClassId) (mc n kx : Int32) (i : Nat) (vs : List Value) (h0 : Heap) (n0 : Nat) (v : Option Value) (h : Heap) (L : List Loc) : Prop := v = some (.int (1 : Int32)) ∧ Fr n0 L ∧ Keep h0 h [a1, ea] ∧ Fld Z h a1 "java/util/AbstractList" "modCount" "I" (.int (mc + (1 : Int32))) ∧ Fld Z h a1 "java/util/ArrayList" "elementData" "[Ljava/lang/Object;" (.ref ea) ∧ Fld Z h a1 "java/util/ArrayList" "size" "I" (.int (kx + (1 : Int32))) ∧ Arv Z h ea kE (.object "java/lang/Object") n (vs.set i (.ref a2)) .null
def Q12 (Z : State) (a1 : Addr) (u1 u2 : Value) (h0 : Heap) (n0 : Nat) (v : Option Value) (h : Heap) (L : List Loc) : Prop := v = none ∧ Fr n0 L ∧ Keep h0 h [a1] ∧ Fld Z h a1 "java/util/Collections$UnmodifiableCollection" "c" "Ljava/util/Collection;" u1 ∧ Fld Z h a1 "java/util/Collections$UnmodifiableList" "list" "Ljava/util/List;" u2
def WRP (Z : State) (h : Heap) (w al : Addr) : Prop := Exa Z h w "java/util/Collections$UnmodifiableRandomAccessList" ∧ Fld Z h w "java/util/Collections$UnmodifiableCollection" "c" "Ljava/util/Collection;" (.ref al) ∧ Fld Z h w "java/util/Collections$UnmodifiableList" "list" "Ljava/util/List;" (.ref al)
theorem WRP.ext {Z : State} {h h' : Heap} {w al : Addr} (E : Ext h h') (q : WRP Z h w al) : WRP Z h' w al := ⟨q.1.ext E, q.2.1.ext E, q.2.2.ext E⟩
theorem WRP.other {Z : State} {h h' : Heap} {w al a : Addr} {sl : Nat} {v : Value} (r : WRP Z h w al) (W : Wr h h' a sl v) (q : w ≠ a) : WRP Z h' w al := ⟨r.1.wr W, r.2.1.other W (Or.inl q), r.2.2.other W (Or.inl q)⟩
theorem WRP.keep {Z : State} {h h' : Heap} {w al : Addr} {ws : List Addr} (r : WRP Z h w al) (K : Keep h h' ws) (q : w ∉ ws) : WRP Z h' w al := ⟨r.1.keep K, r.2.1.keep K q, r.2.2.keep K q⟩
def Q9 (Z : State) (a1 : Addr) (h0 : Heap) (n0 : Nat) (v : Option Value) (h : Heap) (L : List Loc) : Prop := ∃ b : Addr, v = some (.ref b) ∧ Fr n0 L ∧ Keep h0 h [] ∧ h0.size ≤ b ∧ WRP Z h b a1
def Q14 (Z : State) (a1 : Addr) (p2 : Int32) (a3 : Addr) (h0 : Heap) (n0 : Nat) (v : Option Value) (h : Heap) (L : List Loc) : Prop := v = none ∧ Fr n0 L ∧ Keep h0 h [a1] ∧ Fld Z h a1 "com/example/nackoff/nackoff/RetryPolicy" "retries" "I" (.int p2) ∧ Fld Z h a1 "com/example/nackoff/nackoff/RetryPolicy" "waitsMs" "Ljava/util/List;" (.ref a3)
def Q1_1 (Z : State) (p1 : Int32) (x1 : Int64) (h0 : Heap) (n0 : Nat) (v : Option Value) (h : Heap) (L : List Loc) : Prop := ∃ (pa wa al ea : Addr) (kE : ClassId) (y1 : Addr), v = some (.ref pa) ∧ Fr n0 L ∧ Keep h0 h [] ∧ h0.size ≤ pa ∧ h0.size ≤ wa ∧ h0.size ≤ al ∧ h0.size ≤ ea ∧ Exa Z h pa "com/example/nackoff/nackoff/RetryPolicy" ∧ Fld Z h pa "com/example/nackoff/nackoff/RetryPolicy" "retries" "I" (.int p1) ∧ Fld Z h pa "com/example/nackoff/nackoff/RetryPolicy" "waitsMs" "Ljava/util/List;" (.ref wa) ∧ WRP Z h wa al ∧ Exa Z h al "java/util/ArrayList" ∧ Fld Z h al "java/util/ArrayList" "size" "I" (.int (1 : Int32)) ∧ Fld Z h al "java/util/ArrayList" "elementData" "[Ljava/lang/Object;" (.ref ea) ∧ Arv Z h ea kE (.object "java/lang/Object") (1 : Int32) [(.ref y1)] .null ∧ Exa Z h y1 "java/lang/Long" ∧ Fld Z h y1 "java/lang/Long" "value" "J" (.long x1)
def Q1_2 (Z : State) (p1 : Int32) (x1 x2 : Int64) (h0 : Heap) (n0 : Nat) (v : Option Value) (h : Heap) (L : List Loc) : Prop := ∃ (pa wa al ea : Addr) (kE : ClassId) (y1 y2 : Addr), v = some (.ref pa) ∧ Fr n0 L ∧ Keep h0 h [] ∧ h0.size ≤ pa ∧ h0.size ≤ wa ∧ h0.size ≤ al ∧ h0.size ≤ ea ∧ Exa Z h pa "com/example/nackoff/nackoff/RetryPolicy" ∧ Fld Z h pa "com/example/nackoff/nackoff/RetryPolicy" "retries" "I" (.int p1) ∧ Fld Z h pa "com/example/nackoff/nackoff/RetryPolicy" "waitsMs" "Ljava/util/List;" (.ref wa) ∧ WRP Z h wa al ∧ Exa Z h al "java/util/ArrayList" ∧ Fld Z h al "java/util/ArrayList" "size" "I" (.int (2 : Int32)) ∧ Fld Z h al "java/util/ArrayList" "elementData" "[Ljava/lang/Object;" (.ref ea) ∧ Arv Z h ea kE (.object "java/lang/Object") (2 : Int32) [(.ref y1), (.ref y2)] .null ∧ Exa Z h y1 "java/lang/Long" ∧ Fld Z h y1 "java/lang/Long" "value" "J" (.long x1) ∧ Exa Z h y2 "java/lang/Long" ∧ Fld Z h y2 "java/lang/Long" "value" "J" (.long x2)
def Q1_3 (Z : State) (p1 : Int32) (x1 x2 x3 : Int64) (h0 : Heap) (n0 : Nat) (v : Option Value) (h : Heap) (L : List Loc) : Prop := ∃ (pa wa al ea : Addr) (kE : ClassId) (y1 y2 y3 : Addr), v = some (.ref pa) ∧ Fr n0 L ∧ Keep h0 h [] ∧ h0.size ≤ pa ∧ h0.size ≤ wa ∧ h0.size ≤ al ∧ h0.size ≤ ea ∧ Exa Z h pa "com/example/nackoff/nackoff/RetryPolicy" ∧ Fld Z h pa "com/example/nackoff/nackoff/RetryPolicy" "retries" "I" (.int p1) ∧ Fld Z h pa "com/example/nackoff/nackoff/RetryPolicy" "waitsMs" "Ljava/util/List;" (.ref wa) ∧ WRP Z h wa al ∧ Exa Z h al "java/util/ArrayList" ∧ Fld Z h al "java/util/ArrayList" "size" "I" (.int (3 : Int32)) ∧ Fld Z h al "java/util/ArrayList" "elementData" "[Ljava/lang/Object;" (.ref ea) ∧ Arv Z h ea kE (.object "java/lang/Object") (3 : Int32) [(.ref y1), (.ref y2), (.ref y3)] .null ∧ Exa Z h y1 "java/lang/Long" ∧ Fld Z h y1 "java/lang/Long" "value" "J" (.long x1) ∧ Exa Z h y2 "java/lang/Long" ∧ Fld Z h y2 "java/lang/Long" "value" "J" (.long x2) ∧ Exa Z h y3 "java/lang/Long" ∧ Fld Z h y3 "java/lang/Long" "value" "J" (.long x3)
theorem pn_26 : plainName "java/lang/Number" = true := by first | (simp [plainName, overriddenIn]; done) | decide +kernel
theorem ef_26 (m : MethodId) (x0 : Addr) : entryFrame m #[(.ref x0)] 1 = mkF m 0 #[.val (.ref x0)] [] := by first | (simp [entryFrame, mkF, argsToLocals, Value.category]; done) | rfl
theorem d26_0 : decode jdk_18_method_1_code 0 = .ok (.aload_n 0, 1) := by decide +kernel
theorem d26_1 : decode jdk_18_method_1_code 1 = .ok (.invokespecial 1, 3) := by decide +kernel
theorem d26_4 : decode jdk_18_method_1_code 4 = .ok (.return_, 1) := by decide +kernel
set_option maxRecDepth 65536 in
set_option maxHeartbeats 40000000 in
theorem rm26 (l : Launch) (Z : State) (a0 : Array Value) (hw : ∀ d ∈ tables_1, d.before a0 Z = true) (ws : List Jvm.Cond) (a1 : Addr) (h0 : Heap) (n0 : Nat) (Z0 : n0 ≤ h0.size)  :
    MetFree l (⟨"java/lang/Number", "<init>", "()V"⟩ : MethodName) (head1 (Jvm.Cond.code (⟨"java/lang/Number", "<init>", "()V"⟩ : MethodName) jdk_18_method_1_code 1 none :: ws) ({ frames := 1, cells := 0, slots := 0, locals := 12 } : Room)) (fun a U => a = #[(.ref a1)] ∧ Z.Warmed39 U.vm ∧ U.heap = h0) (fun _ _ _ _ _ => True) (fun _ U o U' => ∃ v L, o = .returned v ∧ QV h0 n0 v U'.heap L ∧ FrameEnd U o U' L ({ frames := 1, cells := 0, slots := 0, locals := 12 } : Room).cells ({ frames := 1, cells := 0, slots := 0, locals := 12 } : Room).slots) := by
  refine MetFree.of_bodySF (plainFor_of_name pn_26) hisR ?_
  intro p e s m args below meth c s₁ Bd hml0 hP hK
  obtain ⟨rfl, hZ, hh⟩ := hP
  have hx := Bd.exec
  have hby := Bd.bytes
  have hml : c.maxLocals = 1 := hml0
  have hown : s.vm.findClass "java/lang/Number" = some m.cls := findClass_of_methodNamed Bd.named
  have hnm := (name_of_methodNamed Bd.named Bd.method).1
  have X0 : Stand p l e ({ frames := 1, cells := 0, slots := 0, locals := 12 } : Room) s m #[(.ref a1)] below meth c s₁ [] 0 0 := Stand.of_body Bd
  have e0 : s₁.heap = h0 := by rw [← hh, Bd.state]; rfl
  have N0 := Fr.nil n0
  have go0 : Go p.tables e below s₁ (mkF m 0 #[.val (.ref a1)] []) s₁ (entryFrame m #[(.ref a1)] 1) := fun t k => castTop (ef_26 m a1) k
  have go1 : Go p.tables e below s₁ (mkF m 1 #[.val (.ref a1)] [(.ref a1)]) s₁ (entryFrame m #[(.ref a1)] 1) := by
    intro t k
    refine go0 t ?_
    show Steps _ _ _ (s₁.setTop (mkF m 0 #[.val (.ref a1)] [])) _
    refine XS.aloadN X0.here hx rfl (hb hby d26_0) rfl rfl ?_
    exact k
  obtain ⟨T2, X2, e2, st2⟩ := initO X0 hx hZ hown (wk hw 198 rfl) (wk hw 27 rfl) (wk hw 28 rfl) e0 (g := (mkF m 1 #[.val (.ref a1)] [(.ref a1)])) rfl (by rw [hml]; rfl) rfl (hb hby d26_1) (by decide) (W := 0) (by show 2 * 0 + _ ≤ _; exact Nat.le_of_eq rfl) (by decide)
  have go3 : Go p.tables e below T2 (mkF m 4 #[.val (.ref a1)] []) s₁ (entryFrame m #[(.ref a1)] 1) := by
    intro t k
    refine go1 t ?_
    show Steps _ _ _ (s₁.setTop (mkF m 1 #[.val (.ref a1)] [(.ref a1)])) _
    refine st2 _ ?_
    exact k
  obtain ⟨fs, hr, hrun, hended, hW, hsame⟩ := X2.leave (v := none) (fun _ => rfl)
  refine ⟨_, _, go3 _ ?_, hrun, hended, _, _, rfl, ?_, ⟨_, rfl⟩, hW, hsame.mono (by decide) (by decide)⟩
  · exact X2.returnOut hx Bd.returns (hb hby d26_4) hr
  · show QV h0 n0 _ T2.heap _
    rw [e2]
    exact ⟨rfl, N0, rfl⟩
theorem pn_4 : plainName "java/util/AbstractCollection" = true := by first | (simp [plainName, overriddenIn]; done) | decide +kernel
theorem ef_4 (m : MethodId) (x0 : Addr) : entryFrame m #[(.ref x0)] 1 = mkF m 0 #[.val (.ref x0)] [] := by first | (simp [entryFrame, mkF, argsToLocals, Value.category]; done) | rfl
theorem d4_0 : decode jdk_22_method_1_code 0 = .ok (.aload_n 0, 1) := by decide +kernel
theorem d4_1 : decode jdk_22_method_1_code 1 = .ok (.invokespecial 1, 3) := by decide +kernel
theorem d4_4 : decode jdk_22_method_1_code 4 = .ok (.return_, 1) := by decide +kernel
set_option maxRecDepth 65536 in
set_option maxHeartbeats 40000000 in
theorem rm4 (l : Launch) (Z : State) (a0 : Array Value) (hw : ∀ d ∈ tables_1, d.before a0 Z = true) (ws : List Jvm.Cond) (a1 : Addr) (h0 : Heap) (n0 : Nat) (Z0 : n0 ≤ h0.size)  :
    MetFree l (⟨"java/util/AbstractCollection", "<init>", "()V"⟩ : MethodName) (head1 (Jvm.Cond.code (⟨"java/util/AbstractCollection", "<init>", "()V"⟩ : MethodName) jdk_22_method_1_code 1 none :: ws) ({ frames := 1, cells := 0, slots := 0, locals := 12 } : Room)) (fun a U => a = #[(.ref a1)] ∧ Z.Warmed39 U.vm ∧ U.heap = h0) (fun _ _ _ _ _ => True) (fun _ U o U' => ∃ v L, o = .returned v ∧ QV h0 n0 v U'.heap L ∧ FrameEnd U o U' L ({ frames := 1, cells := 0, slots := 0, locals := 12 } : Room).cells ({ frames := 1, cells := 0, slots := 0, locals := 12 } : Room).slots) := by
  refine MetFree.of_bodySF (plainFor_of_name pn_4) hisR ?_
  intro p e s m args below meth c s₁ Bd hml0 hP hK
  obtain ⟨rfl, hZ, hh⟩ := hP
  have hx := Bd.exec
  have hby := Bd.bytes
  have hml : c.maxLocals = 1 := hml0
  have hown : s.vm.findClass "java/util/AbstractCollection" = some m.cls := findClass_of_methodNamed Bd.named
  have hnm := (name_of_methodNamed Bd.named Bd.method).1
  have X0 : Stand p l e ({ frames := 1, cells := 0, slots := 0, locals := 12 } : Room) s m #[(.ref a1)] below meth c s₁ [] 0 0 := Stand.of_body Bd
  have e0 : s₁.heap = h0 := by rw [← hh, Bd.state]; rfl
  have N0 := Fr.nil n0
  have go0 : Go p.tables e below s₁ (mkF m 0 #[.val (.ref a1)] []) s₁ (entryFrame m #[(.ref a1)] 1) := fun t k => castTop (ef_4 m a1) k
  have go1 : Go p.tables e below s₁ (mkF m 1 #[.val (.ref a1)] [(.ref a1)]) s₁ (entryFrame m #[(.ref a1)] 1) := by
    intro t k
    refine go0 t ?_
    show Steps _ _ _ (s₁.setTop (mkF m 0 #[.val (.ref a1)] [])) _
    refine XS.aloadN X0.here hx rfl (hb hby d4_0) rfl rfl ?_
    exact k
  obtain ⟨T2, X2, e2, st2⟩ := initO X0 hx hZ hown (wk hw 26 rfl) (wk hw 27 rfl) (wk hw 28 rfl) e0 (g := (mkF m 1 #[.val (.ref a1)] [(.ref a1)])) rfl (by rw [hml]; rfl) rfl (hb hby d4_1) (by decide) (W := 0) (by show 2 * 0 + _ ≤ _; exact Nat.le_of_eq rfl) (by decide)
  have go3 : Go p.tables e below T2 (mkF m 4 #[.val (.ref a1)] []) s₁ (entryFrame m #[(.ref a1)] 1) := by
    intro t k
    refine go1 t ?_
    show Steps _ _ _ (s₁.setTop (mkF m 1 #[.val (.ref a1)] [(.ref a1)])) _
    refine st2 _ ?_
    exact k
  obtain ⟨fs, hr, hrun, hended, hW, hsame⟩ := X2.leave (v := none) (fun _ => rfl)
  refine ⟨_, _, go3 _ ?_, hrun, hended, _, _, rfl, ?_, ⟨_, rfl⟩, hW, hsame.mono (by decide) (by decide)⟩
  · exact X2.returnOut hx Bd.returns (hb hby d4_4) hr
  · show QV h0 n0 _ T2.heap _
    rw [e2]
    exact ⟨rfl, N0, rfl⟩
theorem pn_25 : plainName "java/lang/Long" = true := by first | (simp [plainName, overriddenIn]; done) | decide +kernel
theorem ef_25 (m : MethodId) (x0 : Addr) (x1 : Int64) : entryFrame m #[(.ref x0), (.long x1)] 3 = mkF m 0 #[.val (.ref x0), .val (.long x1), .second] [] := by first | (simp [entryFrame, mkF, argsToLocals, Value.category]; done) | rfl
theorem d25_0 : decode jdk_35_method_26_code 0 = .ok (.aload_n 0, 1) := by decide +kernel
theorem d25_1 : decode jdk_35_method_26_code 1 = .ok (.invokespecial 270, 3) := by decide +kernel
theorem pd_0 : parseMethodDescriptor "()V" = some ⟨[], none⟩ := by decide +kernel
theorem d25_4 : decode jdk_35_method_26_code 4 = .ok (.aload_n 0, 1) := by decide +kernel
theorem d25_5 : decode jdk_35_method_26_code 5 = .ok (.lload_n 1, 1) := by decide +kernel
theorem d25_6 : decode jdk_35_method_26_code 6 = .ok (.putfield 273, 3) := by decide +kernel
theorem d25_9 : decode jdk_35_method_26_code 9 = .ok (.return_, 1) := by decide +kernel
set_option maxRecDepth 65536 in
set_option maxHeartbeats 40000000 in
theorem rm25 (l : Launch) (Z : State) (a0 : Array Value) (hw : ∀ d ∈ tables_1, d.before a0 Z = true) (ws : List Jvm.Cond) (a1 : Addr) (q2 : Int64) (u1 : Value) (h0 : Heap) (n0 : Nat) (Z0 : n0 ≤ h0.size) (E_a1 : Exa Z h0 a1 "java/lang/Long") (F_a1 : Fld Z h0 a1 "java/lang/Long" "value" "J" u1) (g_a1 : n0 ≤ a1) :
    MetFree l (⟨"java/lang/Long", "<init>", "(J)V"⟩ : MethodName) (head1 (Jvm.Cond.code (⟨"java/lang/Long", "<init>", "(J)V"⟩ : MethodName) jdk_35_method_26_code 3 none :: ws) ({ frames := 2, cells := 0, slots := 0, locals := 24 } : Room)) (fun a U => a = #[(.ref a1), (.long q2)] ∧ Z.Warmed39 U.vm ∧ U.heap = h0) (fun _ _ _ _ _ => True) (fun _ U o U' => ∃ v L, o = .returned v ∧ QLI Z a1 q2 h0 n0 v U'.heap L ∧ FrameEnd U o U' L ({ frames := 2, cells := 0, slots := 0, locals := 24 } : Room).cells ({ frames := 2, cells := 0, slots := 0, locals := 24 } : Room).slots) := by
  refine MetFree.of_bodySF (plainFor_of_name pn_25) hisR ?_
  intro p e s m args below meth c s₁ Bd hml0 hP hK
  obtain ⟨rfl, hZ, hh⟩ := hP
  have hx := Bd.exec
  have hby := Bd.bytes
  have hml : c.maxLocals = 3 := hml0
  have hown : s.vm.findClass "java/lang/Long" = some m.cls := findClass_of_methodNamed Bd.named
  have hnm := (name_of_methodNamed Bd.named Bd.method).1
  have X0 : Stand p l e ({ frames := 2, cells := 0, slots := 0, locals := 24 } : Room) s m #[(.ref a1), (.long q2)] below meth c s₁ [] 0 0 := Stand.of_body Bd
  have e0 : s₁.heap = h0 := by rw [← hh, Bd.state]; rfl
  have N0 := Fr.nil n0
  have go0 : Go p.tables e below s₁ (mkF m 0 #[.val (.ref a1), .val (.long q2), .second] []) s₁ (entryFrame m #[(.ref a1), (.long q2)] 3) := fun t k => castTop (ef_25 m a1 q2) k
  have go2 : Go p.tables e below s₁ (mkF m 1 #[.val (.ref a1), .val (.long q2), .second] [(.ref a1)]) s₁ (entryFrame m #[(.ref a1), (.long q2)] 3) := by
    intro t k
    refine go0 t ?_
    show Steps _ _ _ (s₁.setTop (mkF m 0 #[.val (.ref a1), .val (.long q2), .second] [])) _
    refine XS.aloadN X0.here hx rfl (hb hby d25_0) rfl rfl ?_
    exact k
  obtain ⟨_, _, ⟨T1, L1, k1, n1⟩, -, X1, ⟨Lc1, hQ1, l1, y1, z1⟩, st1⟩ := X0.specialBack hx (y := (⟨"java/lang/Number", "<init>", "()V"⟩ : MethodName)) rfl hown (mvT hZ (wk hw 192 rfl)) (mvT hZ (wk hw 193 rfl)) (mvT hZ (wk hw 197 rfl)) (by decide) (backOf (W := 0) (rm26 l Z a0 hw [] a1 h0 n0 Z0) hZ (wk hw 197 rfl) (wk hw 196 rfl) (by decide) (by decide)) (g := (mkF m 1 #[.val (.ref a1), .val (.long q2), .second] [(.ref a1)])) rfl (by rw [hml]; rfl) (Steps.refl _) (a := a1) (argsL := []) (rest := []) (lenOf pd_0 rfl) rfl (by show 2 * 0 + _ ≤ _; exact Nat.le_of_eq rfl) (hb hby d25_1) (fun _ _ => ⟨rfl, e0, (by decide : 0 + 0 ≤ _), (by decide : 0 + 0 ≤ _)⟩)
  dsimp only [Pt.U, Pt.locs, Pt.cells, Pt.slots] at X1 l1 y1 z1 st1 hQ1
  subst l1 y1 z1
  obtain ⟨rfl, N1q, e1⟩ := hQ1
  have N1 := Fr.app N0 N1q
  have go3 : Go p.tables e below T1 (mkF m 6 #[.val (.ref a1), .val (.long q2), .second] [(.long q2), (.ref a1)]) s₁ (entryFrame m #[(.ref a1), (.long q2)] 3) := by
    intro t k
    refine go2 t ?_
    show Steps _ _ _ (s₁.setTop (mkF m 1 #[.val (.ref a1), .val (.long q2), .second] [(.ref a1)])) _
    refine st1.trans ?_
    show Steps _ _ _ (T1.setTop (mkF m 4 #[.val (.ref a1), .val (.long q2), .second] [])) _
    refine XS.aloadN X1.here hx rfl (hb hby d25_4) rfl rfl ?_
    show Steps _ _ _ (T1.setTop (mkF m 5 #[.val (.ref a1), .val (.long q2), .second] [(.ref a1)])) _
    refine XS.lloadN X1.here hx rfl (hb hby d25_5) rfl ?_
    exact k
  obtain ⟨T4, h4, X4, e4, W4, st4⟩ := putF X1 hx hZ hown (host := "") (Or.inl (wk hw 185 rfl)) Via.refl e1 F_a1 E_a1 (Or.inr ⟨(wk hw 186 rfl), rfl, hnm⟩) (wk hw 188 rfl) (ty := .long) (by decide) rfl rfl (g := (mkF m 6 #[.val (.ref a1), .val (.long q2), .second] [(.long q2), (.ref a1)])) rfl rfl (hb hby d25_6)
  have N4 := Fr.snoc X4 N1 g_a1
  have Fw4 : Fld Z h4 a1 "java/lang/Long" "value" "J" (.long q2) := F_a1.same W4
  have go5 : Go p.tables e below T4 (mkF m 9 #[.val (.ref a1), .val (.long q2), .second] []) s₁ (entryFrame m #[(.ref a1), (.long q2)] 3) := by
    intro t k
    refine go3 t ?_
    show Steps _ _ _ (T1.setTop (mkF m 6 #[.val (.ref a1), .val (.long q2), .second] [(.long q2), (.ref a1)])) _
    refine st4 _ ?_
    exact k
  have f6 : Keep h0 h4 [a1] := ((Keep.refl h0 [a1]).wr W4 (Or.inl (List.mem_of_getElem? (i := 0) rfl)))
  have f7 : Exa Z h4 a1 "java/lang/Long" := (E_a1.wr W4)
  obtain ⟨fs, hr, hrun, hended, hW, hsame⟩ := X4.leave (v := none) (fun _ => rfl)
  refine ⟨_, _, go5 _ ?_, hrun, hended, _, _, rfl, ?_, ⟨_, rfl⟩, hW, hsame.mono (by decide) (by decide)⟩
  · exact X4.returnOut hx Bd.returns (hb hby d25_9) hr
  · show QLI Z a1 q2 h0 n0 _ T4.heap _
    rw [e4]
    exact ⟨rfl, N4, f6, f7, Fw4⟩
theorem pn_6 : plainName "java/lang/Long" = true := by first | (simp [plainName, overriddenIn]; done) | decide +kernel
theorem ef_6 (m : MethodId) (x0 : Int64) : entryFrame m #[(.long x0)] 3 = mkF m 0 #[.val (.long x0), .second, .unset] [] := by first | (simp [entryFrame, mkF, argsToLocals, Value.category]; done) | rfl
theorem d6_0 : decode jdk_35_method_24_code 0 = .ok (.sipush 128, 3) := by decide +kernel
theorem d6_3 : decode jdk_35_method_24_code 3 = .ok (.istore_n 2, 1) := by decide +kernel
theorem d6_4 : decode jdk_35_method_24_code 4 = .ok (.lload_n 0, 1) := by decide +kernel
theorem d6_5 : decode jdk_35_method_24_code 5 = .ok (.ldc2_w 230, 3) := by decide +kernel
theorem d6_8 : decode jdk_35_method_24_code 8 = .ok (.lcmp, 1) := by decide +kernel
theorem d6_9 : decode jdk_35_method_24_code 9 = .ok (.ifCond .lt 22, 3) := by decide +kernel
theorem d6_31 : decode jdk_35_method_24_code 31 = .ok (.new 1, 3) := by decide +kernel
theorem d6_34 : decode jdk_35_method_24_code 34 = .ok (.dup, 1) := by decide +kernel
theorem d6_35 : decode jdk_35_method_24_code 35 = .ok (.lload_n 0, 1) := by decide +kernel
theorem d6_36 : decode jdk_35_method_24_code 36 = .ok (.invokespecial 240, 3) := by decide +kernel
theorem pd_1 : parseMethodDescriptor "(J)V" = some ⟨[.long], none⟩ := by decide +kernel
theorem d6_39 : decode jdk_35_method_24_code 39 = .ok (.areturn, 1) := by decide +kernel
theorem d6_12 : decode jdk_35_method_24_code 12 = .ok (.lload_n 0, 1) := by decide +kernel
theorem d6_13 : decode jdk_35_method_24_code 13 = .ok (.ldc2_w 232, 3) := by decide +kernel
theorem d6_16 : decode jdk_35_method_24_code 16 = .ok (.lcmp, 1) := by decide +kernel
theorem d6_17 : decode jdk_35_method_24_code 17 = .ok (.ifCond .gt 14, 3) := by decide +kernel
theorem d6_20 : decode jdk_35_method_24_code 20 = .ok (.getstatic 234, 3) := by decide +kernel
theorem d6_23 : decode jdk_35_method_24_code 23 = .ok (.lload_n 0, 1) := by decide +kernel
theorem d6_24 : decode jdk_35_method_24_code 24 = .ok (.l2i, 1) := by decide +kernel
theorem d6_25 : decode jdk_35_method_24_code 25 = .ok (.sipush 128, 3) := by decide +kernel
theorem d6_28 : decode jdk_35_method_24_code 28 = .ok (.iadd, 1) := by decide +kernel
theorem d6_29 : decode jdk_35_method_24_code 29 = .ok (.aaload, 1) := by decide +kernel
theorem d6_30 : decode jdk_35_method_24_code 30 = .ok (.areturn, 1) := by decide +kernel
set_option maxRecDepth 65536 in
set_option maxHeartbeats 40000000 in
theorem rm6 (l : Launch) (Z : State) (a0 : Array Value) (hw : ∀ d ∈ tables_1, d.before a0 Z = true) (ws : List Jvm.Cond) (q1 : Int64) (wC : Addr) (clC : Cell) (h0 : Heap) (n0 : Nat) (Z0 : n0 ≤ h0.size) (HC : LC Z h0 wC clC) :
    MetFree l (⟨"java/lang/Long", "valueOf", "(J)Ljava/lang/Long;"⟩ : MethodName) (head1 (Jvm.Cond.code (⟨"java/lang/Long", "valueOf", "(J)Ljava/lang/Long;"⟩ : MethodName) jdk_35_method_24_code 3 (some (.object "java/lang/Long")) :: ws) ({ frames := 3, cells := 1, slots := 1, locals := 39 } : Room)) (fun a U => a = #[(.long q1)] ∧ Z.Warmed39 U.vm ∧ U.heap = h0) (fun _ _ _ _ _ => True) (fun _ U o U' => ∃ v L, o = .returned v ∧ QLV Z q1 h0 n0 v U'.heap L ∧ FrameEnd U o U' L ({ frames := 3, cells := 1, slots := 1, locals := 39 } : Room).cells ({ frames := 3, cells := 1, slots := 1, locals := 39 } : Room).slots) := by
  refine MetFree.of_bodySF (plainFor_of_name pn_6) hisR ?_
  intro p e s m args below meth c s₁ Bd hml0 hP hK
  obtain ⟨rfl, hZ, hh⟩ := hP
  have hx := Bd.exec
  have hby := Bd.bytes
  have hml : c.maxLocals = 3 := hml0
  have hown : s.vm.findClass "java/lang/Long" = some m.cls := findClass_of_methodNamed Bd.named
  have hnm := (name_of_methodNamed Bd.named Bd.method).1
  have X0 : Stand p l e ({ frames := 3, cells := 1, slots := 1, locals := 39 } : Room) s m #[(.long q1)] below meth c s₁ [] 0 0 := Stand.of_body Bd
  have e0 : s₁.heap = h0 := by rw [← hh, Bd.state]; rfl
  have N0 := Fr.nil n0
  have go0 : Go p.tables e below s₁ (mkF m 0 #[.val (.long q1), .second, .unset] []) s₁ (entryFrame m #[(.long q1)] 3) := fun t k => castTop (ef_6 m q1) k
  have go1 : Go p.tables e below s₁ (mkF m 9 #[.val (.long q1), .second, .val (.int (128 : Int32))] [(.int (lcmpW q1 (-128 : Int64)))]) s₁ (entryFrame m #[(.long q1)] 3) := by
    intro t k
    refine go0 t ?_
    show Steps _ _ _ (s₁.setTop (mkF m 0 #[.val (.long q1), .second, .unset] [])) _
    refine XS.sipush X0.here hx rfl (hb hby d6_0) ?_
    show Steps _ _ _ (s₁.setTop (mkF m 3 #[.val (.long q1), .second, .unset] [(.int (128 : Int32))])) _
    refine XS.istoreN X0.here hx rfl (hb hby d6_3) rfl (l' := #[.val (.long q1), .second, .val (.int (128 : Int32))]) rfl ?_
    show Steps _ _ _ (s₁.setTop (mkF m 4 #[.val (.long q1), .second, .val (.int (128 : Int32))] [])) _
    refine XS.lloadN X0.here hx rfl (hb hby d6_4) rfl ?_
    show Steps _ _ _ (s₁.setTop (mkF m 5 #[.val (.long q1), .second, .val (.int (128 : Int32))] [(.long q1)])) _
    refine X0.ldc2Long hx hown (mvT hZ (wk hw 40 rfl)) (g := (mkF m 5 #[.val (.long q1), .second, .val (.int (128 : Int32))] [(.long q1)])) rfl (hb hby d6_5) _ ?_
    show Steps _ _ _ (s₁.setTop (mkF m 8 #[.val (.long q1), .second, .val (.int (128 : Int32))] [(.long (-128 : Int64)), (.long q1)])) _
    refine XS.lcmp X0.here hx rfl (hb hby d6_8) rfl ?_
    exact k
  by_cases hc9 : (lcmpW q1 (-128 : Int64)) < (0 : Int32)
  · skip
    have go3 : Go p.tables e below s₁ (mkF m 31 #[.val (.long q1), .second, .val (.int (128 : Int32))] []) s₁ (entryFrame m #[(.long q1)] 3) := by
      intro t k
      refine go1 t ?_
      show Steps _ _ _ (s₁.setTop (mkF m 9 #[.val (.long q1), .second, .val (.int (128 : Int32))] [(.int (lcmpW q1 (-128 : Int64)))])) _
      refine XS.ifYes X0.here hx rfl (pc0 := 9) (pc' := 31) rfl (hb hby d6_9) rfl ((if0 _ _).trans (tlt hc9).1) (by decide) (by decide) ?_
      exact k
    obtain ⟨T4, h4, X4, e4, E4, A4, D4, -, st4⟩ := newO X0 hx hZ hown (wk hw 187 rfl) (wk hw 188 rfl) (wk hw 38 rfl) e0 (g := (mkF m 31 #[.val (.long q1), .second, .val (.int (128 : Int32))] [])) rfl (hb hby d6_31) (by decide) (by decide)
    obtain ⟨b2, g4⟩ : ∃ z, z = h0.size := ⟨_, rfl⟩
    rw [← g4] at A4 D4 st4
    have g_b2 : n0 ≤ b2 := Nat.le_trans Z0 (Nat.le_of_eq g4.symm)
    have sz_b2 : h0.size ≤ b2 := Nat.le_trans (Keep.refl h0 []).1 (Nat.le_of_eq g4.symm)
    have F_value_b2 : Fld Z h4 b2 "java/lang/Long" "value" "J" (.long (0 : Int64)) := D4 (Or.inr (wk hw 186 rfl)) (ty := .long) (by decide)
    have go7 : Go p.tables e below T4 (mkF m 36 #[.val (.long q1), .second, .val (.int (128 : Int32))] [(.long q1), (.ref b2), (.ref b2)]) s₁ (entryFrame m #[(.long q1)] 3) := by
      intro t k
      refine go3 t ?_
      show Steps _ _ _ (s₁.setTop (mkF m 31 #[.val (.long q1), .second, .val (.int (128 : Int32))] [])) _
      refine st4 _ ?_
      show Steps _ _ _ (T4.setTop (mkF m 34 #[.val (.long q1), .second, .val (.int (128 : Int32))] [(.ref b2)])) _
      refine XS.dup X4.here hx rfl (hb hby d6_34) rfl rfl ?_
      show Steps _ _ _ (T4.setTop (mkF m 35 #[.val (.long q1), .second, .val (.int (128 : Int32))] [(.ref b2), (.ref b2)])) _
      refine XS.lloadN X4.here hx rfl (hb hby d6_35) rfl ?_
      exact k
    have f6 : n0 ≤ h4.size := (Nat.le_trans Z0 E4.1)
    obtain ⟨_, _, ⟨T5, L5, k5, n5⟩, -, X5, ⟨Lc5, hQ5, l5, y5, z5⟩, st5⟩ := X4.specialBack hx (y := (⟨"java/lang/Long", "<init>", "(J)V"⟩ : MethodName)) rfl hown (mvT hZ (wk hw 189 rfl)) (mvT hZ (wk hw 190 rfl)) (mvT hZ (wk hw 191 rfl)) (by decide) (backOf (W := 1) (rm25 l Z a0 hw [] b2 q1 (.long (0 : Int64)) h4 n0 f6 A4 F_value_b2 g_b2) hZ (wk hw 191 rfl) (wk hw 38 rfl) (by decide) (by decide)) (g := (mkF m 36 #[.val (.long q1), .second, .val (.int (128 : Int32))] [(.long q1), (.ref b2), (.ref b2)])) rfl (by rw [hml]; rfl) (Steps.refl _) (a := b2) (argsL := [(.long q1)]) (rest := [(.ref b2)]) (lenOf pd_1 rfl) rfl (by show 2 * 0 + _ ≤ _; exact Nat.le_of_eq rfl) (hb hby d6_36) (fun _ _ => ⟨rfl, e4, (by decide : 1 + 0 ≤ _), (by decide : 1 + 0 ≤ _)⟩)
    dsimp only [Pt.U, Pt.locs, Pt.cells, Pt.slots] at X5 l5 y5 z5 st5 hQ5
    subst l5 y5 z5
    obtain ⟨rfl, N5q, K5, Ex5, Fx5⟩ := hQ5
    have N5 := Fr.app N0 N5q
    have go8 : Go p.tables e below T5 (mkF m 39 #[.val (.long q1), .second, .val (.int (128 : Int32))] [(.ref b2)]) s₁ (entryFrame m #[(.long q1)] 3) := by
      intro t k
      refine go7 t ?_
      show Steps _ _ _ (T4.setTop (mkF m 36 #[.val (.long q1), .second, .val (.int (128 : Int32))] [(.long q1), (.ref b2), (.ref b2)])) _
      refine st5.trans ?_
      exact k
    have f9 : Keep h0 T5.heap [] := (((Keep.refl h0 []).ext E4).trans K5 (allS (Or.inr sz_b2) all0))
    have f10 : Exa Z T5.heap b2 "java/lang/Long" := (A4.keep K5)
    obtain ⟨fs, hr, hrun, hended, hW, hsame⟩ := X5.leave (v := some (.ref b2)) (fun h => by rw [Bd.returns] at h; cases h)
    refine ⟨_, _, go8 _ ?_, hrun, hended, _, _, rfl, ?_, ⟨_, rfl⟩, hW, hsame.mono (by decide) (by decide)⟩
    · exact retOut X5 hx Bd.returns rfl (Or.inr (Or.inr (Or.inr (Or.inr ⟨rfl, rfl, rfl⟩)))) (hb hby d6_39) hr
    · show QLV Z q1 h0 n0 _ T5.heap _
      exact ⟨b2, rfl, N5, f9, f10, Fx5⟩
  · skip
    have go11 : Go p.tables e below s₁ (mkF m 17 #[.val (.long q1), .second, .val (.int (128 : Int32))] [(.int (lcmpW q1 (127 : Int64)))]) s₁ (entryFrame m #[(.long q1)] 3) := by
      intro t k
      refine go1 t ?_
      show Steps _ _ _ (s₁.setTop (mkF m 9 #[.val (.long q1), .second, .val (.int (128 : Int32))] [(.int (lcmpW q1 (-128 : Int64)))])) _
      refine XS.ifNo X0.here hx rfl (hb hby d6_9) rfl ((if0 _ _).trans (flt hc9).1) ?_
      show Steps _ _ _ (s₁.setTop (mkF m 12 #[.val (.long q1), .second, .val (.int (128 : Int32))] [])) _
      refine XS.lloadN X0.here hx rfl (hb hby d6_12) rfl ?_
      show Steps _ _ _ (s₁.setTop (mkF m 13 #[.val (.long q1), .second, .val (.int (128 : Int32))] [(.long q1)])) _
      refine X0.ldc2Long hx hown (mvT hZ (wk hw 41 rfl)) (g := (mkF m 13 #[.val (.long q1), .second, .val (.int (128 : Int32))] [(.long q1)])) rfl (hb hby d6_13) _ ?_
      show Steps _ _ _ (s₁.setTop (mkF m 16 #[.val (.long q1), .second, .val (.int (128 : Int32))] [(.long (127 : Int64)), (.long q1)])) _
      refine XS.lcmp X0.here hx rfl (hb hby d6_16) rfl ?_
      exact k
    by_cases hc17 : (0 : Int32) < (lcmpW q1 (127 : Int64))
    · skip
      have go13 : Go p.tables e below s₁ (mkF m 31 #[.val (.long q1), .second, .val (.int (128 : Int32))] []) s₁ (entryFrame m #[(.long q1)] 3) := by
        intro t k
        refine go11 t ?_
        show Steps _ _ _ (s₁.setTop (mkF m 17 #[.val (.long q1), .second, .val (.int (128 : Int32))] [(.int (lcmpW q1 (127 : Int64)))])) _
        refine XS.ifYes X0.here hx rfl (pc0 := 17) (pc' := 31) rfl (hb hby d6_17) rfl ((if0 _ _).trans (tlt hc17).2.2.1) (by decide) (by decide) ?_
        exact k
      obtain ⟨T14, h14, X14, e14, E14, A14, D14, -, st14⟩ := newO X0 hx hZ hown (wk hw 187 rfl) (wk hw 188 rfl) (wk hw 38 rfl) e0 (g := (mkF m 31 #[.val (.long q1), .second, .val (.int (128 : Int32))] [])) rfl (hb hby d6_31) (by decide) (by decide)
      obtain ⟨b12, g14⟩ : ∃ z, z = h0.size := ⟨_, rfl⟩
      rw [← g14] at A14 D14 st14
      have g_b12 : n0 ≤ b12 := Nat.le_trans Z0 (Nat.le_of_eq g14.symm)
      have sz_b12 : h0.size ≤ b12 := Nat.le_trans (Keep.refl h0 []).1 (Nat.le_of_eq g14.symm)
      have F_value_b12 : Fld Z h14 b12 "java/lang/Long" "value" "J" (.long (0 : Int64)) := D14 (Or.inr (wk hw 186 rfl)) (ty := .long) (by decide)
      have go17 : Go p.tables e below T14 (mkF m 36 #[.val (.long q1), .second, .val (.int (128 : Int32))] [(.long q1), (.ref b12), (.ref b12)]) s₁ (entryFrame m #[(.long q1)] 3) := by
        intro t k
        refine go13 t ?_
        show Steps _ _ _ (s₁.setTop (mkF m 31 #[.val (.long q1), .second, .val (.int (128 : Int32))] [])) _
        refine st14 _ ?_
        show Steps _ _ _ (T14.setTop (mkF m 34 #[.val (.long q1), .second, .val (.int (128 : Int32))] [(.ref b12)])) _
        refine XS.dup X14.here hx rfl (hb hby d6_34) rfl rfl ?_
        show Steps _ _ _ (T14.setTop (mkF m 35 #[.val (.long q1), .second, .val (.int (128 : Int32))] [(.ref b12), (.ref b12)])) _
        refine XS.lloadN X14.here hx rfl (hb hby d6_35) rfl ?_
        exact k
      have f16 : n0 ≤ h14.size := (Nat.le_trans Z0 E14.1)
      obtain ⟨_, _, ⟨T15, L15, k15, n15⟩, -, X15, ⟨Lc15, hQ15, l15, y15, z15⟩, st15⟩ := X14.specialBack hx (y := (⟨"java/lang/Long", "<init>", "(J)V"⟩ : MethodName)) rfl hown (mvT hZ (wk hw 189 rfl)) (mvT hZ (wk hw 190 rfl)) (mvT hZ (wk hw 191 rfl)) (by decide) (backOf (W := 1) (rm25 l Z a0 hw [] b12 q1 (.long (0 : Int64)) h14 n0 f16 A14 F_value_b12 g_b12) hZ (wk hw 191 rfl) (wk hw 38 rfl) (by decide) (by decide)) (g := (mkF m 36 #[.val (.long q1), .second, .val (.int (128 : Int32))] [(.long q1), (.ref b12), (.ref b12)])) rfl (by rw [hml]; rfl) (Steps.refl _) (a := b12) (argsL := [(.long q1)]) (rest := [(.ref b12)]) (lenOf pd_1 rfl) rfl (by show 2 * 0 + _ ≤ _; exact Nat.le_of_eq rfl) (hb hby d6_36) (fun _ _ => ⟨rfl, e14, (by decide : 1 + 0 ≤ _), (by decide : 1 + 0 ≤ _)⟩)
      dsimp only [Pt.U, Pt.locs, Pt.cells, Pt.slots] at X15 l15 y15 z15 st15 hQ15
      subst l15 y15 z15
      obtain ⟨rfl, N15q, K15, Ex15, Fx15⟩ := hQ15
      have N15 := Fr.app N0 N15q
      have go18 : Go p.tables e below T15 (mkF m 39 #[.val (.long q1), .second, .val (.int (128 : Int32))] [(.ref b12)]) s₁ (entryFrame m #[(.long q1)] 3) := by
        intro t k
        refine go17 t ?_
        show Steps _ _ _ (T14.setTop (mkF m 36 #[.val (.long q1), .second, .val (.int (128 : Int32))] [(.long q1), (.ref b12), (.ref b12)])) _
        refine st15.trans ?_
        exact k
      have f19 : Keep h0 T15.heap [] := (((Keep.refl h0 []).ext E14).trans K15 (allS (Or.inr sz_b12) all0))
      have f20 : Exa Z T15.heap b12 "java/lang/Long" := (A14.keep K15)
      obtain ⟨fs, hr, hrun, hended, hW, hsame⟩ := X15.leave (v := some (.ref b12)) (fun h => by rw [Bd.returns] at h; cases h)
      refine ⟨_, _, go18 _ ?_, hrun, hended, _, _, rfl, ?_, ⟨_, rfl⟩, hW, hsame.mono (by decide) (by decide)⟩
      · exact retOut X15 hx Bd.returns rfl (Or.inr (Or.inr (Or.inr (Or.inr ⟨rfl, rfl, rfl⟩)))) (hb hby d6_39) hr
      · show QLV Z q1 h0 n0 _ T15.heap _
        exact ⟨b12, rfl, N15, f19, f20, Fx15⟩
    · skip
      have go21 : Go p.tables e below s₁ (mkF m 20 #[.val (.long q1), .second, .val (.int (128 : Int32))] []) s₁ (entryFrame m #[(.long q1)] 3) := by
        intro t k
        refine go11 t ?_
        show Steps _ _ _ (s₁.setTop (mkF m 17 #[.val (.long q1), .second, .val (.int (128 : Int32))] [(.int (lcmpW q1 (127 : Int64)))])) _
        refine XS.ifNo X0.here hx rfl (hb hby d6_17) rfl ((if0 _ _).trans (flt hc17).2.2.1) ?_
        exact k
      obtain ⟨bq, hin, hat, Eb, Fb⟩ := HC.2.2 q1 hc9 hc17
      obtain ⟨T22, X22, e22, st22⟩ := getS2 X0 hx hZ hown (host := "") (Or.inl (wk hw 42 rfl)) Via.refl e0 HC.1 (g := (mkF m 20 #[.val (.long q1), .second, .val (.int (128 : Int32))] [])) rfl (hb hby d6_20)
      have go23 : Go p.tables e below T22 (mkF m 30 #[.val (.long q1), .second, .val (.int (128 : Int32))] [(.ref bq)]) s₁ (entryFrame m #[(.long q1)] 3) := by
        intro t k
        refine go21 t ?_
        show Steps _ _ _ (s₁.setTop (mkF m 20 #[.val (.long q1), .second, .val (.int (128 : Int32))] [])) _
        refine st22 _ ?_
        show Steps _ _ _ (T22.setTop (mkF m 23 #[.val (.long q1), .second, .val (.int (128 : Int32))] [(.ref wC)])) _
        refine XS.lloadN X22.here hx rfl (hb hby d6_23) rfl ?_
        show Steps _ _ _ (T22.setTop (mkF m 24 #[.val (.long q1), .second, .val (.int (128 : Int32))] [(.long q1), (.ref wC)])) _
        refine XS.l2i X22.here hx rfl (hb hby d6_24) rfl ?_
        show Steps _ _ _ (T22.setTop (mkF m 25 #[.val (.long q1), .second, .val (.int (128 : Int32))] [(.int (q1.toInt32)), (.ref wC)])) _
        refine XS.sipush X22.here hx rfl (hb hby d6_25) ?_
        show Steps _ _ _ (T22.setTop (mkF m 28 #[.val (.long q1), .second, .val (.int (128 : Int32))] [(.int (128 : Int32)), (.int (q1.toInt32)), (.ref wC)])) _
        refine XS.iadd X22.here hx rfl (hb hby d6_28) rfl ?_
        show Steps _ _ _ (T22.setTop (mkF m 29 #[.val (.long q1), .second, .val (.int (128 : Int32))] [(.int ((q1.toInt32) + (128 : Int32))), (.ref wC)])) _
        refine X22.aaload hx (j := ((q1.toInt32) + (128 : Int32))) (v := (.ref bq)) (by rw [e22]; exact HC.2.1.1) (State.isArrayOf_alike hZ.alike HC.2.1.2.1) rfl HC.2.1.2.2 hin hat (g := (mkF m 29 #[.val (.long q1), .second, .val (.int (128 : Int32))] [(.int ((q1.toInt32) + (128 : Int32))), (.ref wC)])) rfl rfl (hb hby d6_29) _ ?_
        exact k
      obtain ⟨fs, hr, hrun, hended, hW, hsame⟩ := X22.leave (v := some (.ref bq)) (fun h => by rw [Bd.returns] at h; cases h)
      refine ⟨_, _, go23 _ ?_, hrun, hended, _, _, rfl, ?_, ⟨_, rfl⟩, hW, hsame.mono (by decide) (by decide)⟩
      · exact retOut X22 hx Bd.returns rfl (Or.inr (Or.inr (Or.inr (Or.inr ⟨rfl, rfl, rfl⟩)))) (hb hby d6_30) hr
      · show QLV Z q1 h0 n0 _ T22.heap _
        rw [e22]
        exact ⟨bq, rfl, N0, Keep.refl h0 [], Eb, Fb⟩
theorem pn_3 : plainName "java/util/AbstractList" = true := by first | (simp [plainName, overriddenIn]; done) | decide +kernel
theorem ef_3 (m : MethodId) (x0 : Addr) : entryFrame m #[(.ref x0)] 1 = mkF m 0 #[.val (.ref x0)] [] := by first | (simp [entryFrame, mkF, argsToLocals, Value.category]; done) | rfl
theorem d3_0 : decode jdk_39_method_1_code 0 = .ok (.aload_n 0, 1) := by decide +kernel
theorem d3_1 : decode jdk_39_method_1_code 1 = .ok (.invokespecial 1, 3) := by decide +kernel
theorem d3_4 : decode jdk_39_method_1_code 4 = .ok (.aload_n 0, 1) := by decide +kernel
theorem d3_5 : decode jdk_39_method_1_code 5 = .ok (.iconst 0, 1) := by decide +kernel
theorem d3_6 : decode jdk_39_method_1_code 6 = .ok (.putfield 7, 3) := by decide +kernel
theorem d3_9 : decode jdk_39_method_1_code 9 = .ok (.return_, 1) := by decide +kernel
set_option maxRecDepth 65536 in
set_option maxHeartbeats 40000000 in
theorem rm3 (l : Launch) (Z : State) (a0 : Array Value) (hw : ∀ d ∈ tables_1, d.before a0 Z = true) (ws : List Jvm.Cond) (a1 : Addr) (u1 u2 u3 : Value) (h0 : Heap) (n0 : Nat) (Z0 : n0 ≤ h0.size) (E_a1 : Exa Z h0 a1 "java/util/ArrayList") (Fm : Fld Z h0 a1 "java/util/AbstractList" "modCount" "I" u3) (Fe : Fld Z h0 a1 "java/util/ArrayList" "elementData" "[Ljava/lang/Object;" u1) (Fs : Fld Z h0 a1 "java/util/ArrayList" "size" "I" u2) (g_a1 : n0 ≤ a1) :
    MetFree l (⟨"java/util/AbstractList", "<init>", "()V"⟩ : MethodName) (head1 (Jvm.Cond.code (⟨"java/util/AbstractList", "<init>", "()V"⟩ : MethodName) jdk_39_method_1_code 1 none :: ws) ({ frames := 2, cells := 0, slots := 0, locals := 24 } : Room)) (fun a U => a = #[(.ref a1)] ∧ Z.Warmed39 U.vm ∧ U.heap = h0) (fun _ _ _ _ _ => True) (fun _ U o U' => ∃ v L, o = .returned v ∧ Q3 Z a1 u1 u2 h0 n0 v U'.heap L ∧ FrameEnd U o U' L ({ frames := 2, cells := 0, slots := 0, locals := 24 } : Room).cells ({ frames := 2, cells := 0, slots := 0, locals := 24 } : Room).slots) := by
  refine MetFree.of_bodySF (plainFor_of_name pn_3) hisR ?_
  intro p e s m args below meth c s₁ Bd hml0 hP hK
  obtain ⟨rfl, hZ, hh⟩ := hP
  have hx := Bd.exec
  have hby := Bd.bytes
  have hml : c.maxLocals = 1 := hml0
  have hown : s.vm.findClass "java/util/AbstractList" = some m.cls := findClass_of_methodNamed Bd.named
  have hnm := (name_of_methodNamed Bd.named Bd.method).1
  have X0 : Stand p l e ({ frames := 2, cells := 0, slots := 0, locals := 24 } : Room) s m #[(.ref a1)] below meth c s₁ [] 0 0 := Stand.of_body Bd
  have e0 : s₁.heap = h0 := by rw [← hh, Bd.state]; rfl
  have N0 := Fr.nil n0
  have go0 : Go p.tables e below s₁ (mkF m 0 #[.val (.ref a1)] []) s₁ (entryFrame m #[(.ref a1)] 1) := fun t k => castTop (ef_3 m a1) k
  have go2 : Go p.tables e below s₁ (mkF m 1 #[.val (.ref a1)] [(.ref a1)]) s₁ (entryFrame m #[(.ref a1)] 1) := by
    intro t k
    refine go0 t ?_
    show Steps _ _ _ (s₁.setTop (mkF m 0 #[.val (.ref a1)] [])) _
    refine XS.aloadN X0.here hx rfl (hb hby d3_0) rfl rfl ?_
    exact k
  obtain ⟨_, _, ⟨T1, L1, k1, n1⟩, -, X1, ⟨Lc1, hQ1, l1, y1, z1⟩, st1⟩ := X0.specialBack hx (y := (⟨"java/util/AbstractCollection", "<init>", "()V"⟩ : MethodName)) rfl hown (mvT hZ (wk hw 20 rfl)) (mvT hZ (wk hw 21 rfl)) (mvT hZ (wk hw 25 rfl)) (by decide) (backOf (W := 0) (rm4 l Z a0 hw [] a1 h0 n0 Z0) hZ (wk hw 25 rfl) (wk hw 24 rfl) (by decide) (by decide)) (g := (mkF m 1 #[.val (.ref a1)] [(.ref a1)])) rfl (by rw [hml]; rfl) (Steps.refl _) (a := a1) (argsL := []) (rest := []) (lenOf pd_0 rfl) rfl (by show 2 * 0 + _ ≤ _; exact Nat.le_of_eq rfl) (hb hby d3_1) (fun _ _ => ⟨rfl, e0, (by decide : 0 + 0 ≤ _), (by decide : 0 + 0 ≤ _)⟩)
  dsimp only [Pt.U, Pt.locs, Pt.cells, Pt.slots] at X1 l1 y1 z1 st1 hQ1
  subst l1 y1 z1
  obtain ⟨rfl, N1q, e1⟩ := hQ1
  have N1 := Fr.app N0 N1q
  have go3 : Go p.tables e below T1 (mkF m 6 #[.val (.ref a1)] [(.int (0 : Int32)), (.ref a1)]) s₁ (entryFrame m #[(.ref a1)] 1) := by
    intro t k
    refine go2 t ?_
    show Steps _ _ _ (s₁.setTop (mkF m 1 #[.val (.ref a1)] [(.ref a1)])) _
    refine st1.trans ?_
    show Steps _ _ _ (T1.setTop (mkF m 4 #[.val (.ref a1)] [])) _
    refine XS.aloadN X1.here hx rfl (hb hby d3_4) rfl rfl ?_
    show Steps _ _ _ (T1.setTop (mkF m 5 #[.val (.ref a1)] [(.ref a1)])) _
    refine XS.iconst X1.here hx rfl (hb hby d3_5) ?_
    exact k
  obtain ⟨T4, h4, X4, e4, W4, st4⟩ := putF X1 hx hZ hown (host := "") (Or.inl (wk hw 29 rfl)) Via.refl e1 Fm E_a1 (Or.inl (wk hw 30 rfl)) (wk hw 9 rfl) (ty := .int) (by decide) rfl rfl (g := (mkF m 6 #[.val (.ref a1)] [(.int (0 : Int32)), (.ref a1)])) rfl rfl (hb hby d3_6)
  have N4 := Fr.snoc X4 N1 g_a1
  have Fw4 : Fld Z h4 a1 "java/util/AbstractList" "modCount" "I" (.int (0 : Int32)) := Fm.same W4
  have go5 : Go p.tables e below T4 (mkF m 9 #[.val (.ref a1)] []) s₁ (entryFrame m #[(.ref a1)] 1) := by
    intro t k
    refine go3 t ?_
    show Steps _ _ _ (T1.setTop (mkF m 6 #[.val (.ref a1)] [(.int (0 : Int32)), (.ref a1)])) _
    refine st4 _ ?_
    exact k
  have f6 : Keep h0 h4 [a1] := ((Keep.refl h0 [a1]).wr W4 (Or.inl (List.mem_of_getElem? (i := 0) rfl)))
  have f7 : Fld Z h4 a1 "java/util/ArrayList" "elementData" "[Ljava/lang/Object;" u1 := (Fe.other W4 (Or.inr (slot_ne (Or.inl (wk hw 34 rfl)) (Or.inl (wk hw 30 rfl)) (by decide) (t := (.array (.object "java/lang/Object"))) (t' := .int) (by decide) (by decide))))
  have f8 : Fld Z h4 a1 "java/util/ArrayList" "size" "I" u2 := (Fs.other W4 (Or.inr (slot_ne (Or.inl (wk hw 56 rfl)) (Or.inl (wk hw 30 rfl)) (by decide) (t := .int) (t' := .int) (by decide) (by decide))))
  obtain ⟨fs, hr, hrun, hended, hW, hsame⟩ := X4.leave (v := none) (fun _ => rfl)
  refine ⟨_, _, go5 _ ?_, hrun, hended, _, _, rfl, ?_, ⟨_, rfl⟩, hW, hsame.mono (by decide) (by decide)⟩
  · exact X4.returnOut hx Bd.returns (hb hby d3_9) hr
  · show Q3 Z a1 u1 u2 h0 n0 _ T4.heap _
    rw [e4]
    exact ⟨rfl, N4, f6, Fw4, f7, f8⟩
theorem pn_2 : plainName "java/util/ArrayList" = true := by first | (simp [plainName, overriddenIn]; done) | decide +kernel
theorem ef_2 (m : MethodId) (x0 : Addr) (x1 : Int32) : entryFrame m #[(.ref x0), (.int x1)] 2 = mkF m 0 #[.val (.ref x0), .val (.int x1)] [] := by first | (simp [entryFrame, mkF, argsToLocals, Value.category]; done) | rfl
theorem d2_0 : decode jdk_38_method_1_code 0 = .ok (.aload_n 0, 1) := by decide +kernel
theorem d2_1 : decode jdk_38_method_1_code 1 = .ok (.invokespecial 1, 3) := by decide +kernel
theorem d2_4 : decode jdk_38_method_1_code 4 = .ok (.iload_n 1, 1) := by decide +kernel
theorem d2_5 : decode jdk_38_method_1_code 5 = .ok (.ifCond .le 14, 3) := by decide +kernel
theorem d2_8 : decode jdk_38_method_1_code 8 = .ok (.aload_n 0, 1) := by decide +kernel
theorem d2_9 : decode jdk_38_method_1_code 9 = .ok (.iload_n 1, 1) := by decide +kernel
theorem d2_10 : decode jdk_38_method_1_code 10 = .ok (.anewarray 7, 3) := by decide +kernel
theorem d2_13 : decode jdk_38_method_1_code 13 = .ok (.putfield 9, 3) := by decide +kernel
theorem d2_16 : decode jdk_38_method_1_code 16 = .ok (.goto 44, 3) := by decide +kernel
theorem d2_60 : decode jdk_38_method_1_code 60 = .ok (.return_, 1) := by decide +kernel
set_option maxRecDepth 65536 in
set_option maxHeartbeats 40000000 in
theorem rm2_1 (l : Launch) (Z : State) (a0 : Array Value) (hw : ∀ d ∈ tables_1, d.before a0 Z = true) (ws : List Jvm.Cond) (a1 : Addr) (h0 : Heap) (n0 : Nat) (Z0 : n0 ≤ h0.size) (E_a1 : Exa Z h0 a1 "java/util/ArrayList") (Fm : Fld Z h0 a1 "java/util/AbstractList" "modCount" "I" (.int (0 : Int32))) (Fe : Fld Z h0 a1 "java/util/ArrayList" "elementData" "[Ljava/lang/Object;" .null) (Fs : Fld Z h0 a1 "java/util/ArrayList" "size" "I" (.int (0 : Int32))) (g_a1 : n0 ≤ a1) :
    MetFree l (⟨"java/util/ArrayList", "<init>", "(I)V"⟩ : MethodName) (head1 (Jvm.Cond.code (⟨"java/util/ArrayList", "<init>", "(I)V"⟩ : MethodName) jdk_38_method_1_code 2 none :: ws) ({ frames := 3, cells := 1, slots := 1, locals := 36 } : Room)) (fun a U => a = #[(.ref a1), (.int (1 : Int32))] ∧ Z.Warmed39 U.vm ∧ U.heap = h0) (fun _ _ _ _ _ => True) (fun _ U o U' => ∃ v L, o = .returned v ∧ Q2_1 Z a1 h0 n0 v U'.heap L ∧ FrameEnd U o U' L ({ frames := 3, cells := 1, slots := 1, locals := 36 } : Room).cells ({ frames := 3, cells := 1, slots := 1, locals := 36 } : Room).slots) := by
  refine MetFree.of_bodySF (plainFor_of_name pn_2) hisR ?_
  intro p e s m args below meth c s₁ Bd hml0 hP hK
  obtain ⟨rfl, hZ, hh⟩ := hP
  have hx := Bd.exec
  have hby := Bd.bytes
  have hml : c.maxLocals = 2 := hml0
  have hown : s.vm.findClass "java/util/ArrayList" = some m.cls := findClass_of_methodNamed Bd.named
  have hnm := (name_of_methodNamed Bd.named Bd.method).1
  have X0 : Stand p l e ({ frames := 3, cells := 1, slots := 1, locals := 36 } : Room) s m #[(.ref a1), (.int (1 : Int32))] below meth c s₁ [] 0 0 := Stand.of_body Bd
  have e0 : s₁.heap = h0 := by rw [← hh, Bd.state]; rfl
  have N0 := Fr.nil n0
  have go0 : Go p.tables e below s₁ (mkF m 0 #[.val (.ref a1), .val (.int (1 : Int32))] []) s₁ (entryFrame m #[(.ref a1), (.int (1 : Int32))] 2) := fun t k => castTop (ef_2 m a1 (1 : Int32)) k
  have go2 : Go p.tables e below s₁ (mkF m 1 #[.val (.ref a1), .val (.int (1 : Int32))] [(.ref a1)]) s₁ (entryFrame m #[(.ref a1), (.int (1 : Int32))] 2) := by
    intro t k
    refine go0 t ?_
    show Steps _ _ _ (s₁.setTop (mkF m 0 #[.val (.ref a1), .val (.int (1 : Int32))] [])) _
    refine XS.aloadN X0.here hx rfl (hb hby d2_0) rfl rfl ?_
    exact k
  obtain ⟨_, _, ⟨T1, L1, k1, n1⟩, -, X1, ⟨Lc1, hQ1, l1, y1, z1⟩, st1⟩ := X0.specialBack hx (y := (⟨"java/util/AbstractList", "<init>", "()V"⟩ : MethodName)) rfl hown (mvT hZ (wk hw 14 rfl)) (mvT hZ (wk hw 15 rfl)) (mvT hZ (wk hw 19 rfl)) (by decide) (backOf (W := 0) (rm3 l Z a0 hw [] a1 .null (.int (0 : Int32)) (.int (0 : Int32)) h0 n0 Z0 E_a1 Fm Fe Fs g_a1) hZ (wk hw 19 rfl) (wk hw 18 rfl) (by decide) (by decide)) (g := (mkF m 1 #[.val (.ref a1), .val (.int (1 : Int32))] [(.ref a1)])) rfl (by rw [hml]; rfl) (Steps.refl _) (a := a1) (argsL := []) (rest := []) (lenOf pd_0 rfl) rfl (by show 2 * 0 + _ ≤ _; exact Nat.le_of_eq rfl) (hb hby d2_1) (fun _ _ => ⟨rfl, e0, (by decide : 0 + 0 ≤ _), (by decide : 0 + 0 ≤ _)⟩)
  dsimp only [Pt.U, Pt.locs, Pt.cells, Pt.slots] at X1 l1 y1 z1 st1 hQ1
  subst l1 y1 z1
  obtain ⟨rfl, N1q, K1, Fm1, Fe1, Fs1⟩ := hQ1
  have N1 := Fr.app N0 N1q
  have go4 : Go p.tables e below T1 (mkF m 10 #[.val (.ref a1), .val (.int (1 : Int32))] [(.int (1 : Int32)), (.ref a1)]) s₁ (entryFrame m #[(.ref a1), (.int (1 : Int32))] 2) := by
    intro t k
    refine go2 t ?_
    show Steps _ _ _ (s₁.setTop (mkF m 1 #[.val (.ref a1), .val (.int (1 : Int32))] [(.ref a1)])) _
    refine st1.trans ?_
    show Steps _ _ _ (T1.setTop (mkF m 4 #[.val (.ref a1), .val (.int (1 : Int32))] [])) _
    refine XS.iloadN X1.here hx rfl (hb hby d2_4) rfl ?_
    show Steps _ _ _ (T1.setTop (mkF m 5 #[.val (.ref a1), .val (.int (1 : Int32))] [(.int (1 : Int32))])) _
    refine XS.ifNo X1.here hx rfl (hb hby d2_5) rfl ((if0 _ _).trans (tlt (by decide)).2.2.2) ?_
    show Steps _ _ _ (T1.setTop (mkF m 8 #[.val (.ref a1), .val (.int (1 : Int32))] [])) _
    refine XS.aloadN X1.here hx rfl (hb hby d2_8) rfl rfl ?_
    show Steps _ _ _ (T1.setTop (mkF m 9 #[.val (.ref a1), .val (.int (1 : Int32))] [(.ref a1)])) _
    refine XS.iloadN X1.here hx rfl (hb hby d2_9) rfl ?_
    exact k
  have f3 : n0 ≤ T1.heap.size := (Nat.le_trans Z0 K1.1)
  have f5 : Keep h0 T1.heap [a1] := ((Keep.refl h0 [a1]).trans K1 (allS (Or.inl (List.mem_of_getElem? (i := 0) rfl)) all0))
  obtain ⟨T7, h7, k7, X7, e7, E7, A7, O7, st7⟩ := newR X1 hx hZ hown (wk hw 31 rfl) (wk hw 32 rfl) rfl (g := (mkF m 10 #[.val (.ref a1), .val (.int (1 : Int32))] [(.int (1 : Int32)), (.ref a1)])) rfl (hb hby d2_10) rfl (by decide) (cap := 1) (by decide) (by decide) (by decide) (by decide)
  obtain ⟨b6, g7⟩ : ∃ z, z = T1.heap.size := ⟨_, rfl⟩
  rw [← g7] at A7 st7
  have g_b6 : n0 ≤ b6 := Nat.le_trans f3 (Nat.le_of_eq g7.symm)
  have sz_b6 : h0.size ≤ b6 := Nat.le_trans f5.1 (Nat.le_of_eq g7.symm)
  have V_b6 : Arv Z h7 b6 k7 (.object "java/lang/Object") (1 : Int32) [.null] .null := (Arv.new A7 (by decide)).pad (pad_rep [] .null 1)
  have go9 : Go p.tables e below T7 (mkF m 13 #[.val (.ref a1), .val (.int (1 : Int32))] [(.ref b6), (.ref a1)]) s₁ (entryFrame m #[(.ref a1), (.int (1 : Int32))] 2) := by
    intro t k
    refine go4 t ?_
    show Steps _ _ _ (T1.setTop (mkF m 10 #[.val (.ref a1), .val (.int (1 : Int32))] [(.int (1 : Int32)), (.ref a1)])) _
    refine st7 _ ?_
    exact k
  have f8 : Exa Z h7 a1 "java/util/ArrayList" := ((E_a1.keep K1).ext E7)
  have f10 : Fld Z h7 a1 "java/util/ArrayList" "elementData" "[Ljava/lang/Object;" .null := (Fe1.ext E7)
  obtain ⟨T11, h11, X11, e11, W11, st11⟩ := putF X7 hx hZ hown (host := "") (Or.inl (wk hw 33 rfl)) Via.refl e7 f10 f8 (Or.inl (wk hw 34 rfl)) (wk hw 9 rfl) (ty := (.array (.object "java/lang/Object"))) (by decide) rfl rfl (g := (mkF m 13 #[.val (.ref a1), .val (.int (1 : Int32))] [(.ref b6), (.ref a1)])) rfl rfl (hb hby d2_13)
  have N11 := Fr.snoc X11 N1 g_a1
  have Fw11 : Fld Z h11 a1 "java/util/ArrayList" "elementData" "[Ljava/lang/Object;" (.ref b6) := f10.same W11
  have go12 : Go p.tables e below T11 (mkF m 60 #[.val (.ref a1), .val (.int (1 : Int32))] []) s₁ (entryFrame m #[(.ref a1), (.int (1 : Int32))] 2) := by
    intro t k
    refine go9 t ?_
    show Steps _ _ _ (T7.setTop (mkF m 13 #[.val (.ref a1), .val (.int (1 : Int32))] [(.ref b6), (.ref a1)])) _
    refine st11 _ ?_
    show Steps _ _ _ (T11.setTop (mkF m 16 #[.val (.ref a1), .val (.int (1 : Int32))] [])) _
    refine XS.goto X11.here hx rfl (pc0 := 16) (pc' := 60) rfl (hb hby d2_16) (by decide) (by decide) ?_
    exact k
  have f13 : Keep h0 h11 [a1] := ((f5.ext E7).wr W11 (Or.inl (List.mem_of_getElem? (i := 0) rfl)))
  have f14 : Fld Z h11 a1 "java/util/AbstractList" "modCount" "I" (.int (0 : Int32)) := ((Fm1.ext E7).other W11 (Or.inr (slot_ne (Or.inl (wk hw 30 rfl)) (Or.inl (wk hw 34 rfl)) (by decide) (t := .int) (t' := (.array (.object "java/lang/Object"))) (by decide) (by decide))))
  have f15 : Fld Z h11 a1 "java/util/ArrayList" "size" "I" (.int (0 : Int32)) := ((Fs1.ext E7).other W11 (Or.inr (slot_ne (Or.inl (wk hw 56 rfl)) (Or.inl (wk hw 34 rfl)) (by decide) (t := .int) (t' := (.array (.object "java/lang/Object"))) (by decide) (by decide))))
  have f16 : Arv Z h11 b6 k7 (.object "java/lang/Object") (1 : Int32) [.null] .null := (V_b6.other W11 (Ne.symm (Nat.ne_of_lt (Nat.lt_of_lt_of_le E_a1.lt sz_b6))))
  obtain ⟨fs, hr, hrun, hended, hW, hsame⟩ := X11.leave (v := none) (fun _ => rfl)
  refine ⟨_, _, go12 _ ?_, hrun, hended, _, _, rfl, ?_, ⟨_, rfl⟩, hW, hsame.mono (by decide) (by decide)⟩
  · exact X11.returnOut hx Bd.returns (hb hby d2_60) hr
  · show Q2_1 Z a1 h0 n0 _ T11.heap _
    rw [e11]
    exact ⟨rfl, N11, f13, b6, k7, sz_b6, f14, Fw11, f15, f16, O7⟩
set_option maxRecDepth 65536 in
set_option maxHeartbeats 40000000 in
theorem rm2_2 (l : Launch) (Z : State) (a0 : Array Value) (hw : ∀ d ∈ tables_1, d.before a0 Z = true) (ws : List Jvm.Cond) (a1 : Addr) (h0 : Heap) (n0 : Nat) (Z0 : n0 ≤ h0.size) (E_a1 : Exa Z h0 a1 "java/util/ArrayList") (Fm : Fld Z h0 a1 "java/util/AbstractList" "modCount" "I" (.int (0 : Int32))) (Fe : Fld Z h0 a1 "java/util/ArrayList" "elementData" "[Ljava/lang/Object;" .null) (Fs : Fld Z h0 a1 "java/util/ArrayList" "size" "I" (.int (0 : Int32))) (g_a1 : n0 ≤ a1) :
    MetFree l (⟨"java/util/ArrayList", "<init>", "(I)V"⟩ : MethodName) (head1 (Jvm.Cond.code (⟨"java/util/ArrayList", "<init>", "(I)V"⟩ : MethodName) jdk_38_method_1_code 2 none :: ws) ({ frames := 3, cells := 1, slots := 2, locals := 36 } : Room)) (fun a U => a = #[(.ref a1), (.int (2 : Int32))] ∧ Z.Warmed39 U.vm ∧ U.heap = h0) (fun _ _ _ _ _ => True) (fun _ U o U' => ∃ v L, o = .returned v ∧ Q2_2 Z a1 h0 n0 v U'.heap L ∧ FrameEnd U o U' L ({ frames := 3, cells := 1, slots := 2, locals := 36 } : Room).cells ({ frames := 3, cells := 1, slots := 2, locals := 36 } : Room).slots) := by
  refine MetFree.of_bodySF (plainFor_of_name pn_2) hisR ?_
  intro p e s m args below meth c s₁ Bd hml0 hP hK
  obtain ⟨rfl, hZ, hh⟩ := hP
  have hx := Bd.exec
  have hby := Bd.bytes
  have hml : c.maxLocals = 2 := hml0
  have hown : s.vm.findClass "java/util/ArrayList" = some m.cls := findClass_of_methodNamed Bd.named
  have hnm := (name_of_methodNamed Bd.named Bd.method).1
  have X0 : Stand p l e ({ frames := 3, cells := 1, slots := 2, locals := 36 } : Room) s m #[(.ref a1), (.int (2 : Int32))] below meth c s₁ [] 0 0 := Stand.of_body Bd
  have e0 : s₁.heap = h0 := by rw [← hh, Bd.state]; rfl
  have N0 := Fr.nil n0
  have go0 : Go p.tables e below s₁ (mkF m 0 #[.val (.ref a1), .val (.int (2 : Int32))] []) s₁ (entryFrame m #[(.ref a1), (.int (2 : Int32))] 2) := fun t k => castTop (ef_2 m a1 (2 : Int32)) k
  have go2 : Go p.tables e below s₁ (mkF m 1 #[.val (.ref a1), .val (.int (2 : Int32))] [(.ref a1)]) s₁ (entryFrame m #[(.ref a1), (.int (2 : Int32))] 2) := by
    intro t k
    refine go0 t ?_
    show Steps _ _ _ (s₁.setTop (mkF m 0 #[.val (.ref a1), .val (.int (2 : Int32))] [])) _
    refine XS.aloadN X0.here hx rfl (hb hby d2_0) rfl rfl ?_
    exact k
  obtain ⟨_, _, ⟨T1, L1, k1, n1⟩, -, X1, ⟨Lc1, hQ1, l1, y1, z1⟩, st1⟩ := X0.specialBack hx (y := (⟨"java/util/AbstractList", "<init>", "()V"⟩ : MethodName)) rfl hown (mvT hZ (wk hw 14 rfl)) (mvT hZ (wk hw 15 rfl)) (mvT hZ (wk hw 19 rfl)) (by decide) (backOf (W := 0) (rm3 l Z a0 hw [] a1 .null (.int (0 : Int32)) (.int (0 : Int32)) h0 n0 Z0 E_a1 Fm Fe Fs g_a1) hZ (wk hw 19 rfl) (wk hw 18 rfl) (by decide) (by decide)) (g := (mkF m 1 #[.val (.ref a1), .val (.int (2 : Int32))] [(.ref a1)])) rfl (by rw [hml]; rfl) (Steps.refl _) (a := a1) (argsL := []) (rest := []) (lenOf pd_0 rfl) rfl (by show 2 * 0 + _ ≤ _; exact Nat.le_of_eq rfl) (hb hby d2_1) (fun _ _ => ⟨rfl, e0, (by decide : 0 + 0 ≤ _), (by decide : 0 + 0 ≤ _)⟩)
  dsimp only [Pt.U, Pt.locs, Pt.cells, Pt.slots] at X1 l1 y1 z1 st1 hQ1
  subst l1 y1 z1
  obtain ⟨rfl, N1q, K1, Fm1, Fe1, Fs1⟩ := hQ1
  have N1 := Fr.app N0 N1q
  have go4 : Go p.tables e below T1 (mkF m 10 #[.val (.ref a1), .val (.int (2 : Int32))] [(.int (2 : Int32)), (.ref a1)]) s₁ (entryFrame m #[(.ref a1), (.int (2 : Int32))] 2) := by
    intro t k
    refine go2 t ?_
    show Steps _ _ _ (s₁.setTop (mkF m 1 #[.val (.ref a1), .val (.int (2 : Int32))] [(.ref a1)])) _
    refine st1.trans ?_
    show Steps _ _ _ (T1.setTop (mkF m 4 #[.val (.ref a1), .val (.int (2 : Int32))] [])) _
    refine XS.iloadN X1.here hx rfl (hb hby d2_4) rfl ?_
    show Steps _ _ _ (T1.setTop (mkF m 5 #[.val (.ref a1), .val (.int (2 : Int32))] [(.int (2 : Int32))])) _
    refine XS.ifNo X1.here hx rfl (hb hby d2_5) rfl ((if0 _ _).trans (tlt (by decide)).2.2.2) ?_
    show Steps _ _ _ (T1.setTop (mkF m 8 #[.val (.ref a1), .val (.int (2 : Int32))] [])) _
    refine XS.aloadN X1.here hx rfl (hb hby d2_8) rfl rfl ?_
    show Steps _ _ _ (T1.setTop (mkF m 9 #[.val (.ref a1), .val (.int (2 : Int32))] [(.ref a1)])) _
    refine XS.iloadN X1.here hx rfl (hb hby d2_9) rfl ?_
    exact k
  have f3 : n0 ≤ T1.heap.size := (Nat.le_trans Z0 K1.1)
  have f5 : Keep h0 T1.heap [a1] := ((Keep.refl h0 [a1]).trans K1 (allS (Or.inl (List.mem_of_getElem? (i := 0) rfl)) all0))
  obtain ⟨T7, h7, k7, X7, e7, E7, A7, O7, st7⟩ := newR X1 hx hZ hown (wk hw 31 rfl) (wk hw 32 rfl) rfl (g := (mkF m 10 #[.val (.ref a1), .val (.int (2 : Int32))] [(.int (2 : Int32)), (.ref a1)])) rfl (hb hby d2_10) rfl (by decide) (cap := 2) (by decide) (by decide) (by decide) (by decide)
  obtain ⟨b6, g7⟩ : ∃ z, z = T1.heap.size := ⟨_, rfl⟩
  rw [← g7] at A7 st7
  have g_b6 : n0 ≤ b6 := Nat.le_trans f3 (Nat.le_of_eq g7.symm)
  have sz_b6 : h0.size ≤ b6 := Nat.le_trans f5.1 (Nat.le_of_eq g7.symm)
  have V_b6 : Arv Z h7 b6 k7 (.object "java/lang/Object") (2 : Int32) [.null, .null] .null := (Arv.new A7 (by decide)).pad (pad_rep [] .null 2)
  have go9 : Go p.tables e below T7 (mkF m 13 #[.val (.ref a1), .val (.int (2 : Int32))] [(.ref b6), (.ref a1)]) s₁ (entryFrame m #[(.ref a1), (.int (2 : Int32))] 2) := by
    intro t k
    refine go4 t ?_
    show Steps _ _ _ (T1.setTop (mkF m 10 #[.val (.ref a1), .val (.int (2 : Int32))] [(.int (2 : Int32)), (.ref a1)])) _
    refine st7 _ ?_
    exact k
  have f8 : Exa Z h7 a1 "java/util/ArrayList" := ((E_a1.keep K1).ext E7)
  have f10 : Fld Z h7 a1 "java/util/ArrayList" "elementData" "[Ljava/lang/Object;" .null := (Fe1.ext E7)
  obtain ⟨T11, h11, X11, e11, W11, st11⟩ := putF X7 hx hZ hown (host := "") (Or.inl (wk hw 33 rfl)) Via.refl e7 f10 f8 (Or.inl (wk hw 34 rfl)) (wk hw 9 rfl) (ty := (.array (.object "java/lang/Object"))) (by decide) rfl rfl (g := (mkF m 13 #[.val (.ref a1), .val (.int (2 : Int32))] [(.ref b6), (.ref a1)])) rfl rfl (hb hby d2_13)
  have N11 := Fr.snoc X11 N1 g_a1
  have Fw11 : Fld Z h11 a1 "java/util/ArrayList" "elementData" "[Ljava/lang/Object;" (.ref b6) := f10.same W11
  have go12 : Go p.tables e below T11 (mkF m 60 #[.val (.ref a1), .val (.int (2 : Int32))] []) s₁ (entryFrame m #[(.ref a1), (.int (2 : Int32))] 2) := by
    intro t k
    refine go9 t ?_
    show Steps _ _ _ (T7.setTop (mkF m 13 #[.val (.ref a1), .val (.int (2 : Int32))] [(.ref b6), (.ref a1)])) _
    refine st11 _ ?_
    show Steps _ _ _ (T11.setTop (mkF m 16 #[.val (.ref a1), .val (.int (2 : Int32))] [])) _
    refine XS.goto X11.here hx rfl (pc0 := 16) (pc' := 60) rfl (hb hby d2_16) (by decide) (by decide) ?_
    exact k
  have f13 : Keep h0 h11 [a1] := ((f5.ext E7).wr W11 (Or.inl (List.mem_of_getElem? (i := 0) rfl)))
  have f14 : Fld Z h11 a1 "java/util/AbstractList" "modCount" "I" (.int (0 : Int32)) := ((Fm1.ext E7).other W11 (Or.inr (slot_ne (Or.inl (wk hw 30 rfl)) (Or.inl (wk hw 34 rfl)) (by decide) (t := .int) (t' := (.array (.object "java/lang/Object"))) (by decide) (by decide))))
  have f15 : Fld Z h11 a1 "java/util/ArrayList" "size" "I" (.int (0 : Int32)) := ((Fs1.ext E7).other W11 (Or.inr (slot_ne (Or.inl (wk hw 56 rfl)) (Or.inl (wk hw 34 rfl)) (by decide) (t := .int) (t' := (.array (.object "java/lang/Object"))) (by decide) (by decide))))
  have f16 : Arv Z h11 b6 k7 (.object "java/lang/Object") (2 : Int32) [.null, .null] .null := (V_b6.other W11 (Ne.symm (Nat.ne_of_lt (Nat.lt_of_lt_of_le E_a1.lt sz_b6))))
  obtain ⟨fs, hr, hrun, hended, hW, hsame⟩ := X11.leave (v := none) (fun _ => rfl)
  refine ⟨_, _, go12 _ ?_, hrun, hended, _, _, rfl, ?_, ⟨_, rfl⟩, hW, hsame.mono (by decide) (by decide)⟩
  · exact X11.returnOut hx Bd.returns (hb hby d2_60) hr
  · show Q2_2 Z a1 h0 n0 _ T11.heap _
    rw [e11]
    exact ⟨rfl, N11, f13, b6, k7, sz_b6, f14, Fw11, f15, f16, O7⟩
set_option maxRecDepth 65536 in
set_option maxHeartbeats 40000000 in
theorem rm2_3 (l : Launch) (Z : State) (a0 : Array Value) (hw : ∀ d ∈ tables_1, d.before a0 Z = true) (ws : List Jvm.Cond) (a1 : Addr) (h0 : Heap) (n0 : Nat) (Z0 : n0 ≤ h0.size) (E_a1 : Exa Z h0 a1 "java/util/ArrayList") (Fm : Fld Z h0 a1 "java/util/AbstractList" "modCount" "I" (.int (0 : Int32))) (Fe : Fld Z h0 a1 "java/util/ArrayList" "elementData" "[Ljava/lang/Object;" .null) (Fs : Fld Z h0 a1 "java/util/ArrayList" "size" "I" (.int (0 : Int32))) (g_a1 : n0 ≤ a1) :
    MetFree l (⟨"java/util/ArrayList", "<init>", "(I)V"⟩ : MethodName) (head1 (Jvm.Cond.code (⟨"java/util/ArrayList", "<init>", "(I)V"⟩ : MethodName) jdk_38_method_1_code 2 none :: ws) ({ frames := 3, cells := 1, slots := 3, locals := 36 } : Room)) (fun a U => a = #[(.ref a1), (.int (3 : Int32))] ∧ Z.Warmed39 U.vm ∧ U.heap = h0) (fun _ _ _ _ _ => True) (fun _ U o U' => ∃ v L, o = .returned v ∧ Q2_3 Z a1 h0 n0 v U'.heap L ∧ FrameEnd U o U' L ({ frames := 3, cells := 1, slots := 3, locals := 36 } : Room).cells ({ frames := 3, cells := 1, slots := 3, locals := 36 } : Room).slots) := by
  refine MetFree.of_bodySF (plainFor_of_name pn_2) hisR ?_
  intro p e s m args below meth c s₁ Bd hml0 hP hK
  obtain ⟨rfl, hZ, hh⟩ := hP
  have hx := Bd.exec
  have hby := Bd.bytes
  have hml : c.maxLocals = 2 := hml0
  have hown : s.vm.findClass "java/util/ArrayList" = some m.cls := findClass_of_methodNamed Bd.named
  have hnm := (name_of_methodNamed Bd.named Bd.method).1
  have X0 : Stand p l e ({ frames := 3, cells := 1, slots := 3, locals := 36 } : Room) s m #[(.ref a1), (.int (3 : Int32))] below meth c s₁ [] 0 0 := Stand.of_body Bd
  have e0 : s₁.heap = h0 := by rw [← hh, Bd.state]; rfl
  have N0 := Fr.nil n0
  have go0 : Go p.tables e below s₁ (mkF m 0 #[.val (.ref a1), .val (.int (3 : Int32))] []) s₁ (entryFrame m #[(.ref a1), (.int (3 : Int32))] 2) := fun t k => castTop (ef_2 m a1 (3 : Int32)) k
  have go2 : Go p.tables e below s₁ (mkF m 1 #[.val (.ref a1), .val (.int (3 : Int32))] [(.ref a1)]) s₁ (entryFrame m #[(.ref a1), (.int (3 : Int32))] 2) := by
    intro t k
    refine go0 t ?_
    show Steps _ _ _ (s₁.setTop (mkF m 0 #[.val (.ref a1), .val (.int (3 : Int32))] [])) _
    refine XS.aloadN X0.here hx rfl (hb hby d2_0) rfl rfl ?_
    exact k
  obtain ⟨_, _, ⟨T1, L1, k1, n1⟩, -, X1, ⟨Lc1, hQ1, l1, y1, z1⟩, st1⟩ := X0.specialBack hx (y := (⟨"java/util/AbstractList", "<init>", "()V"⟩ : MethodName)) rfl hown (mvT hZ (wk hw 14 rfl)) (mvT hZ (wk hw 15 rfl)) (mvT hZ (wk hw 19 rfl)) (by decide) (backOf (W := 0) (rm3 l Z a0 hw [] a1 .null (.int (0 : Int32)) (.int (0 : Int32)) h0 n0 Z0 E_a1 Fm Fe Fs g_a1) hZ (wk hw 19 rfl) (wk hw 18 rfl) (by decide) (by decide)) (g := (mkF m 1 #[.val (.ref a1), .val (.int (3 : Int32))] [(.ref a1)])) rfl (by rw [hml]; rfl) (Steps.refl _) (a := a1) (argsL := []) (rest := []) (lenOf pd_0 rfl) rfl (by show 2 * 0 + _ ≤ _; exact Nat.le_of_eq rfl) (hb hby d2_1) (fun _ _ => ⟨rfl, e0, (by decide : 0 + 0 ≤ _), (by decide : 0 + 0 ≤ _)⟩)
  dsimp only [Pt.U, Pt.locs, Pt.cells, Pt.slots] at X1 l1 y1 z1 st1 hQ1
  subst l1 y1 z1
  obtain ⟨rfl, N1q, K1, Fm1, Fe1, Fs1⟩ := hQ1
  have N1 := Fr.app N0 N1q
  have go4 : Go p.tables e below T1 (mkF m 10 #[.val (.ref a1), .val (.int (3 : Int32))] [(.int (3 : Int32)), (.ref a1)]) s₁ (entryFrame m #[(.ref a1), (.int (3 : Int32))] 2) := by
    intro t k
    refine go2 t ?_
    show Steps _ _ _ (s₁.setTop (mkF m 1 #[.val (.ref a1), .val (.int (3 : Int32))] [(.ref a1)])) _
    refine st1.trans ?_
    show Steps _ _ _ (T1.setTop (mkF m 4 #[.val (.ref a1), .val (.int (3 : Int32))] [])) _
    refine XS.iloadN X1.here hx rfl (hb hby d2_4) rfl ?_
    show Steps _ _ _ (T1.setTop (mkF m 5 #[.val (.ref a1), .val (.int (3 : Int32))] [(.int (3 : Int32))])) _
    refine XS.ifNo X1.here hx rfl (hb hby d2_5) rfl ((if0 _ _).trans (tlt (by decide)).2.2.2) ?_
    show Steps _ _ _ (T1.setTop (mkF m 8 #[.val (.ref a1), .val (.int (3 : Int32))] [])) _
    refine XS.aloadN X1.here hx rfl (hb hby d2_8) rfl rfl ?_
    show Steps _ _ _ (T1.setTop (mkF m 9 #[.val (.ref a1), .val (.int (3 : Int32))] [(.ref a1)])) _
    refine XS.iloadN X1.here hx rfl (hb hby d2_9) rfl ?_
    exact k
  have f3 : n0 ≤ T1.heap.size := (Nat.le_trans Z0 K1.1)
  have f5 : Keep h0 T1.heap [a1] := ((Keep.refl h0 [a1]).trans K1 (allS (Or.inl (List.mem_of_getElem? (i := 0) rfl)) all0))
  obtain ⟨T7, h7, k7, X7, e7, E7, A7, O7, st7⟩ := newR X1 hx hZ hown (wk hw 31 rfl) (wk hw 32 rfl) rfl (g := (mkF m 10 #[.val (.ref a1), .val (.int (3 : Int32))] [(.int (3 : Int32)), (.ref a1)])) rfl (hb hby d2_10) rfl (by decide) (cap := 3) (by decide) (by decide) (by decide) (by decide)
  obtain ⟨b6, g7⟩ : ∃ z, z = T1.heap.size := ⟨_, rfl⟩
  rw [← g7] at A7 st7
  have g_b6 : n0 ≤ b6 := Nat.le_trans f3 (Nat.le_of_eq g7.symm)
  have sz_b6 : h0.size ≤ b6 := Nat.le_trans f5.1 (Nat.le_of_eq g7.symm)
  have V_b6 : Arv Z h7 b6 k7 (.object "java/lang/Object") (3 : Int32) [.null, .null, .null] .null := (Arv.new A7 (by decide)).pad (pad_rep [] .null 3)
  have go9 : Go p.tables e below T7 (mkF m 13 #[.val (.ref a1), .val (.int (3 : Int32))] [(.ref b6), (.ref a1)]) s₁ (entryFrame m #[(.ref a1), (.int (3 : Int32))] 2) := by
    intro t k
    refine go4 t ?_
    show Steps _ _ _ (T1.setTop (mkF m 10 #[.val (.ref a1), .val (.int (3 : Int32))] [(.int (3 : Int32)), (.ref a1)])) _
    refine st7 _ ?_
    exact k
  have f8 : Exa Z h7 a1 "java/util/ArrayList" := ((E_a1.keep K1).ext E7)
  have f10 : Fld Z h7 a1 "java/util/ArrayList" "elementData" "[Ljava/lang/Object;" .null := (Fe1.ext E7)
  obtain ⟨T11, h11, X11, e11, W11, st11⟩ := putF X7 hx hZ hown (host := "") (Or.inl (wk hw 33 rfl)) Via.refl e7 f10 f8 (Or.inl (wk hw 34 rfl)) (wk hw 9 rfl) (ty := (.array (.object "java/lang/Object"))) (by decide) rfl rfl (g := (mkF m 13 #[.val (.ref a1), .val (.int (3 : Int32))] [(.ref b6), (.ref a1)])) rfl rfl (hb hby d2_13)
  have N11 := Fr.snoc X11 N1 g_a1
  have Fw11 : Fld Z h11 a1 "java/util/ArrayList" "elementData" "[Ljava/lang/Object;" (.ref b6) := f10.same W11
  have go12 : Go p.tables e below T11 (mkF m 60 #[.val (.ref a1), .val (.int (3 : Int32))] []) s₁ (entryFrame m #[(.ref a1), (.int (3 : Int32))] 2) := by
    intro t k
    refine go9 t ?_
    show Steps _ _ _ (T7.setTop (mkF m 13 #[.val (.ref a1), .val (.int (3 : Int32))] [(.ref b6), (.ref a1)])) _
    refine st11 _ ?_
    show Steps _ _ _ (T11.setTop (mkF m 16 #[.val (.ref a1), .val (.int (3 : Int32))] [])) _
    refine XS.goto X11.here hx rfl (pc0 := 16) (pc' := 60) rfl (hb hby d2_16) (by decide) (by decide) ?_
    exact k
  have f13 : Keep h0 h11 [a1] := ((f5.ext E7).wr W11 (Or.inl (List.mem_of_getElem? (i := 0) rfl)))
  have f14 : Fld Z h11 a1 "java/util/AbstractList" "modCount" "I" (.int (0 : Int32)) := ((Fm1.ext E7).other W11 (Or.inr (slot_ne (Or.inl (wk hw 30 rfl)) (Or.inl (wk hw 34 rfl)) (by decide) (t := .int) (t' := (.array (.object "java/lang/Object"))) (by decide) (by decide))))
  have f15 : Fld Z h11 a1 "java/util/ArrayList" "size" "I" (.int (0 : Int32)) := ((Fs1.ext E7).other W11 (Or.inr (slot_ne (Or.inl (wk hw 56 rfl)) (Or.inl (wk hw 34 rfl)) (by decide) (t := .int) (t' := (.array (.object "java/lang/Object"))) (by decide) (by decide))))
  have f16 : Arv Z h11 b6 k7 (.object "java/lang/Object") (3 : Int32) [.null, .null, .null] .null := (V_b6.other W11 (Ne.symm (Nat.ne_of_lt (Nat.lt_of_lt_of_le E_a1.lt sz_b6))))
  obtain ⟨fs, hr, hrun, hended, hW, hsame⟩ := X11.leave (v := none) (fun _ => rfl)
  refine ⟨_, _, go12 _ ?_, hrun, hended, _, _, rfl, ?_, ⟨_, rfl⟩, hW, hsame.mono (by decide) (by decide)⟩
  · exact X11.returnOut hx Bd.returns (hb hby d2_60) hr
  · show Q2_3 Z a1 h0 n0 _ T11.heap _
    rw [e11]
    exact ⟨rfl, N11, f13, b6, k7, sz_b6, f14, Fw11, f15, f16, O7⟩
theorem pn_8 : plainName "java/util/ArrayList" = true := by first | (simp [plainName, overriddenIn]; done) | decide +kernel
theorem ef_8 (m : MethodId) (x0 : Addr) (x1 : Addr) (x2 : Addr) (x3 : Int32) : entryFrame m #[(.ref x0), (.ref x1), (.ref x2), (.int x3)] 4 = mkF m 0 #[.val (.ref x0), .val (.ref x1), .val (.ref x2), .val (.int x3)] [] := by first | (simp [entryFrame, mkF, argsToLocals, Value.category]; done) | rfl
theorem d8_0 : decode jdk_38_method_24_code 0 = .ok (.iload_n 3, 1) := by decide +kernel
theorem d8_1 : decode jdk_38_method_24_code 1 = .ok (.aload_n 2, 1) := by decide +kernel
theorem d8_2 : decode jdk_38_method_24_code 2 = .ok (.arraylength, 1) := by decide +kernel
theorem d8_3 : decode jdk_38_method_24_code 3 = .ok (.if_icmp .ne 8, 3) := by decide +kernel
theorem d8_11 : decode jdk_38_method_24_code 11 = .ok (.aload_n 2, 1) := by decide +kernel
theorem d8_12 : decode jdk_38_method_24_code 12 = .ok (.iload_n 3, 1) := by decide +kernel
theorem d8_13 : decode jdk_38_method_24_code 13 = .ok (.aload_n 1, 1) := by decide +kernel
theorem d8_14 : decode jdk_38_method_24_code 14 = .ok (.aastore, 1) := by decide +kernel
theorem d8_15 : decode jdk_38_method_24_code 15 = .ok (.aload_n 0, 1) := by decide +kernel
theorem d8_16 : decode jdk_38_method_24_code 16 = .ok (.iload_n 3, 1) := by decide +kernel
theorem d8_17 : decode jdk_38_method_24_code 17 = .ok (.iconst 1, 1) := by decide +kernel
theorem d8_18 : decode jdk_38_method_24_code 18 = .ok (.iadd, 1) := by decide +kernel
theorem d8_19 : decode jdk_38_method_24_code 19 = .ok (.putfield 48, 3) := by decide +kernel
theorem d8_22 : decode jdk_38_method_24_code 22 = .ok (.return_, 1) := by decide +kernel
set_option maxRecDepth 65536 in
set_option maxHeartbeats 40000000 in
theorem rm8 (l : Launch) (Z : State) (a0 : Array Value) (hw : ∀ d ∈ tables_1, d.before a0 Z = true) (ws : List Jvm.Cond) (a1 a2 ea : Addr) (kE : ClassId) (mc n kx : Int32) (i : Nat) (vs : List Value) (h0 : Heap) (n0 : Nat) (Z0 : n0 ≤ h0.size) (E_a1 : Exa Z h0 a1 "java/util/ArrayList") (Fm : Fld Z h0 a1 "java/util/AbstractList" "modCount" "I" (.int mc)) (Fe : Fld Z h0 a1 "java/util/ArrayList" "elementData" "[Ljava/lang/Object;" (.ref ea)) (Fs : Fld Z h0 a1 "java/util/ArrayList" "size" "I" (.int kx)) (g_a1 : n0 ≤ a1) (E_a2 : Exa Z h0 a2 "java/lang/Long") (V : Arv Z h0 ea kE (.object "java/lang/Object") n vs .null) (O : Ovr Z kE "java/lang/Object") (ne_ae : a1 ≠ ea) (g_ea : n0 ≤ ea) (hkn : ¬ (kx = n)) (hk0 : ¬ kx < 0) (hk1 : kx < n) (hi : kx.toNatClampNeg = i) (hl : i < vs.length) :
    MetFree l (⟨"java/util/ArrayList", "add", "(Ljava/lang/Object;[Ljava/lang/Object;I)V"⟩ : MethodName) (head1 (Jvm.Cond.code (⟨"java/util/ArrayList", "add", "(Ljava/lang/Object;[Ljava/lang/Object;I)V"⟩ : MethodName) jdk_38_method_24_code 4 none :: ws) ({ frames := 0, cells := 0, slots := 0, locals := 0 } : Room)) (fun a U => a = #[(.ref a1), (.ref a2), (.ref ea), (.int kx)] ∧ Z.Warmed39 U.vm ∧ U.heap = h0) (fun _ _ _ _ _ => True) (fun _ U o U' => ∃ v L, o = .returned v ∧ Q8 Z a1 a2 ea kE mc n kx i vs h0 n0 v U'.heap L ∧ FrameEnd U o U' L ({ frames := 0, cells := 0, slots := 0, locals := 0 } : Room).cells ({ frames := 0, cells := 0, slots := 0, locals := 0 } : Room).slots) := by
  refine MetFree.of_bodySF (plainFor_of_name pn_8) hisR ?_
  intro p e s m args below meth c s₁ Bd hml0 hP hK
  obtain ⟨rfl, hZ, hh⟩ := hP
  have hx := Bd.exec
  have hby := Bd.bytes
  have hml : c.maxLocals = 4 := hml0
  have hown : s.vm.findClass "java/util/ArrayList" = some m.cls := findClass_of_methodNamed Bd.named
  have hnm := (name_of_methodNamed Bd.named Bd.method).1
  have X0 : Stand p l e ({ frames := 0, cells := 0, slots := 0, locals := 0 } : Room) s m #[(.ref a1), (.ref a2), (.ref ea), (.int kx)] below meth c s₁ [] 0 0 := Stand.of_body Bd
  have e0 : s₁.heap = h0 := by rw [← hh, Bd.state]; rfl
  have N0 := Fr.nil n0
  have go0 : Go p.tables e below s₁ (mkF m 0 #[.val (.ref a1), .val (.ref a2), .val (.ref ea), .val (.int kx)] []) s₁ (entryFrame m #[(.ref a1), (.ref a2), (.ref ea), (.int kx)] 4) := fun t k => castTop (ef_8 m a1 a2 ea kx) k
  have go1 : Go p.tables e below s₁ (mkF m 2 #[.val (.ref a1), .val (.ref a2), .val (.ref ea), .val (.int kx)] [(.ref ea), (.int kx)]) s₁ (entryFrame m #[(.ref a1), (.ref a2), (.ref ea), (.int kx)] 4) := by
    intro t k
    refine go0 t ?_
    show Steps _ _ _ (s₁.setTop (mkF m 0 #[.val (.ref a1), .val (.ref a2), .val (.ref ea), .val (.int kx)] [])) _
    refine XS.iloadN X0.here hx rfl (hb hby d8_0) rfl ?_
    show Steps _ _ _ (s₁.setTop (mkF m 1 #[.val (.ref a1), .val (.ref a2), .val (.ref ea), .val (.int kx)] [(.int kx)])) _
    refine XS.aloadN X0.here hx rfl (hb hby d8_1) rfl rfl ?_
    exact k
  obtain ⟨clx, Arx, -, Sx, Nx, -, -⟩ := id V
  have go2 : Go p.tables e below s₁ (mkF m 14 #[.val (.ref a1), .val (.ref a2), .val (.ref ea), .val (.int kx)] [(.ref a2), (.int kx), (.ref ea)]) s₁ (entryFrame m #[(.ref a1), (.ref a2), (.ref ea), (.int kx)] 4) := by
    intro t k
    refine go1 t ?_
    show Steps _ _ _ (s₁.setTop (mkF m 2 #[.val (.ref a1), .val (.ref a2), .val (.ref ea), .val (.int kx)] [(.ref ea), (.int kx)])) _
    refine X0.arraylength hx (by rw [e0]; exact Arx.1) (State.isArrayOf_alike hZ.alike Arx.2.1) (g := (mkF m 2 #[.val (.ref a1), .val (.ref a2), .val (.ref ea), .val (.int kx)] [(.ref ea), (.int kx)])) rfl rfl (hb hby d8_2) _ ?_
    rw [len_of Sx Nx]
    show Steps _ _ _ (s₁.setTop (mkF m 3 #[.val (.ref a1), .val (.ref a2), .val (.ref ea), .val (.int kx)] [(.int n), (.int kx)])) _
    refine XS.icmpYes X0.here hx rfl (pc0 := 3) (pc' := 11) rfl (hb hby d8_3) rfl (feq hkn).2 (by decide) (by decide) ?_
    show Steps _ _ _ (s₁.setTop (mkF m 11 #[.val (.ref a1), .val (.ref a2), .val (.ref ea), .val (.int kx)] [])) _
    refine XS.aloadN X0.here hx rfl (hb hby d8_11) rfl rfl ?_
    show Steps _ _ _ (s₁.setTop (mkF m 12 #[.val (.ref a1), .val (.ref a2), .val (.ref ea), .val (.int kx)] [(.ref ea)])) _
    refine XS.iloadN X0.here hx rfl (hb hby d8_12) rfl ?_
    show Steps _ _ _ (s₁.setTop (mkF m 13 #[.val (.ref a1), .val (.ref a2), .val (.ref ea), .val (.int kx)] [(.int kx), (.ref ea)])) _
    refine XS.aloadN X0.here hx rfl (hb hby d8_13) rfl rfl ?_
    exact k
  obtain ⟨cl3, Ar3, qa3, Sa3, Na3, Ha3, Ga3⟩ := id V
  have hin3 : ¬ (kx < 0 ∨ cl3.slots.size ≤ (kx).toNatClampNeg) := inb_of Sa3 ⟨hk0, hk1⟩
  obtain ⟨T4, h4, X4, e4, W4, st4⟩ := stR X0 hx hZ e0 Ar3 (j := kx) hin3 rfl (Sto.ofV Ar3 qa3 O (Ins.of_exa E_a2 (wk hw 62 rfl))) (g := (mkF m 14 #[.val (.ref a1), .val (.ref a2), .val (.ref ea), .val (.int kx)] [(.ref a2), (.int kx), (.ref ea)])) rfl rfl (hb hby d8_14)
  have V4_ea : Arv Z h4 ea kE (.object "java/lang/Object") n (vs.set i (.ref a2)) .null := Arv.set Ar3 qa3 Sa3 Na3 Ha3 Ga3 rfl W4 i hi hl
  have N4 := Fr.snoc X4 N0 g_ea
  have go6 : Go p.tables e below T4 (mkF m 19 #[.val (.ref a1), .val (.ref a2), .val (.ref ea), .val (.int kx)] [(.int (kx + (1 : Int32))), (.ref a1)]) s₁ (entryFrame m #[(.ref a1), (.ref a2), (.ref ea), (.int kx)] 4) := by
    intro t k
    refine go2 t ?_
    show Steps _ _ _ (s₁.setTop (mkF m 14 #[.val (.ref a1), .val (.ref a2), .val (.ref ea), .val (.int kx)] [(.ref a2), (.int kx), (.ref ea)])) _
    refine st4 _ ?_
    show Steps _ _ _ (T4.setTop (mkF m 15 #[.val (.ref a1), .val (.ref a2), .val (.ref ea), .val (.int kx)] [])) _
    refine XS.aloadN X4.here hx rfl (hb hby d8_15) rfl rfl ?_
    show Steps _ _ _ (T4.setTop (mkF m 16 #[.val (.ref a1), .val (.ref a2), .val (.ref ea), .val (.int kx)] [(.ref a1)])) _
    refine XS.iloadN X4.here hx rfl (hb hby d8_16) rfl ?_
    show Steps _ _ _ (T4.setTop (mkF m 17 #[.val (.ref a1), .val (.ref a2), .val (.ref ea), .val (.int kx)] [(.int kx), (.ref a1)])) _
    refine XS.iconst X4.here hx rfl (hb hby d8_17) ?_
    show Steps _ _ _ (T4.setTop (mkF m 18 #[.val (.ref a1), .val (.ref a2), .val (.ref ea), .val (.int kx)] [(.int (1 : Int32)), (.int kx), (.ref a1)])) _
    refine XS.iadd X4.here hx rfl (hb hby d8_18) rfl ?_
    exact k
  have f5 : Exa Z h4 a1 "java/util/ArrayList" := (E_a1.wr W4)
  have f7 : Fld Z h4 a1 "java/util/ArrayList" "size" "I" (.int kx) := (Fs.other W4 (Or.inl ne_ae))
  obtain ⟨T8, h8, X8, e8, W8, st8⟩ := putF X4 hx hZ hown (host := "") (Or.inl (wk hw 55 rfl)) Via.refl e4 f7 f5 (Or.inl (wk hw 56 rfl)) (wk hw 9 rfl) (ty := .int) (by decide) rfl rfl (g := (mkF m 19 #[.val (.ref a1), .val (.ref a2), .val (.ref ea), .val (.int kx)] [(.int (kx + (1 : Int32))), (.ref a1)])) rfl rfl (hb hby d8_19)
  have N8 := Fr.snoc X8 N4 g_a1
  have Fw8 : Fld Z h8 a1 "java/util/ArrayList" "size" "I" (.int (kx + (1 : Int32))) := f7.same W8
  have go9 : Go p.tables e below T8 (mkF m 22 #[.val (.ref a1), .val (.ref a2), .val (.ref ea), .val (.int kx)] []) s₁ (entryFrame m #[(.ref a1), (.ref a2), (.ref ea), (.int kx)] 4) := by
    intro t k
    refine go6 t ?_
    show Steps _ _ _ (T4.setTop (mkF m 19 #[.val (.ref a1), .val (.ref a2), .val (.ref ea), .val (.int kx)] [(.int (kx + (1 : Int32))), (.ref a1)])) _
    refine st8 _ ?_
    exact k
  have f10 : Keep h0 h8 [a1, ea] := (((Keep.refl h0 [a1, ea]).wr W4 (Or.inl (List.mem_of_getElem? (i := 1) rfl))).wr W8 (Or.inl (List.mem_of_getElem? (i := 0) rfl)))
  have f11 : Fld Z h8 a1 "java/util/AbstractList" "modCount" "I" (.int mc) := ((Fm.other W4 (Or.inl ne_ae)).other W8 (Or.inr (slot_ne (Or.inl (wk hw 30 rfl)) (Or.inl (wk hw 56 rfl)) (by decide) (t := .int) (t' := .int) (by decide) (by decide))))
  have f12 : Fld Z h8 a1 "java/util/ArrayList" "elementData" "[Ljava/lang/Object;" (.ref ea) := ((Fe.other W4 (Or.inl ne_ae)).other W8 (Or.inr (slot_ne (Or.inl (wk hw 34 rfl)) (Or.inl (wk hw 56 rfl)) (by decide) (t := (.array (.object "java/lang/Object"))) (t' := .int) (by decide) (by decide))))
  have f13 : Arv Z h8 ea kE (.object "java/lang/Object") n (vs.set i (.ref a2)) .null := (V4_ea.other W8 (Ne.symm ne_ae))
  obtain ⟨fs, hr, hrun, hended, hW, hsame⟩ := X8.leave (v := none) (fun _ => rfl)
  refine ⟨_, _, go9 _ ?_, hrun, hended, _, _, rfl, ?_, ⟨_, rfl⟩, hW, hsame.mono (by decide) (by decide)⟩
  · exact X8.returnOut hx Bd.returns (hb hby d8_22) hr
  · show Q8 Z a1 a2 ea kE mc n kx i vs h0 n0 _ T8.heap _
    rw [e8]
    exact ⟨rfl, N8, f10, f11, f12, Fw8, f13⟩
theorem pn_7 : plainName "java/util/ArrayList" = true := by first | (simp [plainName, overriddenIn]; done) | decide +kernel
theorem ef_7 (m : MethodId) (x0 : Addr) (x1 : Addr) : entryFrame m #[(.ref x0), (.ref x1)] 2 = mkF m 0 #[.val (.ref x0), .val (.ref x1)] [] := by first | (simp [entryFrame, mkF, argsToLocals, Value.category]; done) | rfl
theorem d7_0 : decode jdk_38_method_25_code 0 = .ok (.aload_n 0, 1) := by decide +kernel
theorem d7_1 : decode jdk_38_method_25_code 1 = .ok (.dup, 1) := by decide +kernel
theorem d7_2 : decode jdk_38_method_25_code 2 = .ok (.getfield 63, 3) := by decide +kernel
theorem d7_5 : decode jdk_38_method_25_code 5 = .ok (.iconst 1, 1) := by decide +kernel
theorem d7_6 : decode jdk_38_method_25_code 6 = .ok (.iadd, 1) := by decide +kernel
theorem d7_7 : decode jdk_38_method_25_code 7 = .ok (.putfield 63, 3) := by decide +kernel
theorem d7_10 : decode jdk_38_method_25_code 10 = .ok (.aload_n 0, 1) := by decide +kernel
theorem d7_11 : decode jdk_38_method_25_code 11 = .ok (.aload_n 1, 1) := by decide +kernel
theorem d7_12 : decode jdk_38_method_25_code 12 = .ok (.aload_n 0, 1) := by decide +kernel
theorem d7_13 : decode jdk_38_method_25_code 13 = .ok (.getfield 9, 3) := by decide +kernel
theorem d7_16 : decode jdk_38_method_25_code 16 = .ok (.aload_n 0, 1) := by decide +kernel
theorem d7_17 : decode jdk_38_method_25_code 17 = .ok (.getfield 48, 3) := by decide +kernel
theorem d7_20 : decode jdk_38_method_25_code 20 = .ok (.invokevirtual 131, 3) := by decide +kernel
theorem pd_2 : parseMethodDescriptor "(Ljava/lang/Object;[Ljava/lang/Object;I)V" = some ⟨[(.object "java/lang/Object"), (.array (.object "java/lang/Object")), .int], none⟩ := by decide +kernel
theorem d7_23 : decode jdk_38_method_25_code 23 = .ok (.iconst 1, 1) := by decide +kernel
theorem d7_24 : decode jdk_38_method_25_code 24 = .ok (.ireturn, 1) := by decide +kernel
set_option maxRecDepth 65536 in
set_option maxHeartbeats 40000000 in
theorem rm7 (l : Launch) (Z : State) (a0 : Array Value) (hw : ∀ d ∈ tables_1, d.before a0 Z = true) (ws : List Jvm.Cond) (a1 a2 ea : Addr) (kE : ClassId) (mc n kx : Int32) (i : Nat) (vs : List Value) (h0 : Heap) (n0 : Nat) (Z0 : n0 ≤ h0.size) (E_a1 : Exa Z h0 a1 "java/util/ArrayList") (Fm : Fld Z h0 a1 "java/util/AbstractList" "modCount" "I" (.int mc)) (Fe : Fld Z h0 a1 "java/util/ArrayList" "elementData" "[Ljava/lang/Object;" (.ref ea)) (Fs : Fld Z h0 a1 "java/util/ArrayList" "size" "I" (.int kx)) (g_a1 : n0 ≤ a1) (E_a2 : Exa Z h0 a2 "java/lang/Long") (V : Arv Z h0 ea kE (.object "java/lang/Object") n vs .null) (O : Ovr Z kE "java/lang/Object") (ne_ae : a1 ≠ ea) (g_ea : n0 ≤ ea) (hkn : ¬ (kx = n)) (hk0 : ¬ kx < 0) (hk1 : kx < n) (hi : kx.toNatClampNeg = i) (hl : i < vs.length) :
    MetFree l (⟨"java/util/ArrayList", "add", "(Ljava/lang/Object;)Z"⟩ : MethodName) (head1 (Jvm.Cond.code (⟨"java/util/ArrayList", "add", "(Ljava/lang/Object;)Z"⟩ : MethodName) jdk_38_method_25_code 2 (some .boolean) :: ws) ({ frames := 1, cells := 0, slots := 0, locals := 15 } : Room)) (fun a U => a = #[(.ref a1), (.ref a2)] ∧ Z.Warmed39 U.vm ∧ U.heap = h0) (fun _ _ _ _ _ => True) (fun _ U o U' => ∃ v L, o = .returned v ∧ Q7 Z a1 a2 ea kE mc n kx i vs h0 n0 v U'.heap L ∧ FrameEnd U o U' L ({ frames := 1, cells := 0, slots := 0, locals := 15 } : Room).cells ({ frames := 1, cells := 0, slots := 0, locals := 15 } : Room).slots) := by
  refine MetFree.of_bodySF (plainFor_of_name pn_7) hisR ?_
  intro p e s m args below meth c s₁ Bd hml0 hP hK
  obtain ⟨rfl, hZ, hh⟩ := hP
  have hx := Bd.exec
  have hby := Bd.bytes
  have hml : c.maxLocals = 2 := hml0
  have hown : s.vm.findClass "java/util/ArrayList" = some m.cls := findClass_of_methodNamed Bd.named
  have hnm := (name_of_methodNamed Bd.named Bd.method).1
  have X0 : Stand p l e ({ frames := 1, cells := 0, slots := 0, locals := 15 } : Room) s m #[(.ref a1), (.ref a2)] below meth c s₁ [] 0 0 := Stand.of_body Bd
  have e0 : s₁.heap = h0 := by rw [← hh, Bd.state]; rfl
  have N0 := Fr.nil n0
  have go0 : Go p.tables e below s₁ (mkF m 0 #[.val (.ref a1), .val (.ref a2)] []) s₁ (entryFrame m #[(.ref a1), (.ref a2)] 2) := fun t k => castTop (ef_7 m a1 a2) k
  have go1 : Go p.tables e below s₁ (mkF m 2 #[.val (.ref a1), .val (.ref a2)] [(.ref a1), (.ref a1)]) s₁ (entryFrame m #[(.ref a1), (.ref a2)] 2) := by
    intro t k
    refine go0 t ?_
    show Steps _ _ _ (s₁.setTop (mkF m 0 #[.val (.ref a1), .val (.ref a2)] [])) _
    refine XS.aloadN X0.here hx rfl (hb hby d7_0) rfl rfl ?_
    show Steps _ _ _ (s₁.setTop (mkF m 1 #[.val (.ref a1), .val (.ref a2)] [(.ref a1)])) _
    refine XS.dup X0.here hx rfl (hb hby d7_1) rfl rfl ?_
    exact k
  obtain ⟨T2, X2, e2, st2⟩ := getF X0 hx hZ hown (host := "") (Or.inl (wk hw 53 rfl)) (Via.of (wk hw 54 rfl)) e0 Fm (g := (mkF m 2 #[.val (.ref a1), .val (.ref a2)] [(.ref a1), (.ref a1)])) rfl rfl (hb hby d7_2)
  have go3 : Go p.tables e below T2 (mkF m 7 #[.val (.ref a1), .val (.ref a2)] [(.int (mc + (1 : Int32))), (.ref a1)]) s₁ (entryFrame m #[(.ref a1), (.ref a2)] 2) := by
    intro t k
    refine go1 t ?_
    show Steps _ _ _ (s₁.setTop (mkF m 2 #[.val (.ref a1), .val (.ref a2)] [(.ref a1), (.ref a1)])) _
    refine st2 _ ?_
    show Steps _ _ _ (T2.setTop (mkF m 5 #[.val (.ref a1), .val (.ref a2)] [(.int mc), (.ref a1)])) _
    refine XS.iconst X2.here hx rfl (hb hby d7_5) ?_
    show Steps _ _ _ (T2.setTop (mkF m 6 #[.val (.ref a1), .val (.ref a2)] [(.int (1 : Int32)), (.int mc), (.ref a1)])) _
    refine XS.iadd X2.here hx rfl (hb hby d7_6) rfl ?_
    exact k
  obtain ⟨T4, h4, X4, e4, W4, st4⟩ := putF X2 hx hZ hown (host := "") (Or.inl (wk hw 53 rfl)) (Via.of (wk hw 54 rfl)) e2 Fm E_a1 (Or.inl (wk hw 30 rfl)) (wk hw 9 rfl) (ty := .int) (by decide) rfl rfl (g := (mkF m 7 #[.val (.ref a1), .val (.ref a2)] [(.int (mc + (1 : Int32))), (.ref a1)])) rfl rfl (hb hby d7_7)
  have N4 := Fr.snoc X4 N0 g_a1
  have Fw4 : Fld Z h4 a1 "java/util/AbstractList" "modCount" "I" (.int (mc + (1 : Int32))) := Fm.same W4
  have go6 : Go p.tables e below T4 (mkF m 13 #[.val (.ref a1), .val (.ref a2)] [(.ref a1), (.ref a2), (.ref a1)]) s₁ (entryFrame m #[(.ref a1), (.ref a2)] 2) := by
    intro t k
    refine go3 t ?_
    show Steps _ _ _ (T2.setTop (mkF m 7 #[.val (.ref a1), .val (.ref a2)] [(.int (mc + (1 : Int32))), (.ref a1)])) _
    refine st4 _ ?_
    show Steps _ _ _ (T4.setTop (mkF m 10 #[.val (.ref a1), .val (.ref a2)] [])) _
    refine XS.aloadN X4.here hx rfl (hb hby d7_10) rfl rfl ?_
    show Steps _ _ _ (T4.setTop (mkF m 11 #[.val (.ref a1), .val (.ref a2)] [(.ref a1)])) _
    refine XS.aloadN X4.here hx rfl (hb hby d7_11) rfl rfl ?_
    show Steps _ _ _ (T4.setTop (mkF m 12 #[.val (.ref a1), .val (.ref a2)] [(.ref a2), (.ref a1)])) _
    refine XS.aloadN X4.here hx rfl (hb hby d7_12) rfl rfl ?_
    exact k
  have f5 : Fld Z h4 a1 "java/util/ArrayList" "elementData" "[Ljava/lang/Object;" (.ref ea) := (Fe.other W4 (Or.inr (slot_ne (Or.inl (wk hw 34 rfl)) (Or.inl (wk hw 30 rfl)) (by decide) (t := (.array (.object "java/lang/Object"))) (t' := .int) (by decide) (by decide))))
  obtain ⟨T7, X7, e7, st7⟩ := getF X4 hx hZ hown (host := "") (Or.inl (wk hw 33 rfl)) Via.refl e4 f5 (g := (mkF m 13 #[.val (.ref a1), .val (.ref a2)] [(.ref a1), (.ref a2), (.ref a1)])) rfl rfl (hb hby d7_13)
  have go9 : Go p.tables e below T7 (mkF m 17 #[.val (.ref a1), .val (.ref a2)] [(.ref a1), (.ref ea), (.ref a2), (.ref a1)]) s₁ (entryFrame m #[(.ref a1), (.ref a2)] 2) := by
    intro t k
    refine go6 t ?_
    show Steps _ _ _ (T4.setTop (mkF m 13 #[.val (.ref a1), .val (.ref a2)] [(.ref a1), (.ref a2), (.ref a1)])) _
    refine st7 _ ?_
    show Steps _ _ _ (T7.setTop (mkF m 16 #[.val (.ref a1), .val (.ref a2)] [(.ref ea), (.ref a2), (.ref a1)])) _
    refine XS.aloadN X7.here hx rfl (hb hby d7_16) rfl rfl ?_
    exact k
  have f8 : Fld Z h4 a1 "java/util/ArrayList" "size" "I" (.int kx) := (Fs.other W4 (Or.inr (slot_ne (Or.inl (wk hw 56 rfl)) (Or.inl (wk hw 30 rfl)) (by decide) (t := .int) (t' := .int) (by decide) (by decide))))
  obtain ⟨T10, X10, e10, st10⟩ := getF X7 hx hZ hown (host := "") (Or.inl (wk hw 55 rfl)) Via.refl e7 f8 (g := (mkF m 17 #[.val (.ref a1), .val (.ref a2)] [(.ref a1), (.ref ea), (.ref a2), (.ref a1)])) rfl rfl (hb hby d7_17)
  have go13 : Go p.tables e below T10 (mkF m 20 #[.val (.ref a1), .val (.ref a2)] [(.int kx), (.ref ea), (.ref a2), (.ref a1)]) s₁ (entryFrame m #[(.ref a1), (.ref a2)] 2) := by
    intro t k
    refine go9 t ?_
    show Steps _ _ _ (T7.setTop (mkF m 17 #[.val (.ref a1), .val (.ref a2)] [(.ref a1), (.ref ea), (.ref a2), (.ref a1)])) _
    refine st10 _ ?_
    exact k
  have f12 : n0 ≤ h4.size := (Nat.le_trans Z0 (Keep.of_wr W4).1)
  have f14 : Exa Z h4 a1 "java/util/ArrayList" := (E_a1.wr W4)
  have f15 : Exa Z h4 a2 "java/lang/Long" := (E_a2.wr W4)
  have f16 : Arv Z h4 ea kE (.object "java/lang/Object") n vs .null := (V.other W4 (Ne.symm ne_ae))
  obtain ⟨cq11, q11, qq11⟩ := f14.cell
  obtain ⟨_, _, ⟨T11, L11, k11, n11⟩, -, X11, ⟨Lc11, hQ11, l11, y11, z11⟩, st11⟩ := X10.privateBack hx (y := (⟨"java/util/ArrayList", "add", "(Ljava/lang/Object;[Ljava/lang/Object;I)V"⟩ : MethodName)) hown (mvT hZ (wk hw 57 rfl)) (mvT hZ (wk hw 58 rfl)) (mvT hZ (wk hw 60 rfl)) (Cond.privateMethod_at (mvP hZ (wk hw 59 rfl) (args := #[]))) (mvT hZ (wk hw 61 rfl)) (by decide) (backOf (W := 0) (rm8 l Z a0 hw [] a1 a2 ea kE (mc + (1 : Int32)) n kx i vs h4 n0 f12 f14 Fw4 f5 f8 g_a1 f15 f16 O ne_ae g_ea hkn hk0 hk1 hi hl) hZ (wk hw 61 rfl) (wk hw 10 rfl) (by decide) (by decide)) (g := (mkF m 20 #[.val (.ref a1), .val (.ref a2)] [(.int kx), (.ref ea), (.ref a2), (.ref a1)])) rfl (by rw [hml]; rfl) (Steps.refl _) (a := a1) (by rw [e10]; exact q11) qq11 (argsL := [(.ref a2), (.ref ea), (.int kx)]) (rest := []) (lenOf pd_2 rfl) rfl (by show 2 * 0 + _ ≤ _; exact Nat.le_of_eq rfl) (hb hby d7_20) (fun _ _ => ⟨rfl, e10, (by decide : 0 + 0 ≤ _), (by decide : 0 + 0 ≤ _)⟩)
  dsimp only [Pt.U, Pt.locs, Pt.cells, Pt.slots] at X11 l11 y11 z11 st11 hQ11
  subst l11 y11 z11
  obtain ⟨rfl, N11q, K11, Fm11, Fe11, Fs11, Vx11⟩ := hQ11
  have N11 := Fr.app N4 N11q
  have go17 : Go p.tables e below T11 (mkF m 24 #[.val (.ref a1), .val (.ref a2)] [(.int (1 : Int32))]) s₁ (entryFrame m #[(.ref a1), (.ref a2)] 2) := by
    intro t k
    refine go13 t ?_
    show Steps _ _ _ (T10.setTop (mkF m 20 #[.val (.ref a1), .val (.ref a2)] [(.int kx), (.ref ea), (.ref a2), (.ref a1)])) _
    refine st11.trans ?_
    show Steps _ _ _ (T11.setTop (mkF m 23 #[.val (.ref a1), .val (.ref a2)] [])) _
    refine XS.iconst X11.here hx rfl (hb hby d7_23) ?_
    exact k
  have f18 : Keep h0 T11.heap [a1, ea] := (((Keep.refl h0 [a1, ea]).wr W4 (Or.inl (List.mem_of_getElem? (i := 0) rfl))).trans K11 (allS (Or.inl (List.mem_of_getElem? (i := 0) rfl)) (allS (Or.inl (List.mem_of_getElem? (i := 1) rfl)) all0)))
  obtain ⟨fs, hr, hrun, hended, hW, hsame⟩ := X11.leave (v := some (.int (1 : Int32))) (fun h => by rw [Bd.returns] at h; cases h)
  refine ⟨_, _, go17 _ ?_, hrun, hended, _, _, rfl, ?_, ⟨_, rfl⟩, hW, hsame.mono (by decide) (by decide)⟩
  · exact retN X11 hx (t := .boolean) Bd.returns (by simp) (hb hby d7_24) hr
  · show Q7 Z a1 a2 ea kE mc n kx i vs h0 n0 _ T11.heap _
    exact ⟨rfl, N11, f18, Fm11, Fe11, Fs11, Vx11⟩
theorem pn_12 : plainName "java/util/Collections$UnmodifiableCollection" = true := by first | (simp [plainName, overriddenIn]; done) | decide +kernel
theorem ef_12 (m : MethodId) (x0 : Addr) (x1 : Addr) : entryFrame m #[(.ref x0), (.ref x1)] 2 = mkF m 0 #[.val (.ref x0), .val (.ref x1)] [] := by first | (simp [entryFrame, mkF, argsToLocals, Value.category]; done) | rfl
theorem d12_0 : decode jdk_119_method_1_code 0 = .ok (.aload_n 0, 1) := by decide +kernel
theorem d12_1 : decode jdk_119_method_1_code 1 = .ok (.invokespecial 1, 3) := by decide +kernel
theorem d12_4 : decode jdk_119_method_1_code 4 = .ok (.aload_n 1, 1) := by decide +kernel
theorem d12_5 : decode jdk_119_method_1_code 5 = .ok (.ifnonnull 11, 3) := by decide +kernel
theorem d12_16 : decode jdk_119_method_1_code 16 = .ok (.aload_n 0, 1) := by decide +kernel
theorem d12_17 : decode jdk_119_method_1_code 17 = .ok (.aload_n 1, 1) := by decide +kernel
theorem d12_18 : decode jdk_119_method_1_code 18 = .ok (.putfield 10, 3) := by decide +kernel
theorem d12_21 : decode jdk_119_method_1_code 21 = .ok (.return_, 1) := by decide +kernel
set_option maxRecDepth 65536 in
set_option maxHeartbeats 40000000 in
theorem rm12 (l : Launch) (Z : State) (a0 : Array Value) (hw : ∀ d ∈ tables_1, d.before a0 Z = true) (ws : List Jvm.Cond) (a1 a2 : Addr) (u1 u2 : Value) (h0 : Heap) (n0 : Nat) (Z0 : n0 ≤ h0.size) (E_a1 : Exa Z h0 a1 "java/util/Collections$UnmodifiableRandomAccessList") (Fc : Fld Z h0 a1 "java/util/Collections$UnmodifiableCollection" "c" "Ljava/util/Collection;" u1) (Fl : Fld Z h0 a1 "java/util/Collections$UnmodifiableList" "list" "Ljava/util/List;" u2) (g_a1 : n0 ≤ a1) :
    MetFree l (⟨"java/util/Collections$UnmodifiableCollection", "<init>", "(Ljava/util/Collection;)V"⟩ : MethodName) (head1 (Jvm.Cond.code (⟨"java/util/Collections$UnmodifiableCollection", "<init>", "(Ljava/util/Collection;)V"⟩ : MethodName) jdk_119_method_1_code 2 none :: ws) ({ frames := 1, cells := 0, slots := 0, locals := 12 } : Room)) (fun a U => a = #[(.ref a1), (.ref a2)] ∧ Z.Warmed39 U.vm ∧ U.heap = h0) (fun _ _ _ _ _ => True) (fun _ U o U' => ∃ v L, o = .returned v ∧ Q12 Z a1 (.ref a2) u2 h0 n0 v U'.heap L ∧ FrameEnd U o U' L ({ frames := 1, cells := 0, slots := 0, locals := 12 } : Room).cells ({ frames := 1, cells := 0, slots := 0, locals := 12 } : Room).slots) := by
  refine MetFree.of_bodySF (plainFor_of_name pn_12) hisR ?_
  intro p e s m args below meth c s₁ Bd hml0 hP hK
  obtain ⟨rfl, hZ, hh⟩ := hP
  have hx := Bd.exec
  have hby := Bd.bytes
  have hml : c.maxLocals = 2 := hml0
  have hown : s.vm.findClass "java/util/Collections$UnmodifiableCollection" = some m.cls := findClass_of_methodNamed Bd.named
  have hnm := (name_of_methodNamed Bd.named Bd.method).1
  have X0 : Stand p l e ({ frames := 1, cells := 0, slots := 0, locals := 12 } : Room) s m #[(.ref a1), (.ref a2)] below meth c s₁ [] 0 0 := Stand.of_body Bd
  have e0 : s₁.heap = h0 := by rw [← hh, Bd.state]; rfl
  have N0 := Fr.nil n0
  have go0 : Go p.tables e below s₁ (mkF m 0 #[.val (.ref a1), .val (.ref a2)] []) s₁ (entryFrame m #[(.ref a1), (.ref a2)] 2) := fun t k => castTop (ef_12 m a1 a2) k
  have go1 : Go p.tables e below s₁ (mkF m 1 #[.val (.ref a1), .val (.ref a2)] [(.ref a1)]) s₁ (entryFrame m #[(.ref a1), (.ref a2)] 2) := by
    intro t k
    refine go0 t ?_
    show Steps _ _ _ (s₁.setTop (mkF m 0 #[.val (.ref a1), .val (.ref a2)] [])) _
    refine XS.aloadN X0.here hx rfl (hb hby d12_0) rfl rfl ?_
    exact k
  obtain ⟨T2, X2, e2, st2⟩ := initO X0 hx hZ hown (wk hw 102 rfl) (wk hw 27 rfl) (wk hw 28 rfl) e0 (g := (mkF m 1 #[.val (.ref a1), .val (.ref a2)] [(.ref a1)])) rfl (by rw [hml]; rfl) rfl (hb hby d12_1) (by decide) (W := 0) (by show 2 * 0 + _ ≤ _; exact Nat.le_of_eq rfl) (by decide)
  have go3 : Go p.tables e below T2 (mkF m 18 #[.val (.ref a1), .val (.ref a2)] [(.ref a2), (.ref a1)]) s₁ (entryFrame m #[(.ref a1), (.ref a2)] 2) := by
    intro t k
    refine go1 t ?_
    show Steps _ _ _ (s₁.setTop (mkF m 1 #[.val (.ref a1), .val (.ref a2)] [(.ref a1)])) _
    refine st2 _ ?_
    show Steps _ _ _ (T2.setTop (mkF m 4 #[.val (.ref a1), .val (.ref a2)] [])) _
    refine XS.aloadN X2.here hx rfl (hb hby d12_4) rfl rfl ?_
    show Steps _ _ _ (T2.setTop (mkF m 5 #[.val (.ref a1), .val (.ref a2)] [(.ref a2)])) _
    refine XS.ifnonnullYes X2.here hx rfl (pc0 := 5) (pc' := 16) rfl (hb hby d12_5) rfl (by decide) (by decide) ?_
    show Steps _ _ _ (T2.setTop (mkF m 16 #[.val (.ref a1), .val (.ref a2)] [])) _
    refine XS.aloadN X2.here hx rfl (hb hby d12_16) rfl rfl ?_
    show Steps _ _ _ (T2.setTop (mkF m 17 #[.val (.ref a1), .val (.ref a2)] [(.ref a1)])) _
    refine XS.aloadN X2.here hx rfl (hb hby d12_17) rfl rfl ?_
    exact k
  obtain ⟨T4, h4, X4, e4, W4, st4⟩ := putF X2 hx hZ hown (host := "") (Or.inl (wk hw 103 rfl)) Via.refl e2 Fc E_a1 (Or.inr ⟨(wk hw 104 rfl), rfl, hnm⟩) (wk hw 85 rfl) (ty := (.object "java/util/Collection")) (by decide) rfl rfl (g := (mkF m 18 #[.val (.ref a1), .val (.ref a2)] [(.ref a2), (.ref a1)])) rfl rfl (hb hby d12_18)
  have N4 := Fr.snoc X4 N0 g_a1
  have Fw4 : Fld Z h4 a1 "java/util/Collections$UnmodifiableCollection" "c" "Ljava/util/Collection;" (.ref a2) := Fc.same W4
  have go5 : Go p.tables e below T4 (mkF m 21 #[.val (.ref a1), .val (.ref a2)] []) s₁ (entryFrame m #[(.ref a1), (.ref a2)] 2) := by
    intro t k
    refine go3 t ?_
    show Steps _ _ _ (T2.setTop (mkF m 18 #[.val (.ref a1), .val (.ref a2)] [(.ref a2), (.ref a1)])) _
    refine st4 _ ?_
    exact k
  have f6 : Keep h0 h4 [a1] := ((Keep.refl h0 [a1]).wr W4 (Or.inl (List.mem_of_getElem? (i := 0) rfl)))
  have f7 : Fld Z h4 a1 "java/util/Collections$UnmodifiableList" "list" "Ljava/util/List;" u2 := (Fl.other W4 (Or.inr (slot_ne (Or.inr (wk hw 106 rfl)) (Or.inr (wk hw 104 rfl)) (by decide) (t := (.object "java/util/List")) (t' := (.object "java/util/Collection")) (by decide) (by decide))))
  obtain ⟨fs, hr, hrun, hended, hW, hsame⟩ := X4.leave (v := none) (fun _ => rfl)
  refine ⟨_, _, go5 _ ?_, hrun, hended, _, _, rfl, ?_, ⟨_, rfl⟩, hW, hsame.mono (by decide) (by decide)⟩
  · exact X4.returnOut hx Bd.returns (hb hby d12_21) hr
  · show Q12 Z a1 (.ref a2) u2 h0 n0 _ T4.heap _
    rw [e4]
    exact ⟨rfl, N4, f6, Fw4, f7⟩
theorem pn_11 : plainName "java/util/Collections$UnmodifiableList" = true := by first | (simp [plainName, overriddenIn]; done) | decide +kernel
theorem ef_11 (m : MethodId) (x0 : Addr) (x1 : Addr) : entryFrame m #[(.ref x0), (.ref x1)] 2 = mkF m 0 #[.val (.ref x0), .val (.ref x1)] [] := by first | (simp [entryFrame, mkF, argsToLocals, Value.category]; done) | rfl
theorem d11_0 : decode jdk_120_method_1_code 0 = .ok (.aload_n 0, 1) := by decide +kernel
theorem d11_1 : decode jdk_120_method_1_code 1 = .ok (.aload_n 1, 1) := by decide +kernel
theorem d11_2 : decode jdk_120_method_1_code 2 = .ok (.invokespecial 1, 3) := by decide +kernel
theorem pd_3 : parseMethodDescriptor "(Ljava/util/Collection;)V" = some ⟨[(.object "java/util/Collection")], none⟩ := by decide +kernel
theorem d11_5 : decode jdk_120_method_1_code 5 = .ok (.aload_n 0, 1) := by decide +kernel
theorem d11_6 : decode jdk_120_method_1_code 6 = .ok (.aload_n 1, 1) := by decide +kernel
theorem d11_7 : decode jdk_120_method_1_code 7 = .ok (.putfield 7, 3) := by decide +kernel
theorem d11_10 : decode jdk_120_method_1_code 10 = .ok (.return_, 1) := by decide +kernel
set_option maxRecDepth 65536 in
set_option maxHeartbeats 40000000 in
theorem rm11 (l : Launch) (Z : State) (a0 : Array Value) (hw : ∀ d ∈ tables_1, d.before a0 Z = true) (ws : List Jvm.Cond) (a1 a2 : Addr) (u1 u2 : Value) (h0 : Heap) (n0 : Nat) (Z0 : n0 ≤ h0.size) (E_a1 : Exa Z h0 a1 "java/util/Collections$UnmodifiableRandomAccessList") (Fc : Fld Z h0 a1 "java/util/Collections$UnmodifiableCollection" "c" "Ljava/util/Collection;" u1) (Fl : Fld Z h0 a1 "java/util/Collections$UnmodifiableList" "list" "Ljava/util/List;" u2) (g_a1 : n0 ≤ a1) :
    MetFree l (⟨"java/util/Collections$UnmodifiableList", "<init>", "(Ljava/util/List;)V"⟩ : MethodName) (head1 (Jvm.Cond.code (⟨"java/util/Collections$UnmodifiableList", "<init>", "(Ljava/util/List;)V"⟩ : MethodName) jdk_120_method_1_code 2 none :: ws) ({ frames := 2, cells := 0, slots := 0, locals := 25 } : Room)) (fun a U => a = #[(.ref a1), (.ref a2)] ∧ Z.Warmed39 U.vm ∧ U.heap = h0) (fun _ _ _ _ _ => True) (fun _ U o U' => ∃ v L, o = .returned v ∧ Q12 Z a1 (.ref a2) (.ref a2) h0 n0 v U'.heap L ∧ FrameEnd U o U' L ({ frames := 2, cells := 0, slots := 0, locals := 25 } : Room).cells ({ frames := 2, cells := 0, slots := 0, locals := 25 } : Room).slots) := by
  refine MetFree.of_bodySF (plainFor_of_name pn_11) hisR ?_
  intro p e s m args below meth c s₁ Bd hml0 hP hK
  obtain ⟨rfl, hZ, hh⟩ := hP
  have hx := Bd.exec
  have hby := Bd.bytes
  have hml : c.maxLocals = 2 := hml0
  have hown : s.vm.findClass "java/util/Collections$UnmodifiableList" = some m.cls := findClass_of_methodNamed Bd.named
  have hnm := (name_of_methodNamed Bd.named Bd.method).1
  have X0 : Stand p l e ({ frames := 2, cells := 0, slots := 0, locals := 25 } : Room) s m #[(.ref a1), (.ref a2)] below meth c s₁ [] 0 0 := Stand.of_body Bd
  have e0 : s₁.heap = h0 := by rw [← hh, Bd.state]; rfl
  have N0 := Fr.nil n0
  have go0 : Go p.tables e below s₁ (mkF m 0 #[.val (.ref a1), .val (.ref a2)] []) s₁ (entryFrame m #[(.ref a1), (.ref a2)] 2) := fun t k => castTop (ef_11 m a1 a2) k
  have go2 : Go p.tables e below s₁ (mkF m 2 #[.val (.ref a1), .val (.ref a2)] [(.ref a2), (.ref a1)]) s₁ (entryFrame m #[(.ref a1), (.ref a2)] 2) := by
    intro t k
    refine go0 t ?_
    show Steps _ _ _ (s₁.setTop (mkF m 0 #[.val (.ref a1), .val (.ref a2)] [])) _
    refine XS.aloadN X0.here hx rfl (hb hby d11_0) rfl rfl ?_
    show Steps _ _ _ (s₁.setTop (mkF m 1 #[.val (.ref a1), .val (.ref a2)] [(.ref a1)])) _
    refine XS.aloadN X0.here hx rfl (hb hby d11_1) rfl rfl ?_
    exact k
  obtain ⟨_, _, ⟨T1, L1, k1, n1⟩, -, X1, ⟨Lc1, hQ1, l1, y1, z1⟩, st1⟩ := X0.specialBack hx (y := (⟨"java/util/Collections$UnmodifiableCollection", "<init>", "(Ljava/util/Collection;)V"⟩ : MethodName)) rfl hown (mvT hZ (wk hw 96 rfl)) (mvT hZ (wk hw 97 rfl)) (mvT hZ (wk hw 101 rfl)) (by decide) (backOf (W := 0) (rm12 l Z a0 hw [] a1 a2 u1 u2 h0 n0 Z0 E_a1 Fc Fl g_a1) hZ (wk hw 101 rfl) (wk hw 100 rfl) (by decide) (by decide)) (g := (mkF m 2 #[.val (.ref a1), .val (.ref a2)] [(.ref a2), (.ref a1)])) rfl (by rw [hml]; rfl) (Steps.refl _) (a := a1) (argsL := [(.ref a2)]) (rest := []) (lenOf pd_3 rfl) rfl (by show 2 * 0 + _ ≤ _; exact Nat.le_of_eq rfl) (hb hby d11_2) (fun _ _ => ⟨rfl, e0, (by decide : 0 + 0 ≤ _), (by decide : 0 + 0 ≤ _)⟩)
  dsimp only [Pt.U, Pt.locs, Pt.cells, Pt.slots] at X1 l1 y1 z1 st1 hQ1
  subst l1 y1 z1
  obtain ⟨rfl, N1q, K1, Fc1, Fl1⟩ := hQ1
  have N1 := Fr.app N0 N1q
  have go4 : Go p.tables e below T1 (mkF m 7 #[.val (.ref a1), .val (.ref a2)] [(.ref a2), (.ref a1)]) s₁ (entryFrame m #[(.ref a1), (.ref a2)] 2) := by
    intro t k
    refine go2 t ?_
    show Steps _ _ _ (s₁.setTop (mkF m 2 #[.val (.ref a1), .val (.ref a2)] [(.ref a2), (.ref a1)])) _
    refine st1.trans ?_
    show Steps _ _ _ (T1.setTop (mkF m 5 #[.val (.ref a1), .val (.ref a2)] [])) _
    refine XS.aloadN X1.here hx rfl (hb hby d11_5) rfl rfl ?_
    show Steps _ _ _ (T1.setTop (mkF m 6 #[.val (.ref a1), .val (.ref a2)] [(.ref a1)])) _
    refine XS.aloadN X1.here hx rfl (hb hby d11_6) rfl rfl ?_
    exact k
  have f3 : Exa Z T1.heap a1 "java/util/Collections$UnmodifiableRandomAccessList" := (E_a1.keep K1)
  obtain ⟨T5, h5, X5, e5, W5, st5⟩ := putF X1 hx hZ hown (host := "") (Or.inl (wk hw 105 rfl)) Via.refl rfl Fl1 f3 (Or.inr ⟨(wk hw 106 rfl), rfl, hnm⟩) (wk hw 85 rfl) (ty := (.object "java/util/List")) (by decide) rfl rfl (g := (mkF m 7 #[.val (.ref a1), .val (.ref a2)] [(.ref a2), (.ref a1)])) rfl rfl (hb hby d11_7)
  have N5 := Fr.snoc X5 N1 g_a1
  have Fw5 : Fld Z h5 a1 "java/util/Collections$UnmodifiableList" "list" "Ljava/util/List;" (.ref a2) := Fl1.same W5
  have go6 : Go p.tables e below T5 (mkF m 10 #[.val (.ref a1), .val (.ref a2)] []) s₁ (entryFrame m #[(.ref a1), (.ref a2)] 2) := by
    intro t k
    refine go4 t ?_
    show Steps _ _ _ (T1.setTop (mkF m 7 #[.val (.ref a1), .val (.ref a2)] [(.ref a2), (.ref a1)])) _
    refine st5 _ ?_
    exact k
  have f7 : Keep h0 h5 [a1] := (((Keep.refl h0 [a1]).trans K1 (allS (Or.inl (List.mem_of_getElem? (i := 0) rfl)) all0)).wr W5 (Or.inl (List.mem_of_getElem? (i := 0) rfl)))
  have f8 : Fld Z h5 a1 "java/util/Collections$UnmodifiableCollection" "c" "Ljava/util/Collection;" (.ref a2) := (Fc1.other W5 (Or.inr (slot_ne (Or.inr (wk hw 104 rfl)) (Or.inr (wk hw 106 rfl)) (by decide) (t := (.object "java/util/Collection")) (t' := (.object "java/util/List")) (by decide) (by decide))))
  obtain ⟨fs, hr, hrun, hended, hW, hsame⟩ := X5.leave (v := none) (fun _ => rfl)
  refine ⟨_, _, go6 _ ?_, hrun, hended, _, _, rfl, ?_, ⟨_, rfl⟩, hW, hsame.mono (by decide) (by decide)⟩
  · exact X5.returnOut hx Bd.returns (hb hby d11_10) hr
  · show Q12 Z a1 (.ref a2) (.ref a2) h0 n0 _ T5.heap _
    rw [e5]
    exact ⟨rfl, N5, f7, f8, Fw5⟩
theorem pn_10 : plainName "java/util/Collections$UnmodifiableRandomAccessList" = true := by first | (simp [plainName, overriddenIn]; done) | decide +kernel
theorem ef_10 (m : MethodId) (x0 : Addr) (x1 : Addr) : entryFrame m #[(.ref x0), (.ref x1)] 2 = mkF m 0 #[.val (.ref x0), .val (.ref x1)] [] := by first | (simp [entryFrame, mkF, argsToLocals, Value.category]; done) | rfl
theorem d10_0 : decode jdk_121_method_1_code 0 = .ok (.aload_n 0, 1) := by decide +kernel
theorem d10_1 : decode jdk_121_method_1_code 1 = .ok (.aload_n 1, 1) := by decide +kernel
theorem d10_2 : decode jdk_121_method_1_code 2 = .ok (.invokespecial 1, 3) := by decide +kernel
theorem pd_4 : parseMethodDescriptor "(Ljava/util/List;)V" = some ⟨[(.object "java/util/List")], none⟩ := by decide +kernel
theorem d10_5 : decode jdk_121_method_1_code 5 = .ok (.return_, 1) := by decide +kernel
set_option maxRecDepth 65536 in
set_option maxHeartbeats 40000000 in
theorem rm10 (l : Launch) (Z : State) (a0 : Array Value) (hw : ∀ d ∈ tables_1, d.before a0 Z = true) (ws : List Jvm.Cond) (a1 a2 : Addr) (u1 u2 : Value) (h0 : Heap) (n0 : Nat) (Z0 : n0 ≤ h0.size) (E_a1 : Exa Z h0 a1 "java/util/Collections$UnmodifiableRandomAccessList") (Fc : Fld Z h0 a1 "java/util/Collections$UnmodifiableCollection" "c" "Ljava/util/Collection;" u1) (Fl : Fld Z h0 a1 "java/util/Collections$UnmodifiableList" "list" "Ljava/util/List;" u2) (g_a1 : n0 ≤ a1) :
    MetFree l (⟨"java/util/Collections$UnmodifiableRandomAccessList", "<init>", "(Ljava/util/List;)V"⟩ : MethodName) (head1 (Jvm.Cond.code (⟨"java/util/Collections$UnmodifiableRandomAccessList", "<init>", "(Ljava/util/List;)V"⟩ : MethodName) jdk_121_method_1_code 2 none :: ws) ({ frames := 3, cells := 0, slots := 0, locals := 38 } : Room)) (fun a U => a = #[(.ref a1), (.ref a2)] ∧ Z.Warmed39 U.vm ∧ U.heap = h0) (fun _ _ _ _ _ => True) (fun _ U o U' => ∃ v L, o = .returned v ∧ Q12 Z a1 (.ref a2) (.ref a2) h0 n0 v U'.heap L ∧ FrameEnd U o U' L ({ frames := 3, cells := 0, slots := 0, locals := 38 } : Room).cells ({ frames := 3, cells := 0, slots := 0, locals := 38 } : Room).slots) := by
  refine MetFree.of_bodySF (plainFor_of_name pn_10) hisR ?_
  intro p e s m args below meth c s₁ Bd hml0 hP hK
  obtain ⟨rfl, hZ, hh⟩ := hP
  have hx := Bd.exec
  have hby := Bd.bytes
  have hml : c.maxLocals = 2 := hml0
  have hown : s.vm.findClass "java/util/Collections$UnmodifiableRandomAccessList" = some m.cls := findClass_of_methodNamed Bd.named
  have hnm := (name_of_methodNamed Bd.named Bd.method).1
  have X0 : Stand p l e ({ frames := 3, cells := 0, slots := 0, locals := 38 } : Room) s m #[(.ref a1), (.ref a2)] below meth c s₁ [] 0 0 := Stand.of_body Bd
  have e0 : s₁.heap = h0 := by rw [← hh, Bd.state]; rfl
  have N0 := Fr.nil n0
  have go0 : Go p.tables e below s₁ (mkF m 0 #[.val (.ref a1), .val (.ref a2)] []) s₁ (entryFrame m #[(.ref a1), (.ref a2)] 2) := fun t k => castTop (ef_10 m a1 a2) k
  have go2 : Go p.tables e below s₁ (mkF m 2 #[.val (.ref a1), .val (.ref a2)] [(.ref a2), (.ref a1)]) s₁ (entryFrame m #[(.ref a1), (.ref a2)] 2) := by
    intro t k
    refine go0 t ?_
    show Steps _ _ _ (s₁.setTop (mkF m 0 #[.val (.ref a1), .val (.ref a2)] [])) _
    refine XS.aloadN X0.here hx rfl (hb hby d10_0) rfl rfl ?_
    show Steps _ _ _ (s₁.setTop (mkF m 1 #[.val (.ref a1), .val (.ref a2)] [(.ref a1)])) _
    refine XS.aloadN X0.here hx rfl (hb hby d10_1) rfl rfl ?_
    exact k
  obtain ⟨_, _, ⟨T1, L1, k1, n1⟩, -, X1, ⟨Lc1, hQ1, l1, y1, z1⟩, st1⟩ := X0.specialBack hx (y := (⟨"java/util/Collections$UnmodifiableList", "<init>", "(Ljava/util/List;)V"⟩ : MethodName)) rfl hown (mvT hZ (wk hw 90 rfl)) (mvT hZ (wk hw 91 rfl)) (mvT hZ (wk hw 95 rfl)) (by decide) (backOf (W := 0) (rm11 l Z a0 hw [] a1 a2 u1 u2 h0 n0 Z0 E_a1 Fc Fl g_a1) hZ (wk hw 95 rfl) (wk hw 94 rfl) (by decide) (by decide)) (g := (mkF m 2 #[.val (.ref a1), .val (.ref a2)] [(.ref a2), (.ref a1)])) rfl (by rw [hml]; rfl) (Steps.refl _) (a := a1) (argsL := [(.ref a2)]) (rest := []) (lenOf pd_4 rfl) rfl (by show 2 * 0 + _ ≤ _; exact Nat.le_of_eq rfl) (hb hby d10_2) (fun _ _ => ⟨rfl, e0, (by decide : 0 + 0 ≤ _), (by decide : 0 + 0 ≤ _)⟩)
  dsimp only [Pt.U, Pt.locs, Pt.cells, Pt.slots] at X1 l1 y1 z1 st1 hQ1
  subst l1 y1 z1
  obtain ⟨rfl, N1q, K1, Fc1, Fl1⟩ := hQ1
  have N1 := Fr.app N0 N1q
  have go3 : Go p.tables e below T1 (mkF m 5 #[.val (.ref a1), .val (.ref a2)] []) s₁ (entryFrame m #[(.ref a1), (.ref a2)] 2) := by
    intro t k
    refine go2 t ?_
    show Steps _ _ _ (s₁.setTop (mkF m 2 #[.val (.ref a1), .val (.ref a2)] [(.ref a2), (.ref a1)])) _
    refine st1.trans ?_
    exact k
  have f4 : Keep h0 T1.heap [a1] := ((Keep.refl h0 [a1]).trans K1 (allS (Or.inl (List.mem_of_getElem? (i := 0) rfl)) all0))
  obtain ⟨fs, hr, hrun, hended, hW, hsame⟩ := X1.leave (v := none) (fun _ => rfl)
  refine ⟨_, _, go3 _ ?_, hrun, hended, _, _, rfl, ?_, ⟨_, rfl⟩, hW, hsame.mono (by decide) (by decide)⟩
  · exact X1.returnOut hx Bd.returns (hb hby d10_5) hr
  · show Q12 Z a1 (.ref a2) (.ref a2) h0 n0 _ T1.heap _
    exact ⟨rfl, N1, f4, Fc1, Fl1⟩
theorem pn_9 : plainName "java/util/Collections" = true := by first | (simp [plainName, overriddenIn]; done) | decide +kernel
theorem ef_9 (m : MethodId) (x0 : Addr) : entryFrame m #[(.ref x0)] 1 = mkF m 0 #[.val (.ref x0)] [] := by first | (simp [entryFrame, mkF, argsToLocals, Value.category]; done) | rfl
theorem d9_0 : decode jdk_79_method_35_code 0 = .ok (.aload_n 0, 1) := by decide +kernel
theorem d9_1 : decode jdk_79_method_35_code 1 = .ok (.invokeinterface 211 1, 5) := by decide +kernel
theorem d9_6 : decode jdk_79_method_35_code 6 = .ok (.ldc 212, 2) := by decide +kernel
theorem d9_8 : decode jdk_79_method_35_code 8 = .ok (.if_acmp .eq 14, 3) := by decide +kernel
theorem d9_11 : decode jdk_79_method_35_code 11 = .ok (.aload_n 0, 1) := by decide +kernel
theorem d9_12 : decode jdk_79_method_35_code 12 = .ok (.invokeinterface 214 1, 5) := by decide +kernel
theorem d9_17 : decode jdk_79_method_35_code 17 = .ok (.ldc 215, 2) := by decide +kernel
theorem d9_19 : decode jdk_79_method_35_code 19 = .ok (.if_acmp .ne 5, 3) := by decide +kernel
theorem d9_24 : decode jdk_79_method_35_code 24 = .ok (.aload_n 0, 1) := by decide +kernel
theorem d9_25 : decode jdk_79_method_35_code 25 = .ok (.instanceof 13, 3) := by decide +kernel
theorem d9_28 : decode jdk_79_method_35_code 28 = .ok (.ifCond .eq 14, 3) := by decide +kernel
theorem d9_31 : decode jdk_79_method_35_code 31 = .ok (.new 215, 3) := by decide +kernel
theorem d9_34 : decode jdk_79_method_35_code 34 = .ok (.dup, 1) := by decide +kernel
theorem d9_35 : decode jdk_79_method_35_code 35 = .ok (.aload_n 0, 1) := by decide +kernel
theorem d9_36 : decode jdk_79_method_35_code 36 = .ok (.invokespecial 217, 3) := by decide +kernel
theorem d9_39 : decode jdk_79_method_35_code 39 = .ok (.goto 11, 3) := by decide +kernel
theorem d9_50 : decode jdk_79_method_35_code 50 = .ok (.areturn, 1) := by decide +kernel
set_option maxRecDepth 65536 in
set_option maxHeartbeats 40000000 in
theorem rm9 (l : Launch) (Z : State) (a0 : Array Value) (hw : ∀ d ∈ tables_1, d.before a0 Z = true) (ws : List Jvm.Cond) (a1 mA mL mR : Addr) (h0 : Heap) (n0 : Nat) (Z0 : n0 ≤ h0.size) (E_a1 : Exa Z h0 a1 "java/util/ArrayList") (MA : Mr Z "java/util/ArrayList" mA) (ML : Mr Z "java/util/Collections$UnmodifiableList" mL) (MR : Mr Z "java/util/Collections$UnmodifiableRandomAccessList" mR) (hmL : ¬ (mA = mL)) (hmR : ¬ (mA = mR)) :
    MetFree l (⟨"java/util/Collections", "unmodifiableList", "(Ljava/util/List;)Ljava/util/List;"⟩ : MethodName) (head1 (Jvm.Cond.code (⟨"java/util/Collections", "unmodifiableList", "(Ljava/util/List;)Ljava/util/List;"⟩ : MethodName) jdk_79_method_35_code 1 (some (.object "java/util/List")) :: ws) ({ frames := 4, cells := 1, slots := 2, locals := 52 } : Room)) (fun a U => a = #[(.ref a1)] ∧ Z.Warmed39 U.vm ∧ U.heap = h0) (fun _ _ _ _ _ => True) (fun _ U o U' => ∃ v L, o = .returned v ∧ Q9 Z a1 h0 n0 v U'.heap L ∧ FrameEnd U o U' L ({ frames := 4, cells := 1, slots := 2, locals := 52 } : Room).cells ({ frames := 4, cells := 1, slots := 2, locals := 52 } : Room).slots) := by
  refine MetFree.of_bodySF (plainFor_of_name pn_9) hisR ?_
  intro p e s m args below meth c s₁ Bd hml0 hP hK
  obtain ⟨rfl, hZ, hh⟩ := hP
  have hx := Bd.exec
  have hby := Bd.bytes
  have hml : c.maxLocals = 1 := hml0
  have hown : s.vm.findClass "java/util/Collections" = some m.cls := findClass_of_methodNamed Bd.named
  have hnm := (name_of_methodNamed Bd.named Bd.method).1
  have X0 : Stand p l e ({ frames := 4, cells := 1, slots := 2, locals := 52 } : Room) s m #[(.ref a1)] below meth c s₁ [] 0 0 := Stand.of_body Bd
  have e0 : s₁.heap = h0 := by rw [← hh, Bd.state]; rfl
  have N0 := Fr.nil n0
  have go0 : Go p.tables e below s₁ (mkF m 0 #[.val (.ref a1)] []) s₁ (entryFrame m #[(.ref a1)] 1) := fun t k => castTop (ef_9 m a1) k
  have go1 : Go p.tables e below s₁ (mkF m 1 #[.val (.ref a1)] [(.ref a1)]) s₁ (entryFrame m #[(.ref a1)] 1) := by
    intro t k
    refine go0 t ?_
    show Steps _ _ _ (s₁.setTop (mkF m 0 #[.val (.ref a1)] [])) _
    refine XS.aloadN X0.here hx rfl (hb hby d9_0) rfl rfl ?_
    exact k
  obtain ⟨T2, X2, e2, st2⟩ := own_gcI X0 hx hZ hown (wk hw 69 rfl) (wk hw 70 rfl) (wk hw 71 rfl) (wk hw 72 rfl) (wk hw 73 rfl) (wk hw 74 rfl) (wk hw 75 rfl) (wk hw 51 rfl) (wk hw 76 rfl) e0 E_a1 MA (g := (mkF m 1 #[.val (.ref a1)] [(.ref a1)])) rfl (by rw [hml]; rfl) rfl (hb hby d9_1) (by decide) (by show 2 * 0 + 0 + (nativeFrameWords "java/lang/Object" "getClass" 1 + 11) ≤ _; decide)
  have go3 : Go p.tables e below T2 (mkF m 6 #[.val (.ref a1)] [(.ref mA)]) s₁ (entryFrame m #[(.ref a1)] 1) := by
    intro t k
    refine go1 t ?_
    show Steps _ _ _ (s₁.setTop (mkF m 1 #[.val (.ref a1)] [(.ref a1)])) _
    refine st2 _ ?_
    exact k
  obtain ⟨T4, X4, e4, st4⟩ := own_ldcM X2 hx hZ hown (wk hw 78 rfl) e2 ML (g := (mkF m 6 #[.val (.ref a1)] [(.ref mA)])) rfl (hb hby d9_6)
  have go5 : Go p.tables e below T4 (mkF m 12 #[.val (.ref a1)] [(.ref a1)]) s₁ (entryFrame m #[(.ref a1)] 1) := by
    intro t k
    refine go3 t ?_
    show Steps _ _ _ (T2.setTop (mkF m 6 #[.val (.ref a1)] [(.ref mA)])) _
    refine st4 _ ?_
    show Steps _ _ _ (T4.setTop (mkF m 8 #[.val (.ref a1)] [(.ref mL), (.ref mA)])) _
    refine Jvm.RoadKit.acmp (g := (mkF m 8 #[.val (.ref a1)] [(.ref mL), (.ref mA)])) X4 hx rfl rfl rfl (pc0 := 8) (pc' := 11) (same := false) rfl (hb hby d9_8) rfl (decide_eq_false fun q => hmL (Value.ref.inj q)) (by decide) (by decide) ?_
    show Steps _ _ _ (T4.setTop (mkF m 11 #[.val (.ref a1)] [])) _
    refine XS.aloadN X4.here hx rfl (hb hby d9_11) rfl rfl ?_
    exact k
  obtain ⟨T6, X6, e6, st6⟩ := own_gcI X4 hx hZ hown (wk hw 80 rfl) (wk hw 70 rfl) (wk hw 71 rfl) (wk hw 72 rfl) (wk hw 73 rfl) (wk hw 74 rfl) (wk hw 75 rfl) (wk hw 51 rfl) (wk hw 76 rfl) e4 E_a1 MA (g := (mkF m 12 #[.val (.ref a1)] [(.ref a1)])) rfl (by rw [hml]; rfl) rfl (hb hby d9_12) (by decide) (by show 2 * 0 + 0 + (nativeFrameWords "java/lang/Object" "getClass" 1 + 11) ≤ _; decide)
  have go7 : Go p.tables e below T6 (mkF m 17 #[.val (.ref a1)] [(.ref mA)]) s₁ (entryFrame m #[(.ref a1)] 1) := by
    intro t k
    refine go5 t ?_
    show Steps _ _ _ (T4.setTop (mkF m 12 #[.val (.ref a1)] [(.ref a1)])) _
    refine st6 _ ?_
    exact k
  obtain ⟨T8, X8, e8, st8⟩ := own_ldcM X6 hx hZ hown (wk hw 81 rfl) e6 MR (g := (mkF m 17 #[.val (.ref a1)] [(.ref mA)])) rfl (hb hby d9_17)
  have go9 : Go p.tables e below T8 (mkF m 25 #[.val (.ref a1)] [(.ref a1)]) s₁ (entryFrame m #[(.ref a1)] 1) := by
    intro t k
    refine go7 t ?_
    show Steps _ _ _ (T6.setTop (mkF m 17 #[.val (.ref a1)] [(.ref mA)])) _
    refine st8 _ ?_
    show Steps _ _ _ (T8.setTop (mkF m 19 #[.val (.ref a1)] [(.ref mR), (.ref mA)])) _
    refine Jvm.RoadKit.acmp (g := (mkF m 19 #[.val (.ref a1)] [(.ref mR), (.ref mA)])) X8 hx rfl rfl rfl (pc0 := 19) (pc' := 24) (same := false) rfl (hb hby d9_19) rfl (decide_eq_false fun q => hmR (Value.ref.inj q)) (by decide) (by decide) ?_
    show Steps _ _ _ (T8.setTop (mkF m 24 #[.val (.ref a1)] [])) _
    refine XS.aloadN X8.here hx rfl (hb hby d9_24) rfl rfl ?_
    exact k
  obtain ⟨T10, X10, e10, st10⟩ := instY X8 hx hZ hown (wk hw 83 rfl) e8 (Ins.of_exa E_a1 (wk hw 84 rfl)) (g := (mkF m 25 #[.val (.ref a1)] [(.ref a1)])) rfl rfl (hb hby d9_25)
  have go12 : Go p.tables e below T10 (mkF m 31 #[.val (.ref a1)] []) s₁ (entryFrame m #[(.ref a1)] 1) := by
    intro t k
    refine go9 t ?_
    show Steps _ _ _ (T8.setTop (mkF m 25 #[.val (.ref a1)] [(.ref a1)])) _
    refine st10 _ ?_
    show Steps _ _ _ (T10.setTop (mkF m 28 #[.val (.ref a1)] [(.int (1 : Int32))])) _
    refine XS.ifNo X10.here hx rfl (hb hby d9_28) rfl ((if0 _ _).trans (feq (by decide)).1) ?_
    exact k
  obtain ⟨T13, h13, X13, e13, E13, A13, D13, -, st13⟩ := newO X10 hx hZ hown (wk hw 81 rfl) (wk hw 85 rfl) (wk hw 86 rfl) e10 (g := (mkF m 31 #[.val (.ref a1)] [])) rfl (hb hby d9_31) (by decide) (by decide)
  obtain ⟨b11, g13⟩ : ∃ z, z = h0.size := ⟨_, rfl⟩
  rw [← g13] at A13 D13 st13
  have g_b11 : n0 ≤ b11 := Nat.le_trans Z0 (Nat.le_of_eq g13.symm)
  have sz_b11 : h0.size ≤ b11 := Nat.le_trans (Keep.refl h0 []).1 (Nat.le_of_eq g13.symm)
  have F_c_b11 : Fld Z h13 b11 "java/util/Collections$UnmodifiableCollection" "c" "Ljava/util/Collection;" .null := D13 (Or.inr (wk hw 104 rfl)) (ty := (.object "java/util/Collection")) (by decide)
  have F_list_b11 : Fld Z h13 b11 "java/util/Collections$UnmodifiableList" "list" "Ljava/util/List;" .null := D13 (Or.inr (wk hw 106 rfl)) (ty := (.object "java/util/List")) (by decide)
  have go16 : Go p.tables e below T13 (mkF m 36 #[.val (.ref a1)] [(.ref a1), (.ref b11), (.ref b11)]) s₁ (entryFrame m #[(.ref a1)] 1) := by
    intro t k
    refine go12 t ?_
    show Steps _ _ _ (T10.setTop (mkF m 31 #[.val (.ref a1)] [])) _
    refine st13 _ ?_
    show Steps _ _ _ (T13.setTop (mkF m 34 #[.val (.ref a1)] [(.ref b11)])) _
    refine XS.dup X13.here hx rfl (hb hby d9_34) rfl rfl ?_
    show Steps _ _ _ (T13.setTop (mkF m 35 #[.val (.ref a1)] [(.ref b11), (.ref b11)])) _
    refine XS.aloadN X13.here hx rfl (hb hby d9_35) rfl rfl ?_
    exact k
  have f15 : n0 ≤ h13.size := (Nat.le_trans Z0 E13.1)
  obtain ⟨_, _, ⟨T14, L14, k14, n14⟩, -, X14, ⟨Lc14, hQ14, l14, y14, z14⟩, st14⟩ := X13.specialBack hx (y := (⟨"java/util/Collections$UnmodifiableRandomAccessList", "<init>", "(Ljava/util/List;)V"⟩ : MethodName)) rfl hown (mvT hZ (wk hw 87 rfl)) (mvT hZ (wk hw 88 rfl)) (mvT hZ (wk hw 89 rfl)) (by decide) (backOf (W := 1) (rm10 l Z a0 hw [] b11 a1 .null .null h13 n0 f15 A13 F_c_b11 F_list_b11 g_b11) hZ (wk hw 89 rfl) (wk hw 86 rfl) (by decide) (by decide)) (g := (mkF m 36 #[.val (.ref a1)] [(.ref a1), (.ref b11), (.ref b11)])) rfl (by rw [hml]; rfl) (Steps.refl _) (a := b11) (argsL := [(.ref a1)]) (rest := [(.ref b11)]) (lenOf pd_4 rfl) rfl (by show 2 * 0 + _ ≤ _; exact Nat.le_of_eq rfl) (hb hby d9_36) (fun _ _ => ⟨rfl, e13, (by decide : 1 + 0 ≤ _), (by decide : 2 + 0 ≤ _)⟩)
  dsimp only [Pt.U, Pt.locs, Pt.cells, Pt.slots] at X14 l14 y14 z14 st14 hQ14
  subst l14 y14 z14
  obtain ⟨rfl, N14q, K14, Fc14, Fl14⟩ := hQ14
  have N14 := Fr.app N0 N14q
  have go17 : Go p.tables e below T14 (mkF m 50 #[.val (.ref a1)] [(.ref b11)]) s₁ (entryFrame m #[(.ref a1)] 1) := by
    intro t k
    refine go16 t ?_
    show Steps _ _ _ (T13.setTop (mkF m 36 #[.val (.ref a1)] [(.ref a1), (.ref b11), (.ref b11)])) _
    refine st14.trans ?_
    show Steps _ _ _ (T14.setTop (mkF m 39 #[.val (.ref a1)] [(.ref b11)])) _
    refine XS.goto X14.here hx rfl (pc0 := 39) (pc' := 50) rfl (hb hby d9_39) (by decide) (by decide) ?_
    exact k
  have f18 : Keep h0 T14.heap [] := (((Keep.refl h0 []).ext E13).trans K14 (allS (Or.inr sz_b11) all0))
  have f19 : Exa Z T14.heap b11 "java/util/Collections$UnmodifiableRandomAccessList" := (A13.keep K14)
  obtain ⟨fs, hr, hrun, hended, hW, hsame⟩ := X14.leave (v := some (.ref b11)) (fun h => by rw [Bd.returns] at h; cases h)
  refine ⟨_, _, go17 _ ?_, hrun, hended, _, _, rfl, ?_, ⟨_, rfl⟩, hW, hsame.mono (by decide) (by decide)⟩
  · exact retOut X14 hx Bd.returns rfl (Or.inr (Or.inr (Or.inr (Or.inr ⟨rfl, rfl, rfl⟩)))) (hb hby d9_50) hr
  · show Q9 Z a1 h0 n0 _ T14.heap _
    exact ⟨b11, rfl, N14, f18, sz_b11, f19, Fc14, Fl14⟩
theorem pn_13 : plainName "java/util/List" = true := by first | (simp [plainName, overriddenIn]; done) | decide +kernel
theorem ef_13 (m : MethodId)  : entryFrame m #[] 0 = mkF m 0 #[] [] := by first | (simp [entryFrame, mkF, argsToLocals, Value.category]; done) | rfl
theorem d13_0 : decode jdk_40_method_36_code 0 = .ok (.getstatic 90, 3) := by decide +kernel
theorem d13_3 : decode jdk_40_method_36_code 3 = .ok (.areturn, 1) := by decide +kernel
set_option maxRecDepth 65536 in
set_option maxHeartbeats 40000000 in
theorem rm13 (l : Launch) (Z : State) (a0 : Array Value) (hw : ∀ d ∈ tables_1, d.before a0 Z = true) (ws : List Jvm.Cond) (wL : Addr) (h0 : Heap) (n0 : Nat) (Z0 : n0 ≤ h0.size) (S_L : Sta Z h0 "java/util/ImmutableCollections" "EMPTY_LIST" "Ljava/util/ImmutableCollections$ListN;" (.ref wL)) :
    MetFree l (⟨"java/util/List", "of", "()Ljava/util/List;"⟩ : MethodName) (head1 (Jvm.Cond.code (⟨"java/util/List", "of", "()Ljava/util/List;"⟩ : MethodName) jdk_40_method_36_code 0 (some (.object "java/util/List")) :: ws) ({ frames := 0, cells := 0, slots := 0, locals := 0 } : Room)) (fun a U => a = #[] ∧ Z.Warmed39 U.vm ∧ U.heap = h0) (fun _ _ _ _ _ => True) (fun _ U o U' => ∃ v L, o = .returned v ∧ QP (.ref wL) h0 n0 v U'.heap L ∧ FrameEnd U o U' L ({ frames := 0, cells := 0, slots := 0, locals := 0 } : Room).cells ({ frames := 0, cells := 0, slots := 0, locals := 0 } : Room).slots) := by
  refine MetFree.of_bodySF (plainFor_of_name pn_13) hisR ?_
  intro p e s m args below meth c s₁ Bd hml0 hP hK
  obtain ⟨rfl, hZ, hh⟩ := hP
  have hx := Bd.exec
  have hby := Bd.bytes
  have hml : c.maxLocals = 0 := hml0
  have hown : s.vm.findClass "java/util/List" = some m.cls := findClass_of_methodNamed Bd.named
  have hnm := (name_of_methodNamed Bd.named Bd.method).1
  have X0 : Stand p l e ({ frames := 0, cells := 0, slots := 0, locals := 0 } : Room) s m #[] below meth c s₁ [] 0 0 := Stand.of_body Bd
  have e0 : s₁.heap = h0 := by rw [← hh, Bd.state]; rfl
  have N0 := Fr.nil n0
  have go0 : Go p.tables e below s₁ (mkF m 0 #[] []) s₁ (entryFrame m #[] 0) := fun t k => castTop (ef_13 m ) k
  obtain ⟨T1, X1, e1, st1⟩ := getS2 X0 hx hZ hown (host := "") (Or.inl (wk hw 111 rfl)) Via.refl e0 S_L (g := (mkF m 0 #[] [])) rfl (hb hby d13_0)
  have go2 : Go p.tables e below T1 (mkF m 3 #[] [(.ref wL)]) s₁ (entryFrame m #[] 0) := by
    intro t k
    refine go0 t ?_
    show Steps _ _ _ (s₁.setTop (mkF m 0 #[] [])) _
    refine st1 _ ?_
    exact k
  obtain ⟨fs, hr, hrun, hended, hW, hsame⟩ := X1.leave (v := some (.ref wL)) (fun h => by rw [Bd.returns] at h; cases h)
  refine ⟨_, _, go2 _ ?_, hrun, hended, _, _, rfl, ?_, ⟨_, rfl⟩, hW, hsame.mono (by decide) (by decide)⟩
  · exact retOut X1 hx Bd.returns rfl (Or.inr (Or.inr (Or.inr (Or.inr ⟨rfl, rfl, rfl⟩)))) (hb hby d13_3) hr
  · show QP (.ref wL) h0 n0 _ T1.heap _
    rw [e1]
    exact ⟨rfl, N0, rfl⟩
theorem pn_14 : plainName "com/example/nackoff/nackoff/RetryPolicy" = true := by first | (simp [plainName, overriddenIn]; done) | decide +kernel
theorem ef_14 (m : MethodId) (x0 : Addr) (x1 : Int32) (x2 : Addr) (x3 : Addr) : entryFrame m #[(.ref x0), (.int x1), (.ref x2), (.ref x3)] 4 = mkF m 0 #[.val (.ref x0), .val (.int x1), .val (.ref x2), .val (.ref x3)] [] := by first | (simp [entryFrame, mkF, argsToLocals, Value.category]; done) | rfl
theorem d14_0 : decode prog_3_method_1_code 0 = .ok (.aload_n 0, 1) := by decide +kernel
theorem d14_1 : decode prog_3_method_1_code 1 = .ok (.invokespecial 1, 3) := by decide +kernel
theorem d14_4 : decode prog_3_method_1_code 4 = .ok (.aload_n 0, 1) := by decide +kernel
theorem d14_5 : decode prog_3_method_1_code 5 = .ok (.iload_n 1, 1) := by decide +kernel
theorem d14_6 : decode prog_3_method_1_code 6 = .ok (.putfield 7, 3) := by decide +kernel
theorem d14_9 : decode prog_3_method_1_code 9 = .ok (.aload_n 0, 1) := by decide +kernel
theorem d14_10 : decode prog_3_method_1_code 10 = .ok (.aload_n 2, 1) := by decide +kernel
theorem d14_11 : decode prog_3_method_1_code 11 = .ok (.putfield 13, 3) := by decide +kernel
theorem d14_14 : decode prog_3_method_1_code 14 = .ok (.aload_n 0, 1) := by decide +kernel
theorem d14_15 : decode prog_3_method_1_code 15 = .ok (.aload_n 3, 1) := by decide +kernel
theorem d14_16 : decode prog_3_method_1_code 16 = .ok (.putfield 17, 3) := by decide +kernel
theorem d14_19 : decode prog_3_method_1_code 19 = .ok (.return_, 1) := by decide +kernel
set_option maxRecDepth 65536 in
set_option maxHeartbeats 40000000 in
theorem rm14 (l : Launch) (Z : State) (a0 : Array Value) (hw : ∀ d ∈ tables_1, d.before a0 Z = true) (ws : List Jvm.Cond) (a1 : Addr) (p2 : Int32) (a3 a4 : Addr) (u1 u2 u3 : Value) (h0 : Heap) (n0 : Nat) (Z0 : n0 ≤ h0.size) (E_a1 : Exa Z h0 a1 "com/example/nackoff/nackoff/RetryPolicy") (Fr1 : Fld Z h0 a1 "com/example/nackoff/nackoff/RetryPolicy" "retries" "I" u1) (Fw1 : Fld Z h0 a1 "com/example/nackoff/nackoff/RetryPolicy" "waitsMs" "Ljava/util/List;" u2) (Ft1 : Fld Z h0 a1 "com/example/nackoff/nackoff/RetryPolicy" "retryableTypes" "Ljava/util/List;" u3) (g_a1 : n0 ≤ a1) :
    MetFree l (⟨"com/example/nackoff/nackoff/RetryPolicy", "<init>", "(ILjava/util/List;Ljava/util/List;)V"⟩ : MethodName) (head1 (Jvm.Cond.code (⟨"com/example/nackoff/nackoff/RetryPolicy", "<init>", "(ILjava/util/List;Ljava/util/List;)V"⟩ : MethodName) prog_3_method_1_code 4 none :: ws) ({ frames := 1, cells := 0, slots := 0, locals := 12 } : Room)) (fun a U => a = #[(.ref a1), (.int p2), (.ref a3), (.ref a4)] ∧ Z.Warmed39 U.vm ∧ U.heap = h0) (fun _ _ _ _ _ => True) (fun _ U o U' => ∃ v L, o = .returned v ∧ Q14 Z a1 p2 a3 h0 n0 v U'.heap L ∧ FrameEnd U o U' L ({ frames := 1, cells := 0, slots := 0, locals := 12 } : Room).cells ({ frames := 1, cells := 0, slots := 0, locals := 12 } : Room).slots) := by
  refine MetFree.of_bodySF (plainFor_of_name pn_14) hisR ?_
  intro p e s m args below meth c s₁ Bd hml0 hP hK
  obtain ⟨rfl, hZ, hh⟩ := hP
  have hx := Bd.exec
  have hby := Bd.bytes
  have hml : c.maxLocals = 4 := hml0
  have hown : s.vm.findClass "com/example/nackoff/nackoff/RetryPolicy" = some m.cls := findClass_of_methodNamed Bd.named
  have hnm := (name_of_methodNamed Bd.named Bd.method).1
  have X0 : Stand p l e ({ frames := 1, cells := 0, slots := 0, locals := 12 } : Room) s m #[(.ref a1), (.int p2), (.ref a3), (.ref a4)] below meth c s₁ [] 0 0 := Stand.of_body Bd
  have e0 : s₁.heap = h0 := by rw [← hh, Bd.state]; rfl
  have N0 := Fr.nil n0
  have go0 : Go p.tables e below s₁ (mkF m 0 #[.val (.ref a1), .val (.int p2), .val (.ref a3), .val (.ref a4)] []) s₁ (entryFrame m #[(.ref a1), (.int p2), (.ref a3), (.ref a4)] 4) := fun t k => castTop (ef_14 m a1 p2 a3 a4) k
  have go1 : Go p.tables e below s₁ (mkF m 1 #[.val (.ref a1), .val (.int p2), .val (.ref a3), .val (.ref a4)] [(.ref a1)]) s₁ (entryFrame m #[(.ref a1), (.int p2), (.ref a3), (.ref a4)] 4) := by
    intro t k
    refine go0 t ?_
    show Steps _ _ _ (s₁.setTop (mkF m 0 #[.val (.ref a1), .val (.int p2), .val (.ref a3), .val (.ref a4)] [])) _
    refine XS.aloadN X0.here hx rfl (hb hby d14_0) rfl rfl ?_
    exact k
  obtain ⟨T2, X2, e2, st2⟩ := initO X0 hx hZ hown (wk hw 116 rfl) (wk hw 27 rfl) (wk hw 28 rfl) e0 (g := (mkF m 1 #[.val (.ref a1), .val (.int p2), .val (.ref a3), .val (.ref a4)] [(.ref a1)])) rfl (by rw [hml]; rfl) rfl (hb hby d14_1) (by decide) (W := 0) (by show 2 * 0 + _ ≤ _; exact Nat.le_of_eq rfl) (by decide)
  have go3 : Go p.tables e below T2 (mkF m 6 #[.val (.ref a1), .val (.int p2), .val (.ref a3), .val (.ref a4)] [(.int p2), (.ref a1)]) s₁ (entryFrame m #[(.ref a1), (.int p2), (.ref a3), (.ref a4)] 4) := by
    intro t k
    refine go1 t ?_
    show Steps _ _ _ (s₁.setTop (mkF m 1 #[.val (.ref a1), .val (.int p2), .val (.ref a3), .val (.ref a4)] [(.ref a1)])) _
    refine st2 _ ?_
    show Steps _ _ _ (T2.setTop (mkF m 4 #[.val (.ref a1), .val (.int p2), .val (.ref a3), .val (.ref a4)] [])) _
    refine XS.aloadN X2.here hx rfl (hb hby d14_4) rfl rfl ?_
    show Steps _ _ _ (T2.setTop (mkF m 5 #[.val (.ref a1), .val (.int p2), .val (.ref a3), .val (.ref a4)] [(.ref a1)])) _
    refine XS.iloadN X2.here hx rfl (hb hby d14_5) rfl ?_
    exact k
  obtain ⟨T4, h4, X4, e4, W4, st4⟩ := putF X2 hx hZ hown (host := "") (Or.inl (wk hw 117 rfl)) Via.refl e2 Fr1 E_a1 (Or.inr ⟨(wk hw 118 rfl), rfl, hnm⟩) (wk hw 64 rfl) (ty := .int) (by decide) rfl rfl (g := (mkF m 6 #[.val (.ref a1), .val (.int p2), .val (.ref a3), .val (.ref a4)] [(.int p2), (.ref a1)])) rfl rfl (hb hby d14_6)
  have N4 := Fr.snoc X4 N0 g_a1
  have Fw4 : Fld Z h4 a1 "com/example/nackoff/nackoff/RetryPolicy" "retries" "I" (.int p2) := Fr1.same W4
  have go6 : Go p.tables e below T4 (mkF m 11 #[.val (.ref a1), .val (.int p2), .val (.ref a3), .val (.ref a4)] [(.ref a3), (.ref a1)]) s₁ (entryFrame m #[(.ref a1), (.int p2), (.ref a3), (.ref a4)] 4) := by
    intro t k
    refine go3 t ?_
    show Steps _ _ _ (T2.setTop (mkF m 6 #[.val (.ref a1), .val (.int p2), .val (.ref a3), .val (.ref a4)] [(.int p2), (.ref a1)])) _
    refine st4 _ ?_
    show Steps _ _ _ (T4.setTop (mkF m 9 #[.val (.ref a1), .val (.int p2), .val (.ref a3), .val (.ref a4)] [])) _
    refine XS.aloadN X4.here hx rfl (hb hby d14_9) rfl rfl ?_
    show Steps _ _ _ (T4.setTop (mkF m 10 #[.val (.ref a1), .val (.int p2), .val (.ref a3), .val (.ref a4)] [(.ref a1)])) _
    refine XS.aloadN X4.here hx rfl (hb hby d14_10) rfl rfl ?_
    exact k
  have f5 : Exa Z h4 a1 "com/example/nackoff/nackoff/RetryPolicy" := (E_a1.wr W4)
  have f7 : Fld Z h4 a1 "com/example/nackoff/nackoff/RetryPolicy" "waitsMs" "Ljava/util/List;" u2 := (Fw1.other W4 (Or.inr (slot_ne (Or.inr (wk hw 120 rfl)) (Or.inr (wk hw 118 rfl)) (by decide) (t := (.object "java/util/List")) (t' := .int) (by decide) (by decide))))
  obtain ⟨T8, h8, X8, e8, W8, st8⟩ := putF X4 hx hZ hown (host := "") (Or.inl (wk hw 119 rfl)) Via.refl e4 f7 f5 (Or.inr ⟨(wk hw 120 rfl), rfl, hnm⟩) (wk hw 64 rfl) (ty := (.object "java/util/List")) (by decide) rfl rfl (g := (mkF m 11 #[.val (.ref a1), .val (.int p2), .val (.ref a3), .val (.ref a4)] [(.ref a3), (.ref a1)])) rfl rfl (hb hby d14_11)
  have N8 := Fr.snoc X8 N4 g_a1
  have Fw8 : Fld Z h8 a1 "com/example/nackoff/nackoff/RetryPolicy" "waitsMs" "Ljava/util/List;" (.ref a3) := f7.same W8
  have go10 : Go p.tables e below T8 (mkF m 16 #[.val (.ref a1), .val (.int p2), .val (.ref a3), .val (.ref a4)] [(.ref a4), (.ref a1)]) s₁ (entryFrame m #[(.ref a1), (.int p2), (.ref a3), (.ref a4)] 4) := by
    intro t k
    refine go6 t ?_
    show Steps _ _ _ (T4.setTop (mkF m 11 #[.val (.ref a1), .val (.int p2), .val (.ref a3), .val (.ref a4)] [(.ref a3), (.ref a1)])) _
    refine st8 _ ?_
    show Steps _ _ _ (T8.setTop (mkF m 14 #[.val (.ref a1), .val (.int p2), .val (.ref a3), .val (.ref a4)] [])) _
    refine XS.aloadN X8.here hx rfl (hb hby d14_14) rfl rfl ?_
    show Steps _ _ _ (T8.setTop (mkF m 15 #[.val (.ref a1), .val (.int p2), .val (.ref a3), .val (.ref a4)] [(.ref a1)])) _
    refine XS.aloadN X8.here hx rfl (hb hby d14_15) rfl rfl ?_
    exact k
  have f9 : Exa Z h8 a1 "com/example/nackoff/nackoff/RetryPolicy" := (f5.wr W8)
  have f11 : Fld Z h8 a1 "com/example/nackoff/nackoff/RetryPolicy" "retryableTypes" "Ljava/util/List;" u3 := ((Ft1.other W4 (Or.inr (slot_ne (Or.inr (wk hw 122 rfl)) (Or.inr (wk hw 118 rfl)) (by decide) (t := (.object "java/util/List")) (t' := .int) (by decide) (by decide)))).other W8 (Or.inr (slot_ne (Or.inr (wk hw 122 rfl)) (Or.inr (wk hw 120 rfl)) (by decide) (t := (.object "java/util/List")) (t' := (.object "java/util/List")) (by decide) (by decide))))
  obtain ⟨T12, h12, X12, e12, W12, st12⟩ := putF X8 hx hZ hown (host := "") (Or.inl (wk hw 121 rfl)) Via.refl e8 f11 f9 (Or.inr ⟨(wk hw 122 rfl), rfl, hnm⟩) (wk hw 64 rfl) (ty := (.object "java/util/List")) (by decide) rfl rfl (g := (mkF m 16 #[.val (.ref a1), .val (.int p2), .val (.ref a3), .val (.ref a4)] [(.ref a4), (.ref a1)])) rfl rfl (hb hby d14_16)
  have N12 := Fr.snoc X12 N8 g_a1
  have Fw12 : Fld Z h12 a1 "com/example/nackoff/nackoff/RetryPolicy" "retryableTypes" "Ljava/util/List;" (.ref a4) := f11.same W12
  have go13 : Go p.tables e below T12 (mkF m 19 #[.val (.ref a1), .val (.int p2), .val (.ref a3), .val (.ref a4)] []) s₁ (entryFrame m #[(.ref a1), (.int p2), (.ref a3), (.ref a4)] 4) := by
    intro t k
    refine go10 t ?_
    show Steps _ _ _ (T8.setTop (mkF m 16 #[.val (.ref a1), .val (.int p2), .val (.ref a3), .val (.ref a4)] [(.ref a4), (.ref a1)])) _
    refine st12 _ ?_
    exact k
  have f14 : Keep h0 h12 [a1] := ((((Keep.refl h0 [a1]).wr W4 (Or.inl (List.mem_of_getElem? (i := 0) rfl))).wr W8 (Or.inl (List.mem_of_getElem? (i := 0) rfl))).wr W12 (Or.inl (List.mem_of_getElem? (i := 0) rfl)))
  have f15 : Fld Z h12 a1 "com/example/nackoff/nackoff/RetryPolicy" "retries" "I" (.int p2) := ((Fw4.other W8 (Or.inr (slot_ne (Or.inr (wk hw 118 rfl)) (Or.inr (wk hw 120 rfl)) (by decide) (t := .int) (t' := (.object "java/util/List")) (by decide) (by decide)))).other W12 (Or.inr (slot_ne (Or.inr (wk hw 118 rfl)) (Or.inr (wk hw 122 rfl)) (by decide) (t := .int) (t' := (.object "java/util/List")) (by decide) (by decide))))
  have f16 : Fld Z h12 a1 "com/example/nackoff/nackoff/RetryPolicy" "waitsMs" "Ljava/util/List;" (.ref a3) := (Fw8.other W12 (Or.inr (slot_ne (Or.inr (wk hw 120 rfl)) (Or.inr (wk hw 122 rfl)) (by decide) (t := (.object "java/util/List")) (t' := (.object "java/util/List")) (by decide) (by decide))))
  obtain ⟨fs, hr, hrun, hended, hW, hsame⟩ := X12.leave (v := none) (fun _ => rfl)
  refine ⟨_, _, go13 _ ?_, hrun, hended, _, _, rfl, ?_, ⟨_, rfl⟩, hW, hsame.mono (by decide) (by decide)⟩
  · exact X12.returnOut hx Bd.returns (hb hby d14_19) hr
  · show Q14 Z a1 p2 a3 h0 n0 _ T12.heap _
    rw [e12]
    exact ⟨rfl, N12, f14, f15, f16⟩
theorem pn_15 : plainName "com/example/nackoff/nackoff/RetryPolicy" = true := by first | (simp [plainName, overriddenIn]; done) | decide +kernel
theorem ef_15 (m : MethodId) (x0 : Addr) : entryFrame m #[(.ref x0)] 1 = mkF m 0 #[.val (.ref x0)] [] := by first | (simp [entryFrame, mkF, argsToLocals, Value.category]; done) | rfl
theorem d15_0 : decode prog_3_method_6_code 0 = .ok (.aload_n 0, 1) := by decide +kernel
theorem d15_1 : decode prog_3_method_6_code 1 = .ok (.getfield 7, 3) := by decide +kernel
theorem d15_4 : decode prog_3_method_6_code 4 = .ok (.ireturn, 1) := by decide +kernel
set_option maxRecDepth 65536 in
set_option maxHeartbeats 40000000 in
theorem rm15 (l : Launch) (Z : State) (a0 : Array Value) (hw : ∀ d ∈ tables_1, d.before a0 Z = true) (ws : List Jvm.Cond) (a1 : Addr) (r : Int32) (h0 : Heap) (n0 : Nat) (Z0 : n0 ≤ h0.size) (F_a1 : Fld Z h0 a1 "com/example/nackoff/nackoff/RetryPolicy" "retries" "I" (.int r)) :
    MetFree l (⟨"com/example/nackoff/nackoff/RetryPolicy", "retries", "()I"⟩ : MethodName) (head1 (Jvm.Cond.code (⟨"com/example/nackoff/nackoff/RetryPolicy", "retries", "()I"⟩ : MethodName) prog_3_method_6_code 1 (some .int) :: ws) ({ frames := 0, cells := 0, slots := 0, locals := 0 } : Room)) (fun a U => a = #[(.ref a1)] ∧ Z.Warmed39 U.vm ∧ U.heap = h0) (fun _ _ _ _ _ => True) (fun _ U o U' => ∃ v L, o = .returned v ∧ QP (.int r) h0 n0 v U'.heap L ∧ FrameEnd U o U' L ({ frames := 0, cells := 0, slots := 0, locals := 0 } : Room).cells ({ frames := 0, cells := 0, slots := 0, locals := 0 } : Room).slots) := by
  refine MetFree.of_bodySF (plainFor_of_name pn_15) hisR ?_
  intro p e s m args below meth c s₁ Bd hml0 hP hK
  obtain ⟨rfl, hZ, hh⟩ := hP
  have hx := Bd.exec
  have hby := Bd.bytes
  have hml : c.maxLocals = 1 := hml0
  have hown : s.vm.findClass "com/example/nackoff/nackoff/RetryPolicy" = some m.cls := findClass_of_methodNamed Bd.named
  have hnm := (name_of_methodNamed Bd.named Bd.method).1
  have X0 : Stand p l e ({ frames := 0, cells := 0, slots := 0, locals := 0 } : Room) s m #[(.ref a1)] below meth c s₁ [] 0 0 := Stand.of_body Bd
  have e0 : s₁.heap = h0 := by rw [← hh, Bd.state]; rfl
  have N0 := Fr.nil n0
  have go0 : Go p.tables e below s₁ (mkF m 0 #[.val (.ref a1)] []) s₁ (entryFrame m #[(.ref a1)] 1) := fun t k => castTop (ef_15 m a1) k
  have go1 : Go p.tables e below s₁ (mkF m 1 #[.val (.ref a1)] [(.ref a1)]) s₁ (entryFrame m #[(.ref a1)] 1) := by
    intro t k
    refine go0 t ?_
    show Steps _ _ _ (s₁.setTop (mkF m 0 #[.val (.ref a1)] [])) _
    refine XS.aloadN X0.here hx rfl (hb hby d15_0) rfl rfl ?_
    exact k
  obtain ⟨T2, X2, e2, st2⟩ := getF X0 hx hZ hown (host := "") (Or.inl (wk hw 117 rfl)) Via.refl e0 F_a1 (g := (mkF m 1 #[.val (.ref a1)] [(.ref a1)])) rfl rfl (hb hby d15_1)
  have go3 : Go p.tables e below T2 (mkF m 4 #[.val (.ref a1)] [(.int r)]) s₁ (entryFrame m #[(.ref a1)] 1) := by
    intro t k
    refine go1 t ?_
    show Steps _ _ _ (s₁.setTop (mkF m 1 #[.val (.ref a1)] [(.ref a1)])) _
    refine st2 _ ?_
    exact k
  obtain ⟨fs, hr, hrun, hended, hW, hsame⟩ := X2.leave (v := some (.int r)) (fun h => by rw [Bd.returns] at h; cases h)
  refine ⟨_, _, go3 _ ?_, hrun, hended, _, _, rfl, ?_, ⟨_, rfl⟩, hW, hsame.mono (by decide) (by decide)⟩
  · exact retI X2 hx Bd.returns (hb hby d15_4) hr
  · show QP (.int r) h0 n0 _ T2.heap _
    rw [e2]
    exact ⟨rfl, N0, rfl⟩
theorem pn_16 : plainName "com/example/nackoff/nackoff/RetryPolicy" = true := by first | (simp [plainName, overriddenIn]; done) | decide +kernel
theorem ef_16 (m : MethodId) (x0 : Addr) : entryFrame m #[(.ref x0)] 1 = mkF m 0 #[.val (.ref x0)] [] := by first | (simp [entryFrame, mkF, argsToLocals, Value.category]; done) | rfl
theorem d16_0 : decode prog_3_method_7_code 0 = .ok (.aload_n 0, 1) := by decide +kernel
theorem d16_1 : decode prog_3_method_7_code 1 = .ok (.getfield 13, 3) := by decide +kernel
theorem d16_4 : decode prog_3_method_7_code 4 = .ok (.areturn, 1) := by decide +kernel
set_option maxRecDepth 65536 in
set_option maxHeartbeats 40000000 in
theorem rm16 (l : Launch) (Z : State) (a0 : Array Value) (hw : ∀ d ∈ tables_1, d.before a0 Z = true) (ws : List Jvm.Cond) (a1 r : Addr) (h0 : Heap) (n0 : Nat) (Z0 : n0 ≤ h0.size) (F_a1 : Fld Z h0 a1 "com/example/nackoff/nackoff/RetryPolicy" "waitsMs" "Ljava/util/List;" (.ref r)) :
    MetFree l (⟨"com/example/nackoff/nackoff/RetryPolicy", "waitsMs", "()Ljava/util/List;"⟩ : MethodName) (head1 (Jvm.Cond.code (⟨"com/example/nackoff/nackoff/RetryPolicy", "waitsMs", "()Ljava/util/List;"⟩ : MethodName) prog_3_method_7_code 1 (some (.object "java/util/List")) :: ws) ({ frames := 0, cells := 0, slots := 0, locals := 0 } : Room)) (fun a U => a = #[(.ref a1)] ∧ Z.Warmed39 U.vm ∧ U.heap = h0) (fun _ _ _ _ _ => True) (fun _ U o U' => ∃ v L, o = .returned v ∧ QP (.ref r) h0 n0 v U'.heap L ∧ FrameEnd U o U' L ({ frames := 0, cells := 0, slots := 0, locals := 0 } : Room).cells ({ frames := 0, cells := 0, slots := 0, locals := 0 } : Room).slots) := by
  refine MetFree.of_bodySF (plainFor_of_name pn_16) hisR ?_
  intro p e s m args below meth c s₁ Bd hml0 hP hK
  obtain ⟨rfl, hZ, hh⟩ := hP
  have hx := Bd.exec
  have hby := Bd.bytes
  have hml : c.maxLocals = 1 := hml0
  have hown : s.vm.findClass "com/example/nackoff/nackoff/RetryPolicy" = some m.cls := findClass_of_methodNamed Bd.named
  have hnm := (name_of_methodNamed Bd.named Bd.method).1
  have X0 : Stand p l e ({ frames := 0, cells := 0, slots := 0, locals := 0 } : Room) s m #[(.ref a1)] below meth c s₁ [] 0 0 := Stand.of_body Bd
  have e0 : s₁.heap = h0 := by rw [← hh, Bd.state]; rfl
  have N0 := Fr.nil n0
  have go0 : Go p.tables e below s₁ (mkF m 0 #[.val (.ref a1)] []) s₁ (entryFrame m #[(.ref a1)] 1) := fun t k => castTop (ef_16 m a1) k
  have go1 : Go p.tables e below s₁ (mkF m 1 #[.val (.ref a1)] [(.ref a1)]) s₁ (entryFrame m #[(.ref a1)] 1) := by
    intro t k
    refine go0 t ?_
    show Steps _ _ _ (s₁.setTop (mkF m 0 #[.val (.ref a1)] [])) _
    refine XS.aloadN X0.here hx rfl (hb hby d16_0) rfl rfl ?_
    exact k
  obtain ⟨T2, X2, e2, st2⟩ := getF X0 hx hZ hown (host := "") (Or.inl (wk hw 119 rfl)) Via.refl e0 F_a1 (g := (mkF m 1 #[.val (.ref a1)] [(.ref a1)])) rfl rfl (hb hby d16_1)
  have go3 : Go p.tables e below T2 (mkF m 4 #[.val (.ref a1)] [(.ref r)]) s₁ (entryFrame m #[(.ref a1)] 1) := by
    intro t k
    refine go1 t ?_
    show Steps _ _ _ (s₁.setTop (mkF m 1 #[.val (.ref a1)] [(.ref a1)])) _
    refine st2 _ ?_
    exact k
  obtain ⟨fs, hr, hrun, hended, hW, hsame⟩ := X2.leave (v := some (.ref r)) (fun h => by rw [Bd.returns] at h; cases h)
  refine ⟨_, _, go3 _ ?_, hrun, hended, _, _, rfl, ?_, ⟨_, rfl⟩, hW, hsame.mono (by decide) (by decide)⟩
  · exact retOut X2 hx Bd.returns rfl (Or.inr (Or.inr (Or.inr (Or.inr ⟨rfl, rfl, rfl⟩)))) (hb hby d16_4) hr
  · show QP (.ref r) h0 n0 _ T2.heap _
    rw [e2]
    exact ⟨rfl, N0, rfl⟩
theorem pn_18 : plainName "java/util/ArrayList" = true := by first | (simp [plainName, overriddenIn]; done) | decide +kernel
theorem ef_18 (m : MethodId) (x0 : Addr) : entryFrame m #[(.ref x0)] 1 = mkF m 0 #[.val (.ref x0)] [] := by first | (simp [entryFrame, mkF, argsToLocals, Value.category]; done) | rfl
theorem d18_0 : decode jdk_38_method_8_code 0 = .ok (.aload_n 0, 1) := by decide +kernel
theorem d18_1 : decode jdk_38_method_8_code 1 = .ok (.getfield 48, 3) := by decide +kernel
theorem d18_4 : decode jdk_38_method_8_code 4 = .ok (.ireturn, 1) := by decide +kernel
set_option maxRecDepth 65536 in
set_option maxHeartbeats 40000000 in
theorem rm18 (l : Launch) (Z : State) (a0 : Array Value) (hw : ∀ d ∈ tables_1, d.before a0 Z = true) (ws : List Jvm.Cond) (a1 : Addr) (r : Int32) (h0 : Heap) (n0 : Nat) (Z0 : n0 ≤ h0.size) (F_a1 : Fld Z h0 a1 "java/util/ArrayList" "size" "I" (.int r)) :
    MetFree l (⟨"java/util/ArrayList", "size", "()I"⟩ : MethodName) (head1 (Jvm.Cond.code (⟨"java/util/ArrayList", "size", "()I"⟩ : MethodName) jdk_38_method_8_code 1 (some .int) :: ws) ({ frames := 0, cells := 0, slots := 0, locals := 0 } : Room)) (fun a U => a = #[(.ref a1)] ∧ Z.Warmed39 U.vm ∧ U.heap = h0) (fun _ _ _ _ _ => True) (fun _ U o U' => ∃ v L, o = .returned v ∧ QP (.int r) h0 n0 v U'.heap L ∧ FrameEnd U o U' L ({ frames := 0, cells := 0, slots := 0, locals := 0 } : Room).cells ({ frames := 0, cells := 0, slots := 0, locals := 0 } : Room).slots) := by
  refine MetFree.of_bodySF (plainFor_of_name pn_18) hisR ?_
  intro p e s m args below meth c s₁ Bd hml0 hP hK
  obtain ⟨rfl, hZ, hh⟩ := hP
  have hx := Bd.exec
  have hby := Bd.bytes
  have hml : c.maxLocals = 1 := hml0
  have hown : s.vm.findClass "java/util/ArrayList" = some m.cls := findClass_of_methodNamed Bd.named
  have hnm := (name_of_methodNamed Bd.named Bd.method).1
  have X0 : Stand p l e ({ frames := 0, cells := 0, slots := 0, locals := 0 } : Room) s m #[(.ref a1)] below meth c s₁ [] 0 0 := Stand.of_body Bd
  have e0 : s₁.heap = h0 := by rw [← hh, Bd.state]; rfl
  have N0 := Fr.nil n0
  have go0 : Go p.tables e below s₁ (mkF m 0 #[.val (.ref a1)] []) s₁ (entryFrame m #[(.ref a1)] 1) := fun t k => castTop (ef_18 m a1) k
  have go1 : Go p.tables e below s₁ (mkF m 1 #[.val (.ref a1)] [(.ref a1)]) s₁ (entryFrame m #[(.ref a1)] 1) := by
    intro t k
    refine go0 t ?_
    show Steps _ _ _ (s₁.setTop (mkF m 0 #[.val (.ref a1)] [])) _
    refine XS.aloadN X0.here hx rfl (hb hby d18_0) rfl rfl ?_
    exact k
  obtain ⟨T2, X2, e2, st2⟩ := getF X0 hx hZ hown (host := "") (Or.inl (wk hw 55 rfl)) Via.refl e0 F_a1 (g := (mkF m 1 #[.val (.ref a1)] [(.ref a1)])) rfl rfl (hb hby d18_1)
  have go3 : Go p.tables e below T2 (mkF m 4 #[.val (.ref a1)] [(.int r)]) s₁ (entryFrame m #[(.ref a1)] 1) := by
    intro t k
    refine go1 t ?_
    show Steps _ _ _ (s₁.setTop (mkF m 1 #[.val (.ref a1)] [(.ref a1)])) _
    refine st2 _ ?_
    exact k
  obtain ⟨fs, hr, hrun, hended, hW, hsame⟩ := X2.leave (v := some (.int r)) (fun h => by rw [Bd.returns] at h; cases h)
  refine ⟨_, _, go3 _ ?_, hrun, hended, _, _, rfl, ?_, ⟨_, rfl⟩, hW, hsame.mono (by decide) (by decide)⟩
  · exact retI X2 hx Bd.returns (hb hby d18_4) hr
  · show QP (.int r) h0 n0 _ T2.heap _
    rw [e2]
    exact ⟨rfl, N0, rfl⟩
theorem pn_24 : plainName "java/lang/Long" = true := by first | (simp [plainName, overriddenIn]; done) | decide +kernel
theorem ef_24 (m : MethodId) (x0 : Addr) : entryFrame m #[(.ref x0)] 1 = mkF m 0 #[.val (.ref x0)] [] := by first | (simp [entryFrame, mkF, argsToLocals, Value.category]; done) | rfl
theorem d24_0 : decode jdk_35_method_31_code 0 = .ok (.aload_n 0, 1) := by decide +kernel
theorem d24_1 : decode jdk_35_method_31_code 1 = .ok (.getfield 273, 3) := by decide +kernel
theorem d24_4 : decode jdk_35_method_31_code 4 = .ok (.lreturn, 1) := by decide +kernel
set_option maxRecDepth 65536 in
set_option maxHeartbeats 40000000 in
theorem rm24 (l : Launch) (Z : State) (a0 : Array Value) (hw : ∀ d ∈ tables_1, d.before a0 Z = true) (ws : List Jvm.Cond) (a1 : Addr) (r : Int64) (h0 : Heap) (n0 : Nat) (Z0 : n0 ≤ h0.size) (F_a1 : Fld Z h0 a1 "java/lang/Long" "value" "J" (.long r)) :
    MetFree l (⟨"java/lang/Long", "longValue", "()J"⟩ : MethodName) (head1 (Jvm.Cond.code (⟨"java/lang/Long", "longValue", "()J"⟩ : MethodName) jdk_35_method_31_code 1 (some .long) :: ws) ({ frames := 0, cells := 0, slots := 0, locals := 0 } : Room)) (fun a U => a = #[(.ref a1)] ∧ Z.Warmed39 U.vm ∧ U.heap = h0) (fun _ _ _ _ _ => True) (fun _ U o U' => ∃ v L, o = .returned v ∧ QP (.long r) h0 n0 v U'.heap L ∧ FrameEnd U o U' L ({ frames := 0, cells := 0, slots := 0, locals := 0 } : Room).cells ({ frames := 0, cells := 0, slots := 0, locals := 0 } : Room).slots) := by
  refine MetFree.of_bodySF (plainFor_of_name pn_24) hisR ?_
  intro p e s m args below meth c s₁ Bd hml0 hP hK
  obtain ⟨rfl, hZ, hh⟩ := hP
  have hx := Bd.exec
  have hby := Bd.bytes
  have hml : c.maxLocals = 1 := hml0
  have hown : s.vm.findClass "java/lang/Long" = some m.cls := findClass_of_methodNamed Bd.named
  have hnm := (name_of_methodNamed Bd.named Bd.method).1
  have X0 : Stand p l e ({ frames := 0, cells := 0, slots := 0, locals := 0 } : Room) s m #[(.ref a1)] below meth c s₁ [] 0 0 := Stand.of_body Bd
  have e0 : s₁.heap = h0 := by rw [← hh, Bd.state]; rfl
  have N0 := Fr.nil n0
  have go0 : Go p.tables e below s₁ (mkF m 0 #[.val (.ref a1)] []) s₁ (entryFrame m #[(.ref a1)] 1) := fun t k => castTop (ef_24 m a1) k
  have go1 : Go p.tables e below s₁ (mkF m 1 #[.val (.ref a1)] [(.ref a1)]) s₁ (entryFrame m #[(.ref a1)] 1) := by
    intro t k
    refine go0 t ?_
    show Steps _ _ _ (s₁.setTop (mkF m 0 #[.val (.ref a1)] [])) _
    refine XS.aloadN X0.here hx rfl (hb hby d24_0) rfl rfl ?_
    exact k
  obtain ⟨T2, X2, e2, st2⟩ := getF X0 hx hZ hown (host := "") (Or.inl (wk hw 185 rfl)) Via.refl e0 F_a1 (g := (mkF m 1 #[.val (.ref a1)] [(.ref a1)])) rfl rfl (hb hby d24_1)
  have go3 : Go p.tables e below T2 (mkF m 4 #[.val (.ref a1)] [(.long r)]) s₁ (entryFrame m #[(.ref a1)] 1) := by
    intro t k
    refine go1 t ?_
    show Steps _ _ _ (s₁.setTop (mkF m 1 #[.val (.ref a1)] [(.ref a1)])) _
    refine st2 _ ?_
    exact k
  obtain ⟨fs, hr, hrun, hended, hW, hsame⟩ := X2.leave (v := some (.long r)) (fun h => by rw [Bd.returns] at h; cases h)
  refine ⟨_, _, go3 _ ?_, hrun, hended, _, _, rfl, ?_, ⟨_, rfl⟩, hW, hsame.mono (by decide) (by decide)⟩
  · exact retOut X2 hx Bd.returns rfl (Or.inr (Or.inl ⟨rfl, rfl, _, rfl⟩)) (hb hby d24_4) hr
  · show QP (.long r) h0 n0 _ T2.heap _
    rw [e2]
    exact ⟨rfl, N0, rfl⟩
theorem ef_27 (m : MethodId) (x0 : Int32) (x1 : Int32) : entryFrame m #[(.int x0), (.int x1)] 2 = mkF m 0 #[.val (.int x0), .val (.int x1)] [] := by first | (simp [entryFrame, mkF, argsToLocals, Value.category]; done) | rfl
theorem d27_0 : decode jdk_29_method_69_code 0 = .ok (.iload_n 0, 1) := by decide +kernel
theorem d27_1 : decode jdk_29_method_69_code 1 = .ok (.iload_n 1, 1) := by decide +kernel
theorem d27_2 : decode jdk_29_method_69_code 2 = .ok (.if_icmp .gt 7, 3) := by decide +kernel
theorem d27_9 : decode jdk_29_method_69_code 9 = .ok (.iload_n 1, 1) := by decide +kernel
theorem d27_10 : decode jdk_29_method_69_code 10 = .ok (.ireturn, 1) := by decide +kernel
theorem d27_5 : decode jdk_29_method_69_code 5 = .ok (.iload_n 0, 1) := by decide +kernel
theorem d27_6 : decode jdk_29_method_69_code 6 = .ok (.goto 4, 3) := by decide +kernel
set_option maxRecDepth 65536 in
set_option maxHeartbeats 40000000 in
theorem rm27 (l : Launch) (Z : State) (a0 : Array Value) (hw : ∀ d ∈ tables_1, d.before a0 Z = true) (ws : List Jvm.Cond) (p1 p2 : Int32) (h0 : Heap) (n0 : Nat) (Z0 : n0 ≤ h0.size)  :
    MetFree l (⟨"java/lang/Math", "min", "(II)I"⟩ : MethodName) (head1 (Jvm.Cond.code (⟨"java/lang/Math", "min", "(II)I"⟩ : MethodName) jdk_29_method_69_code 2 (some .int) :: ws) ({ frames := 0, cells := 0, slots := 0, locals := 0 } : Room)) (fun a U => a = #[(.int p1), (.int p2)] ∧ Z.Warmed39 U.vm ∧ U.heap = h0) (fun _ _ _ _ _ => True) (fun _ U o U' => ∃ v L, o = .returned v ∧ QP (.int (if p2 < p1 then p2 else p1)) h0 n0 v U'.heap L ∧ FrameEnd U o U' L ({ frames := 0, cells := 0, slots := 0, locals := 0 } : Room).cells ({ frames := 0, cells := 0, slots := 0, locals := 0 } : Room).slots) := by
  refine MetFree.of_bodySF (Jvm.Free.JP.mathPlain rfl (by decide +kernel)) hisR ?_
  intro p e s m args below meth c s₁ Bd hml0 hP hK
  obtain ⟨rfl, hZ, hh⟩ := hP
  have hx := Bd.exec
  have hby := Bd.bytes
  have hml : c.maxLocals = 2 := hml0
  have hown : s.vm.findClass "java/lang/Math" = some m.cls := findClass_of_methodNamed Bd.named
  have hnm := (name_of_methodNamed Bd.named Bd.method).1
  have X0 : Stand p l e ({ frames := 0, cells := 0, slots := 0, locals := 0 } : Room) s m #[(.int p1), (.int p2)] below meth c s₁ [] 0 0 := Stand.of_body Bd
  have e0 : s₁.heap = h0 := by rw [← hh, Bd.state]; rfl
  have N0 := Fr.nil n0
  have go0 : Go p.tables e below s₁ (mkF m 0 #[.val (.int p1), .val (.int p2)] []) s₁ (entryFrame m #[(.int p1), (.int p2)] 2) := fun t k => castTop (ef_27 m p1 p2) k
  have go1 : Go p.tables e below s₁ (mkF m 2 #[.val (.int p1), .val (.int p2)] [(.int p2), (.int p1)]) s₁ (entryFrame m #[(.int p1), (.int p2)] 2) := by
    intro t k
    refine go0 t ?_
    show Steps _ _ _ (s₁.setTop (mkF m 0 #[.val (.int p1), .val (.int p2)] [])) _
    refine XS.iloadN X0.here hx rfl (hb hby d27_0) rfl ?_
    show Steps _ _ _ (s₁.setTop (mkF m 1 #[.val (.int p1), .val (.int p2)] [(.int p1)])) _
    refine XS.iloadN X0.here hx rfl (hb hby d27_1) rfl ?_
    exact k
  by_cases hc2 : p2 < p1
  · skip
    have go2 : Go p.tables e below s₁ (mkF m 10 #[.val (.int p1), .val (.int p2)] [(.int p2)]) s₁ (entryFrame m #[(.int p1), (.int p2)] 2) := by
      intro t k
      refine go1 t ?_
      show Steps _ _ _ (s₁.setTop (mkF m 2 #[.val (.int p1), .val (.int p2)] [(.int p2), (.int p1)])) _
      refine XS.icmpYes X0.here hx rfl (pc0 := 2) (pc' := 9) rfl (hb hby d27_2) rfl (tlt hc2).2.2.1 (by decide) (by decide) ?_
      show Steps _ _ _ (s₁.setTop (mkF m 9 #[.val (.int p1), .val (.int p2)] [])) _
      refine XS.iloadN X0.here hx rfl (hb hby d27_9) rfl ?_
      exact k
    obtain ⟨fs, hr, hrun, hended, hW, hsame⟩ := X0.leave (v := some (.int p2)) (fun h => by rw [Bd.returns] at h; cases h)
    refine ⟨_, _, go2 _ ?_, hrun, hended, _, _, rfl, ?_, ⟨_, rfl⟩, hW, hsame.mono (by decide) (by decide)⟩
    · exact retI X0 hx Bd.returns (hb hby d27_10) hr
    · show QP (.int (if p2 < p1 then p2 else p1)) h0 n0 _ s₁.heap _
      rw [e0]
      exact ⟨by rw [if_pos hc2], N0, rfl⟩
  · skip
    have go3 : Go p.tables e below s₁ (mkF m 10 #[.val (.int p1), .val (.int p2)] [(.int p1)]) s₁ (entryFrame m #[(.int p1), (.int p2)] 2) := by
      intro t k
      refine go1 t ?_
      show Steps _ _ _ (s₁.setTop (mkF m 2 #[.val (.int p1), .val (.int p2)] [(.int p2), (.int p1)])) _
      refine XS.icmpNo X0.here hx rfl (hb hby d27_2) rfl (flt hc2).2.2.1 ?_
      show Steps _ _ _ (s₁.setTop (mkF m 5 #[.val (.int p1), .val (.int p2)] [])) _
      refine XS.iloadN X0.here hx rfl (hb hby d27_5) rfl ?_
      show Steps _ _ _ (s₁.setTop (mkF m 6 #[.val (.int p1), .val (.int p2)] [(.int p1)])) _
      refine XS.goto X0.here hx rfl (pc0 := 6) (pc' := 10) rfl (hb hby d27_6) (by decide) (by decide) ?_
      exact k
    obtain ⟨fs, hr, hrun, hended, hW, hsame⟩ := X0.leave (v := some (.int p1)) (fun h => by rw [Bd.returns] at h; cases h)
    refine ⟨_, _, go3 _ ?_, hrun, hended, _, _, rfl, ?_, ⟨_, rfl⟩, hW, hsame.mono (by decide) (by decide)⟩
    · exact retI X0 hx Bd.returns (hb hby d27_10) hr
    · show QP (.int (if p2 < p1 then p2 else p1)) h0 n0 _ s₁.heap _
      rw [e0]
      exact ⟨by rw [if_neg hc2], N0, rfl⟩
theorem pn_22 : plainName "jdk/internal/util/Preconditions" = true := by first | (simp [plainName, overriddenIn]; done) | decide +kernel
theorem ef_22n (m : MethodId) (x0 : Int32) (x1 : Int32) : entryFrame m #[(.int x0), (.int x1), .null] 3 = mkF m 0 #[.val (.int x0), .val (.int x1), .val .null] [] := by first | (simp [entryFrame, mkF, argsToLocals, Value.category]; done) | rfl
theorem d22_0 : decode jdk_41_method_11_code 0 = .ok (.iload_n 0, 1) := by decide +kernel
theorem d22_1 : decode jdk_41_method_11_code 1 = .ok (.ifCond .lt 8, 3) := by decide +kernel
theorem d22_4 : decode jdk_41_method_11_code 4 = .ok (.iload_n 0, 1) := by decide +kernel
theorem d22_5 : decode jdk_41_method_11_code 5 = .ok (.iload_n 1, 1) := by decide +kernel
theorem d22_6 : decode jdk_41_method_11_code 6 = .ok (.if_icmp .lt 10, 3) := by decide +kernel
theorem d22_16 : decode jdk_41_method_11_code 16 = .ok (.iload_n 0, 1) := by decide +kernel
theorem d22_17 : decode jdk_41_method_11_code 17 = .ok (.ireturn, 1) := by decide +kernel
set_option maxRecDepth 65536 in
set_option maxHeartbeats 40000000 in
theorem rm22 (l : Launch) (Z : State) (a0 : Array Value) (hw : ∀ d ∈ tables_1, d.before a0 Z = true) (ws : List Jvm.Cond) (p1 p2 : Int32) (h0 : Heap) (n0 : Nat) (Z0 : n0 ≤ h0.size) (hj0 : ¬ p1 < (0 : Int32)) (hj1 : p1 < p2) :
    MetFree l (⟨"jdk/internal/util/Preconditions", "checkIndex", "(IILjava/util/function/BiFunction;)I"⟩ : MethodName) (head1 (Jvm.Cond.code (⟨"jdk/internal/util/Preconditions", "checkIndex", "(IILjava/util/function/BiFunction;)I"⟩ : MethodName) jdk_41_method_11_code 3 (some .int) :: ws) ({ frames := 0, cells := 0, slots := 0, locals := 0 } : Room)) (fun a U => a = #[(.int p1), (.int p2), .null] ∧ Z.Warmed39 U.vm ∧ U.heap = h0) (fun _ _ _ _ _ => True) (fun _ U o U' => ∃ v L, o = .returned v ∧ QP (.int p1) h0 n0 v U'.heap L ∧ FrameEnd U o U' L ({ frames := 0, cells := 0, slots := 0, locals := 0 } : Room).cells ({ frames := 0, cells := 0, slots := 0, locals := 0 } : Room).slots) := by
  refine MetFree.of_bodySF (plainFor_of_name pn_22) hisR ?_
  intro p e s m args below meth c s₁ Bd hml0 hP hK
  obtain ⟨rfl, hZ, hh⟩ := hP
  have hx := Bd.exec
  have hby := Bd.bytes
  have hml : c.maxLocals = 3 := hml0
  have hown : s.vm.findClass "jdk/internal/util/Preconditions" = some m.cls := findClass_of_methodNamed Bd.named
  have hnm := (name_of_methodNamed Bd.named Bd.method).1
  have X0 : Stand p l e ({ frames := 0, cells := 0, slots := 0, locals := 0 } : Room) s m #[(.int p1), (.int p2), .null] below meth c s₁ [] 0 0 := Stand.of_body Bd
  have e0 : s₁.heap = h0 := by rw [← hh, Bd.state]; rfl
  have N0 := Fr.nil n0
  have go0 : Go p.tables e below s₁ (mkF m 0 #[.val (.int p1), .val (.int p2), .val .null] []) s₁ (entryFrame m #[(.int p1), (.int p2), .null] 3) := fun t k => castTop (ef_22n m p1 p2) k
  have go1 : Go p.tables e below s₁ (mkF m 17 #[.val (.int p1), .val (.int p2), .val .null] [(.int p1)]) s₁ (entryFrame m #[(.int p1), (.int p2), .null] 3) := by
    intro t k
    refine go0 t ?_
    show Steps _ _ _ (s₁.setTop (mkF m 0 #[.val (.int p1), .val (.int p2), .val .null] [])) _
    refine XS.iloadN X0.here hx rfl (hb hby d22_0) rfl ?_
    show Steps _ _ _ (s₁.setTop (mkF m 1 #[.val (.int p1), .val (.int p2), .val .null] [(.int p1)])) _
    refine XS.ifNo X0.here hx rfl (hb hby d22_1) rfl ((if0 _ _).trans (flt hj0).1) ?_
    show Steps _ _ _ (s₁.setTop (mkF m 4 #[.val (.int p1), .val (.int p2), .val .null] [])) _
    refine XS.iloadN X0.here hx rfl (hb hby d22_4) rfl ?_
    show Steps _ _ _ (s₁.setTop (mkF m 5 #[.val (.int p1), .val (.int p2), .val .null] [(.int p1)])) _
    refine XS.iloadN X0.here hx rfl (hb hby d22_5) rfl ?_
    show Steps _ _ _ (s₁.setTop (mkF m 6 #[.val (.int p1), .val (.int p2), .val .null] [(.int p2), (.int p1)])) _
    refine XS.icmpYes X0.here hx rfl (pc0 := 6) (pc' := 16) rfl (hb hby d22_6) rfl (tlt hj1).1 (by decide) (by decide) ?_
    show Steps _ _ _ (s₁.setTop (mkF m 16 #[.val (.int p1), .val (.int p2), .val .null] [])) _
    refine XS.iloadN X0.here hx rfl (hb hby d22_16) rfl ?_
    exact k
  obtain ⟨fs, hr, hrun, hended, hW, hsame⟩ := X0.leave (v := some (.int p1)) (fun h => by rw [Bd.returns] at h; cases h)
  refine ⟨_, _, go1 _ ?_, hrun, hended, _, _, rfl, ?_, ⟨_, rfl⟩, hW, hsame.mono (by decide) (by decide)⟩
  · exact retI X0 hx Bd.returns (hb hby d22_17) hr
  · show QP (.int p1) h0 n0 _ s₁.heap _
    rw [e0]
    exact ⟨rfl, N0, rfl⟩
theorem pn_21 : plainName "java/util/Objects" = true := by first | (simp [plainName, overriddenIn]; done) | decide +kernel
theorem ef_21 (m : MethodId) (x0 : Int32) (x1 : Int32) : entryFrame m #[(.int x0), (.int x1)] 2 = mkF m 0 #[.val (.int x0), .val (.int x1)] [] := by first | (simp [entryFrame, mkF, argsToLocals, Value.category]; done) | rfl
theorem d21_0 : decode jdk_31_method_17_code 0 = .ok (.iload_n 0, 1) := by decide +kernel
theorem d21_1 : decode jdk_31_method_17_code 1 = .ok (.iload_n 1, 1) := by decide +kernel
theorem d21_2 : decode jdk_31_method_17_code 2 = .ok (.aconst_null, 1) := by decide +kernel
theorem d21_3 : decode jdk_31_method_17_code 3 = .ok (.invokestatic 105, 3) := by decide +kernel
theorem pd_5 : parseMethodDescriptor "(IILjava/util/function/BiFunction;)I" = some ⟨[.int, .int, (.object "java/util/function/BiFunction")], some .int⟩ := by decide +kernel
theorem d21_6 : decode jdk_31_method_17_code 6 = .ok (.ireturn, 1) := by decide +kernel
set_option maxRecDepth 65536 in
set_option maxHeartbeats 40000000 in
theorem rm21 (l : Launch) (Z : State) (a0 : Array Value) (hw : ∀ d ∈ tables_1, d.before a0 Z = true) (ws : List Jvm.Cond) (p1 p2 : Int32) (h0 : Heap) (n0 : Nat) (Z0 : n0 ≤ h0.size) (hj0 : ¬ p1 < (0 : Int32)) (hj1 : p1 < p2) :
    MetFree l (⟨"java/util/Objects", "checkIndex", "(II)I"⟩ : MethodName) (head1 (Jvm.Cond.code (⟨"java/util/Objects", "checkIndex", "(II)I"⟩ : MethodName) jdk_31_method_17_code 2 (some .int) :: ws) ({ frames := 1, cells := 0, slots := 0, locals := 14 } : Room)) (fun a U => a = #[(.int p1), (.int p2)] ∧ Z.Warmed39 U.vm ∧ U.heap = h0) (fun _ _ _ _ _ => True) (fun _ U o U' => ∃ v L, o = .returned v ∧ QP (.int p1) h0 n0 v U'.heap L ∧ FrameEnd U o U' L ({ frames := 1, cells := 0, slots := 0, locals := 14 } : Room).cells ({ frames := 1, cells := 0, slots := 0, locals := 14 } : Room).slots) := by
  refine MetFree.of_bodySF (plainFor_of_name pn_21) hisR ?_
  intro p e s m args below meth c s₁ Bd hml0 hP hK
  obtain ⟨rfl, hZ, hh⟩ := hP
  have hx := Bd.exec
  have hby := Bd.bytes
  have hml : c.maxLocals = 2 := hml0
  have hown : s.vm.findClass "java/util/Objects" = some m.cls := findClass_of_methodNamed Bd.named
  have hnm := (name_of_methodNamed Bd.named Bd.method).1
  have X0 : Stand p l e ({ frames := 1, cells := 0, slots := 0, locals := 14 } : Room) s m #[(.int p1), (.int p2)] below meth c s₁ [] 0 0 := Stand.of_body Bd
  have e0 : s₁.heap = h0 := by rw [← hh, Bd.state]; rfl
  have N0 := Fr.nil n0
  have go0 : Go p.tables e below s₁ (mkF m 0 #[.val (.int p1), .val (.int p2)] []) s₁ (entryFrame m #[(.int p1), (.int p2)] 2) := fun t k => castTop (ef_21 m p1 p2) k
  have go2 : Go p.tables e below s₁ (mkF m 3 #[.val (.int p1), .val (.int p2)] [.null, (.int p2), (.int p1)]) s₁ (entryFrame m #[(.int p1), (.int p2)] 2) := by
    intro t k
    refine go0 t ?_
    show Steps _ _ _ (s₁.setTop (mkF m 0 #[.val (.int p1), .val (.int p2)] [])) _
    refine XS.iloadN X0.here hx rfl (hb hby d21_0) rfl ?_
    show Steps _ _ _ (s₁.setTop (mkF m 1 #[.val (.int p1), .val (.int p2)] [(.int p1)])) _
    refine XS.iloadN X0.here hx rfl (hb hby d21_1) rfl ?_
    show Steps _ _ _ (s₁.setTop (mkF m 2 #[.val (.int p1), .val (.int p2)] [(.int p2), (.int p1)])) _
    refine XS.aconstNull X0.here hx rfl (hb hby d21_2) ?_
    exact k
  obtain ⟨_, _, ⟨T1, L1, k1, n1⟩, -, X1, ⟨Lc1, hQ1, l1, y1, z1⟩, st1⟩ := Jvm.LawKit.callS X0 hx (y := (⟨"jdk/internal/util/Preconditions", "checkIndex", "(IILjava/util/function/BiFunction;)I"⟩ : MethodName)) hown (mvT hZ (wk hw 169 rfl)) (mvT hZ (wk hw 170 rfl)) (mvT hZ (wk hw 171 rfl)) (mvT hZ (wk hw 172 rfl)) (by decide) (backOf (W := 0) (rm22 l Z a0 hw [] p1 p2 h0 n0 Z0 hj0 hj1) hZ (wk hw 172 rfl) (wk hw 171 rfl) (by decide) (by decide)) (g := (mkF m 3 #[.val (.int p1), .val (.int p2)] [.null, (.int p2), (.int p1)])) rfl (by rw [hml]; rfl) (argsL := [(.int p1), (.int p2), .null]) (rest := []) (lenOf pd_5 rfl) rfl (by show 2 * 0 + _ ≤ _; exact Nat.le_of_eq rfl) (hb hby d21_3) (fun _ _ => ⟨rfl, e0, (by decide : 0 + 0 ≤ _), (by decide : 0 + 0 ≤ _)⟩)
  dsimp only [Pt.U, Pt.locs, Pt.cells, Pt.slots] at X1 l1 y1 z1 st1 hQ1
  subst l1 y1 z1
  obtain ⟨rfl, N1q, e1⟩ := hQ1
  have N1 := Fr.app N0 N1q
  have go3 : Go p.tables e below T1 (mkF m 6 #[.val (.int p1), .val (.int p2)] [(.int p1)]) s₁ (entryFrame m #[(.int p1), (.int p2)] 2) := by
    intro t k
    refine go2 t ?_
    show Steps _ _ _ (s₁.setTop (mkF m 3 #[.val (.int p1), .val (.int p2)] [.null, (.int p2), (.int p1)])) _
    refine st1 _ ?_
    exact k
  obtain ⟨fs, hr, hrun, hended, hW, hsame⟩ := X1.leave (v := some (.int p1)) (fun h => by rw [Bd.returns] at h; cases h)
  refine ⟨_, _, go3 _ ?_, hrun, hended, _, _, rfl, ?_, ⟨_, rfl⟩, hW, hsame.mono (by decide) (by decide)⟩
  · exact retI X1 hx Bd.returns (hb hby d21_6) hr
  · show QP (.int p1) h0 n0 _ T1.heap _
    rw [e1]
    exact ⟨rfl, N1, rfl⟩
theorem pn_23 : plainName "java/util/ArrayList" = true := by first | (simp [plainName, overriddenIn]; done) | decide +kernel
theorem ef_23 (m : MethodId) (x0 : Addr) (x1 : Int32) : entryFrame m #[(.ref x0), (.int x1)] 2 = mkF m 0 #[.val (.ref x0), .val (.int x1)] [] := by first | (simp [entryFrame, mkF, argsToLocals, Value.category]; done) | rfl
theorem d23_0 : decode jdk_38_method_18_code 0 = .ok (.aload_n 0, 1) := by decide +kernel
theorem d23_1 : decode jdk_38_method_18_code 1 = .ok (.getfield 9, 3) := by decide +kernel
theorem d23_4 : decode jdk_38_method_18_code 4 = .ok (.iload_n 1, 1) := by decide +kernel
theorem d23_5 : decode jdk_38_method_18_code 5 = .ok (.aaload, 1) := by decide +kernel
theorem d23_6 : decode jdk_38_method_18_code 6 = .ok (.areturn, 1) := by decide +kernel
set_option maxRecDepth 65536 in
set_option maxHeartbeats 40000000 in
theorem rm23 (l : Launch) (Z : State) (a0 : Array Value) (hw : ∀ d ∈ tables_1, d.before a0 Z = true) (ws : List Jvm.Cond) (a1 : Addr) (p2 n : Int32) (ea y : Addr) (kE : ClassId) (vs : List Value) (h0 : Heap) (n0 : Nat) (Z0 : n0 ≤ h0.size) (Fe : Fld Z h0 a1 "java/util/ArrayList" "elementData" "[Ljava/lang/Object;" (.ref ea)) (V : Arv Z h0 ea kE (.object "java/lang/Object") n vs .null) (hv : vs.getD p2.toNatClampNeg .null = .ref y) (hj0 : ¬ p2 < (0 : Int32)) (hj1 : p2 < n) :
    MetFree l (⟨"java/util/ArrayList", "elementData", "(I)Ljava/lang/Object;"⟩ : MethodName) (head1 (Jvm.Cond.code (⟨"java/util/ArrayList", "elementData", "(I)Ljava/lang/Object;"⟩ : MethodName) jdk_38_method_18_code 2 (some (.object "java/lang/Object")) :: ws) ({ frames := 0, cells := 0, slots := 0, locals := 0 } : Room)) (fun a U => a = #[(.ref a1), (.int p2)] ∧ Z.Warmed39 U.vm ∧ U.heap = h0) (fun _ _ _ _ _ => True) (fun _ U o U' => ∃ v L, o = .returned v ∧ QP (.ref y) h0 n0 v U'.heap L ∧ FrameEnd U o U' L ({ frames := 0, cells := 0, slots := 0, locals := 0 } : Room).cells ({ frames := 0, cells := 0, slots := 0, locals := 0 } : Room).slots) := by
  refine MetFree.of_bodySF (plainFor_of_name pn_23) hisR ?_
  intro p e s m args below meth c s₁ Bd hml0 hP hK
  obtain ⟨rfl, hZ, hh⟩ := hP
  have hx := Bd.exec
  have hby := Bd.bytes
  have hml : c.maxLocals = 2 := hml0
  have hown : s.vm.findClass "java/util/ArrayList" = some m.cls := findClass_of_methodNamed Bd.named
  have hnm := (name_of_methodNamed Bd.named Bd.method).1
  have X0 : Stand p l e ({ frames := 0, cells := 0, slots := 0, locals := 0 } : Room) s m #[(.ref a1), (.int p2)] below meth c s₁ [] 0 0 := Stand.of_body Bd
  have e0 : s₁.heap = h0 := by rw [← hh, Bd.state]; rfl
  have N0 := Fr.nil n0
  have go0 : Go p.tables e below s₁ (mkF m 0 #[.val (.ref a1), .val (.int p2)] []) s₁ (entryFrame m #[(.ref a1), (.int p2)] 2) := fun t k => castTop (ef_23 m a1 p2) k
  have go1 : Go p.tables e below s₁ (mkF m 1 #[.val (.ref a1), .val (.int p2)] [(.ref a1)]) s₁ (entryFrame m #[(.ref a1), (.int p2)] 2) := by
    intro t k
    refine go0 t ?_
    show Steps _ _ _ (s₁.setTop (mkF m 0 #[.val (.ref a1), .val (.int p2)] [])) _
    refine XS.aloadN X0.here hx rfl (hb hby d23_0) rfl rfl ?_
    exact k
  obtain ⟨T2, X2, e2, st2⟩ := getF X0 hx hZ hown (host := "") (Or.inl (wk hw 33 rfl)) Via.refl e0 Fe (g := (mkF m 1 #[.val (.ref a1), .val (.int p2)] [(.ref a1)])) rfl rfl (hb hby d23_1)
  have go3 : Go p.tables e below T2 (mkF m 5 #[.val (.ref a1), .val (.int p2)] [(.int p2), (.ref ea)]) s₁ (entryFrame m #[(.ref a1), (.int p2)] 2) := by
    intro t k
    refine go1 t ?_
    show Steps _ _ _ (s₁.setTop (mkF m 1 #[.val (.ref a1), .val (.int p2)] [(.ref a1)])) _
    refine st2 _ ?_
    show Steps _ _ _ (T2.setTop (mkF m 4 #[.val (.ref a1), .val (.int p2)] [(.ref ea)])) _
    refine XS.iloadN X2.here hx rfl (hb hby d23_4) rfl ?_
    exact k
  obtain ⟨clx, Arx, -, Sx, Nx, Hx, -⟩ := id V
  have go4 : Go p.tables e below T2 (mkF m 6 #[.val (.ref a1), .val (.int p2)] [(.ref y)]) s₁ (entryFrame m #[(.ref a1), (.int p2)] 2) := by
    intro t k
    refine go3 t ?_
    show Steps _ _ _ (T2.setTop (mkF m 5 #[.val (.ref a1), .val (.int p2)] [(.int p2), (.ref ea)])) _
    refine X2.aaload hx (j := p2) (v := (.ref y)) (by rw [e2]; exact Arx.1) (State.isArrayOf_alike hZ.alike Arx.2.1) rfl Arx.2.2 (inb_of Sx ⟨hj0, hj1⟩) (Hx.at (inb_of Sx ⟨hj0, hj1⟩) hv) (g := (mkF m 5 #[.val (.ref a1), .val (.int p2)] [(.int p2), (.ref ea)])) rfl rfl (hb hby d23_5) _ ?_
    exact k
  obtain ⟨fs, hr, hrun, hended, hW, hsame⟩ := X2.leave (v := some (.ref y)) (fun h => by rw [Bd.returns] at h; cases h)
  refine ⟨_, _, go4 _ ?_, hrun, hended, _, _, rfl, ?_, ⟨_, rfl⟩, hW, hsame.mono (by decide) (by decide)⟩
  · exact retOut X2 hx Bd.returns rfl (Or.inr (Or.inr (Or.inr (Or.inr ⟨rfl, rfl, rfl⟩)))) (hb hby d23_6) hr
  · show QP (.ref y) h0 n0 _ T2.heap _
    rw [e2]
    exact ⟨rfl, N0, rfl⟩
theorem pn_20 : plainName "java/util/ArrayList" = true := by first | (simp [plainName, overriddenIn]; done) | decide +kernel
theorem ef_20 (m : MethodId) (x0 : Addr) (x1 : Int32) : entryFrame m #[(.ref x0), (.int x1)] 2 = mkF m 0 #[.val (.ref x0), .val (.int x1)] [] := by first | (simp [entryFrame, mkF, argsToLocals, Value.category]; done) | rfl
theorem d20_0 : decode jdk_38_method_20_code 0 = .ok (.iload_n 1, 1) := by decide +kernel
theorem d20_1 : decode jdk_38_method_20_code 1 = .ok (.aload_n 0, 1) := by decide +kernel
theorem d20_2 : decode jdk_38_method_20_code 2 = .ok (.getfield 48, 3) := by decide +kernel
theorem d20_5 : decode jdk_38_method_20_code 5 = .ok (.invokestatic 118, 3) := by decide +kernel
theorem pd_6 : parseMethodDescriptor "(II)I" = some ⟨[.int, .int], some .int⟩ := by decide +kernel
theorem d20_8 : decode jdk_38_method_20_code 8 = .ok (.pop, 1) := by decide +kernel
theorem d20_9 : decode jdk_38_method_20_code 9 = .ok (.aload_n 0, 1) := by decide +kernel
theorem d20_10 : decode jdk_38_method_20_code 10 = .ok (.iload_n 1, 1) := by decide +kernel
theorem d20_11 : decode jdk_38_method_20_code 11 = .ok (.invokevirtual 123, 3) := by decide +kernel
theorem pd_7 : parseMethodDescriptor "(I)Ljava/lang/Object;" = some ⟨[.int], some (.object "java/lang/Object")⟩ := by decide +kernel
theorem d20_14 : decode jdk_38_method_20_code 14 = .ok (.areturn, 1) := by decide +kernel
set_option maxRecDepth 65536 in
set_option maxHeartbeats 40000000 in
theorem rm20 (l : Launch) (Z : State) (a0 : Array Value) (hw : ∀ d ∈ tables_1, d.before a0 Z = true) (ws : List Jvm.Cond) (a1 : Addr) (p2 n : Int32) (ea y : Addr) (kE : ClassId) (vs : List Value) (h0 : Heap) (n0 : Nat) (Z0 : n0 ≤ h0.size) (E_a1 : Exa Z h0 a1 "java/util/ArrayList") (Fe : Fld Z h0 a1 "java/util/ArrayList" "elementData" "[Ljava/lang/Object;" (.ref ea)) (Fs : Fld Z h0 a1 "java/util/ArrayList" "size" "I" (.int n)) (V : Arv Z h0 ea kE (.object "java/lang/Object") n vs .null) (hv : vs.getD p2.toNatClampNeg .null = .ref y) (hj0 : ¬ p2 < (0 : Int32)) (hj1 : p2 < n) :
    MetFree l (⟨"java/util/ArrayList", "get", "(I)Ljava/lang/Object;"⟩ : MethodName) (head1 (Jvm.Cond.code (⟨"java/util/ArrayList", "get", "(I)Ljava/lang/Object;"⟩ : MethodName) jdk_38_method_20_code 2 (some (.object "java/lang/Object")) :: ws) ({ frames := 2, cells := 0, slots := 0, locals := 27 } : Room)) (fun a U => a = #[(.ref a1), (.int p2)] ∧ Z.Warmed39 U.vm ∧ U.heap = h0) (fun _ _ _ _ _ => True) (fun _ U o U' => ∃ v L, o = .returned v ∧ QP (.ref y) h0 n0 v U'.heap L ∧ FrameEnd U o U' L ({ frames := 2, cells := 0, slots := 0, locals := 27 } : Room).cells ({ frames := 2, cells := 0, slots := 0, locals := 27 } : Room).slots) := by
  refine MetFree.of_bodySF (plainFor_of_name pn_20) hisR ?_
  intro p e s m args below meth c s₁ Bd hml0 hP hK
  obtain ⟨rfl, hZ, hh⟩ := hP
  have hx := Bd.exec
  have hby := Bd.bytes
  have hml : c.maxLocals = 2 := hml0
  have hown : s.vm.findClass "java/util/ArrayList" = some m.cls := findClass_of_methodNamed Bd.named
  have hnm := (name_of_methodNamed Bd.named Bd.method).1
  have X0 : Stand p l e ({ frames := 2, cells := 0, slots := 0, locals := 27 } : Room) s m #[(.ref a1), (.int p2)] below meth c s₁ [] 0 0 := Stand.of_body Bd
  have e0 : s₁.heap = h0 := by rw [← hh, Bd.state]; rfl
  have N0 := Fr.nil n0
  have go0 : Go p.tables e below s₁ (mkF m 0 #[.val (.ref a1), .val (.int p2)] []) s₁ (entryFrame m #[(.ref a1), (.int p2)] 2) := fun t k => castTop (ef_20 m a1 p2) k
  have go1 : Go p.tables e below s₁ (mkF m 2 #[.val (.ref a1), .val (.int p2)] [(.ref a1), (.int p2)]) s₁ (entryFrame m #[(.ref a1), (.int p2)] 2) := by
    intro t k
    refine go0 t ?_
    show Steps _ _ _ (s₁.setTop (mkF m 0 #[.val (.ref a1), .val (.int p2)] [])) _
    refine XS.iloadN X0.here hx rfl (hb hby d20_0) rfl ?_
    show Steps _ _ _ (s₁.setTop (mkF m 1 #[.val (.ref a1), .val (.int p2)] [(.int p2)])) _
    refine XS.aloadN X0.here hx rfl (hb hby d20_1) rfl rfl ?_
    exact k
  obtain ⟨T2, X2, e2, st2⟩ := getF X0 hx hZ hown (host := "") (Or.inl (wk hw 55 rfl)) Via.refl e0 Fs (g := (mkF m 2 #[.val (.ref a1), .val (.int p2)] [(.ref a1), (.int p2)])) rfl rfl (hb hby d20_2)
  have go4 : Go p.tables e below T2 (mkF m 5 #[.val (.ref a1), .val (.int p2)] [(.int n), (.int p2)]) s₁ (entryFrame m #[(.ref a1), (.int p2)] 2) := by
    intro t k
    refine go1 t ?_
    show Steps _ _ _ (s₁.setTop (mkF m 2 #[.val (.ref a1), .val (.int p2)] [(.ref a1), (.int p2)])) _
    refine st2 _ ?_
    exact k
  obtain ⟨_, _, ⟨T3, L3, k3, n3⟩, -, X3, ⟨Lc3, hQ3, l3, y3, z3⟩, st3⟩ := Jvm.LawKit.callS X2 hx (y := (⟨"java/util/Objects", "checkIndex", "(II)I"⟩ : MethodName)) hown (mvT hZ (wk hw 165 rfl)) (mvT hZ (wk hw 166 rfl)) (mvT hZ (wk hw 167 rfl)) (mvT hZ (wk hw 168 rfl)) (by decide) (backOf (W := 0) (rm21 l Z a0 hw [] p2 n h0 n0 Z0 hj0 hj1) hZ (wk hw 168 rfl) (wk hw 167 rfl) (by decide) (by decide)) (g := (mkF m 5 #[.val (.ref a1), .val (.int p2)] [(.int n), (.int p2)])) rfl (by rw [hml]; rfl) (argsL := [(.int p2), (.int n)]) (rest := []) (lenOf pd_6 rfl) rfl (by show 2 * 0 + _ ≤ _; exact Nat.le_of_eq rfl) (hb hby d20_5) (fun _ _ => ⟨rfl, e2, (by decide : 0 + 0 ≤ _), (by decide : 0 + 0 ≤ _)⟩)
  dsimp only [Pt.U, Pt.locs, Pt.cells, Pt.slots] at X3 l3 y3 z3 st3 hQ3
  subst l3 y3 z3
  obtain ⟨rfl, N3q, e3⟩ := hQ3
  have N3 := Fr.app N0 N3q
  have go6 : Go p.tables e below T3 (mkF m 11 #[.val (.ref a1), .val (.int p2)] [(.int p2), (.ref a1)]) s₁ (entryFrame m #[(.ref a1), (.int p2)] 2) := by
    intro t k
    refine go4 t ?_
    show Steps _ _ _ (T2.setTop (mkF m 5 #[.val (.ref a1), .val (.int p2)] [(.int n), (.int p2)])) _
    refine st3 _ ?_
    show Steps _ _ _ (T3.setTop (mkF m 8 #[.val (.ref a1), .val (.int p2)] [(.int p2)])) _
    refine XS.pop X3.here hx rfl (hb hby d20_8) rfl rfl ?_
    show Steps _ _ _ (T3.setTop (mkF m 9 #[.val (.ref a1), .val (.int p2)] [])) _
    refine XS.aloadN X3.here hx rfl (hb hby d20_9) rfl rfl ?_
    show Steps _ _ _ (T3.setTop (mkF m 10 #[.val (.ref a1), .val (.int p2)] [(.ref a1)])) _
    refine XS.iloadN X3.here hx rfl (hb hby d20_10) rfl ?_
    exact k
  obtain ⟨cq5, kq5, q5a, q5b, q5c⟩ := isOf hZ e3 E_a1
  obtain ⟨_, _, ⟨T5, L5, k5, n5⟩, -, X5, ⟨Lc5, hQ5, l5, y5, z5⟩, st5⟩ := X3.virtualBack hx (y := (⟨"java/util/ArrayList", "elementData", "(I)Ljava/lang/Object;"⟩ : MethodName)) (z := (⟨"java/util/ArrayList", "elementData", "(I)Ljava/lang/Object;"⟩ : MethodName)) hown (mvT hZ (wk hw 173 rfl)) (mvT hZ (wk hw 174 rfl)) (notFace_of_selects (args := #[]) (mvT hZ (wk hw 176 rfl))) (mvT hZ (wk hw 176 rfl)) (mvT hZ (wk hw 175 rfl)) (by decide) (backOf (W := 0) (rm23 l Z a0 hw [] a1 p2 n ea y kE vs h0 n0 Z0 Fe V hv hj0 hj1) hZ (wk hw 177 rfl) (wk hw 10 rfl) (by decide) (by decide)) q5a q5c (g := (mkF m 11 #[.val (.ref a1), .val (.int p2)] [(.int p2), (.ref a1)])) rfl (by rw [hml]; rfl) (Steps.refl _) (argsL := [(.int p2)]) (rest := []) (lenOf pd_7 rfl) rfl (by show 2 * 0 + _ ≤ _; exact Nat.le_of_eq rfl) (hb hby d20_11) (fun _ _ => ⟨rfl, e3, (by decide : 0 + 0 ≤ _), (by decide : 0 + 0 ≤ _)⟩)
  dsimp only [Pt.U, Pt.locs, Pt.cells, Pt.slots] at X5 l5 y5 z5 st5 hQ5
  subst l5 y5 z5
  obtain ⟨rfl, N5q, e5⟩ := hQ5
  have N5 := Fr.app N3 N5q
  have go7 : Go p.tables e below T5 (mkF m 14 #[.val (.ref a1), .val (.int p2)] [(.ref y)]) s₁ (entryFrame m #[(.ref a1), (.int p2)] 2) := by
    intro t k
    refine go6 t ?_
    show Steps _ _ _ (T3.setTop (mkF m 11 #[.val (.ref a1), .val (.int p2)] [(.int p2), (.ref a1)])) _
    refine st5.trans ?_
    exact k
  obtain ⟨fs, hr, hrun, hended, hW, hsame⟩ := X5.leave (v := some (.ref y)) (fun h => by rw [Bd.returns] at h; cases h)
  refine ⟨_, _, go7 _ ?_, hrun, hended, _, _, rfl, ?_, ⟨_, rfl⟩, hW, hsame.mono (by decide) (by decide)⟩
  · exact retOut X5 hx Bd.returns rfl (Or.inr (Or.inr (Or.inr (Or.inr ⟨rfl, rfl, rfl⟩)))) (hb hby d20_14) hr
  · show QP (.ref y) h0 n0 _ T5.heap _
    rw [e5]
    exact ⟨rfl, N5, rfl⟩
theorem pn_19 : plainName "java/util/Collections$UnmodifiableList" = true := by first | (simp [plainName, overriddenIn]; done) | decide +kernel
theorem ef_19 (m : MethodId) (x0 : Addr) (x1 : Int32) : entryFrame m #[(.ref x0), (.int x1)] 2 = mkF m 0 #[.val (.ref x0), .val (.int x1)] [] := by first | (simp [entryFrame, mkF, argsToLocals, Value.category]; done) | rfl
theorem d19_0 : decode jdk_120_method_4_code 0 = .ok (.aload_n 0, 1) := by decide +kernel
theorem d19_1 : decode jdk_120_method_4_code 1 = .ok (.getfield 7, 3) := by decide +kernel
theorem d19_4 : decode jdk_120_method_4_code 4 = .ok (.iload_n 1, 1) := by decide +kernel
theorem d19_5 : decode jdk_120_method_4_code 5 = .ok (.invokeinterface 23 2, 5) := by decide +kernel
theorem d19_10 : decode jdk_120_method_4_code 10 = .ok (.areturn, 1) := by decide +kernel
set_option maxRecDepth 65536 in
set_option maxHeartbeats 40000000 in
theorem rm19 (l : Launch) (Z : State) (a0 : Array Value) (hw : ∀ d ∈ tables_1, d.before a0 Z = true) (ws : List Jvm.Cond) (a1 al : Addr) (p2 n : Int32) (ea y : Addr) (kE : ClassId) (vs : List Value) (h0 : Heap) (n0 : Nat) (Z0 : n0 ≤ h0.size) (Fl : Fld Z h0 a1 "java/util/Collections$UnmodifiableList" "list" "Ljava/util/List;" (.ref al)) (E_al : Exa Z h0 al "java/util/ArrayList") (Fe : Fld Z h0 al "java/util/ArrayList" "elementData" "[Ljava/lang/Object;" (.ref ea)) (Fs : Fld Z h0 al "java/util/ArrayList" "size" "I" (.int n)) (V : Arv Z h0 ea kE (.object "java/lang/Object") n vs .null) (hv : vs.getD p2.toNatClampNeg .null = .ref y) (hj0 : ¬ p2 < (0 : Int32)) (hj1 : p2 < n) :
    MetFree l (⟨"java/util/Collections$UnmodifiableList", "get", "(I)Ljava/lang/Object;"⟩ : MethodName) (head1 (Jvm.Cond.code (⟨"java/util/Collections$UnmodifiableList", "get", "(I)Ljava/lang/Object;"⟩ : MethodName) jdk_120_method_4_code 2 (some (.object "java/lang/Object")) :: ws) ({ frames := 3, cells := 0, slots := 0, locals := 40 } : Room)) (fun a U => a = #[(.ref a1), (.int p2)] ∧ Z.Warmed39 U.vm ∧ U.heap = h0) (fun _ _ _ _ _ => True) (fun _ U o U' => ∃ v L, o = .returned v ∧ QP (.ref y) h0 n0 v U'.heap L ∧ FrameEnd U o U' L ({ frames := 3, cells := 0, slots := 0, locals := 40 } : Room).cells ({ frames := 3, cells := 0, slots := 0, locals := 40 } : Room).slots) := by
  refine MetFree.of_bodySF (plainFor_of_name pn_19) hisR ?_
  intro p e s m args below meth c s₁ Bd hml0 hP hK
  obtain ⟨rfl, hZ, hh⟩ := hP
  have hx := Bd.exec
  have hby := Bd.bytes
  have hml : c.maxLocals = 2 := hml0
  have hown : s.vm.findClass "java/util/Collections$UnmodifiableList" = some m.cls := findClass_of_methodNamed Bd.named
  have hnm := (name_of_methodNamed Bd.named Bd.method).1
  have X0 : Stand p l e ({ frames := 3, cells := 0, slots := 0, locals := 40 } : Room) s m #[(.ref a1), (.int p2)] below meth c s₁ [] 0 0 := Stand.of_body Bd
  have e0 : s₁.heap = h0 := by rw [← hh, Bd.state]; rfl
  have N0 := Fr.nil n0
  have go0 : Go p.tables e below s₁ (mkF m 0 #[.val (.ref a1), .val (.int p2)] []) s₁ (entryFrame m #[(.ref a1), (.int p2)] 2) := fun t k => castTop (ef_19 m a1 p2) k
  have go1 : Go p.tables e below s₁ (mkF m 1 #[.val (.ref a1), .val (.int p2)] [(.ref a1)]) s₁ (entryFrame m #[(.ref a1), (.int p2)] 2) := by
    intro t k
    refine go0 t ?_
    show Steps _ _ _ (s₁.setTop (mkF m 0 #[.val (.ref a1), .val (.int p2)] [])) _
    refine XS.aloadN X0.here hx rfl (hb hby d19_0) rfl rfl ?_
    exact k
  obtain ⟨T2, X2, e2, st2⟩ := getF X0 hx hZ hown (host := "") (Or.inl (wk hw 105 rfl)) Via.refl e0 Fl (g := (mkF m 1 #[.val (.ref a1), .val (.int p2)] [(.ref a1)])) rfl rfl (hb hby d19_1)
  have go4 : Go p.tables e below T2 (mkF m 5 #[.val (.ref a1), .val (.int p2)] [(.int p2), (.ref al)]) s₁ (entryFrame m #[(.ref a1), (.int p2)] 2) := by
    intro t k
    refine go1 t ?_
    show Steps _ _ _ (s₁.setTop (mkF m 1 #[.val (.ref a1), .val (.int p2)] [(.ref a1)])) _
    refine st2 _ ?_
    show Steps _ _ _ (T2.setTop (mkF m 4 #[.val (.ref a1), .val (.int p2)] [(.ref al)])) _
    refine XS.iloadN X2.here hx rfl (hb hby d19_4) rfl ?_
    exact k
  obtain ⟨cq3, kq3, q3a, q3b, q3c⟩ := isOf hZ e2 E_al
  obtain ⟨_, _, ⟨T3, L3, k3, n3⟩, -, X3, ⟨Lc3, hQ3, l3, y3, z3⟩, st3⟩ := X2.interfaceBack hx (xi := (⟨"java/util/List", "get", "(I)Ljava/lang/Object;"⟩ : MethodName)) (y := (⟨"java/util/ArrayList", "get", "(I)Ljava/lang/Object;"⟩ : MethodName)) hown (mvT hZ (wk hw 159 rfl)) (mvT hZ (wk hw 152 rfl)) (mvT hZ (wk hw 153 rfl)) (mvT hZ (wk hw 160 rfl)) (mvT hZ (wk hw 161 rfl)) (mvT hZ (wk hw 162 rfl)) (mvT hZ (wk hw 163 rfl)) (mvT hZ (wk hw 51 rfl)) (by decide) (backOf (W := 0) (rm20 l Z a0 hw [] al p2 n ea y kE vs h0 n0 Z0 E_al Fe Fs V hv hj0 hj1) hZ (wk hw 164 rfl) (wk hw 10 rfl) (by decide) (by decide)) q3a q3b q3c (g := (mkF m 5 #[.val (.ref a1), .val (.int p2)] [(.int p2), (.ref al)])) rfl (by rw [hml]; rfl) (Steps.refl _) (argsL := [(.int p2)]) (rest := []) (lenOf pd_7 rfl) rfl (by show 2 * 0 + _ ≤ _; exact Nat.le_of_eq rfl) (hb hby d19_5) (fun _ _ => ⟨rfl, e2, (by decide : 0 + 0 ≤ _), (by decide : 0 + 0 ≤ _)⟩)
  dsimp only [Pt.U, Pt.locs, Pt.cells, Pt.slots] at X3 l3 y3 z3 st3 hQ3
  subst l3 y3 z3
  obtain ⟨rfl, N3q, e3⟩ := hQ3
  have N3 := Fr.app N0 N3q
  have go5 : Go p.tables e below T3 (mkF m 10 #[.val (.ref a1), .val (.int p2)] [(.ref y)]) s₁ (entryFrame m #[(.ref a1), (.int p2)] 2) := by
    intro t k
    refine go4 t ?_
    show Steps _ _ _ (T2.setTop (mkF m 5 #[.val (.ref a1), .val (.int p2)] [(.int p2), (.ref al)])) _
    refine st3.trans ?_
    exact k
  obtain ⟨fs, hr, hrun, hended, hW, hsame⟩ := X3.leave (v := some (.ref y)) (fun h => by rw [Bd.returns] at h; cases h)
  refine ⟨_, _, go5 _ ?_, hrun, hended, _, _, rfl, ?_, ⟨_, rfl⟩, hW, hsame.mono (by decide) (by decide)⟩
  · exact retOut X3 hx Bd.returns rfl (Or.inr (Or.inr (Or.inr (Or.inr ⟨rfl, rfl, rfl⟩)))) (hb hby d19_10) hr
  · show QP (.ref y) h0 n0 _ T3.heap _
    rw [e3]
    exact ⟨rfl, N3, rfl⟩
theorem pn_17 : plainName "java/util/Collections$UnmodifiableCollection" = true := by first | (simp [plainName, overriddenIn]; done) | decide +kernel
theorem ef_17 (m : MethodId) (x0 : Addr) : entryFrame m #[(.ref x0)] 1 = mkF m 0 #[.val (.ref x0)] [] := by first | (simp [entryFrame, mkF, argsToLocals, Value.category]; done) | rfl
theorem d17_0 : decode jdk_119_method_2_code 0 = .ok (.aload_n 0, 1) := by decide +kernel
theorem d17_1 : decode jdk_119_method_2_code 1 = .ok (.getfield 10, 3) := by decide +kernel
theorem d17_4 : decode jdk_119_method_2_code 4 = .ok (.invokeinterface 16 1, 5) := by decide +kernel
theorem pd_8 : parseMethodDescriptor "()I" = some ⟨[], some .int⟩ := by decide +kernel
theorem d17_9 : decode jdk_119_method_2_code 9 = .ok (.ireturn, 1) := by decide +kernel
set_option maxRecDepth 65536 in
set_option maxHeartbeats 40000000 in
theorem rm17 (l : Launch) (Z : State) (a0 : Array Value) (hw : ∀ d ∈ tables_1, d.before a0 Z = true) (ws : List Jvm.Cond) (a1 al : Addr) (n : Int32) (h0 : Heap) (n0 : Nat) (Z0 : n0 ≤ h0.size) (Fc : Fld Z h0 a1 "java/util/Collections$UnmodifiableCollection" "c" "Ljava/util/Collection;" (.ref al)) (E_al : Exa Z h0 al "java/util/ArrayList") (Fs : Fld Z h0 al "java/util/ArrayList" "size" "I" (.int n)) :
    MetFree l (⟨"java/util/Collections$UnmodifiableCollection", "size", "()I"⟩ : MethodName) (head1 (Jvm.Cond.code (⟨"java/util/Collections$UnmodifiableCollection", "size", "()I"⟩ : MethodName) jdk_119_method_2_code 1 (some .int) :: ws) ({ frames := 1, cells := 0, slots := 0, locals := 12 } : Room)) (fun a U => a = #[(.ref a1)] ∧ Z.Warmed39 U.vm ∧ U.heap = h0) (fun _ _ _ _ _ => True) (fun _ U o U' => ∃ v L, o = .returned v ∧ QP (.int n) h0 n0 v U'.heap L ∧ FrameEnd U o U' L ({ frames := 1, cells := 0, slots := 0, locals := 12 } : Room).cells ({ frames := 1, cells := 0, slots := 0, locals := 12 } : Room).slots) := by
  refine MetFree.of_bodySF (plainFor_of_name pn_17) hisR ?_
  intro p e s m args below meth c s₁ Bd hml0 hP hK
  obtain ⟨rfl, hZ, hh⟩ := hP
  have hx := Bd.exec
  have hby := Bd.bytes
  have hml : c.maxLocals = 1 := hml0
  have hown : s.vm.findClass "java/util/Collections$UnmodifiableCollection" = some m.cls := findClass_of_methodNamed Bd.named
  have hnm := (name_of_methodNamed Bd.named Bd.method).1
  have X0 : Stand p l e ({ frames := 1, cells := 0, slots := 0, locals := 12 } : Room) s m #[(.ref a1)] below meth c s₁ [] 0 0 := Stand.of_body Bd
  have e0 : s₁.heap = h0 := by rw [← hh, Bd.state]; rfl
  have N0 := Fr.nil n0
  have go0 : Go p.tables e below s₁ (mkF m 0 #[.val (.ref a1)] []) s₁ (entryFrame m #[(.ref a1)] 1) := fun t k => castTop (ef_17 m a1) k
  have go1 : Go p.tables e below s₁ (mkF m 1 #[.val (.ref a1)] [(.ref a1)]) s₁ (entryFrame m #[(.ref a1)] 1) := by
    intro t k
    refine go0 t ?_
    show Steps _ _ _ (s₁.setTop (mkF m 0 #[.val (.ref a1)] [])) _
    refine XS.aloadN X0.here hx rfl (hb hby d17_0) rfl rfl ?_
    exact k
  obtain ⟨T2, X2, e2, st2⟩ := getF X0 hx hZ hown (host := "") (Or.inl (wk hw 103 rfl)) Via.refl e0 Fc (g := (mkF m 1 #[.val (.ref a1)] [(.ref a1)])) rfl rfl (hb hby d17_1)
  have go4 : Go p.tables e below T2 (mkF m 4 #[.val (.ref a1)] [(.ref al)]) s₁ (entryFrame m #[(.ref a1)] 1) := by
    intro t k
    refine go1 t ?_
    show Steps _ _ _ (s₁.setTop (mkF m 1 #[.val (.ref a1)] [(.ref a1)])) _
    refine st2 _ ?_
    exact k
  obtain ⟨cq3, kq3, q3a, q3b, q3c⟩ := isOf hZ e2 E_al
  obtain ⟨_, _, ⟨T3, L3, k3, n3⟩, -, X3, ⟨Lc3, hQ3, l3, y3, z3⟩, st3⟩ := X2.interfaceBack hx (xi := (⟨"java/util/Collection", "size", "()I"⟩ : MethodName)) (y := (⟨"java/util/ArrayList", "size", "()I"⟩ : MethodName)) hown (mvT hZ (wk hw 142 rfl)) (mvT hZ (wk hw 143 rfl)) (mvT hZ (wk hw 144 rfl)) (mvT hZ (wk hw 145 rfl)) (mvT hZ (wk hw 146 rfl)) (mvT hZ (wk hw 147 rfl)) (mvT hZ (wk hw 148 rfl)) (mvT hZ (wk hw 149 rfl)) (by decide) (backOf (W := 0) (rm18 l Z a0 hw [] al n h0 n0 Z0 Fs) hZ (wk hw 150 rfl) (wk hw 10 rfl) (by decide) (by decide)) q3a q3b q3c (g := (mkF m 4 #[.val (.ref a1)] [(.ref al)])) rfl (by rw [hml]; rfl) (Steps.refl _) (argsL := []) (rest := []) (lenOf pd_8 rfl) rfl (by show 2 * 0 + _ ≤ _; exact Nat.le_of_eq rfl) (hb hby d17_4) (fun _ _ => ⟨rfl, e2, (by decide : 0 + 0 ≤ _), (by decide : 0 + 0 ≤ _)⟩)
  dsimp only [Pt.U, Pt.locs, Pt.cells, Pt.slots] at X3 l3 y3 z3 st3 hQ3
  subst l3 y3 z3
  obtain ⟨rfl, N3q, e3⟩ := hQ3
  have N3 := Fr.app N0 N3q
  have go5 : Go p.tables e below T3 (mkF m 9 #[.val (.ref a1)] [(.int n)]) s₁ (entryFrame m #[(.ref a1)] 1) := by
    intro t k
    refine go4 t ?_
    show Steps _ _ _ (T2.setTop (mkF m 4 #[.val (.ref a1)] [(.ref al)])) _
    refine st3.trans ?_
    exact k
  obtain ⟨fs, hr, hrun, hended, hW, hsame⟩ := X3.leave (v := some (.int n)) (fun h => by rw [Bd.returns] at h; cases h)
  refine ⟨_, _, go5 _ ?_, hrun, hended, _, _, rfl, ?_, ⟨_, rfl⟩, hW, hsame.mono (by decide) (by decide)⟩
  · exact retI X3 hx Bd.returns (hb hby d17_9) hr
  · show QP (.int n) h0 n0 _ T3.heap _
    rw [e3]
    exact ⟨rfl, N3, rfl⟩
set_option maxRecDepth 65536 in
set_option maxHeartbeats 40000000 in
theorem own_lsz (l : Launch) (Z : State) (a0 : Array Value) (hw : ∀ d ∈ tables_1, d.before a0 Z = true) {p : Program} {e : Env} {R : Room} {s : State} {m : MethodId} {args : Array Value} {below : List Frame} {meth : Method} {c : Code} {T : State} {locs : List Loc} {cells slots : Nat} {h : Heap} (X : Stand p l e R s m args below meth c T locs cells slots) (hx : p.tables.exec = Jvm.exec) (hZ : Z.Warmed39 s.vm) {own : String} {index count : Nat} (hown : s.vm.findClass own = some m.cls) (wl : (Jvm.Cond.methodLink own index ({ cls := "java/util/List", name := "size", desc := "()I" } : Jvm.MethodName)).before a0 Z = true) (eT : T.heap = h) {n0 : Nat} (Z0 : n0 ≤ h.size) {w al : Addr} {n : Int32}
    (B : WRP Z h w al) (E_al : Exa Z h al "java/util/ArrayList") (Fs : Fld Z h al "java/util/ArrayList" "size" "I" (.int n)) {g : JFrame} (hg : g.method = m) (hsize : g.locals.size = c.maxLocals) {rest : List Value} (hs : g.stack = .ref w :: rest) (hd : decode c.code g.pc = .ok (.invokeinterface index count, 5)) {W : Nat} (hW : 2 * g.monitorRoom + (rest.map fun v => v.category).sum ≤ W) (hf : 2 ≤ R.frames) (hl : W + 24 ≤ R.locals) (hc : cells ≤ R.cells) (hq : slots ≤ R.slots) :
    ∃ T' L, Stand p l e R s m args below meth c T' (locs ++ L) cells slots ∧ Fr n0 L ∧ T'.heap = h ∧ Steps p.tables e below (T.setTop g) (T'.setTop { g with pc := g.pc + 5, stack := .int n :: rest }) := by
  obtain ⟨Ew, Fc, Fl⟩ := B
  obtain ⟨cq, kq, qa, qb, qc⟩ := isOf hZ eT Ew
  obtain ⟨_, _, ⟨T', L', k', n'⟩, -, X', ⟨Lc, hQ, l', y', z'⟩, st⟩ := X.interfaceBack hx (xi := (⟨"java/util/List", "size", "()I"⟩ : MethodName)) (y := (⟨"java/util/Collections$UnmodifiableCollection", "size", "()I"⟩ : MethodName)) hown (mvT hZ wl) (mvT hZ (wk hw 134 rfl)) (mvT hZ (wk hw 135 rfl)) (mvT hZ (wk hw 136 rfl)) (mvT hZ (wk hw 137 rfl)) (mvT hZ (wk hw 138 rfl)) (mvT hZ (wk hw 139 rfl)) (mvT hZ (wk hw 140 rfl)) (by decide) (backOf (W := W) (rm17 l Z a0 hw [] w al n h n0 Z0 Fc E_al Fs) hZ (wk hw 141 rfl) (wk hw 100 rfl) hf (by rw [Nat.add_assoc]; exact hl)) qa qb qc (g := g) hg hsize (Steps.refl _) (argsL := []) (rest := rest) (lenOf pd_8 rfl) hs hW hd (fun _ _ => ⟨rfl, eT, hc, hq⟩)
  dsimp only [Pt.U, Pt.locs, Pt.cells, Pt.slots] at X' l' y' z' st hQ
  subst l' y' z'
  obtain ⟨rfl, N, e'⟩ := hQ
  exact ⟨T', Lc, X', N, e', st⟩
set_option maxRecDepth 65536 in
set_option maxHeartbeats 40000000 in
theorem own_lget (l : Launch) (Z : State) (a0 : Array Value) (hw : ∀ d ∈ tables_1, d.before a0 Z = true) {p : Program} {e : Env} {R : Room} {s : State} {m : MethodId} {args : Array Value} {below : List Frame} {meth : Method} {c : Code} {T : State} {locs : List Loc} {cells slots : Nat} {h : Heap} (X : Stand p l e R s m args below meth c T locs cells slots) (hx : p.tables.exec = Jvm.exec) (hZ : Z.Warmed39 s.vm) {own : String} {index count : Nat} (hown : s.vm.findClass own = some m.cls) (wl : (Jvm.Cond.methodLink own index ({ cls := "java/util/List", name := "get", desc := "(I)Ljava/lang/Object;" } : Jvm.MethodName)).before a0 Z = true) (eT : T.heap = h) {n0 : Nat} (Z0 : n0 ≤ h.size) {w al : Addr} {p2 n : Int32} {ea y : Addr} {kE : ClassId} {vs : List Value}
    (B : WRP Z h w al) (E_al : Exa Z h al "java/util/ArrayList") (Fe : Fld Z h al "java/util/ArrayList" "elementData" "[Ljava/lang/Object;" (.ref ea)) (Fs : Fld Z h al "java/util/ArrayList" "size" "I" (.int n)) (V : Arv Z h ea kE (.object "java/lang/Object") n vs .null) (hv : vs.getD p2.toNatClampNeg .null = .ref y) (hj0 : ¬ p2 < (0 : Int32)) (hj1 : p2 < n) {g : JFrame} (hg : g.method = m) (hsize : g.locals.size = c.maxLocals) {rest : List Value} (hs : g.stack = .int p2 :: .ref w :: rest) (hd : decode c.code g.pc = .ok (.invokeinterface index count, 5)) {W : Nat} (hW : 2 * g.monitorRoom + (rest.map fun v => v.category).sum ≤ W) (hf : 4 ≤ R.frames) (hl : W + 53 ≤ R.locals) (hc : cells ≤ R.cells) (hq : slots ≤ R.slots) :
    ∃ T' L, Stand p l e R s m args below meth c T' (locs ++ L) cells slots ∧ Fr n0 L ∧ T'.heap = h ∧ Steps p.tables e below (T.setTop g) (T'.setTop { g with pc := g.pc + 5, stack := .ref y :: rest }) := by
  obtain ⟨Ew, Fc, Fl⟩ := B
  obtain ⟨cq, kq, qa, qb, qc⟩ := isOf hZ eT Ew
  obtain ⟨_, _, ⟨T', L', k', n'⟩, -, X', ⟨Lc, hQ, l', y', z'⟩, st⟩ := X.interfaceBack hx (xi := (⟨"java/util/List", "get", "(I)Ljava/lang/Object;"⟩ : MethodName)) (y := (⟨"java/util/Collections$UnmodifiableList", "get", "(I)Ljava/lang/Object;"⟩ : MethodName)) hown (mvT hZ wl) (mvT hZ (wk hw 152 rfl)) (mvT hZ (wk hw 153 rfl)) (mvT hZ (wk hw 154 rfl)) (mvT hZ (wk hw 155 rfl)) (mvT hZ (wk hw 156 rfl)) (mvT hZ (wk hw 157 rfl)) (mvT hZ (wk hw 140 rfl)) (by decide) (backOf (W := W) (rm19 l Z a0 hw [] w al p2 n ea y kE vs h n0 Z0 Fl E_al Fe Fs V hv hj0 hj1) hZ (wk hw 158 rfl) (wk hw 94 rfl) hf (by rw [Nat.add_assoc]; exact hl)) qa qb qc (g := g) hg hsize (Steps.refl _) (argsL := [.int p2]) (rest := rest) (lenOf pd_7 rfl) hs hW hd (fun _ _ => ⟨rfl, eT, hc, hq⟩)
  dsimp only [Pt.U, Pt.locs, Pt.cells, Pt.slots] at X' l' y' z' st hQ
  subst l' y' z'
  obtain ⟨rfl, N, e'⟩ := hQ
  exact ⟨T', Lc, X', N, e', st⟩
theorem pn_28 : plainName "com/example/nackoff/nackoff/RetryPolicy" = true := by first | (simp [plainName, overriddenIn]; done) | decide +kernel
theorem ef_28 (m : MethodId) (x0 : Addr) (x1 : Int32) : entryFrame m #[(.ref x0), (.int x1)] 2 = mkF m 0 #[.val (.ref x0), .val (.int x1)] [] := by first | (simp [entryFrame, mkF, argsToLocals, Value.category]; done) | rfl
theorem d28_0 : decode prog_3_method_8_code 0 = .ok (.iload_n 1, 1) := by decide +kernel
theorem d28_1 : decode prog_3_method_8_code 1 = .ok (.iconst 1, 1) := by decide +kernel
theorem d28_2 : decode prog_3_method_8_code 2 = .ok (.if_icmp .lt 11, 3) := by decide +kernel
theorem d28_5 : decode prog_3_method_8_code 5 = .ok (.iload_n 1, 1) := by decide +kernel
theorem d28_6 : decode prog_3_method_8_code 6 = .ok (.aload_n 0, 1) := by decide +kernel
theorem d28_7 : decode prog_3_method_8_code 7 = .ok (.getfield 7, 3) := by decide +kernel
theorem d28_10 : decode prog_3_method_8_code 10 = .ok (.if_icmp .le 21, 3) := by decide +kernel
theorem d28_31 : decode prog_3_method_8_code 31 = .ok (.aload_n 0, 1) := by decide +kernel
theorem d28_32 : decode prog_3_method_8_code 32 = .ok (.getfield 13, 3) := by decide +kernel
theorem d28_35 : decode prog_3_method_8_code 35 = .ok (.iload_n 1, 1) := by decide +kernel
theorem d28_36 : decode prog_3_method_8_code 36 = .ok (.aload_n 0, 1) := by decide +kernel
theorem d28_37 : decode prog_3_method_8_code 37 = .ok (.getfield 13, 3) := by decide +kernel
theorem d28_40 : decode prog_3_method_8_code 40 = .ok (.invokeinterface 98 1, 5) := by decide +kernel
theorem d28_45 : decode prog_3_method_8_code 45 = .ok (.invokestatic 102, 3) := by decide +kernel
theorem d28_48 : decode prog_3_method_8_code 48 = .ok (.iconst 1, 1) := by decide +kernel
theorem d28_49 : decode prog_3_method_8_code 49 = .ok (.isub, 1) := by decide +kernel
theorem d28_50 : decode prog_3_method_8_code 50 = .ok (.invokeinterface 108 2, 5) := by decide +kernel
theorem d28_55 : decode prog_3_method_8_code 55 = .ok (.checkcast 46, 3) := by decide +kernel
theorem d28_58 : decode prog_3_method_8_code 58 = .ok (.invokevirtual 112, 3) := by decide +kernel
theorem pd_9 : parseMethodDescriptor "()J" = some ⟨[], some .long⟩ := by decide +kernel
theorem d28_61 : decode prog_3_method_8_code 61 = .ok (.lreturn, 1) := by decide +kernel
set_option maxRecDepth 65536 in
set_option maxHeartbeats 40000000 in
theorem rm28 (l : Launch) (Z : State) (a0 : Array Value) (hw : ∀ d ∈ tables_1, d.before a0 Z = true) (ws : List Jvm.Cond) (a1 : Addr) (p2 : Int32) (wa al ea : Addr) (kE : ClassId) (n kx : Int32) (y : Addr) (vs : List Value) (x : Int64) (h0 : Heap) (n0 : Nat) (Z0 : n0 ≤ h0.size) (Fr1 : Fld Z h0 a1 "com/example/nackoff/nackoff/RetryPolicy" "retries" "I" (.int p2)) (Fw1 : Fld Z h0 a1 "com/example/nackoff/nackoff/RetryPolicy" "waitsMs" "Ljava/util/List;" (.ref wa)) (B : WRP Z h0 wa al) (E_al : Exa Z h0 al "java/util/ArrayList") (Fs : Fld Z h0 al "java/util/ArrayList" "size" "I" (.int n)) (Fe : Fld Z h0 al "java/util/ArrayList" "elementData" "[Ljava/lang/Object;" (.ref ea)) (V : Arv Z h0 ea kE (.object "java/lang/Object") n vs .null) (E_y : Exa Z h0 y "java/lang/Long") (Fy : Fld Z h0 y "java/lang/Long" "value" "J" (.long x)) (h1 : ¬ p2 < (1 : Int32)) (hm : (if n < p2 then n else p2) = kx) (hv : vs.getD (kx - (1 : Int32)).toNatClampNeg .null = .ref y) (hk0 : ¬ (kx - (1 : Int32)) < (0 : Int32)) (hk1 : (kx - (1 : Int32)) < n) :
    MetFree l (⟨"com/example/nackoff/nackoff/RetryPolicy", "waitBeforeRetryMs", "(I)J"⟩ : MethodName) (head1 (Jvm.Cond.code (⟨"com/example/nackoff/nackoff/RetryPolicy", "waitBeforeRetryMs", "(I)J"⟩ : MethodName) prog_3_method_8_code 2 (some .long) :: ws) ({ frames := 4, cells := 0, slots := 0, locals := 53 } : Room)) (fun a U => a = #[(.ref a1), (.int p2)] ∧ Z.Warmed39 U.vm ∧ U.heap = h0) (fun _ _ _ _ _ => True) (fun _ U o U' => ∃ v L, o = .returned v ∧ QP (.long x) h0 n0 v U'.heap L ∧ FrameEnd U o U' L ({ frames := 4, cells := 0, slots := 0, locals := 53 } : Room).cells ({ frames := 4, cells := 0, slots := 0, locals := 53 } : Room).slots) := by
  refine MetFree.of_bodySF (plainFor_of_name pn_28) hisR ?_
  intro p e s m args below meth c s₁ Bd hml0 hP hK
  obtain ⟨rfl, hZ, hh⟩ := hP
  have hx := Bd.exec
  have hby := Bd.bytes
  have hml : c.maxLocals = 2 := hml0
  have hown : s.vm.findClass "com/example/nackoff/nackoff/RetryPolicy" = some m.cls := findClass_of_methodNamed Bd.named
  have hnm := (name_of_methodNamed Bd.named Bd.method).1
  have X0 : Stand p l e ({ frames := 4, cells := 0, slots := 0, locals := 53 } : Room) s m #[(.ref a1), (.int p2)] below meth c s₁ [] 0 0 := Stand.of_body Bd
  have e0 : s₁.heap = h0 := by rw [← hh, Bd.state]; rfl
  have N0 := Fr.nil n0
  have go0 : Go p.tables e below s₁ (mkF m 0 #[.val (.ref a1), .val (.int p2)] []) s₁ (entryFrame m #[(.ref a1), (.int p2)] 2) := fun t k => castTop (ef_28 m a1 p2) k
  have go1 : Go p.tables e below s₁ (mkF m 7 #[.val (.ref a1), .val (.int p2)] [(.ref a1), (.int p2)]) s₁ (entryFrame m #[(.ref a1), (.int p2)] 2) := by
    intro t k
    refine go0 t ?_
    show Steps _ _ _ (s₁.setTop (mkF m 0 #[.val (.ref a1), .val (.int p2)] [])) _
    refine XS.iloadN X0.here hx rfl (hb hby d28_0) rfl ?_
    show Steps _ _ _ (s₁.setTop (mkF m 1 #[.val (.ref a1), .val (.int p2)] [(.int p2)])) _
    refine XS.iconst X0.here hx rfl (hb hby d28_1) ?_
    show Steps _ _ _ (s₁.setTop (mkF m 2 #[.val (.ref a1), .val (.int p2)] [(.int (1 : Int32)), (.int p2)])) _
    refine XS.icmpNo X0.here hx rfl (hb hby d28_2) rfl (flt h1).1 ?_
    show Steps _ _ _ (s₁.setTop (mkF m 5 #[.val (.ref a1), .val (.int p2)] [])) _
    refine XS.iloadN X0.here hx rfl (hb hby d28_5) rfl ?_
    show Steps _ _ _ (s₁.setTop (mkF m 6 #[.val (.ref a1), .val (.int p2)] [(.int p2)])) _
    refine XS.aloadN X0.here hx rfl (hb hby d28_6) rfl rfl ?_
    exact k
  obtain ⟨T2, X2, e2, st2⟩ := getF X0 hx hZ hown (host := "") (Or.inl (wk hw 117 rfl)) Via.refl e0 Fr1 (g := (mkF m 7 #[.val (.ref a1), .val (.int p2)] [(.ref a1), (.int p2)])) rfl rfl (hb hby d28_7)
  have go3 : Go p.tables e below T2 (mkF m 32 #[.val (.ref a1), .val (.int p2)] [(.ref a1)]) s₁ (entryFrame m #[(.ref a1), (.int p2)] 2) := by
    intro t k
    refine go1 t ?_
    show Steps _ _ _ (s₁.setTop (mkF m 7 #[.val (.ref a1), .val (.int p2)] [(.ref a1), (.int p2)])) _
    refine st2 _ ?_
    show Steps _ _ _ (T2.setTop (mkF m 10 #[.val (.ref a1), .val (.int p2)] [(.int p2), (.int p2)])) _
    refine XS.icmpYes X2.here hx rfl (pc0 := 10) (pc' := 31) rfl (hb hby d28_10) rfl (flt Int32.lt_irrefl).2.2.2 (by decide) (by decide) ?_
    show Steps _ _ _ (T2.setTop (mkF m 31 #[.val (.ref a1), .val (.int p2)] [])) _
    refine XS.aloadN X2.here hx rfl (hb hby d28_31) rfl rfl ?_
    exact k
  obtain ⟨T4, X4, e4, st4⟩ := getF X2 hx hZ hown (host := "") (Or.inl (wk hw 119 rfl)) Via.refl e2 Fw1 (g := (mkF m 32 #[.val (.ref a1), .val (.int p2)] [(.ref a1)])) rfl rfl (hb hby d28_32)
  have go5 : Go p.tables e below T4 (mkF m 37 #[.val (.ref a1), .val (.int p2)] [(.ref a1), (.int p2), (.ref wa)]) s₁ (entryFrame m #[(.ref a1), (.int p2)] 2) := by
    intro t k
    refine go3 t ?_
    show Steps _ _ _ (T2.setTop (mkF m 32 #[.val (.ref a1), .val (.int p2)] [(.ref a1)])) _
    refine st4 _ ?_
    show Steps _ _ _ (T4.setTop (mkF m 35 #[.val (.ref a1), .val (.int p2)] [(.ref wa)])) _
    refine XS.iloadN X4.here hx rfl (hb hby d28_35) rfl ?_
    show Steps _ _ _ (T4.setTop (mkF m 36 #[.val (.ref a1), .val (.int p2)] [(.int p2), (.ref wa)])) _
    refine XS.aloadN X4.here hx rfl (hb hby d28_36) rfl rfl ?_
    exact k
  obtain ⟨T6, X6, e6, st6⟩ := getF X4 hx hZ hown (host := "") (Or.inl (wk hw 119 rfl)) Via.refl e4 Fw1 (g := (mkF m 37 #[.val (.ref a1), .val (.int p2)] [(.ref a1), (.int p2), (.ref wa)])) rfl rfl (hb hby d28_37)
  have go7 : Go p.tables e below T6 (mkF m 40 #[.val (.ref a1), .val (.int p2)] [(.ref wa), (.int p2), (.ref wa)]) s₁ (entryFrame m #[(.ref a1), (.int p2)] 2) := by
    intro t k
    refine go5 t ?_
    show Steps _ _ _ (T4.setTop (mkF m 37 #[.val (.ref a1), .val (.int p2)] [(.ref a1), (.int p2), (.ref wa)])) _
    refine st6 _ ?_
    exact k
  obtain ⟨T8, L8, X8, N8q, e8, st8⟩ := own_lsz l Z a0 hw X6 hx hZ hown (wk hw 208 rfl) e6 Z0 B E_al Fs (g := (mkF m 40 #[.val (.ref a1), .val (.int p2)] [(.ref wa), (.int p2), (.ref wa)])) rfl (by rw [hml]; rfl) rfl (hb hby d28_40) (W := 2) (by show 2 * 0 + _ ≤ _; exact Nat.le_of_eq rfl) (by decide) (by decide) (by decide) (by decide)
  have N8 := Fr.app N0 N8q
  have go10 : Go p.tables e below T8 (mkF m 45 #[.val (.ref a1), .val (.int p2)] [(.int n), (.int p2), (.ref wa)]) s₁ (entryFrame m #[(.ref a1), (.int p2)] 2) := by
    intro t k
    refine go7 t ?_
    show Steps _ _ _ (T6.setTop (mkF m 40 #[.val (.ref a1), .val (.int p2)] [(.ref wa), (.int p2), (.ref wa)])) _
    refine st8.trans ?_
    exact k
  obtain ⟨_, _, ⟨T9, L9, k9, n9⟩, -, X9, ⟨Lc9, hQ9, l9, y9, z9⟩, st9⟩ := Jvm.LawKit.callS X8 hx (y := (⟨"java/lang/Math", "min", "(II)I"⟩ : MethodName)) hown (mvT hZ (wk hw 209 rfl)) (mvT hZ (wk hw 200 rfl)) (mvT hZ (wk hw 201 rfl)) (mvT hZ (wk hw 202 rfl)) (by decide) (backOf (W := 1) (rm27 l Z a0 hw [] p2 n h0 n0 Z0) hZ (wk hw 202 rfl) (wk hw 201 rfl) (by decide) (by decide)) (g := (mkF m 45 #[.val (.ref a1), .val (.int p2)] [(.int n), (.int p2), (.ref wa)])) rfl (by rw [hml]; rfl) (argsL := [(.int p2), (.int n)]) (rest := [(.ref wa)]) (lenOf pd_6 rfl) rfl (by show 2 * 0 + _ ≤ _; exact Nat.le_of_eq rfl) (hb hby d28_45) (fun _ _ => ⟨rfl, e8, (by decide : 0 + 0 ≤ _), (by decide : 0 + 0 ≤ _)⟩)
  dsimp only [Pt.U, Pt.locs, Pt.cells, Pt.slots] at X9 l9 y9 z9 st9 hQ9
  subst l9 y9 z9
  obtain ⟨hv9, N9q, e9⟩ := hQ9
  rw [hm] at hv9
  subst hv9
  have N9 := Fr.app N8 N9q
  have go11 : Go p.tables e below T9 (mkF m 50 #[.val (.ref a1), .val (.int p2)] [(.int (kx - (1 : Int32))), (.ref wa)]) s₁ (entryFrame m #[(.ref a1), (.int p2)] 2) := by
    intro t k
    refine go10 t ?_
    show Steps _ _ _ (T8.setTop (mkF m 45 #[.val (.ref a1), .val (.int p2)] [(.int n), (.int p2), (.ref wa)])) _
    refine st9 _ ?_
    show Steps _ _ _ (T9.setTop (mkF m 48 #[.val (.ref a1), .val (.int p2)] [(.int kx), (.ref wa)])) _
    refine XS.iconst X9.here hx rfl (hb hby d28_48) ?_
    show Steps _ _ _ (T9.setTop (mkF m 49 #[.val (.ref a1), .val (.int p2)] [(.int (1 : Int32)), (.int kx), (.ref wa)])) _
    refine XS.isub X9.here hx rfl (hb hby d28_49) rfl ?_
    exact k
  obtain ⟨T12, L12, X12, N12q, e12, st12⟩ := own_lget l Z a0 hw X9 hx hZ hown (wk hw 210 rfl) e9 Z0 B E_al Fe Fs V hv hk0 hk1 (g := (mkF m 50 #[.val (.ref a1), .val (.int p2)] [(.int (kx - (1 : Int32))), (.ref wa)])) rfl (by rw [hml]; rfl) rfl (hb hby d28_50) (W := 0) (by show 2 * 0 + _ ≤ _; exact Nat.le_of_eq rfl) (by decide) (by decide) (by decide) (by decide)
  have N12 := Fr.app N9 N12q
  have go13 : Go p.tables e below T12 (mkF m 55 #[.val (.ref a1), .val (.int p2)] [(.ref y)]) s₁ (entryFrame m #[(.ref a1), (.int p2)] 2) := by
    intro t k
    refine go11 t ?_
    show Steps _ _ _ (T9.setTop (mkF m 50 #[.val (.ref a1), .val (.int p2)] [(.int (kx - (1 : Int32))), (.ref wa)])) _
    refine st12.trans ?_
    exact k
  obtain ⟨T14, X14, e14, st14⟩ := castY X12 hx hZ hown (wk hw 211 rfl) e12 (Ins.self E_y) (g := (mkF m 55 #[.val (.ref a1), .val (.int p2)] [(.ref y)])) rfl rfl (hb hby d28_55)
  have go16 : Go p.tables e below T14 (mkF m 58 #[.val (.ref a1), .val (.int p2)] [(.ref y)]) s₁ (entryFrame m #[(.ref a1), (.int p2)] 2) := by
    intro t k
    refine go13 t ?_
    show Steps _ _ _ (T12.setTop (mkF m 55 #[.val (.ref a1), .val (.int p2)] [(.ref y)])) _
    refine st14 _ ?_
    exact k
  obtain ⟨cq15, kq15, q15a, q15b, q15c⟩ := isOf hZ e14 E_y
  obtain ⟨_, _, ⟨T15, L15, k15, n15⟩, -, X15, ⟨Lc15, hQ15, l15, y15, z15⟩, st15⟩ := X14.virtualBack hx (y := (⟨"java/lang/Long", "longValue", "()J"⟩ : MethodName)) (z := (⟨"java/lang/Long", "longValue", "()J"⟩ : MethodName)) hown (mvT hZ (wk hw 212 rfl)) (mvT hZ (wk hw 181 rfl)) (notFace_of_selects (args := #[]) (mvT hZ (wk hw 183 rfl))) (mvT hZ (wk hw 183 rfl)) (mvT hZ (wk hw 182 rfl)) (by decide) (backOf (W := 0) (rm24 l Z a0 hw [] y x h0 n0 Z0 Fy) hZ (wk hw 184 rfl) (wk hw 38 rfl) (by decide) (by decide)) q15a q15c (g := (mkF m 58 #[.val (.ref a1), .val (.int p2)] [(.ref y)])) rfl (by rw [hml]; rfl) (Steps.refl _) (argsL := []) (rest := []) (lenOf pd_9 rfl) rfl (by show 2 * 0 + _ ≤ _; exact Nat.le_of_eq rfl) (hb hby d28_58) (fun _ _ => ⟨rfl, e14, (by decide : 0 + 0 ≤ _), (by decide : 0 + 0 ≤ _)⟩)
  dsimp only [Pt.U, Pt.locs, Pt.cells, Pt.slots] at X15 l15 y15 z15 st15 hQ15
  subst l15 y15 z15
  obtain ⟨rfl, N15q, e15⟩ := hQ15
  have N15 := Fr.app N12 N15q
  have go17 : Go p.tables e below T15 (mkF m 61 #[.val (.ref a1), .val (.int p2)] [(.long x)]) s₁ (entryFrame m #[(.ref a1), (.int p2)] 2) := by
    intro t k
    refine go16 t ?_
    show Steps _ _ _ (T14.setTop (mkF m 58 #[.val (.ref a1), .val (.int p2)] [(.ref y)])) _
    refine st15.trans ?_
    exact k
  obtain ⟨fs, hr, hrun, hended, hW, hsame⟩ := X15.leave (v := some (.long x)) (fun h => by rw [Bd.returns] at h; cases h)
  refine ⟨_, _, go17 _ ?_, hrun, hended, _, _, rfl, ?_, ⟨_, rfl⟩, hW, hsame.mono (by decide) (by decide)⟩
  · exact retOut X15 hx Bd.returns rfl (Or.inr (Or.inl ⟨rfl, rfl, _, rfl⟩)) (hb hby d28_61) hr
  · show QP (.long x) h0 n0 _ T15.heap _
    rw [e15]
    exact ⟨rfl, N15, rfl⟩
theorem pn_1 : plainName "com/example/nackoff/nackoff/RetryPolicy" = true := by first | (simp [plainName, overriddenIn]; done) | decide +kernel
theorem ef_1 (m : MethodId) (x0 : Int32) (x1 : Addr) : entryFrame m #[(.int x0), (.ref x1)] 8 = mkF m 0 #[.val (.int x0), .val (.ref x1), .unset, .unset, .unset, .unset, .unset, .unset] [] := by first | (simp [entryFrame, mkF, argsToLocals, Value.category]; done) | rfl
theorem d1_0 : decode prog_3_method_3_code 0 = .ok (.iload_n 0, 1) := by decide +kernel
theorem d1_1 : decode prog_3_method_3_code 1 = .ok (.ifCond .lt 10, 3) := by decide +kernel
theorem d1_4 : decode prog_3_method_3_code 4 = .ok (.iload_n 0, 1) := by decide +kernel
theorem d1_5 : decode prog_3_method_3_code 5 = .ok (.sipush 1000, 3) := by decide +kernel
theorem d1_8 : decode prog_3_method_3_code 8 = .ok (.if_icmp .le 17, 3) := by decide +kernel
theorem d1_25 : decode prog_3_method_3_code 25 = .ok (.aload_n 1, 1) := by decide +kernel
theorem d1_26 : decode prog_3_method_3_code 26 = .ok (.arraylength, 1) := by decide +kernel
theorem d1_27 : decode prog_3_method_3_code 27 = .ok (.ifCond .ne 13, 3) := by decide +kernel
theorem d1_40 : decode prog_3_method_3_code 40 = .ok (.new 35, 3) := by decide +kernel
theorem d1_43 : decode prog_3_method_3_code 43 = .ok (.dup, 1) := by decide +kernel
theorem d1_44 : decode prog_3_method_3_code 44 = .ok (.aload_n 1, 1) := by decide +kernel
theorem d1_45 : decode prog_3_method_3_code 45 = .ok (.arraylength, 1) := by decide +kernel
theorem d1_46 : decode prog_3_method_3_code 46 = .ok (.invokespecial 37, 3) := by decide +kernel
theorem pd_10 : parseMethodDescriptor "(I)V" = some ⟨[.int], none⟩ := by decide +kernel
theorem d1_49 : decode prog_3_method_3_code 49 = .ok (.astore_n 2, 1) := by decide +kernel
theorem d1_50 : decode prog_3_method_3_code 50 = .ok (.aload_n 1, 1) := by decide +kernel
theorem d1_51 : decode prog_3_method_3_code 51 = .ok (.astore_n 3, 1) := by decide +kernel
theorem d1_52 : decode prog_3_method_3_code 52 = .ok (.aload_n 3, 1) := by decide +kernel
theorem d1_53 : decode prog_3_method_3_code 53 = .ok (.arraylength, 1) := by decide +kernel
theorem d1_54 : decode prog_3_method_3_code 54 = .ok (.istore 4, 2) := by decide +kernel
theorem d1_56 : decode prog_3_method_3_code 56 = .ok (.iconst 0, 1) := by decide +kernel
theorem d1_57 : decode prog_3_method_3_code 57 = .ok (.istore 5, 2) := by decide +kernel
theorem d1_59 : decode prog_3_method_3_code 59 = .ok (.iload 5, 2) := by decide +kernel
theorem d1_61 : decode prog_3_method_3_code 61 = .ok (.iload 4, 2) := by decide +kernel
theorem d1_63 : decode prog_3_method_3_code 63 = .ok (.if_icmp .ge 58, 3) := by decide +kernel
theorem d1_66 : decode prog_3_method_3_code 66 = .ok (.aload_n 3, 1) := by decide +kernel
theorem d1_67 : decode prog_3_method_3_code 67 = .ok (.iload 5, 2) := by decide +kernel
theorem d1_69 : decode prog_3_method_3_code 69 = .ok (.laload, 1) := by decide +kernel
theorem d1_70 : decode prog_3_method_3_code 70 = .ok (.lstore 6, 2) := by decide +kernel
theorem d1_72 : decode prog_3_method_3_code 72 = .ok (.lload 6, 2) := by decide +kernel
theorem d1_74 : decode prog_3_method_3_code 74 = .ok (.lconst 1, 1) := by decide +kernel
theorem d1_75 : decode prog_3_method_3_code 75 = .ok (.lcmp, 1) := by decide +kernel
theorem d1_76 : decode prog_3_method_3_code 76 = .ok (.ifCond .lt 12, 3) := by decide +kernel
theorem d1_79 : decode prog_3_method_3_code 79 = .ok (.lload 6, 2) := by decide +kernel
theorem d1_81 : decode prog_3_method_3_code 81 = .ok (.ldc2_w 40, 3) := by decide +kernel
theorem d1_84 : decode prog_3_method_3_code 84 = .ok (.lcmp, 1) := by decide +kernel
theorem d1_85 : decode prog_3_method_3_code 85 = .ok (.ifCond .le 18, 3) := by decide +kernel
theorem d1_103 : decode prog_3_method_3_code 103 = .ok (.aload_n 2, 1) := by decide +kernel
theorem d1_104 : decode prog_3_method_3_code 104 = .ok (.lload 6, 2) := by decide +kernel
theorem d1_106 : decode prog_3_method_3_code 106 = .ok (.invokestatic 45, 3) := by decide +kernel
theorem pd_11 : parseMethodDescriptor "(J)Ljava/lang/Long;" = some ⟨[.long], some (.object "java/lang/Long")⟩ := by decide +kernel
theorem d1_109 : decode prog_3_method_3_code 109 = .ok (.invokeinterface 51 2, 5) := by decide +kernel
theorem pd_12 : parseMethodDescriptor "(Ljava/lang/Object;)Z" = some ⟨[(.object "java/lang/Object")], some .boolean⟩ := by decide +kernel
theorem d1_114 : decode prog_3_method_3_code 114 = .ok (.pop, 1) := by decide +kernel
theorem d1_115 : decode prog_3_method_3_code 115 = .ok (.iinc 5 1, 3) := by decide +kernel
theorem d1_118 : decode prog_3_method_3_code 118 = .ok (.goto (-59), 3) := by decide +kernel
theorem d1_121 : decode prog_3_method_3_code 121 = .ok (.new 8, 3) := by decide +kernel
theorem d1_124 : decode prog_3_method_3_code 124 = .ok (.dup, 1) := by decide +kernel
theorem d1_125 : decode prog_3_method_3_code 125 = .ok (.iload_n 0, 1) := by decide +kernel
theorem d1_126 : decode prog_3_method_3_code 126 = .ok (.aload_n 2, 1) := by decide +kernel
theorem d1_127 : decode prog_3_method_3_code 127 = .ok (.invokestatic 57, 3) := by decide +kernel
theorem pd_13 : parseMethodDescriptor "(Ljava/util/List;)Ljava/util/List;" = some ⟨[(.object "java/util/List")], some (.object "java/util/List")⟩ := by decide +kernel
theorem d1_130 : decode prog_3_method_3_code 130 = .ok (.invokestatic 63, 3) := by decide +kernel
theorem pd_14 : parseMethodDescriptor "()Ljava/util/List;" = some ⟨[], some (.object "java/util/List")⟩ := by decide +kernel
theorem d1_133 : decode prog_3_method_3_code 133 = .ok (.invokespecial 67, 3) := by decide +kernel
theorem pd_15 : parseMethodDescriptor "(ILjava/util/List;Ljava/util/List;)V" = some ⟨[.int, (.object "java/util/List"), (.object "java/util/List")], none⟩ := by decide +kernel
theorem d1_136 : decode prog_3_method_3_code 136 = .ok (.areturn, 1) := by decide +kernel
set_option maxRecDepth 65536 in
set_option maxHeartbeats 40000000 in
theorem rm1_1 (l : Launch) (Z : State) (a0 : Array Value) (hw : ∀ d ∈ tables_1, d.before a0 Z = true) (ws : List Jvm.Cond) (p1 : Int32) (a2 : Addr) (k2 : ClassId) (x1 : Int64) (wC : Addr) (clC : Cell) (wL mA mL mR : Addr) (h0 : Heap) (n0 : Nat) (Z0 : n0 ≤ h0.size) (hr0 : ¬ p1 < (0 : Int32)) (hr1 : ¬ (1000 : Int32) < p1) (V2 : Arv Z h0 a2 k2 .long (1 : Int32) [(.long x1)] (.long (0 : Int64))) (hx1 : ¬ (lcmpW x1 (1 : Int64) < (0 : Int32)) ∧ ¬ ((0 : Int32) < lcmpW x1 (86400000 : Int64))) (HC : LC Z h0 wC clC) (S_L : Sta Z h0 "java/util/ImmutableCollections" "EMPTY_LIST" "Ljava/util/ImmutableCollections$ListN;" (.ref wL)) (MA : Mr Z "java/util/ArrayList" mA) (ML : Mr Z "java/util/Collections$UnmodifiableList" mL) (MR : Mr Z "java/util/Collections$UnmodifiableRandomAccessList" mR) (hmL : ¬ (mA = mL)) (hmR : ¬ (mA = mR)) :
    MetFree l (⟨"com/example/nackoff/nackoff/RetryPolicy", "of", "(I[J)Lcom/example/nackoff/nackoff/RetryPolicy;"⟩ : MethodName) (head1 (Jvm.Cond.code (⟨"com/example/nackoff/nackoff/RetryPolicy", "of", "(I[J)Lcom/example/nackoff/nackoff/RetryPolicy;"⟩ : MethodName) prog_3_method_3_code 8 (some (.object "com/example/nackoff/nackoff/RetryPolicy")) :: ws) ({ frames := 5, cells := 5, slots := 10, locals := 67 } : Room)) (fun a U => a = #[(.int p1), (.ref a2)] ∧ Z.Warmed39 U.vm ∧ U.heap = h0) (fun _ _ _ _ _ => True) (fun _ U o U' => ∃ v L, o = .returned v ∧ Q1_1 Z p1 x1 h0 n0 v U'.heap L ∧ FrameEnd U o U' L ({ frames := 5, cells := 5, slots := 10, locals := 67 } : Room).cells ({ frames := 5, cells := 5, slots := 10, locals := 67 } : Room).slots) := by
  refine MetFree.of_bodySF (plainFor_of_name pn_1) hisR ?_
  intro p e s m args below meth c s₁ Bd hml0 hP hK
  obtain ⟨rfl, hZ, hh⟩ := hP
  have hx := Bd.exec
  have hby := Bd.bytes
  have hml : c.maxLocals = 8 := hml0
  have hown : s.vm.findClass "com/example/nackoff/nackoff/RetryPolicy" = some m.cls := findClass_of_methodNamed Bd.named
  have hnm := (name_of_methodNamed Bd.named Bd.method).1
  have X0 : Stand p l e ({ frames := 5, cells := 5, slots := 10, locals := 67 } : Room) s m #[(.int p1), (.ref a2)] below meth c s₁ [] 0 0 := Stand.of_body Bd
  have e0 : s₁.heap = h0 := by rw [← hh, Bd.state]; rfl
  have N0 := Fr.nil n0
  have go0 : Go p.tables e below s₁ (mkF m 0 #[.val (.int p1), .val (.ref a2), .unset, .unset, .unset, .unset, .unset, .unset] []) s₁ (entryFrame m #[(.int p1), (.ref a2)] 8) := fun t k => castTop (ef_1 m p1 a2) k
  have go1 : Go p.tables e below s₁ (mkF m 26 #[.val (.int p1), .val (.ref a2), .unset, .unset, .unset, .unset, .unset, .unset] [(.ref a2)]) s₁ (entryFrame m #[(.int p1), (.ref a2)] 8) := by
    intro t k
    refine go0 t ?_
    show Steps _ _ _ (s₁.setTop (mkF m 0 #[.val (.int p1), .val (.ref a2), .unset, .unset, .unset, .unset, .unset, .unset] [])) _
    refine XS.iloadN X0.here hx rfl (hb hby d1_0) rfl ?_
    show Steps _ _ _ (s₁.setTop (mkF m 1 #[.val (.int p1), .val (.ref a2), .unset, .unset, .unset, .unset, .unset, .unset] [(.int p1)])) _
    refine XS.ifNo X0.here hx rfl (hb hby d1_1) rfl ((if0 _ _).trans (flt hr0).1) ?_
    show Steps _ _ _ (s₁.setTop (mkF m 4 #[.val (.int p1), .val (.ref a2), .unset, .unset, .unset, .unset, .unset, .unset] [])) _
    refine XS.iloadN X0.here hx rfl (hb hby d1_4) rfl ?_
    show Steps _ _ _ (s₁.setTop (mkF m 5 #[.val (.int p1), .val (.ref a2), .unset, .unset, .unset, .unset, .unset, .unset] [(.int p1)])) _
    refine XS.sipush X0.here hx rfl (hb hby d1_5) ?_
    show Steps _ _ _ (s₁.setTop (mkF m 8 #[.val (.int p1), .val (.ref a2), .unset, .unset, .unset, .unset, .unset, .unset] [(.int (1000 : Int32)), (.int p1)])) _
    refine XS.icmpYes X0.here hx rfl (pc0 := 8) (pc' := 25) rfl (hb hby d1_8) rfl (flt hr1).2.2.2 (by decide) (by decide) ?_
    show Steps _ _ _ (s₁.setTop (mkF m 25 #[.val (.int p1), .val (.ref a2), .unset, .unset, .unset, .unset, .unset, .unset] [])) _
    refine XS.aloadN X0.here hx rfl (hb hby d1_25) rfl rfl ?_
    exact k
  obtain ⟨clx2, Arx2, -, Sx2, Nx2, Hx2, -⟩ := id V2
  have go4 : Go p.tables e below s₁ (mkF m 40 #[.val (.int p1), .val (.ref a2), .unset, .unset, .unset, .unset, .unset, .unset] []) s₁ (entryFrame m #[(.int p1), (.ref a2)] 8) := by
    intro t k
    refine go1 t ?_
    show Steps _ _ _ (s₁.setTop (mkF m 26 #[.val (.int p1), .val (.ref a2), .unset, .unset, .unset, .unset, .unset, .unset] [(.ref a2)])) _
    refine X0.arraylength hx (by rw [e0]; exact Arx2.1) (State.isArrayOf_alike hZ.alike Arx2.2.1) (g := (mkF m 26 #[.val (.int p1), .val (.ref a2), .unset, .unset, .unset, .unset, .unset, .unset] [(.ref a2)])) rfl rfl (hb hby d1_26) _ ?_
    rw [len_of Sx2 Nx2]
    show Steps _ _ _ (s₁.setTop (mkF m 27 #[.val (.int p1), .val (.ref a2), .unset, .unset, .unset, .unset, .unset, .unset] [(.int (1 : Int32))])) _
    refine XS.ifYes X0.here hx rfl (pc0 := 27) (pc' := 40) rfl (hb hby d1_27) rfl ((if0 _ _).trans (feq (by decide)).2) (by decide) (by decide) ?_
    exact k
  obtain ⟨T5, h5, X5, e5, E5, A5, D5, -, st5⟩ := newO X0 hx hZ hown (wk hw 8 rfl) (wk hw 9 rfl) (wk hw 10 rfl) e0 (g := (mkF m 40 #[.val (.int p1), .val (.ref a2), .unset, .unset, .unset, .unset, .unset, .unset] [])) rfl (hb hby d1_40) (by decide) (by decide)
  obtain ⟨b3, g5⟩ : ∃ z, z = h0.size := ⟨_, rfl⟩
  rw [← g5] at A5 D5 st5
  have ne_a2_b3 : a2 ≠ b3 := Nat.ne_of_lt (Nat.lt_of_lt_of_le V2.lt (Nat.le_of_eq g5.symm))
  have g_b3 : n0 ≤ b3 := Nat.le_trans Z0 (Nat.le_of_eq g5.symm)
  have sz_b3 : h0.size ≤ b3 := Nat.le_trans (Keep.refl h0 []).1 (Nat.le_of_eq g5.symm)
  have F_modCount_b3 : Fld Z h5 b3 "java/util/AbstractList" "modCount" "I" (.int (0 : Int32)) := D5 (Or.inl (wk hw 30 rfl)) (ty := .int) (by decide)
  have F_elementData_b3 : Fld Z h5 b3 "java/util/ArrayList" "elementData" "[Ljava/lang/Object;" .null := D5 (Or.inl (wk hw 34 rfl)) (ty := (.array (.object "java/lang/Object"))) (by decide)
  have F_size_b3 : Fld Z h5 b3 "java/util/ArrayList" "size" "I" (.int (0 : Int32)) := D5 (Or.inl (wk hw 56 rfl)) (ty := .int) (by decide)
  have go6 : Go p.tables e below T5 (mkF m 45 #[.val (.int p1), .val (.ref a2), .unset, .unset, .unset, .unset, .unset, .unset] [(.ref a2), (.ref b3), (.ref b3)]) s₁ (entryFrame m #[(.int p1), (.ref a2)] 8) := by
    intro t k
    refine go4 t ?_
    show Steps _ _ _ (s₁.setTop (mkF m 40 #[.val (.int p1), .val (.ref a2), .unset, .unset, .unset, .unset, .unset, .unset] [])) _
    refine st5 _ ?_
    show Steps _ _ _ (T5.setTop (mkF m 43 #[.val (.int p1), .val (.ref a2), .unset, .unset, .unset, .unset, .unset, .unset] [(.ref b3)])) _
    refine XS.dup X5.here hx rfl (hb hby d1_43) rfl rfl ?_
    show Steps _ _ _ (T5.setTop (mkF m 44 #[.val (.int p1), .val (.ref a2), .unset, .unset, .unset, .unset, .unset, .unset] [(.ref b3), (.ref b3)])) _
    refine XS.aloadN X5.here hx rfl (hb hby d1_44) rfl rfl ?_
    exact k
  have f8 : Arv Z h5 a2 k2 .long (1 : Int32) [(.long x1)] (.long (0 : Int64)) := (V2.ext E5)
  obtain ⟨clx7, Arx7, -, Sx7, Nx7, Hx7, -⟩ := id f8
  have go11 : Go p.tables e below T5 (mkF m 46 #[.val (.int p1), .val (.ref a2), .unset, .unset, .unset, .unset, .unset, .unset] [(.int (1 : Int32)), (.ref b3), (.ref b3)]) s₁ (entryFrame m #[(.int p1), (.ref a2)] 8) := by
    intro t k
    refine go6 t ?_
    show Steps _ _ _ (T5.setTop (mkF m 45 #[.val (.int p1), .val (.ref a2), .unset, .unset, .unset, .unset, .unset, .unset] [(.ref a2), (.ref b3), (.ref b3)])) _
    refine X5.arraylength hx (by rw [e5]; exact Arx7.1) (State.isArrayOf_alike hZ.alike Arx7.2.1) (g := (mkF m 45 #[.val (.int p1), .val (.ref a2), .unset, .unset, .unset, .unset, .unset, .unset] [(.ref a2), (.ref b3), (.ref b3)])) rfl rfl (hb hby d1_45) _ ?_
    rw [len_of Sx7 Nx7]
    exact k
  have f10 : n0 ≤ h5.size := (Nat.le_trans Z0 E5.1)
  have f12 : Keep h0 h5 [] := ((Keep.refl h0 []).ext E5)
  obtain ⟨_, _, ⟨T9, L9, k9, n9⟩, -, X9, ⟨Lc9, hQ9, l9, y9, z9⟩, st9⟩ := X5.specialBack hx (y := (⟨"java/util/ArrayList", "<init>", "(I)V"⟩ : MethodName)) rfl hown (mvT hZ (wk hw 11 rfl)) (mvT hZ (wk hw 12 rfl)) (mvT hZ (wk hw 13 rfl)) (by decide) (backOf (W := 1) (rm2_1 l Z a0 hw [] b3 h5 n0 f10 A5 F_modCount_b3 F_elementData_b3 F_size_b3 g_b3) hZ (wk hw 13 rfl) (wk hw 10 rfl) (by decide) (by decide)) (g := (mkF m 46 #[.val (.int p1), .val (.ref a2), .unset, .unset, .unset, .unset, .unset, .unset] [(.int (1 : Int32)), (.ref b3), (.ref b3)])) rfl (by rw [hml]; rfl) (Steps.refl _) (a := b3) (argsL := [(.int (1 : Int32))]) (rest := [(.ref b3)]) (lenOf pd_10 rfl) rfl (by show 2 * 0 + _ ≤ _; exact Nat.le_of_eq rfl) (hb hby d1_46) (fun _ _ => ⟨rfl, e5, (by decide : 1 + 1 ≤ _), (by decide : 3 + 1 ≤ _)⟩)
  dsimp only [Pt.U, Pt.locs, Pt.cells, Pt.slots] at X9 l9 y9 z9 st9 hQ9
  subst l9 y9 z9
  obtain ⟨rfl, N9q, K9, b9, kE9, SZ9, Fm9, Fe9, Fs9, Vx9, O9⟩ := hQ9
  have N9 := Fr.app N0 N9q
  have ne_b3_b9 : b3 ≠ b9 := Nat.ne_of_lt (Nat.lt_of_lt_of_le A5.lt SZ9)
  have ne_a2_b9 : a2 ≠ b9 := Nat.ne_of_lt (Nat.lt_of_lt_of_le f8.lt SZ9)
  have g_b9 : n0 ≤ b9 := Nat.le_trans f10 SZ9
  have sz_b9 : h0.size ≤ b9 := Nat.le_trans f12.1 SZ9
  have go13 : Go p.tables e below T9 (mkF m 53 #[.val (.int p1), .val (.ref a2), .val (.ref b3), .val (.ref a2), .unset, .unset, .unset, .unset] [(.ref a2)]) s₁ (entryFrame m #[(.int p1), (.ref a2)] 8) := by
    intro t k
    refine go11 t ?_
    show Steps _ _ _ (T5.setTop (mkF m 46 #[.val (.int p1), .val (.ref a2), .unset, .unset, .unset, .unset, .unset, .unset] [(.int (1 : Int32)), (.ref b3), (.ref b3)])) _
    refine st9.trans ?_
    show Steps _ _ _ (T9.setTop (mkF m 49 #[.val (.int p1), .val (.ref a2), .unset, .unset, .unset, .unset, .unset, .unset] [(.ref b3)])) _
    refine XS.astoreN X9.here hx rfl (hb hby d1_49) rfl rfl (l' := #[.val (.int p1), .val (.ref a2), .val (.ref b3), .unset, .unset, .unset, .unset, .unset]) rfl ?_
    show Steps _ _ _ (T9.setTop (mkF m 50 #[.val (.int p1), .val (.ref a2), .val (.ref b3), .unset, .unset, .unset, .unset, .unset] [])) _
    refine XS.aloadN X9.here hx rfl (hb hby d1_50) rfl rfl ?_
    show Steps _ _ _ (T9.setTop (mkF m 51 #[.val (.int p1), .val (.ref a2), .val (.ref b3), .unset, .unset, .unset, .unset, .unset] [(.ref a2)])) _
    refine XS.astoreN X9.here hx rfl (hb hby d1_51) rfl rfl (l' := #[.val (.int p1), .val (.ref a2), .val (.ref b3), .val (.ref a2), .unset, .unset, .unset, .unset]) rfl ?_
    show Steps _ _ _ (T9.setTop (mkF m 52 #[.val (.int p1), .val (.ref a2), .val (.ref b3), .val (.ref a2), .unset, .unset, .unset, .unset] [])) _
    refine XS.aloadN X9.here hx rfl (hb hby d1_52) rfl rfl ?_
    exact k
  have f15 : Arv Z T9.heap a2 k2 .long (1 : Int32) [(.long x1)] (.long (0 : Int64)) := (f8.keep K9 (ninS ne_a2_b3 nin0))
  obtain ⟨clx14, Arx14, -, Sx14, Nx14, Hx14, -⟩ := id f15
  have go16 : Go p.tables e below T9 (mkF m 69 #[.val (.int p1), .val (.ref a2), .val (.ref b3), .val (.ref a2), .val (.int (1 : Int32)), .val (.int (0 : Int32)), .unset, .unset] [(.int (0 : Int32)), (.ref a2)]) s₁ (entryFrame m #[(.int p1), (.ref a2)] 8) := by
    intro t k
    refine go13 t ?_
    show Steps _ _ _ (T9.setTop (mkF m 53 #[.val (.int p1), .val (.ref a2), .val (.ref b3), .val (.ref a2), .unset, .unset, .unset, .unset] [(.ref a2)])) _
    refine X9.arraylength hx Arx14.1 (State.isArrayOf_alike hZ.alike Arx14.2.1) (g := (mkF m 53 #[.val (.int p1), .val (.ref a2), .val (.ref b3), .val (.ref a2), .unset, .unset, .unset, .unset] [(.ref a2)])) rfl rfl (hb hby d1_53) _ ?_
    rw [len_of Sx14 Nx14]
    show Steps _ _ _ (T9.setTop (mkF m 54 #[.val (.int p1), .val (.ref a2), .val (.ref b3), .val (.ref a2), .unset, .unset, .unset, .unset] [(.int (1 : Int32))])) _
    refine XS.istore X9.here hx rfl (hb hby d1_54) rfl (l' := #[.val (.int p1), .val (.ref a2), .val (.ref b3), .val (.ref a2), .val (.int (1 : Int32)), .unset, .unset, .unset]) rfl ?_
    show Steps _ _ _ (T9.setTop (mkF m 56 #[.val (.int p1), .val (.ref a2), .val (.ref b3), .val (.ref a2), .val (.int (1 : Int32)), .unset, .unset, .unset] [])) _
    refine XS.iconst X9.here hx rfl (hb hby d1_56) ?_
    show Steps _ _ _ (T9.setTop (mkF m 57 #[.val (.int p1), .val (.ref a2), .val (.ref b3), .val (.ref a2), .val (.int (1 : Int32)), .unset, .unset, .unset] [(.int (0 : Int32))])) _
    refine XS.istore X9.here hx rfl (hb hby d1_57) rfl (l' := #[.val (.int p1), .val (.ref a2), .val (.ref b3), .val (.ref a2), .val (.int (1 : Int32)), .val (.int (0 : Int32)), .unset, .unset]) rfl ?_
    show Steps _ _ _ (T9.setTop (mkF m 59 #[.val (.int p1), .val (.ref a2), .val (.ref b3), .val (.ref a2), .val (.int (1 : Int32)), .val (.int (0 : Int32)), .unset, .unset] [])) _
    refine XS.iload X9.here hx rfl (hb hby d1_59) rfl ?_
    show Steps _ _ _ (T9.setTop (mkF m 61 #[.val (.int p1), .val (.ref a2), .val (.ref b3), .val (.ref a2), .val (.int (1 : Int32)), .val (.int (0 : Int32)), .unset, .unset] [(.int (0 : Int32))])) _
    refine XS.iload X9.here hx rfl (hb hby d1_61) rfl ?_
    show Steps _ _ _ (T9.setTop (mkF m 63 #[.val (.int p1), .val (.ref a2), .val (.ref b3), .val (.ref a2), .val (.int (1 : Int32)), .val (.int (0 : Int32)), .unset, .unset] [(.int (1 : Int32)), (.int (0 : Int32))])) _
    refine XS.icmpNo X9.here hx rfl (hb hby d1_63) rfl (tlt (by decide)).2.1 ?_
    show Steps _ _ _ (T9.setTop (mkF m 66 #[.val (.int p1), .val (.ref a2), .val (.ref b3), .val (.ref a2), .val (.int (1 : Int32)), .val (.int (0 : Int32)), .unset, .unset] [])) _
    refine XS.aloadN X9.here hx rfl (hb hby d1_66) rfl rfl ?_
    show Steps _ _ _ (T9.setTop (mkF m 67 #[.val (.int p1), .val (.ref a2), .val (.ref b3), .val (.ref a2), .val (.int (1 : Int32)), .val (.int (0 : Int32)), .unset, .unset] [(.ref a2)])) _
    refine XS.iload X9.here hx rfl (hb hby d1_67) rfl ?_
    exact k
  obtain ⟨clx17, Arx17, -, Sx17, Nx17, Hx17, -⟩ := id f15
  have go20 : Go p.tables e below T9 (mkF m 106 #[.val (.int p1), .val (.ref a2), .val (.ref b3), .val (.ref a2), .val (.int (1 : Int32)), .val (.int (0 : Int32)), .val (.long x1), .second] [(.long x1), (.ref b3)]) s₁ (entryFrame m #[(.int p1), (.ref a2)] 8) := by
    intro t k
    refine go16 t ?_
    show Steps _ _ _ (T9.setTop (mkF m 69 #[.val (.int p1), .val (.ref a2), .val (.ref b3), .val (.ref a2), .val (.int (1 : Int32)), .val (.int (0 : Int32)), .unset, .unset] [(.int (0 : Int32)), (.ref a2)])) _
    refine X9.laload hx (j := (0 : Int32)) (v := (.long x1)) Arx17.1 (State.isArrayOf_alike hZ.alike Arx17.2.1) Arx17.2.2 (inb_of Sx17 ⟨by decide, by decide⟩) (Hx17.at (inb_of Sx17 ⟨by decide, by decide⟩) rfl) (g := (mkF m 69 #[.val (.int p1), .val (.ref a2), .val (.ref b3), .val (.ref a2), .val (.int (1 : Int32)), .val (.int (0 : Int32)), .unset, .unset] [(.int (0 : Int32)), (.ref a2)])) rfl rfl (hb hby d1_69) _ ?_
    show Steps _ _ _ (T9.setTop (mkF m 70 #[.val (.int p1), .val (.ref a2), .val (.ref b3), .val (.ref a2), .val (.int (1 : Int32)), .val (.int (0 : Int32)), .unset, .unset] [(.long x1)])) _
    refine XS.lstore X9.here hx rfl (hb hby d1_70) rfl (l' := #[.val (.int p1), .val (.ref a2), .val (.ref b3), .val (.ref a2), .val (.int (1 : Int32)), .val (.int (0 : Int32)), .val (.long x1), .second]) rfl ?_
    show Steps _ _ _ (T9.setTop (mkF m 72 #[.val (.int p1), .val (.ref a2), .val (.ref b3), .val (.ref a2), .val (.int (1 : Int32)), .val (.int (0 : Int32)), .val (.long x1), .second] [])) _
    refine XS.lload X9.here hx rfl (hb hby d1_72) rfl ?_
    show Steps _ _ _ (T9.setTop (mkF m 74 #[.val (.int p1), .val (.ref a2), .val (.ref b3), .val (.ref a2), .val (.int (1 : Int32)), .val (.int (0 : Int32)), .val (.long x1), .second] [(.long x1)])) _
    refine XS.lconst X9.here hx rfl (hb hby d1_74) ?_
    show Steps _ _ _ (T9.setTop (mkF m 75 #[.val (.int p1), .val (.ref a2), .val (.ref b3), .val (.ref a2), .val (.int (1 : Int32)), .val (.int (0 : Int32)), .val (.long x1), .second] [(.long (1 : Int64)), (.long x1)])) _
    refine XS.lcmp X9.here hx rfl (hb hby d1_75) rfl ?_
    show Steps _ _ _ (T9.setTop (mkF m 76 #[.val (.int p1), .val (.ref a2), .val (.ref b3), .val (.ref a2), .val (.int (1 : Int32)), .val (.int (0 : Int32)), .val (.long x1), .second] [(.int (lcmpW x1 (1 : Int64)))])) _
    refine XS.ifNo X9.here hx rfl (hb hby d1_76) rfl ((if0 _ _).trans (flt hx1.1).1) ?_
    show Steps _ _ _ (T9.setTop (mkF m 79 #[.val (.int p1), .val (.ref a2), .val (.ref b3), .val (.ref a2), .val (.int (1 : Int32)), .val (.int (0 : Int32)), .val (.long x1), .second] [])) _
    refine XS.lload X9.here hx rfl (hb hby d1_79) rfl ?_
    show Steps _ _ _ (T9.setTop (mkF m 81 #[.val (.int p1), .val (.ref a2), .val (.ref b3), .val (.ref a2), .val (.int (1 : Int32)), .val (.int (0 : Int32)), .val (.long x1), .second] [(.long x1)])) _
    refine X9.ldc2Long hx hown (mvT hZ (wk hw 35 rfl)) (g := (mkF m 81 #[.val (.int p1), .val (.ref a2), .val (.ref b3), .val (.ref a2), .val (.int (1 : Int32)), .val (.int (0 : Int32)), .val (.long x1), .second] [(.long x1)])) rfl (hb hby d1_81) _ ?_
    show Steps _ _ _ (T9.setTop (mkF m 84 #[.val (.int p1), .val (.ref a2), .val (.ref b3), .val (.ref a2), .val (.int (1 : Int32)), .val (.int (0 : Int32)), .val (.long x1), .second] [(.long (86400000 : Int64)), (.long x1)])) _
    refine XS.lcmp X9.here hx rfl (hb hby d1_84) rfl ?_
    show Steps _ _ _ (T9.setTop (mkF m 85 #[.val (.int p1), .val (.ref a2), .val (.ref b3), .val (.ref a2), .val (.int (1 : Int32)), .val (.int (0 : Int32)), .val (.long x1), .second] [(.int (lcmpW x1 (86400000 : Int64)))])) _
    refine XS.ifYes X9.here hx rfl (pc0 := 85) (pc' := 103) rfl (hb hby d1_85) rfl ((if0 _ _).trans (flt hx1.2).2.2.2) (by decide) (by decide) ?_
    show Steps _ _ _ (T9.setTop (mkF m 103 #[.val (.int p1), .val (.ref a2), .val (.ref b3), .val (.ref a2), .val (.int (1 : Int32)), .val (.int (0 : Int32)), .val (.long x1), .second] [])) _
    refine XS.aloadN X9.here hx rfl (hb hby d1_103) rfl rfl ?_
    show Steps _ _ _ (T9.setTop (mkF m 104 #[.val (.int p1), .val (.ref a2), .val (.ref b3), .val (.ref a2), .val (.int (1 : Int32)), .val (.int (0 : Int32)), .val (.long x1), .second] [(.ref b3)])) _
    refine XS.lload X9.here hx rfl (hb hby d1_104) rfl ?_
    exact k
  have f19 : n0 ≤ T9.heap.size := (Nat.le_trans f10 K9.1)
  have f21 : Keep h0 T9.heap [] := (f12.trans K9 (allS (Or.inr sz_b3) all0))
  obtain ⟨_, _, ⟨T18, L18, k18, n18⟩, -, X18, ⟨Lc18, hQ18, l18, y18, z18⟩, st18⟩ := Jvm.LawKit.callS X9 hx (y := (⟨"java/lang/Long", "valueOf", "(J)Ljava/lang/Long;"⟩ : MethodName)) hown (mvT hZ (wk hw 36 rfl)) (mvT hZ (wk hw 37 rfl)) (mvT hZ (wk hw 38 rfl)) (mvT hZ (wk hw 39 rfl)) (by decide) (backOf (W := 1) (rm6 l Z a0 hw [] x1 wC clC T9.heap n0 f19 (own_LCext (own_ext0 f21) HC)) hZ (wk hw 39 rfl) (wk hw 38 rfl) (by decide) (by decide)) (g := (mkF m 106 #[.val (.int p1), .val (.ref a2), .val (.ref b3), .val (.ref a2), .val (.int (1 : Int32)), .val (.int (0 : Int32)), .val (.long x1), .second] [(.long x1), (.ref b3)])) rfl (by rw [hml]; rfl) (argsL := [(.long x1)]) (rest := [(.ref b3)]) (lenOf pd_11 rfl) rfl (by show 2 * 0 + _ ≤ _; exact Nat.le_of_eq rfl) (hb hby d1_106) (fun _ _ => ⟨rfl, rfl, (by decide : 2 + 1 ≤ _), (by decide : 4 + 1 ≤ _)⟩)
  dsimp only [Pt.U, Pt.locs, Pt.cells, Pt.slots] at X18 l18 y18 z18 st18 hQ18
  subst l18 y18 z18
  obtain ⟨b18, rfl, N18q, K18, Ey18, Fy18⟩ := hQ18
  have N18 := Fr.app N9 N18q
  have f22 : Exa Z T18.heap b3 "java/util/ArrayList" := ((A5.keep K9).keep K18)
  have f23 : Arv Z T18.heap b9 kE9 (.object "java/lang/Object") (1 : Int32) [.null] .null := (Vx9.keep K18 nin0)
  have ne_b18_al : b18 ≠ b3 := ne_exa Ey18 f22 (by decide)
  have ne_b18_e : b18 ≠ b9 := Exa.neArv Ey18 f23 (wk hw 188 rfl)
  have go26 : Go p.tables e below T18 (mkF m 109 #[.val (.int p1), .val (.ref a2), .val (.ref b3), .val (.ref a2), .val (.int (1 : Int32)), .val (.int (0 : Int32)), .val (.long x1), .second] [(.ref b18), (.ref b3)]) s₁ (entryFrame m #[(.int p1), (.ref a2)] 8) := by
    intro t k
    refine go20 t ?_
    show Steps _ _ _ (T9.setTop (mkF m 106 #[.val (.int p1), .val (.ref a2), .val (.ref b3), .val (.ref a2), .val (.int (1 : Int32)), .val (.int (0 : Int32)), .val (.long x1), .second] [(.long x1), (.ref b3)])) _
    refine st18 _ ?_
    exact k
  have f25 : n0 ≤ T18.heap.size := (Nat.le_trans f19 K18.1)
  have f27 : Fld Z T18.heap b3 "java/util/AbstractList" "modCount" "I" (.int (0 : Int32)) := (Fm9.keep K18 nin0)
  have f28 : Fld Z T18.heap b3 "java/util/ArrayList" "elementData" "[Ljava/lang/Object;" (.ref b9) := (Fe9.keep K18 nin0)
  have f29 : Fld Z T18.heap b3 "java/util/ArrayList" "size" "I" (.int (0 : Int32)) := (Fs9.keep K18 nin0)
  obtain ⟨cq24, kq24, q24a, q24b, q24c⟩ := isOf hZ rfl f22
  obtain ⟨_, _, ⟨T24, L24, k24, n24⟩, -, X24, ⟨Lc24, hQ24, l24, y24, z24⟩, st24⟩ := X18.interfaceBack hx (xi := (⟨"java/util/List", "add", "(Ljava/lang/Object;)Z"⟩ : MethodName)) (y := (⟨"java/util/ArrayList", "add", "(Ljava/lang/Object;)Z"⟩ : MethodName)) hown (mvT hZ (wk hw 44 rfl)) (mvT hZ (wk hw 45 rfl)) (mvT hZ (wk hw 46 rfl)) (mvT hZ (wk hw 47 rfl)) (mvT hZ (wk hw 48 rfl)) (mvT hZ (wk hw 49 rfl)) (mvT hZ (wk hw 50 rfl)) (mvT hZ (wk hw 51 rfl)) (by decide) (backOf (W := 0) (rm7 l Z a0 hw [] b3 b18 b9 kE9 (0 : Int32) (1 : Int32) (0 : Int32) 0 [.null] T18.heap n0 f25 f22 f27 f28 f29 g_b3 Ey18 f23 O9 ne_b3_b9 g_b9 (by decide) (by decide) (by decide) rfl (Nat.le_of_ble_eq_true rfl)) hZ (wk hw 52 rfl) (wk hw 10 rfl) (by decide) (by decide)) q24a q24b q24c (g := (mkF m 109 #[.val (.int p1), .val (.ref a2), .val (.ref b3), .val (.ref a2), .val (.int (1 : Int32)), .val (.int (0 : Int32)), .val (.long x1), .second] [(.ref b18), (.ref b3)])) rfl (by rw [hml]; rfl) (Steps.refl _) (argsL := [(.ref b18)]) (rest := []) (lenOf pd_12 rfl) rfl (by show 2 * 0 + _ ≤ _; exact Nat.le_of_eq rfl) (hb hby d1_109) (fun _ _ => ⟨rfl, rfl, (by decide : 3 + 0 ≤ _), (by decide : 5 + 0 ≤ _)⟩)
  dsimp only [Pt.U, Pt.locs, Pt.cells, Pt.slots] at X24 l24 y24 z24 st24 hQ24
  subst l24 y24 z24
  obtain ⟨rfl, N24q, K24, Fm24, Fe24, Fs24, Vx24⟩ := hQ24
  have N24 := Fr.app N18 N24q
  have go31 : Go p.tables e below T24 (mkF m 121 #[.val (.int p1), .val (.ref a2), .val (.ref b3), .val (.ref a2), .val (.int (1 : Int32)), .val (.int (1 : Int32)), .val (.long x1), .second] []) s₁ (entryFrame m #[(.int p1), (.ref a2)] 8) := by
    intro t k
    refine go26 t ?_
    show Steps _ _ _ (T18.setTop (mkF m 109 #[.val (.int p1), .val (.ref a2), .val (.ref b3), .val (.ref a2), .val (.int (1 : Int32)), .val (.int (0 : Int32)), .val (.long x1), .second] [(.ref b18), (.ref b3)])) _
    refine st24.trans ?_
    show Steps _ _ _ (T24.setTop (mkF m 114 #[.val (.int p1), .val (.ref a2), .val (.ref b3), .val (.ref a2), .val (.int (1 : Int32)), .val (.int (0 : Int32)), .val (.long x1), .second] [(.int (1 : Int32))])) _
    refine XS.pop X24.here hx rfl (hb hby d1_114) rfl rfl ?_
    show Steps _ _ _ (T24.setTop (mkF m 115 #[.val (.int p1), .val (.ref a2), .val (.ref b3), .val (.ref a2), .val (.int (1 : Int32)), .val (.int (0 : Int32)), .val (.long x1), .second] [])) _
    refine XS.iinc X24.here hx rfl (hb hby d1_115) rfl (l' := #[.val (.int p1), .val (.ref a2), .val (.ref b3), .val (.ref a2), .val (.int (1 : Int32)), .val (.int (1 : Int32)), .val (.long x1), .second]) rfl ?_
    show Steps _ _ _ (T24.setTop (mkF m 118 #[.val (.int p1), .val (.ref a2), .val (.ref b3), .val (.ref a2), .val (.int (1 : Int32)), .val (.int (1 : Int32)), .val (.long x1), .second] [])) _
    refine XS.goto X24.here hx rfl (pc0 := 118) (pc' := 59) rfl (hb hby d1_118) (by decide) (by decide) ?_
    show Steps _ _ _ (T24.setTop (mkF m 59 #[.val (.int p1), .val (.ref a2), .val (.ref b3), .val (.ref a2), .val (.int (1 : Int32)), .val (.int (1 : Int32)), .val (.long x1), .second] [])) _
    refine XS.iload X24.here hx rfl (hb hby d1_59) rfl ?_
    show Steps _ _ _ (T24.setTop (mkF m 61 #[.val (.int p1), .val (.ref a2), .val (.ref b3), .val (.ref a2), .val (.int (1 : Int32)), .val (.int (1 : Int32)), .val (.long x1), .second] [(.int (1 : Int32))])) _
    refine XS.iload X24.here hx rfl (hb hby d1_61) rfl ?_
    show Steps _ _ _ (T24.setTop (mkF m 63 #[.val (.int p1), .val (.ref a2), .val (.ref b3), .val (.ref a2), .val (.int (1 : Int32)), .val (.int (1 : Int32)), .val (.long x1), .second] [(.int (1 : Int32)), (.int (1 : Int32))])) _
    refine XS.icmpYes X24.here hx rfl (pc0 := 63) (pc' := 121) rfl (hb hby d1_63) rfl (flt (by decide)).2.1 (by decide) (by decide) ?_
    exact k
  have f30 : n0 ≤ T24.heap.size := (Nat.le_trans f25 K24.1)
  have f32 : Keep h0 T24.heap [] := ((f21.trans K18 all0).trans K24 (allS (Or.inr sz_b3) (allS (Or.inr sz_b9) all0)))
  have f34 : Exa Z T24.heap b3 "java/util/ArrayList" := (f22.keep K24)
  have f35 : Arv Z T24.heap a2 k2 .long (1 : Int32) [(.long x1)] (.long (0 : Int64)) := ((f15.keep K18 nin0).keep K24 (ninS ne_a2_b3 (ninS ne_a2_b9 nin0)))
  have f36 : Exa Z T24.heap b18 "java/lang/Long" := (Ey18.keep K24)
  obtain ⟨T37, h37, X37, e37, E37, A37, D37, -, st37⟩ := newO X24 hx hZ hown (wk hw 63 rfl) (wk hw 64 rfl) (wk hw 6 rfl) rfl (g := (mkF m 121 #[.val (.int p1), .val (.ref a2), .val (.ref b3), .val (.ref a2), .val (.int (1 : Int32)), .val (.int (1 : Int32)), .val (.long x1), .second] [])) rfl (hb hby d1_121) (by decide) (by decide)
  obtain ⟨b33, g37⟩ : ∃ z, z = T24.heap.size := ⟨_, rfl⟩
  rw [← g37] at A37 D37 st37
  have ne_b3_b33 : b3 ≠ b33 := Nat.ne_of_lt (Nat.lt_of_lt_of_le f34.lt (Nat.le_of_eq g37.symm))
  have ne_b9_b33 : b9 ≠ b33 := Nat.ne_of_lt (Nat.lt_of_lt_of_le Vx24.lt (Nat.le_of_eq g37.symm))
  have ne_a2_b33 : a2 ≠ b33 := Nat.ne_of_lt (Nat.lt_of_lt_of_le f35.lt (Nat.le_of_eq g37.symm))
  have ne_b18_b33 : b18 ≠ b33 := Nat.ne_of_lt (Nat.lt_of_lt_of_le f36.lt (Nat.le_of_eq g37.symm))
  have g_b33 : n0 ≤ b33 := Nat.le_trans f30 (Nat.le_of_eq g37.symm)
  have sz_b33 : h0.size ≤ b33 := Nat.le_trans f32.1 (Nat.le_of_eq g37.symm)
  have F_retries_b33 : Fld Z h37 b33 "com/example/nackoff/nackoff/RetryPolicy" "retries" "I" (.int (0 : Int32)) := D37 (Or.inr (wk hw 118 rfl)) (ty := .int) (by decide)
  have F_waitsMs_b33 : Fld Z h37 b33 "com/example/nackoff/nackoff/RetryPolicy" "waitsMs" "Ljava/util/List;" .null := D37 (Or.inr (wk hw 120 rfl)) (ty := (.object "java/util/List")) (by decide)
  have F_retryableTypes_b33 : Fld Z h37 b33 "com/example/nackoff/nackoff/RetryPolicy" "retryableTypes" "Ljava/util/List;" .null := D37 (Or.inr (wk hw 122 rfl)) (ty := (.object "java/util/List")) (by decide)
  have go40 : Go p.tables e below T37 (mkF m 127 #[.val (.int p1), .val (.ref a2), .val (.ref b3), .val (.ref a2), .val (.int (1 : Int32)), .val (.int (1 : Int32)), .val (.long x1), .second] [(.ref b3), (.int p1), (.ref b33), (.ref b33)]) s₁ (entryFrame m #[(.int p1), (.ref a2)] 8) := by
    intro t k
    refine go31 t ?_
    show Steps _ _ _ (T24.setTop (mkF m 121 #[.val (.int p1), .val (.ref a2), .val (.ref b3), .val (.ref a2), .val (.int (1 : Int32)), .val (.int (1 : Int32)), .val (.long x1), .second] [])) _
    refine st37 _ ?_
    show Steps _ _ _ (T37.setTop (mkF m 124 #[.val (.int p1), .val (.ref a2), .val (.ref b3), .val (.ref a2), .val (.int (1 : Int32)), .val (.int (1 : Int32)), .val (.long x1), .second] [(.ref b33)])) _
    refine XS.dup X37.here hx rfl (hb hby d1_124) rfl rfl ?_
    show Steps _ _ _ (T37.setTop (mkF m 125 #[.val (.int p1), .val (.ref a2), .val (.ref b3), .val (.ref a2), .val (.int (1 : Int32)), .val (.int (1 : Int32)), .val (.long x1), .second] [(.ref b33), (.ref b33)])) _
    refine XS.iloadN X37.here hx rfl (hb hby d1_125) rfl ?_
    show Steps _ _ _ (T37.setTop (mkF m 126 #[.val (.int p1), .val (.ref a2), .val (.ref b3), .val (.ref a2), .val (.int (1 : Int32)), .val (.int (1 : Int32)), .val (.long x1), .second] [(.int p1), (.ref b33), (.ref b33)])) _
    refine XS.aloadN X37.here hx rfl (hb hby d1_126) rfl rfl ?_
    exact k
  have f39 : n0 ≤ h37.size := (Nat.le_trans f30 E37.1)
  have f41 : Exa Z h37 b3 "java/util/ArrayList" := (f34.ext E37)
  have f42 : Arv Z h37 b9 kE9 (.object "java/lang/Object") (1 : Int32) [(.ref b18)] .null := (Vx24.ext E37)
  have f43 : Arv Z h37 a2 k2 .long (1 : Int32) [(.long x1)] (.long (0 : Int64)) := (f35.ext E37)
  have f44 : Exa Z h37 b18 "java/lang/Long" := (f36.ext E37)
  have f45 : Keep h0 h37 [] := (f32.ext E37)
  obtain ⟨_, _, ⟨T38, L38, k38, n38⟩, -, X38, ⟨Lc38, hQ38, l38, y38, z38⟩, st38⟩ := Jvm.LawKit.callS X37 hx (y := (⟨"java/util/Collections", "unmodifiableList", "(Ljava/util/List;)Ljava/util/List;"⟩ : MethodName)) hown (mvT hZ (wk hw 65 rfl)) (mvT hZ (wk hw 66 rfl)) (mvT hZ (wk hw 67 rfl)) (mvT hZ (wk hw 68 rfl)) (by decide) (backOf (W := 3) (rm9 l Z a0 hw [] b3 mA mL mR h37 n0 f39 f41 MA ML MR hmL hmR) hZ (wk hw 68 rfl) (wk hw 67 rfl) (by decide) (by decide)) (g := (mkF m 127 #[.val (.int p1), .val (.ref a2), .val (.ref b3), .val (.ref a2), .val (.int (1 : Int32)), .val (.int (1 : Int32)), .val (.long x1), .second] [(.ref b3), (.int p1), (.ref b33), (.ref b33)])) rfl (by rw [hml]; rfl) (argsL := [(.ref b3)]) (rest := [(.int p1), (.ref b33), (.ref b33)]) (lenOf pd_13 rfl) rfl (by show 2 * 0 + _ ≤ _; exact Nat.le_of_eq rfl) (hb hby d1_127) (fun _ _ => ⟨rfl, e37, (by decide : 4 + 1 ≤ _), (by decide : 8 + 2 ≤ _)⟩)
  dsimp only [Pt.U, Pt.locs, Pt.cells, Pt.slots] at X38 l38 y38 z38 st38 hQ38
  subst l38 y38 z38
  obtain ⟨b38, rfl, N38q, K38, SZ38, B38⟩ := hQ38
  have N38 := Fr.app N24 N38q
  have ne_b3_b38 : b3 ≠ b38 := Nat.ne_of_lt (Nat.lt_of_lt_of_le f41.lt SZ38)
  have ne_b9_b38 : b9 ≠ b38 := Nat.ne_of_lt (Nat.lt_of_lt_of_le f42.lt SZ38)
  have ne_b33_b38 : b33 ≠ b38 := Nat.ne_of_lt (Nat.lt_of_lt_of_le A37.lt SZ38)
  have ne_a2_b38 : a2 ≠ b38 := Nat.ne_of_lt (Nat.lt_of_lt_of_le f43.lt SZ38)
  have ne_b18_b38 : b18 ≠ b38 := Nat.ne_of_lt (Nat.lt_of_lt_of_le f44.lt SZ38)
  have g_b38 : n0 ≤ b38 := Nat.le_trans f39 SZ38
  have sz_b38 : h0.size ≤ b38 := Nat.le_trans f45.1 SZ38
  have go48 : Go p.tables e below T38 (mkF m 130 #[.val (.int p1), .val (.ref a2), .val (.ref b3), .val (.ref a2), .val (.int (1 : Int32)), .val (.int (1 : Int32)), .val (.long x1), .second] [(.ref b38), (.int p1), (.ref b33), (.ref b33)]) s₁ (entryFrame m #[(.int p1), (.ref a2)] 8) := by
    intro t k
    refine go40 t ?_
    show Steps _ _ _ (T37.setTop (mkF m 127 #[.val (.int p1), .val (.ref a2), .val (.ref b3), .val (.ref a2), .val (.int (1 : Int32)), .val (.int (1 : Int32)), .val (.long x1), .second] [(.ref b3), (.int p1), (.ref b33), (.ref b33)])) _
    refine st38 _ ?_
    exact k
  have f47 : n0 ≤ T38.heap.size := (Nat.le_trans f39 K38.1)
  have f49 : Keep h0 T38.heap [] := (f45.trans K38 all0)
  obtain ⟨_, _, ⟨T46, L46, k46, n46⟩, -, X46, ⟨Lc46, hQ46, l46, y46, z46⟩, st46⟩ := Jvm.LawKit.callS X38 hx (y := (⟨"java/util/List", "of", "()Ljava/util/List;"⟩ : MethodName)) hown (mvT hZ (wk hw 107 rfl)) (mvT hZ (wk hw 108 rfl)) (mvT hZ (wk hw 109 rfl)) (mvT hZ (wk hw 110 rfl)) (by decide) (backOf (W := 4) (rm13 l Z a0 hw [] wL T38.heap n0 f47 (S_L.ext (own_ext0 f49))) hZ (wk hw 110 rfl) (wk hw 109 rfl) (by decide) (by decide)) (g := (mkF m 130 #[.val (.int p1), .val (.ref a2), .val (.ref b3), .val (.ref a2), .val (.int (1 : Int32)), .val (.int (1 : Int32)), .val (.long x1), .second] [(.ref b38), (.int p1), (.ref b33), (.ref b33)])) rfl (by rw [hml]; rfl) (argsL := []) (rest := [(.ref b38), (.int p1), (.ref b33), (.ref b33)]) (lenOf pd_14 rfl) rfl (by show 2 * 0 + _ ≤ _; exact Nat.le_of_eq rfl) (hb hby d1_130) (fun _ _ => ⟨rfl, rfl, (by decide : 5 + 0 ≤ _), (by decide : 10 + 0 ≤ _)⟩)
  dsimp only [Pt.U, Pt.locs, Pt.cells, Pt.slots] at X46 l46 y46 z46 st46 hQ46
  subst l46 y46 z46
  obtain ⟨rfl, N46q, e46⟩ := hQ46
  have N46 := Fr.app N38 N46q
  have go52 : Go p.tables e below T46 (mkF m 133 #[.val (.int p1), .val (.ref a2), .val (.ref b3), .val (.ref a2), .val (.int (1 : Int32)), .val (.int (1 : Int32)), .val (.long x1), .second] [(.ref wL), (.ref b38), (.int p1), (.ref b33), (.ref b33)]) s₁ (entryFrame m #[(.int p1), (.ref a2)] 8) := by
    intro t k
    refine go48 t ?_
    show Steps _ _ _ (T38.setTop (mkF m 130 #[.val (.int p1), .val (.ref a2), .val (.ref b3), .val (.ref a2), .val (.int (1 : Int32)), .val (.int (1 : Int32)), .val (.long x1), .second] [(.ref b38), (.int p1), (.ref b33), (.ref b33)])) _
    refine st46 _ ?_
    exact k
  have f51 : Exa Z T38.heap b33 "com/example/nackoff/nackoff/RetryPolicy" := (A37.keep K38)
  have f53 : Fld Z T38.heap b33 "com/example/nackoff/nackoff/RetryPolicy" "retries" "I" (.int (0 : Int32)) := (F_retries_b33.keep K38 nin0)
  have f54 : Fld Z T38.heap b33 "com/example/nackoff/nackoff/RetryPolicy" "waitsMs" "Ljava/util/List;" .null := (F_waitsMs_b33.keep K38 nin0)
  have f55 : Fld Z T38.heap b33 "com/example/nackoff/nackoff/RetryPolicy" "retryableTypes" "Ljava/util/List;" .null := (F_retryableTypes_b33.keep K38 nin0)
  obtain ⟨_, _, ⟨T50, L50, k50, n50⟩, -, X50, ⟨Lc50, hQ50, l50, y50, z50⟩, st50⟩ := X46.specialBack hx (y := (⟨"com/example/nackoff/nackoff/RetryPolicy", "<init>", "(ILjava/util/List;Ljava/util/List;)V"⟩ : MethodName)) rfl hown (mvT hZ (wk hw 113 rfl)) (mvT hZ (wk hw 114 rfl)) (mvT hZ (wk hw 115 rfl)) (by decide) (backOf (W := 1) (rm14 l Z a0 hw [] b33 p1 b38 wL (.int (0 : Int32)) .null .null T38.heap n0 f47 f51 f53 f54 f55 g_b33) hZ (wk hw 115 rfl) (wk hw 6 rfl) (by decide) (by decide)) (g := (mkF m 133 #[.val (.int p1), .val (.ref a2), .val (.ref b3), .val (.ref a2), .val (.int (1 : Int32)), .val (.int (1 : Int32)), .val (.long x1), .second] [(.ref wL), (.ref b38), (.int p1), (.ref b33), (.ref b33)])) rfl (by rw [hml]; rfl) (Steps.refl _) (a := b33) (argsL := [(.int p1), (.ref b38), (.ref wL)]) (rest := [(.ref b33)]) (lenOf pd_15 rfl) rfl (by show 2 * 0 + _ ≤ _; exact Nat.le_of_eq rfl) (hb hby d1_133) (fun _ _ => ⟨rfl, e46, (by decide : 5 + 0 ≤ _), (by decide : 10 + 0 ≤ _)⟩)
  dsimp only [Pt.U, Pt.locs, Pt.cells, Pt.slots] at X50 l50 y50 z50 st50 hQ50
  subst l50 y50 z50
  obtain ⟨rfl, N50q, K50, Fr50, Fw50⟩ := hQ50
  have N50 := Fr.app N46 N50q
  have go56 : Go p.tables e below T50 (mkF m 136 #[.val (.int p1), .val (.ref a2), .val (.ref b3), .val (.ref a2), .val (.int (1 : Int32)), .val (.int (1 : Int32)), .val (.long x1), .second] [(.ref b33)]) s₁ (entryFrame m #[(.int p1), (.ref a2)] 8) := by
    intro t k
    refine go52 t ?_
    show Steps _ _ _ (T46.setTop (mkF m 133 #[.val (.int p1), .val (.ref a2), .val (.ref b3), .val (.ref a2), .val (.int (1 : Int32)), .val (.int (1 : Int32)), .val (.long x1), .second] [(.ref wL), (.ref b38), (.int p1), (.ref b33), (.ref b33)])) _
    refine st50.trans ?_
    exact k
  have f57 : Keep h0 T50.heap [] := (f49.trans K50 (allS (Or.inr sz_b33) all0))
  have f58 : Exa Z T50.heap b33 "com/example/nackoff/nackoff/RetryPolicy" := (f51.keep K50)
  have f59 : WRP Z T50.heap b38 b3 := (B38.keep K50 (ninS (Ne.symm ne_b33_b38) nin0))
  have f60 : Exa Z T50.heap b3 "java/util/ArrayList" := ((f41.keep K38).keep K50)
  have f61 : Fld Z T50.heap b3 "java/util/ArrayList" "size" "I" (.int (1 : Int32)) := (((Fs24.ext E37).keep K38 nin0).keep K50 (ninS ne_b3_b33 nin0))
  have f62 : Fld Z T50.heap b3 "java/util/ArrayList" "elementData" "[Ljava/lang/Object;" (.ref b9) := (((Fe24.ext E37).keep K38 nin0).keep K50 (ninS ne_b3_b33 nin0))
  have f63 : Arv Z T50.heap b9 kE9 (.object "java/lang/Object") (1 : Int32) [(.ref b18)] .null := ((f42.keep K38 nin0).keep K50 (ninS ne_b9_b33 nin0))
  have f64 : Exa Z T50.heap b18 "java/lang/Long" := ((f44.keep K38).keep K50)
  have f65 : Fld Z T50.heap b18 "java/lang/Long" "value" "J" (.long x1) := ((((Fy18.keep K24 (ninS ne_b18_al (ninS ne_b18_e nin0))).ext E37).keep K38 nin0).keep K50 (ninS ne_b18_b33 nin0))
  obtain ⟨fs, hr, hrun, hended, hW, hsame⟩ := X50.leave (v := some (.ref b33)) (fun h => by rw [Bd.returns] at h; cases h)
  refine ⟨_, _, go56 _ ?_, hrun, hended, _, _, rfl, ?_, ⟨_, rfl⟩, hW, hsame.mono (by decide) (by decide)⟩
  · exact retOut X50 hx Bd.returns rfl (Or.inr (Or.inr (Or.inr (Or.inr ⟨rfl, rfl, rfl⟩)))) (hb hby d1_136) hr
  · show Q1_1 Z p1 x1 h0 n0 _ T50.heap _
    exact ⟨b33, b38, b3, b9, kE9, b18, rfl, N50, f57, sz_b33, sz_b38, sz_b3, sz_b9, f58, Fr50, Fw50, f59, f60, f61, f62, f63, f64, f65⟩
set_option maxRecDepth 65536 in
set_option maxHeartbeats 40000000 in
theorem rm1_2 (l : Launch) (Z : State) (a0 : Array Value) (hw : ∀ d ∈ tables_1, d.before a0 Z = true) (ws : List Jvm.Cond) (p1 : Int32) (a2 : Addr) (k2 : ClassId) (x1 x2 : Int64) (wC : Addr) (clC : Cell) (wL mA mL mR : Addr) (h0 : Heap) (n0 : Nat) (Z0 : n0 ≤ h0.size) (hr0 : ¬ p1 < (0 : Int32)) (hr1 : ¬ (1000 : Int32) < p1) (V2 : Arv Z h0 a2 k2 .long (2 : Int32) [(.long x1), (.long x2)] (.long (0 : Int64))) (hx1 : ¬ (lcmpW x1 (1 : Int64) < (0 : Int32)) ∧ ¬ ((0 : Int32) < lcmpW x1 (86400000 : Int64))) (hx2 : ¬ (lcmpW x2 (1 : Int64) < (0 : Int32)) ∧ ¬ ((0 : Int32) < lcmpW x2 (86400000 : Int64))) (HC : LC Z h0 wC clC) (S_L : Sta Z h0 "java/util/ImmutableCollections" "EMPTY_LIST" "Ljava/util/ImmutableCollections$ListN;" (.ref wL)) (MA : Mr Z "java/util/ArrayList" mA) (ML : Mr Z "java/util/Collections$UnmodifiableList" mL) (MR : Mr Z "java/util/Collections$UnmodifiableRandomAccessList" mR) (hmL : ¬ (mA = mL)) (hmR : ¬ (mA = mR)) :
    MetFree l (⟨"com/example/nackoff/nackoff/RetryPolicy", "of", "(I[J)Lcom/example/nackoff/nackoff/RetryPolicy;"⟩ : MethodName) (head1 (Jvm.Cond.code (⟨"com/example/nackoff/nackoff/RetryPolicy", "of", "(I[J)Lcom/example/nackoff/nackoff/RetryPolicy;"⟩ : MethodName) prog_3_method_3_code 8 (some (.object "com/example/nackoff/nackoff/RetryPolicy")) :: ws) ({ frames := 5, cells := 6, slots := 12, locals := 67 } : Room)) (fun a U => a = #[(.int p1), (.ref a2)] ∧ Z.Warmed39 U.vm ∧ U.heap = h0) (fun _ _ _ _ _ => True) (fun _ U o U' => ∃ v L, o = .returned v ∧ Q1_2 Z p1 x1 x2 h0 n0 v U'.heap L ∧ FrameEnd U o U' L ({ frames := 5, cells := 6, slots := 12, locals := 67 } : Room).cells ({ frames := 5, cells := 6, slots := 12, locals := 67 } : Room).slots) := by
  refine MetFree.of_bodySF (plainFor_of_name pn_1) hisR ?_
  intro p e s m args below meth c s₁ Bd hml0 hP hK
  obtain ⟨rfl, hZ, hh⟩ := hP
  have hx := Bd.exec
  have hby := Bd.bytes
  have hml : c.maxLocals = 8 := hml0
  have hown : s.vm.findClass "com/example/nackoff/nackoff/RetryPolicy" = some m.cls := findClass_of_methodNamed Bd.named
  have hnm := (name_of_methodNamed Bd.named Bd.method).1
  have X0 : Stand p l e ({ frames := 5, cells := 6, slots := 12, locals := 67 } : Room) s m #[(.int p1), (.ref a2)] below meth c s₁ [] 0 0 := Stand.of_body Bd
  have e0 : s₁.heap = h0 := by rw [← hh, Bd.state]; rfl
  have N0 := Fr.nil n0
  have go0 : Go p.tables e below s₁ (mkF m 0 #[.val (.int p1), .val (.ref a2), .unset, .unset, .unset, .unset, .unset, .unset] []) s₁ (entryFrame m #[(.int p1), (.ref a2)] 8) := fun t k => castTop (ef_1 m p1 a2) k
  have go1 : Go p.tables e below s₁ (mkF m 26 #[.val (.int p1), .val (.ref a2), .unset, .unset, .unset, .unset, .unset, .unset] [(.ref a2)]) s₁ (entryFrame m #[(.int p1), (.ref a2)] 8) := by
    intro t k
    refine go0 t ?_
    show Steps _ _ _ (s₁.setTop (mkF m 0 #[.val (.int p1), .val (.ref a2), .unset, .unset, .unset, .unset, .unset, .unset] [])) _
    refine XS.iloadN X0.here hx rfl (hb hby d1_0) rfl ?_
    show Steps _ _ _ (s₁.setTop (mkF m 1 #[.val (.int p1), .val (.ref a2), .unset, .unset, .unset, .unset, .unset, .unset] [(.int p1)])) _
    refine XS.ifNo X0.here hx rfl (hb hby d1_1) rfl ((if0 _ _).trans (flt hr0).1) ?_
    show Steps _ _ _ (s₁.setTop (mkF m 4 #[.val (.int p1), .val (.ref a2), .unset, .unset, .unset, .unset, .unset, .unset] [])) _
    refine XS.iloadN X0.here hx rfl (hb hby d1_4) rfl ?_
    show Steps _ _ _ (s₁.setTop (mkF m 5 #[.val (.int p1), .val (.ref a2), .unset, .unset, .unset, .unset, .unset, .unset] [(.int p1)])) _
    refine XS.sipush X0.here hx rfl (hb hby d1_5) ?_
    show Steps _ _ _ (s₁.setTop (mkF m 8 #[.val (.int p1), .val (.ref a2), .unset, .unset, .unset, .unset, .unset, .unset] [(.int (1000 : Int32)), (.int p1)])) _
    refine XS.icmpYes X0.here hx rfl (pc0 := 8) (pc' := 25) rfl (hb hby d1_8) rfl (flt hr1).2.2.2 (by decide) (by decide) ?_
    show Steps _ _ _ (s₁.setTop (mkF m 25 #[.val (.int p1), .val (.ref a2), .unset, .unset, .unset, .unset, .unset, .unset] [])) _
    refine XS.aloadN X0.here hx rfl (hb hby d1_25) rfl rfl ?_
    exact k
  obtain ⟨clx2, Arx2, -, Sx2, Nx2, Hx2, -⟩ := id V2
  have go4 : Go p.tables e below s₁ (mkF m 40 #[.val (.int p1), .val (.ref a2), .unset, .unset, .unset, .unset, .unset, .unset] []) s₁ (entryFrame m #[(.int p1), (.ref a2)] 8) := by
    intro t k
    refine go1 t ?_
    show Steps _ _ _ (s₁.setTop (mkF m 26 #[.val (.int p1), .val (.ref a2), .unset, .unset, .unset, .unset, .unset, .unset] [(.ref a2)])) _
    refine X0.arraylength hx (by rw [e0]; exact Arx2.1) (State.isArrayOf_alike hZ.alike Arx2.2.1) (g := (mkF m 26 #[.val (.int p1), .val (.ref a2), .unset, .unset, .unset, .unset, .unset, .unset] [(.ref a2)])) rfl rfl (hb hby d1_26) _ ?_
    rw [len_of Sx2 Nx2]
    show Steps _ _ _ (s₁.setTop (mkF m 27 #[.val (.int p1), .val (.ref a2), .unset, .unset, .unset, .unset, .unset, .unset] [(.int (2 : Int32))])) _
    refine XS.ifYes X0.here hx rfl (pc0 := 27) (pc' := 40) rfl (hb hby d1_27) rfl ((if0 _ _).trans (feq (by decide)).2) (by decide) (by decide) ?_
    exact k
  obtain ⟨T5, h5, X5, e5, E5, A5, D5, -, st5⟩ := newO X0 hx hZ hown (wk hw 8 rfl) (wk hw 9 rfl) (wk hw 10 rfl) e0 (g := (mkF m 40 #[.val (.int p1), .val (.ref a2), .unset, .unset, .unset, .unset, .unset, .unset] [])) rfl (hb hby d1_40) (by decide) (by decide)
  obtain ⟨b3, g5⟩ : ∃ z, z = h0.size := ⟨_, rfl⟩
  rw [← g5] at A5 D5 st5
  have ne_a2_b3 : a2 ≠ b3 := Nat.ne_of_lt (Nat.lt_of_lt_of_le V2.lt (Nat.le_of_eq g5.symm))
  have g_b3 : n0 ≤ b3 := Nat.le_trans Z0 (Nat.le_of_eq g5.symm)
  have sz_b3 : h0.size ≤ b3 := Nat.le_trans (Keep.refl h0 []).1 (Nat.le_of_eq g5.symm)
  have F_modCount_b3 : Fld Z h5 b3 "java/util/AbstractList" "modCount" "I" (.int (0 : Int32)) := D5 (Or.inl (wk hw 30 rfl)) (ty := .int) (by decide)
  have F_elementData_b3 : Fld Z h5 b3 "java/util/ArrayList" "elementData" "[Ljava/lang/Object;" .null := D5 (Or.inl (wk hw 34 rfl)) (ty := (.array (.object "java/lang/Object"))) (by decide)
  have F_size_b3 : Fld Z h5 b3 "java/util/ArrayList" "size" "I" (.int (0 : Int32)) := D5 (Or.inl (wk hw 56 rfl)) (ty := .int) (by decide)
  have go6 : Go p.tables e below T5 (mkF m 45 #[.val (.int p1), .val (.ref a2), .unset, .unset, .unset, .unset, .unset, .unset] [(.ref a2), (.ref b3), (.ref b3)]) s₁ (entryFrame m #[(.int p1), (.ref a2)] 8) := by
    intro t k
    refine go4 t ?_
    show Steps _ _ _ (s₁.setTop (mkF m 40 #[.val (.int p1), .val (.ref a2), .unset, .unset, .unset, .unset, .unset, .unset] [])) _
    refine st5 _ ?_
    show Steps _ _ _ (T5.setTop (mkF m 43 #[.val (.int p1), .val (.ref a2), .unset, .unset, .unset, .unset, .unset, .unset] [(.ref b3)])) _
    refine XS.dup X5.here hx rfl (hb hby d1_43) rfl rfl ?_
    show Steps _ _ _ (T5.setTop (mkF m 44 #[.val (.int p1), .val (.ref a2), .unset, .unset, .unset, .unset, .unset, .unset] [(.ref b3), (.ref b3)])) _
    refine XS.aloadN X5.here hx rfl (hb hby d1_44) rfl rfl ?_
    exact k
  have f8 : Arv Z h5 a2 k2 .long (2 : Int32) [(.long x1), (.long x2)] (.long (0 : Int64)) := (V2.ext E5)
  obtain ⟨clx7, Arx7, -, Sx7, Nx7, Hx7, -⟩ := id f8
  have go11 : Go p.tables e below T5 (mkF m 46 #[.val (.int p1), .val (.ref a2), .unset, .unset, .unset, .unset, .unset, .unset] [(.int (2 : Int32)), (.ref b3), (.ref b3)]) s₁ (entryFrame m #[(.int p1), (.ref a2)] 8) := by
    intro t k
    refine go6 t ?_
    show Steps _ _ _ (T5.setTop (mkF m 45 #[.val (.int p1), .val (.ref a2), .unset, .unset, .unset, .unset, .unset, .unset] [(.ref a2), (.ref b3), (.ref b3)])) _
    refine X5.arraylength hx (by rw [e5]; exact Arx7.1) (State.isArrayOf_alike hZ.alike Arx7.2.1) (g := (mkF m 45 #[.val (.int p1), .val (.ref a2), .unset, .unset, .unset, .unset, .unset, .unset] [(.ref a2), (.ref b3), (.ref b3)])) rfl rfl (hb hby d1_45) _ ?_
    rw [len_of Sx7 Nx7]
    exact k
  have f10 : n0 ≤ h5.size := (Nat.le_trans Z0 E5.1)
  have f12 : Keep h0 h5 [] := ((Keep.refl h0 []).ext E5)
  obtain ⟨_, _, ⟨T9, L9, k9, n9⟩, -, X9, ⟨Lc9, hQ9, l9, y9, z9⟩, st9⟩ := X5.specialBack hx (y := (⟨"java/util/ArrayList", "<init>", "(I)V"⟩ : MethodName)) rfl hown (mvT hZ (wk hw 11 rfl)) (mvT hZ (wk hw 12 rfl)) (mvT hZ (wk hw 13 rfl)) (by decide) (backOf (W := 1) (rm2_2 l Z a0 hw [] b3 h5 n0 f10 A5 F_modCount_b3 F_elementData_b3 F_size_b3 g_b3) hZ (wk hw 13 rfl) (wk hw 10 rfl) (by decide) (by decide)) (g := (mkF m 46 #[.val (.int p1), .val (.ref a2), .unset, .unset, .unset, .unset, .unset, .unset] [(.int (2 : Int32)), (.ref b3), (.ref b3)])) rfl (by rw [hml]; rfl) (Steps.refl _) (a := b3) (argsL := [(.int (2 : Int32))]) (rest := [(.ref b3)]) (lenOf pd_10 rfl) rfl (by show 2 * 0 + _ ≤ _; exact Nat.le_of_eq rfl) (hb hby d1_46) (fun _ _ => ⟨rfl, e5, (by decide : 1 + 1 ≤ _), (by decide : 3 + 2 ≤ _)⟩)
  dsimp only [Pt.U, Pt.locs, Pt.cells, Pt.slots] at X9 l9 y9 z9 st9 hQ9
  subst l9 y9 z9
  obtain ⟨rfl, N9q, K9, b9, kE9, SZ9, Fm9, Fe9, Fs9, Vx9, O9⟩ := hQ9
  have N9 := Fr.app N0 N9q
  have ne_b3_b9 : b3 ≠ b9 := Nat.ne_of_lt (Nat.lt_of_lt_of_le A5.lt SZ9)
  have ne_a2_b9 : a2 ≠ b9 := Nat.ne_of_lt (Nat.lt_of_lt_of_le f8.lt SZ9)
  have g_b9 : n0 ≤ b9 := Nat.le_trans f10 SZ9
  have sz_b9 : h0.size ≤ b9 := Nat.le_trans f12.1 SZ9
  have go13 : Go p.tables e below T9 (mkF m 53 #[.val (.int p1), .val (.ref a2), .val (.ref b3), .val (.ref a2), .unset, .unset, .unset, .unset] [(.ref a2)]) s₁ (entryFrame m #[(.int p1), (.ref a2)] 8) := by
    intro t k
    refine go11 t ?_
    show Steps _ _ _ (T5.setTop (mkF m 46 #[.val (.int p1), .val (.ref a2), .unset, .unset, .unset, .unset, .unset, .unset] [(.int (2 : Int32)), (.ref b3), (.ref b3)])) _
    refine st9.trans ?_
    show Steps _ _ _ (T9.setTop (mkF m 49 #[.val (.int p1), .val (.ref a2), .unset, .unset, .unset, .unset, .unset, .unset] [(.ref b3)])) _
    refine XS.astoreN X9.here hx rfl (hb hby d1_49) rfl rfl (l' := #[.val (.int p1), .val (.ref a2), .val (.ref b3), .unset, .unset, .unset, .unset, .unset]) rfl ?_
    show Steps _ _ _ (T9.setTop (mkF m 50 #[.val (.int p1), .val (.ref a2), .val (.ref b3), .unset, .unset, .unset, .unset, .unset] [])) _
    refine XS.aloadN X9.here hx rfl (hb hby d1_50) rfl rfl ?_
    show Steps _ _ _ (T9.setTop (mkF m 51 #[.val (.int p1), .val (.ref a2), .val (.ref b3), .unset, .unset, .unset, .unset, .unset] [(.ref a2)])) _
    refine XS.astoreN X9.here hx rfl (hb hby d1_51) rfl rfl (l' := #[.val (.int p1), .val (.ref a2), .val (.ref b3), .val (.ref a2), .unset, .unset, .unset, .unset]) rfl ?_
    show Steps _ _ _ (T9.setTop (mkF m 52 #[.val (.int p1), .val (.ref a2), .val (.ref b3), .val (.ref a2), .unset, .unset, .unset, .unset] [])) _
    refine XS.aloadN X9.here hx rfl (hb hby d1_52) rfl rfl ?_
    exact k
  have f15 : Arv Z T9.heap a2 k2 .long (2 : Int32) [(.long x1), (.long x2)] (.long (0 : Int64)) := (f8.keep K9 (ninS ne_a2_b3 nin0))
  obtain ⟨clx14, Arx14, -, Sx14, Nx14, Hx14, -⟩ := id f15
  have go16 : Go p.tables e below T9 (mkF m 69 #[.val (.int p1), .val (.ref a2), .val (.ref b3), .val (.ref a2), .val (.int (2 : Int32)), .val (.int (0 : Int32)), .unset, .unset] [(.int (0 : Int32)), (.ref a2)]) s₁ (entryFrame m #[(.int p1), (.ref a2)] 8) := by
    intro t k
    refine go13 t ?_
    show Steps _ _ _ (T9.setTop (mkF m 53 #[.val (.int p1), .val (.ref a2), .val (.ref b3), .val (.ref a2), .unset, .unset, .unset, .unset] [(.ref a2)])) _
    refine X9.arraylength hx Arx14.1 (State.isArrayOf_alike hZ.alike Arx14.2.1) (g := (mkF m 53 #[.val (.int p1), .val (.ref a2), .val (.ref b3), .val (.ref a2), .unset, .unset, .unset, .unset] [(.ref a2)])) rfl rfl (hb hby d1_53) _ ?_
    rw [len_of Sx14 Nx14]
    show Steps _ _ _ (T9.setTop (mkF m 54 #[.val (.int p1), .val (.ref a2), .val (.ref b3), .val (.ref a2), .unset, .unset, .unset, .unset] [(.int (2 : Int32))])) _
    refine XS.istore X9.here hx rfl (hb hby d1_54) rfl (l' := #[.val (.int p1), .val (.ref a2), .val (.ref b3), .val (.ref a2), .val (.int (2 : Int32)), .unset, .unset, .unset]) rfl ?_
    show Steps _ _ _ (T9.setTop (mkF m 56 #[.val (.int p1), .val (.ref a2), .val (.ref b3), .val (.ref a2), .val (.int (2 : Int32)), .unset, .unset, .unset] [])) _
    refine XS.iconst X9.here hx rfl (hb hby d1_56) ?_
    show Steps _ _ _ (T9.setTop (mkF m 57 #[.val (.int p1), .val (.ref a2), .val (.ref b3), .val (.ref a2), .val (.int (2 : Int32)), .unset, .unset, .unset] [(.int (0 : Int32))])) _
    refine XS.istore X9.here hx rfl (hb hby d1_57) rfl (l' := #[.val (.int p1), .val (.ref a2), .val (.ref b3), .val (.ref a2), .val (.int (2 : Int32)), .val (.int (0 : Int32)), .unset, .unset]) rfl ?_
    show Steps _ _ _ (T9.setTop (mkF m 59 #[.val (.int p1), .val (.ref a2), .val (.ref b3), .val (.ref a2), .val (.int (2 : Int32)), .val (.int (0 : Int32)), .unset, .unset] [])) _
    refine XS.iload X9.here hx rfl (hb hby d1_59) rfl ?_
    show Steps _ _ _ (T9.setTop (mkF m 61 #[.val (.int p1), .val (.ref a2), .val (.ref b3), .val (.ref a2), .val (.int (2 : Int32)), .val (.int (0 : Int32)), .unset, .unset] [(.int (0 : Int32))])) _
    refine XS.iload X9.here hx rfl (hb hby d1_61) rfl ?_
    show Steps _ _ _ (T9.setTop (mkF m 63 #[.val (.int p1), .val (.ref a2), .val (.ref b3), .val (.ref a2), .val (.int (2 : Int32)), .val (.int (0 : Int32)), .unset, .unset] [(.int (2 : Int32)), (.int (0 : Int32))])) _
    refine XS.icmpNo X9.here hx rfl (hb hby d1_63) rfl (tlt (by decide)).2.1 ?_
    show Steps _ _ _ (T9.setTop (mkF m 66 #[.val (.int p1), .val (.ref a2), .val (.ref b3), .val (.ref a2), .val (.int (2 : Int32)), .val (.int (0 : Int32)), .unset, .unset] [])) _
    refine XS.aloadN X9.here hx rfl (hb hby d1_66) rfl rfl ?_
    show Steps _ _ _ (T9.setTop (mkF m 67 #[.val (.int p1), .val (.ref a2), .val (.ref b3), .val (.ref a2), .val (.int (2 : Int32)), .val (.int (0 : Int32)), .unset, .unset] [(.ref a2)])) _
    refine XS.iload X9.here hx rfl (hb hby d1_67) rfl ?_
    exact k
  obtain ⟨clx17, Arx17, -, Sx17, Nx17, Hx17, -⟩ := id f15
  have go20 : Go p.tables e below T9 (mkF m 106 #[.val (.int p1), .val (.ref a2), .val (.ref b3), .val (.ref a2), .val (.int (2 : Int32)), .val (.int (0 : Int32)), .val (.long x1), .second] [(.long x1), (.ref b3)]) s₁ (entryFrame m #[(.int p1), (.ref a2)] 8) := by
    intro t k
    refine go16 t ?_
    show Steps _ _ _ (T9.setTop (mkF m 69 #[.val (.int p1), .val (.ref a2), .val (.ref b3), .val (.ref a2), .val (.int (2 : Int32)), .val (.int (0 : Int32)), .unset, .unset] [(.int (0 : Int32)), (.ref a2)])) _
    refine X9.laload hx (j := (0 : Int32)) (v := (.long x1)) Arx17.1 (State.isArrayOf_alike hZ.alike Arx17.2.1) Arx17.2.2 (inb_of Sx17 ⟨by decide, by decide⟩) (Hx17.at (inb_of Sx17 ⟨by decide, by decide⟩) rfl) (g := (mkF m 69 #[.val (.int p1), .val (.ref a2), .val (.ref b3), .val (.ref a2), .val (.int (2 : Int32)), .val (.int (0 : Int32)), .unset, .unset] [(.int (0 : Int32)), (.ref a2)])) rfl rfl (hb hby d1_69) _ ?_
    show Steps _ _ _ (T9.setTop (mkF m 70 #[.val (.int p1), .val (.ref a2), .val (.ref b3), .val (.ref a2), .val (.int (2 : Int32)), .val (.int (0 : Int32)), .unset, .unset] [(.long x1)])) _
    refine XS.lstore X9.here hx rfl (hb hby d1_70) rfl (l' := #[.val (.int p1), .val (.ref a2), .val (.ref b3), .val (.ref a2), .val (.int (2 : Int32)), .val (.int (0 : Int32)), .val (.long x1), .second]) rfl ?_
    show Steps _ _ _ (T9.setTop (mkF m 72 #[.val (.int p1), .val (.ref a2), .val (.ref b3), .val (.ref a2), .val (.int (2 : Int32)), .val (.int (0 : Int32)), .val (.long x1), .second] [])) _
    refine XS.lload X9.here hx rfl (hb hby d1_72) rfl ?_
    show Steps _ _ _ (T9.setTop (mkF m 74 #[.val (.int p1), .val (.ref a2), .val (.ref b3), .val (.ref a2), .val (.int (2 : Int32)), .val (.int (0 : Int32)), .val (.long x1), .second] [(.long x1)])) _
    refine XS.lconst X9.here hx rfl (hb hby d1_74) ?_
    show Steps _ _ _ (T9.setTop (mkF m 75 #[.val (.int p1), .val (.ref a2), .val (.ref b3), .val (.ref a2), .val (.int (2 : Int32)), .val (.int (0 : Int32)), .val (.long x1), .second] [(.long (1 : Int64)), (.long x1)])) _
    refine XS.lcmp X9.here hx rfl (hb hby d1_75) rfl ?_
    show Steps _ _ _ (T9.setTop (mkF m 76 #[.val (.int p1), .val (.ref a2), .val (.ref b3), .val (.ref a2), .val (.int (2 : Int32)), .val (.int (0 : Int32)), .val (.long x1), .second] [(.int (lcmpW x1 (1 : Int64)))])) _
    refine XS.ifNo X9.here hx rfl (hb hby d1_76) rfl ((if0 _ _).trans (flt hx1.1).1) ?_
    show Steps _ _ _ (T9.setTop (mkF m 79 #[.val (.int p1), .val (.ref a2), .val (.ref b3), .val (.ref a2), .val (.int (2 : Int32)), .val (.int (0 : Int32)), .val (.long x1), .second] [])) _
    refine XS.lload X9.here hx rfl (hb hby d1_79) rfl ?_
    show Steps _ _ _ (T9.setTop (mkF m 81 #[.val (.int p1), .val (.ref a2), .val (.ref b3), .val (.ref a2), .val (.int (2 : Int32)), .val (.int (0 : Int32)), .val (.long x1), .second] [(.long x1)])) _
    refine X9.ldc2Long hx hown (mvT hZ (wk hw 35 rfl)) (g := (mkF m 81 #[.val (.int p1), .val (.ref a2), .val (.ref b3), .val (.ref a2), .val (.int (2 : Int32)), .val (.int (0 : Int32)), .val (.long x1), .second] [(.long x1)])) rfl (hb hby d1_81) _ ?_
    show Steps _ _ _ (T9.setTop (mkF m 84 #[.val (.int p1), .val (.ref a2), .val (.ref b3), .val (.ref a2), .val (.int (2 : Int32)), .val (.int (0 : Int32)), .val (.long x1), .second] [(.long (86400000 : Int64)), (.long x1)])) _
    refine XS.lcmp X9.here hx rfl (hb hby d1_84) rfl ?_
    show Steps _ _ _ (T9.setTop (mkF m 85 #[.val (.int p1), .val (.ref a2), .val (.ref b3), .val (.ref a2), .val (.int (2 : Int32)), .val (.int (0 : Int32)), .val (.long x1), .second] [(.int (lcmpW x1 (86400000 : Int64)))])) _
    refine XS.ifYes X9.here hx rfl (pc0 := 85) (pc' := 103) rfl (hb hby d1_85) rfl ((if0 _ _).trans (flt hx1.2).2.2.2) (by decide) (by decide) ?_
    show Steps _ _ _ (T9.setTop (mkF m 103 #[.val (.int p1), .val (.ref a2), .val (.ref b3), .val (.ref a2), .val (.int (2 : Int32)), .val (.int (0 : Int32)), .val (.long x1), .second] [])) _
    refine XS.aloadN X9.here hx rfl (hb hby d1_103) rfl rfl ?_
    show Steps _ _ _ (T9.setTop (mkF m 104 #[.val (.int p1), .val (.ref a2), .val (.ref b3), .val (.ref a2), .val (.int (2 : Int32)), .val (.int (0 : Int32)), .val (.long x1), .second] [(.ref b3)])) _
    refine XS.lload X9.here hx rfl (hb hby d1_104) rfl ?_
    exact k
  have f19 : n0 ≤ T9.heap.size := (Nat.le_trans f10 K9.1)
  have f21 : Keep h0 T9.heap [] := (f12.trans K9 (allS (Or.inr sz_b3) all0))
  obtain ⟨_, _, ⟨T18, L18, k18, n18⟩, -, X18, ⟨Lc18, hQ18, l18, y18, z18⟩, st18⟩ := Jvm.LawKit.callS X9 hx (y := (⟨"java/lang/Long", "valueOf", "(J)Ljava/lang/Long;"⟩ : MethodName)) hown (mvT hZ (wk hw 36 rfl)) (mvT hZ (wk hw 37 rfl)) (mvT hZ (wk hw 38 rfl)) (mvT hZ (wk hw 39 rfl)) (by decide) (backOf (W := 1) (rm6 l Z a0 hw [] x1 wC clC T9.heap n0 f19 (own_LCext (own_ext0 f21) HC)) hZ (wk hw 39 rfl) (wk hw 38 rfl) (by decide) (by decide)) (g := (mkF m 106 #[.val (.int p1), .val (.ref a2), .val (.ref b3), .val (.ref a2), .val (.int (2 : Int32)), .val (.int (0 : Int32)), .val (.long x1), .second] [(.long x1), (.ref b3)])) rfl (by rw [hml]; rfl) (argsL := [(.long x1)]) (rest := [(.ref b3)]) (lenOf pd_11 rfl) rfl (by show 2 * 0 + _ ≤ _; exact Nat.le_of_eq rfl) (hb hby d1_106) (fun _ _ => ⟨rfl, rfl, (by decide : 2 + 1 ≤ _), (by decide : 5 + 1 ≤ _)⟩)
  dsimp only [Pt.U, Pt.locs, Pt.cells, Pt.slots] at X18 l18 y18 z18 st18 hQ18
  subst l18 y18 z18
  obtain ⟨b18, rfl, N18q, K18, Ey18, Fy18⟩ := hQ18
  have N18 := Fr.app N9 N18q
  have f22 : Exa Z T18.heap b3 "java/util/ArrayList" := ((A5.keep K9).keep K18)
  have f23 : Arv Z T18.heap b9 kE9 (.object "java/lang/Object") (2 : Int32) [.null, .null] .null := (Vx9.keep K18 nin0)
  have ne_b18_al : b18 ≠ b3 := ne_exa Ey18 f22 (by decide)
  have ne_b18_e : b18 ≠ b9 := Exa.neArv Ey18 f23 (wk hw 188 rfl)
  have go26 : Go p.tables e below T18 (mkF m 109 #[.val (.int p1), .val (.ref a2), .val (.ref b3), .val (.ref a2), .val (.int (2 : Int32)), .val (.int (0 : Int32)), .val (.long x1), .second] [(.ref b18), (.ref b3)]) s₁ (entryFrame m #[(.int p1), (.ref a2)] 8) := by
    intro t k
    refine go20 t ?_
    show Steps _ _ _ (T9.setTop (mkF m 106 #[.val (.int p1), .val (.ref a2), .val (.ref b3), .val (.ref a2), .val (.int (2 : Int32)), .val (.int (0 : Int32)), .val (.long x1), .second] [(.long x1), (.ref b3)])) _
    refine st18 _ ?_
    exact k
  have f25 : n0 ≤ T18.heap.size := (Nat.le_trans f19 K18.1)
  have f27 : Fld Z T18.heap b3 "java/util/AbstractList" "modCount" "I" (.int (0 : Int32)) := (Fm9.keep K18 nin0)
  have f28 : Fld Z T18.heap b3 "java/util/ArrayList" "elementData" "[Ljava/lang/Object;" (.ref b9) := (Fe9.keep K18 nin0)
  have f29 : Fld Z T18.heap b3 "java/util/ArrayList" "size" "I" (.int (0 : Int32)) := (Fs9.keep K18 nin0)
  obtain ⟨cq24, kq24, q24a, q24b, q24c⟩ := isOf hZ rfl f22
  obtain ⟨_, _, ⟨T24, L24, k24, n24⟩, -, X24, ⟨Lc24, hQ24, l24, y24, z24⟩, st24⟩ := X18.interfaceBack hx (xi := (⟨"java/util/List", "add", "(Ljava/lang/Object;)Z"⟩ : MethodName)) (y := (⟨"java/util/ArrayList", "add", "(Ljava/lang/Object;)Z"⟩ : MethodName)) hown (mvT hZ (wk hw 44 rfl)) (mvT hZ (wk hw 45 rfl)) (mvT hZ (wk hw 46 rfl)) (mvT hZ (wk hw 47 rfl)) (mvT hZ (wk hw 48 rfl)) (mvT hZ (wk hw 49 rfl)) (mvT hZ (wk hw 50 rfl)) (mvT hZ (wk hw 51 rfl)) (by decide) (backOf (W := 0) (rm7 l Z a0 hw [] b3 b18 b9 kE9 (0 : Int32) (2 : Int32) (0 : Int32) 0 [.null, .null] T18.heap n0 f25 f22 f27 f28 f29 g_b3 Ey18 f23 O9 ne_b3_b9 g_b9 (by decide) (by decide) (by decide) rfl (Nat.le_of_ble_eq_true rfl)) hZ (wk hw 52 rfl) (wk hw 10 rfl) (by decide) (by decide)) q24a q24b q24c (g := (mkF m 109 #[.val (.int p1), .val (.ref a2), .val (.ref b3), .val (.ref a2), .val (.int (2 : Int32)), .val (.int (0 : Int32)), .val (.long x1), .second] [(.ref b18), (.ref b3)])) rfl (by rw [hml]; rfl) (Steps.refl _) (argsL := [(.ref b18)]) (rest := []) (lenOf pd_12 rfl) rfl (by show 2 * 0 + _ ≤ _; exact Nat.le_of_eq rfl) (hb hby d1_109) (fun _ _ => ⟨rfl, rfl, (by decide : 3 + 0 ≤ _), (by decide : 6 + 0 ≤ _)⟩)
  dsimp only [Pt.U, Pt.locs, Pt.cells, Pt.slots] at X24 l24 y24 z24 st24 hQ24
  subst l24 y24 z24
  obtain ⟨rfl, N24q, K24, Fm24, Fe24, Fs24, Vx24⟩ := hQ24
  have N24 := Fr.app N18 N24q
  have go30 : Go p.tables e below T24 (mkF m 69 #[.val (.int p1), .val (.ref a2), .val (.ref b3), .val (.ref a2), .val (.int (2 : Int32)), .val (.int (1 : Int32)), .val (.long x1), .second] [(.int (1 : Int32)), (.ref a2)]) s₁ (entryFrame m #[(.int p1), (.ref a2)] 8) := by
    intro t k
    refine go26 t ?_
    show Steps _ _ _ (T18.setTop (mkF m 109 #[.val (.int p1), .val (.ref a2), .val (.ref b3), .val (.ref a2), .val (.int (2 : Int32)), .val (.int (0 : Int32)), .val (.long x1), .second] [(.ref b18), (.ref b3)])) _
    refine st24.trans ?_
    show Steps _ _ _ (T24.setTop (mkF m 114 #[.val (.int p1), .val (.ref a2), .val (.ref b3), .val (.ref a2), .val (.int (2 : Int32)), .val (.int (0 : Int32)), .val (.long x1), .second] [(.int (1 : Int32))])) _
    refine XS.pop X24.here hx rfl (hb hby d1_114) rfl rfl ?_
    show Steps _ _ _ (T24.setTop (mkF m 115 #[.val (.int p1), .val (.ref a2), .val (.ref b3), .val (.ref a2), .val (.int (2 : Int32)), .val (.int (0 : Int32)), .val (.long x1), .second] [])) _
    refine XS.iinc X24.here hx rfl (hb hby d1_115) rfl (l' := #[.val (.int p1), .val (.ref a2), .val (.ref b3), .val (.ref a2), .val (.int (2 : Int32)), .val (.int (1 : Int32)), .val (.long x1), .second]) rfl ?_
    show Steps _ _ _ (T24.setTop (mkF m 118 #[.val (.int p1), .val (.ref a2), .val (.ref b3), .val (.ref a2), .val (.int (2 : Int32)), .val (.int (1 : Int32)), .val (.long x1), .second] [])) _
    refine XS.goto X24.here hx rfl (pc0 := 118) (pc' := 59) rfl (hb hby d1_118) (by decide) (by decide) ?_
    show Steps _ _ _ (T24.setTop (mkF m 59 #[.val (.int p1), .val (.ref a2), .val (.ref b3), .val (.ref a2), .val (.int (2 : Int32)), .val (.int (1 : Int32)), .val (.long x1), .second] [])) _
    refine XS.iload X24.here hx rfl (hb hby d1_59) rfl ?_
    show Steps _ _ _ (T24.setTop (mkF m 61 #[.val (.int p1), .val (.ref a2), .val (.ref b3), .val (.ref a2), .val (.int (2 : Int32)), .val (.int (1 : Int32)), .val (.long x1), .second] [(.int (1 : Int32))])) _
    refine XS.iload X24.here hx rfl (hb hby d1_61) rfl ?_
    show Steps _ _ _ (T24.setTop (mkF m 63 #[.val (.int p1), .val (.ref a2), .val (.ref b3), .val (.ref a2), .val (.int (2 : Int32)), .val (.int (1 : Int32)), .val (.long x1), .second] [(.int (2 : Int32)), (.int (1 : Int32))])) _
    refine XS.icmpNo X24.here hx rfl (hb hby d1_63) rfl (tlt (by decide)).2.1 ?_
    show Steps _ _ _ (T24.setTop (mkF m 66 #[.val (.int p1), .val (.ref a2), .val (.ref b3), .val (.ref a2), .val (.int (2 : Int32)), .val (.int (1 : Int32)), .val (.long x1), .second] [])) _
    refine XS.aloadN X24.here hx rfl (hb hby d1_66) rfl rfl ?_
    show Steps _ _ _ (T24.setTop (mkF m 67 #[.val (.int p1), .val (.ref a2), .val (.ref b3), .val (.ref a2), .val (.int (2 : Int32)), .val (.int (1 : Int32)), .val (.long x1), .second] [(.ref a2)])) _
    refine XS.iload X24.here hx rfl (hb hby d1_67) rfl ?_
    exact k
  have f32 : Arv Z T24.heap a2 k2 .long (2 : Int32) [(.long x1), (.long x2)] (.long (0 : Int64)) := ((f15.keep K18 nin0).keep K24 (ninS ne_a2_b3 (ninS ne_a2_b9 nin0)))
  obtain ⟨clx31, Arx31, -, Sx31, Nx31, Hx31, -⟩ := id f32
  have go35 : Go p.tables e below T24 (mkF m 106 #[.val (.int p1), .val (.ref a2), .val (.ref b3), .val (.ref a2), .val (.int (2 : Int32)), .val (.int (1 : Int32)), .val (.long x2), .second] [(.long x2), (.ref b3)]) s₁ (entryFrame m #[(.int p1), (.ref a2)] 8) := by
    intro t k
    refine go30 t ?_
    show Steps _ _ _ (T24.setTop (mkF m 69 #[.val (.int p1), .val (.ref a2), .val (.ref b3), .val (.ref a2), .val (.int (2 : Int32)), .val (.int (1 : Int32)), .val (.long x1), .second] [(.int (1 : Int32)), (.ref a2)])) _
    refine X24.laload hx (j := (1 : Int32)) (v := (.long x2)) Arx31.1 (State.isArrayOf_alike hZ.alike Arx31.2.1) Arx31.2.2 (inb_of Sx31 ⟨by decide, by decide⟩) (Hx31.at (inb_of Sx31 ⟨by decide, by decide⟩) rfl) (g := (mkF m 69 #[.val (.int p1), .val (.ref a2), .val (.ref b3), .val (.ref a2), .val (.int (2 : Int32)), .val (.int (1 : Int32)), .val (.long x1), .second] [(.int (1 : Int32)), (.ref a2)])) rfl rfl (hb hby d1_69) _ ?_
    show Steps _ _ _ (T24.setTop (mkF m 70 #[.val (.int p1), .val (.ref a2), .val (.ref b3), .val (.ref a2), .val (.int (2 : Int32)), .val (.int (1 : Int32)), .val (.long x1), .second] [(.long x2)])) _
    refine XS.lstore X24.here hx rfl (hb hby d1_70) rfl (l' := #[.val (.int p1), .val (.ref a2), .val (.ref b3), .val (.ref a2), .val (.int (2 : Int32)), .val (.int (1 : Int32)), .val (.long x2), .second]) rfl ?_
    show Steps _ _ _ (T24.setTop (mkF m 72 #[.val (.int p1), .val (.ref a2), .val (.ref b3), .val (.ref a2), .val (.int (2 : Int32)), .val (.int (1 : Int32)), .val (.long x2), .second] [])) _
    refine XS.lload X24.here hx rfl (hb hby d1_72) rfl ?_
    show Steps _ _ _ (T24.setTop (mkF m 74 #[.val (.int p1), .val (.ref a2), .val (.ref b3), .val (.ref a2), .val (.int (2 : Int32)), .val (.int (1 : Int32)), .val (.long x2), .second] [(.long x2)])) _
    refine XS.lconst X24.here hx rfl (hb hby d1_74) ?_
    show Steps _ _ _ (T24.setTop (mkF m 75 #[.val (.int p1), .val (.ref a2), .val (.ref b3), .val (.ref a2), .val (.int (2 : Int32)), .val (.int (1 : Int32)), .val (.long x2), .second] [(.long (1 : Int64)), (.long x2)])) _
    refine XS.lcmp X24.here hx rfl (hb hby d1_75) rfl ?_
    show Steps _ _ _ (T24.setTop (mkF m 76 #[.val (.int p1), .val (.ref a2), .val (.ref b3), .val (.ref a2), .val (.int (2 : Int32)), .val (.int (1 : Int32)), .val (.long x2), .second] [(.int (lcmpW x2 (1 : Int64)))])) _
    refine XS.ifNo X24.here hx rfl (hb hby d1_76) rfl ((if0 _ _).trans (flt hx2.1).1) ?_
    show Steps _ _ _ (T24.setTop (mkF m 79 #[.val (.int p1), .val (.ref a2), .val (.ref b3), .val (.ref a2), .val (.int (2 : Int32)), .val (.int (1 : Int32)), .val (.long x2), .second] [])) _
    refine XS.lload X24.here hx rfl (hb hby d1_79) rfl ?_
    show Steps _ _ _ (T24.setTop (mkF m 81 #[.val (.int p1), .val (.ref a2), .val (.ref b3), .val (.ref a2), .val (.int (2 : Int32)), .val (.int (1 : Int32)), .val (.long x2), .second] [(.long x2)])) _
    refine X24.ldc2Long hx hown (mvT hZ (wk hw 35 rfl)) (g := (mkF m 81 #[.val (.int p1), .val (.ref a2), .val (.ref b3), .val (.ref a2), .val (.int (2 : Int32)), .val (.int (1 : Int32)), .val (.long x2), .second] [(.long x2)])) rfl (hb hby d1_81) _ ?_
    show Steps _ _ _ (T24.setTop (mkF m 84 #[.val (.int p1), .val (.ref a2), .val (.ref b3), .val (.ref a2), .val (.int (2 : Int32)), .val (.int (1 : Int32)), .val (.long x2), .second] [(.long (86400000 : Int64)), (.long x2)])) _
    refine XS.lcmp X24.here hx rfl (hb hby d1_84) rfl ?_
    show Steps _ _ _ (T24.setTop (mkF m 85 #[.val (.int p1), .val (.ref a2), .val (.ref b3), .val (.ref a2), .val (.int (2 : Int32)), .val (.int (1 : Int32)), .val (.long x2), .second] [(.int (lcmpW x2 (86400000 : Int64)))])) _
    refine XS.ifYes X24.here hx rfl (pc0 := 85) (pc' := 103) rfl (hb hby d1_85) rfl ((if0 _ _).trans (flt hx2.2).2.2.2) (by decide) (by decide) ?_
    show Steps _ _ _ (T24.setTop (mkF m 103 #[.val (.int p1), .val (.ref a2), .val (.ref b3), .val (.ref a2), .val (.int (2 : Int32)), .val (.int (1 : Int32)), .val (.long x2), .second] [])) _
    refine XS.aloadN X24.here hx rfl (hb hby d1_103) rfl rfl ?_
    show Steps _ _ _ (T24.setTop (mkF m 104 #[.val (.int p1), .val (.ref a2), .val (.ref b3), .val (.ref a2), .val (.int (2 : Int32)), .val (.int (1 : Int32)), .val (.long x2), .second] [(.ref b3)])) _
    refine XS.lload X24.here hx rfl (hb hby d1_104) rfl ?_
    exact k
  have f34 : n0 ≤ T24.heap.size := (Nat.le_trans f25 K24.1)
  have f36 : Keep h0 T24.heap [] := ((f21.trans K18 all0).trans K24 (allS (Or.inr sz_b3) (allS (Or.inr sz_b9) all0)))
  obtain ⟨_, _, ⟨T33, L33, k33, n33⟩, -, X33, ⟨Lc33, hQ33, l33, y33, z33⟩, st33⟩ := Jvm.LawKit.callS X24 hx (y := (⟨"java/lang/Long", "valueOf", "(J)Ljava/lang/Long;"⟩ : MethodName)) hown (mvT hZ (wk hw 36 rfl)) (mvT hZ (wk hw 37 rfl)) (mvT hZ (wk hw 38 rfl)) (mvT hZ (wk hw 39 rfl)) (by decide) (backOf (W := 1) (rm6 l Z a0 hw [] x2 wC clC T24.heap n0 f34 (own_LCext (own_ext0 f36) HC)) hZ (wk hw 39 rfl) (wk hw 38 rfl) (by decide) (by decide)) (g := (mkF m 106 #[.val (.int p1), .val (.ref a2), .val (.ref b3), .val (.ref a2), .val (.int (2 : Int32)), .val (.int (1 : Int32)), .val (.long x2), .second] [(.long x2), (.ref b3)])) rfl (by rw [hml]; rfl) (argsL := [(.long x2)]) (rest := [(.ref b3)]) (lenOf pd_11 rfl) rfl (by show 2 * 0 + _ ≤ _; exact Nat.le_of_eq rfl) (hb hby d1_106) (fun _ _ => ⟨rfl, rfl, (by decide : 3 + 1 ≤ _), (by decide : 6 + 1 ≤ _)⟩)
  dsimp only [Pt.U, Pt.locs, Pt.cells, Pt.slots] at X33 l33 y33 z33 st33 hQ33
  subst l33 y33 z33
  obtain ⟨b33, rfl, N33q, K33, Ey33, Fy33⟩ := hQ33
  have N33 := Fr.app N24 N33q
  have f37 : Exa Z T33.heap b3 "java/util/ArrayList" := ((f22.keep K24).keep K33)
  have f38 : Arv Z T33.heap b9 kE9 (.object "java/lang/Object") (2 : Int32) [(.ref b18), .null] .null := (Vx24.keep K33 nin0)
  have ne_b33_al : b33 ≠ b3 := ne_exa Ey33 f37 (by decide)
  have ne_b33_e : b33 ≠ b9 := Exa.neArv Ey33 f38 (wk hw 188 rfl)
  have go41 : Go p.tables e below T33 (mkF m 109 #[.val (.int p1), .val (.ref a2), .val (.ref b3), .val (.ref a2), .val (.int (2 : Int32)), .val (.int (1 : Int32)), .val (.long x2), .second] [(.ref b33), (.ref b3)]) s₁ (entryFrame m #[(.int p1), (.ref a2)] 8) := by
    intro t k
    refine go35 t ?_
    show Steps _ _ _ (T24.setTop (mkF m 106 #[.val (.int p1), .val (.ref a2), .val (.ref b3), .val (.ref a2), .val (.int (2 : Int32)), .val (.int (1 : Int32)), .val (.long x2), .second] [(.long x2), (.ref b3)])) _
    refine st33 _ ?_
    exact k
  have f40 : n0 ≤ T33.heap.size := (Nat.le_trans f34 K33.1)
  have f42 : Fld Z T33.heap b3 "java/util/AbstractList" "modCount" "I" (.int ((0 : Int32) + (1 : Int32))) := (Fm24.keep K33 nin0)
  have f43 : Fld Z T33.heap b3 "java/util/ArrayList" "elementData" "[Ljava/lang/Object;" (.ref b9) := (Fe24.keep K33 nin0)
  have f44 : Fld Z T33.heap b3 "java/util/ArrayList" "size" "I" (.int (1 : Int32)) := (Fs24.keep K33 nin0)
  obtain ⟨cq39, kq39, q39a, q39b, q39c⟩ := isOf hZ rfl f37
  obtain ⟨_, _, ⟨T39, L39, k39, n39⟩, -, X39, ⟨Lc39, hQ39, l39, y39, z39⟩, st39⟩ := X33.interfaceBack hx (xi := (⟨"java/util/List", "add", "(Ljava/lang/Object;)Z"⟩ : MethodName)) (y := (⟨"java/util/ArrayList", "add", "(Ljava/lang/Object;)Z"⟩ : MethodName)) hown (mvT hZ (wk hw 44 rfl)) (mvT hZ (wk hw 45 rfl)) (mvT hZ (wk hw 46 rfl)) (mvT hZ (wk hw 47 rfl)) (mvT hZ (wk hw 48 rfl)) (mvT hZ (wk hw 49 rfl)) (mvT hZ (wk hw 50 rfl)) (mvT hZ (wk hw 51 rfl)) (by decide) (backOf (W := 0) (rm7 l Z a0 hw [] b3 b33 b9 kE9 ((0 : Int32) + (1 : Int32)) (2 : Int32) (1 : Int32) 1 [(.ref b18), .null] T33.heap n0 f40 f37 f42 f43 f44 g_b3 Ey33 f38 O9 ne_b3_b9 g_b9 (by decide) (by decide) (by decide) rfl (Nat.le_of_ble_eq_true rfl)) hZ (wk hw 52 rfl) (wk hw 10 rfl) (by decide) (by decide)) q39a q39b q39c (g := (mkF m 109 #[.val (.int p1), .val (.ref a2), .val (.ref b3), .val (.ref a2), .val (.int (2 : Int32)), .val (.int (1 : Int32)), .val (.long x2), .second] [(.ref b33), (.ref b3)])) rfl (by rw [hml]; rfl) (Steps.refl _) (argsL := [(.ref b33)]) (rest := []) (lenOf pd_12 rfl) rfl (by show 2 * 0 + _ ≤ _; exact Nat.le_of_eq rfl) (hb hby d1_109) (fun _ _ => ⟨rfl, rfl, (by decide : 4 + 0 ≤ _), (by decide : 7 + 0 ≤ _)⟩)
  dsimp only [Pt.U, Pt.locs, Pt.cells, Pt.slots] at X39 l39 y39 z39 st39 hQ39
  subst l39 y39 z39
  obtain ⟨rfl, N39q, K39, Fm39, Fe39, Fs39, Vx39⟩ := hQ39
  have N39 := Fr.app N33 N39q
  have go46 : Go p.tables e below T39 (mkF m 121 #[.val (.int p1), .val (.ref a2), .val (.ref b3), .val (.ref a2), .val (.int (2 : Int32)), .val (.int (2 : Int32)), .val (.long x2), .second] []) s₁ (entryFrame m #[(.int p1), (.ref a2)] 8) := by
    intro t k
    refine go41 t ?_
    show Steps _ _ _ (T33.setTop (mkF m 109 #[.val (.int p1), .val (.ref a2), .val (.ref b3), .val (.ref a2), .val (.int (2 : Int32)), .val (.int (1 : Int32)), .val (.long x2), .second] [(.ref b33), (.ref b3)])) _
    refine st39.trans ?_
    show Steps _ _ _ (T39.setTop (mkF m 114 #[.val (.int p1), .val (.ref a2), .val (.ref b3), .val (.ref a2), .val (.int (2 : Int32)), .val (.int (1 : Int32)), .val (.long x2), .second] [(.int (1 : Int32))])) _
    refine XS.pop X39.here hx rfl (hb hby d1_114) rfl rfl ?_
    show Steps _ _ _ (T39.setTop (mkF m 115 #[.val (.int p1), .val (.ref a2), .val (.ref b3), .val (.ref a2), .val (.int (2 : Int32)), .val (.int (1 : Int32)), .val (.long x2), .second] [])) _
    refine XS.iinc X39.here hx rfl (hb hby d1_115) rfl (l' := #[.val (.int p1), .val (.ref a2), .val (.ref b3), .val (.ref a2), .val (.int (2 : Int32)), .val (.int (2 : Int32)), .val (.long x2), .second]) rfl ?_
    show Steps _ _ _ (T39.setTop (mkF m 118 #[.val (.int p1), .val (.ref a2), .val (.ref b3), .val (.ref a2), .val (.int (2 : Int32)), .val (.int (2 : Int32)), .val (.long x2), .second] [])) _
    refine XS.goto X39.here hx rfl (pc0 := 118) (pc' := 59) rfl (hb hby d1_118) (by decide) (by decide) ?_
    show Steps _ _ _ (T39.setTop (mkF m 59 #[.val (.int p1), .val (.ref a2), .val (.ref b3), .val (.ref a2), .val (.int (2 : Int32)), .val (.int (2 : Int32)), .val (.long x2), .second] [])) _
    refine XS.iload X39.here hx rfl (hb hby d1_59) rfl ?_
    show Steps _ _ _ (T39.setTop (mkF m 61 #[.val (.int p1), .val (.ref a2), .val (.ref b3), .val (.ref a2), .val (.int (2 : Int32)), .val (.int (2 : Int32)), .val (.long x2), .second] [(.int (2 : Int32))])) _
    refine XS.iload X39.here hx rfl (hb hby d1_61) rfl ?_
    show Steps _ _ _ (T39.setTop (mkF m 63 #[.val (.int p1), .val (.ref a2), .val (.ref b3), .val (.ref a2), .val (.int (2 : Int32)), .val (.int (2 : Int32)), .val (.long x2), .second] [(.int (2 : Int32)), (.int (2 : Int32))])) _
    refine XS.icmpYes X39.here hx rfl (pc0 := 63) (pc' := 121) rfl (hb hby d1_63) rfl (flt (by decide)).2.1 (by decide) (by decide) ?_
    exact k
  have f45 : n0 ≤ T39.heap.size := (Nat.le_trans f40 K39.1)
  have f47 : Keep h0 T39.heap [] := ((f36.trans K33 all0).trans K39 (allS (Or.inr sz_b3) (allS (Or.inr sz_b9) all0)))
  have f49 : Exa Z T39.heap b3 "java/util/ArrayList" := (f37.keep K39)
  have f50 : Arv Z T39.heap a2 k2 .long (2 : Int32) [(.long x1), (.long x2)] (.long (0 : Int64)) := ((f32.keep K33 nin0).keep K39 (ninS ne_a2_b3 (ninS ne_a2_b9 nin0)))
  have f51 : Exa Z T39.heap b18 "java/lang/Long" := (((Ey18.keep K24).keep K33).keep K39)
  have f52 : Exa Z T39.heap b33 "java/lang/Long" := (Ey33.keep K39)
  obtain ⟨T53, h53, X53, e53, E53, A53, D53, -, st53⟩ := newO X39 hx hZ hown (wk hw 63 rfl) (wk hw 64 rfl) (wk hw 6 rfl) rfl (g := (mkF m 121 #[.val (.int p1), .val (.ref a2), .val (.ref b3), .val (.ref a2), .val (.int (2 : Int32)), .val (.int (2 : Int32)), .val (.long x2), .second] [])) rfl (hb hby d1_121) (by decide) (by decide)
  obtain ⟨b48, g53⟩ : ∃ z, z = T39.heap.size := ⟨_, rfl⟩
  rw [← g53] at A53 D53 st53
  have ne_b3_b48 : b3 ≠ b48 := Nat.ne_of_lt (Nat.lt_of_lt_of_le f49.lt (Nat.le_of_eq g53.symm))
  have ne_b9_b48 : b9 ≠ b48 := Nat.ne_of_lt (Nat.lt_of_lt_of_le Vx39.lt (Nat.le_of_eq g53.symm))
  have ne_a2_b48 : a2 ≠ b48 := Nat.ne_of_lt (Nat.lt_of_lt_of_le f50.lt (Nat.le_of_eq g53.symm))
  have ne_b18_b48 : b18 ≠ b48 := Nat.ne_of_lt (Nat.lt_of_lt_of_le f51.lt (Nat.le_of_eq g53.symm))
  have ne_b33_b48 : b33 ≠ b48 := Nat.ne_of_lt (Nat.lt_of_lt_of_le f52.lt (Nat.le_of_eq g53.symm))
  have g_b48 : n0 ≤ b48 := Nat.le_trans f45 (Nat.le_of_eq g53.symm)
  have sz_b48 : h0.size ≤ b48 := Nat.le_trans f47.1 (Nat.le_of_eq g53.symm)
  have F_retries_b48 : Fld Z h53 b48 "com/example/nackoff/nackoff/RetryPolicy" "retries" "I" (.int (0 : Int32)) := D53 (Or.inr (wk hw 118 rfl)) (ty := .int) (by decide)
  have F_waitsMs_b48 : Fld Z h53 b48 "com/example/nackoff/nackoff/RetryPolicy" "waitsMs" "Ljava/util/List;" .null := D53 (Or.inr (wk hw 120 rfl)) (ty := (.object "java/util/List")) (by decide)
  have F_retryableTypes_b48 : Fld Z h53 b48 "com/example/nackoff/nackoff/RetryPolicy" "retryableTypes" "Ljava/util/List;" .null := D53 (Or.inr (wk hw 122 rfl)) (ty := (.object "java/util/List")) (by decide)
  have go56 : Go p.tables e below T53 (mkF m 127 #[.val (.int p1), .val (.ref a2), .val (.ref b3), .val (.ref a2), .val (.int (2 : Int32)), .val (.int (2 : Int32)), .val (.long x2), .second] [(.ref b3), (.int p1), (.ref b48), (.ref b48)]) s₁ (entryFrame m #[(.int p1), (.ref a2)] 8) := by
    intro t k
    refine go46 t ?_
    show Steps _ _ _ (T39.setTop (mkF m 121 #[.val (.int p1), .val (.ref a2), .val (.ref b3), .val (.ref a2), .val (.int (2 : Int32)), .val (.int (2 : Int32)), .val (.long x2), .second] [])) _
    refine st53 _ ?_
    show Steps _ _ _ (T53.setTop (mkF m 124 #[.val (.int p1), .val (.ref a2), .val (.ref b3), .val (.ref a2), .val (.int (2 : Int32)), .val (.int (2 : Int32)), .val (.long x2), .second] [(.ref b48)])) _
    refine XS.dup X53.here hx rfl (hb hby d1_124) rfl rfl ?_
    show Steps _ _ _ (T53.setTop (mkF m 125 #[.val (.int p1), .val (.ref a2), .val (.ref b3), .val (.ref a2), .val (.int (2 : Int32)), .val (.int (2 : Int32)), .val (.long x2), .second] [(.ref b48), (.ref b48)])) _
    refine XS.iloadN X53.here hx rfl (hb hby d1_125) rfl ?_
    show Steps _ _ _ (T53.setTop (mkF m 126 #[.val (.int p1), .val (.ref a2), .val (.ref b3), .val (.ref a2), .val (.int (2 : Int32)), .val (.int (2 : Int32)), .val (.long x2), .second] [(.int p1), (.ref b48), (.ref b48)])) _
    refine XS.aloadN X53.here hx rfl (hb hby d1_126) rfl rfl ?_
    exact k
  have f55 : n0 ≤ h53.size := (Nat.le_trans f45 E53.1)
  have f57 : Exa Z h53 b3 "java/util/ArrayList" := (f49.ext E53)
  have f58 : Arv Z h53 b9 kE9 (.object "java/lang/Object") (2 : Int32) [(.ref b18), (.ref b33)] .null := (Vx39.ext E53)
  have f59 : Arv Z h53 a2 k2 .long (2 : Int32) [(.long x1), (.long x2)] (.long (0 : Int64)) := (f50.ext E53)
  have f60 : Exa Z h53 b18 "java/lang/Long" := (f51.ext E53)
  have f61 : Exa Z h53 b33 "java/lang/Long" := (f52.ext E53)
  have f62 : Keep h0 h53 [] := (f47.ext E53)
  obtain ⟨_, _, ⟨T54, L54, k54, n54⟩, -, X54, ⟨Lc54, hQ54, l54, y54, z54⟩, st54⟩ := Jvm.LawKit.callS X53 hx (y := (⟨"java/util/Collections", "unmodifiableList", "(Ljava/util/List;)Ljava/util/List;"⟩ : MethodName)) hown (mvT hZ (wk hw 65 rfl)) (mvT hZ (wk hw 66 rfl)) (mvT hZ (wk hw 67 rfl)) (mvT hZ (wk hw 68 rfl)) (by decide) (backOf (W := 3) (rm9 l Z a0 hw [] b3 mA mL mR h53 n0 f55 f57 MA ML MR hmL hmR) hZ (wk hw 68 rfl) (wk hw 67 rfl) (by decide) (by decide)) (g := (mkF m 127 #[.val (.int p1), .val (.ref a2), .val (.ref b3), .val (.ref a2), .val (.int (2 : Int32)), .val (.int (2 : Int32)), .val (.long x2), .second] [(.ref b3), (.int p1), (.ref b48), (.ref b48)])) rfl (by rw [hml]; rfl) (argsL := [(.ref b3)]) (rest := [(.int p1), (.ref b48), (.ref b48)]) (lenOf pd_13 rfl) rfl (by show 2 * 0 + _ ≤ _; exact Nat.le_of_eq rfl) (hb hby d1_127) (fun _ _ => ⟨rfl, e53, (by decide : 5 + 1 ≤ _), (by decide : 10 + 2 ≤ _)⟩)
  dsimp only [Pt.U, Pt.locs, Pt.cells, Pt.slots] at X54 l54 y54 z54 st54 hQ54
  subst l54 y54 z54
  obtain ⟨b54, rfl, N54q, K54, SZ54, B54⟩ := hQ54
  have N54 := Fr.app N39 N54q
  have ne_b3_b54 : b3 ≠ b54 := Nat.ne_of_lt (Nat.lt_of_lt_of_le f57.lt SZ54)
  have ne_b9_b54 : b9 ≠ b54 := Nat.ne_of_lt (Nat.lt_of_lt_of_le f58.lt SZ54)
  have ne_b48_b54 : b48 ≠ b54 := Nat.ne_of_lt (Nat.lt_of_lt_of_le A53.lt SZ54)
  have ne_a2_b54 : a2 ≠ b54 := Nat.ne_of_lt (Nat.lt_of_lt_of_le f59.lt SZ54)
  have ne_b18_b54 : b18 ≠ b54 := Nat.ne_of_lt (Nat.lt_of_lt_of_le f60.lt SZ54)
  have ne_b33_b54 : b33 ≠ b54 := Nat.ne_of_lt (Nat.lt_of_lt_of_le f61.lt SZ54)
  have g_b54 : n0 ≤ b54 := Nat.le_trans f55 SZ54
  have sz_b54 : h0.size ≤ b54 := Nat.le_trans f62.1 SZ54
  have go65 : Go p.tables e below T54 (mkF m 130 #[.val (.int p1), .val (.ref a2), .val (.ref b3), .val (.ref a2), .val (.int (2 : Int32)), .val (.int (2 : Int32)), .val (.long x2), .second] [(.ref b54), (.int p1), (.ref b48), (.ref b48)]) s₁ (entryFrame m #[(.int p1), (.ref a2)] 8) := by
    intro t k
    refine go56 t ?_
    show Steps _ _ _ (T53.setTop (mkF m 127 #[.val (.int p1), .val (.ref a2), .val (.ref b3), .val (.ref a2), .val (.int (2 : Int32)), .val (.int (2 : Int32)), .val (.long x2), .second] [(.ref b3), (.int p1), (.ref b48), (.ref b48)])) _
    refine st54 _ ?_
    exact k
  have f64 : n0 ≤ T54.heap.size := (Nat.le_trans f55 K54.1)
  have f66 : Keep h0 T54.heap [] := (f62.trans K54 all0)
  obtain ⟨_, _, ⟨T63, L63, k63, n63⟩, -, X63, ⟨Lc63, hQ63, l63, y63, z63⟩, st63⟩ := Jvm.LawKit.callS X54 hx (y := (⟨"java/util/List", "of", "()Ljava/util/List;"⟩ : MethodName)) hown (mvT hZ (wk hw 107 rfl)) (mvT hZ (wk hw 108 rfl)) (mvT hZ (wk hw 109 rfl)) (mvT hZ (wk hw 110 rfl)) (by decide) (backOf (W := 4) (rm13 l Z a0 hw [] wL T54.heap n0 f64 (S_L.ext (own_ext0 f66))) hZ (wk hw 110 rfl) (wk hw 109 rfl) (by decide) (by decide)) (g := (mkF m 130 #[.val (.int p1), .val (.ref a2), .val (.ref b3), .val (.ref a2), .val (.int (2 : Int32)), .val (.int (2 : Int32)), .val (.long x2), .second] [(.ref b54), (.int p1), (.ref b48), (.ref b48)])) rfl (by rw [hml]; rfl) (argsL := []) (rest := [(.ref b54), (.int p1), (.ref b48), (.ref b48)]) (lenOf pd_14 rfl) rfl (by show 2 * 0 + _ ≤ _; exact Nat.le_of_eq rfl) (hb hby d1_130) (fun _ _ => ⟨rfl, rfl, (by decide : 6 + 0 ≤ _), (by decide : 12 + 0 ≤ _)⟩)
  dsimp only [Pt.U, Pt.locs, Pt.cells, Pt.slots] at X63 l63 y63 z63 st63 hQ63
  subst l63 y63 z63
  obtain ⟨rfl, N63q, e63⟩ := hQ63
  have N63 := Fr.app N54 N63q
  have go69 : Go p.tables e below T63 (mkF m 133 #[.val (.int p1), .val (.ref a2), .val (.ref b3), .val (.ref a2), .val (.int (2 : Int32)), .val (.int (2 : Int32)), .val (.long x2), .second] [(.ref wL), (.ref b54), (.int p1), (.ref b48), (.ref b48)]) s₁ (entryFrame m #[(.int p1), (.ref a2)] 8) := by
    intro t k
    refine go65 t ?_
    show Steps _ _ _ (T54.setTop (mkF m 130 #[.val (.int p1), .val (.ref a2), .val (.ref b3), .val (.ref a2), .val (.int (2 : Int32)), .val (.int (2 : Int32)), .val (.long x2), .second] [(.ref b54), (.int p1), (.ref b48), (.ref b48)])) _
    refine st63 _ ?_
    exact k
  have f68 : Exa Z T54.heap b48 "com/example/nackoff/nackoff/RetryPolicy" := (A53.keep K54)
  have f70 : Fld Z T54.heap b48 "com/example/nackoff/nackoff/RetryPolicy" "retries" "I" (.int (0 : Int32)) := (F_retries_b48.keep K54 nin0)
  have f71 : Fld Z T54.heap b48 "com/example/nackoff/nackoff/RetryPolicy" "waitsMs" "Ljava/util/List;" .null := (F_waitsMs_b48.keep K54 nin0)
  have f72 : Fld Z T54.heap b48 "com/example/nackoff/nackoff/RetryPolicy" "retryableTypes" "Ljava/util/List;" .null := (F_retryableTypes_b48.keep K54 nin0)
  obtain ⟨_, _, ⟨T67, L67, k67, n67⟩, -, X67, ⟨Lc67, hQ67, l67, y67, z67⟩, st67⟩ := X63.specialBack hx (y := (⟨"com/example/nackoff/nackoff/RetryPolicy", "<init>", "(ILjava/util/List;Ljava/util/List;)V"⟩ : MethodName)) rfl hown (mvT hZ (wk hw 113 rfl)) (mvT hZ (wk hw 114 rfl)) (mvT hZ (wk hw 115 rfl)) (by decide) (backOf (W := 1) (rm14 l Z a0 hw [] b48 p1 b54 wL (.int (0 : Int32)) .null .null T54.heap n0 f64 f68 f70 f71 f72 g_b48) hZ (wk hw 115 rfl) (wk hw 6 rfl) (by decide) (by decide)) (g := (mkF m 133 #[.val (.int p1), .val (.ref a2), .val (.ref b3), .val (.ref a2), .val (.int (2 : Int32)), .val (.int (2 : Int32)), .val (.long x2), .second] [(.ref wL), (.ref b54), (.int p1), (.ref b48), (.ref b48)])) rfl (by rw [hml]; rfl) (Steps.refl _) (a := b48) (argsL := [(.int p1), (.ref b54), (.ref wL)]) (rest := [(.ref b48)]) (lenOf pd_15 rfl) rfl (by show 2 * 0 + _ ≤ _; exact Nat.le_of_eq rfl) (hb hby d1_133) (fun _ _ => ⟨rfl, e63, (by decide : 6 + 0 ≤ _), (by decide : 12 + 0 ≤ _)⟩)
  dsimp only [Pt.U, Pt.locs, Pt.cells, Pt.slots] at X67 l67 y67 z67 st67 hQ67
  subst l67 y67 z67
  obtain ⟨rfl, N67q, K67, Fr67, Fw67⟩ := hQ67
  have N67 := Fr.app N63 N67q
  have go73 : Go p.tables e below T67 (mkF m 136 #[.val (.int p1), .val (.ref a2), .val (.ref b3), .val (.ref a2), .val (.int (2 : Int32)), .val (.int (2 : Int32)), .val (.long x2), .second] [(.ref b48)]) s₁ (entryFrame m #[(.int p1), (.ref a2)] 8) := by
    intro t k
    refine go69 t ?_
    show Steps _ _ _ (T63.setTop (mkF m 133 #[.val (.int p1), .val (.ref a2), .val (.ref b3), .val (.ref a2), .val (.int (2 : Int32)), .val (.int (2 : Int32)), .val (.long x2), .second] [(.ref wL), (.ref b54), (.int p1), (.ref b48), (.ref b48)])) _
    refine st67.trans ?_
    exact k
  have f74 : Keep h0 T67.heap [] := (f66.trans K67 (allS (Or.inr sz_b48) all0))
  have f75 : Exa Z T67.heap b48 "com/example/nackoff/nackoff/RetryPolicy" := (f68.keep K67)
  have f76 : WRP Z T67.heap b54 b3 := (B54.keep K67 (ninS (Ne.symm ne_b48_b54) nin0))
  have f77 : Exa Z T67.heap b3 "java/util/ArrayList" := ((f57.keep K54).keep K67)
  have f78 : Fld Z T67.heap b3 "java/util/ArrayList" "size" "I" (.int (2 : Int32)) := (((Fs39.ext E53).keep K54 nin0).keep K67 (ninS ne_b3_b48 nin0))
  have f79 : Fld Z T67.heap b3 "java/util/ArrayList" "elementData" "[Ljava/lang/Object;" (.ref b9) := (((Fe39.ext E53).keep K54 nin0).keep K67 (ninS ne_b3_b48 nin0))
  have f80 : Arv Z T67.heap b9 kE9 (.object "java/lang/Object") (2 : Int32) [(.ref b18), (.ref b33)] .null := ((f58.keep K54 nin0).keep K67 (ninS ne_b9_b48 nin0))
  have f81 : Exa Z T67.heap b18 "java/lang/Long" := ((f60.keep K54).keep K67)
  have f82 : Fld Z T67.heap b18 "java/lang/Long" "value" "J" (.long x1) := ((((((Fy18.keep K24 (ninS ne_b18_al (ninS ne_b18_e nin0))).keep K33 nin0).keep K39 (ninS ne_b18_al (ninS ne_b18_e nin0))).ext E53).keep K54 nin0).keep K67 (ninS ne_b18_b48 nin0))
  have f83 : Exa Z T67.heap b33 "java/lang/Long" := ((f61.keep K54).keep K67)
  have f84 : Fld Z T67.heap b33 "java/lang/Long" "value" "J" (.long x2) := ((((Fy33.keep K39 (ninS ne_b33_al (ninS ne_b33_e nin0))).ext E53).keep K54 nin0).keep K67 (ninS ne_b33_b48 nin0))
  obtain ⟨fs, hr, hrun, hended, hW, hsame⟩ := X67.leave (v := some (.ref b48)) (fun h => by rw [Bd.returns] at h; cases h)
  refine ⟨_, _, go73 _ ?_, hrun, hended, _, _, rfl, ?_, ⟨_, rfl⟩, hW, hsame.mono (by decide) (by decide)⟩
  · exact retOut X67 hx Bd.returns rfl (Or.inr (Or.inr (Or.inr (Or.inr ⟨rfl, rfl, rfl⟩)))) (hb hby d1_136) hr
  · show Q1_2 Z p1 x1 x2 h0 n0 _ T67.heap _
    exact ⟨b48, b54, b3, b9, kE9, b18, b33, rfl, N67, f74, sz_b48, sz_b54, sz_b3, sz_b9, f75, Fr67, Fw67, f76, f77, f78, f79, f80, f81, f82, f83, f84⟩
set_option maxRecDepth 65536 in
set_option maxHeartbeats 40000000 in
theorem rm1_3 (l : Launch) (Z : State) (a0 : Array Value) (hw : ∀ d ∈ tables_1, d.before a0 Z = true) (ws : List Jvm.Cond) (p1 : Int32) (a2 : Addr) (k2 : ClassId) (x1 x2 x3 : Int64) (wC : Addr) (clC : Cell) (wL mA mL mR : Addr) (h0 : Heap) (n0 : Nat) (Z0 : n0 ≤ h0.size) (hr0 : ¬ p1 < (0 : Int32)) (hr1 : ¬ (1000 : Int32) < p1) (V2 : Arv Z h0 a2 k2 .long (3 : Int32) [(.long x1), (.long x2), (.long x3)] (.long (0 : Int64))) (hx1 : ¬ (lcmpW x1 (1 : Int64) < (0 : Int32)) ∧ ¬ ((0 : Int32) < lcmpW x1 (86400000 : Int64))) (hx2 : ¬ (lcmpW x2 (1 : Int64) < (0 : Int32)) ∧ ¬ ((0 : Int32) < lcmpW x2 (86400000 : Int64))) (hx3 : ¬ (lcmpW x3 (1 : Int64) < (0 : Int32)) ∧ ¬ ((0 : Int32) < lcmpW x3 (86400000 : Int64))) (HC : LC Z h0 wC clC) (S_L : Sta Z h0 "java/util/ImmutableCollections" "EMPTY_LIST" "Ljava/util/ImmutableCollections$ListN;" (.ref wL)) (MA : Mr Z "java/util/ArrayList" mA) (ML : Mr Z "java/util/Collections$UnmodifiableList" mL) (MR : Mr Z "java/util/Collections$UnmodifiableRandomAccessList" mR) (hmL : ¬ (mA = mL)) (hmR : ¬ (mA = mR)) :
    MetFree l (⟨"com/example/nackoff/nackoff/RetryPolicy", "of", "(I[J)Lcom/example/nackoff/nackoff/RetryPolicy;"⟩ : MethodName) (head1 (Jvm.Cond.code (⟨"com/example/nackoff/nackoff/RetryPolicy", "of", "(I[J)Lcom/example/nackoff/nackoff/RetryPolicy;"⟩ : MethodName) prog_3_method_3_code 8 (some (.object "com/example/nackoff/nackoff/RetryPolicy")) :: ws) ({ frames := 5, cells := 7, slots := 14, locals := 67 } : Room)) (fun a U => a = #[(.int p1), (.ref a2)] ∧ Z.Warmed39 U.vm ∧ U.heap = h0) (fun _ _ _ _ _ => True) (fun _ U o U' => ∃ v L, o = .returned v ∧ Q1_3 Z p1 x1 x2 x3 h0 n0 v U'.heap L ∧ FrameEnd U o U' L ({ frames := 5, cells := 7, slots := 14, locals := 67 } : Room).cells ({ frames := 5, cells := 7, slots := 14, locals := 67 } : Room).slots) := by
  refine MetFree.of_bodySF (plainFor_of_name pn_1) hisR ?_
  intro p e s m args below meth c s₁ Bd hml0 hP hK
  obtain ⟨rfl, hZ, hh⟩ := hP
  have hx := Bd.exec
  have hby := Bd.bytes
  have hml : c.maxLocals = 8 := hml0
  have hown : s.vm.findClass "com/example/nackoff/nackoff/RetryPolicy" = some m.cls := findClass_of_methodNamed Bd.named
  have hnm := (name_of_methodNamed Bd.named Bd.method).1
  have X0 : Stand p l e ({ frames := 5, cells := 7, slots := 14, locals := 67 } : Room) s m #[(.int p1), (.ref a2)] below meth c s₁ [] 0 0 := Stand.of_body Bd
  have e0 : s₁.heap = h0 := by rw [← hh, Bd.state]; rfl
  have N0 := Fr.nil n0
  have go0 : Go p.tables e below s₁ (mkF m 0 #[.val (.int p1), .val (.ref a2), .unset, .unset, .unset, .unset, .unset, .unset] []) s₁ (entryFrame m #[(.int p1), (.ref a2)] 8) := fun t k => castTop (ef_1 m p1 a2) k
  have go1 : Go p.tables e below s₁ (mkF m 26 #[.val (.int p1), .val (.ref a2), .unset, .unset, .unset, .unset, .unset, .unset] [(.ref a2)]) s₁ (entryFrame m #[(.int p1), (.ref a2)] 8) := by
    intro t k
    refine go0 t ?_
    show Steps _ _ _ (s₁.setTop (mkF m 0 #[.val (.int p1), .val (.ref a2), .unset, .unset, .unset, .unset, .unset, .unset] [])) _
    refine XS.iloadN X0.here hx rfl (hb hby d1_0) rfl ?_
    show Steps _ _ _ (s₁.setTop (mkF m 1 #[.val (.int p1), .val (.ref a2), .unset, .unset, .unset, .unset, .unset, .unset] [(.int p1)])) _
    refine XS.ifNo X0.here hx rfl (hb hby d1_1) rfl ((if0 _ _).trans (flt hr0).1) ?_
    show Steps _ _ _ (s₁.setTop (mkF m 4 #[.val (.int p1), .val (.ref a2), .unset, .unset, .unset, .unset, .unset, .unset] [])) _
    refine XS.iloadN X0.here hx rfl (hb hby d1_4) rfl ?_
    show Steps _ _ _ (s₁.setTop (mkF m 5 #[.val (.int p1), .val (.ref a2), .unset, .unset, .unset, .unset, .unset, .unset] [(.int p1)])) _
    refine XS.sipush X0.here hx rfl (hb hby d1_5) ?_
    show Steps _ _ _ (s₁.setTop (mkF m 8 #[.val (.int p1), .val (.ref a2), .unset, .unset, .unset, .unset, .unset, .unset] [(.int (1000 : Int32)), (.int p1)])) _
    refine XS.icmpYes X0.here hx rfl (pc0 := 8) (pc' := 25) rfl (hb hby d1_8) rfl (flt hr1).2.2.2 (by decide) (by decide) ?_
    show Steps _ _ _ (s₁.setTop (mkF m 25 #[.val (.int p1), .val (.ref a2), .unset, .unset, .unset, .unset, .unset, .unset] [])) _
    refine XS.aloadN X0.here hx rfl (hb hby d1_25) rfl rfl ?_
    exact k
  obtain ⟨clx2, Arx2, -, Sx2, Nx2, Hx2, -⟩ := id V2
  have go4 : Go p.tables e below s₁ (mkF m 40 #[.val (.int p1), .val (.ref a2), .unset, .unset, .unset, .unset, .unset, .unset] []) s₁ (entryFrame m #[(.int p1), (.ref a2)] 8) := by
    intro t k
    refine go1 t ?_
    show Steps _ _ _ (s₁.setTop (mkF m 26 #[.val (.int p1), .val (.ref a2), .unset, .unset, .unset, .unset, .unset, .unset] [(.ref a2)])) _
    refine X0.arraylength hx (by rw [e0]; exact Arx2.1) (State.isArrayOf_alike hZ.alike Arx2.2.1) (g := (mkF m 26 #[.val (.int p1), .val (.ref a2), .unset, .unset, .unset, .unset, .unset, .unset] [(.ref a2)])) rfl rfl (hb hby d1_26) _ ?_
    rw [len_of Sx2 Nx2]
    show Steps _ _ _ (s₁.setTop (mkF m 27 #[.val (.int p1), .val (.ref a2), .unset, .unset, .unset, .unset, .unset, .unset] [(.int (3 : Int32))])) _
    refine XS.ifYes X0.here hx rfl (pc0 := 27) (pc' := 40) rfl (hb hby d1_27) rfl ((if0 _ _).trans (feq (by decide)).2) (by decide) (by decide) ?_
    exact k
  obtain ⟨T5, h5, X5, e5, E5, A5, D5, -, st5⟩ := newO X0 hx hZ hown (wk hw 8 rfl) (wk hw 9 rfl) (wk hw 10 rfl) e0 (g := (mkF m 40 #[.val (.int p1), .val (.ref a2), .unset, .unset, .unset, .unset, .unset, .unset] [])) rfl (hb hby d1_40) (by decide) (by decide)
  obtain ⟨b3, g5⟩ : ∃ z, z = h0.size := ⟨_, rfl⟩
  rw [← g5] at A5 D5 st5
  have ne_a2_b3 : a2 ≠ b3 := Nat.ne_of_lt (Nat.lt_of_lt_of_le V2.lt (Nat.le_of_eq g5.symm))
  have g_b3 : n0 ≤ b3 := Nat.le_trans Z0 (Nat.le_of_eq g5.symm)
  have sz_b3 : h0.size ≤ b3 := Nat.le_trans (Keep.refl h0 []).1 (Nat.le_of_eq g5.symm)
  have F_modCount_b3 : Fld Z h5 b3 "java/util/AbstractList" "modCount" "I" (.int (0 : Int32)) := D5 (Or.inl (wk hw 30 rfl)) (ty := .int) (by decide)
  have F_elementData_b3 : Fld Z h5 b3 "java/util/ArrayList" "elementData" "[Ljava/lang/Object;" .null := D5 (Or.inl (wk hw 34 rfl)) (ty := (.array (.object "java/lang/Object"))) (by decide)
  have F_size_b3 : Fld Z h5 b3 "java/util/ArrayList" "size" "I" (.int (0 : Int32)) := D5 (Or.inl (wk hw 56 rfl)) (ty := .int) (by decide)
  have go6 : Go p.tables e below T5 (mkF m 45 #[.val (.int p1), .val (.ref a2), .unset, .unset, .unset, .unset, .unset, .unset] [(.ref a2), (.ref b3), (.ref b3)]) s₁ (entryFrame m #[(.int p1), (.ref a2)] 8) := by
    intro t k
    refine go4 t ?_
    show Steps _ _ _ (s₁.setTop (mkF m 40 #[.val (.int p1), .val (.ref a2), .unset, .unset, .unset, .unset, .unset, .unset] [])) _
    refine st5 _ ?_
    show Steps _ _ _ (T5.setTop (mkF m 43 #[.val (.int p1), .val (.ref a2), .unset, .unset, .unset, .unset, .unset, .unset] [(.ref b3)])) _
    refine XS.dup X5.here hx rfl (hb hby d1_43) rfl rfl ?_
    show Steps _ _ _ (T5.setTop (mkF m 44 #[.val (.int p1), .val (.ref a2), .unset, .unset, .unset, .unset, .unset, .unset] [(.ref b3), (.ref b3)])) _
    refine XS.aloadN X5.here hx rfl (hb hby d1_44) rfl rfl ?_
    exact k
  have f8 : Arv Z h5 a2 k2 .long (3 : Int32) [(.long x1), (.long x2), (.long x3)] (.long (0 : Int64)) := (V2.ext E5)
  obtain ⟨clx7, Arx7, -, Sx7, Nx7, Hx7, -⟩ := id f8
  have go11 : Go p.tables e below T5 (mkF m 46 #[.val (.int p1), .val (.ref a2), .unset, .unset, .unset, .unset, .unset, .unset] [(.int (3 : Int32)), (.ref b3), (.ref b3)]) s₁ (entryFrame m #[(.int p1), (.ref a2)] 8) := by
    intro t k
    refine go6 t ?_
    show Steps _ _ _ (T5.setTop (mkF m 45 #[.val (.int p1), .val (.ref a2), .unset, .unset, .unset, .unset, .unset, .unset] [(.ref a2), (.ref b3), (.ref b3)])) _
    refine X5.arraylength hx (by rw [e5]; exact Arx7.1) (State.isArrayOf_alike hZ.alike Arx7.2.1) (g := (mkF m 45 #[.val (.int p1), .val (.ref a2), .unset, .unset, .unset, .unset, .unset, .unset] [(.ref a2), (.ref b3), (.ref b3)])) rfl rfl (hb hby d1_45) _ ?_
    rw [len_of Sx7 Nx7]
    exact k
  have f10 : n0 ≤ h5.size := (Nat.le_trans Z0 E5.1)
  have f12 : Keep h0 h5 [] := ((Keep.refl h0 []).ext E5)
  obtain ⟨_, _, ⟨T9, L9, k9, n9⟩, -, X9, ⟨Lc9, hQ9, l9, y9, z9⟩, st9⟩ := X5.specialBack hx (y := (⟨"java/util/ArrayList", "<init>", "(I)V"⟩ : MethodName)) rfl hown (mvT hZ (wk hw 11 rfl)) (mvT hZ (wk hw 12 rfl)) (mvT hZ (wk hw 13 rfl)) (by decide) (backOf (W := 1) (rm2_3 l Z a0 hw [] b3 h5 n0 f10 A5 F_modCount_b3 F_elementData_b3 F_size_b3 g_b3) hZ (wk hw 13 rfl) (wk hw 10 rfl) (by decide) (by decide)) (g := (mkF m 46 #[.val (.int p1), .val (.ref a2), .unset, .unset, .unset, .unset, .unset, .unset] [(.int (3 : Int32)), (.ref b3), (.ref b3)])) rfl (by rw [hml]; rfl) (Steps.refl _) (a := b3) (argsL := [(.int (3 : Int32))]) (rest := [(.ref b3)]) (lenOf pd_10 rfl) rfl (by show 2 * 0 + _ ≤ _; exact Nat.le_of_eq rfl) (hb hby d1_46) (fun _ _ => ⟨rfl, e5, (by decide : 1 + 1 ≤ _), (by decide : 3 + 3 ≤ _)⟩)
  dsimp only [Pt.U, Pt.locs, Pt.cells, Pt.slots] at X9 l9 y9 z9 st9 hQ9
  subst l9 y9 z9
  obtain ⟨rfl, N9q, K9, b9, kE9, SZ9, Fm9, Fe9, Fs9, Vx9, O9⟩ := hQ9
  have N9 := Fr.app N0 N9q
  have ne_b3_b9 : b3 ≠ b9 := Nat.ne_of_lt (Nat.lt_of_lt_of_le A5.lt SZ9)
  have ne_a2_b9 : a2 ≠ b9 := Nat.ne_of_lt (Nat.lt_of_lt_of_le f8.lt SZ9)
  have g_b9 : n0 ≤ b9 := Nat.le_trans f10 SZ9
  have sz_b9 : h0.size ≤ b9 := Nat.le_trans f12.1 SZ9
  have go13 : Go p.tables e below T9 (mkF m 53 #[.val (.int p1), .val (.ref a2), .val (.ref b3), .val (.ref a2), .unset, .unset, .unset, .unset] [(.ref a2)]) s₁ (entryFrame m #[(.int p1), (.ref a2)] 8) := by
    intro t k
    refine go11 t ?_
    show Steps _ _ _ (T5.setTop (mkF m 46 #[.val (.int p1), .val (.ref a2), .unset, .unset, .unset, .unset, .unset, .unset] [(.int (3 : Int32)), (.ref b3), (.ref b3)])) _
    refine st9.trans ?_
    show Steps _ _ _ (T9.setTop (mkF m 49 #[.val (.int p1), .val (.ref a2), .unset, .unset, .unset, .unset, .unset, .unset] [(.ref b3)])) _
    refine XS.astoreN X9.here hx rfl (hb hby d1_49) rfl rfl (l' := #[.val (.int p1), .val (.ref a2), .val (.ref b3), .unset, .unset, .unset, .unset, .unset]) rfl ?_
    show Steps _ _ _ (T9.setTop (mkF m 50 #[.val (.int p1), .val (.ref a2), .val (.ref b3), .unset, .unset, .unset, .unset, .unset] [])) _
    refine XS.aloadN X9.here hx rfl (hb hby d1_50) rfl rfl ?_
    show Steps _ _ _ (T9.setTop (mkF m 51 #[.val (.int p1), .val (.ref a2), .val (.ref b3), .unset, .unset, .unset, .unset, .unset] [(.ref a2)])) _
    refine XS.astoreN X9.here hx rfl (hb hby d1_51) rfl rfl (l' := #[.val (.int p1), .val (.ref a2), .val (.ref b3), .val (.ref a2), .unset, .unset, .unset, .unset]) rfl ?_
    show Steps _ _ _ (T9.setTop (mkF m 52 #[.val (.int p1), .val (.ref a2), .val (.ref b3), .val (.ref a2), .unset, .unset, .unset, .unset] [])) _
    refine XS.aloadN X9.here hx rfl (hb hby d1_52) rfl rfl ?_
    exact k
  have f15 : Arv Z T9.heap a2 k2 .long (3 : Int32) [(.long x1), (.long x2), (.long x3)] (.long (0 : Int64)) := (f8.keep K9 (ninS ne_a2_b3 nin0))
  obtain ⟨clx14, Arx14, -, Sx14, Nx14, Hx14, -⟩ := id f15
  have go16 : Go p.tables e below T9 (mkF m 69 #[.val (.int p1), .val (.ref a2), .val (.ref b3), .val (.ref a2), .val (.int (3 : Int32)), .val (.int (0 : Int32)), .unset, .unset] [(.int (0 : Int32)), (.ref a2)]) s₁ (entryFrame m #[(.int p1), (.ref a2)] 8) := by
    intro t k
    refine go13 t ?_
    show Steps _ _ _ (T9.setTop (mkF m 53 #[.val (.int p1), .val (.ref a2), .val (.ref b3), .val (.ref a2), .unset, .unset, .unset, .unset] [(.ref a2)])) _
    refine X9.arraylength hx Arx14.1 (State.isArrayOf_alike hZ.alike Arx14.2.1) (g := (mkF m 53 #[.val (.int p1), .val (.ref a2), .val (.ref b3), .val (.ref a2), .unset, .unset, .unset, .unset] [(.ref a2)])) rfl rfl (hb hby d1_53) _ ?_
    rw [len_of Sx14 Nx14]
    show Steps _ _ _ (T9.setTop (mkF m 54 #[.val (.int p1), .val (.ref a2), .val (.ref b3), .val (.ref a2), .unset, .unset, .unset, .unset] [(.int (3 : Int32))])) _
    refine XS.istore X9.here hx rfl (hb hby d1_54) rfl (l' := #[.val (.int p1), .val (.ref a2), .val (.ref b3), .val (.ref a2), .val (.int (3 : Int32)), .unset, .unset, .unset]) rfl ?_
    show Steps _ _ _ (T9.setTop (mkF m 56 #[.val (.int p1), .val (.ref a2), .val (.ref b3), .val (.ref a2), .val (.int (3 : Int32)), .unset, .unset, .unset] [])) _
    refine XS.iconst X9.here hx rfl (hb hby d1_56) ?_
    show Steps _ _ _ (T9.setTop (mkF m 57 #[.val (.int p1), .val (.ref a2), .val (.ref b3), .val (.ref a2), .val (.int (3 : Int32)), .unset, .unset, .unset] [(.int (0 : Int32))])) _
    refine XS.istore X9.here hx rfl (hb hby d1_57) rfl (l' := #[.val (.int p1), .val (.ref a2), .val (.ref b3), .val (.ref a2), .val (.int (3 : Int32)), .val (.int (0 : Int32)), .unset, .unset]) rfl ?_
    show Steps _ _ _ (T9.setTop (mkF m 59 #[.val (.int p1), .val (.ref a2), .val (.ref b3), .val (.ref a2), .val (.int (3 : Int32)), .val (.int (0 : Int32)), .unset, .unset] [])) _
    refine XS.iload X9.here hx rfl (hb hby d1_59) rfl ?_
    show Steps _ _ _ (T9.setTop (mkF m 61 #[.val (.int p1), .val (.ref a2), .val (.ref b3), .val (.ref a2), .val (.int (3 : Int32)), .val (.int (0 : Int32)), .unset, .unset] [(.int (0 : Int32))])) _
    refine XS.iload X9.here hx rfl (hb hby d1_61) rfl ?_
    show Steps _ _ _ (T9.setTop (mkF m 63 #[.val (.int p1), .val (.ref a2), .val (.ref b3), .val (.ref a2), .val (.int (3 : Int32)), .val (.int (0 : Int32)), .unset, .unset] [(.int (3 : Int32)), (.int (0 : Int32))])) _
    refine XS.icmpNo X9.here hx rfl (hb hby d1_63) rfl (tlt (by decide)).2.1 ?_
    show Steps _ _ _ (T9.setTop (mkF m 66 #[.val (.int p1), .val (.ref a2), .val (.ref b3), .val (.ref a2), .val (.int (3 : Int32)), .val (.int (0 : Int32)), .unset, .unset] [])) _
    refine XS.aloadN X9.here hx rfl (hb hby d1_66) rfl rfl ?_
    show Steps _ _ _ (T9.setTop (mkF m 67 #[.val (.int p1), .val (.ref a2), .val (.ref b3), .val (.ref a2), .val (.int (3 : Int32)), .val (.int (0 : Int32)), .unset, .unset] [(.ref a2)])) _
    refine XS.iload X9.here hx rfl (hb hby d1_67) rfl ?_
    exact k
  obtain ⟨clx17, Arx17, -, Sx17, Nx17, Hx17, -⟩ := id f15
  have go20 : Go p.tables e below T9 (mkF m 106 #[.val (.int p1), .val (.ref a2), .val (.ref b3), .val (.ref a2), .val (.int (3 : Int32)), .val (.int (0 : Int32)), .val (.long x1), .second] [(.long x1), (.ref b3)]) s₁ (entryFrame m #[(.int p1), (.ref a2)] 8) := by
    intro t k
    refine go16 t ?_
    show Steps _ _ _ (T9.setTop (mkF m 69 #[.val (.int p1), .val (.ref a2), .val (.ref b3), .val (.ref a2), .val (.int (3 : Int32)), .val (.int (0 : Int32)), .unset, .unset] [(.int (0 : Int32)), (.ref a2)])) _
    refine X9.laload hx (j := (0 : Int32)) (v := (.long x1)) Arx17.1 (State.isArrayOf_alike hZ.alike Arx17.2.1) Arx17.2.2 (inb_of Sx17 ⟨by decide, by decide⟩) (Hx17.at (inb_of Sx17 ⟨by decide, by decide⟩) rfl) (g := (mkF m 69 #[.val (.int p1), .val (.ref a2), .val (.ref b3), .val (.ref a2), .val (.int (3 : Int32)), .val (.int (0 : Int32)), .unset, .unset] [(.int (0 : Int32)), (.ref a2)])) rfl rfl (hb hby d1_69) _ ?_
    show Steps _ _ _ (T9.setTop (mkF m 70 #[.val (.int p1), .val (.ref a2), .val (.ref b3), .val (.ref a2), .val (.int (3 : Int32)), .val (.int (0 : Int32)), .unset, .unset] [(.long x1)])) _
    refine XS.lstore X9.here hx rfl (hb hby d1_70) rfl (l' := #[.val (.int p1), .val (.ref a2), .val (.ref b3), .val (.ref a2), .val (.int (3 : Int32)), .val (.int (0 : Int32)), .val (.long x1), .second]) rfl ?_
    show Steps _ _ _ (T9.setTop (mkF m 72 #[.val (.int p1), .val (.ref a2), .val (.ref b3), .val (.ref a2), .val (.int (3 : Int32)), .val (.int (0 : Int32)), .val (.long x1), .second] [])) _
    refine XS.lload X9.here hx rfl (hb hby d1_72) rfl ?_
    show Steps _ _ _ (T9.setTop (mkF m 74 #[.val (.int p1), .val (.ref a2), .val (.ref b3), .val (.ref a2), .val (.int (3 : Int32)), .val (.int (0 : Int32)), .val (.long x1), .second] [(.long x1)])) _
    refine XS.lconst X9.here hx rfl (hb hby d1_74) ?_
    show Steps _ _ _ (T9.setTop (mkF m 75 #[.val (.int p1), .val (.ref a2), .val (.ref b3), .val (.ref a2), .val (.int (3 : Int32)), .val (.int (0 : Int32)), .val (.long x1), .second] [(.long (1 : Int64)), (.long x1)])) _
    refine XS.lcmp X9.here hx rfl (hb hby d1_75) rfl ?_
    show Steps _ _ _ (T9.setTop (mkF m 76 #[.val (.int p1), .val (.ref a2), .val (.ref b3), .val (.ref a2), .val (.int (3 : Int32)), .val (.int (0 : Int32)), .val (.long x1), .second] [(.int (lcmpW x1 (1 : Int64)))])) _
    refine XS.ifNo X9.here hx rfl (hb hby d1_76) rfl ((if0 _ _).trans (flt hx1.1).1) ?_
    show Steps _ _ _ (T9.setTop (mkF m 79 #[.val (.int p1), .val (.ref a2), .val (.ref b3), .val (.ref a2), .val (.int (3 : Int32)), .val (.int (0 : Int32)), .val (.long x1), .second] [])) _
    refine XS.lload X9.here hx rfl (hb hby d1_79) rfl ?_
    show Steps _ _ _ (T9.setTop (mkF m 81 #[.val (.int p1), .val (.ref a2), .val (.ref b3), .val (.ref a2), .val (.int (3 : Int32)), .val (.int (0 : Int32)), .val (.long x1), .second] [(.long x1)])) _
    refine X9.ldc2Long hx hown (mvT hZ (wk hw 35 rfl)) (g := (mkF m 81 #[.val (.int p1), .val (.ref a2), .val (.ref b3), .val (.ref a2), .val (.int (3 : Int32)), .val (.int (0 : Int32)), .val (.long x1), .second] [(.long x1)])) rfl (hb hby d1_81) _ ?_
    show Steps _ _ _ (T9.setTop (mkF m 84 #[.val (.int p1), .val (.ref a2), .val (.ref b3), .val (.ref a2), .val (.int (3 : Int32)), .val (.int (0 : Int32)), .val (.long x1), .second] [(.long (86400000 : Int64)), (.long x1)])) _
    refine XS.lcmp X9.here hx rfl (hb hby d1_84) rfl ?_
    show Steps _ _ _ (T9.setTop (mkF m 85 #[.val (.int p1), .val (.ref a2), .val (.ref b3), .val (.ref a2), .val (.int (3 : Int32)), .val (.int (0 : Int32)), .val (.long x1), .second] [(.int (lcmpW x1 (86400000 : Int64)))])) _
    refine XS.ifYes X9.here hx rfl (pc0 := 85) (pc' := 103) rfl (hb hby d1_85) rfl ((if0 _ _).trans (flt hx1.2).2.2.2) (by decide) (by decide) ?_
    show Steps _ _ _ (T9.setTop (mkF m 103 #[.val (.int p1), .val (.ref a2), .val (.ref b3), .val (.ref a2), .val (.int (3 : Int32)), .val (.int (0 : Int32)), .val (.long x1), .second] [])) _
    refine XS.aloadN X9.here hx rfl (hb hby d1_103) rfl rfl ?_
    show Steps _ _ _ (T9.setTop (mkF m 104 #[.val (.int p1), .val (.ref a2), .val (.ref b3), .val (.ref a2), .val (.int (3 : Int32)), .val (.int (0 : Int32)), .val (.long x1), .second] [(.ref b3)])) _
    refine XS.lload X9.here hx rfl (hb hby d1_104) rfl ?_
    exact k
  have f19 : n0 ≤ T9.heap.size := (Nat.le_trans f10 K9.1)
  have f21 : Keep h0 T9.heap [] := (f12.trans K9 (allS (Or.inr sz_b3) all0))
  obtain ⟨_, _, ⟨T18, L18, k18, n18⟩, -, X18, ⟨Lc18, hQ18, l18, y18, z18⟩, st18⟩ := Jvm.LawKit.callS X9 hx (y := (⟨"java/lang/Long", "valueOf", "(J)Ljava/lang/Long;"⟩ : MethodName)) hown (mvT hZ (wk hw 36 rfl)) (mvT hZ (wk hw 37 rfl)) (mvT hZ (wk hw 38 rfl)) (mvT hZ (wk hw 39 rfl)) (by decide) (backOf (W := 1) (rm6 l Z a0 hw [] x1 wC clC T9.heap n0 f19 (own_LCext (own_ext0 f21) HC)) hZ (wk hw 39 rfl) (wk hw 38 rfl) (by decide) (by decide)) (g := (mkF m 106 #[.val (.int p1), .val (.ref a2), .val (.ref b3), .val (.ref a2), .val (.int (3 : Int32)), .val (.int (0 : Int32)), .val (.long x1), .second] [(.long x1), (.ref b3)])) rfl (by rw [hml]; rfl) (argsL := [(.long x1)]) (rest := [(.ref b3)]) (lenOf pd_11 rfl) rfl (by show 2 * 0 + _ ≤ _; exact Nat.le_of_eq rfl) (hb hby d1_106) (fun _ _ => ⟨rfl, rfl, (by decide : 2 + 1 ≤ _), (by decide : 6 + 1 ≤ _)⟩)
  dsimp only [Pt.U, Pt.locs, Pt.cells, Pt.slots] at X18 l18 y18 z18 st18 hQ18
  subst l18 y18 z18
  obtain ⟨b18, rfl, N18q, K18, Ey18, Fy18⟩ := hQ18
  have N18 := Fr.app N9 N18q
  have f22 : Exa Z T18.heap b3 "java/util/ArrayList" := ((A5.keep K9).keep K18)
  have f23 : Arv Z T18.heap b9 kE9 (.object "java/lang/Object") (3 : Int32) [.null, .null, .null] .null := (Vx9.keep K18 nin0)
  have ne_b18_al : b18 ≠ b3 := ne_exa Ey18 f22 (by decide)
  have ne_b18_e : b18 ≠ b9 := Exa.neArv Ey18 f23 (wk hw 188 rfl)
  have go26 : Go p.tables e below T18 (mkF m 109 #[.val (.int p1), .val (.ref a2), .val (.ref b3), .val (.ref a2), .val (.int (3 : Int32)), .val (.int (0 : Int32)), .val (.long x1), .second] [(.ref b18), (.ref b3)]) s₁ (entryFrame m #[(.int p1), (.ref a2)] 8) := by
    intro t k
    refine go20 t ?_
    show Steps _ _ _ (T9.setTop (mkF m 106 #[.val (.int p1), .val (.ref a2), .val (.ref b3), .val (.ref a2), .val (.int (3 : Int32)), .val (.int (0 : Int32)), .val (.long x1), .second] [(.long x1), (.ref b3)])) _
    refine st18 _ ?_
    exact k
  have f25 : n0 ≤ T18.heap.size := (Nat.le_trans f19 K18.1)
  have f27 : Fld Z T18.heap b3 "java/util/AbstractList" "modCount" "I" (.int (0 : Int32)) := (Fm9.keep K18 nin0)
  have f28 : Fld Z T18.heap b3 "java/util/ArrayList" "elementData" "[Ljava/lang/Object;" (.ref b9) := (Fe9.keep K18 nin0)
  have f29 : Fld Z T18.heap b3 "java/util/ArrayList" "size" "I" (.int (0 : Int32)) := (Fs9.keep K18 nin0)
  obtain ⟨cq24, kq24, q24a, q24b, q24c⟩ := isOf hZ rfl f22
  obtain ⟨_, _, ⟨T24, L24, k24, n24⟩, -, X24, ⟨Lc24, hQ24, l24, y24, z24⟩, st24⟩ := X18.interfaceBack hx (xi := (⟨"java/util/List", "add", "(Ljava/lang/Object;)Z"⟩ : MethodName)) (y := (⟨"java/util/ArrayList", "add", "(Ljava/lang/Object;)Z"⟩ : MethodName)) hown (mvT hZ (wk hw 44 rfl)) (mvT hZ (wk hw 45 rfl)) (mvT hZ (wk hw 46 rfl)) (mvT hZ (wk hw 47 rfl)) (mvT hZ (wk hw 48 rfl)) (mvT hZ (wk hw 49 rfl)) (mvT hZ (wk hw 50 rfl)) (mvT hZ (wk hw 51 rfl)) (by decide) (backOf (W := 0) (rm7 l Z a0 hw [] b3 b18 b9 kE9 (0 : Int32) (3 : Int32) (0 : Int32) 0 [.null, .null, .null] T18.heap n0 f25 f22 f27 f28 f29 g_b3 Ey18 f23 O9 ne_b3_b9 g_b9 (by decide) (by decide) (by decide) rfl (Nat.le_of_ble_eq_true rfl)) hZ (wk hw 52 rfl) (wk hw 10 rfl) (by decide) (by decide)) q24a q24b q24c (g := (mkF m 109 #[.val (.int p1), .val (.ref a2), .val (.ref b3), .val (.ref a2), .val (.int (3 : Int32)), .val (.int (0 : Int32)), .val (.long x1), .second] [(.ref b18), (.ref b3)])) rfl (by rw [hml]; rfl) (Steps.refl _) (argsL := [(.ref b18)]) (rest := []) (lenOf pd_12 rfl) rfl (by show 2 * 0 + _ ≤ _; exact Nat.le_of_eq rfl) (hb hby d1_109) (fun _ _ => ⟨rfl, rfl, (by decide : 3 + 0 ≤ _), (by decide : 7 + 0 ≤ _)⟩)
  dsimp only [Pt.U, Pt.locs, Pt.cells, Pt.slots] at X24 l24 y24 z24 st24 hQ24
  subst l24 y24 z24
  obtain ⟨rfl, N24q, K24, Fm24, Fe24, Fs24, Vx24⟩ := hQ24
  have N24 := Fr.app N18 N24q
  have go30 : Go p.tables e below T24 (mkF m 69 #[.val (.int p1), .val (.ref a2), .val (.ref b3), .val (.ref a2), .val (.int (3 : Int32)), .val (.int (1 : Int32)), .val (.long x1), .second] [(.int (1 : Int32)), (.ref a2)]) s₁ (entryFrame m #[(.int p1), (.ref a2)] 8) := by
    intro t k
    refine go26 t ?_
    show Steps _ _ _ (T18.setTop (mkF m 109 #[.val (.int p1), .val (.ref a2), .val (.ref b3), .val (.ref a2), .val (.int (3 : Int32)), .val (.int (0 : Int32)), .val (.long x1), .second] [(.ref b18), (.ref b3)])) _
    refine st24.trans ?_
    show Steps _ _ _ (T24.setTop (mkF m 114 #[.val (.int p1), .val (.ref a2), .val (.ref b3), .val (.ref a2), .val (.int (3 : Int32)), .val (.int (0 : Int32)), .val (.long x1), .second] [(.int (1 : Int32))])) _
    refine XS.pop X24.here hx rfl (hb hby d1_114) rfl rfl ?_
    show Steps _ _ _ (T24.setTop (mkF m 115 #[.val (.int p1), .val (.ref a2), .val (.ref b3), .val (.ref a2), .val (.int (3 : Int32)), .val (.int (0 : Int32)), .val (.long x1), .second] [])) _
    refine XS.iinc X24.here hx rfl (hb hby d1_115) rfl (l' := #[.val (.int p1), .val (.ref a2), .val (.ref b3), .val (.ref a2), .val (.int (3 : Int32)), .val (.int (1 : Int32)), .val (.long x1), .second]) rfl ?_
    show Steps _ _ _ (T24.setTop (mkF m 118 #[.val (.int p1), .val (.ref a2), .val (.ref b3), .val (.ref a2), .val (.int (3 : Int32)), .val (.int (1 : Int32)), .val (.long x1), .second] [])) _
    refine XS.goto X24.here hx rfl (pc0 := 118) (pc' := 59) rfl (hb hby d1_118) (by decide) (by decide) ?_
    show Steps _ _ _ (T24.setTop (mkF m 59 #[.val (.int p1), .val (.ref a2), .val (.ref b3), .val (.ref a2), .val (.int (3 : Int32)), .val (.int (1 : Int32)), .val (.long x1), .second] [])) _
    refine XS.iload X24.here hx rfl (hb hby d1_59) rfl ?_
    show Steps _ _ _ (T24.setTop (mkF m 61 #[.val (.int p1), .val (.ref a2), .val (.ref b3), .val (.ref a2), .val (.int (3 : Int32)), .val (.int (1 : Int32)), .val (.long x1), .second] [(.int (1 : Int32))])) _
    refine XS.iload X24.here hx rfl (hb hby d1_61) rfl ?_
    show Steps _ _ _ (T24.setTop (mkF m 63 #[.val (.int p1), .val (.ref a2), .val (.ref b3), .val (.ref a2), .val (.int (3 : Int32)), .val (.int (1 : Int32)), .val (.long x1), .second] [(.int (3 : Int32)), (.int (1 : Int32))])) _
    refine XS.icmpNo X24.here hx rfl (hb hby d1_63) rfl (tlt (by decide)).2.1 ?_
    show Steps _ _ _ (T24.setTop (mkF m 66 #[.val (.int p1), .val (.ref a2), .val (.ref b3), .val (.ref a2), .val (.int (3 : Int32)), .val (.int (1 : Int32)), .val (.long x1), .second] [])) _
    refine XS.aloadN X24.here hx rfl (hb hby d1_66) rfl rfl ?_
    show Steps _ _ _ (T24.setTop (mkF m 67 #[.val (.int p1), .val (.ref a2), .val (.ref b3), .val (.ref a2), .val (.int (3 : Int32)), .val (.int (1 : Int32)), .val (.long x1), .second] [(.ref a2)])) _
    refine XS.iload X24.here hx rfl (hb hby d1_67) rfl ?_
    exact k
  have f32 : Arv Z T24.heap a2 k2 .long (3 : Int32) [(.long x1), (.long x2), (.long x3)] (.long (0 : Int64)) := ((f15.keep K18 nin0).keep K24 (ninS ne_a2_b3 (ninS ne_a2_b9 nin0)))
  obtain ⟨clx31, Arx31, -, Sx31, Nx31, Hx31, -⟩ := id f32
  have go35 : Go p.tables e below T24 (mkF m 106 #[.val (.int p1), .val (.ref a2), .val (.ref b3), .val (.ref a2), .val (.int (3 : Int32)), .val (.int (1 : Int32)), .val (.long x2), .second] [(.long x2), (.ref b3)]) s₁ (entryFrame m #[(.int p1), (.ref a2)] 8) := by
    intro t k
    refine go30 t ?_
    show Steps _ _ _ (T24.setTop (mkF m 69 #[.val (.int p1), .val (.ref a2), .val (.ref b3), .val (.ref a2), .val (.int (3 : Int32)), .val (.int (1 : Int32)), .val (.long x1), .second] [(.int (1 : Int32)), (.ref a2)])) _
    refine X24.laload hx (j := (1 : Int32)) (v := (.long x2)) Arx31.1 (State.isArrayOf_alike hZ.alike Arx31.2.1) Arx31.2.2 (inb_of Sx31 ⟨by decide, by decide⟩) (Hx31.at (inb_of Sx31 ⟨by decide, by decide⟩) rfl) (g := (mkF m 69 #[.val (.int p1), .val (.ref a2), .val (.ref b3), .val (.ref a2), .val (.int (3 : Int32)), .val (.int (1 : Int32)), .val (.long x1), .second] [(.int (1 : Int32)), (.ref a2)])) rfl rfl (hb hby d1_69) _ ?_
    show Steps _ _ _ (T24.setTop (mkF m 70 #[.val (.int p1), .val (.ref a2), .val (.ref b3), .val (.ref a2), .val (.int (3 : Int32)), .val (.int (1 : Int32)), .val (.long x1), .second] [(.long x2)])) _
    refine XS.lstore X24.here hx rfl (hb hby d1_70) rfl (l' := #[.val (.int p1), .val (.ref a2), .val (.ref b3), .val (.ref a2), .val (.int (3 : Int32)), .val (.int (1 : Int32)), .val (.long x2), .second]) rfl ?_
    show Steps _ _ _ (T24.setTop (mkF m 72 #[.val (.int p1), .val (.ref a2), .val (.ref b3), .val (.ref a2), .val (.int (3 : Int32)), .val (.int (1 : Int32)), .val (.long x2), .second] [])) _
    refine XS.lload X24.here hx rfl (hb hby d1_72) rfl ?_
    show Steps _ _ _ (T24.setTop (mkF m 74 #[.val (.int p1), .val (.ref a2), .val (.ref b3), .val (.ref a2), .val (.int (3 : Int32)), .val (.int (1 : Int32)), .val (.long x2), .second] [(.long x2)])) _
    refine XS.lconst X24.here hx rfl (hb hby d1_74) ?_
    show Steps _ _ _ (T24.setTop (mkF m 75 #[.val (.int p1), .val (.ref a2), .val (.ref b3), .val (.ref a2), .val (.int (3 : Int32)), .val (.int (1 : Int32)), .val (.long x2), .second] [(.long (1 : Int64)), (.long x2)])) _
    refine XS.lcmp X24.here hx rfl (hb hby d1_75) rfl ?_
    show Steps _ _ _ (T24.setTop (mkF m 76 #[.val (.int p1), .val (.ref a2), .val (.ref b3), .val (.ref a2), .val (.int (3 : Int32)), .val (.int (1 : Int32)), .val (.long x2), .second] [(.int (lcmpW x2 (1 : Int64)))])) _
    refine XS.ifNo X24.here hx rfl (hb hby d1_76) rfl ((if0 _ _).trans (flt hx2.1).1) ?_
    show Steps _ _ _ (T24.setTop (mkF m 79 #[.val (.int p1), .val (.ref a2), .val (.ref b3), .val (.ref a2), .val (.int (3 : Int32)), .val (.int (1 : Int32)), .val (.long x2), .second] [])) _
    refine XS.lload X24.here hx rfl (hb hby d1_79) rfl ?_
    show Steps _ _ _ (T24.setTop (mkF m 81 #[.val (.int p1), .val (.ref a2), .val (.ref b3), .val (.ref a2), .val (.int (3 : Int32)), .val (.int (1 : Int32)), .val (.long x2), .second] [(.long x2)])) _
    refine X24.ldc2Long hx hown (mvT hZ (wk hw 35 rfl)) (g := (mkF m 81 #[.val (.int p1), .val (.ref a2), .val (.ref b3), .val (.ref a2), .val (.int (3 : Int32)), .val (.int (1 : Int32)), .val (.long x2), .second] [(.long x2)])) rfl (hb hby d1_81) _ ?_
    show Steps _ _ _ (T24.setTop (mkF m 84 #[.val (.int p1), .val (.ref a2), .val (.ref b3), .val (.ref a2), .val (.int (3 : Int32)), .val (.int (1 : Int32)), .val (.long x2), .second] [(.long (86400000 : Int64)), (.long x2)])) _
    refine XS.lcmp X24.here hx rfl (hb hby d1_84) rfl ?_
    show Steps _ _ _ (T24.setTop (mkF m 85 #[.val (.int p1), .val (.ref a2), .val (.ref b3), .val (.ref a2), .val (.int (3 : Int32)), .val (.int (1 : Int32)), .val (.long x2), .second] [(.int (lcmpW x2 (86400000 : Int64)))])) _
    refine XS.ifYes X24.here hx rfl (pc0 := 85) (pc' := 103) rfl (hb hby d1_85) rfl ((if0 _ _).trans (flt hx2.2).2.2.2) (by decide) (by decide) ?_
    show Steps _ _ _ (T24.setTop (mkF m 103 #[.val (.int p1), .val (.ref a2), .val (.ref b3), .val (.ref a2), .val (.int (3 : Int32)), .val (.int (1 : Int32)), .val (.long x2), .second] [])) _
    refine XS.aloadN X24.here hx rfl (hb hby d1_103) rfl rfl ?_
    show Steps _ _ _ (T24.setTop (mkF m 104 #[.val (.int p1), .val (.ref a2), .val (.ref b3), .val (.ref a2), .val (.int (3 : Int32)), .val (.int (1 : Int32)), .val (.long x2), .second] [(.ref b3)])) _
    refine XS.lload X24.here hx rfl (hb hby d1_104) rfl ?_
    exact k
  have f34 : n0 ≤ T24.heap.size := (Nat.le_trans f25 K24.1)
  have f36 : Keep h0 T24.heap [] := ((f21.trans K18 all0).trans K24 (allS (Or.inr sz_b3) (allS (Or.inr sz_b9) all0)))
  obtain ⟨_, _, ⟨T33, L33, k33, n33⟩, -, X33, ⟨Lc33, hQ33, l33, y33, z33⟩, st33⟩ := Jvm.LawKit.callS X24 hx (y := (⟨"java/lang/Long", "valueOf", "(J)Ljava/lang/Long;"⟩ : MethodName)) hown (mvT hZ (wk hw 36 rfl)) (mvT hZ (wk hw 37 rfl)) (mvT hZ (wk hw 38 rfl)) (mvT hZ (wk hw 39 rfl)) (by decide) (backOf (W := 1) (rm6 l Z a0 hw [] x2 wC clC T24.heap n0 f34 (own_LCext (own_ext0 f36) HC)) hZ (wk hw 39 rfl) (wk hw 38 rfl) (by decide) (by decide)) (g := (mkF m 106 #[.val (.int p1), .val (.ref a2), .val (.ref b3), .val (.ref a2), .val (.int (3 : Int32)), .val (.int (1 : Int32)), .val (.long x2), .second] [(.long x2), (.ref b3)])) rfl (by rw [hml]; rfl) (argsL := [(.long x2)]) (rest := [(.ref b3)]) (lenOf pd_11 rfl) rfl (by show 2 * 0 + _ ≤ _; exact Nat.le_of_eq rfl) (hb hby d1_106) (fun _ _ => ⟨rfl, rfl, (by decide : 3 + 1 ≤ _), (by decide : 7 + 1 ≤ _)⟩)
  dsimp only [Pt.U, Pt.locs, Pt.cells, Pt.slots] at X33 l33 y33 z33 st33 hQ33
  subst l33 y33 z33
  obtain ⟨b33, rfl, N33q, K33, Ey33, Fy33⟩ := hQ33
  have N33 := Fr.app N24 N33q
  have f37 : Exa Z T33.heap b3 "java/util/ArrayList" := ((f22.keep K24).keep K33)
  have f38 : Arv Z T33.heap b9 kE9 (.object "java/lang/Object") (3 : Int32) [(.ref b18), .null, .null] .null := (Vx24.keep K33 nin0)
  have ne_b33_al : b33 ≠ b3 := ne_exa Ey33 f37 (by decide)
  have ne_b33_e : b33 ≠ b9 := Exa.neArv Ey33 f38 (wk hw 188 rfl)
  have go41 : Go p.tables e below T33 (mkF m 109 #[.val (.int p1), .val (.ref a2), .val (.ref b3), .val (.ref a2), .val (.int (3 : Int32)), .val (.int (1 : Int32)), .val (.long x2), .second] [(.ref b33), (.ref b3)]) s₁ (entryFrame m #[(.int p1), (.ref a2)] 8) := by
    intro t k
    refine go35 t ?_
    show Steps _ _ _ (T24.setTop (mkF m 106 #[.val (.int p1), .val (.ref a2), .val (.ref b3), .val (.ref a2), .val (.int (3 : Int32)), .val (.int (1 : Int32)), .val (.long x2), .second] [(.long x2), (.ref b3)])) _
    refine st33 _ ?_
    exact k
  have f40 : n0 ≤ T33.heap.size := (Nat.le_trans f34 K33.1)
  have f42 : Fld Z T33.heap b3 "java/util/AbstractList" "modCount" "I" (.int ((0 : Int32) + (1 : Int32))) := (Fm24.keep K33 nin0)
  have f43 : Fld Z T33.heap b3 "java/util/ArrayList" "elementData" "[Ljava/lang/Object;" (.ref b9) := (Fe24.keep K33 nin0)
  have f44 : Fld Z T33.heap b3 "java/util/ArrayList" "size" "I" (.int (1 : Int32)) := (Fs24.keep K33 nin0)
  obtain ⟨cq39, kq39, q39a, q39b, q39c⟩ := isOf hZ rfl f37
  obtain ⟨_, _, ⟨T39, L39, k39, n39⟩, -, X39, ⟨Lc39, hQ39, l39, y39, z39⟩, st39⟩ := X33.interfaceBack hx (xi := (⟨"java/util/List", "add", "(Ljava/lang/Object;)Z"⟩ : MethodName)) (y := (⟨"java/util/ArrayList", "add", "(Ljava/lang/Object;)Z"⟩ : MethodName)) hown (mvT hZ (wk hw 44 rfl)) (mvT hZ (wk hw 45 rfl)) (mvT hZ (wk hw 46 rfl)) (mvT hZ (wk hw 47 rfl)) (mvT hZ (wk hw 48 rfl)) (mvT hZ (wk hw 49 rfl)) (mvT hZ (wk hw 50 rfl)) (mvT hZ (wk hw 51 rfl)) (by decide) (backOf (W := 0) (rm7 l Z a0 hw [] b3 b33 b9 kE9 ((0 : Int32) + (1 : Int32)) (3 : Int32) (1 : Int32) 1 [(.ref b18), .null, .null] T33.heap n0 f40 f37 f42 f43 f44 g_b3 Ey33 f38 O9 ne_b3_b9 g_b9 (by decide) (by decide) (by decide) rfl (Nat.le_of_ble_eq_true rfl)) hZ (wk hw 52 rfl) (wk hw 10 rfl) (by decide) (by decide)) q39a q39b q39c (g := (mkF m 109 #[.val (.int p1), .val (.ref a2), .val (.ref b3), .val (.ref a2), .val (.int (3 : Int32)), .val (.int (1 : Int32)), .val (.long x2), .second] [(.ref b33), (.ref b3)])) rfl (by rw [hml]; rfl) (Steps.refl _) (argsL := [(.ref b33)]) (rest := []) (lenOf pd_12 rfl) rfl (by show 2 * 0 + _ ≤ _; exact Nat.le_of_eq rfl) (hb hby d1_109) (fun _ _ => ⟨rfl, rfl, (by decide : 4 + 0 ≤ _), (by decide : 8 + 0 ≤ _)⟩)
  dsimp only [Pt.U, Pt.locs, Pt.cells, Pt.slots] at X39 l39 y39 z39 st39 hQ39
  subst l39 y39 z39
  obtain ⟨rfl, N39q, K39, Fm39, Fe39, Fs39, Vx39⟩ := hQ39
  have N39 := Fr.app N33 N39q
  have go45 : Go p.tables e below T39 (mkF m 69 #[.val (.int p1), .val (.ref a2), .val (.ref b3), .val (.ref a2), .val (.int (3 : Int32)), .val (.int (2 : Int32)), .val (.long x2), .second] [(.int (2 : Int32)), (.ref a2)]) s₁ (entryFrame m #[(.int p1), (.ref a2)] 8) := by
    intro t k
    refine go41 t ?_
    show Steps _ _ _ (T33.setTop (mkF m 109 #[.val (.int p1), .val (.ref a2), .val (.ref b3), .val (.ref a2), .val (.int (3 : Int32)), .val (.int (1 : Int32)), .val (.long x2), .second] [(.ref b33), (.ref b3)])) _
    refine st39.trans ?_
    show Steps _ _ _ (T39.setTop (mkF m 114 #[.val (.int p1), .val (.ref a2), .val (.ref b3), .val (.ref a2), .val (.int (3 : Int32)), .val (.int (1 : Int32)), .val (.long x2), .second] [(.int (1 : Int32))])) _
    refine XS.pop X39.here hx rfl (hb hby d1_114) rfl rfl ?_
    show Steps _ _ _ (T39.setTop (mkF m 115 #[.val (.int p1), .val (.ref a2), .val (.ref b3), .val (.ref a2), .val (.int (3 : Int32)), .val (.int (1 : Int32)), .val (.long x2), .second] [])) _
    refine XS.iinc X39.here hx rfl (hb hby d1_115) rfl (l' := #[.val (.int p1), .val (.ref a2), .val (.ref b3), .val (.ref a2), .val (.int (3 : Int32)), .val (.int (2 : Int32)), .val (.long x2), .second]) rfl ?_
    show Steps _ _ _ (T39.setTop (mkF m 118 #[.val (.int p1), .val (.ref a2), .val (.ref b3), .val (.ref a2), .val (.int (3 : Int32)), .val (.int (2 : Int32)), .val (.long x2), .second] [])) _
    refine XS.goto X39.here hx rfl (pc0 := 118) (pc' := 59) rfl (hb hby d1_118) (by decide) (by decide) ?_
    show Steps _ _ _ (T39.setTop (mkF m 59 #[.val (.int p1), .val (.ref a2), .val (.ref b3), .val (.ref a2), .val (.int (3 : Int32)), .val (.int (2 : Int32)), .val (.long x2), .second] [])) _
    refine XS.iload X39.here hx rfl (hb hby d1_59) rfl ?_
    show Steps _ _ _ (T39.setTop (mkF m 61 #[.val (.int p1), .val (.ref a2), .val (.ref b3), .val (.ref a2), .val (.int (3 : Int32)), .val (.int (2 : Int32)), .val (.long x2), .second] [(.int (2 : Int32))])) _
    refine XS.iload X39.here hx rfl (hb hby d1_61) rfl ?_
    show Steps _ _ _ (T39.setTop (mkF m 63 #[.val (.int p1), .val (.ref a2), .val (.ref b3), .val (.ref a2), .val (.int (3 : Int32)), .val (.int (2 : Int32)), .val (.long x2), .second] [(.int (3 : Int32)), (.int (2 : Int32))])) _
    refine XS.icmpNo X39.here hx rfl (hb hby d1_63) rfl (tlt (by decide)).2.1 ?_
    show Steps _ _ _ (T39.setTop (mkF m 66 #[.val (.int p1), .val (.ref a2), .val (.ref b3), .val (.ref a2), .val (.int (3 : Int32)), .val (.int (2 : Int32)), .val (.long x2), .second] [])) _
    refine XS.aloadN X39.here hx rfl (hb hby d1_66) rfl rfl ?_
    show Steps _ _ _ (T39.setTop (mkF m 67 #[.val (.int p1), .val (.ref a2), .val (.ref b3), .val (.ref a2), .val (.int (3 : Int32)), .val (.int (2 : Int32)), .val (.long x2), .second] [(.ref a2)])) _
    refine XS.iload X39.here hx rfl (hb hby d1_67) rfl ?_
    exact k
  have f47 : Arv Z T39.heap a2 k2 .long (3 : Int32) [(.long x1), (.long x2), (.long x3)] (.long (0 : Int64)) := ((f32.keep K33 nin0).keep K39 (ninS ne_a2_b3 (ninS ne_a2_b9 nin0)))
  obtain ⟨clx46, Arx46, -, Sx46, Nx46, Hx46, -⟩ := id f47
  have go50 : Go p.tables e below T39 (mkF m 106 #[.val (.int p1), .val (.ref a2), .val (.ref b3), .val (.ref a2), .val (.int (3 : Int32)), .val (.int (2 : Int32)), .val (.long x3), .second] [(.long x3), (.ref b3)]) s₁ (entryFrame m #[(.int p1), (.ref a2)] 8) := by
    intro t k
    refine go45 t ?_
    show Steps _ _ _ (T39.setTop (mkF m 69 #[.val (.int p1), .val (.ref a2), .val (.ref b3), .val (.ref a2), .val (.int (3 : Int32)), .val (.int (2 : Int32)), .val (.long x2), .second] [(.int (2 : Int32)), (.ref a2)])) _
    refine X39.laload hx (j := (2 : Int32)) (v := (.long x3)) Arx46.1 (State.isArrayOf_alike hZ.alike Arx46.2.1) Arx46.2.2 (inb_of Sx46 ⟨by decide, by decide⟩) (Hx46.at (inb_of Sx46 ⟨by decide, by decide⟩) rfl) (g := (mkF m 69 #[.val (.int p1), .val (.ref a2), .val (.ref b3), .val (.ref a2), .val (.int (3 : Int32)), .val (.int (2 : Int32)), .val (.long x2), .second] [(.int (2 : Int32)), (.ref a2)])) rfl rfl (hb hby d1_69) _ ?_
    show Steps _ _ _ (T39.setTop (mkF m 70 #[.val (.int p1), .val (.ref a2), .val (.ref b3), .val (.ref a2), .val (.int (3 : Int32)), .val (.int (2 : Int32)), .val (.long x2), .second] [(.long x3)])) _
    refine XS.lstore X39.here hx rfl (hb hby d1_70) rfl (l' := #[.val (.int p1), .val (.ref a2), .val (.ref b3), .val (.ref a2), .val (.int (3 : Int32)), .val (.int (2 : Int32)), .val (.long x3), .second]) rfl ?_
    show Steps _ _ _ (T39.setTop (mkF m 72 #[.val (.int p1), .val (.ref a2), .val (.ref b3), .val (.ref a2), .val (.int (3 : Int32)), .val (.int (2 : Int32)), .val (.long x3), .second] [])) _
    refine XS.lload X39.here hx rfl (hb hby d1_72) rfl ?_
    show Steps _ _ _ (T39.setTop (mkF m 74 #[.val (.int p1), .val (.ref a2), .val (.ref b3), .val (.ref a2), .val (.int (3 : Int32)), .val (.int (2 : Int32)), .val (.long x3), .second] [(.long x3)])) _
    refine XS.lconst X39.here hx rfl (hb hby d1_74) ?_
    show Steps _ _ _ (T39.setTop (mkF m 75 #[.val (.int p1), .val (.ref a2), .val (.ref b3), .val (.ref a2), .val (.int (3 : Int32)), .val (.int (2 : Int32)), .val (.long x3), .second] [(.long (1 : Int64)), (.long x3)])) _
    refine XS.lcmp X39.here hx rfl (hb hby d1_75) rfl ?_
    show Steps _ _ _ (T39.setTop (mkF m 76 #[.val (.int p1), .val (.ref a2), .val (.ref b3), .val (.ref a2), .val (.int (3 : Int32)), .val (.int (2 : Int32)), .val (.long x3), .second] [(.int (lcmpW x3 (1 : Int64)))])) _
    refine XS.ifNo X39.here hx rfl (hb hby d1_76) rfl ((if0 _ _).trans (flt hx3.1).1) ?_
    show Steps _ _ _ (T39.setTop (mkF m 79 #[.val (.int p1), .val (.ref a2), .val (.ref b3), .val (.ref a2), .val (.int (3 : Int32)), .val (.int (2 : Int32)), .val (.long x3), .second] [])) _
    refine XS.lload X39.here hx rfl (hb hby d1_79) rfl ?_
    show Steps _ _ _ (T39.setTop (mkF m 81 #[.val (.int p1), .val (.ref a2), .val (.ref b3), .val (.ref a2), .val (.int (3 : Int32)), .val (.int (2 : Int32)), .val (.long x3), .second] [(.long x3)])) _
    refine X39.ldc2Long hx hown (mvT hZ (wk hw 35 rfl)) (g := (mkF m 81 #[.val (.int p1), .val (.ref a2), .val (.ref b3), .val (.ref a2), .val (.int (3 : Int32)), .val (.int (2 : Int32)), .val (.long x3), .second] [(.long x3)])) rfl (hb hby d1_81) _ ?_
    show Steps _ _ _ (T39.setTop (mkF m 84 #[.val (.int p1), .val (.ref a2), .val (.ref b3), .val (.ref a2), .val (.int (3 : Int32)), .val (.int (2 : Int32)), .val (.long x3), .second] [(.long (86400000 : Int64)), (.long x3)])) _
    refine XS.lcmp X39.here hx rfl (hb hby d1_84) rfl ?_
    show Steps _ _ _ (T39.setTop (mkF m 85 #[.val (.int p1), .val (.ref a2), .val (.ref b3), .val (.ref a2), .val (.int (3 : Int32)), .val (.int (2 : Int32)), .val (.long x3), .second] [(.int (lcmpW x3 (86400000 : Int64)))])) _
    refine XS.ifYes X39.here hx rfl (pc0 := 85) (pc' := 103) rfl (hb hby d1_85) rfl ((if0 _ _).trans (flt hx3.2).2.2.2) (by decide) (by decide) ?_
    show Steps _ _ _ (T39.setTop (mkF m 103 #[.val (.int p1), .val (.ref a2), .val (.ref b3), .val (.ref a2), .val (.int (3 : Int32)), .val (.int (2 : Int32)), .val (.long x3), .second] [])) _
    refine XS.aloadN X39.here hx rfl (hb hby d1_103) rfl rfl ?_
    show Steps _ _ _ (T39.setTop (mkF m 104 #[.val (.int p1), .val (.ref a2), .val (.ref b3), .val (.ref a2), .val (.int (3 : Int32)), .val (.int (2 : Int32)), .val (.long x3), .second] [(.ref b3)])) _
    refine XS.lload X39.here hx rfl (hb hby d1_104) rfl ?_
    exact k
  have f49 : n0 ≤ T39.heap.size := (Nat.le_trans f40 K39.1)
  have f51 : Keep h0 T39.heap [] := ((f36.trans K33 all0).trans K39 (allS (Or.inr sz_b3) (allS (Or.inr sz_b9) all0)))
  obtain ⟨_, _, ⟨T48, L48, k48, n48⟩, -, X48, ⟨Lc48, hQ48, l48, y48, z48⟩, st48⟩ := Jvm.LawKit.callS X39 hx (y := (⟨"java/lang/Long", "valueOf", "(J)Ljava/lang/Long;"⟩ : MethodName)) hown (mvT hZ (wk hw 36 rfl)) (mvT hZ (wk hw 37 rfl)) (mvT hZ (wk hw 38 rfl)) (mvT hZ (wk hw 39 rfl)) (by decide) (backOf (W := 1) (rm6 l Z a0 hw [] x3 wC clC T39.heap n0 f49 (own_LCext (own_ext0 f51) HC)) hZ (wk hw 39 rfl) (wk hw 38 rfl) (by decide) (by decide)) (g := (mkF m 106 #[.val (.int p1), .val (.ref a2), .val (.ref b3), .val (.ref a2), .val (.int (3 : Int32)), .val (.int (2 : Int32)), .val (.long x3), .second] [(.long x3), (.ref b3)])) rfl (by rw [hml]; rfl) (argsL := [(.long x3)]) (rest := [(.ref b3)]) (lenOf pd_11 rfl) rfl (by show 2 * 0 + _ ≤ _; exact Nat.le_of_eq rfl) (hb hby d1_106) (fun _ _ => ⟨rfl, rfl, (by decide : 4 + 1 ≤ _), (by decide : 8 + 1 ≤ _)⟩)
  dsimp only [Pt.U, Pt.locs, Pt.cells, Pt.slots] at X48 l48 y48 z48 st48 hQ48
  subst l48 y48 z48
  obtain ⟨b48, rfl, N48q, K48, Ey48, Fy48⟩ := hQ48
  have N48 := Fr.app N39 N48q
  have f52 : Exa Z T48.heap b3 "java/util/ArrayList" := ((f37.keep K39).keep K48)
  have f53 : Arv Z T48.heap b9 kE9 (.object "java/lang/Object") (3 : Int32) [(.ref b18), (.ref b33), .null] .null := (Vx39.keep K48 nin0)
  have ne_b48_al : b48 ≠ b3 := ne_exa Ey48 f52 (by decide)
  have ne_b48_e : b48 ≠ b9 := Exa.neArv Ey48 f53 (wk hw 188 rfl)
  have go56 : Go p.tables e below T48 (mkF m 109 #[.val (.int p1), .val (.ref a2), .val (.ref b3), .val (.ref a2), .val (.int (3 : Int32)), .val (.int (2 : Int32)), .val (.long x3), .second] [(.ref b48), (.ref b3)]) s₁ (entryFrame m #[(.int p1), (.ref a2)] 8) := by
    intro t k
    refine go50 t ?_
    show Steps _ _ _ (T39.setTop (mkF m 106 #[.val (.int p1), .val (.ref a2), .val (.ref b3), .val (.ref a2), .val (.int (3 : Int32)), .val (.int (2 : Int32)), .val (.long x3), .second] [(.long x3), (.ref b3)])) _
    refine st48 _ ?_
    exact k
  have f55 : n0 ≤ T48.heap.size := (Nat.le_trans f49 K48.1)
  have f57 : Fld Z T48.heap b3 "java/util/AbstractList" "modCount" "I" (.int (((0 : Int32) + (1 : Int32)) + (1 : Int32))) := (Fm39.keep K48 nin0)
  have f58 : Fld Z T48.heap b3 "java/util/ArrayList" "elementData" "[Ljava/lang/Object;" (.ref b9) := (Fe39.keep K48 nin0)
  have f59 : Fld Z T48.heap b3 "java/util/ArrayList" "size" "I" (.int (2 : Int32)) := (Fs39.keep K48 nin0)
  obtain ⟨cq54, kq54, q54a, q54b, q54c⟩ := isOf hZ rfl f52
  obtain ⟨_, _, ⟨T54, L54, k54, n54⟩, -, X54, ⟨Lc54, hQ54, l54, y54, z54⟩, st54⟩ := X48.interfaceBack hx (xi := (⟨"java/util/List", "add", "(Ljava/lang/Object;)Z"⟩ : MethodName)) (y := (⟨"java/util/ArrayList", "add", "(Ljava/lang/Object;)Z"⟩ : MethodName)) hown (mvT hZ (wk hw 44 rfl)) (mvT hZ (wk hw 45 rfl)) (mvT hZ (wk hw 46 rfl)) (mvT hZ (wk hw 47 rfl)) (mvT hZ (wk hw 48 rfl)) (mvT hZ (wk hw 49 rfl)) (mvT hZ (wk hw 50 rfl)) (mvT hZ (wk hw 51 rfl)) (by decide) (backOf (W := 0) (rm7 l Z a0 hw [] b3 b48 b9 kE9 (((0 : Int32) + (1 : Int32)) + (1 : Int32)) (3 : Int32) (2 : Int32) 2 [(.ref b18), (.ref b33), .null] T48.heap n0 f55 f52 f57 f58 f59 g_b3 Ey48 f53 O9 ne_b3_b9 g_b9 (by decide) (by decide) (by decide) rfl (Nat.le_of_ble_eq_true rfl)) hZ (wk hw 52 rfl) (wk hw 10 rfl) (by decide) (by decide)) q54a q54b q54c (g := (mkF m 109 #[.val (.int p1), .val (.ref a2), .val (.ref b3), .val (.ref a2), .val (.int (3 : Int32)), .val (.int (2 : Int32)), .val (.long x3), .second] [(.ref b48), (.ref b3)])) rfl (by rw [hml]; rfl) (Steps.refl _) (argsL := [(.ref b48)]) (rest := []) (lenOf pd_12 rfl) rfl (by show 2 * 0 + _ ≤ _; exact Nat.le_of_eq rfl) (hb hby d1_109) (fun _ _ => ⟨rfl, rfl, (by decide : 5 + 0 ≤ _), (by decide : 9 + 0 ≤ _)⟩)
  dsimp only [Pt.U, Pt.locs, Pt.cells, Pt.slots] at X54 l54 y54 z54 st54 hQ54
  subst l54 y54 z54
  obtain ⟨rfl, N54q, K54, Fm54, Fe54, Fs54, Vx54⟩ := hQ54
  have N54 := Fr.app N48 N54q
  have go61 : Go p.tables e below T54 (mkF m 121 #[.val (.int p1), .val (.ref a2), .val (.ref b3), .val (.ref a2), .val (.int (3 : Int32)), .val (.int (3 : Int32)), .val (.long x3), .second] []) s₁ (entryFrame m #[(.int p1), (.ref a2)] 8) := by
    intro t k
    refine go56 t ?_
    show Steps _ _ _ (T48.setTop (mkF m 109 #[.val (.int p1), .val (.ref a2), .val (.ref b3), .val (.ref a2), .val (.int (3 : Int32)), .val (.int (2 : Int32)), .val (.long x3), .second] [(.ref b48), (.ref b3)])) _
    refine st54.trans ?_
    show Steps _ _ _ (T54.setTop (mkF m 114 #[.val (.int p1), .val (.ref a2), .val (.ref b3), .val (.ref a2), .val (.int (3 : Int32)), .val (.int (2 : Int32)), .val (.long x3), .second] [(.int (1 : Int32))])) _
    refine XS.pop X54.here hx rfl (hb hby d1_114) rfl rfl ?_
    show Steps _ _ _ (T54.setTop (mkF m 115 #[.val (.int p1), .val (.ref a2), .val (.ref b3), .val (.ref a2), .val (.int (3 : Int32)), .val (.int (2 : Int32)), .val (.long x3), .second] [])) _
    refine XS.iinc X54.here hx rfl (hb hby d1_115) rfl (l' := #[.val (.int p1), .val (.ref a2), .val (.ref b3), .val (.ref a2), .val (.int (3 : Int32)), .val (.int (3 : Int32)), .val (.long x3), .second]) rfl ?_
    show Steps _ _ _ (T54.setTop (mkF m 118 #[.val (.int p1), .val (.ref a2), .val (.ref b3), .val (.ref a2), .val (.int (3 : Int32)), .val (.int (3 : Int32)), .val (.long x3), .second] [])) _
    refine XS.goto X54.here hx rfl (pc0 := 118) (pc' := 59) rfl (hb hby d1_118) (by decide) (by decide) ?_
    show Steps _ _ _ (T54.setTop (mkF m 59 #[.val (.int p1), .val (.ref a2), .val (.ref b3), .val (.ref a2), .val (.int (3 : Int32)), .val (.int (3 : Int32)), .val (.long x3), .second] [])) _
    refine XS.iload X54.here hx rfl (hb hby d1_59) rfl ?_
    show Steps _ _ _ (T54.setTop (mkF m 61 #[.val (.int p1), .val (.ref a2), .val (.ref b3), .val (.ref a2), .val (.int (3 : Int32)), .val (.int (3 : Int32)), .val (.long x3), .second] [(.int (3 : Int32))])) _
    refine XS.iload X54.here hx rfl (hb hby d1_61) rfl ?_
    show Steps _ _ _ (T54.setTop (mkF m 63 #[.val (.int p1), .val (.ref a2), .val (.ref b3), .val (.ref a2), .val (.int (3 : Int32)), .val (.int (3 : Int32)), .val (.long x3), .second] [(.int (3 : Int32)), (.int (3 : Int32))])) _
    refine XS.icmpYes X54.here hx rfl (pc0 := 63) (pc' := 121) rfl (hb hby d1_63) rfl (flt (by decide)).2.1 (by decide) (by decide) ?_
    exact k
  have f60 : n0 ≤ T54.heap.size := (Nat.le_trans f55 K54.1)
  have f62 : Keep h0 T54.heap [] := ((f51.trans K48 all0).trans K54 (allS (Or.inr sz_b3) (allS (Or.inr sz_b9) all0)))
  have f64 : Exa Z T54.heap b3 "java/util/ArrayList" := (f52.keep K54)
  have f65 : Arv Z T54.heap a2 k2 .long (3 : Int32) [(.long x1), (.long x2), (.long x3)] (.long (0 : Int64)) := ((f47.keep K48 nin0).keep K54 (ninS ne_a2_b3 (ninS ne_a2_b9 nin0)))
  have f66 : Exa Z T54.heap b18 "java/lang/Long" := (((((Ey18.keep K24).keep K33).keep K39).keep K48).keep K54)
  have f67 : Exa Z T54.heap b33 "java/lang/Long" := (((Ey33.keep K39).keep K48).keep K54)
  have f68 : Exa Z T54.heap b48 "java/lang/Long" := (Ey48.keep K54)
  obtain ⟨T69, h69, X69, e69, E69, A69, D69, -, st69⟩ := newO X54 hx hZ hown (wk hw 63 rfl) (wk hw 64 rfl) (wk hw 6 rfl) rfl (g := (mkF m 121 #[.val (.int p1), .val (.ref a2), .val (.ref b3), .val (.ref a2), .val (.int (3 : Int32)), .val (.int (3 : Int32)), .val (.long x3), .second] [])) rfl (hb hby d1_121) (by decide) (by decide)
  obtain ⟨b63, g69⟩ : ∃ z, z = T54.heap.size := ⟨_, rfl⟩
  rw [← g69] at A69 D69 st69
  have ne_b3_b63 : b3 ≠ b63 := Nat.ne_of_lt (Nat.lt_of_lt_of_le f64.lt (Nat.le_of_eq g69.symm))
  have ne_b9_b63 : b9 ≠ b63 := Nat.ne_of_lt (Nat.lt_of_lt_of_le Vx54.lt (Nat.le_of_eq g69.symm))
  have ne_a2_b63 : a2 ≠ b63 := Nat.ne_of_lt (Nat.lt_of_lt_of_le f65.lt (Nat.le_of_eq g69.symm))
  have ne_b18_b63 : b18 ≠ b63 := Nat.ne_of_lt (Nat.lt_of_lt_of_le f66.lt (Nat.le_of_eq g69.symm))
  have ne_b33_b63 : b33 ≠ b63 := Nat.ne_of_lt (Nat.lt_of_lt_of_le f67.lt (Nat.le_of_eq g69.symm))
  have ne_b48_b63 : b48 ≠ b63 := Nat.ne_of_lt (Nat.lt_of_lt_of_le f68.lt (Nat.le_of_eq g69.symm))
  have g_b63 : n0 ≤ b63 := Nat.le_trans f60 (Nat.le_of_eq g69.symm)
  have sz_b63 : h0.size ≤ b63 := Nat.le_trans f62.1 (Nat.le_of_eq g69.symm)
  have F_retries_b63 : Fld Z h69 b63 "com/example/nackoff/nackoff/RetryPolicy" "retries" "I" (.int (0 : Int32)) := D69 (Or.inr (wk hw 118 rfl)) (ty := .int) (by decide)
  have F_waitsMs_b63 : Fld Z h69 b63 "com/example/nackoff/nackoff/RetryPolicy" "waitsMs" "Ljava/util/List;" .null := D69 (Or.inr (wk hw 120 rfl)) (ty := (.object "java/util/List")) (by decide)
  have F_retryableTypes_b63 : Fld Z h69 b63 "com/example/nackoff/nackoff/RetryPolicy" "retryableTypes" "Ljava/util/List;" .null := D69 (Or.inr (wk hw 122 rfl)) (ty := (.object "java/util/List")) (by decide)
  have go72 : Go p.tables e below T69 (mkF m 127 #[.val (.int p1), .val (.ref a2), .val (.ref b3), .val (.ref a2), .val (.int (3 : Int32)), .val (.int (3 : Int32)), .val (.long x3), .second] [(.ref b3), (.int p1), (.ref b63), (.ref b63)]) s₁ (entryFrame m #[(.int p1), (.ref a2)] 8) := by
    intro t k
    refine go61 t ?_
    show Steps _ _ _ (T54.setTop (mkF m 121 #[.val (.int p1), .val (.ref a2), .val (.ref b3), .val (.ref a2), .val (.int (3 : Int32)), .val (.int (3 : Int32)), .val (.long x3), .second] [])) _
    refine st69 _ ?_
    show Steps _ _ _ (T69.setTop (mkF m 124 #[.val (.int p1), .val (.ref a2), .val (.ref b3), .val (.ref a2), .val (.int (3 : Int32)), .val (.int (3 : Int32)), .val (.long x3), .second] [(.ref b63)])) _
    refine XS.dup X69.here hx rfl (hb hby d1_124) rfl rfl ?_
    show Steps _ _ _ (T69.setTop (mkF m 125 #[.val (.int p1), .val (.ref a2), .val (.ref b3), .val (.ref a2), .val (.int (3 : Int32)), .val (.int (3 : Int32)), .val (.long x3), .second] [(.ref b63), (.ref b63)])) _
    refine XS.iloadN X69.here hx rfl (hb hby d1_125) rfl ?_
    show Steps _ _ _ (T69.setTop (mkF m 126 #[.val (.int p1), .val (.ref a2), .val (.ref b3), .val (.ref a2), .val (.int (3 : Int32)), .val (.int (3 : Int32)), .val (.long x3), .second] [(.int p1), (.ref b63), (.ref b63)])) _
    refine XS.aloadN X69.here hx rfl (hb hby d1_126) rfl rfl ?_
    exact k
  have f71 : n0 ≤ h69.size := (Nat.le_trans f60 E69.1)
  have f73 : Exa Z h69 b3 "java/util/ArrayList" := (f64.ext E69)
  have f74 : Arv Z h69 b9 kE9 (.object "java/lang/Object") (3 : Int32) [(.ref b18), (.ref b33), (.ref b48)] .null := (Vx54.ext E69)
  have f75 : Arv Z h69 a2 k2 .long (3 : Int32) [(.long x1), (.long x2), (.long x3)] (.long (0 : Int64)) := (f65.ext E69)
  have f76 : Exa Z h69 b18 "java/lang/Long" := (f66.ext E69)
  have f77 : Exa Z h69 b33 "java/lang/Long" := (f67.ext E69)
  have f78 : Exa Z h69 b48 "java/lang/Long" := (f68.ext E69)
  have f79 : Keep h0 h69 [] := (f62.ext E69)
  obtain ⟨_, _, ⟨T70, L70, k70, n70⟩, -, X70, ⟨Lc70, hQ70, l70, y70, z70⟩, st70⟩ := Jvm.LawKit.callS X69 hx (y := (⟨"java/util/Collections", "unmodifiableList", "(Ljava/util/List;)Ljava/util/List;"⟩ : MethodName)) hown (mvT hZ (wk hw 65 rfl)) (mvT hZ (wk hw 66 rfl)) (mvT hZ (wk hw 67 rfl)) (mvT hZ (wk hw 68 rfl)) (by decide) (backOf (W := 3) (rm9 l Z a0 hw [] b3 mA mL mR h69 n0 f71 f73 MA ML MR hmL hmR) hZ (wk hw 68 rfl) (wk hw 67 rfl) (by decide) (by decide)) (g := (mkF m 127 #[.val (.int p1), .val (.ref a2), .val (.ref b3), .val (.ref a2), .val (.int (3 : Int32)), .val (.int (3 : Int32)), .val (.long x3), .second] [(.ref b3), (.int p1), (.ref b63), (.ref b63)])) rfl (by rw [hml]; rfl) (argsL := [(.ref b3)]) (rest := [(.int p1), (.ref b63), (.ref b63)]) (lenOf pd_13 rfl) rfl (by show 2 * 0 + _ ≤ _; exact Nat.le_of_eq rfl) (hb hby d1_127) (fun _ _ => ⟨rfl, e69, (by decide : 6 + 1 ≤ _), (by decide : 12 + 2 ≤ _)⟩)
  dsimp only [Pt.U, Pt.locs, Pt.cells, Pt.slots] at X70 l70 y70 z70 st70 hQ70
  subst l70 y70 z70
  obtain ⟨b70, rfl, N70q, K70, SZ70, B70⟩ := hQ70
  have N70 := Fr.app N54 N70q
  have ne_b3_b70 : b3 ≠ b70 := Nat.ne_of_lt (Nat.lt_of_lt_of_le f73.lt SZ70)
  have ne_b9_b70 : b9 ≠ b70 := Nat.ne_of_lt (Nat.lt_of_lt_of_le f74.lt SZ70)
  have ne_b63_b70 : b63 ≠ b70 := Nat.ne_of_lt (Nat.lt_of_lt_of_le A69.lt SZ70)
  have ne_a2_b70 : a2 ≠ b70 := Nat.ne_of_lt (Nat.lt_of_lt_of_le f75.lt SZ70)
  have ne_b18_b70 : b18 ≠ b70 := Nat.ne_of_lt (Nat.lt_of_lt_of_le f76.lt SZ70)
  have ne_b33_b70 : b33 ≠ b70 := Nat.ne_of_lt (Nat.lt_of_lt_of_le f77.lt SZ70)
  have ne_b48_b70 : b48 ≠ b70 := Nat.ne_of_lt (Nat.lt_of_lt_of_le f78.lt SZ70)
  have g_b70 : n0 ≤ b70 := Nat.le_trans f71 SZ70
  have sz_b70 : h0.size ≤ b70 := Nat.le_trans f79.1 SZ70
  have go82 : Go p.tables e below T70 (mkF m 130 #[.val (.int p1), .val (.ref a2), .val (.ref b3), .val (.ref a2), .val (.int (3 : Int32)), .val (.int (3 : Int32)), .val (.long x3), .second] [(.ref b70), (.int p1), (.ref b63), (.ref b63)]) s₁ (entryFrame m #[(.int p1), (.ref a2)] 8) := by
    intro t k
    refine go72 t ?_
    show Steps _ _ _ (T69.setTop (mkF m 127 #[.val (.int p1), .val (.ref a2), .val (.ref b3), .val (.ref a2), .val (.int (3 : Int32)), .val (.int (3 : Int32)), .val (.long x3), .second] [(.ref b3), (.int p1), (.ref b63), (.ref b63)])) _
    refine st70 _ ?_
    exact k
  have f81 : n0 ≤ T70.heap.size := (Nat.le_trans f71 K70.1)
  have f83 : Keep h0 T70.heap [] := (f79.trans K70 all0)
  obtain ⟨_, _, ⟨T80, L80, k80, n80⟩, -, X80, ⟨Lc80, hQ80, l80, y80, z80⟩, st80⟩ := Jvm.LawKit.callS X70 hx (y := (⟨"java/util/List", "of", "()Ljava/util/List;"⟩ : MethodName)) hown (mvT hZ (wk hw 107 rfl)) (mvT hZ (wk hw 108 rfl)) (mvT hZ (wk hw 109 rfl)) (mvT hZ (wk hw 110 rfl)) (by decide) (backOf (W := 4) (rm13 l Z a0 hw [] wL T70.heap n0 f81 (S_L.ext (own_ext0 f83))) hZ (wk hw 110 rfl) (wk hw 109 rfl) (by decide) (by decide)) (g := (mkF m 130 #[.val (.int p1), .val (.ref a2), .val (.ref b3), .val (.ref a2), .val (.int (3 : Int32)), .val (.int (3 : Int32)), .val (.long x3), .second] [(.ref b70), (.int p1), (.ref b63), (.ref b63)])) rfl (by rw [hml]; rfl) (argsL := []) (rest := [(.ref b70), (.int p1), (.ref b63), (.ref b63)]) (lenOf pd_14 rfl) rfl (by show 2 * 0 + _ ≤ _; exact Nat.le_of_eq rfl) (hb hby d1_130) (fun _ _ => ⟨rfl, rfl, (by decide : 7 + 0 ≤ _), (by decide : 14 + 0 ≤ _)⟩)
  dsimp only [Pt.U, Pt.locs, Pt.cells, Pt.slots] at X80 l80 y80 z80 st80 hQ80
  subst l80 y80 z80
  obtain ⟨rfl, N80q, e80⟩ := hQ80
  have N80 := Fr.app N70 N80q
  have go86 : Go p.tables e below T80 (mkF m 133 #[.val (.int p1), .val (.ref a2), .val (.ref b3), .val (.ref a2), .val (.int (3 : Int32)), .val (.int (3 : Int32)), .val (.long x3), .second] [(.ref wL), (.ref b70), (.int p1), (.ref b63), (.ref b63)]) s₁ (entryFrame m #[(.int p1), (.ref a2)] 8) := by
    intro t k
    refine go82 t ?_
    show Steps _ _ _ (T70.setTop (mkF m 130 #[.val (.int p1), .val (.ref a2), .val (.ref b3), .val (.ref a2), .val (.int (3 : Int32)), .val (.int (3 : Int32)), .val (.long x3), .second] [(.ref b70), (.int p1), (.ref b63), (.ref b63)])) _
    refine st80 _ ?_
    exact k
  have f85 : Exa Z T70.heap b63 "com/example/nackoff/nackoff/RetryPolicy" := (A69.keep K70)
  have f87 : Fld Z T70.heap b63 "com/example/nackoff/nackoff/RetryPolicy" "retries" "I" (.int (0 : Int32)) := (F_retries_b63.keep K70 nin0)
  have f88 : Fld Z T70.heap b63 "com/example/nackoff/nackoff/RetryPolicy" "waitsMs" "Ljava/util/List;" .null := (F_waitsMs_b63.keep K70 nin0)
  have f89 : Fld Z T70.heap b63 "com/example/nackoff/nackoff/RetryPolicy" "retryableTypes" "Ljava/util/List;" .null := (F_retryableTypes_b63.keep K70 nin0)
  obtain ⟨_, _, ⟨T84, L84, k84, n84⟩, -, X84, ⟨Lc84, hQ84, l84, y84, z84⟩, st84⟩ := X80.specialBack hx (y := (⟨"com/example/nackoff/nackoff/RetryPolicy", "<init>", "(ILjava/util/List;Ljava/util/List;)V"⟩ : MethodName)) rfl hown (mvT hZ (wk hw 113 rfl)) (mvT hZ (wk hw 114 rfl)) (mvT hZ (wk hw 115 rfl)) (by decide) (backOf (W := 1) (rm14 l Z a0 hw [] b63 p1 b70 wL (.int (0 : Int32)) .null .null T70.heap n0 f81 f85 f87 f88 f89 g_b63) hZ (wk hw 115 rfl) (wk hw 6 rfl) (by decide) (by decide)) (g := (mkF m 133 #[.val (.int p1), .val (.ref a2), .val (.ref b3), .val (.ref a2), .val (.int (3 : Int32)), .val (.int (3 : Int32)), .val (.long x3), .second] [(.ref wL), (.ref b70), (.int p1), (.ref b63), (.ref b63)])) rfl (by rw [hml]; rfl) (Steps.refl _) (a := b63) (argsL := [(.int p1), (.ref b70), (.ref wL)]) (rest := [(.ref b63)]) (lenOf pd_15 rfl) rfl (by show 2 * 0 + _ ≤ _; exact Nat.le_of_eq rfl) (hb hby d1_133) (fun _ _ => ⟨rfl, e80, (by decide : 7 + 0 ≤ _), (by decide : 14 + 0 ≤ _)⟩)
  dsimp only [Pt.U, Pt.locs, Pt.cells, Pt.slots] at X84 l84 y84 z84 st84 hQ84
  subst l84 y84 z84
  obtain ⟨rfl, N84q, K84, Fr84, Fw84⟩ := hQ84
  have N84 := Fr.app N80 N84q
  have go90 : Go p.tables e below T84 (mkF m 136 #[.val (.int p1), .val (.ref a2), .val (.ref b3), .val (.ref a2), .val (.int (3 : Int32)), .val (.int (3 : Int32)), .val (.long x3), .second] [(.ref b63)]) s₁ (entryFrame m #[(.int p1), (.ref a2)] 8) := by
    intro t k
    refine go86 t ?_
    show Steps _ _ _ (T80.setTop (mkF m 133 #[.val (.int p1), .val (.ref a2), .val (.ref b3), .val (.ref a2), .val (.int (3 : Int32)), .val (.int (3 : Int32)), .val (.long x3), .second] [(.ref wL), (.ref b70), (.int p1), (.ref b63), (.ref b63)])) _
    refine st84.trans ?_
    exact k
  have f91 : Keep h0 T84.heap [] := (f83.trans K84 (allS (Or.inr sz_b63) all0))
  have f92 : Exa Z T84.heap b63 "com/example/nackoff/nackoff/RetryPolicy" := (f85.keep K84)
  have f93 : WRP Z T84.heap b70 b3 := (B70.keep K84 (ninS (Ne.symm ne_b63_b70) nin0))
  have f94 : Exa Z T84.heap b3 "java/util/ArrayList" := ((f73.keep K70).keep K84)
  have f95 : Fld Z T84.heap b3 "java/util/ArrayList" "size" "I" (.int (3 : Int32)) := (((Fs54.ext E69).keep K70 nin0).keep K84 (ninS ne_b3_b63 nin0))
  have f96 : Fld Z T84.heap b3 "java/util/ArrayList" "elementData" "[Ljava/lang/Object;" (.ref b9) := (((Fe54.ext E69).keep K70 nin0).keep K84 (ninS ne_b3_b63 nin0))
  have f97 : Arv Z T84.heap b9 kE9 (.object "java/lang/Object") (3 : Int32) [(.ref b18), (.ref b33), (.ref b48)] .null := ((f74.keep K70 nin0).keep K84 (ninS ne_b9_b63 nin0))
  have f98 : Exa Z T84.heap b18 "java/lang/Long" := ((f76.keep K70).keep K84)
  have f99 : Fld Z T84.heap b18 "java/lang/Long" "value" "J" (.long x1) := ((((((((Fy18.keep K24 (ninS ne_b18_al (ninS ne_b18_e nin0))).keep K33 nin0).keep K39 (ninS ne_b18_al (ninS ne_b18_e nin0))).keep K48 nin0).keep K54 (ninS ne_b18_al (ninS ne_b18_e nin0))).ext E69).keep K70 nin0).keep K84 (ninS ne_b18_b63 nin0))
  have f100 : Exa Z T84.heap b33 "java/lang/Long" := ((f77.keep K70).keep K84)
  have f101 : Fld Z T84.heap b33 "java/lang/Long" "value" "J" (.long x2) := ((((((Fy33.keep K39 (ninS ne_b33_al (ninS ne_b33_e nin0))).keep K48 nin0).keep K54 (ninS ne_b33_al (ninS ne_b33_e nin0))).ext E69).keep K70 nin0).keep K84 (ninS ne_b33_b63 nin0))
  have f102 : Exa Z T84.heap b48 "java/lang/Long" := ((f78.keep K70).keep K84)
  have f103 : Fld Z T84.heap b48 "java/lang/Long" "value" "J" (.long x3) := ((((Fy48.keep K54 (ninS ne_b48_al (ninS ne_b48_e nin0))).ext E69).keep K70 nin0).keep K84 (ninS ne_b48_b63 nin0))
  obtain ⟨fs, hr, hrun, hended, hW, hsame⟩ := X84.leave (v := some (.ref b63)) (fun h => by rw [Bd.returns] at h; cases h)
  refine ⟨_, _, go90 _ ?_, hrun, hended, _, _, rfl, ?_, ⟨_, rfl⟩, hW, hsame.mono (by decide) (by decide)⟩
  · exact retOut X84 hx Bd.returns rfl (Or.inr (Or.inr (Or.inr (Or.inr ⟨rfl, rfl, rfl⟩)))) (hb hby d1_136) hr
  · show Q1_3 Z p1 x1 x2 x3 h0 n0 _ T84.heap _
    exact ⟨b63, b70, b3, b9, kE9, b18, b33, b48, rfl, N84, f91, sz_b63, sz_b70, sz_b3, sz_b9, f92, Fr84, Fw84, f93, f94, f95, f96, f97, f98, f99, f100, f101, f102, f103⟩
theorem pn_0 : plainName "com/example/nackoff/nackoff/RetryPolicyOfPinLaw" = true := by first | (simp [plainName, overriddenIn]; done) | decide +kernel
theorem ef_0 (m : MethodId) (x0 : Int32) (x1 : Int64) (x2 : Int64) (x3 : Int64) (x4 : Int32) : entryFrame m #[(.int x0), (.long x1), (.long x2), (.long x3), (.int x4)] maxLocals = mkF m 0 #[.val (.int x0), .val (.long x1), .second, .val (.long x2), .second, .val (.long x3), .second, .val (.int x4), .unset, .unset, .unset, .unset, .unset, .unset, .unset, .unset, .unset, .unset, .unset, .unset, .unset, .unset, .unset, .unset, .unset] [] := by first | (simp [entryFrame, mkF, argsToLocals, Value.category, maxLocals]; done) | rfl
theorem pd_16 : parseMethodDescriptor "(I[J)Lcom/example/nackoff/nackoff/RetryPolicy;" = some ⟨[.int, (.array .long)], some (.object "com/example/nackoff/nackoff/RetryPolicy")⟩ := by decide +kernel
theorem pd_17 : parseMethodDescriptor "(I)J" = some ⟨[.int], some .long⟩ := by decide +kernel
set_option maxRecDepth 65536 in
set_option maxHeartbeats 40000000 in
theorem rm0 (l : Launch) (Z : State) (a0 : Array Value) (hw : ∀ d ∈ tables_1, d.before a0 Z = true) (ws : List Jvm.Cond) (p1 : Int32) (q2 q3 q4 : Int64) (p5 : Int32) (wC : Addr) (clC : Cell) (wL mA mL mR : Addr) (h0 : Heap) (n0 : Nat) (Z0 : n0 ≤ h0.size) (HC : LC Z h0 wC clC) (S_L : Sta Z h0 "java/util/ImmutableCollections" "EMPTY_LIST" "Ljava/util/ImmutableCollections$ListN;" (.ref wL)) (MA : Mr Z "java/util/ArrayList" mA) (ML : Mr Z "java/util/Collections$UnmodifiableList" mL) (MR : Mr Z "java/util/Collections$UnmodifiableRandomAccessList" mR) (hmL : ¬ (mA = mL)) (hmR : ¬ (mA = mR)) :
    MetFree l x (head1 (Jvm.Cond.code x code maxLocals ret :: ws) room_1) (fun a U => a = #[(.int p1), (.long q2), (.long q3), (.long q4), (.int p5)] ∧ Z.Warmed39 U.vm ∧ U.heap = h0) (fun _ _ _ _ _ => True) (fun _ U o U' => ∃ v L, o = .returned v ∧ QL (.int 1) h0 n0 v U'.heap L ∧ FrameEnd U o U' L room_1.cells room_1.slots) := by
  refine MetFree.of_bodySF (plainFor_of_name pn_0) hisR ?_
  intro p e s m args below meth c s₁ Bd hml0 hP hK
  obtain ⟨rfl, hZ, hh⟩ := hP
  have hx := Bd.exec
  have hby := Bd.bytes
  have hml : c.maxLocals = 25 := hml0
  have hown : s.vm.findClass "com/example/nackoff/nackoff/RetryPolicyOfPinLaw" = some m.cls := findClass_of_methodNamed Bd.named
  have hnm := (name_of_methodNamed Bd.named Bd.method).1
  have X0 : Stand p l e room_1 s m #[(.int p1), (.long q2), (.long q3), (.long q4), (.int p5)] below meth c s₁ [] 0 0 := Stand.of_body Bd
  have e0 : s₁.heap = h0 := by rw [← hh, Bd.state]; rfl
  have N0 := Fr.nil n0
  have go0 : Go p.tables e below s₁ (mkF m 0 #[.val (.int p1), .val (.long q2), .second, .val (.long q3), .second, .val (.long q4), .second, .val (.int p5), .unset, .unset, .unset, .unset, .unset, .unset, .unset, .unset, .unset, .unset, .unset, .unset, .unset, .unset, .unset, .unset, .unset] []) s₁ (entryFrame m #[(.int p1), (.long q2), (.long q3), (.long q4), (.int p5)] maxLocals) := fun t k => castTop (ef_0 m p1 q2 q3 q4 p5) k
  have go1 : Go p.tables e below s₁ (mkF m 61 #[.val (.int p1), .val (.long q2), .second, .val (.long q3), .second, .val (.long q4), .second, .val (.int p5), .val (.int ((p1 &&& (2147483647 : Int32)) % (1001 : Int32))), .val (.long (((q2 &&& (9223372036854775807 : Int64)) - (q2 &&& (9223372036854775807 : Int64)) / (86400000 : Int64) * (86400000 : Int64)) + (1 : Int64))), .second, .val (.long (((q3 &&& (9223372036854775807 : Int64)) - (q3 &&& (9223372036854775807 : Int64)) / (86400000 : Int64) * (86400000 : Int64)) + (1 : Int64))), .second, .val (.long (((q4 &&& (9223372036854775807 : Int64)) - (q4 &&& (9223372036854775807 : Int64)) / (86400000 : Int64) * (86400000 : Int64)) + (1 : Int64))), .second, .val (.int (((p5 &&& (2147483647 : Int32)) % (3 : Int32)) + (1 : Int32))), .unset, .unset, .unset, .unset, .unset, .unset, .unset, .unset, .unset] []) s₁ (entryFrame m #[(.int p1), (.long q2), (.long q3), (.long q4), (.int p5)] maxLocals) := by
    intro t k
    refine go0 t ?_
    show Steps _ _ _ (s₁.setTop (mkF m 0 #[.val (.int p1), .val (.long q2), .second, .val (.long q3), .second, .val (.long q4), .second, .val (.int p5), .unset, .unset, .unset, .unset, .unset, .unset, .unset, .unset, .unset, .unset, .unset, .unset, .unset, .unset, .unset, .unset, .unset] [])) _
    refine XS.iloadN X0.here hx rfl (hb hby at_0) rfl ?_
    show Steps _ _ _ (s₁.setTop (mkF m 1 #[.val (.int p1), .val (.long q2), .second, .val (.long q3), .second, .val (.long q4), .second, .val (.int p5), .unset, .unset, .unset, .unset, .unset, .unset, .unset, .unset, .unset, .unset, .unset, .unset, .unset, .unset, .unset, .unset, .unset] [(.int p1)])) _
    refine X0.ldcInt hx hown (mvT hZ (wk hw 0 rfl)) (g := (mkF m 1 #[.val (.int p1), .val (.long q2), .second, .val (.long q3), .second, .val (.long q4), .second, .val (.int p5), .unset, .unset, .unset, .unset, .unset, .unset, .unset, .unset, .unset, .unset, .unset, .unset, .unset, .unset, .unset, .unset, .unset] [(.int p1)])) rfl (hb hby at_1) _ ?_
    show Steps _ _ _ (s₁.setTop (mkF m 3 #[.val (.int p1), .val (.long q2), .second, .val (.long q3), .second, .val (.long q4), .second, .val (.int p5), .unset, .unset, .unset, .unset, .unset, .unset, .unset, .unset, .unset, .unset, .unset, .unset, .unset, .unset, .unset, .unset, .unset] [(.int (2147483647 : Int32)), (.int p1)])) _
    refine XS.iand X0.here hx rfl (hb hby at_3) rfl ?_
    show Steps _ _ _ (s₁.setTop (mkF m 4 #[.val (.int p1), .val (.long q2), .second, .val (.long q3), .second, .val (.long q4), .second, .val (.int p5), .unset, .unset, .unset, .unset, .unset, .unset, .unset, .unset, .unset, .unset, .unset, .unset, .unset, .unset, .unset, .unset, .unset] [(.int (p1 &&& (2147483647 : Int32)))])) _
    refine XS.sipush X0.here hx rfl (hb hby at_4) ?_
    show Steps _ _ _ (s₁.setTop (mkF m 7 #[.val (.int p1), .val (.long q2), .second, .val (.long q3), .second, .val (.long q4), .second, .val (.int p5), .unset, .unset, .unset, .unset, .unset, .unset, .unset, .unset, .unset, .unset, .unset, .unset, .unset, .unset, .unset, .unset, .unset] [(.int (1001 : Int32)), (.int (p1 &&& (2147483647 : Int32)))])) _
    refine iremM X0 hx rfl (hb hby at_7) rfl (by decide) ?_
    show Steps _ _ _ (s₁.setTop (mkF m 8 #[.val (.int p1), .val (.long q2), .second, .val (.long q3), .second, .val (.long q4), .second, .val (.int p5), .unset, .unset, .unset, .unset, .unset, .unset, .unset, .unset, .unset, .unset, .unset, .unset, .unset, .unset, .unset, .unset, .unset] [(.int ((p1 &&& (2147483647 : Int32)) % (1001 : Int32)))])) _
    refine XS.istore X0.here hx rfl (hb hby at_8) rfl (l' := #[.val (.int p1), .val (.long q2), .second, .val (.long q3), .second, .val (.long q4), .second, .val (.int p5), .val (.int ((p1 &&& (2147483647 : Int32)) % (1001 : Int32))), .unset, .unset, .unset, .unset, .unset, .unset, .unset, .unset, .unset, .unset, .unset, .unset, .unset, .unset, .unset, .unset]) rfl ?_
    show Steps _ _ _ (s₁.setTop (mkF m 10 #[.val (.int p1), .val (.long q2), .second, .val (.long q3), .second, .val (.long q4), .second, .val (.int p5), .val (.int ((p1 &&& (2147483647 : Int32)) % (1001 : Int32))), .unset, .unset, .unset, .unset, .unset, .unset, .unset, .unset, .unset, .unset, .unset, .unset, .unset, .unset, .unset, .unset] [])) _
    refine XS.lloadN X0.here hx rfl (hb hby at_10) rfl ?_
    show Steps _ _ _ (s₁.setTop (mkF m 11 #[.val (.int p1), .val (.long q2), .second, .val (.long q3), .second, .val (.long q4), .second, .val (.int p5), .val (.int ((p1 &&& (2147483647 : Int32)) % (1001 : Int32))), .unset, .unset, .unset, .unset, .unset, .unset, .unset, .unset, .unset, .unset, .unset, .unset, .unset, .unset, .unset, .unset] [(.long q2)])) _
    refine X0.ldc2Long hx hown (mvT hZ (wk hw 1 rfl)) (g := (mkF m 11 #[.val (.int p1), .val (.long q2), .second, .val (.long q3), .second, .val (.long q4), .second, .val (.int p5), .val (.int ((p1 &&& (2147483647 : Int32)) % (1001 : Int32))), .unset, .unset, .unset, .unset, .unset, .unset, .unset, .unset, .unset, .unset, .unset, .unset, .unset, .unset, .unset, .unset] [(.long q2)])) rfl (hb hby at_11) _ ?_
    show Steps _ _ _ (s₁.setTop (mkF m 14 #[.val (.int p1), .val (.long q2), .second, .val (.long q3), .second, .val (.long q4), .second, .val (.int p5), .val (.int ((p1 &&& (2147483647 : Int32)) % (1001 : Int32))), .unset, .unset, .unset, .unset, .unset, .unset, .unset, .unset, .unset, .unset, .unset, .unset, .unset, .unset, .unset, .unset] [(.long (9223372036854775807 : Int64)), (.long q2)])) _
    refine XS.land X0.here hx rfl (hb hby at_14) rfl ?_
    show Steps _ _ _ (s₁.setTop (mkF m 15 #[.val (.int p1), .val (.long q2), .second, .val (.long q3), .second, .val (.long q4), .second, .val (.int p5), .val (.int ((p1 &&& (2147483647 : Int32)) % (1001 : Int32))), .unset, .unset, .unset, .unset, .unset, .unset, .unset, .unset, .unset, .unset, .unset, .unset, .unset, .unset, .unset, .unset] [(.long (q2 &&& (9223372036854775807 : Int64)))])) _
    refine X0.ldc2Long hx hown (mvT hZ (wk hw 2 rfl)) (g := (mkF m 15 #[.val (.int p1), .val (.long q2), .second, .val (.long q3), .second, .val (.long q4), .second, .val (.int p5), .val (.int ((p1 &&& (2147483647 : Int32)) % (1001 : Int32))), .unset, .unset, .unset, .unset, .unset, .unset, .unset, .unset, .unset, .unset, .unset, .unset, .unset, .unset, .unset, .unset] [(.long (q2 &&& (9223372036854775807 : Int64)))])) rfl (hb hby at_15) _ ?_
    show Steps _ _ _ (s₁.setTop (mkF m 18 #[.val (.int p1), .val (.long q2), .second, .val (.long q3), .second, .val (.long q4), .second, .val (.int p5), .val (.int ((p1 &&& (2147483647 : Int32)) % (1001 : Int32))), .unset, .unset, .unset, .unset, .unset, .unset, .unset, .unset, .unset, .unset, .unset, .unset, .unset, .unset, .unset, .unset] [(.long (86400000 : Int64)), (.long (q2 &&& (9223372036854775807 : Int64)))])) _
    refine XS.lrem X0.here hx rfl (hb hby at_18) rfl (by decide) ?_
    show Steps _ _ _ (s₁.setTop (mkF m 19 #[.val (.int p1), .val (.long q2), .second, .val (.long q3), .second, .val (.long q4), .second, .val (.int p5), .val (.int ((p1 &&& (2147483647 : Int32)) % (1001 : Int32))), .unset, .unset, .unset, .unset, .unset, .unset, .unset, .unset, .unset, .unset, .unset, .unset, .unset, .unset, .unset, .unset] [(.long ((q2 &&& (9223372036854775807 : Int64)) - (q2 &&& (9223372036854775807 : Int64)) / (86400000 : Int64) * (86400000 : Int64)))])) _
    refine XS.lconst X0.here hx rfl (hb hby at_19) ?_
    show Steps _ _ _ (s₁.setTop (mkF m 20 #[.val (.int p1), .val (.long q2), .second, .val (.long q3), .second, .val (.long q4), .second, .val (.int p5), .val (.int ((p1 &&& (2147483647 : Int32)) % (1001 : Int32))), .unset, .unset, .unset, .unset, .unset, .unset, .unset, .unset, .unset, .unset, .unset, .unset, .unset, .unset, .unset, .unset] [(.long (1 : Int64)), (.long ((q2 &&& (9223372036854775807 : Int64)) - (q2 &&& (9223372036854775807 : Int64)) / (86400000 : Int64) * (86400000 : Int64)))])) _
    refine XS.ladd X0.here hx rfl (hb hby at_20) rfl ?_
    show Steps _ _ _ (s₁.setTop (mkF m 21 #[.val (.int p1), .val (.long q2), .second, .val (.long q3), .second, .val (.long q4), .second, .val (.int p5), .val (.int ((p1 &&& (2147483647 : Int32)) % (1001 : Int32))), .unset, .unset, .unset, .unset, .unset, .unset, .unset, .unset, .unset, .unset, .unset, .unset, .unset, .unset, .unset, .unset] [(.long (((q2 &&& (9223372036854775807 : Int64)) - (q2 &&& (9223372036854775807 : Int64)) / (86400000 : Int64) * (86400000 : Int64)) + (1 : Int64)))])) _
    refine XS.lstore X0.here hx rfl (hb hby at_21) rfl (l' := #[.val (.int p1), .val (.long q2), .second, .val (.long q3), .second, .val (.long q4), .second, .val (.int p5), .val (.int ((p1 &&& (2147483647 : Int32)) % (1001 : Int32))), .val (.long (((q2 &&& (9223372036854775807 : Int64)) - (q2 &&& (9223372036854775807 : Int64)) / (86400000 : Int64) * (86400000 : Int64)) + (1 : Int64))), .second, .unset, .unset, .unset, .unset, .unset, .unset, .unset, .unset, .unset, .unset, .unset, .unset, .unset, .unset]) rfl ?_
    show Steps _ _ _ (s₁.setTop (mkF m 23 #[.val (.int p1), .val (.long q2), .second, .val (.long q3), .second, .val (.long q4), .second, .val (.int p5), .val (.int ((p1 &&& (2147483647 : Int32)) % (1001 : Int32))), .val (.long (((q2 &&& (9223372036854775807 : Int64)) - (q2 &&& (9223372036854775807 : Int64)) / (86400000 : Int64) * (86400000 : Int64)) + (1 : Int64))), .second, .unset, .unset, .unset, .unset, .unset, .unset, .unset, .unset, .unset, .unset, .unset, .unset, .unset, .unset] [])) _
    refine XS.lloadN X0.here hx rfl (hb hby at_23) rfl ?_
    show Steps _ _ _ (s₁.setTop (mkF m 24 #[.val (.int p1), .val (.long q2), .second, .val (.long q3), .second, .val (.long q4), .second, .val (.int p5), .val (.int ((p1 &&& (2147483647 : Int32)) % (1001 : Int32))), .val (.long (((q2 &&& (9223372036854775807 : Int64)) - (q2 &&& (9223372036854775807 : Int64)) / (86400000 : Int64) * (86400000 : Int64)) + (1 : Int64))), .second, .unset, .unset, .unset, .unset, .unset, .unset, .unset, .unset, .unset, .unset, .unset, .unset, .unset, .unset] [(.long q3)])) _
    refine X0.ldc2Long hx hown (mvT hZ (wk hw 1 rfl)) (g := (mkF m 24 #[.val (.int p1), .val (.long q2), .second, .val (.long q3), .second, .val (.long q4), .second, .val (.int p5), .val (.int ((p1 &&& (2147483647 : Int32)) % (1001 : Int32))), .val (.long (((q2 &&& (9223372036854775807 : Int64)) - (q2 &&& (9223372036854775807 : Int64)) / (86400000 : Int64) * (86400000 : Int64)) + (1 : Int64))), .second, .unset, .unset, .unset, .unset, .unset, .unset, .unset, .unset, .unset, .unset, .unset, .unset, .unset, .unset] [(.long q3)])) rfl (hb hby at_24) _ ?_
    show Steps _ _ _ (s₁.setTop (mkF m 27 #[.val (.int p1), .val (.long q2), .second, .val (.long q3), .second, .val (.long q4), .second, .val (.int p5), .val (.int ((p1 &&& (2147483647 : Int32)) % (1001 : Int32))), .val (.long (((q2 &&& (9223372036854775807 : Int64)) - (q2 &&& (9223372036854775807 : Int64)) / (86400000 : Int64) * (86400000 : Int64)) + (1 : Int64))), .second, .unset, .unset, .unset, .unset, .unset, .unset, .unset, .unset, .unset, .unset, .unset, .unset, .unset, .unset] [(.long (9223372036854775807 : Int64)), (.long q3)])) _
    refine XS.land X0.here hx rfl (hb hby at_27) rfl ?_
    show Steps _ _ _ (s₁.setTop (mkF m 28 #[.val (.int p1), .val (.long q2), .second, .val (.long q3), .second, .val (.long q4), .second, .val (.int p5), .val (.int ((p1 &&& (2147483647 : Int32)) % (1001 : Int32))), .val (.long (((q2 &&& (9223372036854775807 : Int64)) - (q2 &&& (9223372036854775807 : Int64)) / (86400000 : Int64) * (86400000 : Int64)) + (1 : Int64))), .second, .unset, .unset, .unset, .unset, .unset, .unset, .unset, .unset, .unset, .unset, .unset, .unset, .unset, .unset] [(.long (q3 &&& (9223372036854775807 : Int64)))])) _
    refine X0.ldc2Long hx hown (mvT hZ (wk hw 2 rfl)) (g := (mkF m 28 #[.val (.int p1), .val (.long q2), .second, .val (.long q3), .second, .val (.long q4), .second, .val (.int p5), .val (.int ((p1 &&& (2147483647 : Int32)) % (1001 : Int32))), .val (.long (((q2 &&& (9223372036854775807 : Int64)) - (q2 &&& (9223372036854775807 : Int64)) / (86400000 : Int64) * (86400000 : Int64)) + (1 : Int64))), .second, .unset, .unset, .unset, .unset, .unset, .unset, .unset, .unset, .unset, .unset, .unset, .unset, .unset, .unset] [(.long (q3 &&& (9223372036854775807 : Int64)))])) rfl (hb hby at_28) _ ?_
    show Steps _ _ _ (s₁.setTop (mkF m 31 #[.val (.int p1), .val (.long q2), .second, .val (.long q3), .second, .val (.long q4), .second, .val (.int p5), .val (.int ((p1 &&& (2147483647 : Int32)) % (1001 : Int32))), .val (.long (((q2 &&& (9223372036854775807 : Int64)) - (q2 &&& (9223372036854775807 : Int64)) / (86400000 : Int64) * (86400000 : Int64)) + (1 : Int64))), .second, .unset, .unset, .unset, .unset, .unset, .unset, .unset, .unset, .unset, .unset, .unset, .unset, .unset, .unset] [(.long (86400000 : Int64)), (.long (q3 &&& (9223372036854775807 : Int64)))])) _
    refine XS.lrem X0.here hx rfl (hb hby at_31) rfl (by decide) ?_
    show Steps _ _ _ (s₁.setTop (mkF m 32 #[.val (.int p1), .val (.long q2), .second, .val (.long q3), .second, .val (.long q4), .second, .val (.int p5), .val (.int ((p1 &&& (2147483647 : Int32)) % (1001 : Int32))), .val (.long (((q2 &&& (9223372036854775807 : Int64)) - (q2 &&& (9223372036854775807 : Int64)) / (86400000 : Int64) * (86400000 : Int64)) + (1 : Int64))), .second, .unset, .unset, .unset, .unset, .unset, .unset, .unset, .unset, .unset, .unset, .unset, .unset, .unset, .unset] [(.long ((q3 &&& (9223372036854775807 : Int64)) - (q3 &&& (9223372036854775807 : Int64)) / (86400000 : Int64) * (86400000 : Int64)))])) _
    refine XS.lconst X0.here hx rfl (hb hby at_32) ?_
    show Steps _ _ _ (s₁.setTop (mkF m 33 #[.val (.int p1), .val (.long q2), .second, .val (.long q3), .second, .val (.long q4), .second, .val (.int p5), .val (.int ((p1 &&& (2147483647 : Int32)) % (1001 : Int32))), .val (.long (((q2 &&& (9223372036854775807 : Int64)) - (q2 &&& (9223372036854775807 : Int64)) / (86400000 : Int64) * (86400000 : Int64)) + (1 : Int64))), .second, .unset, .unset, .unset, .unset, .unset, .unset, .unset, .unset, .unset, .unset, .unset, .unset, .unset, .unset] [(.long (1 : Int64)), (.long ((q3 &&& (9223372036854775807 : Int64)) - (q3 &&& (9223372036854775807 : Int64)) / (86400000 : Int64) * (86400000 : Int64)))])) _
    refine XS.ladd X0.here hx rfl (hb hby at_33) rfl ?_
    show Steps _ _ _ (s₁.setTop (mkF m 34 #[.val (.int p1), .val (.long q2), .second, .val (.long q3), .second, .val (.long q4), .second, .val (.int p5), .val (.int ((p1 &&& (2147483647 : Int32)) % (1001 : Int32))), .val (.long (((q2 &&& (9223372036854775807 : Int64)) - (q2 &&& (9223372036854775807 : Int64)) / (86400000 : Int64) * (86400000 : Int64)) + (1 : Int64))), .second, .unset, .unset, .unset, .unset, .unset, .unset, .unset, .unset, .unset, .unset, .unset, .unset, .unset, .unset] [(.long (((q3 &&& (9223372036854775807 : Int64)) - (q3 &&& (9223372036854775807 : Int64)) / (86400000 : Int64) * (86400000 : Int64)) + (1 : Int64)))])) _
    refine XS.lstore X0.here hx rfl (hb hby at_34) rfl (l' := #[.val (.int p1), .val (.long q2), .second, .val (.long q3), .second, .val (.long q4), .second, .val (.int p5), .val (.int ((p1 &&& (2147483647 : Int32)) % (1001 : Int32))), .val (.long (((q2 &&& (9223372036854775807 : Int64)) - (q2 &&& (9223372036854775807 : Int64)) / (86400000 : Int64) * (86400000 : Int64)) + (1 : Int64))), .second, .val (.long (((q3 &&& (9223372036854775807 : Int64)) - (q3 &&& (9223372036854775807 : Int64)) / (86400000 : Int64) * (86400000 : Int64)) + (1 : Int64))), .second, .unset, .unset, .unset, .unset, .unset, .unset, .unset, .unset, .unset, .unset, .unset, .unset]) rfl ?_
    show Steps _ _ _ (s₁.setTop (mkF m 36 #[.val (.int p1), .val (.long q2), .second, .val (.long q3), .second, .val (.long q4), .second, .val (.int p5), .val (.int ((p1 &&& (2147483647 : Int32)) % (1001 : Int32))), .val (.long (((q2 &&& (9223372036854775807 : Int64)) - (q2 &&& (9223372036854775807 : Int64)) / (86400000 : Int64) * (86400000 : Int64)) + (1 : Int64))), .second, .val (.long (((q3 &&& (9223372036854775807 : Int64)) - (q3 &&& (9223372036854775807 : Int64)) / (86400000 : Int64) * (86400000 : Int64)) + (1 : Int64))), .second, .unset, .unset, .unset, .unset, .unset, .unset, .unset, .unset, .unset, .unset, .unset, .unset] [])) _
    refine XS.lload X0.here hx rfl (hb hby at_36) rfl ?_
    show Steps _ _ _ (s₁.setTop (mkF m 38 #[.val (.int p1), .val (.long q2), .second, .val (.long q3), .second, .val (.long q4), .second, .val (.int p5), .val (.int ((p1 &&& (2147483647 : Int32)) % (1001 : Int32))), .val (.long (((q2 &&& (9223372036854775807 : Int64)) - (q2 &&& (9223372036854775807 : Int64)) / (86400000 : Int64) * (86400000 : Int64)) + (1 : Int64))), .second, .val (.long (((q3 &&& (9223372036854775807 : Int64)) - (q3 &&& (9223372036854775807 : Int64)) / (86400000 : Int64) * (86400000 : Int64)) + (1 : Int64))), .second, .unset, .unset, .unset, .unset, .unset, .unset, .unset, .unset, .unset, .unset, .unset, .unset] [(.long q4)])) _
    refine X0.ldc2Long hx hown (mvT hZ (wk hw 1 rfl)) (g := (mkF m 38 #[.val (.int p1), .val (.long q2), .second, .val (.long q3), .second, .val (.long q4), .second, .val (.int p5), .val (.int ((p1 &&& (2147483647 : Int32)) % (1001 : Int32))), .val (.long (((q2 &&& (9223372036854775807 : Int64)) - (q2 &&& (9223372036854775807 : Int64)) / (86400000 : Int64) * (86400000 : Int64)) + (1 : Int64))), .second, .val (.long (((q3 &&& (9223372036854775807 : Int64)) - (q3 &&& (9223372036854775807 : Int64)) / (86400000 : Int64) * (86400000 : Int64)) + (1 : Int64))), .second, .unset, .unset, .unset, .unset, .unset, .unset, .unset, .unset, .unset, .unset, .unset, .unset] [(.long q4)])) rfl (hb hby at_38) _ ?_
    show Steps _ _ _ (s₁.setTop (mkF m 41 #[.val (.int p1), .val (.long q2), .second, .val (.long q3), .second, .val (.long q4), .second, .val (.int p5), .val (.int ((p1 &&& (2147483647 : Int32)) % (1001 : Int32))), .val (.long (((q2 &&& (9223372036854775807 : Int64)) - (q2 &&& (9223372036854775807 : Int64)) / (86400000 : Int64) * (86400000 : Int64)) + (1 : Int64))), .second, .val (.long (((q3 &&& (9223372036854775807 : Int64)) - (q3 &&& (9223372036854775807 : Int64)) / (86400000 : Int64) * (86400000 : Int64)) + (1 : Int64))), .second, .unset, .unset, .unset, .unset, .unset, .unset, .unset, .unset, .unset, .unset, .unset, .unset] [(.long (9223372036854775807 : Int64)), (.long q4)])) _
    refine XS.land X0.here hx rfl (hb hby at_41) rfl ?_
    show Steps _ _ _ (s₁.setTop (mkF m 42 #[.val (.int p1), .val (.long q2), .second, .val (.long q3), .second, .val (.long q4), .second, .val (.int p5), .val (.int ((p1 &&& (2147483647 : Int32)) % (1001 : Int32))), .val (.long (((q2 &&& (9223372036854775807 : Int64)) - (q2 &&& (9223372036854775807 : Int64)) / (86400000 : Int64) * (86400000 : Int64)) + (1 : Int64))), .second, .val (.long (((q3 &&& (9223372036854775807 : Int64)) - (q3 &&& (9223372036854775807 : Int64)) / (86400000 : Int64) * (86400000 : Int64)) + (1 : Int64))), .second, .unset, .unset, .unset, .unset, .unset, .unset, .unset, .unset, .unset, .unset, .unset, .unset] [(.long (q4 &&& (9223372036854775807 : Int64)))])) _
    refine X0.ldc2Long hx hown (mvT hZ (wk hw 2 rfl)) (g := (mkF m 42 #[.val (.int p1), .val (.long q2), .second, .val (.long q3), .second, .val (.long q4), .second, .val (.int p5), .val (.int ((p1 &&& (2147483647 : Int32)) % (1001 : Int32))), .val (.long (((q2 &&& (9223372036854775807 : Int64)) - (q2 &&& (9223372036854775807 : Int64)) / (86400000 : Int64) * (86400000 : Int64)) + (1 : Int64))), .second, .val (.long (((q3 &&& (9223372036854775807 : Int64)) - (q3 &&& (9223372036854775807 : Int64)) / (86400000 : Int64) * (86400000 : Int64)) + (1 : Int64))), .second, .unset, .unset, .unset, .unset, .unset, .unset, .unset, .unset, .unset, .unset, .unset, .unset] [(.long (q4 &&& (9223372036854775807 : Int64)))])) rfl (hb hby at_42) _ ?_
    show Steps _ _ _ (s₁.setTop (mkF m 45 #[.val (.int p1), .val (.long q2), .second, .val (.long q3), .second, .val (.long q4), .second, .val (.int p5), .val (.int ((p1 &&& (2147483647 : Int32)) % (1001 : Int32))), .val (.long (((q2 &&& (9223372036854775807 : Int64)) - (q2 &&& (9223372036854775807 : Int64)) / (86400000 : Int64) * (86400000 : Int64)) + (1 : Int64))), .second, .val (.long (((q3 &&& (9223372036854775807 : Int64)) - (q3 &&& (9223372036854775807 : Int64)) / (86400000 : Int64) * (86400000 : Int64)) + (1 : Int64))), .second, .unset, .unset, .unset, .unset, .unset, .unset, .unset, .unset, .unset, .unset, .unset, .unset] [(.long (86400000 : Int64)), (.long (q4 &&& (9223372036854775807 : Int64)))])) _
    refine XS.lrem X0.here hx rfl (hb hby at_45) rfl (by decide) ?_
    show Steps _ _ _ (s₁.setTop (mkF m 46 #[.val (.int p1), .val (.long q2), .second, .val (.long q3), .second, .val (.long q4), .second, .val (.int p5), .val (.int ((p1 &&& (2147483647 : Int32)) % (1001 : Int32))), .val (.long (((q2 &&& (9223372036854775807 : Int64)) - (q2 &&& (9223372036854775807 : Int64)) / (86400000 : Int64) * (86400000 : Int64)) + (1 : Int64))), .second, .val (.long (((q3 &&& (9223372036854775807 : Int64)) - (q3 &&& (9223372036854775807 : Int64)) / (86400000 : Int64) * (86400000 : Int64)) + (1 : Int64))), .second, .unset, .unset, .unset, .unset, .unset, .unset, .unset, .unset, .unset, .unset, .unset, .unset] [(.long ((q4 &&& (9223372036854775807 : Int64)) - (q4 &&& (9223372036854775807 : Int64)) / (86400000 : Int64) * (86400000 : Int64)))])) _
    refine XS.lconst X0.here hx rfl (hb hby at_46) ?_
    show Steps _ _ _ (s₁.setTop (mkF m 47 #[.val (.int p1), .val (.long q2), .second, .val (.long q3), .second, .val (.long q4), .second, .val (.int p5), .val (.int ((p1 &&& (2147483647 : Int32)) % (1001 : Int32))), .val (.long (((q2 &&& (9223372036854775807 : Int64)) - (q2 &&& (9223372036854775807 : Int64)) / (86400000 : Int64) * (86400000 : Int64)) + (1 : Int64))), .second, .val (.long (((q3 &&& (9223372036854775807 : Int64)) - (q3 &&& (9223372036854775807 : Int64)) / (86400000 : Int64) * (86400000 : Int64)) + (1 : Int64))), .second, .unset, .unset, .unset, .unset, .unset, .unset, .unset, .unset, .unset, .unset, .unset, .unset] [(.long (1 : Int64)), (.long ((q4 &&& (9223372036854775807 : Int64)) - (q4 &&& (9223372036854775807 : Int64)) / (86400000 : Int64) * (86400000 : Int64)))])) _
    refine XS.ladd X0.here hx rfl (hb hby at_47) rfl ?_
    show Steps _ _ _ (s₁.setTop (mkF m 48 #[.val (.int p1), .val (.long q2), .second, .val (.long q3), .second, .val (.long q4), .second, .val (.int p5), .val (.int ((p1 &&& (2147483647 : Int32)) % (1001 : Int32))), .val (.long (((q2 &&& (9223372036854775807 : Int64)) - (q2 &&& (9223372036854775807 : Int64)) / (86400000 : Int64) * (86400000 : Int64)) + (1 : Int64))), .second, .val (.long (((q3 &&& (9223372036854775807 : Int64)) - (q3 &&& (9223372036854775807 : Int64)) / (86400000 : Int64) * (86400000 : Int64)) + (1 : Int64))), .second, .unset, .unset, .unset, .unset, .unset, .unset, .unset, .unset, .unset, .unset, .unset, .unset] [(.long (((q4 &&& (9223372036854775807 : Int64)) - (q4 &&& (9223372036854775807 : Int64)) / (86400000 : Int64) * (86400000 : Int64)) + (1 : Int64)))])) _
    refine XS.lstore X0.here hx rfl (hb hby at_48) rfl (l' := #[.val (.int p1), .val (.long q2), .second, .val (.long q3), .second, .val (.long q4), .second, .val (.int p5), .val (.int ((p1 &&& (2147483647 : Int32)) % (1001 : Int32))), .val (.long (((q2 &&& (9223372036854775807 : Int64)) - (q2 &&& (9223372036854775807 : Int64)) / (86400000 : Int64) * (86400000 : Int64)) + (1 : Int64))), .second, .val (.long (((q3 &&& (9223372036854775807 : Int64)) - (q3 &&& (9223372036854775807 : Int64)) / (86400000 : Int64) * (86400000 : Int64)) + (1 : Int64))), .second, .val (.long (((q4 &&& (9223372036854775807 : Int64)) - (q4 &&& (9223372036854775807 : Int64)) / (86400000 : Int64) * (86400000 : Int64)) + (1 : Int64))), .second, .unset, .unset, .unset, .unset, .unset, .unset, .unset, .unset, .unset, .unset]) rfl ?_
    show Steps _ _ _ (s₁.setTop (mkF m 50 #[.val (.int p1), .val (.long q2), .second, .val (.long q3), .second, .val (.long q4), .second, .val (.int p5), .val (.int ((p1 &&& (2147483647 : Int32)) % (1001 : Int32))), .val (.long (((q2 &&& (9223372036854775807 : Int64)) - (q2 &&& (9223372036854775807 : Int64)) / (86400000 : Int64) * (86400000 : Int64)) + (1 : Int64))), .second, .val (.long (((q3 &&& (9223372036854775807 : Int64)) - (q3 &&& (9223372036854775807 : Int64)) / (86400000 : Int64) * (86400000 : Int64)) + (1 : Int64))), .second, .val (.long (((q4 &&& (9223372036854775807 : Int64)) - (q4 &&& (9223372036854775807 : Int64)) / (86400000 : Int64) * (86400000 : Int64)) + (1 : Int64))), .second, .unset, .unset, .unset, .unset, .unset, .unset, .unset, .unset, .unset, .unset] [])) _
    refine XS.iload X0.here hx rfl (hb hby at_50) rfl ?_
    show Steps _ _ _ (s₁.setTop (mkF m 52 #[.val (.int p1), .val (.long q2), .second, .val (.long q3), .second, .val (.long q4), .second, .val (.int p5), .val (.int ((p1 &&& (2147483647 : Int32)) % (1001 : Int32))), .val (.long (((q2 &&& (9223372036854775807 : Int64)) - (q2 &&& (9223372036854775807 : Int64)) / (86400000 : Int64) * (86400000 : Int64)) + (1 : Int64))), .second, .val (.long (((q3 &&& (9223372036854775807 : Int64)) - (q3 &&& (9223372036854775807 : Int64)) / (86400000 : Int64) * (86400000 : Int64)) + (1 : Int64))), .second, .val (.long (((q4 &&& (9223372036854775807 : Int64)) - (q4 &&& (9223372036854775807 : Int64)) / (86400000 : Int64) * (86400000 : Int64)) + (1 : Int64))), .second, .unset, .unset, .unset, .unset, .unset, .unset, .unset, .unset, .unset, .unset] [(.int p5)])) _
    refine X0.ldcInt hx hown (mvT hZ (wk hw 0 rfl)) (g := (mkF m 52 #[.val (.int p1), .val (.long q2), .second, .val (.long q3), .second, .val (.long q4), .second, .val (.int p5), .val (.int ((p1 &&& (2147483647 : Int32)) % (1001 : Int32))), .val (.long (((q2 &&& (9223372036854775807 : Int64)) - (q2 &&& (9223372036854775807 : Int64)) / (86400000 : Int64) * (86400000 : Int64)) + (1 : Int64))), .second, .val (.long (((q3 &&& (9223372036854775807 : Int64)) - (q3 &&& (9223372036854775807 : Int64)) / (86400000 : Int64) * (86400000 : Int64)) + (1 : Int64))), .second, .val (.long (((q4 &&& (9223372036854775807 : Int64)) - (q4 &&& (9223372036854775807 : Int64)) / (86400000 : Int64) * (86400000 : Int64)) + (1 : Int64))), .second, .unset, .unset, .unset, .unset, .unset, .unset, .unset, .unset, .unset, .unset] [(.int p5)])) rfl (hb hby at_52) _ ?_
    show Steps _ _ _ (s₁.setTop (mkF m 54 #[.val (.int p1), .val (.long q2), .second, .val (.long q3), .second, .val (.long q4), .second, .val (.int p5), .val (.int ((p1 &&& (2147483647 : Int32)) % (1001 : Int32))), .val (.long (((q2 &&& (9223372036854775807 : Int64)) - (q2 &&& (9223372036854775807 : Int64)) / (86400000 : Int64) * (86400000 : Int64)) + (1 : Int64))), .second, .val (.long (((q3 &&& (9223372036854775807 : Int64)) - (q3 &&& (9223372036854775807 : Int64)) / (86400000 : Int64) * (86400000 : Int64)) + (1 : Int64))), .second, .val (.long (((q4 &&& (9223372036854775807 : Int64)) - (q4 &&& (9223372036854775807 : Int64)) / (86400000 : Int64) * (86400000 : Int64)) + (1 : Int64))), .second, .unset, .unset, .unset, .unset, .unset, .unset, .unset, .unset, .unset, .unset] [(.int (2147483647 : Int32)), (.int p5)])) _
    refine XS.iand X0.here hx rfl (hb hby at_54) rfl ?_
    show Steps _ _ _ (s₁.setTop (mkF m 55 #[.val (.int p1), .val (.long q2), .second, .val (.long q3), .second, .val (.long q4), .second, .val (.int p5), .val (.int ((p1 &&& (2147483647 : Int32)) % (1001 : Int32))), .val (.long (((q2 &&& (9223372036854775807 : Int64)) - (q2 &&& (9223372036854775807 : Int64)) / (86400000 : Int64) * (86400000 : Int64)) + (1 : Int64))), .second, .val (.long (((q3 &&& (9223372036854775807 : Int64)) - (q3 &&& (9223372036854775807 : Int64)) / (86400000 : Int64) * (86400000 : Int64)) + (1 : Int64))), .second, .val (.long (((q4 &&& (9223372036854775807 : Int64)) - (q4 &&& (9223372036854775807 : Int64)) / (86400000 : Int64) * (86400000 : Int64)) + (1 : Int64))), .second, .unset, .unset, .unset, .unset, .unset, .unset, .unset, .unset, .unset, .unset] [(.int (p5 &&& (2147483647 : Int32)))])) _
    refine XS.iconst X0.here hx rfl (hb hby at_55) ?_
    show Steps _ _ _ (s₁.setTop (mkF m 56 #[.val (.int p1), .val (.long q2), .second, .val (.long q3), .second, .val (.long q4), .second, .val (.int p5), .val (.int ((p1 &&& (2147483647 : Int32)) % (1001 : Int32))), .val (.long (((q2 &&& (9223372036854775807 : Int64)) - (q2 &&& (9223372036854775807 : Int64)) / (86400000 : Int64) * (86400000 : Int64)) + (1 : Int64))), .second, .val (.long (((q3 &&& (9223372036854775807 : Int64)) - (q3 &&& (9223372036854775807 : Int64)) / (86400000 : Int64) * (86400000 : Int64)) + (1 : Int64))), .second, .val (.long (((q4 &&& (9223372036854775807 : Int64)) - (q4 &&& (9223372036854775807 : Int64)) / (86400000 : Int64) * (86400000 : Int64)) + (1 : Int64))), .second, .unset, .unset, .unset, .unset, .unset, .unset, .unset, .unset, .unset, .unset] [(.int (3 : Int32)), (.int (p5 &&& (2147483647 : Int32)))])) _
    refine iremM X0 hx rfl (hb hby at_56) rfl (by decide) ?_
    show Steps _ _ _ (s₁.setTop (mkF m 57 #[.val (.int p1), .val (.long q2), .second, .val (.long q3), .second, .val (.long q4), .second, .val (.int p5), .val (.int ((p1 &&& (2147483647 : Int32)) % (1001 : Int32))), .val (.long (((q2 &&& (9223372036854775807 : Int64)) - (q2 &&& (9223372036854775807 : Int64)) / (86400000 : Int64) * (86400000 : Int64)) + (1 : Int64))), .second, .val (.long (((q3 &&& (9223372036854775807 : Int64)) - (q3 &&& (9223372036854775807 : Int64)) / (86400000 : Int64) * (86400000 : Int64)) + (1 : Int64))), .second, .val (.long (((q4 &&& (9223372036854775807 : Int64)) - (q4 &&& (9223372036854775807 : Int64)) / (86400000 : Int64) * (86400000 : Int64)) + (1 : Int64))), .second, .unset, .unset, .unset, .unset, .unset, .unset, .unset, .unset, .unset, .unset] [(.int ((p5 &&& (2147483647 : Int32)) % (3 : Int32)))])) _
    refine XS.iconst X0.here hx rfl (hb hby at_57) ?_
    show Steps _ _ _ (s₁.setTop (mkF m 58 #[.val (.int p1), .val (.long q2), .second, .val (.long q3), .second, .val (.long q4), .second, .val (.int p5), .val (.int ((p1 &&& (2147483647 : Int32)) % (1001 : Int32))), .val (.long (((q2 &&& (9223372036854775807 : Int64)) - (q2 &&& (9223372036854775807 : Int64)) / (86400000 : Int64) * (86400000 : Int64)) + (1 : Int64))), .second, .val (.long (((q3 &&& (9223372036854775807 : Int64)) - (q3 &&& (9223372036854775807 : Int64)) / (86400000 : Int64) * (86400000 : Int64)) + (1 : Int64))), .second, .val (.long (((q4 &&& (9223372036854775807 : Int64)) - (q4 &&& (9223372036854775807 : Int64)) / (86400000 : Int64) * (86400000 : Int64)) + (1 : Int64))), .second, .unset, .unset, .unset, .unset, .unset, .unset, .unset, .unset, .unset, .unset] [(.int (1 : Int32)), (.int ((p5 &&& (2147483647 : Int32)) % (3 : Int32)))])) _
    refine XS.iadd X0.here hx rfl (hb hby at_58) rfl ?_
    show Steps _ _ _ (s₁.setTop (mkF m 59 #[.val (.int p1), .val (.long q2), .second, .val (.long q3), .second, .val (.long q4), .second, .val (.int p5), .val (.int ((p1 &&& (2147483647 : Int32)) % (1001 : Int32))), .val (.long (((q2 &&& (9223372036854775807 : Int64)) - (q2 &&& (9223372036854775807 : Int64)) / (86400000 : Int64) * (86400000 : Int64)) + (1 : Int64))), .second, .val (.long (((q3 &&& (9223372036854775807 : Int64)) - (q3 &&& (9223372036854775807 : Int64)) / (86400000 : Int64) * (86400000 : Int64)) + (1 : Int64))), .second, .val (.long (((q4 &&& (9223372036854775807 : Int64)) - (q4 &&& (9223372036854775807 : Int64)) / (86400000 : Int64) * (86400000 : Int64)) + (1 : Int64))), .second, .unset, .unset, .unset, .unset, .unset, .unset, .unset, .unset, .unset, .unset] [(.int (((p5 &&& (2147483647 : Int32)) % (3 : Int32)) + (1 : Int32)))])) _
    refine XS.istore X0.here hx rfl (hb hby at_59) rfl (l' := #[.val (.int p1), .val (.long q2), .second, .val (.long q3), .second, .val (.long q4), .second, .val (.int p5), .val (.int ((p1 &&& (2147483647 : Int32)) % (1001 : Int32))), .val (.long (((q2 &&& (9223372036854775807 : Int64)) - (q2 &&& (9223372036854775807 : Int64)) / (86400000 : Int64) * (86400000 : Int64)) + (1 : Int64))), .second, .val (.long (((q3 &&& (9223372036854775807 : Int64)) - (q3 &&& (9223372036854775807 : Int64)) / (86400000 : Int64) * (86400000 : Int64)) + (1 : Int64))), .second, .val (.long (((q4 &&& (9223372036854775807 : Int64)) - (q4 &&& (9223372036854775807 : Int64)) / (86400000 : Int64) * (86400000 : Int64)) + (1 : Int64))), .second, .val (.int (((p5 &&& (2147483647 : Int32)) % (3 : Int32)) + (1 : Int32))), .unset, .unset, .unset, .unset, .unset, .unset, .unset, .unset, .unset]) rfl ?_
    exact k
  obtain ⟨rr, hrr⟩ : ∃ z, z = ((p1 &&& (2147483647 : Int32)) % (1001 : Int32)) := ⟨_, rfl⟩
  rw [← hrr] at go1
  obtain ⟨xa, hxa⟩ : ∃ z, z = (((q2 &&& (9223372036854775807 : Int64)) - (q2 &&& (9223372036854775807 : Int64)) / (86400000 : Int64) * (86400000 : Int64)) + (1 : Int64)) := ⟨_, rfl⟩
  rw [← hxa] at go1
  obtain ⟨xb, hxb⟩ : ∃ z, z = (((q3 &&& (9223372036854775807 : Int64)) - (q3 &&& (9223372036854775807 : Int64)) / (86400000 : Int64) * (86400000 : Int64)) + (1 : Int64)) := ⟨_, rfl⟩
  rw [← hxb] at go1
  obtain ⟨xc, hxc⟩ : ∃ z, z = (((q4 &&& (9223372036854775807 : Int64)) - (q4 &&& (9223372036854775807 : Int64)) / (86400000 : Int64) * (86400000 : Int64)) + (1 : Int64)) := ⟨_, rfl⟩
  rw [← hxc] at go1
  obtain ⟨cc, hcc⟩ : ∃ z, z = (((p5 &&& (2147483647 : Int32)) % (3 : Int32)) + (1 : Int32)) := ⟨_, rfl⟩
  rw [← hcc] at go1
  have Hr := own_r hrr
  have Ha := own_w hxa
  have Hb := own_w hxb
  have Hc := own_w hxc
  have Hcc := own_c hcc
  have go3 : Go p.tables e below s₁ (mkF m 62 (LW p1 q2 q3 q4 p5 rr xa xb xc cc .unset .unset .unset .unset .unset .unset .unset .unset .unset) [(.int (1 : Int32))]) s₁ (entryFrame m #[(.int p1), (.long q2), (.long q3), (.long q4), (.int p5)] maxLocals) := by
    intro t k
    refine go1 t ?_
    show Steps _ _ _ (s₁.setTop (mkF m 61 (LW p1 q2 q3 q4 p5 rr xa xb xc cc .unset .unset .unset .unset .unset .unset .unset .unset .unset) [])) _
    refine XS.iconst X0.here hx rfl (hb hby at_61) ?_
    exact k
  obtain ⟨T4, h4, k4, X4, e4, E4, A4, st4⟩ := newP X0 hx hZ (wk hw 3 rfl) e0 (g := (mkF m 62 (LW p1 q2 q3 q4 p5 rr xa xb xc cc .unset .unset .unset .unset .unset .unset .unset .unset .unset) [(.int (1 : Int32))])) rfl (hb hby at_62) rfl (by decide) (cap := 1) (by decide) (by decide) (by decide) (by decide)
  obtain ⟨b2, g4⟩ : ∃ z, z = h0.size := ⟨_, rfl⟩
  rw [← g4] at A4 st4
  have g_b2 : n0 ≤ b2 := Nat.le_trans Z0 (Nat.le_of_eq g4.symm)
  have sz_b2 : h0.size ≤ b2 := Nat.le_trans (Keep.refl h0 []).1 (Nat.le_of_eq g4.symm)
  have V_b2 : Arv Z h4 b2 k4 .long (1 : Int32) [(.long (0 : Int64))] (.long (0 : Int64)) := (Arv.new A4 (by decide)).pad (pad_rep [] (.long (0 : Int64)) 1)
  have go5 : Go p.tables e below T4 (mkF m 68 (LW p1 q2 q3 q4 p5 rr xa xb xc cc .unset .unset .unset .unset .unset .unset .unset .unset .unset) [(.long xa), (.int (0 : Int32)), (.ref b2), (.ref b2)]) s₁ (entryFrame m #[(.int p1), (.long q2), (.long q3), (.long q4), (.int p5)] maxLocals) := by
    intro t k
    refine go3 t ?_
    show Steps _ _ _ (s₁.setTop (mkF m 62 (LW p1 q2 q3 q4 p5 rr xa xb xc cc .unset .unset .unset .unset .unset .unset .unset .unset .unset) [(.int (1 : Int32))])) _
    refine st4 _ ?_
    show Steps _ _ _ (T4.setTop (mkF m 64 (LW p1 q2 q3 q4 p5 rr xa xb xc cc .unset .unset .unset .unset .unset .unset .unset .unset .unset) [(.ref b2)])) _
    refine XS.dup X4.here hx rfl (hb hby at_64) rfl rfl ?_
    show Steps _ _ _ (T4.setTop (mkF m 65 (LW p1 q2 q3 q4 p5 rr xa xb xc cc .unset .unset .unset .unset .unset .unset .unset .unset .unset) [(.ref b2), (.ref b2)])) _
    refine XS.iconst X4.here hx rfl (hb hby at_65) ?_
    show Steps _ _ _ (T4.setTop (mkF m 66 (LW p1 q2 q3 q4 p5 rr xa xb xc cc .unset .unset .unset .unset .unset .unset .unset .unset .unset) [(.int (0 : Int32)), (.ref b2), (.ref b2)])) _
    refine XS.lload X4.here hx rfl (hb hby at_66) rfl ?_
    exact k
  obtain ⟨cl6, Ar6, qa6, Sa6, Na6, Ha6, Ga6⟩ := id V_b2
  have hin6 : ¬ ((0 : Int32) < 0 ∨ cl6.slots.size ≤ ((0 : Int32)).toNatClampNeg) := inb_of Sa6 ⟨by decide, by decide⟩
  obtain ⟨T7, h7, X7, e7, W7, st7⟩ := stJ X4 hx hZ e4 Ar6 (j := (0 : Int32)) hin6 (g := (mkF m 68 (LW p1 q2 q3 q4 p5 rr xa xb xc cc .unset .unset .unset .unset .unset .unset .unset .unset .unset) [(.long xa), (.int (0 : Int32)), (.ref b2), (.ref b2)])) rfl rfl (hb hby at_68)
  have V7_b2 : Arv Z h7 b2 k4 .long (1 : Int32) [(.long xa)] (.long (0 : Int64)) := Arv.set Ar6 qa6 Sa6 Na6 Ha6 Ga6 rfl W7 0 rfl (Nat.le_of_ble_eq_true rfl)
  have N7 := Fr.snoc X7 N0 g_b2
  have go9 : Go p.tables e below T7 (mkF m 72 (LW p1 q2 q3 q4 p5 rr xa xb xc cc (.val (.ref b2)) .unset .unset .unset .unset .unset .unset .unset .unset) [(.int (2 : Int32))]) s₁ (entryFrame m #[(.int p1), (.long q2), (.long q3), (.long q4), (.int p5)] maxLocals) := by
    intro t k
    refine go5 t ?_
    show Steps _ _ _ (T4.setTop (mkF m 68 (LW p1 q2 q3 q4 p5 rr xa xb xc cc .unset .unset .unset .unset .unset .unset .unset .unset .unset) [(.long xa), (.int (0 : Int32)), (.ref b2), (.ref b2)])) _
    refine st7 _ ?_
    show Steps _ _ _ (T7.setTop (mkF m 69 (LW p1 q2 q3 q4 p5 rr xa xb xc cc .unset .unset .unset .unset .unset .unset .unset .unset .unset) [(.ref b2)])) _
    refine XS.astore X7.here hx rfl (hb hby at_69) rfl rfl (l' := (LW p1 q2 q3 q4 p5 rr xa xb xc cc (.val (.ref b2)) .unset .unset .unset .unset .unset .unset .unset .unset)) rfl ?_
    show Steps _ _ _ (T7.setTop (mkF m 71 (LW p1 q2 q3 q4 p5 rr xa xb xc cc (.val (.ref b2)) .unset .unset .unset .unset .unset .unset .unset .unset) [])) _
    refine XS.iconst X7.here hx rfl (hb hby at_71) ?_
    exact k
  have f8 : n0 ≤ h7.size := (Nat.le_trans (Nat.le_trans Z0 E4.1) (Keep.of_wr W7).1)
  have f10 : Keep h0 h7 [] := (((Keep.refl h0 []).ext E4).wr W7 (Or.inr sz_b2))
  obtain ⟨T12, h12, k12, X12, e12, E12, A12, st12⟩ := newP X7 hx hZ (wk hw 3 rfl) e7 (g := (mkF m 72 (LW p1 q2 q3 q4 p5 rr xa xb xc cc (.val (.ref b2)) .unset .unset .unset .unset .unset .unset .unset .unset) [(.int (2 : Int32))])) rfl (hb hby at_72) rfl (by decide) (cap := 2) (by decide) (by decide) (by decide) (by decide)
  obtain ⟨b11, g12⟩ : ∃ z, z = h7.size := ⟨_, rfl⟩
  rw [← g12] at A12 st12
  have ne_b2_b11 : b2 ≠ b11 := Nat.ne_of_lt (Nat.lt_of_lt_of_le V7_b2.lt (Nat.le_of_eq g12.symm))
  have g_b11 : n0 ≤ b11 := Nat.le_trans f8 (Nat.le_of_eq g12.symm)
  have sz_b11 : h0.size ≤ b11 := Nat.le_trans f10.1 (Nat.le_of_eq g12.symm)
  have V_b11 : Arv Z h12 b11 k12 .long (2 : Int32) [(.long (0 : Int64)), (.long (0 : Int64))] (.long (0 : Int64)) := (Arv.new A12 (by decide)).pad (pad_rep [] (.long (0 : Int64)) 2)
  have go13 : Go p.tables e below T12 (mkF m 78 (LW p1 q2 q3 q4 p5 rr xa xb xc cc (.val (.ref b2)) .unset .unset .unset .unset .unset .unset .unset .unset) [(.long xa), (.int (0 : Int32)), (.ref b11), (.ref b11)]) s₁ (entryFrame m #[(.int p1), (.long q2), (.long q3), (.long q4), (.int p5)] maxLocals) := by
    intro t k
    refine go9 t ?_
    show Steps _ _ _ (T7.setTop (mkF m 72 (LW p1 q2 q3 q4 p5 rr xa xb xc cc (.val (.ref b2)) .unset .unset .unset .unset .unset .unset .unset .unset) [(.int (2 : Int32))])) _
    refine st12 _ ?_
    show Steps _ _ _ (T12.setTop (mkF m 74 (LW p1 q2 q3 q4 p5 rr xa xb xc cc (.val (.ref b2)) .unset .unset .unset .unset .unset .unset .unset .unset) [(.ref b11)])) _
    refine XS.dup X12.here hx rfl (hb hby at_74) rfl rfl ?_
    show Steps _ _ _ (T12.setTop (mkF m 75 (LW p1 q2 q3 q4 p5 rr xa xb xc cc (.val (.ref b2)) .unset .unset .unset .unset .unset .unset .unset .unset) [(.ref b11), (.ref b11)])) _
    refine XS.iconst X12.here hx rfl (hb hby at_75) ?_
    show Steps _ _ _ (T12.setTop (mkF m 76 (LW p1 q2 q3 q4 p5 rr xa xb xc cc (.val (.ref b2)) .unset .unset .unset .unset .unset .unset .unset .unset) [(.int (0 : Int32)), (.ref b11), (.ref b11)])) _
    refine XS.lload X12.here hx rfl (hb hby at_76) rfl ?_
    exact k
  obtain ⟨cl14, Ar14, qa14, Sa14, Na14, Ha14, Ga14⟩ := id V_b11
  have hin14 : ¬ ((0 : Int32) < 0 ∨ cl14.slots.size ≤ ((0 : Int32)).toNatClampNeg) := inb_of Sa14 ⟨by decide, by decide⟩
  obtain ⟨T15, h15, X15, e15, W15, st15⟩ := stJ X12 hx hZ e12 Ar14 (j := (0 : Int32)) hin14 (g := (mkF m 78 (LW p1 q2 q3 q4 p5 rr xa xb xc cc (.val (.ref b2)) .unset .unset .unset .unset .unset .unset .unset .unset) [(.long xa), (.int (0 : Int32)), (.ref b11), (.ref b11)])) rfl rfl (hb hby at_78)
  have V15_b11 : Arv Z h15 b11 k12 .long (2 : Int32) [(.long xa), (.long (0 : Int64))] (.long (0 : Int64)) := Arv.set Ar14 qa14 Sa14 Na14 Ha14 Ga14 rfl W15 0 rfl (Nat.le_of_ble_eq_true rfl)
  have N15 := Fr.snoc X15 N7 g_b11
  have go16 : Go p.tables e below T15 (mkF m 83 (LW p1 q2 q3 q4 p5 rr xa xb xc cc (.val (.ref b2)) .unset .unset .unset .unset .unset .unset .unset .unset) [(.long xb), (.int (1 : Int32)), (.ref b11), (.ref b11)]) s₁ (entryFrame m #[(.int p1), (.long q2), (.long q3), (.long q4), (.int p5)] maxLocals) := by
    intro t k
    refine go13 t ?_
    show Steps _ _ _ (T12.setTop (mkF m 78 (LW p1 q2 q3 q4 p5 rr xa xb xc cc (.val (.ref b2)) .unset .unset .unset .unset .unset .unset .unset .unset) [(.long xa), (.int (0 : Int32)), (.ref b11), (.ref b11)])) _
    refine st15 _ ?_
    show Steps _ _ _ (T15.setTop (mkF m 79 (LW p1 q2 q3 q4 p5 rr xa xb xc cc (.val (.ref b2)) .unset .unset .unset .unset .unset .unset .unset .unset) [(.ref b11)])) _
    refine XS.dup X15.here hx rfl (hb hby at_79) rfl rfl ?_
    show Steps _ _ _ (T15.setTop (mkF m 80 (LW p1 q2 q3 q4 p5 rr xa xb xc cc (.val (.ref b2)) .unset .unset .unset .unset .unset .unset .unset .unset) [(.ref b11), (.ref b11)])) _
    refine XS.iconst X15.here hx rfl (hb hby at_80) ?_
    show Steps _ _ _ (T15.setTop (mkF m 81 (LW p1 q2 q3 q4 p5 rr xa xb xc cc (.val (.ref b2)) .unset .unset .unset .unset .unset .unset .unset .unset) [(.int (1 : Int32)), (.ref b11), (.ref b11)])) _
    refine XS.lload X15.here hx rfl (hb hby at_81) rfl ?_
    exact k
  obtain ⟨cl17, Ar17, qa17, Sa17, Na17, Ha17, Ga17⟩ := id V15_b11
  have hin17 : ¬ ((1 : Int32) < 0 ∨ cl17.slots.size ≤ ((1 : Int32)).toNatClampNeg) := inb_of Sa17 ⟨by decide, by decide⟩
  obtain ⟨T18, h18, X18, e18, W18, st18⟩ := stJ X15 hx hZ e15 Ar17 (j := (1 : Int32)) hin17 (g := (mkF m 83 (LW p1 q2 q3 q4 p5 rr xa xb xc cc (.val (.ref b2)) .unset .unset .unset .unset .unset .unset .unset .unset) [(.long xb), (.int (1 : Int32)), (.ref b11), (.ref b11)])) rfl rfl (hb hby at_83)
  have V18_b11 : Arv Z h18 b11 k12 .long (2 : Int32) [(.long xa), (.long xb)] (.long (0 : Int64)) := Arv.set Ar17 qa17 Sa17 Na17 Ha17 Ga17 rfl W18 1 rfl (Nat.le_of_ble_eq_true rfl)
  have N18 := Fr.snoc X18 N15 g_b11
  have go20 : Go p.tables e below T18 (mkF m 87 (LW p1 q2 q3 q4 p5 rr xa xb xc cc (.val (.ref b2)) (.val (.ref b11)) .unset .unset .unset .unset .unset .unset .unset) [(.int (3 : Int32))]) s₁ (entryFrame m #[(.int p1), (.long q2), (.long q3), (.long q4), (.int p5)] maxLocals) := by
    intro t k
    refine go16 t ?_
    show Steps _ _ _ (T15.setTop (mkF m 83 (LW p1 q2 q3 q4 p5 rr xa xb xc cc (.val (.ref b2)) .unset .unset .unset .unset .unset .unset .unset .unset) [(.long xb), (.int (1 : Int32)), (.ref b11), (.ref b11)])) _
    refine st18 _ ?_
    show Steps _ _ _ (T18.setTop (mkF m 84 (LW p1 q2 q3 q4 p5 rr xa xb xc cc (.val (.ref b2)) .unset .unset .unset .unset .unset .unset .unset .unset) [(.ref b11)])) _
    refine XS.astore X18.here hx rfl (hb hby at_84) rfl rfl (l' := (LW p1 q2 q3 q4 p5 rr xa xb xc cc (.val (.ref b2)) (.val (.ref b11)) .unset .unset .unset .unset .unset .unset .unset)) rfl ?_
    show Steps _ _ _ (T18.setTop (mkF m 86 (LW p1 q2 q3 q4 p5 rr xa xb xc cc (.val (.ref b2)) (.val (.ref b11)) .unset .unset .unset .unset .unset .unset .unset) [])) _
    refine XS.iconst X18.here hx rfl (hb hby at_86) ?_
    exact k
  have f19 : n0 ≤ h18.size := (Nat.le_trans (Nat.le_trans (Nat.le_trans f8 E12.1) (Keep.of_wr W15).1) (Keep.of_wr W18).1)
  have f21 : Keep h0 h18 [] := (((f10.ext E12).wr W15 (Or.inr sz_b11)).wr W18 (Or.inr sz_b11))
  have f23 : Arv Z h18 b2 k4 .long (1 : Int32) [(.long xa)] (.long (0 : Int64)) := (((V7_b2.ext E12).other W15 ne_b2_b11).other W18 ne_b2_b11)
  obtain ⟨T24, h24, k24, X24, e24, E24, A24, st24⟩ := newP X18 hx hZ (wk hw 3 rfl) e18 (g := (mkF m 87 (LW p1 q2 q3 q4 p5 rr xa xb xc cc (.val (.ref b2)) (.val (.ref b11)) .unset .unset .unset .unset .unset .unset .unset) [(.int (3 : Int32))])) rfl (hb hby at_87) rfl (by decide) (cap := 3) (by decide) (by decide) (by decide) (by decide)
  obtain ⟨b22, g24⟩ : ∃ z, z = h18.size := ⟨_, rfl⟩
  rw [← g24] at A24 st24
  have ne_b2_b22 : b2 ≠ b22 := Nat.ne_of_lt (Nat.lt_of_lt_of_le f23.lt (Nat.le_of_eq g24.symm))
  have ne_b11_b22 : b11 ≠ b22 := Nat.ne_of_lt (Nat.lt_of_lt_of_le V18_b11.lt (Nat.le_of_eq g24.symm))
  have g_b22 : n0 ≤ b22 := Nat.le_trans f19 (Nat.le_of_eq g24.symm)
  have sz_b22 : h0.size ≤ b22 := Nat.le_trans f21.1 (Nat.le_of_eq g24.symm)
  have V_b22 : Arv Z h24 b22 k24 .long (3 : Int32) [(.long (0 : Int64)), (.long (0 : Int64)), (.long (0 : Int64))] (.long (0 : Int64)) := (Arv.new A24 (by decide)).pad (pad_rep [] (.long (0 : Int64)) 3)
  have go25 : Go p.tables e below T24 (mkF m 93 (LW p1 q2 q3 q4 p5 rr xa xb xc cc (.val (.ref b2)) (.val (.ref b11)) .unset .unset .unset .unset .unset .unset .unset) [(.long xa), (.int (0 : Int32)), (.ref b22), (.ref b22)]) s₁ (entryFrame m #[(.int p1), (.long q2), (.long q3), (.long q4), (.int p5)] maxLocals) := by
    intro t k
    refine go20 t ?_
    show Steps _ _ _ (T18.setTop (mkF m 87 (LW p1 q2 q3 q4 p5 rr xa xb xc cc (.val (.ref b2)) (.val (.ref b11)) .unset .unset .unset .unset .unset .unset .unset) [(.int (3 : Int32))])) _
    refine st24 _ ?_
    show Steps _ _ _ (T24.setTop (mkF m 89 (LW p1 q2 q3 q4 p5 rr xa xb xc cc (.val (.ref b2)) (.val (.ref b11)) .unset .unset .unset .unset .unset .unset .unset) [(.ref b22)])) _
    refine XS.dup X24.here hx rfl (hb hby at_89) rfl rfl ?_
    show Steps _ _ _ (T24.setTop (mkF m 90 (LW p1 q2 q3 q4 p5 rr xa xb xc cc (.val (.ref b2)) (.val (.ref b11)) .unset .unset .unset .unset .unset .unset .unset) [(.ref b22), (.ref b22)])) _
    refine XS.iconst X24.here hx rfl (hb hby at_90) ?_
    show Steps _ _ _ (T24.setTop (mkF m 91 (LW p1 q2 q3 q4 p5 rr xa xb xc cc (.val (.ref b2)) (.val (.ref b11)) .unset .unset .unset .unset .unset .unset .unset) [(.int (0 : Int32)), (.ref b22), (.ref b22)])) _
    refine XS.lload X24.here hx rfl (hb hby at_91) rfl ?_
    exact k
  obtain ⟨cl26, Ar26, qa26, Sa26, Na26, Ha26, Ga26⟩ := id V_b22
  have hin26 : ¬ ((0 : Int32) < 0 ∨ cl26.slots.size ≤ ((0 : Int32)).toNatClampNeg) := inb_of Sa26 ⟨by decide, by decide⟩
  obtain ⟨T27, h27, X27, e27, W27, st27⟩ := stJ X24 hx hZ e24 Ar26 (j := (0 : Int32)) hin26 (g := (mkF m 93 (LW p1 q2 q3 q4 p5 rr xa xb xc cc (.val (.ref b2)) (.val (.ref b11)) .unset .unset .unset .unset .unset .unset .unset) [(.long xa), (.int (0 : Int32)), (.ref b22), (.ref b22)])) rfl rfl (hb hby at_93)
  have V27_b22 : Arv Z h27 b22 k24 .long (3 : Int32) [(.long xa), (.long (0 : Int64)), (.long (0 : Int64))] (.long (0 : Int64)) := Arv.set Ar26 qa26 Sa26 Na26 Ha26 Ga26 rfl W27 0 rfl (Nat.le_of_ble_eq_true rfl)
  have N27 := Fr.snoc X27 N18 g_b22
  have go28 : Go p.tables e below T27 (mkF m 98 (LW p1 q2 q3 q4 p5 rr xa xb xc cc (.val (.ref b2)) (.val (.ref b11)) .unset .unset .unset .unset .unset .unset .unset) [(.long xb), (.int (1 : Int32)), (.ref b22), (.ref b22)]) s₁ (entryFrame m #[(.int p1), (.long q2), (.long q3), (.long q4), (.int p5)] maxLocals) := by
    intro t k
    refine go25 t ?_
    show Steps _ _ _ (T24.setTop (mkF m 93 (LW p1 q2 q3 q4 p5 rr xa xb xc cc (.val (.ref b2)) (.val (.ref b11)) .unset .unset .unset .unset .unset .unset .unset) [(.long xa), (.int (0 : Int32)), (.ref b22), (.ref b22)])) _
    refine st27 _ ?_
    show Steps _ _ _ (T27.setTop (mkF m 94 (LW p1 q2 q3 q4 p5 rr xa xb xc cc (.val (.ref b2)) (.val (.ref b11)) .unset .unset .unset .unset .unset .unset .unset) [(.ref b22)])) _
    refine XS.dup X27.here hx rfl (hb hby at_94) rfl rfl ?_
    show Steps _ _ _ (T27.setTop (mkF m 95 (LW p1 q2 q3 q4 p5 rr xa xb xc cc (.val (.ref b2)) (.val (.ref b11)) .unset .unset .unset .unset .unset .unset .unset) [(.ref b22), (.ref b22)])) _
    refine XS.iconst X27.here hx rfl (hb hby at_95) ?_
    show Steps _ _ _ (T27.setTop (mkF m 96 (LW p1 q2 q3 q4 p5 rr xa xb xc cc (.val (.ref b2)) (.val (.ref b11)) .unset .unset .unset .unset .unset .unset .unset) [(.int (1 : Int32)), (.ref b22), (.ref b22)])) _
    refine XS.lload X27.here hx rfl (hb hby at_96) rfl ?_
    exact k
  obtain ⟨cl29, Ar29, qa29, Sa29, Na29, Ha29, Ga29⟩ := id V27_b22
  have hin29 : ¬ ((1 : Int32) < 0 ∨ cl29.slots.size ≤ ((1 : Int32)).toNatClampNeg) := inb_of Sa29 ⟨by decide, by decide⟩
  obtain ⟨T30, h30, X30, e30, W30, st30⟩ := stJ X27 hx hZ e27 Ar29 (j := (1 : Int32)) hin29 (g := (mkF m 98 (LW p1 q2 q3 q4 p5 rr xa xb xc cc (.val (.ref b2)) (.val (.ref b11)) .unset .unset .unset .unset .unset .unset .unset) [(.long xb), (.int (1 : Int32)), (.ref b22), (.ref b22)])) rfl rfl (hb hby at_98)
  have V30_b22 : Arv Z h30 b22 k24 .long (3 : Int32) [(.long xa), (.long xb), (.long (0 : Int64))] (.long (0 : Int64)) := Arv.set Ar29 qa29 Sa29 Na29 Ha29 Ga29 rfl W30 1 rfl (Nat.le_of_ble_eq_true rfl)
  have N30 := Fr.snoc X30 N27 g_b22
  have go31 : Go p.tables e below T30 (mkF m 103 (LW p1 q2 q3 q4 p5 rr xa xb xc cc (.val (.ref b2)) (.val (.ref b11)) .unset .unset .unset .unset .unset .unset .unset) [(.long xc), (.int (2 : Int32)), (.ref b22), (.ref b22)]) s₁ (entryFrame m #[(.int p1), (.long q2), (.long q3), (.long q4), (.int p5)] maxLocals) := by
    intro t k
    refine go28 t ?_
    show Steps _ _ _ (T27.setTop (mkF m 98 (LW p1 q2 q3 q4 p5 rr xa xb xc cc (.val (.ref b2)) (.val (.ref b11)) .unset .unset .unset .unset .unset .unset .unset) [(.long xb), (.int (1 : Int32)), (.ref b22), (.ref b22)])) _
    refine st30 _ ?_
    show Steps _ _ _ (T30.setTop (mkF m 99 (LW p1 q2 q3 q4 p5 rr xa xb xc cc (.val (.ref b2)) (.val (.ref b11)) .unset .unset .unset .unset .unset .unset .unset) [(.ref b22)])) _
    refine XS.dup X30.here hx rfl (hb hby at_99) rfl rfl ?_
    show Steps _ _ _ (T30.setTop (mkF m 100 (LW p1 q2 q3 q4 p5 rr xa xb xc cc (.val (.ref b2)) (.val (.ref b11)) .unset .unset .unset .unset .unset .unset .unset) [(.ref b22), (.ref b22)])) _
    refine XS.iconst X30.here hx rfl (hb hby at_100) ?_
    show Steps _ _ _ (T30.setTop (mkF m 101 (LW p1 q2 q3 q4 p5 rr xa xb xc cc (.val (.ref b2)) (.val (.ref b11)) .unset .unset .unset .unset .unset .unset .unset) [(.int (2 : Int32)), (.ref b22), (.ref b22)])) _
    refine XS.lload X30.here hx rfl (hb hby at_101) rfl ?_
    exact k
  obtain ⟨cl32, Ar32, qa32, Sa32, Na32, Ha32, Ga32⟩ := id V30_b22
  have hin32 : ¬ ((2 : Int32) < 0 ∨ cl32.slots.size ≤ ((2 : Int32)).toNatClampNeg) := inb_of Sa32 ⟨by decide, by decide⟩
  obtain ⟨T33, h33, X33, e33, W33, st33⟩ := stJ X30 hx hZ e30 Ar32 (j := (2 : Int32)) hin32 (g := (mkF m 103 (LW p1 q2 q3 q4 p5 rr xa xb xc cc (.val (.ref b2)) (.val (.ref b11)) .unset .unset .unset .unset .unset .unset .unset) [(.long xc), (.int (2 : Int32)), (.ref b22), (.ref b22)])) rfl rfl (hb hby at_103)
  have V33_b22 : Arv Z h33 b22 k24 .long (3 : Int32) [(.long xa), (.long xb), (.long xc)] (.long (0 : Int64)) := Arv.set Ar32 qa32 Sa32 Na32 Ha32 Ga32 rfl W33 2 rfl (Nat.le_of_ble_eq_true rfl)
  have N33 := Fr.snoc X33 N30 g_b22
  have go34 : Go p.tables e below T33 (mkF m 109 (LW p1 q2 q3 q4 p5 rr xa xb xc cc (.val (.ref b2)) (.val (.ref b11)) (.val (.ref b22)) .unset .unset .unset .unset .unset .unset) [(.int (1 : Int32)), (.int cc)]) s₁ (entryFrame m #[(.int p1), (.long q2), (.long q3), (.long q4), (.int p5)] maxLocals) := by
    intro t k
    refine go31 t ?_
    show Steps _ _ _ (T30.setTop (mkF m 103 (LW p1 q2 q3 q4 p5 rr xa xb xc cc (.val (.ref b2)) (.val (.ref b11)) .unset .unset .unset .unset .unset .unset .unset) [(.long xc), (.int (2 : Int32)), (.ref b22), (.ref b22)])) _
    refine st33 _ ?_
    show Steps _ _ _ (T33.setTop (mkF m 104 (LW p1 q2 q3 q4 p5 rr xa xb xc cc (.val (.ref b2)) (.val (.ref b11)) .unset .unset .unset .unset .unset .unset .unset) [(.ref b22)])) _
    refine XS.astore X33.here hx rfl (hb hby at_104) rfl rfl (l' := (LW p1 q2 q3 q4 p5 rr xa xb xc cc (.val (.ref b2)) (.val (.ref b11)) (.val (.ref b22)) .unset .unset .unset .unset .unset .unset)) rfl ?_
    show Steps _ _ _ (T33.setTop (mkF m 106 (LW p1 q2 q3 q4 p5 rr xa xb xc cc (.val (.ref b2)) (.val (.ref b11)) (.val (.ref b22)) .unset .unset .unset .unset .unset .unset) [])) _
    refine XS.iload X33.here hx rfl (hb hby at_106) rfl ?_
    show Steps _ _ _ (T33.setTop (mkF m 108 (LW p1 q2 q3 q4 p5 rr xa xb xc cc (.val (.ref b2)) (.val (.ref b11)) (.val (.ref b22)) .unset .unset .unset .unset .unset .unset) [(.int cc)])) _
    refine XS.iconst X33.here hx rfl (hb hby at_108) ?_
    exact k
  by_cases hc109 : cc = (1 : Int32)
  · skip
    have go36 : Go p.tables e below T33 (mkF m 136 (LW p1 q2 q3 q4 p5 rr xa xb xc cc (.val (.ref b2)) (.val (.ref b11)) (.val (.ref b22)) (.val (.ref b2)) .unset .unset .unset .unset .unset) [(.ref b2), (.int rr)]) s₁ (entryFrame m #[(.int p1), (.long q2), (.long q3), (.long q4), (.int p5)] maxLocals) := by
      intro t k
      refine go34 t ?_
      show Steps _ _ _ (T33.setTop (mkF m 109 (LW p1 q2 q3 q4 p5 rr xa xb xc cc (.val (.ref b2)) (.val (.ref b11)) (.val (.ref b22)) .unset .unset .unset .unset .unset .unset) [(.int (1 : Int32)), (.int cc)])) _
      refine XS.icmpNo X33.here hx rfl (hb hby at_109) rfl (teq hc109).2 ?_
      show Steps _ _ _ (T33.setTop (mkF m 112 (LW p1 q2 q3 q4 p5 rr xa xb xc cc (.val (.ref b2)) (.val (.ref b11)) (.val (.ref b22)) .unset .unset .unset .unset .unset .unset) [])) _
      refine XS.aload X33.here hx rfl (hb hby at_112) rfl rfl ?_
      show Steps _ _ _ (T33.setTop (mkF m 114 (LW p1 q2 q3 q4 p5 rr xa xb xc cc (.val (.ref b2)) (.val (.ref b11)) (.val (.ref b22)) .unset .unset .unset .unset .unset .unset) [(.ref b2)])) _
      refine XS.goto X33.here hx rfl (pc0 := 114) (pc' := 130) rfl (hb hby at_114) (by decide) (by decide) ?_
      show Steps _ _ _ (T33.setTop (mkF m 130 (LW p1 q2 q3 q4 p5 rr xa xb xc cc (.val (.ref b2)) (.val (.ref b11)) (.val (.ref b22)) .unset .unset .unset .unset .unset .unset) [(.ref b2)])) _
      refine XS.astore X33.here hx rfl (hb hby at_130) rfl rfl (l' := (LW p1 q2 q3 q4 p5 rr xa xb xc cc (.val (.ref b2)) (.val (.ref b11)) (.val (.ref b22)) (.val (.ref b2)) .unset .unset .unset .unset .unset)) rfl ?_
      show Steps _ _ _ (T33.setTop (mkF m 132 (LW p1 q2 q3 q4 p5 rr xa xb xc cc (.val (.ref b2)) (.val (.ref b11)) (.val (.ref b22)) (.val (.ref b2)) .unset .unset .unset .unset .unset) [])) _
      refine XS.iload X33.here hx rfl (hb hby at_132) rfl ?_
      show Steps _ _ _ (T33.setTop (mkF m 134 (LW p1 q2 q3 q4 p5 rr xa xb xc cc (.val (.ref b2)) (.val (.ref b11)) (.val (.ref b22)) (.val (.ref b2)) .unset .unset .unset .unset .unset) [(.int rr)])) _
      refine XS.aload X33.here hx rfl (hb hby at_134) rfl rfl ?_
      exact k
    have f35 : Arv Z h33 b2 k4 .long (1 : Int32) [(.long xa)] (.long (0 : Int64)) := ((((f23.ext E24).other W27 ne_b2_b22).other W30 ne_b2_b22).other W33 ne_b2_b22)
    have f38 : n0 ≤ h33.size := (Nat.le_trans (Nat.le_trans (Nat.le_trans (Nat.le_trans f19 E24.1) (Keep.of_wr W27).1) (Keep.of_wr W30).1) (Keep.of_wr W33).1)
    have f39 : Keep h0 h33 [] := ((((f21.ext E24).wr W27 (Or.inr sz_b22)).wr W30 (Or.inr sz_b22)).wr W33 (Or.inr sz_b22))
    obtain ⟨_, _, ⟨T37, L37, k37, n37⟩, -, X37, ⟨Lc37, hQ37, l37, y37, z37⟩, st37⟩ := Jvm.LawKit.callS X33 hx (y := (⟨"com/example/nackoff/nackoff/RetryPolicy", "of", "(I[J)Lcom/example/nackoff/nackoff/RetryPolicy;"⟩ : MethodName)) hown (mvT hZ (wk hw 4 rfl)) (mvT hZ (wk hw 5 rfl)) (mvT hZ (wk hw 6 rfl)) (mvT hZ (wk hw 7 rfl)) (by decide) (backOf (W := 0) (rm1_1 l Z a0 hw [] rr b2 k4 xa wC clC wL mA mL mR h33 n0 f38 Hr.1 Hr.2 f35 Ha (own_LCext (own_ext0 f39) HC) (S_L.ext (own_ext0 f39)) MA ML MR hmL hmR) hZ (wk hw 7 rfl) (wk hw 6 rfl) (by decide) (by decide)) (g := (mkF m 136 (LW p1 q2 q3 q4 p5 rr xa xb xc cc (.val (.ref b2)) (.val (.ref b11)) (.val (.ref b22)) (.val (.ref b2)) .unset .unset .unset .unset .unset) [(.ref b2), (.int rr)])) rfl (by rw [hml]; rfl) (argsL := [(.int rr), (.ref b2)]) (rest := []) (lenOf pd_16 rfl) rfl (by show 2 * 0 + _ ≤ _; exact Nat.le_of_eq rfl) (hb hby at_136) (fun _ _ => ⟨rfl, e33, (by decide : 3 + 5 ≤ _), (by decide : 6 + 10 ≤ _)⟩)
    dsimp only [Pt.U, Pt.locs, Pt.cells, Pt.slots] at X37 l37 y37 z37 st37 hQ37
    subst l37 y37 z37
    obtain ⟨b37, wa37, al37, ea37, kE37, y1_37, rfl, N37q, K37, s137, s237, s337, s437, Ep37, Fr37, Fw37, B37, Ea37, Fs37, Fe37, Vx37, Ey1_37, Fy1_37⟩ := hQ37
    have N37 := Fr.app N33 N37q
    have f40 : Arv Z T37.heap b2 k4 .long (1 : Int32) [(.long xa)] (.long (0 : Int64)) := (f35.keep K37 nin0)
    have ne_y1_37 : y1_37 ≠ b2 := Exa.neArv Ey1_37 f40 (wk hw 188 rfl)
    have go41 : Go p.tables e below T37 (mkF m 145 (LW p1 q2 q3 q4 p5 rr xa xb xc cc (.val (.ref b2)) (.val (.ref b11)) (.val (.ref b22)) (.val (.ref b2)) (.val (.ref b37)) .unset .unset .unset .unset) [(.long (0 : Int64)), (.int (0 : Int32)), (.ref b2)]) s₁ (entryFrame m #[(.int p1), (.long q2), (.long q3), (.long q4), (.int p5)] maxLocals) := by
      intro t k
      refine go36 t ?_
      show Steps _ _ _ (T33.setTop (mkF m 136 (LW p1 q2 q3 q4 p5 rr xa xb xc cc (.val (.ref b2)) (.val (.ref b11)) (.val (.ref b22)) (.val (.ref b2)) .unset .unset .unset .unset .unset) [(.ref b2), (.int rr)])) _
      refine st37 _ ?_
      show Steps _ _ _ (T37.setTop (mkF m 139 (LW p1 q2 q3 q4 p5 rr xa xb xc cc (.val (.ref b2)) (.val (.ref b11)) (.val (.ref b22)) (.val (.ref b2)) .unset .unset .unset .unset .unset) [(.ref b37)])) _
      refine XS.astore X37.here hx rfl (hb hby at_139) rfl rfl (l' := (LW p1 q2 q3 q4 p5 rr xa xb xc cc (.val (.ref b2)) (.val (.ref b11)) (.val (.ref b22)) (.val (.ref b2)) (.val (.ref b37)) .unset .unset .unset .unset)) rfl ?_
      show Steps _ _ _ (T37.setTop (mkF m 141 (LW p1 q2 q3 q4 p5 rr xa xb xc cc (.val (.ref b2)) (.val (.ref b11)) (.val (.ref b22)) (.val (.ref b2)) (.val (.ref b37)) .unset .unset .unset .unset) [])) _
      refine XS.aload X37.here hx rfl (hb hby at_141) rfl rfl ?_
      show Steps _ _ _ (T37.setTop (mkF m 143 (LW p1 q2 q3 q4 p5 rr xa xb xc cc (.val (.ref b2)) (.val (.ref b11)) (.val (.ref b22)) (.val (.ref b2)) (.val (.ref b37)) .unset .unset .unset .unset) [(.ref b2)])) _
      refine XS.iconst X37.here hx rfl (hb hby at_143) ?_
      show Steps _ _ _ (T37.setTop (mkF m 144 (LW p1 q2 q3 q4 p5 rr xa xb xc cc (.val (.ref b2)) (.val (.ref b11)) (.val (.ref b22)) (.val (.ref b2)) (.val (.ref b37)) .unset .unset .unset .unset) [(.int (0 : Int32)), (.ref b2)])) _
      refine XS.lconst X37.here hx rfl (hb hby at_144) ?_
      exact k
    obtain ⟨cl42, Ar42, qa42, Sa42, Na42, Ha42, Ga42⟩ := id f40
    have hin42 : ¬ ((0 : Int32) < 0 ∨ cl42.slots.size ≤ ((0 : Int32)).toNatClampNeg) := inb_of Sa42 ⟨by decide, by decide⟩
    obtain ⟨T43, h43, X43, e43, W43, st43⟩ := stJ X37 hx hZ rfl Ar42 (j := (0 : Int32)) hin42 (g := (mkF m 145 (LW p1 q2 q3 q4 p5 rr xa xb xc cc (.val (.ref b2)) (.val (.ref b11)) (.val (.ref b22)) (.val (.ref b2)) (.val (.ref b37)) .unset .unset .unset .unset) [(.long (0 : Int64)), (.int (0 : Int32)), (.ref b2)])) rfl rfl (hb hby at_145)
    have V43_b2 : Arv Z h43 b2 k4 .long (1 : Int32) [(.long (0 : Int64))] (.long (0 : Int64)) := Arv.set Ar42 qa42 Sa42 Na42 Ha42 Ga42 rfl W43 0 rfl (Nat.le_of_ble_eq_true rfl)
    have N43 := Fr.snoc X43 N37 g_b2
    have go46 : Go p.tables e below T43 (mkF m 148 (LW p1 q2 q3 q4 p5 rr xa xb xc cc (.val (.ref b2)) (.val (.ref b11)) (.val (.ref b22)) (.val (.ref b2)) (.val (.ref b37)) .unset .unset .unset .unset) [(.ref b37)]) s₁ (entryFrame m #[(.int p1), (.long q2), (.long q3), (.long q4), (.int p5)] maxLocals) := by
      intro t k
      refine go41 t ?_
      show Steps _ _ _ (T37.setTop (mkF m 145 (LW p1 q2 q3 q4 p5 rr xa xb xc cc (.val (.ref b2)) (.val (.ref b11)) (.val (.ref b22)) (.val (.ref b2)) (.val (.ref b37)) .unset .unset .unset .unset) [(.long (0 : Int64)), (.int (0 : Int32)), (.ref b2)])) _
      refine st43 _ ?_
      show Steps _ _ _ (T43.setTop (mkF m 146 (LW p1 q2 q3 q4 p5 rr xa xb xc cc (.val (.ref b2)) (.val (.ref b11)) (.val (.ref b22)) (.val (.ref b2)) (.val (.ref b37)) .unset .unset .unset .unset) [])) _
      refine XS.aload X43.here hx rfl (hb hby at_146) rfl rfl ?_
      exact k
    have f45 : n0 ≤ h43.size := (Nat.le_trans (Nat.le_trans f38 K37.1) (Keep.of_wr W43).1)
    have f47 : Fld Z h43 b37 "com/example/nackoff/nackoff/RetryPolicy" "retries" "I" (.int rr) := (Fr37.other W43 (Or.inl (Ne.symm (Nat.ne_of_lt (Nat.lt_of_lt_of_le f35.lt s137)))))
    have f48 : Exa Z h43 b37 "com/example/nackoff/nackoff/RetryPolicy" := (Ep37.wr W43)
    obtain ⟨cq44, kq44, q44a, q44b, q44c⟩ := isOf hZ e43 f48
    obtain ⟨_, _, ⟨T44, L44, k44, n44⟩, -, X44, ⟨Lc44, hQ44, l44, y44, z44⟩, st44⟩ := X43.virtualBack hx (y := (⟨"com/example/nackoff/nackoff/RetryPolicy", "retries", "()I"⟩ : MethodName)) (z := (⟨"com/example/nackoff/nackoff/RetryPolicy", "retries", "()I"⟩ : MethodName)) hown (mvT hZ (wk hw 123 rfl)) (mvT hZ (wk hw 124 rfl)) (notFace_of_selects (args := #[]) (mvT hZ (wk hw 126 rfl))) (mvT hZ (wk hw 126 rfl)) (mvT hZ (wk hw 125 rfl)) (by decide) (backOf (W := 0) (rm15 l Z a0 hw [] b37 rr h43 n0 f45 f47) hZ (wk hw 127 rfl) (wk hw 6 rfl) (by decide) (by decide)) q44a q44c (g := (mkF m 148 (LW p1 q2 q3 q4 p5 rr xa xb xc cc (.val (.ref b2)) (.val (.ref b11)) (.val (.ref b22)) (.val (.ref b2)) (.val (.ref b37)) .unset .unset .unset .unset) [(.ref b37)])) rfl (by rw [hml]; rfl) (Steps.refl _) (argsL := []) (rest := []) (lenOf pd_8 rfl) rfl (by show 2 * 0 + _ ≤ _; exact Nat.le_of_eq rfl) (hb hby at_148) (fun _ _ => ⟨rfl, e43, (by decide : 8 + 0 ≤ _), (by decide : 16 + 0 ≤ _)⟩)
    dsimp only [Pt.U, Pt.locs, Pt.cells, Pt.slots] at X44 l44 y44 z44 st44 hQ44
    subst l44 y44 z44
    obtain ⟨rfl, N44q, e44⟩ := hQ44
    have N44 := Fr.app N43 N44q
    have go51 : Go p.tables e below T44 (mkF m 160 (LW p1 q2 q3 q4 p5 rr xa xb xc cc (.val (.ref b2)) (.val (.ref b11)) (.val (.ref b22)) (.val (.ref b2)) (.val (.ref b37)) .unset .unset .unset .unset) [(.ref b37)]) s₁ (entryFrame m #[(.int p1), (.long q2), (.long q3), (.long q4), (.int p5)] maxLocals) := by
      intro t k
      refine go46 t ?_
      show Steps _ _ _ (T43.setTop (mkF m 148 (LW p1 q2 q3 q4 p5 rr xa xb xc cc (.val (.ref b2)) (.val (.ref b11)) (.val (.ref b22)) (.val (.ref b2)) (.val (.ref b37)) .unset .unset .unset .unset) [(.ref b37)])) _
      refine st44.trans ?_
      show Steps _ _ _ (T44.setTop (mkF m 151 (LW p1 q2 q3 q4 p5 rr xa xb xc cc (.val (.ref b2)) (.val (.ref b11)) (.val (.ref b22)) (.val (.ref b2)) (.val (.ref b37)) .unset .unset .unset .unset) [(.int rr)])) _
      refine XS.iload X44.here hx rfl (hb hby at_151) rfl ?_
      show Steps _ _ _ (T44.setTop (mkF m 153 (LW p1 q2 q3 q4 p5 rr xa xb xc cc (.val (.ref b2)) (.val (.ref b11)) (.val (.ref b22)) (.val (.ref b2)) (.val (.ref b37)) .unset .unset .unset .unset) [(.int rr), (.int rr)])) _
      refine XS.icmpYes X44.here hx rfl (pc0 := 153) (pc' := 158) rfl (hb hby at_153) rfl (teq rfl).1 (by decide) (by decide) ?_
      show Steps _ _ _ (T44.setTop (mkF m 158 (LW p1 q2 q3 q4 p5 rr xa xb xc cc (.val (.ref b2)) (.val (.ref b11)) (.val (.ref b22)) (.val (.ref b2)) (.val (.ref b37)) .unset .unset .unset .unset) [])) _
      refine XS.aload X44.here hx rfl (hb hby at_158) rfl rfl ?_
      exact k
    have f50 : Fld Z h43 b37 "com/example/nackoff/nackoff/RetryPolicy" "waitsMs" "Ljava/util/List;" (.ref wa37) := (Fw37.other W43 (Or.inl (Ne.symm (Nat.ne_of_lt (Nat.lt_of_lt_of_le f35.lt s137)))))
    obtain ⟨cq49, kq49, q49a, q49b, q49c⟩ := isOf hZ e44 f48
    obtain ⟨_, _, ⟨T49, L49, k49, n49⟩, -, X49, ⟨Lc49, hQ49, l49, y49, z49⟩, st49⟩ := X44.virtualBack hx (y := (⟨"com/example/nackoff/nackoff/RetryPolicy", "waitsMs", "()Ljava/util/List;"⟩ : MethodName)) (z := (⟨"com/example/nackoff/nackoff/RetryPolicy", "waitsMs", "()Ljava/util/List;"⟩ : MethodName)) hown (mvT hZ (wk hw 128 rfl)) (mvT hZ (wk hw 129 rfl)) (notFace_of_selects (args := #[]) (mvT hZ (wk hw 131 rfl))) (mvT hZ (wk hw 131 rfl)) (mvT hZ (wk hw 130 rfl)) (by decide) (backOf (W := 0) (rm16 l Z a0 hw [] b37 wa37 h43 n0 f45 f50) hZ (wk hw 132 rfl) (wk hw 6 rfl) (by decide) (by decide)) q49a q49c (g := (mkF m 160 (LW p1 q2 q3 q4 p5 rr xa xb xc cc (.val (.ref b2)) (.val (.ref b11)) (.val (.ref b22)) (.val (.ref b2)) (.val (.ref b37)) .unset .unset .unset .unset) [(.ref b37)])) rfl (by rw [hml]; rfl) (Steps.refl _) (argsL := []) (rest := []) (lenOf pd_14 rfl) rfl (by show 2 * 0 + _ ≤ _; exact Nat.le_of_eq rfl) (hb hby at_160) (fun _ _ => ⟨rfl, e44, (by decide : 8 + 0 ≤ _), (by decide : 16 + 0 ≤ _)⟩)
    dsimp only [Pt.U, Pt.locs, Pt.cells, Pt.slots] at X49 l49 y49 z49 st49 hQ49
    subst l49 y49 z49
    obtain ⟨rfl, N49q, e49⟩ := hQ49
    have N49 := Fr.app N44 N49q
    have go53 : Go p.tables e below T49 (mkF m 167 (LW p1 q2 q3 q4 p5 rr xa xb xc cc (.val (.ref b2)) (.val (.ref b11)) (.val (.ref b22)) (.val (.ref b2)) (.val (.ref b37)) (.val (.ref wa37)) .unset .unset .unset) [(.ref wa37)]) s₁ (entryFrame m #[(.int p1), (.long q2), (.long q3), (.long q4), (.int p5)] maxLocals) := by
      intro t k
      refine go51 t ?_
      show Steps _ _ _ (T44.setTop (mkF m 160 (LW p1 q2 q3 q4 p5 rr xa xb xc cc (.val (.ref b2)) (.val (.ref b11)) (.val (.ref b22)) (.val (.ref b2)) (.val (.ref b37)) .unset .unset .unset .unset) [(.ref b37)])) _
      refine st49.trans ?_
      show Steps _ _ _ (T49.setTop (mkF m 163 (LW p1 q2 q3 q4 p5 rr xa xb xc cc (.val (.ref b2)) (.val (.ref b11)) (.val (.ref b22)) (.val (.ref b2)) (.val (.ref b37)) .unset .unset .unset .unset) [(.ref wa37)])) _
      refine XS.astore X49.here hx rfl (hb hby at_163) rfl rfl (l' := (LW p1 q2 q3 q4 p5 rr xa xb xc cc (.val (.ref b2)) (.val (.ref b11)) (.val (.ref b22)) (.val (.ref b2)) (.val (.ref b37)) (.val (.ref wa37)) .unset .unset .unset)) rfl ?_
      show Steps _ _ _ (T49.setTop (mkF m 165 (LW p1 q2 q3 q4 p5 rr xa xb xc cc (.val (.ref b2)) (.val (.ref b11)) (.val (.ref b22)) (.val (.ref b2)) (.val (.ref b37)) (.val (.ref wa37)) .unset .unset .unset) [])) _
      refine XS.aload X49.here hx rfl (hb hby at_165) rfl rfl ?_
      exact k
    have f52 : WRP Z h43 wa37 al37 := (B37.other W43 (Ne.symm (Nat.ne_of_lt (Nat.lt_of_lt_of_le f35.lt s237))))
    have f54 : Exa Z h43 al37 "java/util/ArrayList" := (Ea37.wr W43)
    have f55 : Fld Z h43 al37 "java/util/ArrayList" "size" "I" (.int (1 : Int32)) := (Fs37.other W43 (Or.inl (Ne.symm (Nat.ne_of_lt (Nat.lt_of_lt_of_le f35.lt s337)))))
    have f56 : Fld Z h43 al37 "java/util/ArrayList" "elementData" "[Ljava/lang/Object;" (.ref ea37) := (Fe37.other W43 (Or.inl (Ne.symm (Nat.ne_of_lt (Nat.lt_of_lt_of_le f35.lt s337)))))
    have f57 : Arv Z h43 ea37 kE37 (.object "java/lang/Object") (1 : Int32) [(.ref y1_37)] .null := (Vx37.other W43 (Ne.symm (Nat.ne_of_lt (Nat.lt_of_lt_of_le f35.lt s437))))
    obtain ⟨T58, L58, X58, N58q, e58, st58⟩ := own_lsz l Z a0 hw X49 hx hZ hown (wk hw 133 rfl) e49 f45 f52 f54 f55 (g := (mkF m 167 (LW p1 q2 q3 q4 p5 rr xa xb xc cc (.val (.ref b2)) (.val (.ref b11)) (.val (.ref b22)) (.val (.ref b2)) (.val (.ref b37)) (.val (.ref wa37)) .unset .unset .unset) [(.ref wa37)])) rfl (by rw [hml]; rfl) rfl (hb hby at_167) (W := 0) (by show 2 * 0 + _ ≤ _; exact Nat.le_of_eq rfl) (by decide) (by decide) (by decide) (by decide)
    have N58 := Fr.app N49 N58q
    have go59 : Go p.tables e below T58 (mkF m 182 (LW p1 q2 q3 q4 p5 rr xa xb xc cc (.val (.ref b2)) (.val (.ref b11)) (.val (.ref b22)) (.val (.ref b2)) (.val (.ref b37)) (.val (.ref wa37)) .unset .unset .unset) [(.int (0 : Int32)), (.ref wa37)]) s₁ (entryFrame m #[(.int p1), (.long q2), (.long q3), (.long q4), (.int p5)] maxLocals) := by
      intro t k
      refine go53 t ?_
      show Steps _ _ _ (T49.setTop (mkF m 167 (LW p1 q2 q3 q4 p5 rr xa xb xc cc (.val (.ref b2)) (.val (.ref b11)) (.val (.ref b22)) (.val (.ref b2)) (.val (.ref b37)) (.val (.ref wa37)) .unset .unset .unset) [(.ref wa37)])) _
      refine st58.trans ?_
      show Steps _ _ _ (T58.setTop (mkF m 172 (LW p1 q2 q3 q4 p5 rr xa xb xc cc (.val (.ref b2)) (.val (.ref b11)) (.val (.ref b22)) (.val (.ref b2)) (.val (.ref b37)) (.val (.ref wa37)) .unset .unset .unset) [(.int (1 : Int32))])) _
      refine XS.iload X58.here hx rfl (hb hby at_172) rfl ?_
      show Steps _ _ _ (T58.setTop (mkF m 174 (LW p1 q2 q3 q4 p5 rr xa xb xc cc (.val (.ref b2)) (.val (.ref b11)) (.val (.ref b22)) (.val (.ref b2)) (.val (.ref b37)) (.val (.ref wa37)) .unset .unset .unset) [(.int cc), (.int (1 : Int32))])) _
      refine XS.icmpYes X58.here hx rfl (pc0 := 174) (pc' := 179) rfl (hb hby at_174) rfl (teq hc109.symm).1 (by decide) (by decide) ?_
      show Steps _ _ _ (T58.setTop (mkF m 179 (LW p1 q2 q3 q4 p5 rr xa xb xc cc (.val (.ref b2)) (.val (.ref b11)) (.val (.ref b22)) (.val (.ref b2)) (.val (.ref b37)) (.val (.ref wa37)) .unset .unset .unset) [])) _
      refine XS.aload X58.here hx rfl (hb hby at_179) rfl rfl ?_
      show Steps _ _ _ (T58.setTop (mkF m 181 (LW p1 q2 q3 q4 p5 rr xa xb xc cc (.val (.ref b2)) (.val (.ref b11)) (.val (.ref b22)) (.val (.ref b2)) (.val (.ref b37)) (.val (.ref wa37)) .unset .unset .unset) [(.ref wa37)])) _
      refine XS.iconst X58.here hx rfl (hb hby at_181) ?_
      exact k
    obtain ⟨T60, L60, X60, N60q, e60, st60⟩ := own_lget l Z a0 hw X58 hx hZ hown (wk hw 151 rfl) e58 f45 f52 f54 f56 f55 f57 rfl (by decide) (by decide) (g := (mkF m 182 (LW p1 q2 q3 q4 p5 rr xa xb xc cc (.val (.ref b2)) (.val (.ref b11)) (.val (.ref b22)) (.val (.ref b2)) (.val (.ref b37)) (.val (.ref wa37)) .unset .unset .unset) [(.int (0 : Int32)), (.ref wa37)])) rfl (by rw [hml]; rfl) rfl (hb hby at_182) (W := 0) (by show 2 * 0 + _ ≤ _; exact Nat.le_of_eq rfl) (by decide) (by decide) (by decide) (by decide)
    have N60 := Fr.app N58 N60q
    have go62 : Go p.tables e below T60 (mkF m 187 (LW p1 q2 q3 q4 p5 rr xa xb xc cc (.val (.ref b2)) (.val (.ref b11)) (.val (.ref b22)) (.val (.ref b2)) (.val (.ref b37)) (.val (.ref wa37)) .unset .unset .unset) [(.ref y1_37)]) s₁ (entryFrame m #[(.int p1), (.long q2), (.long q3), (.long q4), (.int p5)] maxLocals) := by
      intro t k
      refine go59 t ?_
      show Steps _ _ _ (T58.setTop (mkF m 182 (LW p1 q2 q3 q4 p5 rr xa xb xc cc (.val (.ref b2)) (.val (.ref b11)) (.val (.ref b22)) (.val (.ref b2)) (.val (.ref b37)) (.val (.ref wa37)) .unset .unset .unset) [(.int (0 : Int32)), (.ref wa37)])) _
      refine st60.trans ?_
      exact k
    have f61 : Exa Z h43 y1_37 "java/lang/Long" := (Ey1_37.wr W43)
    obtain ⟨T63, X63, e63, st63⟩ := castY X60 hx hZ hown (wk hw 178 rfl) e60 (Ins.self f61) (g := (mkF m 187 (LW p1 q2 q3 q4 p5 rr xa xb xc cc (.val (.ref b2)) (.val (.ref b11)) (.val (.ref b22)) (.val (.ref b2)) (.val (.ref b37)) (.val (.ref wa37)) .unset .unset .unset) [(.ref y1_37)])) rfl rfl (hb hby at_187)
    have go66 : Go p.tables e below T63 (mkF m 190 (LW p1 q2 q3 q4 p5 rr xa xb xc cc (.val (.ref b2)) (.val (.ref b11)) (.val (.ref b22)) (.val (.ref b2)) (.val (.ref b37)) (.val (.ref wa37)) .unset .unset .unset) [(.ref y1_37)]) s₁ (entryFrame m #[(.int p1), (.long q2), (.long q3), (.long q4), (.int p5)] maxLocals) := by
      intro t k
      refine go62 t ?_
      show Steps _ _ _ (T60.setTop (mkF m 187 (LW p1 q2 q3 q4 p5 rr xa xb xc cc (.val (.ref b2)) (.val (.ref b11)) (.val (.ref b22)) (.val (.ref b2)) (.val (.ref b37)) (.val (.ref wa37)) .unset .unset .unset) [(.ref y1_37)])) _
      refine st63 _ ?_
      exact k
    have f65 : Fld Z h43 y1_37 "java/lang/Long" "value" "J" (.long xa) := (Fy1_37.other W43 (Or.inl ne_y1_37))
    obtain ⟨cq64, kq64, q64a, q64b, q64c⟩ := isOf hZ e63 f61
    obtain ⟨_, _, ⟨T64, L64, k64, n64⟩, -, X64, ⟨Lc64, hQ64, l64, y64, z64⟩, st64⟩ := X63.virtualBack hx (y := (⟨"java/lang/Long", "longValue", "()J"⟩ : MethodName)) (z := (⟨"java/lang/Long", "longValue", "()J"⟩ : MethodName)) hown (mvT hZ (wk hw 180 rfl)) (mvT hZ (wk hw 181 rfl)) (notFace_of_selects (args := #[]) (mvT hZ (wk hw 183 rfl))) (mvT hZ (wk hw 183 rfl)) (mvT hZ (wk hw 182 rfl)) (by decide) (backOf (W := 0) (rm24 l Z a0 hw [] y1_37 xa h43 n0 f45 f65) hZ (wk hw 184 rfl) (wk hw 38 rfl) (by decide) (by decide)) q64a q64c (g := (mkF m 190 (LW p1 q2 q3 q4 p5 rr xa xb xc cc (.val (.ref b2)) (.val (.ref b11)) (.val (.ref b22)) (.val (.ref b2)) (.val (.ref b37)) (.val (.ref wa37)) .unset .unset .unset) [(.ref y1_37)])) rfl (by rw [hml]; rfl) (Steps.refl _) (argsL := []) (rest := []) (lenOf pd_9 rfl) rfl (by show 2 * 0 + _ ≤ _; exact Nat.le_of_eq rfl) (hb hby at_190) (fun _ _ => ⟨rfl, e63, (by decide : 8 + 0 ≤ _), (by decide : 16 + 0 ≤ _)⟩)
    dsimp only [Pt.U, Pt.locs, Pt.cells, Pt.slots] at X64 l64 y64 z64 st64 hQ64
    subst l64 y64 z64
    obtain ⟨rfl, N64q, e64⟩ := hQ64
    have N64 := Fr.app N60 N64q
    have go67 : Go p.tables e below T64 (mkF m 260 (LW p1 q2 q3 q4 p5 rr xa xb xc cc (.val (.ref b2)) (.val (.ref b11)) (.val (.ref b22)) (.val (.ref b2)) (.val (.ref b37)) (.val (.ref wa37)) .unset .unset .unset) [(.int (1 : Int32)), (.int rr)]) s₁ (entryFrame m #[(.int p1), (.long q2), (.long q3), (.long q4), (.int p5)] maxLocals) := by
      intro t k
      refine go66 t ?_
      show Steps _ _ _ (T63.setTop (mkF m 190 (LW p1 q2 q3 q4 p5 rr xa xb xc cc (.val (.ref b2)) (.val (.ref b11)) (.val (.ref b22)) (.val (.ref b2)) (.val (.ref b37)) (.val (.ref wa37)) .unset .unset .unset) [(.ref y1_37)])) _
      refine st64.trans ?_
      show Steps _ _ _ (T64.setTop (mkF m 193 (LW p1 q2 q3 q4 p5 rr xa xb xc cc (.val (.ref b2)) (.val (.ref b11)) (.val (.ref b22)) (.val (.ref b2)) (.val (.ref b37)) (.val (.ref wa37)) .unset .unset .unset) [(.long xa)])) _
      refine XS.lload X64.here hx rfl (hb hby at_193) rfl ?_
      show Steps _ _ _ (T64.setTop (mkF m 195 (LW p1 q2 q3 q4 p5 rr xa xb xc cc (.val (.ref b2)) (.val (.ref b11)) (.val (.ref b22)) (.val (.ref b2)) (.val (.ref b37)) (.val (.ref wa37)) .unset .unset .unset) [(.long xa), (.long xa)])) _
      refine XS.lcmp X64.here hx rfl (hb hby at_195) rfl ?_
      show Steps _ _ _ (T64.setTop (mkF m 196 (LW p1 q2 q3 q4 p5 rr xa xb xc cc (.val (.ref b2)) (.val (.ref b11)) (.val (.ref b22)) (.val (.ref b2)) (.val (.ref b37)) (.val (.ref wa37)) .unset .unset .unset) [(.int (lcmpW xa xa))])) _
      refine XS.ifYes X64.here hx rfl (pc0 := 196) (pc' := 201) rfl (hb hby at_196) rfl ((if0 _ _).trans (teq ((lw_eq _ _).mpr rfl)).1) (by decide) (by decide) ?_
      show Steps _ _ _ (T64.setTop (mkF m 201 (LW p1 q2 q3 q4 p5 rr xa xb xc cc (.val (.ref b2)) (.val (.ref b11)) (.val (.ref b22)) (.val (.ref b2)) (.val (.ref b37)) (.val (.ref wa37)) .unset .unset .unset) [])) _
      refine XS.iload X64.here hx rfl (hb hby at_201) rfl ?_
      show Steps _ _ _ (T64.setTop (mkF m 203 (LW p1 q2 q3 q4 p5 rr xa xb xc cc (.val (.ref b2)) (.val (.ref b11)) (.val (.ref b22)) (.val (.ref b2)) (.val (.ref b37)) (.val (.ref wa37)) .unset .unset .unset) [(.int cc)])) _
      refine XS.iconst X64.here hx rfl (hb hby at_203) ?_
      show Steps _ _ _ (T64.setTop (mkF m 204 (LW p1 q2 q3 q4 p5 rr xa xb xc cc (.val (.ref b2)) (.val (.ref b11)) (.val (.ref b22)) (.val (.ref b2)) (.val (.ref b37)) (.val (.ref wa37)) .unset .unset .unset) [(.int (2 : Int32)), (.int cc)])) _
      refine XS.icmpYes X64.here hx rfl (pc0 := 204) (pc' := 229) rfl (hb hby at_204) rfl (tlt (by rw [hc109]; decide)).1 (by decide) (by decide) ?_
      show Steps _ _ _ (T64.setTop (mkF m 229 (LW p1 q2 q3 q4 p5 rr xa xb xc cc (.val (.ref b2)) (.val (.ref b11)) (.val (.ref b22)) (.val (.ref b2)) (.val (.ref b37)) (.val (.ref wa37)) .unset .unset .unset) [])) _
      refine XS.iload X64.here hx rfl (hb hby at_229) rfl ?_
      show Steps _ _ _ (T64.setTop (mkF m 231 (LW p1 q2 q3 q4 p5 rr xa xb xc cc (.val (.ref b2)) (.val (.ref b11)) (.val (.ref b22)) (.val (.ref b2)) (.val (.ref b37)) (.val (.ref wa37)) .unset .unset .unset) [(.int cc)])) _
      refine XS.iconst X64.here hx rfl (hb hby at_231) ?_
      show Steps _ _ _ (T64.setTop (mkF m 232 (LW p1 q2 q3 q4 p5 rr xa xb xc cc (.val (.ref b2)) (.val (.ref b11)) (.val (.ref b22)) (.val (.ref b2)) (.val (.ref b37)) (.val (.ref wa37)) .unset .unset .unset) [(.int (3 : Int32)), (.int cc)])) _
      refine XS.icmpYes X64.here hx rfl (pc0 := 232) (pc' := 257) rfl (hb hby at_232) rfl (tlt (by rw [hc109]; decide)).1 (by decide) (by decide) ?_
      show Steps _ _ _ (T64.setTop (mkF m 257 (LW p1 q2 q3 q4 p5 rr xa xb xc cc (.val (.ref b2)) (.val (.ref b11)) (.val (.ref b22)) (.val (.ref b2)) (.val (.ref b37)) (.val (.ref wa37)) .unset .unset .unset) [])) _
      refine XS.iload X64.here hx rfl (hb hby at_257) rfl ?_
      show Steps _ _ _ (T64.setTop (mkF m 259 (LW p1 q2 q3 q4 p5 rr xa xb xc cc (.val (.ref b2)) (.val (.ref b11)) (.val (.ref b22)) (.val (.ref b2)) (.val (.ref b37)) (.val (.ref wa37)) .unset .unset .unset) [(.int rr)])) _
      refine XS.iconst X64.here hx rfl (hb hby at_259) ?_
      exact k
    by_cases hc260 : rr < (1 : Int32)
    · skip
      have go68 : Go p.tables e below T64 (mkF m 314 (LW p1 q2 q3 q4 p5 rr xa xb xc cc (.val (.ref b2)) (.val (.ref b11)) (.val (.ref b22)) (.val (.ref b2)) (.val (.ref b37)) (.val (.ref wa37)) .unset .unset .unset) [(.int (1 : Int32))]) s₁ (entryFrame m #[(.int p1), (.long q2), (.long q3), (.long q4), (.int p5)] maxLocals) := by
        intro t k
        refine go67 t ?_
        show Steps _ _ _ (T64.setTop (mkF m 260 (LW p1 q2 q3 q4 p5 rr xa xb xc cc (.val (.ref b2)) (.val (.ref b11)) (.val (.ref b22)) (.val (.ref b2)) (.val (.ref b37)) (.val (.ref wa37)) .unset .unset .unset) [(.int (1 : Int32)), (.int rr)])) _
        refine XS.icmpYes X64.here hx rfl (pc0 := 260) (pc' := 313) rfl (hb hby at_260) rfl (tlt hc260).1 (by decide) (by decide) ?_
        show Steps _ _ _ (T64.setTop (mkF m 313 (LW p1 q2 q3 q4 p5 rr xa xb xc cc (.val (.ref b2)) (.val (.ref b11)) (.val (.ref b22)) (.val (.ref b2)) (.val (.ref b37)) (.val (.ref wa37)) .unset .unset .unset) [])) _
        refine XS.iconst X64.here hx rfl (hb hby at_313) ?_
        exact k
      obtain ⟨fs, hr, hrun, hended, hW, hsame⟩ := X64.leave (v := some (.int (1 : Int32))) (fun h => by rw [Bd.returns] at h; cases h)
      refine ⟨_, _, go68 _ ?_, hrun, hended, _, _, rfl, ?_, ⟨_, rfl⟩, hW, hsame.mono (by decide) (by decide)⟩
      · exact retN X64 hx (t := .boolean) Bd.returns (by simp) (hb hby at_314) hr
      · show QL (.int 1) h0 n0 _ T64.heap _
        rw [e64]
        exact ⟨rfl, N64⟩
    · skip
      have go69 : Go p.tables e below T64 (mkF m 263 (LW p1 q2 q3 q4 p5 rr xa xb xc cc (.val (.ref b2)) (.val (.ref b11)) (.val (.ref b22)) (.val (.ref b2)) (.val (.ref b37)) (.val (.ref wa37)) .unset .unset .unset) []) s₁ (entryFrame m #[(.int p1), (.long q2), (.long q3), (.long q4), (.int p5)] maxLocals) := by
        intro t k
        refine go67 t ?_
        show Steps _ _ _ (T64.setTop (mkF m 260 (LW p1 q2 q3 q4 p5 rr xa xb xc cc (.val (.ref b2)) (.val (.ref b11)) (.val (.ref b22)) (.val (.ref b2)) (.val (.ref b37)) (.val (.ref wa37)) .unset .unset .unset) [(.int (1 : Int32)), (.int rr)])) _
        refine XS.icmpNo X64.here hx rfl (hb hby at_260) rfl (flt hc260).1 ?_
        exact k
      have hmin : (if (1 : Int32) < rr then (1 : Int32) else rr) = (1 : Int32) := own_minr (by decide : (1 : Int32).toInt = 1) (by decide) hc260 (fun j q1 q2 => absurd q2 (by omega))
      have go71 : Go p.tables e below T64 (mkF m 267 (LW p1 q2 q3 q4 p5 rr xa xb xc cc (.val (.ref b2)) (.val (.ref b11)) (.val (.ref b22)) (.val (.ref b2)) (.val (.ref b37)) (.val (.ref wa37)) .unset .unset .unset) [(.int cc), (.int rr)]) s₁ (entryFrame m #[(.int p1), (.long q2), (.long q3), (.long q4), (.int p5)] maxLocals) := by
        intro t k
        refine go69 t ?_
        show Steps _ _ _ (T64.setTop (mkF m 263 (LW p1 q2 q3 q4 p5 rr xa xb xc cc (.val (.ref b2)) (.val (.ref b11)) (.val (.ref b22)) (.val (.ref b2)) (.val (.ref b37)) (.val (.ref wa37)) .unset .unset .unset) [])) _
        refine XS.iload X64.here hx rfl (hb hby at_263) rfl ?_
        show Steps _ _ _ (T64.setTop (mkF m 265 (LW p1 q2 q3 q4 p5 rr xa xb xc cc (.val (.ref b2)) (.val (.ref b11)) (.val (.ref b22)) (.val (.ref b2)) (.val (.ref b37)) (.val (.ref wa37)) .unset .unset .unset) [(.int rr)])) _
        refine XS.iload X64.here hx rfl (hb hby at_265) rfl ?_
        exact k
      obtain ⟨_, _, ⟨T70, L70, k70, n70⟩, -, X70, ⟨Lc70, hQ70, l70, y70, z70⟩, st70⟩ := Jvm.LawKit.callS X64 hx (y := (⟨"java/lang/Math", "min", "(II)I"⟩ : MethodName)) hown (mvT hZ (wk hw 199 rfl)) (mvT hZ (wk hw 200 rfl)) (mvT hZ (wk hw 201 rfl)) (mvT hZ (wk hw 202 rfl)) (by decide) (backOf (W := 0) (rm27 l Z a0 hw [] rr cc h43 n0 f45) hZ (wk hw 202 rfl) (wk hw 201 rfl) (by decide) (by decide)) (g := (mkF m 267 (LW p1 q2 q3 q4 p5 rr xa xb xc cc (.val (.ref b2)) (.val (.ref b11)) (.val (.ref b22)) (.val (.ref b2)) (.val (.ref b37)) (.val (.ref wa37)) .unset .unset .unset) [(.int cc), (.int rr)])) rfl (by rw [hml]; rfl) (argsL := [(.int rr), (.int cc)]) (rest := []) (lenOf pd_6 rfl) rfl (by show 2 * 0 + _ ≤ _; exact Nat.le_of_eq rfl) (hb hby at_267) (fun _ _ => ⟨rfl, e64, (by decide : 8 + 0 ≤ _), (by decide : 16 + 0 ≤ _)⟩)
      dsimp only [Pt.U, Pt.locs, Pt.cells, Pt.slots] at X70 l70 y70 z70 st70 hQ70
      subst l70 y70 z70
      obtain ⟨hv70, N70q, e70⟩ := hQ70
      rw [hc109, hmin] at hv70
      subst hv70
      have N70 := Fr.app N64 N70q
      have go73 : Go p.tables e below T70 (mkF m 302 (LW p1 q2 q3 q4 p5 rr xa xb xc cc (.val (.ref b2)) (.val (.ref b11)) (.val (.ref b22)) (.val (.ref b2)) (.val (.ref b37)) (.val (.ref wa37)) (.val (.int (1 : Int32))) (.val (.long xa)) .second) [(.int rr), (.ref b37)]) s₁ (entryFrame m #[(.int p1), (.long q2), (.long q3), (.long q4), (.int p5)] maxLocals) := by
        intro t k
        refine go71 t ?_
        show Steps _ _ _ (T64.setTop (mkF m 267 (LW p1 q2 q3 q4 p5 rr xa xb xc cc (.val (.ref b2)) (.val (.ref b11)) (.val (.ref b22)) (.val (.ref b2)) (.val (.ref b37)) (.val (.ref wa37)) .unset .unset .unset) [(.int cc), (.int rr)])) _
        refine st70 _ ?_
        show Steps _ _ _ (T70.setTop (mkF m 270 (LW p1 q2 q3 q4 p5 rr xa xb xc cc (.val (.ref b2)) (.val (.ref b11)) (.val (.ref b22)) (.val (.ref b2)) (.val (.ref b37)) (.val (.ref wa37)) .unset .unset .unset) [(.int (1 : Int32))])) _
        refine XS.istore X70.here hx rfl (hb hby at_270) rfl (l' := (LW p1 q2 q3 q4 p5 rr xa xb xc cc (.val (.ref b2)) (.val (.ref b11)) (.val (.ref b22)) (.val (.ref b2)) (.val (.ref b37)) (.val (.ref wa37)) (.val (.int (1 : Int32))) .unset .unset)) rfl ?_
        show Steps _ _ _ (T70.setTop (mkF m 272 (LW p1 q2 q3 q4 p5 rr xa xb xc cc (.val (.ref b2)) (.val (.ref b11)) (.val (.ref b22)) (.val (.ref b2)) (.val (.ref b37)) (.val (.ref wa37)) (.val (.int (1 : Int32))) .unset .unset) [])) _
        refine XS.iload X70.here hx rfl (hb hby at_272) rfl ?_
        show Steps _ _ _ (T70.setTop (mkF m 274 (LW p1 q2 q3 q4 p5 rr xa xb xc cc (.val (.ref b2)) (.val (.ref b11)) (.val (.ref b22)) (.val (.ref b2)) (.val (.ref b37)) (.val (.ref wa37)) (.val (.int (1 : Int32))) .unset .unset) [(.int (1 : Int32))])) _
        refine XS.iconst X70.here hx rfl (hb hby at_274) ?_
        show Steps _ _ _ (T70.setTop (mkF m 275 (LW p1 q2 q3 q4 p5 rr xa xb xc cc (.val (.ref b2)) (.val (.ref b11)) (.val (.ref b22)) (.val (.ref b2)) (.val (.ref b37)) (.val (.ref wa37)) (.val (.int (1 : Int32))) .unset .unset) [(.int (1 : Int32)), (.int (1 : Int32))])) _
        refine XS.icmpNo X70.here hx rfl (hb hby at_275) rfl (teq rfl).2 ?_
        show Steps _ _ _ (T70.setTop (mkF m 278 (LW p1 q2 q3 q4 p5 rr xa xb xc cc (.val (.ref b2)) (.val (.ref b11)) (.val (.ref b22)) (.val (.ref b2)) (.val (.ref b37)) (.val (.ref wa37)) (.val (.int (1 : Int32))) .unset .unset) [])) _
        refine XS.lload X70.here hx rfl (hb hby at_278) rfl ?_
        show Steps _ _ _ (T70.setTop (mkF m 280 (LW p1 q2 q3 q4 p5 rr xa xb xc cc (.val (.ref b2)) (.val (.ref b11)) (.val (.ref b22)) (.val (.ref b2)) (.val (.ref b37)) (.val (.ref wa37)) (.val (.int (1 : Int32))) .unset .unset) [(.long xa)])) _
        refine XS.goto X70.here hx rfl (pc0 := 280) (pc' := 296) rfl (hb hby at_280) (by decide) (by decide) ?_
        show Steps _ _ _ (T70.setTop (mkF m 296 (LW p1 q2 q3 q4 p5 rr xa xb xc cc (.val (.ref b2)) (.val (.ref b11)) (.val (.ref b22)) (.val (.ref b2)) (.val (.ref b37)) (.val (.ref wa37)) (.val (.int (1 : Int32))) .unset .unset) [(.long xa)])) _
        refine XS.lstore X70.here hx rfl (hb hby at_296) rfl (l' := (LW p1 q2 q3 q4 p5 rr xa xb xc cc (.val (.ref b2)) (.val (.ref b11)) (.val (.ref b22)) (.val (.ref b2)) (.val (.ref b37)) (.val (.ref wa37)) (.val (.int (1 : Int32))) (.val (.long xa)) .second)) rfl ?_
        show Steps _ _ _ (T70.setTop (mkF m 298 (LW p1 q2 q3 q4 p5 rr xa xb xc cc (.val (.ref b2)) (.val (.ref b11)) (.val (.ref b22)) (.val (.ref b2)) (.val (.ref b37)) (.val (.ref wa37)) (.val (.int (1 : Int32))) (.val (.long xa)) .second) [])) _
        refine XS.aload X70.here hx rfl (hb hby at_298) rfl rfl ?_
        show Steps _ _ _ (T70.setTop (mkF m 300 (LW p1 q2 q3 q4 p5 rr xa xb xc cc (.val (.ref b2)) (.val (.ref b11)) (.val (.ref b22)) (.val (.ref b2)) (.val (.ref b37)) (.val (.ref wa37)) (.val (.int (1 : Int32))) (.val (.long xa)) .second) [(.ref b37)])) _
        refine XS.iload X70.here hx rfl (hb hby at_300) rfl ?_
        exact k
      obtain ⟨cq72, kq72, q72a, q72b, q72c⟩ := isOf hZ e70 f48
      obtain ⟨_, _, ⟨T72, L72, k72, n72⟩, -, X72, ⟨Lc72, hQ72, l72, y72, z72⟩, st72⟩ := X70.virtualBack hx (y := (⟨"com/example/nackoff/nackoff/RetryPolicy", "waitBeforeRetryMs", "(I)J"⟩ : MethodName)) (z := (⟨"com/example/nackoff/nackoff/RetryPolicy", "waitBeforeRetryMs", "(I)J"⟩ : MethodName)) hown (mvT hZ (wk hw 203 rfl)) (mvT hZ (wk hw 204 rfl)) (notFace_of_selects (args := #[]) (mvT hZ (wk hw 206 rfl))) (mvT hZ (wk hw 206 rfl)) (mvT hZ (wk hw 205 rfl)) (by decide) (backOf (W := 0) (rm28 l Z a0 hw [] b37 rr wa37 al37 ea37 kE37 (1 : Int32) (1 : Int32) y1_37 [(.ref y1_37)] xa h43 n0 f45 f47 f50 f52 f54 f55 f56 f57 f61 f65 hc260 hmin rfl (by decide) (by decide)) hZ (wk hw 207 rfl) (wk hw 6 rfl) (by decide) (by decide)) q72a q72c (g := (mkF m 302 (LW p1 q2 q3 q4 p5 rr xa xb xc cc (.val (.ref b2)) (.val (.ref b11)) (.val (.ref b22)) (.val (.ref b2)) (.val (.ref b37)) (.val (.ref wa37)) (.val (.int (1 : Int32))) (.val (.long xa)) .second) [(.int rr), (.ref b37)])) rfl (by rw [hml]; rfl) (Steps.refl _) (argsL := [(.int rr)]) (rest := []) (lenOf pd_17 rfl) rfl (by show 2 * 0 + _ ≤ _; exact Nat.le_of_eq rfl) (hb hby at_302) (fun _ _ => ⟨rfl, e70, (by decide : 8 + 0 ≤ _), (by decide : 16 + 0 ≤ _)⟩)
      dsimp only [Pt.U, Pt.locs, Pt.cells, Pt.slots] at X72 l72 y72 z72 st72 hQ72
      subst l72 y72 z72
      obtain ⟨rfl, N72q, e72⟩ := hQ72
      have N72 := Fr.app N70 N72q
      have go74 : Go p.tables e below T72 (mkF m 314 (LW p1 q2 q3 q4 p5 rr xa xb xc cc (.val (.ref b2)) (.val (.ref b11)) (.val (.ref b22)) (.val (.ref b2)) (.val (.ref b37)) (.val (.ref wa37)) (.val (.int (1 : Int32))) (.val (.long xa)) .second) [(.int (1 : Int32))]) s₁ (entryFrame m #[(.int p1), (.long q2), (.long q3), (.long q4), (.int p5)] maxLocals) := by
        intro t k
        refine go73 t ?_
        show Steps _ _ _ (T70.setTop (mkF m 302 (LW p1 q2 q3 q4 p5 rr xa xb xc cc (.val (.ref b2)) (.val (.ref b11)) (.val (.ref b22)) (.val (.ref b2)) (.val (.ref b37)) (.val (.ref wa37)) (.val (.int (1 : Int32))) (.val (.long xa)) .second) [(.int rr), (.ref b37)])) _
        refine st72.trans ?_
        show Steps _ _ _ (T72.setTop (mkF m 305 (LW p1 q2 q3 q4 p5 rr xa xb xc cc (.val (.ref b2)) (.val (.ref b11)) (.val (.ref b22)) (.val (.ref b2)) (.val (.ref b37)) (.val (.ref wa37)) (.val (.int (1 : Int32))) (.val (.long xa)) .second) [(.long xa)])) _
        refine XS.lload X72.here hx rfl (hb hby at_305) rfl ?_
        show Steps _ _ _ (T72.setTop (mkF m 307 (LW p1 q2 q3 q4 p5 rr xa xb xc cc (.val (.ref b2)) (.val (.ref b11)) (.val (.ref b22)) (.val (.ref b2)) (.val (.ref b37)) (.val (.ref wa37)) (.val (.int (1 : Int32))) (.val (.long xa)) .second) [(.long xa), (.long xa)])) _
        refine XS.lcmp X72.here hx rfl (hb hby at_307) rfl ?_
        show Steps _ _ _ (T72.setTop (mkF m 308 (LW p1 q2 q3 q4 p5 rr xa xb xc cc (.val (.ref b2)) (.val (.ref b11)) (.val (.ref b22)) (.val (.ref b2)) (.val (.ref b37)) (.val (.ref wa37)) (.val (.int (1 : Int32))) (.val (.long xa)) .second) [(.int (lcmpW xa xa))])) _
        refine XS.ifYes X72.here hx rfl (pc0 := 308) (pc' := 313) rfl (hb hby at_308) rfl ((if0 _ _).trans (teq ((lw_eq _ _).mpr rfl)).1) (by decide) (by decide) ?_
        show Steps _ _ _ (T72.setTop (mkF m 313 (LW p1 q2 q3 q4 p5 rr xa xb xc cc (.val (.ref b2)) (.val (.ref b11)) (.val (.ref b22)) (.val (.ref b2)) (.val (.ref b37)) (.val (.ref wa37)) (.val (.int (1 : Int32))) (.val (.long xa)) .second) [])) _
        refine XS.iconst X72.here hx rfl (hb hby at_313) ?_
        exact k
      obtain ⟨fs, hr, hrun, hended, hW, hsame⟩ := X72.leave (v := some (.int (1 : Int32))) (fun h => by rw [Bd.returns] at h; cases h)
      refine ⟨_, _, go74 _ ?_, hrun, hended, _, _, rfl, ?_, ⟨_, rfl⟩, hW, hsame.mono (by decide) (by decide)⟩
      · exact retN X72 hx (t := .boolean) Bd.returns (by simp) (hb hby at_314) hr
      · show QL (.int 1) h0 n0 _ T72.heap _
        rw [e72]
        exact ⟨rfl, N72⟩
  · skip
    have go75 : Go p.tables e below T33 (mkF m 120 (LW p1 q2 q3 q4 p5 rr xa xb xc cc (.val (.ref b2)) (.val (.ref b11)) (.val (.ref b22)) .unset .unset .unset .unset .unset .unset) [(.int (2 : Int32)), (.int cc)]) s₁ (entryFrame m #[(.int p1), (.long q2), (.long q3), (.long q4), (.int p5)] maxLocals) := by
      intro t k
      refine go34 t ?_
      show Steps _ _ _ (T33.setTop (mkF m 109 (LW p1 q2 q3 q4 p5 rr xa xb xc cc (.val (.ref b2)) (.val (.ref b11)) (.val (.ref b22)) .unset .unset .unset .unset .unset .unset) [(.int (1 : Int32)), (.int cc)])) _
      refine XS.icmpYes X33.here hx rfl (pc0 := 109) (pc' := 117) rfl (hb hby at_109) rfl (feq hc109).2 (by decide) (by decide) ?_
      show Steps _ _ _ (T33.setTop (mkF m 117 (LW p1 q2 q3 q4 p5 rr xa xb xc cc (.val (.ref b2)) (.val (.ref b11)) (.val (.ref b22)) .unset .unset .unset .unset .unset .unset) [])) _
      refine XS.iload X33.here hx rfl (hb hby at_117) rfl ?_
      show Steps _ _ _ (T33.setTop (mkF m 119 (LW p1 q2 q3 q4 p5 rr xa xb xc cc (.val (.ref b2)) (.val (.ref b11)) (.val (.ref b22)) .unset .unset .unset .unset .unset .unset) [(.int cc)])) _
      refine XS.iconst X33.here hx rfl (hb hby at_119) ?_
      exact k
    by_cases hc120 : cc = (2 : Int32)
    · skip
      have go77 : Go p.tables e below T33 (mkF m 136 (LW p1 q2 q3 q4 p5 rr xa xb xc cc (.val (.ref b2)) (.val (.ref b11)) (.val (.ref b22)) (.val (.ref b11)) .unset .unset .unset .unset .unset) [(.ref b11), (.int rr)]) s₁ (entryFrame m #[(.int p1), (.long q2), (.long q3), (.long q4), (.int p5)] maxLocals) := by
        intro t k
        refine go75 t ?_
        show Steps _ _ _ (T33.setTop (mkF m 120 (LW p1 q2 q3 q4 p5 rr xa xb xc cc (.val (.ref b2)) (.val (.ref b11)) (.val (.ref b22)) .unset .unset .unset .unset .unset .unset) [(.int (2 : Int32)), (.int cc)])) _
        refine XS.icmpNo X33.here hx rfl (hb hby at_120) rfl (teq hc120).2 ?_
        show Steps _ _ _ (T33.setTop (mkF m 123 (LW p1 q2 q3 q4 p5 rr xa xb xc cc (.val (.ref b2)) (.val (.ref b11)) (.val (.ref b22)) .unset .unset .unset .unset .unset .unset) [])) _
        refine XS.aload X33.here hx rfl (hb hby at_123) rfl rfl ?_
        show Steps _ _ _ (T33.setTop (mkF m 125 (LW p1 q2 q3 q4 p5 rr xa xb xc cc (.val (.ref b2)) (.val (.ref b11)) (.val (.ref b22)) .unset .unset .unset .unset .unset .unset) [(.ref b11)])) _
        refine XS.goto X33.here hx rfl (pc0 := 125) (pc' := 130) rfl (hb hby at_125) (by decide) (by decide) ?_
        show Steps _ _ _ (T33.setTop (mkF m 130 (LW p1 q2 q3 q4 p5 rr xa xb xc cc (.val (.ref b2)) (.val (.ref b11)) (.val (.ref b22)) .unset .unset .unset .unset .unset .unset) [(.ref b11)])) _
        refine XS.astore X33.here hx rfl (hb hby at_130) rfl rfl (l' := (LW p1 q2 q3 q4 p5 rr xa xb xc cc (.val (.ref b2)) (.val (.ref b11)) (.val (.ref b22)) (.val (.ref b11)) .unset .unset .unset .unset .unset)) rfl ?_
        show Steps _ _ _ (T33.setTop (mkF m 132 (LW p1 q2 q3 q4 p5 rr xa xb xc cc (.val (.ref b2)) (.val (.ref b11)) (.val (.ref b22)) (.val (.ref b11)) .unset .unset .unset .unset .unset) [])) _
        refine XS.iload X33.here hx rfl (hb hby at_132) rfl ?_
        show Steps _ _ _ (T33.setTop (mkF m 134 (LW p1 q2 q3 q4 p5 rr xa xb xc cc (.val (.ref b2)) (.val (.ref b11)) (.val (.ref b22)) (.val (.ref b11)) .unset .unset .unset .unset .unset) [(.int rr)])) _
        refine XS.aload X33.here hx rfl (hb hby at_134) rfl rfl ?_
        exact k
      have f76 : Arv Z h33 b11 k12 .long (2 : Int32) [(.long xa), (.long xb)] (.long (0 : Int64)) := ((((V18_b11.ext E24).other W27 ne_b11_b22).other W30 ne_b11_b22).other W33 ne_b11_b22)
      have f79 : n0 ≤ h33.size := (Nat.le_trans (Nat.le_trans (Nat.le_trans (Nat.le_trans f19 E24.1) (Keep.of_wr W27).1) (Keep.of_wr W30).1) (Keep.of_wr W33).1)
      have f80 : Keep h0 h33 [] := ((((f21.ext E24).wr W27 (Or.inr sz_b22)).wr W30 (Or.inr sz_b22)).wr W33 (Or.inr sz_b22))
      obtain ⟨_, _, ⟨T78, L78, k78, n78⟩, -, X78, ⟨Lc78, hQ78, l78, y78, z78⟩, st78⟩ := Jvm.LawKit.callS X33 hx (y := (⟨"com/example/nackoff/nackoff/RetryPolicy", "of", "(I[J)Lcom/example/nackoff/nackoff/RetryPolicy;"⟩ : MethodName)) hown (mvT hZ (wk hw 4 rfl)) (mvT hZ (wk hw 5 rfl)) (mvT hZ (wk hw 6 rfl)) (mvT hZ (wk hw 7 rfl)) (by decide) (backOf (W := 0) (rm1_2 l Z a0 hw [] rr b11 k12 xa xb wC clC wL mA mL mR h33 n0 f79 Hr.1 Hr.2 f76 Ha Hb (own_LCext (own_ext0 f80) HC) (S_L.ext (own_ext0 f80)) MA ML MR hmL hmR) hZ (wk hw 7 rfl) (wk hw 6 rfl) (by decide) (by decide)) (g := (mkF m 136 (LW p1 q2 q3 q4 p5 rr xa xb xc cc (.val (.ref b2)) (.val (.ref b11)) (.val (.ref b22)) (.val (.ref b11)) .unset .unset .unset .unset .unset) [(.ref b11), (.int rr)])) rfl (by rw [hml]; rfl) (argsL := [(.int rr), (.ref b11)]) (rest := []) (lenOf pd_16 rfl) rfl (by show 2 * 0 + _ ≤ _; exact Nat.le_of_eq rfl) (hb hby at_136) (fun _ _ => ⟨rfl, e33, (by decide : 3 + 6 ≤ _), (by decide : 6 + 12 ≤ _)⟩)
      dsimp only [Pt.U, Pt.locs, Pt.cells, Pt.slots] at X78 l78 y78 z78 st78 hQ78
      subst l78 y78 z78
      obtain ⟨b78, wa78, al78, ea78, kE78, y1_78, y2_78, rfl, N78q, K78, s178, s278, s378, s478, Ep78, Fr78, Fw78, B78, Ea78, Fs78, Fe78, Vx78, Ey1_78, Fy1_78, Ey2_78, Fy2_78⟩ := hQ78
      have N78 := Fr.app N33 N78q
      have f81 : Arv Z T78.heap b11 k12 .long (2 : Int32) [(.long xa), (.long xb)] (.long (0 : Int64)) := (f76.keep K78 nin0)
      have ne_y1_78 : y1_78 ≠ b11 := Exa.neArv Ey1_78 f81 (wk hw 188 rfl)
      have ne_y2_78 : y2_78 ≠ b11 := Exa.neArv Ey2_78 f81 (wk hw 188 rfl)
      have go82 : Go p.tables e below T78 (mkF m 145 (LW p1 q2 q3 q4 p5 rr xa xb xc cc (.val (.ref b2)) (.val (.ref b11)) (.val (.ref b22)) (.val (.ref b11)) (.val (.ref b78)) .unset .unset .unset .unset) [(.long (0 : Int64)), (.int (0 : Int32)), (.ref b11)]) s₁ (entryFrame m #[(.int p1), (.long q2), (.long q3), (.long q4), (.int p5)] maxLocals) := by
        intro t k
        refine go77 t ?_
        show Steps _ _ _ (T33.setTop (mkF m 136 (LW p1 q2 q3 q4 p5 rr xa xb xc cc (.val (.ref b2)) (.val (.ref b11)) (.val (.ref b22)) (.val (.ref b11)) .unset .unset .unset .unset .unset) [(.ref b11), (.int rr)])) _
        refine st78 _ ?_
        show Steps _ _ _ (T78.setTop (mkF m 139 (LW p1 q2 q3 q4 p5 rr xa xb xc cc (.val (.ref b2)) (.val (.ref b11)) (.val (.ref b22)) (.val (.ref b11)) .unset .unset .unset .unset .unset) [(.ref b78)])) _
        refine XS.astore X78.here hx rfl (hb hby at_139) rfl rfl (l' := (LW p1 q2 q3 q4 p5 rr xa xb xc cc (.val (.ref b2)) (.val (.ref b11)) (.val (.ref b22)) (.val (.ref b11)) (.val (.ref b78)) .unset .unset .unset .unset)) rfl ?_
        show Steps _ _ _ (T78.setTop (mkF m 141 (LW p1 q2 q3 q4 p5 rr xa xb xc cc (.val (.ref b2)) (.val (.ref b11)) (.val (.ref b22)) (.val (.ref b11)) (.val (.ref b78)) .unset .unset .unset .unset) [])) _
        refine XS.aload X78.here hx rfl (hb hby at_141) rfl rfl ?_
        show Steps _ _ _ (T78.setTop (mkF m 143 (LW p1 q2 q3 q4 p5 rr xa xb xc cc (.val (.ref b2)) (.val (.ref b11)) (.val (.ref b22)) (.val (.ref b11)) (.val (.ref b78)) .unset .unset .unset .unset) [(.ref b11)])) _
        refine XS.iconst X78.here hx rfl (hb hby at_143) ?_
        show Steps _ _ _ (T78.setTop (mkF m 144 (LW p1 q2 q3 q4 p5 rr xa xb xc cc (.val (.ref b2)) (.val (.ref b11)) (.val (.ref b22)) (.val (.ref b11)) (.val (.ref b78)) .unset .unset .unset .unset) [(.int (0 : Int32)), (.ref b11)])) _
        refine XS.lconst X78.here hx rfl (hb hby at_144) ?_
        exact k
      obtain ⟨cl83, Ar83, qa83, Sa83, Na83, Ha83, Ga83⟩ := id f81
      have hin83 : ¬ ((0 : Int32) < 0 ∨ cl83.slots.size ≤ ((0 : Int32)).toNatClampNeg) := inb_of Sa83 ⟨by decide, by decide⟩
      obtain ⟨T84, h84, X84, e84, W84, st84⟩ := stJ X78 hx hZ rfl Ar83 (j := (0 : Int32)) hin83 (g := (mkF m 145 (LW p1 q2 q3 q4 p5 rr xa xb xc cc (.val (.ref b2)) (.val (.ref b11)) (.val (.ref b22)) (.val (.ref b11)) (.val (.ref b78)) .unset .unset .unset .unset) [(.long (0 : Int64)), (.int (0 : Int32)), (.ref b11)])) rfl rfl (hb hby at_145)
      have V84_b11 : Arv Z h84 b11 k12 .long (2 : Int32) [(.long (0 : Int64)), (.long xb)] (.long (0 : Int64)) := Arv.set Ar83 qa83 Sa83 Na83 Ha83 Ga83 rfl W84 0 rfl (Nat.le_of_ble_eq_true rfl)
      have N84 := Fr.snoc X84 N78 g_b11
      have go87 : Go p.tables e below T84 (mkF m 148 (LW p1 q2 q3 q4 p5 rr xa xb xc cc (.val (.ref b2)) (.val (.ref b11)) (.val (.ref b22)) (.val (.ref b11)) (.val (.ref b78)) .unset .unset .unset .unset) [(.ref b78)]) s₁ (entryFrame m #[(.int p1), (.long q2), (.long q3), (.long q4), (.int p5)] maxLocals) := by
        intro t k
        refine go82 t ?_
        show Steps _ _ _ (T78.setTop (mkF m 145 (LW p1 q2 q3 q4 p5 rr xa xb xc cc (.val (.ref b2)) (.val (.ref b11)) (.val (.ref b22)) (.val (.ref b11)) (.val (.ref b78)) .unset .unset .unset .unset) [(.long (0 : Int64)), (.int (0 : Int32)), (.ref b11)])) _
        refine st84 _ ?_
        show Steps _ _ _ (T84.setTop (mkF m 146 (LW p1 q2 q3 q4 p5 rr xa xb xc cc (.val (.ref b2)) (.val (.ref b11)) (.val (.ref b22)) (.val (.ref b11)) (.val (.ref b78)) .unset .unset .unset .unset) [])) _
        refine XS.aload X84.here hx rfl (hb hby at_146) rfl rfl ?_
        exact k
      have f86 : n0 ≤ h84.size := (Nat.le_trans (Nat.le_trans f79 K78.1) (Keep.of_wr W84).1)
      have f88 : Fld Z h84 b78 "com/example/nackoff/nackoff/RetryPolicy" "retries" "I" (.int rr) := (Fr78.other W84 (Or.inl (Ne.symm (Nat.ne_of_lt (Nat.lt_of_lt_of_le f76.lt s178)))))
      have f89 : Exa Z h84 b78 "com/example/nackoff/nackoff/RetryPolicy" := (Ep78.wr W84)
      obtain ⟨cq85, kq85, q85a, q85b, q85c⟩ := isOf hZ e84 f89
      obtain ⟨_, _, ⟨T85, L85, k85, n85⟩, -, X85, ⟨Lc85, hQ85, l85, y85, z85⟩, st85⟩ := X84.virtualBack hx (y := (⟨"com/example/nackoff/nackoff/RetryPolicy", "retries", "()I"⟩ : MethodName)) (z := (⟨"com/example/nackoff/nackoff/RetryPolicy", "retries", "()I"⟩ : MethodName)) hown (mvT hZ (wk hw 123 rfl)) (mvT hZ (wk hw 124 rfl)) (notFace_of_selects (args := #[]) (mvT hZ (wk hw 126 rfl))) (mvT hZ (wk hw 126 rfl)) (mvT hZ (wk hw 125 rfl)) (by decide) (backOf (W := 0) (rm15 l Z a0 hw [] b78 rr h84 n0 f86 f88) hZ (wk hw 127 rfl) (wk hw 6 rfl) (by decide) (by decide)) q85a q85c (g := (mkF m 148 (LW p1 q2 q3 q4 p5 rr xa xb xc cc (.val (.ref b2)) (.val (.ref b11)) (.val (.ref b22)) (.val (.ref b11)) (.val (.ref b78)) .unset .unset .unset .unset) [(.ref b78)])) rfl (by rw [hml]; rfl) (Steps.refl _) (argsL := []) (rest := []) (lenOf pd_8 rfl) rfl (by show 2 * 0 + _ ≤ _; exact Nat.le_of_eq rfl) (hb hby at_148) (fun _ _ => ⟨rfl, e84, (by decide : 9 + 0 ≤ _), (by decide : 18 + 0 ≤ _)⟩)
      dsimp only [Pt.U, Pt.locs, Pt.cells, Pt.slots] at X85 l85 y85 z85 st85 hQ85
      subst l85 y85 z85
      obtain ⟨rfl, N85q, e85⟩ := hQ85
      have N85 := Fr.app N84 N85q
      have go92 : Go p.tables e below T85 (mkF m 160 (LW p1 q2 q3 q4 p5 rr xa xb xc cc (.val (.ref b2)) (.val (.ref b11)) (.val (.ref b22)) (.val (.ref b11)) (.val (.ref b78)) .unset .unset .unset .unset) [(.ref b78)]) s₁ (entryFrame m #[(.int p1), (.long q2), (.long q3), (.long q4), (.int p5)] maxLocals) := by
        intro t k
        refine go87 t ?_
        show Steps _ _ _ (T84.setTop (mkF m 148 (LW p1 q2 q3 q4 p5 rr xa xb xc cc (.val (.ref b2)) (.val (.ref b11)) (.val (.ref b22)) (.val (.ref b11)) (.val (.ref b78)) .unset .unset .unset .unset) [(.ref b78)])) _
        refine st85.trans ?_
        show Steps _ _ _ (T85.setTop (mkF m 151 (LW p1 q2 q3 q4 p5 rr xa xb xc cc (.val (.ref b2)) (.val (.ref b11)) (.val (.ref b22)) (.val (.ref b11)) (.val (.ref b78)) .unset .unset .unset .unset) [(.int rr)])) _
        refine XS.iload X85.here hx rfl (hb hby at_151) rfl ?_
        show Steps _ _ _ (T85.setTop (mkF m 153 (LW p1 q2 q3 q4 p5 rr xa xb xc cc (.val (.ref b2)) (.val (.ref b11)) (.val (.ref b22)) (.val (.ref b11)) (.val (.ref b78)) .unset .unset .unset .unset) [(.int rr), (.int rr)])) _
        refine XS.icmpYes X85.here hx rfl (pc0 := 153) (pc' := 158) rfl (hb hby at_153) rfl (teq rfl).1 (by decide) (by decide) ?_
        show Steps _ _ _ (T85.setTop (mkF m 158 (LW p1 q2 q3 q4 p5 rr xa xb xc cc (.val (.ref b2)) (.val (.ref b11)) (.val (.ref b22)) (.val (.ref b11)) (.val (.ref b78)) .unset .unset .unset .unset) [])) _
        refine XS.aload X85.here hx rfl (hb hby at_158) rfl rfl ?_
        exact k
      have f91 : Fld Z h84 b78 "com/example/nackoff/nackoff/RetryPolicy" "waitsMs" "Ljava/util/List;" (.ref wa78) := (Fw78.other W84 (Or.inl (Ne.symm (Nat.ne_of_lt (Nat.lt_of_lt_of_le f76.lt s178)))))
      obtain ⟨cq90, kq90, q90a, q90b, q90c⟩ := isOf hZ e85 f89
      obtain ⟨_, _, ⟨T90, L90, k90, n90⟩, -, X90, ⟨Lc90, hQ90, l90, y90, z90⟩, st90⟩ := X85.virtualBack hx (y := (⟨"com/example/nackoff/nackoff/RetryPolicy", "waitsMs", "()Ljava/util/List;"⟩ : MethodName)) (z := (⟨"com/example/nackoff/nackoff/RetryPolicy", "waitsMs", "()Ljava/util/List;"⟩ : MethodName)) hown (mvT hZ (wk hw 128 rfl)) (mvT hZ (wk hw 129 rfl)) (notFace_of_selects (args := #[]) (mvT hZ (wk hw 131 rfl))) (mvT hZ (wk hw 131 rfl)) (mvT hZ (wk hw 130 rfl)) (by decide) (backOf (W := 0) (rm16 l Z a0 hw [] b78 wa78 h84 n0 f86 f91) hZ (wk hw 132 rfl) (wk hw 6 rfl) (by decide) (by decide)) q90a q90c (g := (mkF m 160 (LW p1 q2 q3 q4 p5 rr xa xb xc cc (.val (.ref b2)) (.val (.ref b11)) (.val (.ref b22)) (.val (.ref b11)) (.val (.ref b78)) .unset .unset .unset .unset) [(.ref b78)])) rfl (by rw [hml]; rfl) (Steps.refl _) (argsL := []) (rest := []) (lenOf pd_14 rfl) rfl (by show 2 * 0 + _ ≤ _; exact Nat.le_of_eq rfl) (hb hby at_160) (fun _ _ => ⟨rfl, e85, (by decide : 9 + 0 ≤ _), (by decide : 18 + 0 ≤ _)⟩)
      dsimp only [Pt.U, Pt.locs, Pt.cells, Pt.slots] at X90 l90 y90 z90 st90 hQ90
      subst l90 y90 z90
      obtain ⟨rfl, N90q, e90⟩ := hQ90
      have N90 := Fr.app N85 N90q
      have go94 : Go p.tables e below T90 (mkF m 167 (LW p1 q2 q3 q4 p5 rr xa xb xc cc (.val (.ref b2)) (.val (.ref b11)) (.val (.ref b22)) (.val (.ref b11)) (.val (.ref b78)) (.val (.ref wa78)) .unset .unset .unset) [(.ref wa78)]) s₁ (entryFrame m #[(.int p1), (.long q2), (.long q3), (.long q4), (.int p5)] maxLocals) := by
        intro t k
        refine go92 t ?_
        show Steps _ _ _ (T85.setTop (mkF m 160 (LW p1 q2 q3 q4 p5 rr xa xb xc cc (.val (.ref b2)) (.val (.ref b11)) (.val (.ref b22)) (.val (.ref b11)) (.val (.ref b78)) .unset .unset .unset .unset) [(.ref b78)])) _
        refine st90.trans ?_
        show Steps _ _ _ (T90.setTop (mkF m 163 (LW p1 q2 q3 q4 p5 rr xa xb xc cc (.val (.ref b2)) (.val (.ref b11)) (.val (.ref b22)) (.val (.ref b11)) (.val (.ref b78)) .unset .unset .unset .unset) [(.ref wa78)])) _
        refine XS.astore X90.here hx rfl (hb hby at_163) rfl rfl (l' := (LW p1 q2 q3 q4 p5 rr xa xb xc cc (.val (.ref b2)) (.val (.ref b11)) (.val (.ref b22)) (.val (.ref b11)) (.val (.ref b78)) (.val (.ref wa78)) .unset .unset .unset)) rfl ?_
        show Steps _ _ _ (T90.setTop (mkF m 165 (LW p1 q2 q3 q4 p5 rr xa xb xc cc (.val (.ref b2)) (.val (.ref b11)) (.val (.ref b22)) (.val (.ref b11)) (.val (.ref b78)) (.val (.ref wa78)) .unset .unset .unset) [])) _
        refine XS.aload X90.here hx rfl (hb hby at_165) rfl rfl ?_
        exact k
      have f93 : WRP Z h84 wa78 al78 := (B78.other W84 (Ne.symm (Nat.ne_of_lt (Nat.lt_of_lt_of_le f76.lt s278))))
      have f95 : Exa Z h84 al78 "java/util/ArrayList" := (Ea78.wr W84)
      have f96 : Fld Z h84 al78 "java/util/ArrayList" "size" "I" (.int (2 : Int32)) := (Fs78.other W84 (Or.inl (Ne.symm (Nat.ne_of_lt (Nat.lt_of_lt_of_le f76.lt s378)))))
      have f97 : Fld Z h84 al78 "java/util/ArrayList" "elementData" "[Ljava/lang/Object;" (.ref ea78) := (Fe78.other W84 (Or.inl (Ne.symm (Nat.ne_of_lt (Nat.lt_of_lt_of_le f76.lt s378)))))
      have f98 : Arv Z h84 ea78 kE78 (.object "java/lang/Object") (2 : Int32) [(.ref y1_78), (.ref y2_78)] .null := (Vx78.other W84 (Ne.symm (Nat.ne_of_lt (Nat.lt_of_lt_of_le f76.lt s478))))
      obtain ⟨T99, L99, X99, N99q, e99, st99⟩ := own_lsz l Z a0 hw X90 hx hZ hown (wk hw 133 rfl) e90 f86 f93 f95 f96 (g := (mkF m 167 (LW p1 q2 q3 q4 p5 rr xa xb xc cc (.val (.ref b2)) (.val (.ref b11)) (.val (.ref b22)) (.val (.ref b11)) (.val (.ref b78)) (.val (.ref wa78)) .unset .unset .unset) [(.ref wa78)])) rfl (by rw [hml]; rfl) rfl (hb hby at_167) (W := 0) (by show 2 * 0 + _ ≤ _; exact Nat.le_of_eq rfl) (by decide) (by decide) (by decide) (by decide)
      have N99 := Fr.app N90 N99q
      have go100 : Go p.tables e below T99 (mkF m 182 (LW p1 q2 q3 q4 p5 rr xa xb xc cc (.val (.ref b2)) (.val (.ref b11)) (.val (.ref b22)) (.val (.ref b11)) (.val (.ref b78)) (.val (.ref wa78)) .unset .unset .unset) [(.int (0 : Int32)), (.ref wa78)]) s₁ (entryFrame m #[(.int p1), (.long q2), (.long q3), (.long q4), (.int p5)] maxLocals) := by
        intro t k
        refine go94 t ?_
        show Steps _ _ _ (T90.setTop (mkF m 167 (LW p1 q2 q3 q4 p5 rr xa xb xc cc (.val (.ref b2)) (.val (.ref b11)) (.val (.ref b22)) (.val (.ref b11)) (.val (.ref b78)) (.val (.ref wa78)) .unset .unset .unset) [(.ref wa78)])) _
        refine st99.trans ?_
        show Steps _ _ _ (T99.setTop (mkF m 172 (LW p1 q2 q3 q4 p5 rr xa xb xc cc (.val (.ref b2)) (.val (.ref b11)) (.val (.ref b22)) (.val (.ref b11)) (.val (.ref b78)) (.val (.ref wa78)) .unset .unset .unset) [(.int (2 : Int32))])) _
        refine XS.iload X99.here hx rfl (hb hby at_172) rfl ?_
        show Steps _ _ _ (T99.setTop (mkF m 174 (LW p1 q2 q3 q4 p5 rr xa xb xc cc (.val (.ref b2)) (.val (.ref b11)) (.val (.ref b22)) (.val (.ref b11)) (.val (.ref b78)) (.val (.ref wa78)) .unset .unset .unset) [(.int cc), (.int (2 : Int32))])) _
        refine XS.icmpYes X99.here hx rfl (pc0 := 174) (pc' := 179) rfl (hb hby at_174) rfl (teq hc120.symm).1 (by decide) (by decide) ?_
        show Steps _ _ _ (T99.setTop (mkF m 179 (LW p1 q2 q3 q4 p5 rr xa xb xc cc (.val (.ref b2)) (.val (.ref b11)) (.val (.ref b22)) (.val (.ref b11)) (.val (.ref b78)) (.val (.ref wa78)) .unset .unset .unset) [])) _
        refine XS.aload X99.here hx rfl (hb hby at_179) rfl rfl ?_
        show Steps _ _ _ (T99.setTop (mkF m 181 (LW p1 q2 q3 q4 p5 rr xa xb xc cc (.val (.ref b2)) (.val (.ref b11)) (.val (.ref b22)) (.val (.ref b11)) (.val (.ref b78)) (.val (.ref wa78)) .unset .unset .unset) [(.ref wa78)])) _
        refine XS.iconst X99.here hx rfl (hb hby at_181) ?_
        exact k
      obtain ⟨T101, L101, X101, N101q, e101, st101⟩ := own_lget l Z a0 hw X99 hx hZ hown (wk hw 151 rfl) e99 f86 f93 f95 f97 f96 f98 rfl (by decide) (by decide) (g := (mkF m 182 (LW p1 q2 q3 q4 p5 rr xa xb xc cc (.val (.ref b2)) (.val (.ref b11)) (.val (.ref b22)) (.val (.ref b11)) (.val (.ref b78)) (.val (.ref wa78)) .unset .unset .unset) [(.int (0 : Int32)), (.ref wa78)])) rfl (by rw [hml]; rfl) rfl (hb hby at_182) (W := 0) (by show 2 * 0 + _ ≤ _; exact Nat.le_of_eq rfl) (by decide) (by decide) (by decide) (by decide)
      have N101 := Fr.app N99 N101q
      have go103 : Go p.tables e below T101 (mkF m 187 (LW p1 q2 q3 q4 p5 rr xa xb xc cc (.val (.ref b2)) (.val (.ref b11)) (.val (.ref b22)) (.val (.ref b11)) (.val (.ref b78)) (.val (.ref wa78)) .unset .unset .unset) [(.ref y1_78)]) s₁ (entryFrame m #[(.int p1), (.long q2), (.long q3), (.long q4), (.int p5)] maxLocals) := by
        intro t k
        refine go100 t ?_
        show Steps _ _ _ (T99.setTop (mkF m 182 (LW p1 q2 q3 q4 p5 rr xa xb xc cc (.val (.ref b2)) (.val (.ref b11)) (.val (.ref b22)) (.val (.ref b11)) (.val (.ref b78)) (.val (.ref wa78)) .unset .unset .unset) [(.int (0 : Int32)), (.ref wa78)])) _
        refine st101.trans ?_
        exact k
      have f102 : Exa Z h84 y1_78 "java/lang/Long" := (Ey1_78.wr W84)
      obtain ⟨T104, X104, e104, st104⟩ := castY X101 hx hZ hown (wk hw 178 rfl) e101 (Ins.self f102) (g := (mkF m 187 (LW p1 q2 q3 q4 p5 rr xa xb xc cc (.val (.ref b2)) (.val (.ref b11)) (.val (.ref b22)) (.val (.ref b11)) (.val (.ref b78)) (.val (.ref wa78)) .unset .unset .unset) [(.ref y1_78)])) rfl rfl (hb hby at_187)
      have go107 : Go p.tables e below T104 (mkF m 190 (LW p1 q2 q3 q4 p5 rr xa xb xc cc (.val (.ref b2)) (.val (.ref b11)) (.val (.ref b22)) (.val (.ref b11)) (.val (.ref b78)) (.val (.ref wa78)) .unset .unset .unset) [(.ref y1_78)]) s₁ (entryFrame m #[(.int p1), (.long q2), (.long q3), (.long q4), (.int p5)] maxLocals) := by
        intro t k
        refine go103 t ?_
        show Steps _ _ _ (T101.setTop (mkF m 187 (LW p1 q2 q3 q4 p5 rr xa xb xc cc (.val (.ref b2)) (.val (.ref b11)) (.val (.ref b22)) (.val (.ref b11)) (.val (.ref b78)) (.val (.ref wa78)) .unset .unset .unset) [(.ref y1_78)])) _
        refine st104 _ ?_
        exact k
      have f106 : Fld Z h84 y1_78 "java/lang/Long" "value" "J" (.long xa) := (Fy1_78.other W84 (Or.inl ne_y1_78))
      obtain ⟨cq105, kq105, q105a, q105b, q105c⟩ := isOf hZ e104 f102
      obtain ⟨_, _, ⟨T105, L105, k105, n105⟩, -, X105, ⟨Lc105, hQ105, l105, y105, z105⟩, st105⟩ := X104.virtualBack hx (y := (⟨"java/lang/Long", "longValue", "()J"⟩ : MethodName)) (z := (⟨"java/lang/Long", "longValue", "()J"⟩ : MethodName)) hown (mvT hZ (wk hw 180 rfl)) (mvT hZ (wk hw 181 rfl)) (notFace_of_selects (args := #[]) (mvT hZ (wk hw 183 rfl))) (mvT hZ (wk hw 183 rfl)) (mvT hZ (wk hw 182 rfl)) (by decide) (backOf (W := 0) (rm24 l Z a0 hw [] y1_78 xa h84 n0 f86 f106) hZ (wk hw 184 rfl) (wk hw 38 rfl) (by decide) (by decide)) q105a q105c (g := (mkF m 190 (LW p1 q2 q3 q4 p5 rr xa xb xc cc (.val (.ref b2)) (.val (.ref b11)) (.val (.ref b22)) (.val (.ref b11)) (.val (.ref b78)) (.val (.ref wa78)) .unset .unset .unset) [(.ref y1_78)])) rfl (by rw [hml]; rfl) (Steps.refl _) (argsL := []) (rest := []) (lenOf pd_9 rfl) rfl (by show 2 * 0 + _ ≤ _; exact Nat.le_of_eq rfl) (hb hby at_190) (fun _ _ => ⟨rfl, e104, (by decide : 9 + 0 ≤ _), (by decide : 18 + 0 ≤ _)⟩)
      dsimp only [Pt.U, Pt.locs, Pt.cells, Pt.slots] at X105 l105 y105 z105 st105 hQ105
      subst l105 y105 z105
      obtain ⟨rfl, N105q, e105⟩ := hQ105
      have N105 := Fr.app N101 N105q
      have go108 : Go p.tables e below T105 (mkF m 210 (LW p1 q2 q3 q4 p5 rr xa xb xc cc (.val (.ref b2)) (.val (.ref b11)) (.val (.ref b22)) (.val (.ref b11)) (.val (.ref b78)) (.val (.ref wa78)) .unset .unset .unset) [(.int (1 : Int32)), (.ref wa78)]) s₁ (entryFrame m #[(.int p1), (.long q2), (.long q3), (.long q4), (.int p5)] maxLocals) := by
        intro t k
        refine go107 t ?_
        show Steps _ _ _ (T104.setTop (mkF m 190 (LW p1 q2 q3 q4 p5 rr xa xb xc cc (.val (.ref b2)) (.val (.ref b11)) (.val (.ref b22)) (.val (.ref b11)) (.val (.ref b78)) (.val (.ref wa78)) .unset .unset .unset) [(.ref y1_78)])) _
        refine st105.trans ?_
        show Steps _ _ _ (T105.setTop (mkF m 193 (LW p1 q2 q3 q4 p5 rr xa xb xc cc (.val (.ref b2)) (.val (.ref b11)) (.val (.ref b22)) (.val (.ref b11)) (.val (.ref b78)) (.val (.ref wa78)) .unset .unset .unset) [(.long xa)])) _
        refine XS.lload X105.here hx rfl (hb hby at_193) rfl ?_
        show Steps _ _ _ (T105.setTop (mkF m 195 (LW p1 q2 q3 q4 p5 rr xa xb xc cc (.val (.ref b2)) (.val (.ref b11)) (.val (.ref b22)) (.val (.ref b11)) (.val (.ref b78)) (.val (.ref wa78)) .unset .unset .unset) [(.long xa), (.long xa)])) _
        refine XS.lcmp X105.here hx rfl (hb hby at_195) rfl ?_
        show Steps _ _ _ (T105.setTop (mkF m 196 (LW p1 q2 q3 q4 p5 rr xa xb xc cc (.val (.ref b2)) (.val (.ref b11)) (.val (.ref b22)) (.val (.ref b11)) (.val (.ref b78)) (.val (.ref wa78)) .unset .unset .unset) [(.int (lcmpW xa xa))])) _
        refine XS.ifYes X105.here hx rfl (pc0 := 196) (pc' := 201) rfl (hb hby at_196) rfl ((if0 _ _).trans (teq ((lw_eq _ _).mpr rfl)).1) (by decide) (by decide) ?_
        show Steps _ _ _ (T105.setTop (mkF m 201 (LW p1 q2 q3 q4 p5 rr xa xb xc cc (.val (.ref b2)) (.val (.ref b11)) (.val (.ref b22)) (.val (.ref b11)) (.val (.ref b78)) (.val (.ref wa78)) .unset .unset .unset) [])) _
        refine XS.iload X105.here hx rfl (hb hby at_201) rfl ?_
        show Steps _ _ _ (T105.setTop (mkF m 203 (LW p1 q2 q3 q4 p5 rr xa xb xc cc (.val (.ref b2)) (.val (.ref b11)) (.val (.ref b22)) (.val (.ref b11)) (.val (.ref b78)) (.val (.ref wa78)) .unset .unset .unset) [(.int cc)])) _
        refine XS.iconst X105.here hx rfl (hb hby at_203) ?_
        show Steps _ _ _ (T105.setTop (mkF m 204 (LW p1 q2 q3 q4 p5 rr xa xb xc cc (.val (.ref b2)) (.val (.ref b11)) (.val (.ref b22)) (.val (.ref b11)) (.val (.ref b78)) (.val (.ref wa78)) .unset .unset .unset) [(.int (2 : Int32)), (.int cc)])) _
        refine XS.icmpNo X105.here hx rfl (hb hby at_204) rfl (flt (by rw [hc120]; decide)).1 ?_
        show Steps _ _ _ (T105.setTop (mkF m 207 (LW p1 q2 q3 q4 p5 rr xa xb xc cc (.val (.ref b2)) (.val (.ref b11)) (.val (.ref b22)) (.val (.ref b11)) (.val (.ref b78)) (.val (.ref wa78)) .unset .unset .unset) [])) _
        refine XS.aload X105.here hx rfl (hb hby at_207) rfl rfl ?_
        show Steps _ _ _ (T105.setTop (mkF m 209 (LW p1 q2 q3 q4 p5 rr xa xb xc cc (.val (.ref b2)) (.val (.ref b11)) (.val (.ref b22)) (.val (.ref b11)) (.val (.ref b78)) (.val (.ref wa78)) .unset .unset .unset) [(.ref wa78)])) _
        refine XS.iconst X105.here hx rfl (hb hby at_209) ?_
        exact k
      obtain ⟨T109, L109, X109, N109q, e109, st109⟩ := own_lget l Z a0 hw X105 hx hZ hown (wk hw 151 rfl) e105 f86 f93 f95 f97 f96 f98 rfl (by decide) (by decide) (g := (mkF m 210 (LW p1 q2 q3 q4 p5 rr xa xb xc cc (.val (.ref b2)) (.val (.ref b11)) (.val (.ref b22)) (.val (.ref b11)) (.val (.ref b78)) (.val (.ref wa78)) .unset .unset .unset) [(.int (1 : Int32)), (.ref wa78)])) rfl (by rw [hml]; rfl) rfl (hb hby at_210) (W := 0) (by show 2 * 0 + _ ≤ _; exact Nat.le_of_eq rfl) (by decide) (by decide) (by decide) (by decide)
      have N109 := Fr.app N105 N109q
      have go111 : Go p.tables e below T109 (mkF m 215 (LW p1 q2 q3 q4 p5 rr xa xb xc cc (.val (.ref b2)) (.val (.ref b11)) (.val (.ref b22)) (.val (.ref b11)) (.val (.ref b78)) (.val (.ref wa78)) .unset .unset .unset) [(.ref y2_78)]) s₁ (entryFrame m #[(.int p1), (.long q2), (.long q3), (.long q4), (.int p5)] maxLocals) := by
        intro t k
        refine go108 t ?_
        show Steps _ _ _ (T105.setTop (mkF m 210 (LW p1 q2 q3 q4 p5 rr xa xb xc cc (.val (.ref b2)) (.val (.ref b11)) (.val (.ref b22)) (.val (.ref b11)) (.val (.ref b78)) (.val (.ref wa78)) .unset .unset .unset) [(.int (1 : Int32)), (.ref wa78)])) _
        refine st109.trans ?_
        exact k
      have f110 : Exa Z h84 y2_78 "java/lang/Long" := (Ey2_78.wr W84)
      obtain ⟨T112, X112, e112, st112⟩ := castY X109 hx hZ hown (wk hw 178 rfl) e109 (Ins.self f110) (g := (mkF m 215 (LW p1 q2 q3 q4 p5 rr xa xb xc cc (.val (.ref b2)) (.val (.ref b11)) (.val (.ref b22)) (.val (.ref b11)) (.val (.ref b78)) (.val (.ref wa78)) .unset .unset .unset) [(.ref y2_78)])) rfl rfl (hb hby at_215)
      have go115 : Go p.tables e below T112 (mkF m 218 (LW p1 q2 q3 q4 p5 rr xa xb xc cc (.val (.ref b2)) (.val (.ref b11)) (.val (.ref b22)) (.val (.ref b11)) (.val (.ref b78)) (.val (.ref wa78)) .unset .unset .unset) [(.ref y2_78)]) s₁ (entryFrame m #[(.int p1), (.long q2), (.long q3), (.long q4), (.int p5)] maxLocals) := by
        intro t k
        refine go111 t ?_
        show Steps _ _ _ (T109.setTop (mkF m 215 (LW p1 q2 q3 q4 p5 rr xa xb xc cc (.val (.ref b2)) (.val (.ref b11)) (.val (.ref b22)) (.val (.ref b11)) (.val (.ref b78)) (.val (.ref wa78)) .unset .unset .unset) [(.ref y2_78)])) _
        refine st112 _ ?_
        exact k
      have f114 : Fld Z h84 y2_78 "java/lang/Long" "value" "J" (.long xb) := (Fy2_78.other W84 (Or.inl ne_y2_78))
      obtain ⟨cq113, kq113, q113a, q113b, q113c⟩ := isOf hZ e112 f110
      obtain ⟨_, _, ⟨T113, L113, k113, n113⟩, -, X113, ⟨Lc113, hQ113, l113, y113, z113⟩, st113⟩ := X112.virtualBack hx (y := (⟨"java/lang/Long", "longValue", "()J"⟩ : MethodName)) (z := (⟨"java/lang/Long", "longValue", "()J"⟩ : MethodName)) hown (mvT hZ (wk hw 180 rfl)) (mvT hZ (wk hw 181 rfl)) (notFace_of_selects (args := #[]) (mvT hZ (wk hw 183 rfl))) (mvT hZ (wk hw 183 rfl)) (mvT hZ (wk hw 182 rfl)) (by decide) (backOf (W := 0) (rm24 l Z a0 hw [] y2_78 xb h84 n0 f86 f114) hZ (wk hw 184 rfl) (wk hw 38 rfl) (by decide) (by decide)) q113a q113c (g := (mkF m 218 (LW p1 q2 q3 q4 p5 rr xa xb xc cc (.val (.ref b2)) (.val (.ref b11)) (.val (.ref b22)) (.val (.ref b11)) (.val (.ref b78)) (.val (.ref wa78)) .unset .unset .unset) [(.ref y2_78)])) rfl (by rw [hml]; rfl) (Steps.refl _) (argsL := []) (rest := []) (lenOf pd_9 rfl) rfl (by show 2 * 0 + _ ≤ _; exact Nat.le_of_eq rfl) (hb hby at_218) (fun _ _ => ⟨rfl, e112, (by decide : 9 + 0 ≤ _), (by decide : 18 + 0 ≤ _)⟩)
      dsimp only [Pt.U, Pt.locs, Pt.cells, Pt.slots] at X113 l113 y113 z113 st113 hQ113
      subst l113 y113 z113
      obtain ⟨rfl, N113q, e113⟩ := hQ113
      have N113 := Fr.app N109 N113q
      have go116 : Go p.tables e below T113 (mkF m 260 (LW p1 q2 q3 q4 p5 rr xa xb xc cc (.val (.ref b2)) (.val (.ref b11)) (.val (.ref b22)) (.val (.ref b11)) (.val (.ref b78)) (.val (.ref wa78)) .unset .unset .unset) [(.int (1 : Int32)), (.int rr)]) s₁ (entryFrame m #[(.int p1), (.long q2), (.long q3), (.long q4), (.int p5)] maxLocals) := by
        intro t k
        refine go115 t ?_
        show Steps _ _ _ (T112.setTop (mkF m 218 (LW p1 q2 q3 q4 p5 rr xa xb xc cc (.val (.ref b2)) (.val (.ref b11)) (.val (.ref b22)) (.val (.ref b11)) (.val (.ref b78)) (.val (.ref wa78)) .unset .unset .unset) [(.ref y2_78)])) _
        refine st113.trans ?_
        show Steps _ _ _ (T113.setTop (mkF m 221 (LW p1 q2 q3 q4 p5 rr xa xb xc cc (.val (.ref b2)) (.val (.ref b11)) (.val (.ref b22)) (.val (.ref b11)) (.val (.ref b78)) (.val (.ref wa78)) .unset .unset .unset) [(.long xb)])) _
        refine XS.lload X113.here hx rfl (hb hby at_221) rfl ?_
        show Steps _ _ _ (T113.setTop (mkF m 223 (LW p1 q2 q3 q4 p5 rr xa xb xc cc (.val (.ref b2)) (.val (.ref b11)) (.val (.ref b22)) (.val (.ref b11)) (.val (.ref b78)) (.val (.ref wa78)) .unset .unset .unset) [(.long xb), (.long xb)])) _
        refine XS.lcmp X113.here hx rfl (hb hby at_223) rfl ?_
        show Steps _ _ _ (T113.setTop (mkF m 224 (LW p1 q2 q3 q4 p5 rr xa xb xc cc (.val (.ref b2)) (.val (.ref b11)) (.val (.ref b22)) (.val (.ref b11)) (.val (.ref b78)) (.val (.ref wa78)) .unset .unset .unset) [(.int (lcmpW xb xb))])) _
        refine XS.ifYes X113.here hx rfl (pc0 := 224) (pc' := 229) rfl (hb hby at_224) rfl ((if0 _ _).trans (teq ((lw_eq _ _).mpr rfl)).1) (by decide) (by decide) ?_
        show Steps _ _ _ (T113.setTop (mkF m 229 (LW p1 q2 q3 q4 p5 rr xa xb xc cc (.val (.ref b2)) (.val (.ref b11)) (.val (.ref b22)) (.val (.ref b11)) (.val (.ref b78)) (.val (.ref wa78)) .unset .unset .unset) [])) _
        refine XS.iload X113.here hx rfl (hb hby at_229) rfl ?_
        show Steps _ _ _ (T113.setTop (mkF m 231 (LW p1 q2 q3 q4 p5 rr xa xb xc cc (.val (.ref b2)) (.val (.ref b11)) (.val (.ref b22)) (.val (.ref b11)) (.val (.ref b78)) (.val (.ref wa78)) .unset .unset .unset) [(.int cc)])) _
        refine XS.iconst X113.here hx rfl (hb hby at_231) ?_
        show Steps _ _ _ (T113.setTop (mkF m 232 (LW p1 q2 q3 q4 p5 rr xa xb xc cc (.val (.ref b2)) (.val (.ref b11)) (.val (.ref b22)) (.val (.ref b11)) (.val (.ref b78)) (.val (.ref wa78)) .unset .unset .unset) [(.int (3 : Int32)), (.int cc)])) _
        refine XS.icmpYes X113.here hx rfl (pc0 := 232) (pc' := 257) rfl (hb hby at_232) rfl (tlt (by rw [hc120]; decide)).1 (by decide) (by decide) ?_
        show Steps _ _ _ (T113.setTop (mkF m 257 (LW p1 q2 q3 q4 p5 rr xa xb xc cc (.val (.ref b2)) (.val (.ref b11)) (.val (.ref b22)) (.val (.ref b11)) (.val (.ref b78)) (.val (.ref wa78)) .unset .unset .unset) [])) _
        refine XS.iload X113.here hx rfl (hb hby at_257) rfl ?_
        show Steps _ _ _ (T113.setTop (mkF m 259 (LW p1 q2 q3 q4 p5 rr xa xb xc cc (.val (.ref b2)) (.val (.ref b11)) (.val (.ref b22)) (.val (.ref b11)) (.val (.ref b78)) (.val (.ref wa78)) .unset .unset .unset) [(.int rr)])) _
        refine XS.iconst X113.here hx rfl (hb hby at_259) ?_
        exact k
      by_cases hc260 : rr < (1 : Int32)
      · skip
        have go117 : Go p.tables e below T113 (mkF m 314 (LW p1 q2 q3 q4 p5 rr xa xb xc cc (.val (.ref b2)) (.val (.ref b11)) (.val (.ref b22)) (.val (.ref b11)) (.val (.ref b78)) (.val (.ref wa78)) .unset .unset .unset) [(.int (1 : Int32))]) s₁ (entryFrame m #[(.int p1), (.long q2), (.long q3), (.long q4), (.int p5)] maxLocals) := by
          intro t k
          refine go116 t ?_
          show Steps _ _ _ (T113.setTop (mkF m 260 (LW p1 q2 q3 q4 p5 rr xa xb xc cc (.val (.ref b2)) (.val (.ref b11)) (.val (.ref b22)) (.val (.ref b11)) (.val (.ref b78)) (.val (.ref wa78)) .unset .unset .unset) [(.int (1 : Int32)), (.int rr)])) _
          refine XS.icmpYes X113.here hx rfl (pc0 := 260) (pc' := 313) rfl (hb hby at_260) rfl (tlt hc260).1 (by decide) (by decide) ?_
          show Steps _ _ _ (T113.setTop (mkF m 313 (LW p1 q2 q3 q4 p5 rr xa xb xc cc (.val (.ref b2)) (.val (.ref b11)) (.val (.ref b22)) (.val (.ref b11)) (.val (.ref b78)) (.val (.ref wa78)) .unset .unset .unset) [])) _
          refine XS.iconst X113.here hx rfl (hb hby at_313) ?_
          exact k
        obtain ⟨fs, hr, hrun, hended, hW, hsame⟩ := X113.leave (v := some (.int (1 : Int32))) (fun h => by rw [Bd.returns] at h; cases h)
        refine ⟨_, _, go117 _ ?_, hrun, hended, _, _, rfl, ?_, ⟨_, rfl⟩, hW, hsame.mono (by decide) (by decide)⟩
        · exact retN X113 hx (t := .boolean) Bd.returns (by simp) (hb hby at_314) hr
        · show QL (.int 1) h0 n0 _ T113.heap _
          rw [e113]
          exact ⟨rfl, N113⟩
      · skip
        have go118 : Go p.tables e below T113 (mkF m 263 (LW p1 q2 q3 q4 p5 rr xa xb xc cc (.val (.ref b2)) (.val (.ref b11)) (.val (.ref b22)) (.val (.ref b11)) (.val (.ref b78)) (.val (.ref wa78)) .unset .unset .unset) []) s₁ (entryFrame m #[(.int p1), (.long q2), (.long q3), (.long q4), (.int p5)] maxLocals) := by
          intro t k
          refine go116 t ?_
          show Steps _ _ _ (T113.setTop (mkF m 260 (LW p1 q2 q3 q4 p5 rr xa xb xc cc (.val (.ref b2)) (.val (.ref b11)) (.val (.ref b22)) (.val (.ref b11)) (.val (.ref b78)) (.val (.ref wa78)) .unset .unset .unset) [(.int (1 : Int32)), (.int rr)])) _
          refine XS.icmpNo X113.here hx rfl (hb hby at_260) rfl (flt hc260).1 ?_
          exact k
        by_cases hl1 : rr = (1 : Int32)
        · skip
          have hmin : (if (2 : Int32) < rr then (2 : Int32) else rr) = (1 : Int32) := (by rw [hl1]; decide)
          have go120 : Go p.tables e below T113 (mkF m 267 (LW p1 q2 q3 q4 p5 rr xa xb xc cc (.val (.ref b2)) (.val (.ref b11)) (.val (.ref b22)) (.val (.ref b11)) (.val (.ref b78)) (.val (.ref wa78)) .unset .unset .unset) [(.int cc), (.int rr)]) s₁ (entryFrame m #[(.int p1), (.long q2), (.long q3), (.long q4), (.int p5)] maxLocals) := by
            intro t k
            refine go118 t ?_
            show Steps _ _ _ (T113.setTop (mkF m 263 (LW p1 q2 q3 q4 p5 rr xa xb xc cc (.val (.ref b2)) (.val (.ref b11)) (.val (.ref b22)) (.val (.ref b11)) (.val (.ref b78)) (.val (.ref wa78)) .unset .unset .unset) [])) _
            refine XS.iload X113.here hx rfl (hb hby at_263) rfl ?_
            show Steps _ _ _ (T113.setTop (mkF m 265 (LW p1 q2 q3 q4 p5 rr xa xb xc cc (.val (.ref b2)) (.val (.ref b11)) (.val (.ref b22)) (.val (.ref b11)) (.val (.ref b78)) (.val (.ref wa78)) .unset .unset .unset) [(.int rr)])) _
            refine XS.iload X113.here hx rfl (hb hby at_265) rfl ?_
            exact k
          obtain ⟨_, _, ⟨T119, L119, k119, n119⟩, -, X119, ⟨Lc119, hQ119, l119, y119, z119⟩, st119⟩ := Jvm.LawKit.callS X113 hx (y := (⟨"java/lang/Math", "min", "(II)I"⟩ : MethodName)) hown (mvT hZ (wk hw 199 rfl)) (mvT hZ (wk hw 200 rfl)) (mvT hZ (wk hw 201 rfl)) (mvT hZ (wk hw 202 rfl)) (by decide) (backOf (W := 0) (rm27 l Z a0 hw [] rr cc h84 n0 f86) hZ (wk hw 202 rfl) (wk hw 201 rfl) (by decide) (by decide)) (g := (mkF m 267 (LW p1 q2 q3 q4 p5 rr xa xb xc cc (.val (.ref b2)) (.val (.ref b11)) (.val (.ref b22)) (.val (.ref b11)) (.val (.ref b78)) (.val (.ref wa78)) .unset .unset .unset) [(.int cc), (.int rr)])) rfl (by rw [hml]; rfl) (argsL := [(.int rr), (.int cc)]) (rest := []) (lenOf pd_6 rfl) rfl (by show 2 * 0 + _ ≤ _; exact Nat.le_of_eq rfl) (hb hby at_267) (fun _ _ => ⟨rfl, e113, (by decide : 9 + 0 ≤ _), (by decide : 18 + 0 ≤ _)⟩)
          dsimp only [Pt.U, Pt.locs, Pt.cells, Pt.slots] at X119 l119 y119 z119 st119 hQ119
          subst l119 y119 z119
          obtain ⟨hv119, N119q, e119⟩ := hQ119
          rw [hc120, hmin] at hv119
          subst hv119
          have N119 := Fr.app N113 N119q
          have go122 : Go p.tables e below T119 (mkF m 302 (LW p1 q2 q3 q4 p5 rr xa xb xc cc (.val (.ref b2)) (.val (.ref b11)) (.val (.ref b22)) (.val (.ref b11)) (.val (.ref b78)) (.val (.ref wa78)) (.val (.int (1 : Int32))) (.val (.long xa)) .second) [(.int rr), (.ref b78)]) s₁ (entryFrame m #[(.int p1), (.long q2), (.long q3), (.long q4), (.int p5)] maxLocals) := by
            intro t k
            refine go120 t ?_
            show Steps _ _ _ (T113.setTop (mkF m 267 (LW p1 q2 q3 q4 p5 rr xa xb xc cc (.val (.ref b2)) (.val (.ref b11)) (.val (.ref b22)) (.val (.ref b11)) (.val (.ref b78)) (.val (.ref wa78)) .unset .unset .unset) [(.int cc), (.int rr)])) _
            refine st119 _ ?_
            show Steps _ _ _ (T119.setTop (mkF m 270 (LW p1 q2 q3 q4 p5 rr xa xb xc cc (.val (.ref b2)) (.val (.ref b11)) (.val (.ref b22)) (.val (.ref b11)) (.val (.ref b78)) (.val (.ref wa78)) .unset .unset .unset) [(.int (1 : Int32))])) _
            refine XS.istore X119.here hx rfl (hb hby at_270) rfl (l' := (LW p1 q2 q3 q4 p5 rr xa xb xc cc (.val (.ref b2)) (.val (.ref b11)) (.val (.ref b22)) (.val (.ref b11)) (.val (.ref b78)) (.val (.ref wa78)) (.val (.int (1 : Int32))) .unset .unset)) rfl ?_
            show Steps _ _ _ (T119.setTop (mkF m 272 (LW p1 q2 q3 q4 p5 rr xa xb xc cc (.val (.ref b2)) (.val (.ref b11)) (.val (.ref b22)) (.val (.ref b11)) (.val (.ref b78)) (.val (.ref wa78)) (.val (.int (1 : Int32))) .unset .unset) [])) _
            refine XS.iload X119.here hx rfl (hb hby at_272) rfl ?_
            show Steps _ _ _ (T119.setTop (mkF m 274 (LW p1 q2 q3 q4 p5 rr xa xb xc cc (.val (.ref b2)) (.val (.ref b11)) (.val (.ref b22)) (.val (.ref b11)) (.val (.ref b78)) (.val (.ref wa78)) (.val (.int (1 : Int32))) .unset .unset) [(.int (1 : Int32))])) _
            refine XS.iconst X119.here hx rfl (hb hby at_274) ?_
            show Steps _ _ _ (T119.setTop (mkF m 275 (LW p1 q2 q3 q4 p5 rr xa xb xc cc (.val (.ref b2)) (.val (.ref b11)) (.val (.ref b22)) (.val (.ref b11)) (.val (.ref b78)) (.val (.ref wa78)) (.val (.int (1 : Int32))) .unset .unset) [(.int (1 : Int32)), (.int (1 : Int32))])) _
            refine XS.icmpNo X119.here hx rfl (hb hby at_275) rfl (teq rfl).2 ?_
            show Steps _ _ _ (T119.setTop (mkF m 278 (LW p1 q2 q3 q4 p5 rr xa xb xc cc (.val (.ref b2)) (.val (.ref b11)) (.val (.ref b22)) (.val (.ref b11)) (.val (.ref b78)) (.val (.ref wa78)) (.val (.int (1 : Int32))) .unset .unset) [])) _
            refine XS.lload X119.here hx rfl (hb hby at_278) rfl ?_
            show Steps _ _ _ (T119.setTop (mkF m 280 (LW p1 q2 q3 q4 p5 rr xa xb xc cc (.val (.ref b2)) (.val (.ref b11)) (.val (.ref b22)) (.val (.ref b11)) (.val (.ref b78)) (.val (.ref wa78)) (.val (.int (1 : Int32))) .unset .unset) [(.long xa)])) _
            refine XS.goto X119.here hx rfl (pc0 := 280) (pc' := 296) rfl (hb hby at_280) (by decide) (by decide) ?_
            show Steps _ _ _ (T119.setTop (mkF m 296 (LW p1 q2 q3 q4 p5 rr xa xb xc cc (.val (.ref b2)) (.val (.ref b11)) (.val (.ref b22)) (.val (.ref b11)) (.val (.ref b78)) (.val (.ref wa78)) (.val (.int (1 : Int32))) .unset .unset) [(.long xa)])) _
            refine XS.lstore X119.here hx rfl (hb hby at_296) rfl (l' := (LW p1 q2 q3 q4 p5 rr xa xb xc cc (.val (.ref b2)) (.val (.ref b11)) (.val (.ref b22)) (.val (.ref b11)) (.val (.ref b78)) (.val (.ref wa78)) (.val (.int (1 : Int32))) (.val (.long xa)) .second)) rfl ?_
            show Steps _ _ _ (T119.setTop (mkF m 298 (LW p1 q2 q3 q4 p5 rr xa xb xc cc (.val (.ref b2)) (.val (.ref b11)) (.val (.ref b22)) (.val (.ref b11)) (.val (.ref b78)) (.val (.ref wa78)) (.val (.int (1 : Int32))) (.val (.long xa)) .second) [])) _
            refine XS.aload X119.here hx rfl (hb hby at_298) rfl rfl ?_
            show Steps _ _ _ (T119.setTop (mkF m 300 (LW p1 q2 q3 q4 p5 rr xa xb xc cc (.val (.ref b2)) (.val (.ref b11)) (.val (.ref b22)) (.val (.ref b11)) (.val (.ref b78)) (.val (.ref wa78)) (.val (.int (1 : Int32))) (.val (.long xa)) .second) [(.ref b78)])) _
            refine XS.iload X119.here hx rfl (hb hby at_300) rfl ?_
            exact k
          obtain ⟨cq121, kq121, q121a, q121b, q121c⟩ := isOf hZ e119 f89
          obtain ⟨_, _, ⟨T121, L121, k121, n121⟩, -, X121, ⟨Lc121, hQ121, l121, y121, z121⟩, st121⟩ := X119.virtualBack hx (y := (⟨"com/example/nackoff/nackoff/RetryPolicy", "waitBeforeRetryMs", "(I)J"⟩ : MethodName)) (z := (⟨"com/example/nackoff/nackoff/RetryPolicy", "waitBeforeRetryMs", "(I)J"⟩ : MethodName)) hown (mvT hZ (wk hw 203 rfl)) (mvT hZ (wk hw 204 rfl)) (notFace_of_selects (args := #[]) (mvT hZ (wk hw 206 rfl))) (mvT hZ (wk hw 206 rfl)) (mvT hZ (wk hw 205 rfl)) (by decide) (backOf (W := 0) (rm28 l Z a0 hw [] b78 rr wa78 al78 ea78 kE78 (2 : Int32) (1 : Int32) y1_78 [(.ref y1_78), (.ref y2_78)] xa h84 n0 f86 f88 f91 f93 f95 f96 f97 f98 f102 f106 hc260 hmin rfl (by decide) (by decide)) hZ (wk hw 207 rfl) (wk hw 6 rfl) (by decide) (by decide)) q121a q121c (g := (mkF m 302 (LW p1 q2 q3 q4 p5 rr xa xb xc cc (.val (.ref b2)) (.val (.ref b11)) (.val (.ref b22)) (.val (.ref b11)) (.val (.ref b78)) (.val (.ref wa78)) (.val (.int (1 : Int32))) (.val (.long xa)) .second) [(.int rr), (.ref b78)])) rfl (by rw [hml]; rfl) (Steps.refl _) (argsL := [(.int rr)]) (rest := []) (lenOf pd_17 rfl) rfl (by show 2 * 0 + _ ≤ _; exact Nat.le_of_eq rfl) (hb hby at_302) (fun _ _ => ⟨rfl, e119, (by decide : 9 + 0 ≤ _), (by decide : 18 + 0 ≤ _)⟩)
          dsimp only [Pt.U, Pt.locs, Pt.cells, Pt.slots] at X121 l121 y121 z121 st121 hQ121
          subst l121 y121 z121
          obtain ⟨rfl, N121q, e121⟩ := hQ121
          have N121 := Fr.app N119 N121q
          have go123 : Go p.tables e below T121 (mkF m 314 (LW p1 q2 q3 q4 p5 rr xa xb xc cc (.val (.ref b2)) (.val (.ref b11)) (.val (.ref b22)) (.val (.ref b11)) (.val (.ref b78)) (.val (.ref wa78)) (.val (.int (1 : Int32))) (.val (.long xa)) .second) [(.int (1 : Int32))]) s₁ (entryFrame m #[(.int p1), (.long q2), (.long q3), (.long q4), (.int p5)] maxLocals) := by
            intro t k
            refine go122 t ?_
            show Steps _ _ _ (T119.setTop (mkF m 302 (LW p1 q2 q3 q4 p5 rr xa xb xc cc (.val (.ref b2)) (.val (.ref b11)) (.val (.ref b22)) (.val (.ref b11)) (.val (.ref b78)) (.val (.ref wa78)) (.val (.int (1 : Int32))) (.val (.long xa)) .second) [(.int rr), (.ref b78)])) _
            refine st121.trans ?_
            show Steps _ _ _ (T121.setTop (mkF m 305 (LW p1 q2 q3 q4 p5 rr xa xb xc cc (.val (.ref b2)) (.val (.ref b11)) (.val (.ref b22)) (.val (.ref b11)) (.val (.ref b78)) (.val (.ref wa78)) (.val (.int (1 : Int32))) (.val (.long xa)) .second) [(.long xa)])) _
            refine XS.lload X121.here hx rfl (hb hby at_305) rfl ?_
            show Steps _ _ _ (T121.setTop (mkF m 307 (LW p1 q2 q3 q4 p5 rr xa xb xc cc (.val (.ref b2)) (.val (.ref b11)) (.val (.ref b22)) (.val (.ref b11)) (.val (.ref b78)) (.val (.ref wa78)) (.val (.int (1 : Int32))) (.val (.long xa)) .second) [(.long xa), (.long xa)])) _
            refine XS.lcmp X121.here hx rfl (hb hby at_307) rfl ?_
            show Steps _ _ _ (T121.setTop (mkF m 308 (LW p1 q2 q3 q4 p5 rr xa xb xc cc (.val (.ref b2)) (.val (.ref b11)) (.val (.ref b22)) (.val (.ref b11)) (.val (.ref b78)) (.val (.ref wa78)) (.val (.int (1 : Int32))) (.val (.long xa)) .second) [(.int (lcmpW xa xa))])) _
            refine XS.ifYes X121.here hx rfl (pc0 := 308) (pc' := 313) rfl (hb hby at_308) rfl ((if0 _ _).trans (teq ((lw_eq _ _).mpr rfl)).1) (by decide) (by decide) ?_
            show Steps _ _ _ (T121.setTop (mkF m 313 (LW p1 q2 q3 q4 p5 rr xa xb xc cc (.val (.ref b2)) (.val (.ref b11)) (.val (.ref b22)) (.val (.ref b11)) (.val (.ref b78)) (.val (.ref wa78)) (.val (.int (1 : Int32))) (.val (.long xa)) .second) [])) _
            refine XS.iconst X121.here hx rfl (hb hby at_313) ?_
            exact k
          obtain ⟨fs, hr, hrun, hended, hW, hsame⟩ := X121.leave (v := some (.int (1 : Int32))) (fun h => by rw [Bd.returns] at h; cases h)
          refine ⟨_, _, go123 _ ?_, hrun, hended, _, _, rfl, ?_, ⟨_, rfl⟩, hW, hsame.mono (by decide) (by decide)⟩
          · exact retN X121 hx (t := .boolean) Bd.returns (by simp) (hb hby at_314) hr
          · show QL (.int 1) h0 n0 _ T121.heap _
            rw [e121]
            exact ⟨rfl, N121⟩
        · skip
          have hmin : (if (2 : Int32) < rr then (2 : Int32) else rr) = (2 : Int32) := own_minr (by decide : (2 : Int32).toInt = 2) (by decide) hc260 (own_no2 hl1)
          have go125 : Go p.tables e below T113 (mkF m 267 (LW p1 q2 q3 q4 p5 rr xa xb xc cc (.val (.ref b2)) (.val (.ref b11)) (.val (.ref b22)) (.val (.ref b11)) (.val (.ref b78)) (.val (.ref wa78)) .unset .unset .unset) [(.int cc), (.int rr)]) s₁ (entryFrame m #[(.int p1), (.long q2), (.long q3), (.long q4), (.int p5)] maxLocals) := by
            intro t k
            refine go118 t ?_
            show Steps _ _ _ (T113.setTop (mkF m 263 (LW p1 q2 q3 q4 p5 rr xa xb xc cc (.val (.ref b2)) (.val (.ref b11)) (.val (.ref b22)) (.val (.ref b11)) (.val (.ref b78)) (.val (.ref wa78)) .unset .unset .unset) [])) _
            refine XS.iload X113.here hx rfl (hb hby at_263) rfl ?_
            show Steps _ _ _ (T113.setTop (mkF m 265 (LW p1 q2 q3 q4 p5 rr xa xb xc cc (.val (.ref b2)) (.val (.ref b11)) (.val (.ref b22)) (.val (.ref b11)) (.val (.ref b78)) (.val (.ref wa78)) .unset .unset .unset) [(.int rr)])) _
            refine XS.iload X113.here hx rfl (hb hby at_265) rfl ?_
            exact k
          obtain ⟨_, _, ⟨T124, L124, k124, n124⟩, -, X124, ⟨Lc124, hQ124, l124, y124, z124⟩, st124⟩ := Jvm.LawKit.callS X113 hx (y := (⟨"java/lang/Math", "min", "(II)I"⟩ : MethodName)) hown (mvT hZ (wk hw 199 rfl)) (mvT hZ (wk hw 200 rfl)) (mvT hZ (wk hw 201 rfl)) (mvT hZ (wk hw 202 rfl)) (by decide) (backOf (W := 0) (rm27 l Z a0 hw [] rr cc h84 n0 f86) hZ (wk hw 202 rfl) (wk hw 201 rfl) (by decide) (by decide)) (g := (mkF m 267 (LW p1 q2 q3 q4 p5 rr xa xb xc cc (.val (.ref b2)) (.val (.ref b11)) (.val (.ref b22)) (.val (.ref b11)) (.val (.ref b78)) (.val (.ref wa78)) .unset .unset .unset) [(.int cc), (.int rr)])) rfl (by rw [hml]; rfl) (argsL := [(.int rr), (.int cc)]) (rest := []) (lenOf pd_6 rfl) rfl (by show 2 * 0 + _ ≤ _; exact Nat.le_of_eq rfl) (hb hby at_267) (fun _ _ => ⟨rfl, e113, (by decide : 9 + 0 ≤ _), (by decide : 18 + 0 ≤ _)⟩)
          dsimp only [Pt.U, Pt.locs, Pt.cells, Pt.slots] at X124 l124 y124 z124 st124 hQ124
          subst l124 y124 z124
          obtain ⟨hv124, N124q, e124⟩ := hQ124
          rw [hc120, hmin] at hv124
          subst hv124
          have N124 := Fr.app N113 N124q
          have go127 : Go p.tables e below T124 (mkF m 302 (LW p1 q2 q3 q4 p5 rr xa xb xc cc (.val (.ref b2)) (.val (.ref b11)) (.val (.ref b22)) (.val (.ref b11)) (.val (.ref b78)) (.val (.ref wa78)) (.val (.int (2 : Int32))) (.val (.long xb)) .second) [(.int rr), (.ref b78)]) s₁ (entryFrame m #[(.int p1), (.long q2), (.long q3), (.long q4), (.int p5)] maxLocals) := by
            intro t k
            refine go125 t ?_
            show Steps _ _ _ (T113.setTop (mkF m 267 (LW p1 q2 q3 q4 p5 rr xa xb xc cc (.val (.ref b2)) (.val (.ref b11)) (.val (.ref b22)) (.val (.ref b11)) (.val (.ref b78)) (.val (.ref wa78)) .unset .unset .unset) [(.int cc), (.int rr)])) _
            refine st124 _ ?_
            show Steps _ _ _ (T124.setTop (mkF m 270 (LW p1 q2 q3 q4 p5 rr xa xb xc cc (.val (.ref b2)) (.val (.ref b11)) (.val (.ref b22)) (.val (.ref b11)) (.val (.ref b78)) (.val (.ref wa78)) .unset .unset .unset) [(.int (2 : Int32))])) _
            refine XS.istore X124.here hx rfl (hb hby at_270) rfl (l' := (LW p1 q2 q3 q4 p5 rr xa xb xc cc (.val (.ref b2)) (.val (.ref b11)) (.val (.ref b22)) (.val (.ref b11)) (.val (.ref b78)) (.val (.ref wa78)) (.val (.int (2 : Int32))) .unset .unset)) rfl ?_
            show Steps _ _ _ (T124.setTop (mkF m 272 (LW p1 q2 q3 q4 p5 rr xa xb xc cc (.val (.ref b2)) (.val (.ref b11)) (.val (.ref b22)) (.val (.ref b11)) (.val (.ref b78)) (.val (.ref wa78)) (.val (.int (2 : Int32))) .unset .unset) [])) _
            refine XS.iload X124.here hx rfl (hb hby at_272) rfl ?_
            show Steps _ _ _ (T124.setTop (mkF m 274 (LW p1 q2 q3 q4 p5 rr xa xb xc cc (.val (.ref b2)) (.val (.ref b11)) (.val (.ref b22)) (.val (.ref b11)) (.val (.ref b78)) (.val (.ref wa78)) (.val (.int (2 : Int32))) .unset .unset) [(.int (2 : Int32))])) _
            refine XS.iconst X124.here hx rfl (hb hby at_274) ?_
            show Steps _ _ _ (T124.setTop (mkF m 275 (LW p1 q2 q3 q4 p5 rr xa xb xc cc (.val (.ref b2)) (.val (.ref b11)) (.val (.ref b22)) (.val (.ref b11)) (.val (.ref b78)) (.val (.ref wa78)) (.val (.int (2 : Int32))) .unset .unset) [(.int (1 : Int32)), (.int (2 : Int32))])) _
            refine XS.icmpYes X124.here hx rfl (pc0 := 275) (pc' := 283) rfl (hb hby at_275) rfl (feq (by decide)).2 (by decide) (by decide) ?_
            show Steps _ _ _ (T124.setTop (mkF m 283 (LW p1 q2 q3 q4 p5 rr xa xb xc cc (.val (.ref b2)) (.val (.ref b11)) (.val (.ref b22)) (.val (.ref b11)) (.val (.ref b78)) (.val (.ref wa78)) (.val (.int (2 : Int32))) .unset .unset) [])) _
            refine XS.iload X124.here hx rfl (hb hby at_283) rfl ?_
            show Steps _ _ _ (T124.setTop (mkF m 285 (LW p1 q2 q3 q4 p5 rr xa xb xc cc (.val (.ref b2)) (.val (.ref b11)) (.val (.ref b22)) (.val (.ref b11)) (.val (.ref b78)) (.val (.ref wa78)) (.val (.int (2 : Int32))) .unset .unset) [(.int (2 : Int32))])) _
            refine XS.iconst X124.here hx rfl (hb hby at_285) ?_
            show Steps _ _ _ (T124.setTop (mkF m 286 (LW p1 q2 q3 q4 p5 rr xa xb xc cc (.val (.ref b2)) (.val (.ref b11)) (.val (.ref b22)) (.val (.ref b11)) (.val (.ref b78)) (.val (.ref wa78)) (.val (.int (2 : Int32))) .unset .unset) [(.int (2 : Int32)), (.int (2 : Int32))])) _
            refine XS.icmpNo X124.here hx rfl (hb hby at_286) rfl (teq rfl).2 ?_
            show Steps _ _ _ (T124.setTop (mkF m 289 (LW p1 q2 q3 q4 p5 rr xa xb xc cc (.val (.ref b2)) (.val (.ref b11)) (.val (.ref b22)) (.val (.ref b11)) (.val (.ref b78)) (.val (.ref wa78)) (.val (.int (2 : Int32))) .unset .unset) [])) _
            refine XS.lload X124.here hx rfl (hb hby at_289) rfl ?_
            show Steps _ _ _ (T124.setTop (mkF m 291 (LW p1 q2 q3 q4 p5 rr xa xb xc cc (.val (.ref b2)) (.val (.ref b11)) (.val (.ref b22)) (.val (.ref b11)) (.val (.ref b78)) (.val (.ref wa78)) (.val (.int (2 : Int32))) .unset .unset) [(.long xb)])) _
            refine XS.goto X124.here hx rfl (pc0 := 291) (pc' := 296) rfl (hb hby at_291) (by decide) (by decide) ?_
            show Steps _ _ _ (T124.setTop (mkF m 296 (LW p1 q2 q3 q4 p5 rr xa xb xc cc (.val (.ref b2)) (.val (.ref b11)) (.val (.ref b22)) (.val (.ref b11)) (.val (.ref b78)) (.val (.ref wa78)) (.val (.int (2 : Int32))) .unset .unset) [(.long xb)])) _
            refine XS.lstore X124.here hx rfl (hb hby at_296) rfl (l' := (LW p1 q2 q3 q4 p5 rr xa xb xc cc (.val (.ref b2)) (.val (.ref b11)) (.val (.ref b22)) (.val (.ref b11)) (.val (.ref b78)) (.val (.ref wa78)) (.val (.int (2 : Int32))) (.val (.long xb)) .second)) rfl ?_
            show Steps _ _ _ (T124.setTop (mkF m 298 (LW p1 q2 q3 q4 p5 rr xa xb xc cc (.val (.ref b2)) (.val (.ref b11)) (.val (.ref b22)) (.val (.ref b11)) (.val (.ref b78)) (.val (.ref wa78)) (.val (.int (2 : Int32))) (.val (.long xb)) .second) [])) _
            refine XS.aload X124.here hx rfl (hb hby at_298) rfl rfl ?_
            show Steps _ _ _ (T124.setTop (mkF m 300 (LW p1 q2 q3 q4 p5 rr xa xb xc cc (.val (.ref b2)) (.val (.ref b11)) (.val (.ref b22)) (.val (.ref b11)) (.val (.ref b78)) (.val (.ref wa78)) (.val (.int (2 : Int32))) (.val (.long xb)) .second) [(.ref b78)])) _
            refine XS.iload X124.here hx rfl (hb hby at_300) rfl ?_
            exact k
          obtain ⟨cq126, kq126, q126a, q126b, q126c⟩ := isOf hZ e124 f89
          obtain ⟨_, _, ⟨T126, L126, k126, n126⟩, -, X126, ⟨Lc126, hQ126, l126, y126, z126⟩, st126⟩ := X124.virtualBack hx (y := (⟨"com/example/nackoff/nackoff/RetryPolicy", "waitBeforeRetryMs", "(I)J"⟩ : MethodName)) (z := (⟨"com/example/nackoff/nackoff/RetryPolicy", "waitBeforeRetryMs", "(I)J"⟩ : MethodName)) hown (mvT hZ (wk hw 203 rfl)) (mvT hZ (wk hw 204 rfl)) (notFace_of_selects (args := #[]) (mvT hZ (wk hw 206 rfl))) (mvT hZ (wk hw 206 rfl)) (mvT hZ (wk hw 205 rfl)) (by decide) (backOf (W := 0) (rm28 l Z a0 hw [] b78 rr wa78 al78 ea78 kE78 (2 : Int32) (2 : Int32) y2_78 [(.ref y1_78), (.ref y2_78)] xb h84 n0 f86 f88 f91 f93 f95 f96 f97 f98 f110 f114 hc260 hmin rfl (by decide) (by decide)) hZ (wk hw 207 rfl) (wk hw 6 rfl) (by decide) (by decide)) q126a q126c (g := (mkF m 302 (LW p1 q2 q3 q4 p5 rr xa xb xc cc (.val (.ref b2)) (.val (.ref b11)) (.val (.ref b22)) (.val (.ref b11)) (.val (.ref b78)) (.val (.ref wa78)) (.val (.int (2 : Int32))) (.val (.long xb)) .second) [(.int rr), (.ref b78)])) rfl (by rw [hml]; rfl) (Steps.refl _) (argsL := [(.int rr)]) (rest := []) (lenOf pd_17 rfl) rfl (by show 2 * 0 + _ ≤ _; exact Nat.le_of_eq rfl) (hb hby at_302) (fun _ _ => ⟨rfl, e124, (by decide : 9 + 0 ≤ _), (by decide : 18 + 0 ≤ _)⟩)
          dsimp only [Pt.U, Pt.locs, Pt.cells, Pt.slots] at X126 l126 y126 z126 st126 hQ126
          subst l126 y126 z126
          obtain ⟨rfl, N126q, e126⟩ := hQ126
          have N126 := Fr.app N124 N126q
          have go128 : Go p.tables e below T126 (mkF m 314 (LW p1 q2 q3 q4 p5 rr xa xb xc cc (.val (.ref b2)) (.val (.ref b11)) (.val (.ref b22)) (.val (.ref b11)) (.val (.ref b78)) (.val (.ref wa78)) (.val (.int (2 : Int32))) (.val (.long xb)) .second) [(.int (1 : Int32))]) s₁ (entryFrame m #[(.int p1), (.long q2), (.long q3), (.long q4), (.int p5)] maxLocals) := by
            intro t k
            refine go127 t ?_
            show Steps _ _ _ (T124.setTop (mkF m 302 (LW p1 q2 q3 q4 p5 rr xa xb xc cc (.val (.ref b2)) (.val (.ref b11)) (.val (.ref b22)) (.val (.ref b11)) (.val (.ref b78)) (.val (.ref wa78)) (.val (.int (2 : Int32))) (.val (.long xb)) .second) [(.int rr), (.ref b78)])) _
            refine st126.trans ?_
            show Steps _ _ _ (T126.setTop (mkF m 305 (LW p1 q2 q3 q4 p5 rr xa xb xc cc (.val (.ref b2)) (.val (.ref b11)) (.val (.ref b22)) (.val (.ref b11)) (.val (.ref b78)) (.val (.ref wa78)) (.val (.int (2 : Int32))) (.val (.long xb)) .second) [(.long xb)])) _
            refine XS.lload X126.here hx rfl (hb hby at_305) rfl ?_
            show Steps _ _ _ (T126.setTop (mkF m 307 (LW p1 q2 q3 q4 p5 rr xa xb xc cc (.val (.ref b2)) (.val (.ref b11)) (.val (.ref b22)) (.val (.ref b11)) (.val (.ref b78)) (.val (.ref wa78)) (.val (.int (2 : Int32))) (.val (.long xb)) .second) [(.long xb), (.long xb)])) _
            refine XS.lcmp X126.here hx rfl (hb hby at_307) rfl ?_
            show Steps _ _ _ (T126.setTop (mkF m 308 (LW p1 q2 q3 q4 p5 rr xa xb xc cc (.val (.ref b2)) (.val (.ref b11)) (.val (.ref b22)) (.val (.ref b11)) (.val (.ref b78)) (.val (.ref wa78)) (.val (.int (2 : Int32))) (.val (.long xb)) .second) [(.int (lcmpW xb xb))])) _
            refine XS.ifYes X126.here hx rfl (pc0 := 308) (pc' := 313) rfl (hb hby at_308) rfl ((if0 _ _).trans (teq ((lw_eq _ _).mpr rfl)).1) (by decide) (by decide) ?_
            show Steps _ _ _ (T126.setTop (mkF m 313 (LW p1 q2 q3 q4 p5 rr xa xb xc cc (.val (.ref b2)) (.val (.ref b11)) (.val (.ref b22)) (.val (.ref b11)) (.val (.ref b78)) (.val (.ref wa78)) (.val (.int (2 : Int32))) (.val (.long xb)) .second) [])) _
            refine XS.iconst X126.here hx rfl (hb hby at_313) ?_
            exact k
          obtain ⟨fs, hr, hrun, hended, hW, hsame⟩ := X126.leave (v := some (.int (1 : Int32))) (fun h => by rw [Bd.returns] at h; cases h)
          refine ⟨_, _, go128 _ ?_, hrun, hended, _, _, rfl, ?_, ⟨_, rfl⟩, hW, hsame.mono (by decide) (by decide)⟩
          · exact retN X126 hx (t := .boolean) Bd.returns (by simp) (hb hby at_314) hr
          · show QL (.int 1) h0 n0 _ T126.heap _
            rw [e126]
            exact ⟨rfl, N126⟩
    · skip
      have go131 : Go p.tables e below T33 (mkF m 136 (LW p1 q2 q3 q4 p5 rr xa xb xc cc (.val (.ref b2)) (.val (.ref b11)) (.val (.ref b22)) (.val (.ref b22)) .unset .unset .unset .unset .unset) [(.ref b22), (.int rr)]) s₁ (entryFrame m #[(.int p1), (.long q2), (.long q3), (.long q4), (.int p5)] maxLocals) := by
        intro t k
        refine go75 t ?_
        show Steps _ _ _ (T33.setTop (mkF m 120 (LW p1 q2 q3 q4 p5 rr xa xb xc cc (.val (.ref b2)) (.val (.ref b11)) (.val (.ref b22)) .unset .unset .unset .unset .unset .unset) [(.int (2 : Int32)), (.int cc)])) _
        refine XS.icmpYes X33.here hx rfl (pc0 := 120) (pc' := 128) rfl (hb hby at_120) rfl (feq hc120).2 (by decide) (by decide) ?_
        show Steps _ _ _ (T33.setTop (mkF m 128 (LW p1 q2 q3 q4 p5 rr xa xb xc cc (.val (.ref b2)) (.val (.ref b11)) (.val (.ref b22)) .unset .unset .unset .unset .unset .unset) [])) _
        refine XS.aload X33.here hx rfl (hb hby at_128) rfl rfl ?_
        show Steps _ _ _ (T33.setTop (mkF m 130 (LW p1 q2 q3 q4 p5 rr xa xb xc cc (.val (.ref b2)) (.val (.ref b11)) (.val (.ref b22)) .unset .unset .unset .unset .unset .unset) [(.ref b22)])) _
        refine XS.astore X33.here hx rfl (hb hby at_130) rfl rfl (l' := (LW p1 q2 q3 q4 p5 rr xa xb xc cc (.val (.ref b2)) (.val (.ref b11)) (.val (.ref b22)) (.val (.ref b22)) .unset .unset .unset .unset .unset)) rfl ?_
        show Steps _ _ _ (T33.setTop (mkF m 132 (LW p1 q2 q3 q4 p5 rr xa xb xc cc (.val (.ref b2)) (.val (.ref b11)) (.val (.ref b22)) (.val (.ref b22)) .unset .unset .unset .unset .unset) [])) _
        refine XS.iload X33.here hx rfl (hb hby at_132) rfl ?_
        show Steps _ _ _ (T33.setTop (mkF m 134 (LW p1 q2 q3 q4 p5 rr xa xb xc cc (.val (.ref b2)) (.val (.ref b11)) (.val (.ref b22)) (.val (.ref b22)) .unset .unset .unset .unset .unset) [(.int rr)])) _
        refine XS.aload X33.here hx rfl (hb hby at_134) rfl rfl ?_
        exact k
      have f130 : n0 ≤ h33.size := (Nat.le_trans (Nat.le_trans (Nat.le_trans (Nat.le_trans f19 E24.1) (Keep.of_wr W27).1) (Keep.of_wr W30).1) (Keep.of_wr W33).1)
      have f132 : Keep h0 h33 [] := ((((f21.ext E24).wr W27 (Or.inr sz_b22)).wr W30 (Or.inr sz_b22)).wr W33 (Or.inr sz_b22))
      obtain ⟨_, _, ⟨T129, L129, k129, n129⟩, -, X129, ⟨Lc129, hQ129, l129, y129, z129⟩, st129⟩ := Jvm.LawKit.callS X33 hx (y := (⟨"com/example/nackoff/nackoff/RetryPolicy", "of", "(I[J)Lcom/example/nackoff/nackoff/RetryPolicy;"⟩ : MethodName)) hown (mvT hZ (wk hw 4 rfl)) (mvT hZ (wk hw 5 rfl)) (mvT hZ (wk hw 6 rfl)) (mvT hZ (wk hw 7 rfl)) (by decide) (backOf (W := 0) (rm1_3 l Z a0 hw [] rr b22 k24 xa xb xc wC clC wL mA mL mR h33 n0 f130 Hr.1 Hr.2 V33_b22 Ha Hb Hc (own_LCext (own_ext0 f132) HC) (S_L.ext (own_ext0 f132)) MA ML MR hmL hmR) hZ (wk hw 7 rfl) (wk hw 6 rfl) (by decide) (by decide)) (g := (mkF m 136 (LW p1 q2 q3 q4 p5 rr xa xb xc cc (.val (.ref b2)) (.val (.ref b11)) (.val (.ref b22)) (.val (.ref b22)) .unset .unset .unset .unset .unset) [(.ref b22), (.int rr)])) rfl (by rw [hml]; rfl) (argsL := [(.int rr), (.ref b22)]) (rest := []) (lenOf pd_16 rfl) rfl (by show 2 * 0 + _ ≤ _; exact Nat.le_of_eq rfl) (hb hby at_136) (fun _ _ => ⟨rfl, e33, (by decide : 3 + 7 ≤ _), (by decide : 6 + 14 ≤ _)⟩)
      dsimp only [Pt.U, Pt.locs, Pt.cells, Pt.slots] at X129 l129 y129 z129 st129 hQ129
      subst l129 y129 z129
      obtain ⟨b129, wa129, al129, ea129, kE129, y1_129, y2_129, y3_129, rfl, N129q, K129, s1129, s2129, s3129, s4129, Ep129, Fr129, Fw129, B129, Ea129, Fs129, Fe129, Vx129, Ey1_129, Fy1_129, Ey2_129, Fy2_129, Ey3_129, Fy3_129⟩ := hQ129
      have N129 := Fr.app N33 N129q
      have f133 : Arv Z T129.heap b22 k24 .long (3 : Int32) [(.long xa), (.long xb), (.long xc)] (.long (0 : Int64)) := (V33_b22.keep K129 nin0)
      have ne_y1_129 : y1_129 ≠ b22 := Exa.neArv Ey1_129 f133 (wk hw 188 rfl)
      have ne_y2_129 : y2_129 ≠ b22 := Exa.neArv Ey2_129 f133 (wk hw 188 rfl)
      have ne_y3_129 : y3_129 ≠ b22 := Exa.neArv Ey3_129 f133 (wk hw 188 rfl)
      have go134 : Go p.tables e below T129 (mkF m 145 (LW p1 q2 q3 q4 p5 rr xa xb xc cc (.val (.ref b2)) (.val (.ref b11)) (.val (.ref b22)) (.val (.ref b22)) (.val (.ref b129)) .unset .unset .unset .unset) [(.long (0 : Int64)), (.int (0 : Int32)), (.ref b22)]) s₁ (entryFrame m #[(.int p1), (.long q2), (.long q3), (.long q4), (.int p5)] maxLocals) := by
        intro t k
        refine go131 t ?_
        show Steps _ _ _ (T33.setTop (mkF m 136 (LW p1 q2 q3 q4 p5 rr xa xb xc cc (.val (.ref b2)) (.val (.ref b11)) (.val (.ref b22)) (.val (.ref b22)) .unset .unset .unset .unset .unset) [(.ref b22), (.int rr)])) _
        refine st129 _ ?_
        show Steps _ _ _ (T129.setTop (mkF m 139 (LW p1 q2 q3 q4 p5 rr xa xb xc cc (.val (.ref b2)) (.val (.ref b11)) (.val (.ref b22)) (.val (.ref b22)) .unset .unset .unset .unset .unset) [(.ref b129)])) _
        refine XS.astore X129.here hx rfl (hb hby at_139) rfl rfl (l' := (LW p1 q2 q3 q4 p5 rr xa xb xc cc (.val (.ref b2)) (.val (.ref b11)) (.val (.ref b22)) (.val (.ref b22)) (.val (.ref b129)) .unset .unset .unset .unset)) rfl ?_
        show Steps _ _ _ (T129.setTop (mkF m 141 (LW p1 q2 q3 q4 p5 rr xa xb xc cc (.val (.ref b2)) (.val (.ref b11)) (.val (.ref b22)) (.val (.ref b22)) (.val (.ref b129)) .unset .unset .unset .unset) [])) _
        refine XS.aload X129.here hx rfl (hb hby at_141) rfl rfl ?_
        show Steps _ _ _ (T129.setTop (mkF m 143 (LW p1 q2 q3 q4 p5 rr xa xb xc cc (.val (.ref b2)) (.val (.ref b11)) (.val (.ref b22)) (.val (.ref b22)) (.val (.ref b129)) .unset .unset .unset .unset) [(.ref b22)])) _
        refine XS.iconst X129.here hx rfl (hb hby at_143) ?_
        show Steps _ _ _ (T129.setTop (mkF m 144 (LW p1 q2 q3 q4 p5 rr xa xb xc cc (.val (.ref b2)) (.val (.ref b11)) (.val (.ref b22)) (.val (.ref b22)) (.val (.ref b129)) .unset .unset .unset .unset) [(.int (0 : Int32)), (.ref b22)])) _
        refine XS.lconst X129.here hx rfl (hb hby at_144) ?_
        exact k
      obtain ⟨cl135, Ar135, qa135, Sa135, Na135, Ha135, Ga135⟩ := id f133
      have hin135 : ¬ ((0 : Int32) < 0 ∨ cl135.slots.size ≤ ((0 : Int32)).toNatClampNeg) := inb_of Sa135 ⟨by decide, by decide⟩
      obtain ⟨T136, h136, X136, e136, W136, st136⟩ := stJ X129 hx hZ rfl Ar135 (j := (0 : Int32)) hin135 (g := (mkF m 145 (LW p1 q2 q3 q4 p5 rr xa xb xc cc (.val (.ref b2)) (.val (.ref b11)) (.val (.ref b22)) (.val (.ref b22)) (.val (.ref b129)) .unset .unset .unset .unset) [(.long (0 : Int64)), (.int (0 : Int32)), (.ref b22)])) rfl rfl (hb hby at_145)
      have V136_b22 : Arv Z h136 b22 k24 .long (3 : Int32) [(.long (0 : Int64)), (.long xb), (.long xc)] (.long (0 : Int64)) := Arv.set Ar135 qa135 Sa135 Na135 Ha135 Ga135 rfl W136 0 rfl (Nat.le_of_ble_eq_true rfl)
      have N136 := Fr.snoc X136 N129 g_b22
      have go139 : Go p.tables e below T136 (mkF m 148 (LW p1 q2 q3 q4 p5 rr xa xb xc cc (.val (.ref b2)) (.val (.ref b11)) (.val (.ref b22)) (.val (.ref b22)) (.val (.ref b129)) .unset .unset .unset .unset) [(.ref b129)]) s₁ (entryFrame m #[(.int p1), (.long q2), (.long q3), (.long q4), (.int p5)] maxLocals) := by
        intro t k
        refine go134 t ?_
        show Steps _ _ _ (T129.setTop (mkF m 145 (LW p1 q2 q3 q4 p5 rr xa xb xc cc (.val (.ref b2)) (.val (.ref b11)) (.val (.ref b22)) (.val (.ref b22)) (.val (.ref b129)) .unset .unset .unset .unset) [(.long (0 : Int64)), (.int (0 : Int32)), (.ref b22)])) _
        refine st136 _ ?_
        show Steps _ _ _ (T136.setTop (mkF m 146 (LW p1 q2 q3 q4 p5 rr xa xb xc cc (.val (.ref b2)) (.val (.ref b11)) (.val (.ref b22)) (.val (.ref b22)) (.val (.ref b129)) .unset .unset .unset .unset) [])) _
        refine XS.aload X136.here hx rfl (hb hby at_146) rfl rfl ?_
        exact k
      have f138 : n0 ≤ h136.size := (Nat.le_trans (Nat.le_trans f130 K129.1) (Keep.of_wr W136).1)
      have f140 : Fld Z h136 b129 "com/example/nackoff/nackoff/RetryPolicy" "retries" "I" (.int rr) := (Fr129.other W136 (Or.inl (Ne.symm (Nat.ne_of_lt (Nat.lt_of_lt_of_le V33_b22.lt s1129)))))
      have f141 : Exa Z h136 b129 "com/example/nackoff/nackoff/RetryPolicy" := (Ep129.wr W136)
      obtain ⟨cq137, kq137, q137a, q137b, q137c⟩ := isOf hZ e136 f141
      obtain ⟨_, _, ⟨T137, L137, k137, n137⟩, -, X137, ⟨Lc137, hQ137, l137, y137, z137⟩, st137⟩ := X136.virtualBack hx (y := (⟨"com/example/nackoff/nackoff/RetryPolicy", "retries", "()I"⟩ : MethodName)) (z := (⟨"com/example/nackoff/nackoff/RetryPolicy", "retries", "()I"⟩ : MethodName)) hown (mvT hZ (wk hw 123 rfl)) (mvT hZ (wk hw 124 rfl)) (notFace_of_selects (args := #[]) (mvT hZ (wk hw 126 rfl))) (mvT hZ (wk hw 126 rfl)) (mvT hZ (wk hw 125 rfl)) (by decide) (backOf (W := 0) (rm15 l Z a0 hw [] b129 rr h136 n0 f138 f140) hZ (wk hw 127 rfl) (wk hw 6 rfl) (by decide) (by decide)) q137a q137c (g := (mkF m 148 (LW p1 q2 q3 q4 p5 rr xa xb xc cc (.val (.ref b2)) (.val (.ref b11)) (.val (.ref b22)) (.val (.ref b22)) (.val (.ref b129)) .unset .unset .unset .unset) [(.ref b129)])) rfl (by rw [hml]; rfl) (Steps.refl _) (argsL := []) (rest := []) (lenOf pd_8 rfl) rfl (by show 2 * 0 + _ ≤ _; exact Nat.le_of_eq rfl) (hb hby at_148) (fun _ _ => ⟨rfl, e136, (by decide : 10 + 0 ≤ _), (by decide : 20 + 0 ≤ _)⟩)
      dsimp only [Pt.U, Pt.locs, Pt.cells, Pt.slots] at X137 l137 y137 z137 st137 hQ137
      subst l137 y137 z137
      obtain ⟨rfl, N137q, e137⟩ := hQ137
      have N137 := Fr.app N136 N137q
      have go144 : Go p.tables e below T137 (mkF m 160 (LW p1 q2 q3 q4 p5 rr xa xb xc cc (.val (.ref b2)) (.val (.ref b11)) (.val (.ref b22)) (.val (.ref b22)) (.val (.ref b129)) .unset .unset .unset .unset) [(.ref b129)]) s₁ (entryFrame m #[(.int p1), (.long q2), (.long q3), (.long q4), (.int p5)] maxLocals) := by
        intro t k
        refine go139 t ?_
        show Steps _ _ _ (T136.setTop (mkF m 148 (LW p1 q2 q3 q4 p5 rr xa xb xc cc (.val (.ref b2)) (.val (.ref b11)) (.val (.ref b22)) (.val (.ref b22)) (.val (.ref b129)) .unset .unset .unset .unset) [(.ref b129)])) _
        refine st137.trans ?_
        show Steps _ _ _ (T137.setTop (mkF m 151 (LW p1 q2 q3 q4 p5 rr xa xb xc cc (.val (.ref b2)) (.val (.ref b11)) (.val (.ref b22)) (.val (.ref b22)) (.val (.ref b129)) .unset .unset .unset .unset) [(.int rr)])) _
        refine XS.iload X137.here hx rfl (hb hby at_151) rfl ?_
        show Steps _ _ _ (T137.setTop (mkF m 153 (LW p1 q2 q3 q4 p5 rr xa xb xc cc (.val (.ref b2)) (.val (.ref b11)) (.val (.ref b22)) (.val (.ref b22)) (.val (.ref b129)) .unset .unset .unset .unset) [(.int rr), (.int rr)])) _
        refine XS.icmpYes X137.here hx rfl (pc0 := 153) (pc' := 158) rfl (hb hby at_153) rfl (teq rfl).1 (by decide) (by decide) ?_
        show Steps _ _ _ (T137.setTop (mkF m 158 (LW p1 q2 q3 q4 p5 rr xa xb xc cc (.val (.ref b2)) (.val (.ref b11)) (.val (.ref b22)) (.val (.ref b22)) (.val (.ref b129)) .unset .unset .unset .unset) [])) _
        refine XS.aload X137.here hx rfl (hb hby at_158) rfl rfl ?_
        exact k
      have f143 : Fld Z h136 b129 "com/example/nackoff/nackoff/RetryPolicy" "waitsMs" "Ljava/util/List;" (.ref wa129) := (Fw129.other W136 (Or.inl (Ne.symm (Nat.ne_of_lt (Nat.lt_of_lt_of_le V33_b22.lt s1129)))))
      obtain ⟨cq142, kq142, q142a, q142b, q142c⟩ := isOf hZ e137 f141
      obtain ⟨_, _, ⟨T142, L142, k142, n142⟩, -, X142, ⟨Lc142, hQ142, l142, y142, z142⟩, st142⟩ := X137.virtualBack hx (y := (⟨"com/example/nackoff/nackoff/RetryPolicy", "waitsMs", "()Ljava/util/List;"⟩ : MethodName)) (z := (⟨"com/example/nackoff/nackoff/RetryPolicy", "waitsMs", "()Ljava/util/List;"⟩ : MethodName)) hown (mvT hZ (wk hw 128 rfl)) (mvT hZ (wk hw 129 rfl)) (notFace_of_selects (args := #[]) (mvT hZ (wk hw 131 rfl))) (mvT hZ (wk hw 131 rfl)) (mvT hZ (wk hw 130 rfl)) (by decide) (backOf (W := 0) (rm16 l Z a0 hw [] b129 wa129 h136 n0 f138 f143) hZ (wk hw 132 rfl) (wk hw 6 rfl) (by decide) (by decide)) q142a q142c (g := (mkF m 160 (LW p1 q2 q3 q4 p5 rr xa xb xc cc (.val (.ref b2)) (.val (.ref b11)) (.val (.ref b22)) (.val (.ref b22)) (.val (.ref b129)) .unset .unset .unset .unset) [(.ref b129)])) rfl (by rw [hml]; rfl) (Steps.refl _) (argsL := []) (rest := []) (lenOf pd_14 rfl) rfl (by show 2 * 0 + _ ≤ _; exact Nat.le_of_eq rfl) (hb hby at_160) (fun _ _ => ⟨rfl, e137, (by decide : 10 + 0 ≤ _), (by decide : 20 + 0 ≤ _)⟩)
      dsimp only [Pt.U, Pt.locs, Pt.cells, Pt.slots] at X142 l142 y142 z142 st142 hQ142
      subst l142 y142 z142
      obtain ⟨rfl, N142q, e142⟩ := hQ142
      have N142 := Fr.app N137 N142q
      have go146 : Go p.tables e below T142 (mkF m 167 (LW p1 q2 q3 q4 p5 rr xa xb xc cc (.val (.ref b2)) (.val (.ref b11)) (.val (.ref b22)) (.val (.ref b22)) (.val (.ref b129)) (.val (.ref wa129)) .unset .unset .unset) [(.ref wa129)]) s₁ (entryFrame m #[(.int p1), (.long q2), (.long q3), (.long q4), (.int p5)] maxLocals) := by
        intro t k
        refine go144 t ?_
        show Steps _ _ _ (T137.setTop (mkF m 160 (LW p1 q2 q3 q4 p5 rr xa xb xc cc (.val (.ref b2)) (.val (.ref b11)) (.val (.ref b22)) (.val (.ref b22)) (.val (.ref b129)) .unset .unset .unset .unset) [(.ref b129)])) _
        refine st142.trans ?_
        show Steps _ _ _ (T142.setTop (mkF m 163 (LW p1 q2 q3 q4 p5 rr xa xb xc cc (.val (.ref b2)) (.val (.ref b11)) (.val (.ref b22)) (.val (.ref b22)) (.val (.ref b129)) .unset .unset .unset .unset) [(.ref wa129)])) _
        refine XS.astore X142.here hx rfl (hb hby at_163) rfl rfl (l' := (LW p1 q2 q3 q4 p5 rr xa xb xc cc (.val (.ref b2)) (.val (.ref b11)) (.val (.ref b22)) (.val (.ref b22)) (.val (.ref b129)) (.val (.ref wa129)) .unset .unset .unset)) rfl ?_
        show Steps _ _ _ (T142.setTop (mkF m 165 (LW p1 q2 q3 q4 p5 rr xa xb xc cc (.val (.ref b2)) (.val (.ref b11)) (.val (.ref b22)) (.val (.ref b22)) (.val (.ref b129)) (.val (.ref wa129)) .unset .unset .unset) [])) _
        refine XS.aload X142.here hx rfl (hb hby at_165) rfl rfl ?_
        exact k
      have f145 : WRP Z h136 wa129 al129 := (B129.other W136 (Ne.symm (Nat.ne_of_lt (Nat.lt_of_lt_of_le V33_b22.lt s2129))))
      have f147 : Exa Z h136 al129 "java/util/ArrayList" := (Ea129.wr W136)
      have f148 : Fld Z h136 al129 "java/util/ArrayList" "size" "I" (.int (3 : Int32)) := (Fs129.other W136 (Or.inl (Ne.symm (Nat.ne_of_lt (Nat.lt_of_lt_of_le V33_b22.lt s3129)))))
      have f149 : Fld Z h136 al129 "java/util/ArrayList" "elementData" "[Ljava/lang/Object;" (.ref ea129) := (Fe129.other W136 (Or.inl (Ne.symm (Nat.ne_of_lt (Nat.lt_of_lt_of_le V33_b22.lt s3129)))))
      have f150 : Arv Z h136 ea129 kE129 (.object "java/lang/Object") (3 : Int32) [(.ref y1_129), (.ref y2_129), (.ref y3_129)] .null := (Vx129.other W136 (Ne.symm (Nat.ne_of_lt (Nat.lt_of_lt_of_le V33_b22.lt s4129))))
      obtain ⟨T151, L151, X151, N151q, e151, st151⟩ := own_lsz l Z a0 hw X142 hx hZ hown (wk hw 133 rfl) e142 f138 f145 f147 f148 (g := (mkF m 167 (LW p1 q2 q3 q4 p5 rr xa xb xc cc (.val (.ref b2)) (.val (.ref b11)) (.val (.ref b22)) (.val (.ref b22)) (.val (.ref b129)) (.val (.ref wa129)) .unset .unset .unset) [(.ref wa129)])) rfl (by rw [hml]; rfl) rfl (hb hby at_167) (W := 0) (by show 2 * 0 + _ ≤ _; exact Nat.le_of_eq rfl) (by decide) (by decide) (by decide) (by decide)
      have N151 := Fr.app N142 N151q
      have go152 : Go p.tables e below T151 (mkF m 182 (LW p1 q2 q3 q4 p5 rr xa xb xc cc (.val (.ref b2)) (.val (.ref b11)) (.val (.ref b22)) (.val (.ref b22)) (.val (.ref b129)) (.val (.ref wa129)) .unset .unset .unset) [(.int (0 : Int32)), (.ref wa129)]) s₁ (entryFrame m #[(.int p1), (.long q2), (.long q3), (.long q4), (.int p5)] maxLocals) := by
        intro t k
        refine go146 t ?_
        show Steps _ _ _ (T142.setTop (mkF m 167 (LW p1 q2 q3 q4 p5 rr xa xb xc cc (.val (.ref b2)) (.val (.ref b11)) (.val (.ref b22)) (.val (.ref b22)) (.val (.ref b129)) (.val (.ref wa129)) .unset .unset .unset) [(.ref wa129)])) _
        refine st151.trans ?_
        show Steps _ _ _ (T151.setTop (mkF m 172 (LW p1 q2 q3 q4 p5 rr xa xb xc cc (.val (.ref b2)) (.val (.ref b11)) (.val (.ref b22)) (.val (.ref b22)) (.val (.ref b129)) (.val (.ref wa129)) .unset .unset .unset) [(.int (3 : Int32))])) _
        refine XS.iload X151.here hx rfl (hb hby at_172) rfl ?_
        show Steps _ _ _ (T151.setTop (mkF m 174 (LW p1 q2 q3 q4 p5 rr xa xb xc cc (.val (.ref b2)) (.val (.ref b11)) (.val (.ref b22)) (.val (.ref b22)) (.val (.ref b129)) (.val (.ref wa129)) .unset .unset .unset) [(.int cc), (.int (3 : Int32))])) _
        refine XS.icmpYes X151.here hx rfl (pc0 := 174) (pc' := 179) rfl (hb hby at_174) rfl (teq (own_c3 Hcc hc109 hc120).symm).1 (by decide) (by decide) ?_
        show Steps _ _ _ (T151.setTop (mkF m 179 (LW p1 q2 q3 q4 p5 rr xa xb xc cc (.val (.ref b2)) (.val (.ref b11)) (.val (.ref b22)) (.val (.ref b22)) (.val (.ref b129)) (.val (.ref wa129)) .unset .unset .unset) [])) _
        refine XS.aload X151.here hx rfl (hb hby at_179) rfl rfl ?_
        show Steps _ _ _ (T151.setTop (mkF m 181 (LW p1 q2 q3 q4 p5 rr xa xb xc cc (.val (.ref b2)) (.val (.ref b11)) (.val (.ref b22)) (.val (.ref b22)) (.val (.ref b129)) (.val (.ref wa129)) .unset .unset .unset) [(.ref wa129)])) _
        refine XS.iconst X151.here hx rfl (hb hby at_181) ?_
        exact k
      obtain ⟨T153, L153, X153, N153q, e153, st153⟩ := own_lget l Z a0 hw X151 hx hZ hown (wk hw 151 rfl) e151 f138 f145 f147 f149 f148 f150 rfl (by decide) (by decide) (g := (mkF m 182 (LW p1 q2 q3 q4 p5 rr xa xb xc cc (.val (.ref b2)) (.val (.ref b11)) (.val (.ref b22)) (.val (.ref b22)) (.val (.ref b129)) (.val (.ref wa129)) .unset .unset .unset) [(.int (0 : Int32)), (.ref wa129)])) rfl (by rw [hml]; rfl) rfl (hb hby at_182) (W := 0) (by show 2 * 0 + _ ≤ _; exact Nat.le_of_eq rfl) (by decide) (by decide) (by decide) (by decide)
      have N153 := Fr.app N151 N153q
      have go155 : Go p.tables e below T153 (mkF m 187 (LW p1 q2 q3 q4 p5 rr xa xb xc cc (.val (.ref b2)) (.val (.ref b11)) (.val (.ref b22)) (.val (.ref b22)) (.val (.ref b129)) (.val (.ref wa129)) .unset .unset .unset) [(.ref y1_129)]) s₁ (entryFrame m #[(.int p1), (.long q2), (.long q3), (.long q4), (.int p5)] maxLocals) := by
        intro t k
        refine go152 t ?_
        show Steps _ _ _ (T151.setTop (mkF m 182 (LW p1 q2 q3 q4 p5 rr xa xb xc cc (.val (.ref b2)) (.val (.ref b11)) (.val (.ref b22)) (.val (.ref b22)) (.val (.ref b129)) (.val (.ref wa129)) .unset .unset .unset) [(.int (0 : Int32)), (.ref wa129)])) _
        refine st153.trans ?_
        exact k
      have f154 : Exa Z h136 y1_129 "java/lang/Long" := (Ey1_129.wr W136)
      obtain ⟨T156, X156, e156, st156⟩ := castY X153 hx hZ hown (wk hw 178 rfl) e153 (Ins.self f154) (g := (mkF m 187 (LW p1 q2 q3 q4 p5 rr xa xb xc cc (.val (.ref b2)) (.val (.ref b11)) (.val (.ref b22)) (.val (.ref b22)) (.val (.ref b129)) (.val (.ref wa129)) .unset .unset .unset) [(.ref y1_129)])) rfl rfl (hb hby at_187)
      have go159 : Go p.tables e below T156 (mkF m 190 (LW p1 q2 q3 q4 p5 rr xa xb xc cc (.val (.ref b2)) (.val (.ref b11)) (.val (.ref b22)) (.val (.ref b22)) (.val (.ref b129)) (.val (.ref wa129)) .unset .unset .unset) [(.ref y1_129)]) s₁ (entryFrame m #[(.int p1), (.long q2), (.long q3), (.long q4), (.int p5)] maxLocals) := by
        intro t k
        refine go155 t ?_
        show Steps _ _ _ (T153.setTop (mkF m 187 (LW p1 q2 q3 q4 p5 rr xa xb xc cc (.val (.ref b2)) (.val (.ref b11)) (.val (.ref b22)) (.val (.ref b22)) (.val (.ref b129)) (.val (.ref wa129)) .unset .unset .unset) [(.ref y1_129)])) _
        refine st156 _ ?_
        exact k
      have f158 : Fld Z h136 y1_129 "java/lang/Long" "value" "J" (.long xa) := (Fy1_129.other W136 (Or.inl ne_y1_129))
      obtain ⟨cq157, kq157, q157a, q157b, q157c⟩ := isOf hZ e156 f154
      obtain ⟨_, _, ⟨T157, L157, k157, n157⟩, -, X157, ⟨Lc157, hQ157, l157, y157, z157⟩, st157⟩ := X156.virtualBack hx (y := (⟨"java/lang/Long", "longValue", "()J"⟩ : MethodName)) (z := (⟨"java/lang/Long", "longValue", "()J"⟩ : MethodName)) hown (mvT hZ (wk hw 180 rfl)) (mvT hZ (wk hw 181 rfl)) (notFace_of_selects (args := #[]) (mvT hZ (wk hw 183 rfl))) (mvT hZ (wk hw 183 rfl)) (mvT hZ (wk hw 182 rfl)) (by decide) (backOf (W := 0) (rm24 l Z a0 hw [] y1_129 xa h136 n0 f138 f158) hZ (wk hw 184 rfl) (wk hw 38 rfl) (by decide) (by decide)) q157a q157c (g := (mkF m 190 (LW p1 q2 q3 q4 p5 rr xa xb xc cc (.val (.ref b2)) (.val (.ref b11)) (.val (.ref b22)) (.val (.ref b22)) (.val (.ref b129)) (.val (.ref wa129)) .unset .unset .unset) [(.ref y1_129)])) rfl (by rw [hml]; rfl) (Steps.refl _) (argsL := []) (rest := []) (lenOf pd_9 rfl) rfl (by show 2 * 0 + _ ≤ _; exact Nat.le_of_eq rfl) (hb hby at_190) (fun _ _ => ⟨rfl, e156, (by decide : 10 + 0 ≤ _), (by decide : 20 + 0 ≤ _)⟩)
      dsimp only [Pt.U, Pt.locs, Pt.cells, Pt.slots] at X157 l157 y157 z157 st157 hQ157
      subst l157 y157 z157
      obtain ⟨rfl, N157q, e157⟩ := hQ157
      have N157 := Fr.app N153 N157q
      have go160 : Go p.tables e below T157 (mkF m 210 (LW p1 q2 q3 q4 p5 rr xa xb xc cc (.val (.ref b2)) (.val (.ref b11)) (.val (.ref b22)) (.val (.ref b22)) (.val (.ref b129)) (.val (.ref wa129)) .unset .unset .unset) [(.int (1 : Int32)), (.ref wa129)]) s₁ (entryFrame m #[(.int p1), (.long q2), (.long q3), (.long q4), (.int p5)] maxLocals) := by
        intro t k
        refine go159 t ?_
        show Steps _ _ _ (T156.setTop (mkF m 190 (LW p1 q2 q3 q4 p5 rr xa xb xc cc (.val (.ref b2)) (.val (.ref b11)) (.val (.ref b22)) (.val (.ref b22)) (.val (.ref b129)) (.val (.ref wa129)) .unset .unset .unset) [(.ref y1_129)])) _
        refine st157.trans ?_
        show Steps _ _ _ (T157.setTop (mkF m 193 (LW p1 q2 q3 q4 p5 rr xa xb xc cc (.val (.ref b2)) (.val (.ref b11)) (.val (.ref b22)) (.val (.ref b22)) (.val (.ref b129)) (.val (.ref wa129)) .unset .unset .unset) [(.long xa)])) _
        refine XS.lload X157.here hx rfl (hb hby at_193) rfl ?_
        show Steps _ _ _ (T157.setTop (mkF m 195 (LW p1 q2 q3 q4 p5 rr xa xb xc cc (.val (.ref b2)) (.val (.ref b11)) (.val (.ref b22)) (.val (.ref b22)) (.val (.ref b129)) (.val (.ref wa129)) .unset .unset .unset) [(.long xa), (.long xa)])) _
        refine XS.lcmp X157.here hx rfl (hb hby at_195) rfl ?_
        show Steps _ _ _ (T157.setTop (mkF m 196 (LW p1 q2 q3 q4 p5 rr xa xb xc cc (.val (.ref b2)) (.val (.ref b11)) (.val (.ref b22)) (.val (.ref b22)) (.val (.ref b129)) (.val (.ref wa129)) .unset .unset .unset) [(.int (lcmpW xa xa))])) _
        refine XS.ifYes X157.here hx rfl (pc0 := 196) (pc' := 201) rfl (hb hby at_196) rfl ((if0 _ _).trans (teq ((lw_eq _ _).mpr rfl)).1) (by decide) (by decide) ?_
        show Steps _ _ _ (T157.setTop (mkF m 201 (LW p1 q2 q3 q4 p5 rr xa xb xc cc (.val (.ref b2)) (.val (.ref b11)) (.val (.ref b22)) (.val (.ref b22)) (.val (.ref b129)) (.val (.ref wa129)) .unset .unset .unset) [])) _
        refine XS.iload X157.here hx rfl (hb hby at_201) rfl ?_
        show Steps _ _ _ (T157.setTop (mkF m 203 (LW p1 q2 q3 q4 p5 rr xa xb xc cc (.val (.ref b2)) (.val (.ref b11)) (.val (.ref b22)) (.val (.ref b22)) (.val (.ref b129)) (.val (.ref wa129)) .unset .unset .unset) [(.int cc)])) _
        refine XS.iconst X157.here hx rfl (hb hby at_203) ?_
        show Steps _ _ _ (T157.setTop (mkF m 204 (LW p1 q2 q3 q4 p5 rr xa xb xc cc (.val (.ref b2)) (.val (.ref b11)) (.val (.ref b22)) (.val (.ref b22)) (.val (.ref b129)) (.val (.ref wa129)) .unset .unset .unset) [(.int (2 : Int32)), (.int cc)])) _
        refine XS.icmpNo X157.here hx rfl (hb hby at_204) rfl (flt (by rw [(own_c3 Hcc hc109 hc120)]; decide)).1 ?_
        show Steps _ _ _ (T157.setTop (mkF m 207 (LW p1 q2 q3 q4 p5 rr xa xb xc cc (.val (.ref b2)) (.val (.ref b11)) (.val (.ref b22)) (.val (.ref b22)) (.val (.ref b129)) (.val (.ref wa129)) .unset .unset .unset) [])) _
        refine XS.aload X157.here hx rfl (hb hby at_207) rfl rfl ?_
        show Steps _ _ _ (T157.setTop (mkF m 209 (LW p1 q2 q3 q4 p5 rr xa xb xc cc (.val (.ref b2)) (.val (.ref b11)) (.val (.ref b22)) (.val (.ref b22)) (.val (.ref b129)) (.val (.ref wa129)) .unset .unset .unset) [(.ref wa129)])) _
        refine XS.iconst X157.here hx rfl (hb hby at_209) ?_
        exact k
      obtain ⟨T161, L161, X161, N161q, e161, st161⟩ := own_lget l Z a0 hw X157 hx hZ hown (wk hw 151 rfl) e157 f138 f145 f147 f149 f148 f150 rfl (by decide) (by decide) (g := (mkF m 210 (LW p1 q2 q3 q4 p5 rr xa xb xc cc (.val (.ref b2)) (.val (.ref b11)) (.val (.ref b22)) (.val (.ref b22)) (.val (.ref b129)) (.val (.ref wa129)) .unset .unset .unset) [(.int (1 : Int32)), (.ref wa129)])) rfl (by rw [hml]; rfl) rfl (hb hby at_210) (W := 0) (by show 2 * 0 + _ ≤ _; exact Nat.le_of_eq rfl) (by decide) (by decide) (by decide) (by decide)
      have N161 := Fr.app N157 N161q
      have go163 : Go p.tables e below T161 (mkF m 215 (LW p1 q2 q3 q4 p5 rr xa xb xc cc (.val (.ref b2)) (.val (.ref b11)) (.val (.ref b22)) (.val (.ref b22)) (.val (.ref b129)) (.val (.ref wa129)) .unset .unset .unset) [(.ref y2_129)]) s₁ (entryFrame m #[(.int p1), (.long q2), (.long q3), (.long q4), (.int p5)] maxLocals) := by
        intro t k
        refine go160 t ?_
        show Steps _ _ _ (T157.setTop (mkF m 210 (LW p1 q2 q3 q4 p5 rr xa xb xc cc (.val (.ref b2)) (.val (.ref b11)) (.val (.ref b22)) (.val (.ref b22)) (.val (.ref b129)) (.val (.ref wa129)) .unset .unset .unset) [(.int (1 : Int32)), (.ref wa129)])) _
        refine st161.trans ?_
        exact k
      have f162 : Exa Z h136 y2_129 "java/lang/Long" := (Ey2_129.wr W136)
      obtain ⟨T164, X164, e164, st164⟩ := castY X161 hx hZ hown (wk hw 178 rfl) e161 (Ins.self f162) (g := (mkF m 215 (LW p1 q2 q3 q4 p5 rr xa xb xc cc (.val (.ref b2)) (.val (.ref b11)) (.val (.ref b22)) (.val (.ref b22)) (.val (.ref b129)) (.val (.ref wa129)) .unset .unset .unset) [(.ref y2_129)])) rfl rfl (hb hby at_215)
      have go167 : Go p.tables e below T164 (mkF m 218 (LW p1 q2 q3 q4 p5 rr xa xb xc cc (.val (.ref b2)) (.val (.ref b11)) (.val (.ref b22)) (.val (.ref b22)) (.val (.ref b129)) (.val (.ref wa129)) .unset .unset .unset) [(.ref y2_129)]) s₁ (entryFrame m #[(.int p1), (.long q2), (.long q3), (.long q4), (.int p5)] maxLocals) := by
        intro t k
        refine go163 t ?_
        show Steps _ _ _ (T161.setTop (mkF m 215 (LW p1 q2 q3 q4 p5 rr xa xb xc cc (.val (.ref b2)) (.val (.ref b11)) (.val (.ref b22)) (.val (.ref b22)) (.val (.ref b129)) (.val (.ref wa129)) .unset .unset .unset) [(.ref y2_129)])) _
        refine st164 _ ?_
        exact k
      have f166 : Fld Z h136 y2_129 "java/lang/Long" "value" "J" (.long xb) := (Fy2_129.other W136 (Or.inl ne_y2_129))
      obtain ⟨cq165, kq165, q165a, q165b, q165c⟩ := isOf hZ e164 f162
      obtain ⟨_, _, ⟨T165, L165, k165, n165⟩, -, X165, ⟨Lc165, hQ165, l165, y165, z165⟩, st165⟩ := X164.virtualBack hx (y := (⟨"java/lang/Long", "longValue", "()J"⟩ : MethodName)) (z := (⟨"java/lang/Long", "longValue", "()J"⟩ : MethodName)) hown (mvT hZ (wk hw 180 rfl)) (mvT hZ (wk hw 181 rfl)) (notFace_of_selects (args := #[]) (mvT hZ (wk hw 183 rfl))) (mvT hZ (wk hw 183 rfl)) (mvT hZ (wk hw 182 rfl)) (by decide) (backOf (W := 0) (rm24 l Z a0 hw [] y2_129 xb h136 n0 f138 f166) hZ (wk hw 184 rfl) (wk hw 38 rfl) (by decide) (by decide)) q165a q165c (g := (mkF m 218 (LW p1 q2 q3 q4 p5 rr xa xb xc cc (.val (.ref b2)) (.val (.ref b11)) (.val (.ref b22)) (.val (.ref b22)) (.val (.ref b129)) (.val (.ref wa129)) .unset .unset .unset) [(.ref y2_129)])) rfl (by rw [hml]; rfl) (Steps.refl _) (argsL := []) (rest := []) (lenOf pd_9 rfl) rfl (by show 2 * 0 + _ ≤ _; exact Nat.le_of_eq rfl) (hb hby at_218) (fun _ _ => ⟨rfl, e164, (by decide : 10 + 0 ≤ _), (by decide : 20 + 0 ≤ _)⟩)
      dsimp only [Pt.U, Pt.locs, Pt.cells, Pt.slots] at X165 l165 y165 z165 st165 hQ165
      subst l165 y165 z165
      obtain ⟨rfl, N165q, e165⟩ := hQ165
      have N165 := Fr.app N161 N165q
      have go168 : Go p.tables e below T165 (mkF m 238 (LW p1 q2 q3 q4 p5 rr xa xb xc cc (.val (.ref b2)) (.val (.ref b11)) (.val (.ref b22)) (.val (.ref b22)) (.val (.ref b129)) (.val (.ref wa129)) .unset .unset .unset) [(.int (2 : Int32)), (.ref wa129)]) s₁ (entryFrame m #[(.int p1), (.long q2), (.long q3), (.long q4), (.int p5)] maxLocals) := by
        intro t k
        refine go167 t ?_
        show Steps _ _ _ (T164.setTop (mkF m 218 (LW p1 q2 q3 q4 p5 rr xa xb xc cc (.val (.ref b2)) (.val (.ref b11)) (.val (.ref b22)) (.val (.ref b22)) (.val (.ref b129)) (.val (.ref wa129)) .unset .unset .unset) [(.ref y2_129)])) _
        refine st165.trans ?_
        show Steps _ _ _ (T165.setTop (mkF m 221 (LW p1 q2 q3 q4 p5 rr xa xb xc cc (.val (.ref b2)) (.val (.ref b11)) (.val (.ref b22)) (.val (.ref b22)) (.val (.ref b129)) (.val (.ref wa129)) .unset .unset .unset) [(.long xb)])) _
        refine XS.lload X165.here hx rfl (hb hby at_221) rfl ?_
        show Steps _ _ _ (T165.setTop (mkF m 223 (LW p1 q2 q3 q4 p5 rr xa xb xc cc (.val (.ref b2)) (.val (.ref b11)) (.val (.ref b22)) (.val (.ref b22)) (.val (.ref b129)) (.val (.ref wa129)) .unset .unset .unset) [(.long xb), (.long xb)])) _
        refine XS.lcmp X165.here hx rfl (hb hby at_223) rfl ?_
        show Steps _ _ _ (T165.setTop (mkF m 224 (LW p1 q2 q3 q4 p5 rr xa xb xc cc (.val (.ref b2)) (.val (.ref b11)) (.val (.ref b22)) (.val (.ref b22)) (.val (.ref b129)) (.val (.ref wa129)) .unset .unset .unset) [(.int (lcmpW xb xb))])) _
        refine XS.ifYes X165.here hx rfl (pc0 := 224) (pc' := 229) rfl (hb hby at_224) rfl ((if0 _ _).trans (teq ((lw_eq _ _).mpr rfl)).1) (by decide) (by decide) ?_
        show Steps _ _ _ (T165.setTop (mkF m 229 (LW p1 q2 q3 q4 p5 rr xa xb xc cc (.val (.ref b2)) (.val (.ref b11)) (.val (.ref b22)) (.val (.ref b22)) (.val (.ref b129)) (.val (.ref wa129)) .unset .unset .unset) [])) _
        refine XS.iload X165.here hx rfl (hb hby at_229) rfl ?_
        show Steps _ _ _ (T165.setTop (mkF m 231 (LW p1 q2 q3 q4 p5 rr xa xb xc cc (.val (.ref b2)) (.val (.ref b11)) (.val (.ref b22)) (.val (.ref b22)) (.val (.ref b129)) (.val (.ref wa129)) .unset .unset .unset) [(.int cc)])) _
        refine XS.iconst X165.here hx rfl (hb hby at_231) ?_
        show Steps _ _ _ (T165.setTop (mkF m 232 (LW p1 q2 q3 q4 p5 rr xa xb xc cc (.val (.ref b2)) (.val (.ref b11)) (.val (.ref b22)) (.val (.ref b22)) (.val (.ref b129)) (.val (.ref wa129)) .unset .unset .unset) [(.int (3 : Int32)), (.int cc)])) _
        refine XS.icmpNo X165.here hx rfl (hb hby at_232) rfl (flt (by rw [(own_c3 Hcc hc109 hc120)]; decide)).1 ?_
        show Steps _ _ _ (T165.setTop (mkF m 235 (LW p1 q2 q3 q4 p5 rr xa xb xc cc (.val (.ref b2)) (.val (.ref b11)) (.val (.ref b22)) (.val (.ref b22)) (.val (.ref b129)) (.val (.ref wa129)) .unset .unset .unset) [])) _
        refine XS.aload X165.here hx rfl (hb hby at_235) rfl rfl ?_
        show Steps _ _ _ (T165.setTop (mkF m 237 (LW p1 q2 q3 q4 p5 rr xa xb xc cc (.val (.ref b2)) (.val (.ref b11)) (.val (.ref b22)) (.val (.ref b22)) (.val (.ref b129)) (.val (.ref wa129)) .unset .unset .unset) [(.ref wa129)])) _
        refine XS.iconst X165.here hx rfl (hb hby at_237) ?_
        exact k
      obtain ⟨T169, L169, X169, N169q, e169, st169⟩ := own_lget l Z a0 hw X165 hx hZ hown (wk hw 151 rfl) e165 f138 f145 f147 f149 f148 f150 rfl (by decide) (by decide) (g := (mkF m 238 (LW p1 q2 q3 q4 p5 rr xa xb xc cc (.val (.ref b2)) (.val (.ref b11)) (.val (.ref b22)) (.val (.ref b22)) (.val (.ref b129)) (.val (.ref wa129)) .unset .unset .unset) [(.int (2 : Int32)), (.ref wa129)])) rfl (by rw [hml]; rfl) rfl (hb hby at_238) (W := 0) (by show 2 * 0 + _ ≤ _; exact Nat.le_of_eq rfl) (by decide) (by decide) (by decide) (by decide)
      have N169 := Fr.app N165 N169q
      have go171 : Go p.tables e below T169 (mkF m 243 (LW p1 q2 q3 q4 p5 rr xa xb xc cc (.val (.ref b2)) (.val (.ref b11)) (.val (.ref b22)) (.val (.ref b22)) (.val (.ref b129)) (.val (.ref wa129)) .unset .unset .unset) [(.ref y3_129)]) s₁ (entryFrame m #[(.int p1), (.long q2), (.long q3), (.long q4), (.int p5)] maxLocals) := by
        intro t k
        refine go168 t ?_
        show Steps _ _ _ (T165.setTop (mkF m 238 (LW p1 q2 q3 q4 p5 rr xa xb xc cc (.val (.ref b2)) (.val (.ref b11)) (.val (.ref b22)) (.val (.ref b22)) (.val (.ref b129)) (.val (.ref wa129)) .unset .unset .unset) [(.int (2 : Int32)), (.ref wa129)])) _
        refine st169.trans ?_
        exact k
      have f170 : Exa Z h136 y3_129 "java/lang/Long" := (Ey3_129.wr W136)
      obtain ⟨T172, X172, e172, st172⟩ := castY X169 hx hZ hown (wk hw 178 rfl) e169 (Ins.self f170) (g := (mkF m 243 (LW p1 q2 q3 q4 p5 rr xa xb xc cc (.val (.ref b2)) (.val (.ref b11)) (.val (.ref b22)) (.val (.ref b22)) (.val (.ref b129)) (.val (.ref wa129)) .unset .unset .unset) [(.ref y3_129)])) rfl rfl (hb hby at_243)
      have go175 : Go p.tables e below T172 (mkF m 246 (LW p1 q2 q3 q4 p5 rr xa xb xc cc (.val (.ref b2)) (.val (.ref b11)) (.val (.ref b22)) (.val (.ref b22)) (.val (.ref b129)) (.val (.ref wa129)) .unset .unset .unset) [(.ref y3_129)]) s₁ (entryFrame m #[(.int p1), (.long q2), (.long q3), (.long q4), (.int p5)] maxLocals) := by
        intro t k
        refine go171 t ?_
        show Steps _ _ _ (T169.setTop (mkF m 243 (LW p1 q2 q3 q4 p5 rr xa xb xc cc (.val (.ref b2)) (.val (.ref b11)) (.val (.ref b22)) (.val (.ref b22)) (.val (.ref b129)) (.val (.ref wa129)) .unset .unset .unset) [(.ref y3_129)])) _
        refine st172 _ ?_
        exact k
      have f174 : Fld Z h136 y3_129 "java/lang/Long" "value" "J" (.long xc) := (Fy3_129.other W136 (Or.inl ne_y3_129))
      obtain ⟨cq173, kq173, q173a, q173b, q173c⟩ := isOf hZ e172 f170
      obtain ⟨_, _, ⟨T173, L173, k173, n173⟩, -, X173, ⟨Lc173, hQ173, l173, y173, z173⟩, st173⟩ := X172.virtualBack hx (y := (⟨"java/lang/Long", "longValue", "()J"⟩ : MethodName)) (z := (⟨"java/lang/Long", "longValue", "()J"⟩ : MethodName)) hown (mvT hZ (wk hw 180 rfl)) (mvT hZ (wk hw 181 rfl)) (notFace_of_selects (args := #[]) (mvT hZ (wk hw 183 rfl))) (mvT hZ (wk hw 183 rfl)) (mvT hZ (wk hw 182 rfl)) (by decide) (backOf (W := 0) (rm24 l Z a0 hw [] y3_129 xc h136 n0 f138 f174) hZ (wk hw 184 rfl) (wk hw 38 rfl) (by decide) (by decide)) q173a q173c (g := (mkF m 246 (LW p1 q2 q3 q4 p5 rr xa xb xc cc (.val (.ref b2)) (.val (.ref b11)) (.val (.ref b22)) (.val (.ref b22)) (.val (.ref b129)) (.val (.ref wa129)) .unset .unset .unset) [(.ref y3_129)])) rfl (by rw [hml]; rfl) (Steps.refl _) (argsL := []) (rest := []) (lenOf pd_9 rfl) rfl (by show 2 * 0 + _ ≤ _; exact Nat.le_of_eq rfl) (hb hby at_246) (fun _ _ => ⟨rfl, e172, (by decide : 10 + 0 ≤ _), (by decide : 20 + 0 ≤ _)⟩)
      dsimp only [Pt.U, Pt.locs, Pt.cells, Pt.slots] at X173 l173 y173 z173 st173 hQ173
      subst l173 y173 z173
      obtain ⟨rfl, N173q, e173⟩ := hQ173
      have N173 := Fr.app N169 N173q
      have go176 : Go p.tables e below T173 (mkF m 260 (LW p1 q2 q3 q4 p5 rr xa xb xc cc (.val (.ref b2)) (.val (.ref b11)) (.val (.ref b22)) (.val (.ref b22)) (.val (.ref b129)) (.val (.ref wa129)) .unset .unset .unset) [(.int (1 : Int32)), (.int rr)]) s₁ (entryFrame m #[(.int p1), (.long q2), (.long q3), (.long q4), (.int p5)] maxLocals) := by
        intro t k
        refine go175 t ?_
        show Steps _ _ _ (T172.setTop (mkF m 246 (LW p1 q2 q3 q4 p5 rr xa xb xc cc (.val (.ref b2)) (.val (.ref b11)) (.val (.ref b22)) (.val (.ref b22)) (.val (.ref b129)) (.val (.ref wa129)) .unset .unset .unset) [(.ref y3_129)])) _
        refine st173.trans ?_
        show Steps _ _ _ (T173.setTop (mkF m 249 (LW p1 q2 q3 q4 p5 rr xa xb xc cc (.val (.ref b2)) (.val (.ref b11)) (.val (.ref b22)) (.val (.ref b22)) (.val (.ref b129)) (.val (.ref wa129)) .unset .unset .unset) [(.long xc)])) _
        refine XS.lload X173.here hx rfl (hb hby at_249) rfl ?_
        show Steps _ _ _ (T173.setTop (mkF m 251 (LW p1 q2 q3 q4 p5 rr xa xb xc cc (.val (.ref b2)) (.val (.ref b11)) (.val (.ref b22)) (.val (.ref b22)) (.val (.ref b129)) (.val (.ref wa129)) .unset .unset .unset) [(.long xc), (.long xc)])) _
        refine XS.lcmp X173.here hx rfl (hb hby at_251) rfl ?_
        show Steps _ _ _ (T173.setTop (mkF m 252 (LW p1 q2 q3 q4 p5 rr xa xb xc cc (.val (.ref b2)) (.val (.ref b11)) (.val (.ref b22)) (.val (.ref b22)) (.val (.ref b129)) (.val (.ref wa129)) .unset .unset .unset) [(.int (lcmpW xc xc))])) _
        refine XS.ifYes X173.here hx rfl (pc0 := 252) (pc' := 257) rfl (hb hby at_252) rfl ((if0 _ _).trans (teq ((lw_eq _ _).mpr rfl)).1) (by decide) (by decide) ?_
        show Steps _ _ _ (T173.setTop (mkF m 257 (LW p1 q2 q3 q4 p5 rr xa xb xc cc (.val (.ref b2)) (.val (.ref b11)) (.val (.ref b22)) (.val (.ref b22)) (.val (.ref b129)) (.val (.ref wa129)) .unset .unset .unset) [])) _
        refine XS.iload X173.here hx rfl (hb hby at_257) rfl ?_
        show Steps _ _ _ (T173.setTop (mkF m 259 (LW p1 q2 q3 q4 p5 rr xa xb xc cc (.val (.ref b2)) (.val (.ref b11)) (.val (.ref b22)) (.val (.ref b22)) (.val (.ref b129)) (.val (.ref wa129)) .unset .unset .unset) [(.int rr)])) _
        refine XS.iconst X173.here hx rfl (hb hby at_259) ?_
        exact k
      by_cases hc260 : rr < (1 : Int32)
      · skip
        have go177 : Go p.tables e below T173 (mkF m 314 (LW p1 q2 q3 q4 p5 rr xa xb xc cc (.val (.ref b2)) (.val (.ref b11)) (.val (.ref b22)) (.val (.ref b22)) (.val (.ref b129)) (.val (.ref wa129)) .unset .unset .unset) [(.int (1 : Int32))]) s₁ (entryFrame m #[(.int p1), (.long q2), (.long q3), (.long q4), (.int p5)] maxLocals) := by
          intro t k
          refine go176 t ?_
          show Steps _ _ _ (T173.setTop (mkF m 260 (LW p1 q2 q3 q4 p5 rr xa xb xc cc (.val (.ref b2)) (.val (.ref b11)) (.val (.ref b22)) (.val (.ref b22)) (.val (.ref b129)) (.val (.ref wa129)) .unset .unset .unset) [(.int (1 : Int32)), (.int rr)])) _
          refine XS.icmpYes X173.here hx rfl (pc0 := 260) (pc' := 313) rfl (hb hby at_260) rfl (tlt hc260).1 (by decide) (by decide) ?_
          show Steps _ _ _ (T173.setTop (mkF m 313 (LW p1 q2 q3 q4 p5 rr xa xb xc cc (.val (.ref b2)) (.val (.ref b11)) (.val (.ref b22)) (.val (.ref b22)) (.val (.ref b129)) (.val (.ref wa129)) .unset .unset .unset) [])) _
          refine XS.iconst X173.here hx rfl (hb hby at_313) ?_
          exact k
        obtain ⟨fs, hr, hrun, hended, hW, hsame⟩ := X173.leave (v := some (.int (1 : Int32))) (fun h => by rw [Bd.returns] at h; cases h)
        refine ⟨_, _, go177 _ ?_, hrun, hended, _, _, rfl, ?_, ⟨_, rfl⟩, hW, hsame.mono (by decide) (by decide)⟩
        · exact retN X173 hx (t := .boolean) Bd.returns (by simp) (hb hby at_314) hr
        · show QL (.int 1) h0 n0 _ T173.heap _
          rw [e173]
          exact ⟨rfl, N173⟩
      · skip
        have go178 : Go p.tables e below T173 (mkF m 263 (LW p1 q2 q3 q4 p5 rr xa xb xc cc (.val (.ref b2)) (.val (.ref b11)) (.val (.ref b22)) (.val (.ref b22)) (.val (.ref b129)) (.val (.ref wa129)) .unset .unset .unset) []) s₁ (entryFrame m #[(.int p1), (.long q2), (.long q3), (.long q4), (.int p5)] maxLocals) := by
          intro t k
          refine go176 t ?_
          show Steps _ _ _ (T173.setTop (mkF m 260 (LW p1 q2 q3 q4 p5 rr xa xb xc cc (.val (.ref b2)) (.val (.ref b11)) (.val (.ref b22)) (.val (.ref b22)) (.val (.ref b129)) (.val (.ref wa129)) .unset .unset .unset) [(.int (1 : Int32)), (.int rr)])) _
          refine XS.icmpNo X173.here hx rfl (hb hby at_260) rfl (flt hc260).1 ?_
          exact k
        by_cases hl1 : rr = (1 : Int32)
        · skip
          have hmin : (if (3 : Int32) < rr then (3 : Int32) else rr) = (1 : Int32) := (by rw [hl1]; decide)
          have go180 : Go p.tables e below T173 (mkF m 267 (LW p1 q2 q3 q4 p5 rr xa xb xc cc (.val (.ref b2)) (.val (.ref b11)) (.val (.ref b22)) (.val (.ref b22)) (.val (.ref b129)) (.val (.ref wa129)) .unset .unset .unset) [(.int cc), (.int rr)]) s₁ (entryFrame m #[(.int p1), (.long q2), (.long q3), (.long q4), (.int p5)] maxLocals) := by
            intro t k
            refine go178 t ?_
            show Steps _ _ _ (T173.setTop (mkF m 263 (LW p1 q2 q3 q4 p5 rr xa xb xc cc (.val (.ref b2)) (.val (.ref b11)) (.val (.ref b22)) (.val (.ref b22)) (.val (.ref b129)) (.val (.ref wa129)) .unset .unset .unset) [])) _
            refine XS.iload X173.here hx rfl (hb hby at_263) rfl ?_
            show Steps _ _ _ (T173.setTop (mkF m 265 (LW p1 q2 q3 q4 p5 rr xa xb xc cc (.val (.ref b2)) (.val (.ref b11)) (.val (.ref b22)) (.val (.ref b22)) (.val (.ref b129)) (.val (.ref wa129)) .unset .unset .unset) [(.int rr)])) _
            refine XS.iload X173.here hx rfl (hb hby at_265) rfl ?_
            exact k
          obtain ⟨_, _, ⟨T179, L179, k179, n179⟩, -, X179, ⟨Lc179, hQ179, l179, y179, z179⟩, st179⟩ := Jvm.LawKit.callS X173 hx (y := (⟨"java/lang/Math", "min", "(II)I"⟩ : MethodName)) hown (mvT hZ (wk hw 199 rfl)) (mvT hZ (wk hw 200 rfl)) (mvT hZ (wk hw 201 rfl)) (mvT hZ (wk hw 202 rfl)) (by decide) (backOf (W := 0) (rm27 l Z a0 hw [] rr cc h136 n0 f138) hZ (wk hw 202 rfl) (wk hw 201 rfl) (by decide) (by decide)) (g := (mkF m 267 (LW p1 q2 q3 q4 p5 rr xa xb xc cc (.val (.ref b2)) (.val (.ref b11)) (.val (.ref b22)) (.val (.ref b22)) (.val (.ref b129)) (.val (.ref wa129)) .unset .unset .unset) [(.int cc), (.int rr)])) rfl (by rw [hml]; rfl) (argsL := [(.int rr), (.int cc)]) (rest := []) (lenOf pd_6 rfl) rfl (by show 2 * 0 + _ ≤ _; exact Nat.le_of_eq rfl) (hb hby at_267) (fun _ _ => ⟨rfl, e173, (by decide : 10 + 0 ≤ _), (by decide : 20 + 0 ≤ _)⟩)
          dsimp only [Pt.U, Pt.locs, Pt.cells, Pt.slots] at X179 l179 y179 z179 st179 hQ179
          subst l179 y179 z179
          obtain ⟨hv179, N179q, e179⟩ := hQ179
          rw [(own_c3 Hcc hc109 hc120), hmin] at hv179
          subst hv179
          have N179 := Fr.app N173 N179q
          have go182 : Go p.tables e below T179 (mkF m 302 (LW p1 q2 q3 q4 p5 rr xa xb xc cc (.val (.ref b2)) (.val (.ref b11)) (.val (.ref b22)) (.val (.ref b22)) (.val (.ref b129)) (.val (.ref wa129)) (.val (.int (1 : Int32))) (.val (.long xa)) .second) [(.int rr), (.ref b129)]) s₁ (entryFrame m #[(.int p1), (.long q2), (.long q3), (.long q4), (.int p5)] maxLocals) := by
            intro t k
            refine go180 t ?_
            show Steps _ _ _ (T173.setTop (mkF m 267 (LW p1 q2 q3 q4 p5 rr xa xb xc cc (.val (.ref b2)) (.val (.ref b11)) (.val (.ref b22)) (.val (.ref b22)) (.val (.ref b129)) (.val (.ref wa129)) .unset .unset .unset) [(.int cc), (.int rr)])) _
            refine st179 _ ?_
            show Steps _ _ _ (T179.setTop (mkF m 270 (LW p1 q2 q3 q4 p5 rr xa xb xc cc (.val (.ref b2)) (.val (.ref b11)) (.val (.ref b22)) (.val (.ref b22)) (.val (.ref b129)) (.val (.ref wa129)) .unset .unset .unset) [(.int (1 : Int32))])) _
            refine XS.istore X179.here hx rfl (hb hby at_270) rfl (l' := (LW p1 q2 q3 q4 p5 rr xa xb xc cc (.val (.ref b2)) (.val (.ref b11)) (.val (.ref b22)) (.val (.ref b22)) (.val (.ref b129)) (.val (.ref wa129)) (.val (.int (1 : Int32))) .unset .unset)) rfl ?_
            show Steps _ _ _ (T179.setTop (mkF m 272 (LW p1 q2 q3 q4 p5 rr xa xb xc cc (.val (.ref b2)) (.val (.ref b11)) (.val (.ref b22)) (.val (.ref b22)) (.val (.ref b129)) (.val (.ref wa129)) (.val (.int (1 : Int32))) .unset .unset) [])) _
            refine XS.iload X179.here hx rfl (hb hby at_272) rfl ?_
            show Steps _ _ _ (T179.setTop (mkF m 274 (LW p1 q2 q3 q4 p5 rr xa xb xc cc (.val (.ref b2)) (.val (.ref b11)) (.val (.ref b22)) (.val (.ref b22)) (.val (.ref b129)) (.val (.ref wa129)) (.val (.int (1 : Int32))) .unset .unset) [(.int (1 : Int32))])) _
            refine XS.iconst X179.here hx rfl (hb hby at_274) ?_
            show Steps _ _ _ (T179.setTop (mkF m 275 (LW p1 q2 q3 q4 p5 rr xa xb xc cc (.val (.ref b2)) (.val (.ref b11)) (.val (.ref b22)) (.val (.ref b22)) (.val (.ref b129)) (.val (.ref wa129)) (.val (.int (1 : Int32))) .unset .unset) [(.int (1 : Int32)), (.int (1 : Int32))])) _
            refine XS.icmpNo X179.here hx rfl (hb hby at_275) rfl (teq rfl).2 ?_
            show Steps _ _ _ (T179.setTop (mkF m 278 (LW p1 q2 q3 q4 p5 rr xa xb xc cc (.val (.ref b2)) (.val (.ref b11)) (.val (.ref b22)) (.val (.ref b22)) (.val (.ref b129)) (.val (.ref wa129)) (.val (.int (1 : Int32))) .unset .unset) [])) _
            refine XS.lload X179.here hx rfl (hb hby at_278) rfl ?_
            show Steps _ _ _ (T179.setTop (mkF m 280 (LW p1 q2 q3 q4 p5 rr xa xb xc cc (.val (.ref b2)) (.val (.ref b11)) (.val (.ref b22)) (.val (.ref b22)) (.val (.ref b129)) (.val (.ref wa129)) (.val (.int (1 : Int32))) .unset .unset) [(.long xa)])) _
            refine XS.goto X179.here hx rfl (pc0 := 280) (pc' := 296) rfl (hb hby at_280) (by decide) (by decide) ?_
            show Steps _ _ _ (T179.setTop (mkF m 296 (LW p1 q2 q3 q4 p5 rr xa xb xc cc (.val (.ref b2)) (.val (.ref b11)) (.val (.ref b22)) (.val (.ref b22)) (.val (.ref b129)) (.val (.ref wa129)) (.val (.int (1 : Int32))) .unset .unset) [(.long xa)])) _
            refine XS.lstore X179.here hx rfl (hb hby at_296) rfl (l' := (LW p1 q2 q3 q4 p5 rr xa xb xc cc (.val (.ref b2)) (.val (.ref b11)) (.val (.ref b22)) (.val (.ref b22)) (.val (.ref b129)) (.val (.ref wa129)) (.val (.int (1 : Int32))) (.val (.long xa)) .second)) rfl ?_
            show Steps _ _ _ (T179.setTop (mkF m 298 (LW p1 q2 q3 q4 p5 rr xa xb xc cc (.val (.ref b2)) (.val (.ref b11)) (.val (.ref b22)) (.val (.ref b22)) (.val (.ref b129)) (.val (.ref wa129)) (.val (.int (1 : Int32))) (.val (.long xa)) .second) [])) _
            refine XS.aload X179.here hx rfl (hb hby at_298) rfl rfl ?_
            show Steps _ _ _ (T179.setTop (mkF m 300 (LW p1 q2 q3 q4 p5 rr xa xb xc cc (.val (.ref b2)) (.val (.ref b11)) (.val (.ref b22)) (.val (.ref b22)) (.val (.ref b129)) (.val (.ref wa129)) (.val (.int (1 : Int32))) (.val (.long xa)) .second) [(.ref b129)])) _
            refine XS.iload X179.here hx rfl (hb hby at_300) rfl ?_
            exact k
          obtain ⟨cq181, kq181, q181a, q181b, q181c⟩ := isOf hZ e179 f141
          obtain ⟨_, _, ⟨T181, L181, k181, n181⟩, -, X181, ⟨Lc181, hQ181, l181, y181, z181⟩, st181⟩ := X179.virtualBack hx (y := (⟨"com/example/nackoff/nackoff/RetryPolicy", "waitBeforeRetryMs", "(I)J"⟩ : MethodName)) (z := (⟨"com/example/nackoff/nackoff/RetryPolicy", "waitBeforeRetryMs", "(I)J"⟩ : MethodName)) hown (mvT hZ (wk hw 203 rfl)) (mvT hZ (wk hw 204 rfl)) (notFace_of_selects (args := #[]) (mvT hZ (wk hw 206 rfl))) (mvT hZ (wk hw 206 rfl)) (mvT hZ (wk hw 205 rfl)) (by decide) (backOf (W := 0) (rm28 l Z a0 hw [] b129 rr wa129 al129 ea129 kE129 (3 : Int32) (1 : Int32) y1_129 [(.ref y1_129), (.ref y2_129), (.ref y3_129)] xa h136 n0 f138 f140 f143 f145 f147 f148 f149 f150 f154 f158 hc260 hmin rfl (by decide) (by decide)) hZ (wk hw 207 rfl) (wk hw 6 rfl) (by decide) (by decide)) q181a q181c (g := (mkF m 302 (LW p1 q2 q3 q4 p5 rr xa xb xc cc (.val (.ref b2)) (.val (.ref b11)) (.val (.ref b22)) (.val (.ref b22)) (.val (.ref b129)) (.val (.ref wa129)) (.val (.int (1 : Int32))) (.val (.long xa)) .second) [(.int rr), (.ref b129)])) rfl (by rw [hml]; rfl) (Steps.refl _) (argsL := [(.int rr)]) (rest := []) (lenOf pd_17 rfl) rfl (by show 2 * 0 + _ ≤ _; exact Nat.le_of_eq rfl) (hb hby at_302) (fun _ _ => ⟨rfl, e179, (by decide : 10 + 0 ≤ _), (by decide : 20 + 0 ≤ _)⟩)
          dsimp only [Pt.U, Pt.locs, Pt.cells, Pt.slots] at X181 l181 y181 z181 st181 hQ181
          subst l181 y181 z181
          obtain ⟨rfl, N181q, e181⟩ := hQ181
          have N181 := Fr.app N179 N181q
          have go183 : Go p.tables e below T181 (mkF m 314 (LW p1 q2 q3 q4 p5 rr xa xb xc cc (.val (.ref b2)) (.val (.ref b11)) (.val (.ref b22)) (.val (.ref b22)) (.val (.ref b129)) (.val (.ref wa129)) (.val (.int (1 : Int32))) (.val (.long xa)) .second) [(.int (1 : Int32))]) s₁ (entryFrame m #[(.int p1), (.long q2), (.long q3), (.long q4), (.int p5)] maxLocals) := by
            intro t k
            refine go182 t ?_
            show Steps _ _ _ (T179.setTop (mkF m 302 (LW p1 q2 q3 q4 p5 rr xa xb xc cc (.val (.ref b2)) (.val (.ref b11)) (.val (.ref b22)) (.val (.ref b22)) (.val (.ref b129)) (.val (.ref wa129)) (.val (.int (1 : Int32))) (.val (.long xa)) .second) [(.int rr), (.ref b129)])) _
            refine st181.trans ?_
            show Steps _ _ _ (T181.setTop (mkF m 305 (LW p1 q2 q3 q4 p5 rr xa xb xc cc (.val (.ref b2)) (.val (.ref b11)) (.val (.ref b22)) (.val (.ref b22)) (.val (.ref b129)) (.val (.ref wa129)) (.val (.int (1 : Int32))) (.val (.long xa)) .second) [(.long xa)])) _
            refine XS.lload X181.here hx rfl (hb hby at_305) rfl ?_
            show Steps _ _ _ (T181.setTop (mkF m 307 (LW p1 q2 q3 q4 p5 rr xa xb xc cc (.val (.ref b2)) (.val (.ref b11)) (.val (.ref b22)) (.val (.ref b22)) (.val (.ref b129)) (.val (.ref wa129)) (.val (.int (1 : Int32))) (.val (.long xa)) .second) [(.long xa), (.long xa)])) _
            refine XS.lcmp X181.here hx rfl (hb hby at_307) rfl ?_
            show Steps _ _ _ (T181.setTop (mkF m 308 (LW p1 q2 q3 q4 p5 rr xa xb xc cc (.val (.ref b2)) (.val (.ref b11)) (.val (.ref b22)) (.val (.ref b22)) (.val (.ref b129)) (.val (.ref wa129)) (.val (.int (1 : Int32))) (.val (.long xa)) .second) [(.int (lcmpW xa xa))])) _
            refine XS.ifYes X181.here hx rfl (pc0 := 308) (pc' := 313) rfl (hb hby at_308) rfl ((if0 _ _).trans (teq ((lw_eq _ _).mpr rfl)).1) (by decide) (by decide) ?_
            show Steps _ _ _ (T181.setTop (mkF m 313 (LW p1 q2 q3 q4 p5 rr xa xb xc cc (.val (.ref b2)) (.val (.ref b11)) (.val (.ref b22)) (.val (.ref b22)) (.val (.ref b129)) (.val (.ref wa129)) (.val (.int (1 : Int32))) (.val (.long xa)) .second) [])) _
            refine XS.iconst X181.here hx rfl (hb hby at_313) ?_
            exact k
          obtain ⟨fs, hr, hrun, hended, hW, hsame⟩ := X181.leave (v := some (.int (1 : Int32))) (fun h => by rw [Bd.returns] at h; cases h)
          refine ⟨_, _, go183 _ ?_, hrun, hended, _, _, rfl, ?_, ⟨_, rfl⟩, hW, hsame.mono (by decide) (by decide)⟩
          · exact retN X181 hx (t := .boolean) Bd.returns (by simp) (hb hby at_314) hr
          · show QL (.int 1) h0 n0 _ T181.heap _
            rw [e181]
            exact ⟨rfl, N181⟩
        · skip
          by_cases hl2 : rr = (2 : Int32)
          · skip
            have hmin : (if (3 : Int32) < rr then (3 : Int32) else rr) = (2 : Int32) := (by rw [hl2]; decide)
            have go185 : Go p.tables e below T173 (mkF m 267 (LW p1 q2 q3 q4 p5 rr xa xb xc cc (.val (.ref b2)) (.val (.ref b11)) (.val (.ref b22)) (.val (.ref b22)) (.val (.ref b129)) (.val (.ref wa129)) .unset .unset .unset) [(.int cc), (.int rr)]) s₁ (entryFrame m #[(.int p1), (.long q2), (.long q3), (.long q4), (.int p5)] maxLocals) := by
              intro t k
              refine go178 t ?_
              show Steps _ _ _ (T173.setTop (mkF m 263 (LW p1 q2 q3 q4 p5 rr xa xb xc cc (.val (.ref b2)) (.val (.ref b11)) (.val (.ref b22)) (.val (.ref b22)) (.val (.ref b129)) (.val (.ref wa129)) .unset .unset .unset) [])) _
              refine XS.iload X173.here hx rfl (hb hby at_263) rfl ?_
              show Steps _ _ _ (T173.setTop (mkF m 265 (LW p1 q2 q3 q4 p5 rr xa xb xc cc (.val (.ref b2)) (.val (.ref b11)) (.val (.ref b22)) (.val (.ref b22)) (.val (.ref b129)) (.val (.ref wa129)) .unset .unset .unset) [(.int rr)])) _
              refine XS.iload X173.here hx rfl (hb hby at_265) rfl ?_
              exact k
            obtain ⟨_, _, ⟨T184, L184, k184, n184⟩, -, X184, ⟨Lc184, hQ184, l184, y184, z184⟩, st184⟩ := Jvm.LawKit.callS X173 hx (y := (⟨"java/lang/Math", "min", "(II)I"⟩ : MethodName)) hown (mvT hZ (wk hw 199 rfl)) (mvT hZ (wk hw 200 rfl)) (mvT hZ (wk hw 201 rfl)) (mvT hZ (wk hw 202 rfl)) (by decide) (backOf (W := 0) (rm27 l Z a0 hw [] rr cc h136 n0 f138) hZ (wk hw 202 rfl) (wk hw 201 rfl) (by decide) (by decide)) (g := (mkF m 267 (LW p1 q2 q3 q4 p5 rr xa xb xc cc (.val (.ref b2)) (.val (.ref b11)) (.val (.ref b22)) (.val (.ref b22)) (.val (.ref b129)) (.val (.ref wa129)) .unset .unset .unset) [(.int cc), (.int rr)])) rfl (by rw [hml]; rfl) (argsL := [(.int rr), (.int cc)]) (rest := []) (lenOf pd_6 rfl) rfl (by show 2 * 0 + _ ≤ _; exact Nat.le_of_eq rfl) (hb hby at_267) (fun _ _ => ⟨rfl, e173, (by decide : 10 + 0 ≤ _), (by decide : 20 + 0 ≤ _)⟩)
            dsimp only [Pt.U, Pt.locs, Pt.cells, Pt.slots] at X184 l184 y184 z184 st184 hQ184
            subst l184 y184 z184
            obtain ⟨hv184, N184q, e184⟩ := hQ184
            rw [(own_c3 Hcc hc109 hc120), hmin] at hv184
            subst hv184
            have N184 := Fr.app N173 N184q
            have go187 : Go p.tables e below T184 (mkF m 302 (LW p1 q2 q3 q4 p5 rr xa xb xc cc (.val (.ref b2)) (.val (.ref b11)) (.val (.ref b22)) (.val (.ref b22)) (.val (.ref b129)) (.val (.ref wa129)) (.val (.int (2 : Int32))) (.val (.long xb)) .second) [(.int rr), (.ref b129)]) s₁ (entryFrame m #[(.int p1), (.long q2), (.long q3), (.long q4), (.int p5)] maxLocals) := by
              intro t k
              refine go185 t ?_
              show Steps _ _ _ (T173.setTop (mkF m 267 (LW p1 q2 q3 q4 p5 rr xa xb xc cc (.val (.ref b2)) (.val (.ref b11)) (.val (.ref b22)) (.val (.ref b22)) (.val (.ref b129)) (.val (.ref wa129)) .unset .unset .unset) [(.int cc), (.int rr)])) _
              refine st184 _ ?_
              show Steps _ _ _ (T184.setTop (mkF m 270 (LW p1 q2 q3 q4 p5 rr xa xb xc cc (.val (.ref b2)) (.val (.ref b11)) (.val (.ref b22)) (.val (.ref b22)) (.val (.ref b129)) (.val (.ref wa129)) .unset .unset .unset) [(.int (2 : Int32))])) _
              refine XS.istore X184.here hx rfl (hb hby at_270) rfl (l' := (LW p1 q2 q3 q4 p5 rr xa xb xc cc (.val (.ref b2)) (.val (.ref b11)) (.val (.ref b22)) (.val (.ref b22)) (.val (.ref b129)) (.val (.ref wa129)) (.val (.int (2 : Int32))) .unset .unset)) rfl ?_
              show Steps _ _ _ (T184.setTop (mkF m 272 (LW p1 q2 q3 q4 p5 rr xa xb xc cc (.val (.ref b2)) (.val (.ref b11)) (.val (.ref b22)) (.val (.ref b22)) (.val (.ref b129)) (.val (.ref wa129)) (.val (.int (2 : Int32))) .unset .unset) [])) _
              refine XS.iload X184.here hx rfl (hb hby at_272) rfl ?_
              show Steps _ _ _ (T184.setTop (mkF m 274 (LW p1 q2 q3 q4 p5 rr xa xb xc cc (.val (.ref b2)) (.val (.ref b11)) (.val (.ref b22)) (.val (.ref b22)) (.val (.ref b129)) (.val (.ref wa129)) (.val (.int (2 : Int32))) .unset .unset) [(.int (2 : Int32))])) _
              refine XS.iconst X184.here hx rfl (hb hby at_274) ?_
              show Steps _ _ _ (T184.setTop (mkF m 275 (LW p1 q2 q3 q4 p5 rr xa xb xc cc (.val (.ref b2)) (.val (.ref b11)) (.val (.ref b22)) (.val (.ref b22)) (.val (.ref b129)) (.val (.ref wa129)) (.val (.int (2 : Int32))) .unset .unset) [(.int (1 : Int32)), (.int (2 : Int32))])) _
              refine XS.icmpYes X184.here hx rfl (pc0 := 275) (pc' := 283) rfl (hb hby at_275) rfl (feq (by decide)).2 (by decide) (by decide) ?_
              show Steps _ _ _ (T184.setTop (mkF m 283 (LW p1 q2 q3 q4 p5 rr xa xb xc cc (.val (.ref b2)) (.val (.ref b11)) (.val (.ref b22)) (.val (.ref b22)) (.val (.ref b129)) (.val (.ref wa129)) (.val (.int (2 : Int32))) .unset .unset) [])) _
              refine XS.iload X184.here hx rfl (hb hby at_283) rfl ?_
              show Steps _ _ _ (T184.setTop (mkF m 285 (LW p1 q2 q3 q4 p5 rr xa xb xc cc (.val (.ref b2)) (.val (.ref b11)) (.val (.ref b22)) (.val (.ref b22)) (.val (.ref b129)) (.val (.ref wa129)) (.val (.int (2 : Int32))) .unset .unset) [(.int (2 : Int32))])) _
              refine XS.iconst X184.here hx rfl (hb hby at_285) ?_
              show Steps _ _ _ (T184.setTop (mkF m 286 (LW p1 q2 q3 q4 p5 rr xa xb xc cc (.val (.ref b2)) (.val (.ref b11)) (.val (.ref b22)) (.val (.ref b22)) (.val (.ref b129)) (.val (.ref wa129)) (.val (.int (2 : Int32))) .unset .unset) [(.int (2 : Int32)), (.int (2 : Int32))])) _
              refine XS.icmpNo X184.here hx rfl (hb hby at_286) rfl (teq rfl).2 ?_
              show Steps _ _ _ (T184.setTop (mkF m 289 (LW p1 q2 q3 q4 p5 rr xa xb xc cc (.val (.ref b2)) (.val (.ref b11)) (.val (.ref b22)) (.val (.ref b22)) (.val (.ref b129)) (.val (.ref wa129)) (.val (.int (2 : Int32))) .unset .unset) [])) _
              refine XS.lload X184.here hx rfl (hb hby at_289) rfl ?_
              show Steps _ _ _ (T184.setTop (mkF m 291 (LW p1 q2 q3 q4 p5 rr xa xb xc cc (.val (.ref b2)) (.val (.ref b11)) (.val (.ref b22)) (.val (.ref b22)) (.val (.ref b129)) (.val (.ref wa129)) (.val (.int (2 : Int32))) .unset .unset) [(.long xb)])) _
              refine XS.goto X184.here hx rfl (pc0 := 291) (pc' := 296) rfl (hb hby at_291) (by decide) (by decide) ?_
              show Steps _ _ _ (T184.setTop (mkF m 296 (LW p1 q2 q3 q4 p5 rr xa xb xc cc (.val (.ref b2)) (.val (.ref b11)) (.val (.ref b22)) (.val (.ref b22)) (.val (.ref b129)) (.val (.ref wa129)) (.val (.int (2 : Int32))) .unset .unset) [(.long xb)])) _
              refine XS.lstore X184.here hx rfl (hb hby at_296) rfl (l' := (LW p1 q2 q3 q4 p5 rr xa xb xc cc (.val (.ref b2)) (.val (.ref b11)) (.val (.ref b22)) (.val (.ref b22)) (.val (.ref b129)) (.val (.ref wa129)) (.val (.int (2 : Int32))) (.val (.long xb)) .second)) rfl ?_
              show Steps _ _ _ (T184.setTop (mkF m 298 (LW p1 q2 q3 q4 p5 rr xa xb xc cc (.val (.ref b2)) (.val (.ref b11)) (.val (.ref b22)) (.val (.ref b22)) (.val (.ref b129)) (.val (.ref wa129)) (.val (.int (2 : Int32))) (.val (.long xb)) .second) [])) _
              refine XS.aload X184.here hx rfl (hb hby at_298) rfl rfl ?_
              show Steps _ _ _ (T184.setTop (mkF m 300 (LW p1 q2 q3 q4 p5 rr xa xb xc cc (.val (.ref b2)) (.val (.ref b11)) (.val (.ref b22)) (.val (.ref b22)) (.val (.ref b129)) (.val (.ref wa129)) (.val (.int (2 : Int32))) (.val (.long xb)) .second) [(.ref b129)])) _
              refine XS.iload X184.here hx rfl (hb hby at_300) rfl ?_
              exact k
            obtain ⟨cq186, kq186, q186a, q186b, q186c⟩ := isOf hZ e184 f141
            obtain ⟨_, _, ⟨T186, L186, k186, n186⟩, -, X186, ⟨Lc186, hQ186, l186, y186, z186⟩, st186⟩ := X184.virtualBack hx (y := (⟨"com/example/nackoff/nackoff/RetryPolicy", "waitBeforeRetryMs", "(I)J"⟩ : MethodName)) (z := (⟨"com/example/nackoff/nackoff/RetryPolicy", "waitBeforeRetryMs", "(I)J"⟩ : MethodName)) hown (mvT hZ (wk hw 203 rfl)) (mvT hZ (wk hw 204 rfl)) (notFace_of_selects (args := #[]) (mvT hZ (wk hw 206 rfl))) (mvT hZ (wk hw 206 rfl)) (mvT hZ (wk hw 205 rfl)) (by decide) (backOf (W := 0) (rm28 l Z a0 hw [] b129 rr wa129 al129 ea129 kE129 (3 : Int32) (2 : Int32) y2_129 [(.ref y1_129), (.ref y2_129), (.ref y3_129)] xb h136 n0 f138 f140 f143 f145 f147 f148 f149 f150 f162 f166 hc260 hmin rfl (by decide) (by decide)) hZ (wk hw 207 rfl) (wk hw 6 rfl) (by decide) (by decide)) q186a q186c (g := (mkF m 302 (LW p1 q2 q3 q4 p5 rr xa xb xc cc (.val (.ref b2)) (.val (.ref b11)) (.val (.ref b22)) (.val (.ref b22)) (.val (.ref b129)) (.val (.ref wa129)) (.val (.int (2 : Int32))) (.val (.long xb)) .second) [(.int rr), (.ref b129)])) rfl (by rw [hml]; rfl) (Steps.refl _) (argsL := [(.int rr)]) (rest := []) (lenOf pd_17 rfl) rfl (by show 2 * 0 + _ ≤ _; exact Nat.le_of_eq rfl) (hb hby at_302) (fun _ _ => ⟨rfl, e184, (by decide : 10 + 0 ≤ _), (by decide : 20 + 0 ≤ _)⟩)
            dsimp only [Pt.U, Pt.locs, Pt.cells, Pt.slots] at X186 l186 y186 z186 st186 hQ186
            subst l186 y186 z186
            obtain ⟨rfl, N186q, e186⟩ := hQ186
            have N186 := Fr.app N184 N186q
            have go188 : Go p.tables e below T186 (mkF m 314 (LW p1 q2 q3 q4 p5 rr xa xb xc cc (.val (.ref b2)) (.val (.ref b11)) (.val (.ref b22)) (.val (.ref b22)) (.val (.ref b129)) (.val (.ref wa129)) (.val (.int (2 : Int32))) (.val (.long xb)) .second) [(.int (1 : Int32))]) s₁ (entryFrame m #[(.int p1), (.long q2), (.long q3), (.long q4), (.int p5)] maxLocals) := by
              intro t k
              refine go187 t ?_
              show Steps _ _ _ (T184.setTop (mkF m 302 (LW p1 q2 q3 q4 p5 rr xa xb xc cc (.val (.ref b2)) (.val (.ref b11)) (.val (.ref b22)) (.val (.ref b22)) (.val (.ref b129)) (.val (.ref wa129)) (.val (.int (2 : Int32))) (.val (.long xb)) .second) [(.int rr), (.ref b129)])) _
              refine st186.trans ?_
              show Steps _ _ _ (T186.setTop (mkF m 305 (LW p1 q2 q3 q4 p5 rr xa xb xc cc (.val (.ref b2)) (.val (.ref b11)) (.val (.ref b22)) (.val (.ref b22)) (.val (.ref b129)) (.val (.ref wa129)) (.val (.int (2 : Int32))) (.val (.long xb)) .second) [(.long xb)])) _
              refine XS.lload X186.here hx rfl (hb hby at_305) rfl ?_
              show Steps _ _ _ (T186.setTop (mkF m 307 (LW p1 q2 q3 q4 p5 rr xa xb xc cc (.val (.ref b2)) (.val (.ref b11)) (.val (.ref b22)) (.val (.ref b22)) (.val (.ref b129)) (.val (.ref wa129)) (.val (.int (2 : Int32))) (.val (.long xb)) .second) [(.long xb), (.long xb)])) _
              refine XS.lcmp X186.here hx rfl (hb hby at_307) rfl ?_
              show Steps _ _ _ (T186.setTop (mkF m 308 (LW p1 q2 q3 q4 p5 rr xa xb xc cc (.val (.ref b2)) (.val (.ref b11)) (.val (.ref b22)) (.val (.ref b22)) (.val (.ref b129)) (.val (.ref wa129)) (.val (.int (2 : Int32))) (.val (.long xb)) .second) [(.int (lcmpW xb xb))])) _
              refine XS.ifYes X186.here hx rfl (pc0 := 308) (pc' := 313) rfl (hb hby at_308) rfl ((if0 _ _).trans (teq ((lw_eq _ _).mpr rfl)).1) (by decide) (by decide) ?_
              show Steps _ _ _ (T186.setTop (mkF m 313 (LW p1 q2 q3 q4 p5 rr xa xb xc cc (.val (.ref b2)) (.val (.ref b11)) (.val (.ref b22)) (.val (.ref b22)) (.val (.ref b129)) (.val (.ref wa129)) (.val (.int (2 : Int32))) (.val (.long xb)) .second) [])) _
              refine XS.iconst X186.here hx rfl (hb hby at_313) ?_
              exact k
            obtain ⟨fs, hr, hrun, hended, hW, hsame⟩ := X186.leave (v := some (.int (1 : Int32))) (fun h => by rw [Bd.returns] at h; cases h)
            refine ⟨_, _, go188 _ ?_, hrun, hended, _, _, rfl, ?_, ⟨_, rfl⟩, hW, hsame.mono (by decide) (by decide)⟩
            · exact retN X186 hx (t := .boolean) Bd.returns (by simp) (hb hby at_314) hr
            · show QL (.int 1) h0 n0 _ T186.heap _
              rw [e186]
              exact ⟨rfl, N186⟩
          · skip
            have hmin : (if (3 : Int32) < rr then (3 : Int32) else rr) = (3 : Int32) := own_minr (by decide : (3 : Int32).toInt = 3) (by decide) hc260 (own_no3 hl1 hl2)
            have go190 : Go p.tables e below T173 (mkF m 267 (LW p1 q2 q3 q4 p5 rr xa xb xc cc (.val (.ref b2)) (.val (.ref b11)) (.val (.ref b22)) (.val (.ref b22)) (.val (.ref b129)) (.val (.ref wa129)) .unset .unset .unset) [(.int cc), (.int rr)]) s₁ (entryFrame m #[(.int p1), (.long q2), (.long q3), (.long q4), (.int p5)] maxLocals) := by
              intro t k
              refine go178 t ?_
              show Steps _ _ _ (T173.setTop (mkF m 263 (LW p1 q2 q3 q4 p5 rr xa xb xc cc (.val (.ref b2)) (.val (.ref b11)) (.val (.ref b22)) (.val (.ref b22)) (.val (.ref b129)) (.val (.ref wa129)) .unset .unset .unset) [])) _
              refine XS.iload X173.here hx rfl (hb hby at_263) rfl ?_
              show Steps _ _ _ (T173.setTop (mkF m 265 (LW p1 q2 q3 q4 p5 rr xa xb xc cc (.val (.ref b2)) (.val (.ref b11)) (.val (.ref b22)) (.val (.ref b22)) (.val (.ref b129)) (.val (.ref wa129)) .unset .unset .unset) [(.int rr)])) _
              refine XS.iload X173.here hx rfl (hb hby at_265) rfl ?_
              exact k
            obtain ⟨_, _, ⟨T189, L189, k189, n189⟩, -, X189, ⟨Lc189, hQ189, l189, y189, z189⟩, st189⟩ := Jvm.LawKit.callS X173 hx (y := (⟨"java/lang/Math", "min", "(II)I"⟩ : MethodName)) hown (mvT hZ (wk hw 199 rfl)) (mvT hZ (wk hw 200 rfl)) (mvT hZ (wk hw 201 rfl)) (mvT hZ (wk hw 202 rfl)) (by decide) (backOf (W := 0) (rm27 l Z a0 hw [] rr cc h136 n0 f138) hZ (wk hw 202 rfl) (wk hw 201 rfl) (by decide) (by decide)) (g := (mkF m 267 (LW p1 q2 q3 q4 p5 rr xa xb xc cc (.val (.ref b2)) (.val (.ref b11)) (.val (.ref b22)) (.val (.ref b22)) (.val (.ref b129)) (.val (.ref wa129)) .unset .unset .unset) [(.int cc), (.int rr)])) rfl (by rw [hml]; rfl) (argsL := [(.int rr), (.int cc)]) (rest := []) (lenOf pd_6 rfl) rfl (by show 2 * 0 + _ ≤ _; exact Nat.le_of_eq rfl) (hb hby at_267) (fun _ _ => ⟨rfl, e173, (by decide : 10 + 0 ≤ _), (by decide : 20 + 0 ≤ _)⟩)
            dsimp only [Pt.U, Pt.locs, Pt.cells, Pt.slots] at X189 l189 y189 z189 st189 hQ189
            subst l189 y189 z189
            obtain ⟨hv189, N189q, e189⟩ := hQ189
            rw [(own_c3 Hcc hc109 hc120), hmin] at hv189
            subst hv189
            have N189 := Fr.app N173 N189q
            have go192 : Go p.tables e below T189 (mkF m 302 (LW p1 q2 q3 q4 p5 rr xa xb xc cc (.val (.ref b2)) (.val (.ref b11)) (.val (.ref b22)) (.val (.ref b22)) (.val (.ref b129)) (.val (.ref wa129)) (.val (.int (3 : Int32))) (.val (.long xc)) .second) [(.int rr), (.ref b129)]) s₁ (entryFrame m #[(.int p1), (.long q2), (.long q3), (.long q4), (.int p5)] maxLocals) := by
              intro t k
              refine go190 t ?_
              show Steps _ _ _ (T173.setTop (mkF m 267 (LW p1 q2 q3 q4 p5 rr xa xb xc cc (.val (.ref b2)) (.val (.ref b11)) (.val (.ref b22)) (.val (.ref b22)) (.val (.ref b129)) (.val (.ref wa129)) .unset .unset .unset) [(.int cc), (.int rr)])) _
              refine st189 _ ?_
              show Steps _ _ _ (T189.setTop (mkF m 270 (LW p1 q2 q3 q4 p5 rr xa xb xc cc (.val (.ref b2)) (.val (.ref b11)) (.val (.ref b22)) (.val (.ref b22)) (.val (.ref b129)) (.val (.ref wa129)) .unset .unset .unset) [(.int (3 : Int32))])) _
              refine XS.istore X189.here hx rfl (hb hby at_270) rfl (l' := (LW p1 q2 q3 q4 p5 rr xa xb xc cc (.val (.ref b2)) (.val (.ref b11)) (.val (.ref b22)) (.val (.ref b22)) (.val (.ref b129)) (.val (.ref wa129)) (.val (.int (3 : Int32))) .unset .unset)) rfl ?_
              show Steps _ _ _ (T189.setTop (mkF m 272 (LW p1 q2 q3 q4 p5 rr xa xb xc cc (.val (.ref b2)) (.val (.ref b11)) (.val (.ref b22)) (.val (.ref b22)) (.val (.ref b129)) (.val (.ref wa129)) (.val (.int (3 : Int32))) .unset .unset) [])) _
              refine XS.iload X189.here hx rfl (hb hby at_272) rfl ?_
              show Steps _ _ _ (T189.setTop (mkF m 274 (LW p1 q2 q3 q4 p5 rr xa xb xc cc (.val (.ref b2)) (.val (.ref b11)) (.val (.ref b22)) (.val (.ref b22)) (.val (.ref b129)) (.val (.ref wa129)) (.val (.int (3 : Int32))) .unset .unset) [(.int (3 : Int32))])) _
              refine XS.iconst X189.here hx rfl (hb hby at_274) ?_
              show Steps _ _ _ (T189.setTop (mkF m 275 (LW p1 q2 q3 q4 p5 rr xa xb xc cc (.val (.ref b2)) (.val (.ref b11)) (.val (.ref b22)) (.val (.ref b22)) (.val (.ref b129)) (.val (.ref wa129)) (.val (.int (3 : Int32))) .unset .unset) [(.int (1 : Int32)), (.int (3 : Int32))])) _
              refine XS.icmpYes X189.here hx rfl (pc0 := 275) (pc' := 283) rfl (hb hby at_275) rfl (feq (by decide)).2 (by decide) (by decide) ?_
              show Steps _ _ _ (T189.setTop (mkF m 283 (LW p1 q2 q3 q4 p5 rr xa xb xc cc (.val (.ref b2)) (.val (.ref b11)) (.val (.ref b22)) (.val (.ref b22)) (.val (.ref b129)) (.val (.ref wa129)) (.val (.int (3 : Int32))) .unset .unset) [])) _
              refine XS.iload X189.here hx rfl (hb hby at_283) rfl ?_
              show Steps _ _ _ (T189.setTop (mkF m 285 (LW p1 q2 q3 q4 p5 rr xa xb xc cc (.val (.ref b2)) (.val (.ref b11)) (.val (.ref b22)) (.val (.ref b22)) (.val (.ref b129)) (.val (.ref wa129)) (.val (.int (3 : Int32))) .unset .unset) [(.int (3 : Int32))])) _
              refine XS.iconst X189.here hx rfl (hb hby at_285) ?_
              show Steps _ _ _ (T189.setTop (mkF m 286 (LW p1 q2 q3 q4 p5 rr xa xb xc cc (.val (.ref b2)) (.val (.ref b11)) (.val (.ref b22)) (.val (.ref b22)) (.val (.ref b129)) (.val (.ref wa129)) (.val (.int (3 : Int32))) .unset .unset) [(.int (2 : Int32)), (.int (3 : Int32))])) _
              refine XS.icmpYes X189.here hx rfl (pc0 := 286) (pc' := 294) rfl (hb hby at_286) rfl (feq (by decide)).2 (by decide) (by decide) ?_
              show Steps _ _ _ (T189.setTop (mkF m 294 (LW p1 q2 q3 q4 p5 rr xa xb xc cc (.val (.ref b2)) (.val (.ref b11)) (.val (.ref b22)) (.val (.ref b22)) (.val (.ref b129)) (.val (.ref wa129)) (.val (.int (3 : Int32))) .unset .unset) [])) _
              refine XS.lload X189.here hx rfl (hb hby at_294) rfl ?_
              show Steps _ _ _ (T189.setTop (mkF m 296 (LW p1 q2 q3 q4 p5 rr xa xb xc cc (.val (.ref b2)) (.val (.ref b11)) (.val (.ref b22)) (.val (.ref b22)) (.val (.ref b129)) (.val (.ref wa129)) (.val (.int (3 : Int32))) .unset .unset) [(.long xc)])) _
              refine XS.lstore X189.here hx rfl (hb hby at_296) rfl (l' := (LW p1 q2 q3 q4 p5 rr xa xb xc cc (.val (.ref b2)) (.val (.ref b11)) (.val (.ref b22)) (.val (.ref b22)) (.val (.ref b129)) (.val (.ref wa129)) (.val (.int (3 : Int32))) (.val (.long xc)) .second)) rfl ?_
              show Steps _ _ _ (T189.setTop (mkF m 298 (LW p1 q2 q3 q4 p5 rr xa xb xc cc (.val (.ref b2)) (.val (.ref b11)) (.val (.ref b22)) (.val (.ref b22)) (.val (.ref b129)) (.val (.ref wa129)) (.val (.int (3 : Int32))) (.val (.long xc)) .second) [])) _
              refine XS.aload X189.here hx rfl (hb hby at_298) rfl rfl ?_
              show Steps _ _ _ (T189.setTop (mkF m 300 (LW p1 q2 q3 q4 p5 rr xa xb xc cc (.val (.ref b2)) (.val (.ref b11)) (.val (.ref b22)) (.val (.ref b22)) (.val (.ref b129)) (.val (.ref wa129)) (.val (.int (3 : Int32))) (.val (.long xc)) .second) [(.ref b129)])) _
              refine XS.iload X189.here hx rfl (hb hby at_300) rfl ?_
              exact k
            obtain ⟨cq191, kq191, q191a, q191b, q191c⟩ := isOf hZ e189 f141
            obtain ⟨_, _, ⟨T191, L191, k191, n191⟩, -, X191, ⟨Lc191, hQ191, l191, y191, z191⟩, st191⟩ := X189.virtualBack hx (y := (⟨"com/example/nackoff/nackoff/RetryPolicy", "waitBeforeRetryMs", "(I)J"⟩ : MethodName)) (z := (⟨"com/example/nackoff/nackoff/RetryPolicy", "waitBeforeRetryMs", "(I)J"⟩ : MethodName)) hown (mvT hZ (wk hw 203 rfl)) (mvT hZ (wk hw 204 rfl)) (notFace_of_selects (args := #[]) (mvT hZ (wk hw 206 rfl))) (mvT hZ (wk hw 206 rfl)) (mvT hZ (wk hw 205 rfl)) (by decide) (backOf (W := 0) (rm28 l Z a0 hw [] b129 rr wa129 al129 ea129 kE129 (3 : Int32) (3 : Int32) y3_129 [(.ref y1_129), (.ref y2_129), (.ref y3_129)] xc h136 n0 f138 f140 f143 f145 f147 f148 f149 f150 f170 f174 hc260 hmin rfl (by decide) (by decide)) hZ (wk hw 207 rfl) (wk hw 6 rfl) (by decide) (by decide)) q191a q191c (g := (mkF m 302 (LW p1 q2 q3 q4 p5 rr xa xb xc cc (.val (.ref b2)) (.val (.ref b11)) (.val (.ref b22)) (.val (.ref b22)) (.val (.ref b129)) (.val (.ref wa129)) (.val (.int (3 : Int32))) (.val (.long xc)) .second) [(.int rr), (.ref b129)])) rfl (by rw [hml]; rfl) (Steps.refl _) (argsL := [(.int rr)]) (rest := []) (lenOf pd_17 rfl) rfl (by show 2 * 0 + _ ≤ _; exact Nat.le_of_eq rfl) (hb hby at_302) (fun _ _ => ⟨rfl, e189, (by decide : 10 + 0 ≤ _), (by decide : 20 + 0 ≤ _)⟩)
            dsimp only [Pt.U, Pt.locs, Pt.cells, Pt.slots] at X191 l191 y191 z191 st191 hQ191
            subst l191 y191 z191
            obtain ⟨rfl, N191q, e191⟩ := hQ191
            have N191 := Fr.app N189 N191q
            have go193 : Go p.tables e below T191 (mkF m 314 (LW p1 q2 q3 q4 p5 rr xa xb xc cc (.val (.ref b2)) (.val (.ref b11)) (.val (.ref b22)) (.val (.ref b22)) (.val (.ref b129)) (.val (.ref wa129)) (.val (.int (3 : Int32))) (.val (.long xc)) .second) [(.int (1 : Int32))]) s₁ (entryFrame m #[(.int p1), (.long q2), (.long q3), (.long q4), (.int p5)] maxLocals) := by
              intro t k
              refine go192 t ?_
              show Steps _ _ _ (T189.setTop (mkF m 302 (LW p1 q2 q3 q4 p5 rr xa xb xc cc (.val (.ref b2)) (.val (.ref b11)) (.val (.ref b22)) (.val (.ref b22)) (.val (.ref b129)) (.val (.ref wa129)) (.val (.int (3 : Int32))) (.val (.long xc)) .second) [(.int rr), (.ref b129)])) _
              refine st191.trans ?_
              show Steps _ _ _ (T191.setTop (mkF m 305 (LW p1 q2 q3 q4 p5 rr xa xb xc cc (.val (.ref b2)) (.val (.ref b11)) (.val (.ref b22)) (.val (.ref b22)) (.val (.ref b129)) (.val (.ref wa129)) (.val (.int (3 : Int32))) (.val (.long xc)) .second) [(.long xc)])) _
              refine XS.lload X191.here hx rfl (hb hby at_305) rfl ?_
              show Steps _ _ _ (T191.setTop (mkF m 307 (LW p1 q2 q3 q4 p5 rr xa xb xc cc (.val (.ref b2)) (.val (.ref b11)) (.val (.ref b22)) (.val (.ref b22)) (.val (.ref b129)) (.val (.ref wa129)) (.val (.int (3 : Int32))) (.val (.long xc)) .second) [(.long xc), (.long xc)])) _
              refine XS.lcmp X191.here hx rfl (hb hby at_307) rfl ?_
              show Steps _ _ _ (T191.setTop (mkF m 308 (LW p1 q2 q3 q4 p5 rr xa xb xc cc (.val (.ref b2)) (.val (.ref b11)) (.val (.ref b22)) (.val (.ref b22)) (.val (.ref b129)) (.val (.ref wa129)) (.val (.int (3 : Int32))) (.val (.long xc)) .second) [(.int (lcmpW xc xc))])) _
              refine XS.ifYes X191.here hx rfl (pc0 := 308) (pc' := 313) rfl (hb hby at_308) rfl ((if0 _ _).trans (teq ((lw_eq _ _).mpr rfl)).1) (by decide) (by decide) ?_
              show Steps _ _ _ (T191.setTop (mkF m 313 (LW p1 q2 q3 q4 p5 rr xa xb xc cc (.val (.ref b2)) (.val (.ref b11)) (.val (.ref b22)) (.val (.ref b22)) (.val (.ref b129)) (.val (.ref wa129)) (.val (.int (3 : Int32))) (.val (.long xc)) .second) [])) _
              refine XS.iconst X191.here hx rfl (hb hby at_313) ?_
              exact k
            obtain ⟨fs, hr, hrun, hended, hW, hsame⟩ := X191.leave (v := some (.int (1 : Int32))) (fun h => by rw [Bd.returns] at h; cases h)
            refine ⟨_, _, go193 _ ?_, hrun, hended, _, _, rfl, ?_, ⟨_, rfl⟩, hW, hsame.mono (by decide) (by decide)⟩
            · exact retN X191 hx (t := .boolean) Bd.returns (by simp) (hb hby at_314) hr
            · show QL (.int 1) h0 n0 _ T191.heap _
              rw [e191]
              exact ⟨rfl, N191⟩
set_option maxRecDepth 65536 in
set_option maxHeartbeats 40000000 in
theorem comes_1 {Post : Tables → Env → Array Value → State → Outcome → State → Prop} (hpost : ∀ tb e args s v u, (limb_1_1.after args s (.returned v) u = true ∧ limb_1_2.after args s (.returned v) u = true ∧ True) → FrameEnd s (.returned v) u (Jvm.fieldLocs frame_1_writes args s ++ Jvm.arrayLocs frame_1_arrays args s ++ Jvm.staticLocs frame_1_statics s) 32 128 → Post tb e args s (.returned v) u) :
    ArmFor flags0 classFile x code maxLocals ret World_1 tables_1 room_1 Calls_1 rest_1 Pre_1 Post := by
  intro l hfl _ _ p e ha hc hk s m args below hf hA hF happ hP
  obtain ⟨hcalls, hrest, hpre⟩ := hP
  obtain ⟨-, -, -, hnamed, -, -, -, hat⟩ := (Spec.applies_iff hf).mp happ
  obtain ⟨hg, hn⟩ := and_e (Cond.before_iff.mp (show (Jvm.Cond.and given_1 narrow_1).before args s = true from hpre))
  obtain ⟨gc, g0⟩ := and_e hg
  obtain ⟨ga0, g1⟩ := and_e g0
  obtain ⟨ga1, g2⟩ := and_e g1
  obtain ⟨ga2, g3⟩ := and_e g2
  obtain ⟨ga3, g4⟩ := and_e g3
  have ga4 := g4
  obtain ⟨w0, w1, w2, w3, w4, rfl⟩ : ∃ w0 w1 w2 w3 w4 : Value, args = #[w0, w1, w2, w3, w4] := by
    have hs : args.size = 5 := by simpa [Cond.value, given_1] using gc
    obtain ⟨L⟩ := args
    match L, hs with
    | [w0, w1, w2, w3, w4], _ => exact ⟨w0, w1, w2, w3, w4, rfl⟩
  have hw := fun d (hd : d ∈ tables_1) => atoms_spec (ws := Jvm.Cond.code x code maxLocals ret :: tables_1) hat d (List.mem_cons_of_mem _ hd)
  have hfit : Fit s := fun {y c} hc i hi => by
    obtain ⟨ha, rfl⟩ := Array.getElem?_eq_some_iff.mp hc
    have q := List.all_eq_true.mp ((Array.all_eq_true_iff_forall_mem.mp hF) _ (Array.getElem_mem ha)) i (List.mem_range.mpr hi)
    simpa [Array.getElem?_eq_getElem hi] using q
  obtain ⟨hsets, hown0⟩ := atoms_of _ (rest_1_c_eq ▸ (show rest_1_c.before _ s = true from hrest))
  have hr0 := Cond.before_iff.mp hown0
  obtain ⟨i0, ei0⟩ := is_v ga0
  obtain rfl : w0 = (.int i0) := Option.some.inj ei0
  obtain ⟨i1, ei1⟩ := isL_v ga1
  obtain rfl : w1 = (.long i1) := Option.some.inj ei1
  obtain ⟨i2, ei2⟩ := isL_v ga2
  obtain rfl : w2 = (.long i2) := Option.some.inj ei2
  obtain ⟨i3, ei3⟩ := isL_v ga3
  obtain rfl : w3 = (.long i3) := Option.some.inj ei3
  obtain ⟨i4, ei4⟩ := is_v ga4
  obtain rfl : w4 = (.int i4) := Option.some.inj ei4
  obtain ⟨wC, clC, HC⟩ := own_LC (hsets _ (List.mem_of_getElem? (i := 1) rfl)) (hsets _ (List.mem_of_getElem? (i := 2) rfl)) (hsets _ (List.mem_of_getElem? (i := 4) rfl)) (hsets _ (List.mem_of_getElem? (i := 5) rfl))
  obtain ⟨wL, eL⟩ := exa_v (Cond.before_iff.mp (hsets _ (List.mem_of_getElem? (i := 8) rfl)))
  obtain ⟨k1, k2, k3, -⟩ := hcalls
  obtain ⟨mA, MA, NA⟩ := own_Mr k1
  obtain ⟨mL, ML, NL⟩ := own_Mr k2
  obtain ⟨mR, MR, NR⟩ := own_Mr k3
  have key := rm0 l s _ hw tables_1 i0 i1 i2 i3 i4 wC clC wL mA mL mR s.heap s.heap.size (Nat.le_refl _) HC (Sta.start eL (Or.inl (hsets _ (List.mem_of_getElem? (i := 7) rfl)))) MA ML MR (NA.ne NL (by decide)) (NA.ne NR (by decide)) p e ha hc hk s m _ below hf ((Spec.applies_iff_loose hf).mp happ).1 ⟨rfl, State.Warmed39.refl s, rfl⟩ trivial
  obtain ⟨n, o, h1, h2, h3, _, L, rfl, ⟨rfl, N⟩, hq⟩ := key
  refine ⟨n, _, h1, h2, h3, hpost _ _ _ _ _ _ ⟨Cond.after_iff.mpr rfl, Cond.after_iff.mpr (eq_i res_at (Term.int_eval (1)) rfl), trivial⟩ ⟨hq.1, hq.2.1, (hq.2.2.sift fun y hy => Or.inr (N y hy)).mono (by decide) (by decide)⟩⟩
theorem main_1_1 : Claimed_1_1 := comes_1 fun _ _ _ _ _ _ h hF => ⟨h.1, hF⟩
theorem main_1_2 : Claimed_1_2 := comes_1 fun _ _ _ _ _ _ h hF => ⟨h.2.1, hF⟩
end Jvm.Pilot.@@N@@
namespace Jvm.Pilot.@@N@@
open Jvm Jvm.ClassFile Sem Op Lib Jvm.Free Jvm.Stand Jvm.Pilot.@@N@@.Jvm.D
/-! MADE BY PROGRAM (witnessworld.py) out of the Statement's table words and the real class files: 38 classes; the members and pool entries that the words name. The judged class is class 1, her method 1. -/
namespace start1
open Jvm.ClassFile
def u (s : String) : CpInfo := .utf8 (stringToUtf16 s)
/-- a pool by its gaps: so many unusable entries, then the entry; so many at the end -/
def gap : Nat → List CpInfo → List CpInfo
  | 0, r => r
  | n + 1, r => .unusable :: gap n r
def poolList (es : List (Nat × CpInfo)) (last : Nat) : List CpInfo := es.foldr (fun e r => gap e.1 (e.2 :: r)) (gap last [])
def pool (es : List (Nat × CpInfo)) (last : Nat) : Array CpInfo := ⟨poolList es last⟩
def fileOf (pool : Array CpInfo) (this : Nat) (attrs : Array Attribute := #[]) (ms : Array MethodInfo := #[]) (fl : Nat := 33) (sup : Nat := 0) (ifs : Array Nat := #[]) (fds : Array FieldInfo := #[]) : ClassFile where
  minorVersion := 0
  majorVersion := 65
  constantPool := pool
  accessFlags := fl
  thisClass := this
  superClass := sup
  interfaces := ifs
  fields := fds
  methods := ms
  attributes := attrs
def plain (name : String) (sup : Option ClassId) : Class where
  name := name
  kind := .ordinary
  loader := none
  accessFlags := 33
  super := sup
  interfaces := #[]
  cf := none
  fields := #[]
  methods := #[]
  instanceTypes := #[]
  staticTypes := #[]
  resolved := #[]
  callSites := []
  init := .initialized
  statics := none
  mirror := none

def pool0 : Array CpInfo := pool [(5, u "<init>"), (0, u "()V"), (1, .class_ 10), (1, u "java/lang/Object"), (0, u "getClass"), (0, u "()Ljava/lang/Class;")] 111

def k0c0 : Code := { maxStack := 0, maxLocals := 1, code := object_method_1_code, exceptionTable := #[], attributes := #[] }
def k0m0 : Method := { name := "<init>", desc := "()V", sig := { parameters := [], returnType := none }, accessFlags := 1, code := some k0c0 }
def k0m1 : Method := { name := "getClass", desc := "()Ljava/lang/Class;", sig := { parameters := [], returnType := some (.object "java/lang/Class") }, accessFlags := 273, code := none }
/-- java/lang/Object -/
def k0 : Class := { plain "java/lang/Object" none with
  accessFlags := 33
  interfaces := #[]
  cf := some (fileOf pool0 8 #[] #[{ accessFlags := 1, nameIndex := 5, descriptorIndex := 6, attributes := #[] }, { accessFlags := 273, nameIndex := 11, descriptorIndex := 12, attributes := #[] }] 33 0 #[] #[])
  fields := #[]
  methods := #[k0m0, k0m1]
  instanceTypes := #[]
  staticTypes := #[]
  resolved := Array.replicate 124 none
  statics := none }

def pool1 : Array CpInfo := pool [(2, .class_ 4), (1, u "java/lang/Object"), (0, u "<init>"), (0, u "()V"), (0, .integer 2147483647), (0, .long 9223372036854775807), (1, .long 86400000), (1, .methodref 13 14), (0, .class_ 15), (0, .nameAndType 16 17), (0, u "com/example/nackoff/nackoff/RetryPolicy"), (0, u "of"), (0, u "(I[J)Lcom/example/nackoff/nackoff/RetryPolicy;"), (0, .methodref 13 19), (0, .nameAndType 20 21), (0, u "retries"), (0, u "()I"), (0, .methodref 13 23), (0, .nameAndType 24 25), (0, u "waitsMs"), (0, u "()Ljava/util/List;"), (0, .interfaceMethodref 27 28), (0, .class_ 29), (0, .nameAndType 30 21), (0, u "java/util/List"), (0, u "size"), (0, .interfaceMethodref 27 32), (0, .nameAndType 33 34), (0, u "get"), (0, u "(I)Ljava/lang/Object;"), (0, .class_ 36), (0, u "java/lang/Long"), (0, .methodref 35 38), (0, .nameAndType 39 40), (0, u "longValue"), (0, u "()J"), (0, .methodref 42 43), (0, .class_ 44), (0, .nameAndType 45 46), (0, u "java/lang/Math"), (0, u "min"), (0, u "(II)I"), (0, .methodref 13 48), (0, .nameAndType 49 50), (0, u "waitBeforeRetryMs"), (0, u "(I)J"), (0, .class_ 52), (0, u "com/example/nackoff/nackoff/RetryPolicyOfPinLaw"), (2, u "law"), (0, u "(IJJJI)Z")] 5

def k1m0 : Method := { name := "<init>", desc := "()V", sig := { parameters := [], returnType := none }, accessFlags := 1, code := none }
def k1c1 : Code := { maxStack := 5, maxLocals := 25, code := code, exceptionTable := #[], attributes := #[] }
def k1m1 : Method := { name := "law", desc := "(IJJJI)Z", sig := { parameters := [.int, .long, .long, .long, .int], returnType := some .boolean }, accessFlags := 9, code := some k1c1 }
/-- com/example/nackoff/nackoff/RetryPolicyOfPinLaw -/
def k1 : Class := { plain "com/example/nackoff/nackoff/RetryPolicyOfPinLaw" (some 0) with
  accessFlags := 49
  interfaces := #[]
  cf := some (fileOf pool1 51 #[] #[{ accessFlags := 1, nameIndex := 5, descriptorIndex := 6, attributes := #[] }, { accessFlags := 9, nameIndex := 55, descriptorIndex := 56, attributes := #[] }] 49 2 #[] #[])
  fields := #[]
  methods := #[k1m0, k1m1]
  instanceTypes := #[]
  staticTypes := #[]
  resolved := Array.replicate 62 none
  statics := none }

def pool2 : Array CpInfo := pool [(1, .methodref 2 3), (0, .class_ 4), (0, .nameAndType 5 6), (0, u "java/lang/Object"), (0, u "<init>"), (0, u "()V"), (0, .fieldref 8 9), (0, .class_ 10), (0, .nameAndType 11 12), (0, u "com/example/nackoff/nackoff/RetryPolicy"), (0, u "retries"), (0, u "I"), (0, .fieldref 8 14), (0, .nameAndType 15 16), (0, u "waitsMs"), (0, u "Ljava/util/List;"), (0, .fieldref 8 18), (0, .nameAndType 19 16), (0, u "retryableTypes"), (2, u "DEFAULT"), (0, u "Lcom/example/nackoff/nackoff/RetryPolicy;"), (11, .class_ 36), (0, u "java/util/ArrayList"), (0, .methodref 35 38), (0, .nameAndType 5 39), (0, u "(I)V"), (0, .long 86400000), (4, .methodref 46 47), (0, .class_ 48), (0, .nameAndType 49 50), (0, u "java/lang/Long"), (0, u "valueOf"), (0, u "(J)Ljava/lang/Long;"), (0, .interfaceMethodref 52 53), (0, .class_ 54), (0, .nameAndType 55 56), (0, u "java/util/List"), (0, u "add"), (0, u "(Ljava/lang/Object;)Z"), (0, .methodref 58 59), (0, .class_ 60), (0, .nameAndType 61 62), (0, u "java/util/Collections"), (0, u "unmodifiableList"), (0, u "(Ljava/util/List;)Ljava/util/List;"), (0, .interfaceMethodref 52 64), (0, .nameAndType 65 66), (0, u "of"), (0, u "()Ljava/util/List;"), (0, .methodref 8 68), (0, .nameAndType 5 69), (0, u "(ILjava/util/List;Ljava/util/List;)V"), (28, .interfaceMethodref 52 99), (0, .nameAndType 100 101), (0, u "size"), (0, u "()I"), (0, .methodref 103 104), (0, .class_ 105), (0, .nameAndType 106 107), (0, u "java/lang/Math"), (0, u "min"), (0, u "(II)I"), (0, .interfaceMethodref 52 109), (0, .nameAndType 110 111), (0, u "get"), (0, u "(I)Ljava/lang/Object;"), (0, .methodref 46 113), (0, .nameAndType 114 115), (0, u "longValue"), (0, u "()J"), (17, u "(I[J)Lcom/example/nackoff/nackoff/RetryPolicy;"), (0, u "MAX_RETRIES"), (2, u "MIN_WAIT_MS"), (0, u "J"), (2, u "MAX_WAIT_MS"), (19, u "waitBeforeRetryMs"), (0, u "(I)J")] 37

def k2c0 : Code := { maxStack := 2, maxLocals := 4, code := prog_3_method_1_code, exceptionTable := #[], attributes := #[] }
def k2m0 : Method := { name := "<init>", desc := "(ILjava/util/List;Ljava/util/List;)V", sig := { parameters := [.int, (.object "java/util/List"), (.object "java/util/List")], returnType := none }, accessFlags := 2, code := some k2c0 }
def k2c1 : Code := { maxStack := 5, maxLocals := 8, code := prog_3_method_3_code, exceptionTable := #[], attributes := #[] }
def k2m1 : Method := { name := "of", desc := "(I[J)Lcom/example/nackoff/nackoff/RetryPolicy;", sig := { parameters := [.int, (.array .long)], returnType := some (.object "com/example/nackoff/nackoff/RetryPolicy") }, accessFlags := 137, code := some k2c1 }
def k2c2 : Code := { maxStack := 1, maxLocals := 1, code := prog_3_method_6_code, exceptionTable := #[], attributes := #[] }
def k2m2 : Method := { name := "retries", desc := "()I", sig := { parameters := [], returnType := some .int }, accessFlags := 1, code := some k2c2 }
def k2c3 : Code := { maxStack := 1, maxLocals := 1, code := prog_3_method_7_code, exceptionTable := #[], attributes := #[] }
def k2m3 : Method := { name := "waitsMs", desc := "()Ljava/util/List;", sig := { parameters := [], returnType := some (.object "java/util/List") }, accessFlags := 1, code := some k2c3 }
def k2c4 : Code := { maxStack := 4, maxLocals := 2, code := prog_3_method_8_code, exceptionTable := #[], attributes := #[] }
def k2m4 : Method := { name := "waitBeforeRetryMs", desc := "(I)J", sig := { parameters := [.int], returnType := some .long }, accessFlags := 1, code := some k2c4 }
/-- com/example/nackoff/nackoff/RetryPolicy -/
def k2 : Class := { plain "com/example/nackoff/nackoff/RetryPolicy" (some 0) with
  accessFlags := 49
  interfaces := #[]
  cf := some (fileOf pool2 8 #[] #[{ accessFlags := 2, nameIndex := 5, descriptorIndex := 69, attributes := #[] }, { accessFlags := 137, nameIndex := 65, descriptorIndex := 133, attributes := #[] }, { accessFlags := 1, nameIndex := 11, descriptorIndex := 101, attributes := #[] }, { accessFlags := 1, nameIndex := 15, descriptorIndex := 66, attributes := #[] }, { accessFlags := 1, nameIndex := 161, descriptorIndex := 162, attributes := #[] }] 49 2 #[] #[{ accessFlags := 24, nameIndex := 134, descriptorIndex := 12, attributes := #[] }, { accessFlags := 24, nameIndex := 137, descriptorIndex := 138, attributes := #[] }, { accessFlags := 24, nameIndex := 141, descriptorIndex := 138, attributes := #[] }, { accessFlags := 26, nameIndex := 22, descriptorIndex := 23, attributes := #[] }, { accessFlags := 18, nameIndex := 11, descriptorIndex := 12, attributes := #[] }, { accessFlags := 18, nameIndex := 15, descriptorIndex := 16, attributes := #[] }, { accessFlags := 18, nameIndex := 19, descriptorIndex := 16, attributes := #[] }])
  fields := #[{ name := "MAX_RETRIES", type := .int, accessFlags := 24, slot := 0, constantValue := 0 }, { name := "MIN_WAIT_MS", type := .long, accessFlags := 24, slot := 1, constantValue := 0 }, { name := "MAX_WAIT_MS", type := .long, accessFlags := 24, slot := 2, constantValue := 0 }, { name := "DEFAULT", type := (.object "com/example/nackoff/nackoff/RetryPolicy"), accessFlags := 26, slot := 3, constantValue := 0 }, { name := "retries", type := .int, accessFlags := 18, slot := 0, constantValue := 0 }, { name := "waitsMs", type := (.object "java/util/List"), accessFlags := 18, slot := 1, constantValue := 0 }, { name := "retryableTypes", type := (.object "java/util/List"), accessFlags := 18, slot := 2, constantValue := 0 }]
  methods := #[k2m0, k2m1, k2m2, k2m3, k2m4]
  instanceTypes := #[.int, (.object "java/util/List"), (.object "java/util/List")]
  staticTypes := #[.int, .long, .long, (.object "com/example/nackoff/nackoff/RetryPolicy")]
  resolved := Array.replicate 200 none
  statics := none }

def pool3 : Array CpInfo := pool [(8, .class_ 10), (1, u "java/lang/Iterable"), (24, .class_ 36), (0, u "java/lang/Object")] 25

/-- java/lang/Iterable -/
def k3 : Class := { plain "java/lang/Iterable" (some 0) with
  accessFlags := 1537
  interfaces := #[]
  cf := some (fileOf pool3 8 #[] #[] 1537 35 #[] #[])
  fields := #[]
  methods := #[]
  instanceTypes := #[]
  staticTypes := #[]
  resolved := Array.replicate 62 none
  statics := none }

def pool4 : Array CpInfo := pool [(10, .class_ 12), (1, u "java/util/Collection"), (47, .class_ 61), (0, u "java/lang/Object"), (0, .class_ 63), (0, u "java/lang/Iterable"), (0, u "size"), (0, u "()I")] 49

def k4m0 : Method := { name := "size", desc := "()I", sig := { parameters := [], returnType := some .int }, accessFlags := 1025, code := none }
/-- java/util/Collection -/
def k4 : Class := { plain "java/util/Collection" (some 0) with
  accessFlags := 1537
  interfaces := #[3]
  cf := some (fileOf pool4 10 #[] #[{ accessFlags := 1025, nameIndex := 64, descriptorIndex := 65, attributes := #[] }] 1537 60 #[62] #[])
  fields := #[]
  methods := #[k4m0]
  instanceTypes := #[]
  staticTypes := #[]
  resolved := Array.replicate 115 none
  statics := none }

def pool5 : Array CpInfo := pool [(1, .methodref 2 3), (0, .class_ 4), (0, .nameAndType 5 6), (0, u "java/lang/Object"), (0, u "<init>"), (0, u "()V"), (1, .class_ 10), (1, u "java/util/AbstractCollection"), (66, .class_ 78), (0, u "java/util/Collection")] 81

def k5c0 : Code := { maxStack := 1, maxLocals := 1, code := jdk_22_method_1_code, exceptionTable := #[], attributes := #[] }
def k5m0 : Method := { name := "<init>", desc := "()V", sig := { parameters := [], returnType := none }, accessFlags := 4, code := some k5c0 }
/-- java/util/AbstractCollection -/
def k5 : Class := { plain "java/util/AbstractCollection" (some 0) with
  accessFlags := 1057
  interfaces := #[4]
  cf := some (fileOf pool5 8 #[] #[{ accessFlags := 4, nameIndex := 5, descriptorIndex := 6, attributes := #[] }] 1057 2 #[77] #[])
  fields := #[]
  methods := #[k5m0]
  instanceTypes := #[]
  staticTypes := #[]
  resolved := Array.replicate 160 none
  statics := none }

def pool6 : Array CpInfo := pool [(8, .class_ 10), (1, u "java/util/SequencedCollection"), (15, .class_ 27), (0, u "java/lang/Object"), (0, .class_ 29), (0, u "java/util/Collection")] 27

/-- java/util/SequencedCollection -/
def k6 : Class := { plain "java/util/SequencedCollection" (some 0) with
  accessFlags := 1537
  interfaces := #[4]
  cf := some (fileOf pool6 8 #[] #[] 1537 26 #[28] #[])
  fields := #[]
  methods := #[]
  instanceTypes := #[]
  staticTypes := #[]
  resolved := Array.replicate 57 none
  statics := none }

def pool7 : Array CpInfo := pool [(8, .class_ 10), (1, u "java/util/List"), (49, u "add"), (3, u "(Ljava/lang/Object;)Z"), (10, u "get"), (0, u "(I)Ljava/lang/Object;"), (2, u "size"), (0, u "()I"), (7, u "of"), (1, .fieldref 91 92), (0, .class_ 93), (0, .nameAndType 94 95), (0, u "java/util/ImmutableCollections"), (0, u "EMPTY_LIST"), (0, u "Ljava/util/ImmutableCollections$ListN;"), (7, .class_ 104), (0, u "java/lang/Object"), (14, u "()Ljava/util/List;"), (0, .class_ 121), (0, u "java/util/SequencedCollection")] 129

def k7m0 : Method := { name := "size", desc := "()I", sig := { parameters := [], returnType := some .int }, accessFlags := 1025, code := none }
def k7m1 : Method := { name := "add", desc := "(Ljava/lang/Object;)Z", sig := { parameters := [(.object "java/lang/Object")], returnType := some .boolean }, accessFlags := 1025, code := none }
def k7m2 : Method := { name := "get", desc := "(I)Ljava/lang/Object;", sig := { parameters := [.int], returnType := some (.object "java/lang/Object") }, accessFlags := 1025, code := none }
def k7c3 : Code := { maxStack := 1, maxLocals := 0, code := jdk_40_method_36_code, exceptionTable := #[], attributes := #[] }
def k7m3 : Method := { name := "of", desc := "()Ljava/util/List;", sig := { parameters := [], returnType := some (.object "java/util/List") }, accessFlags := 9, code := some k7c3 }
/-- java/util/List -/
def k7 : Class := { plain "java/util/List" (some 0) with
  accessFlags := 1537
  interfaces := #[6]
  cf := some (fileOf pool7 8 #[] #[{ accessFlags := 1025, nameIndex := 79, descriptorIndex := 80, attributes := #[] }, { accessFlags := 1025, nameIndex := 60, descriptorIndex := 64, attributes := #[] }, { accessFlags := 1025, nameIndex := 75, descriptorIndex := 76, attributes := #[] }, { accessFlags := 9, nameIndex := 88, descriptorIndex := 119, attributes := #[] }] 1537 103 #[120] #[])
  fields := #[]
  methods := #[k7m0, k7m1, k7m2, k7m3]
  instanceTypes := #[]
  staticTypes := #[]
  resolved := Array.replicate 251 none
  statics := none }

def pool8 : Array CpInfo := pool [(1, .methodref 2 3), (0, .class_ 4), (0, .nameAndType 5 6), (0, u "java/util/AbstractCollection"), (0, u "<init>"), (0, u "()V"), (0, .fieldref 8 9), (0, .class_ 10), (0, .nameAndType 11 12), (0, u "java/util/AbstractList"), (0, u "modCount"), (0, u "I"), (64, .class_ 78), (0, u "java/util/AbstractList$Itr"), (3, .class_ 83), (0, u "java/util/AbstractList$ListItr"), (9, .class_ 94), (0, u "java/util/AbstractList$RandomAccessSubList"), (3, .class_ 99), (0, u "java/util/AbstractList$SubList"), (33, .class_ 134), (0, u "java/util/List"), (73, .class_ 209), (0, u "java/util/AbstractList$SubList$1"), (0, .class_ 211), (0, u "java/util/AbstractList$RandomAccessSpliterator")] 6

def k8c0 : Code := { maxStack := 2, maxLocals := 1, code := jdk_39_method_1_code, exceptionTable := #[], attributes := #[] }
def k8m0 : Method := { name := "<init>", desc := "()V", sig := { parameters := [], returnType := none }, accessFlags := 4, code := some k8c0 }
/-- java/util/AbstractList -/
def k8 : Class := { plain "java/util/AbstractList" (some 5) with
  accessFlags := 1057
  interfaces := #[7]
  cf := some (fileOf pool8 8 #[.nestMembers #[93, 98, 208, 210, 82, 77]] #[{ accessFlags := 4, nameIndex := 5, descriptorIndex := 6, attributes := #[] }] 1057 2 #[133] #[{ accessFlags := 132, nameIndex := 11, descriptorIndex := 12, attributes := #[] }])
  fields := #[{ name := "modCount", type := .int, accessFlags := 132, slot := 0, constantValue := 0 }]
  methods := #[k8m0]
  instanceTypes := #[.int]
  staticTypes := #[]
  resolved := Array.replicate 218 none
  statics := none }

def pool9 : Array CpInfo := pool [(1, .class_ 2), (0, u "java/util/RandomAccess"), (0, .class_ 4), (0, u "java/lang/Object")] 2

/-- java/util/RandomAccess -/
def k9 : Class := { plain "java/util/RandomAccess" (some 0) with
  accessFlags := 1537
  interfaces := #[]
  cf := some (fileOf pool9 1 #[] #[] 1537 3 #[] #[])
  fields := #[]
  methods := #[]
  instanceTypes := #[]
  staticTypes := #[]
  resolved := Array.replicate 7 none
  statics := none }

def pool10 : Array CpInfo := pool [(1, .class_ 2), (0, u "java/lang/Cloneable"), (0, .class_ 4), (0, u "java/lang/Object")] 2

/-- java/lang/Cloneable -/
def k10 : Class := { plain "java/lang/Cloneable" (some 0) with
  accessFlags := 1537
  interfaces := #[]
  cf := some (fileOf pool10 1 #[] #[] 1537 3 #[] #[])
  fields := #[]
  methods := #[]
  instanceTypes := #[]
  staticTypes := #[]
  resolved := Array.replicate 7 none
  statics := none }

def pool11 : Array CpInfo := pool [(1, .class_ 2), (0, u "java/io/Serializable"), (0, .class_ 4), (0, u "java/lang/Object")] 2

/-- java/io/Serializable -/
def k11 : Class := { plain "java/io/Serializable" (some 0) with
  accessFlags := 1537
  interfaces := #[]
  cf := some (fileOf pool11 1 #[] #[] 1537 3 #[] #[])
  fields := #[]
  methods := #[]
  instanceTypes := #[]
  staticTypes := #[]
  resolved := Array.replicate 7 none
  statics := none }

def pool12 : Array CpInfo := pool [(1, .methodref 2 3), (0, .class_ 4), (0, .nameAndType 5 6), (0, u "java/util/AbstractList"), (0, u "<init>"), (0, u "()V"), (0, .class_ 8), (0, u "java/lang/Object"), (0, .fieldref 10 11), (0, .class_ 12), (0, .nameAndType 13 14), (0, u "java/util/ArrayList"), (0, u "elementData"), (0, u "[Ljava/lang/Object;"), (2, u "EMPTY_ELEMENTDATA"), (23, u "DEFAULTCAPACITY_EMPTY_ELEMENTDATA"), (6, .fieldref 10 49), (0, .nameAndType 50 51), (0, u "size"), (0, u "I"), (11, .fieldref 10 64), (0, .nameAndType 65 51), (0, u "modCount"), (18, u "(II)I"), (11, u "(Ljava/lang/Object;)Z"), (21, .methodref 119 120), (0, .class_ 121), (0, .nameAndType 122 84), (0, u "java/util/Objects"), (0, u "checkIndex"), (0, .methodref 10 124), (0, .nameAndType 13 125), (0, u "(I)Ljava/lang/Object;"), (5, .methodref 10 132), (0, .nameAndType 133 134), (0, u "add"), (0, u "(Ljava/lang/Object;[Ljava/lang/Object;I)V"), (3, u "(I)V"), (9, .class_ 149), (0, u "java/util/List"), (36, u "()I"), (75, .class_ 263), (0, u "java/util/ArrayList$ListItr"), (3, .class_ 268), (0, u "java/util/ArrayList$Itr"), (7, .class_ 277), (0, u "java/util/ArrayList$SubList"), (12, .class_ 291), (0, u "java/util/ArrayList$ArrayListSpliterator"), (37, .class_ 330), (0, u "java/util/RandomAccess"), (0, .class_ 332), (0, u "java/lang/Cloneable"), (0, .class_ 334), (0, u "java/io/Serializable"), (0, u "serialVersionUID"), (0, u "J"), (3, u "DEFAULT_CAPACITY"), (40, u "get"), (118, .class_ 501), (0, u "java/util/ArrayList$SubList$2"), (0, .class_ 503), (0, u "java/util/ArrayList$SubList$1")] 5

def k12c0 : Code := { maxStack := 4, maxLocals := 2, code := jdk_38_method_1_code, exceptionTable := #[], attributes := #[] }
def k12m0 : Method := { name := "<init>", desc := "(I)V", sig := { parameters := [.int], returnType := none }, accessFlags := 1, code := some k12c0 }
def k12m1 : Method := { name := "<init>", desc := "()V", sig := { parameters := [], returnType := none }, accessFlags := 1, code := none }
def k12c2 : Code := { maxStack := 1, maxLocals := 1, code := jdk_38_method_8_code, exceptionTable := #[], attributes := #[] }
def k12m2 : Method := { name := "size", desc := "()I", sig := { parameters := [], returnType := some .int }, accessFlags := 1, code := some k12c2 }
def k12c3 : Code := { maxStack := 2, maxLocals := 2, code := jdk_38_method_18_code, exceptionTable := #[], attributes := #[] }
def k12m3 : Method := { name := "elementData", desc := "(I)Ljava/lang/Object;", sig := { parameters := [.int], returnType := some (.object "java/lang/Object") }, accessFlags := 0, code := some k12c3 }
def k12c4 : Code := { maxStack := 2, maxLocals := 2, code := jdk_38_method_20_code, exceptionTable := #[], attributes := #[] }
def k12m4 : Method := { name := "get", desc := "(I)Ljava/lang/Object;", sig := { parameters := [.int], returnType := some (.object "java/lang/Object") }, accessFlags := 1, code := some k12c4 }
def k12c5 : Code := { maxStack := 3, maxLocals := 4, code := jdk_38_method_24_code, exceptionTable := #[], attributes := #[] }
def k12m5 : Method := { name := "add", desc := "(Ljava/lang/Object;[Ljava/lang/Object;I)V", sig := { parameters := [(.object "java/lang/Object"), (.array (.object "java/lang/Object")), .int], returnType := none }, accessFlags := 2, code := some k12c5 }
def k12c6 : Code := { maxStack := 4, maxLocals := 2, code := jdk_38_method_25_code, exceptionTable := #[], attributes := #[] }
def k12m6 : Method := { name := "add", desc := "(Ljava/lang/Object;)Z", sig := { parameters := [(.object "java/lang/Object")], returnType := some .boolean }, accessFlags := 1, code := some k12c6 }
/-- java/util/ArrayList -/
def k12 : Class := { plain "java/util/ArrayList" (some 8) with
  mirror := some 261
  accessFlags := 33
  interfaces := #[7, 9, 10, 11]
  cf := some (fileOf pool12 10 #[.nestMembers #[290, 276, 500, 502, 262, 267]] #[{ accessFlags := 1, nameIndex := 5, descriptorIndex := 138, attributes := #[] }, { accessFlags := 1, nameIndex := 5, descriptorIndex := 6, attributes := #[] }, { accessFlags := 1, nameIndex := 50, descriptorIndex := 186, attributes := #[] }, { accessFlags := 0, nameIndex := 13, descriptorIndex := 125, attributes := #[] }, { accessFlags := 1, nameIndex := 381, descriptorIndex := 125, attributes := #[] }, { accessFlags := 2, nameIndex := 133, descriptorIndex := 134, attributes := #[] }, { accessFlags := 1, nameIndex := 133, descriptorIndex := 96, attributes := #[] }] 33 2 #[148, 329, 331, 333] #[{ accessFlags := 26, nameIndex := 335, descriptorIndex := 336, attributes := #[] }, { accessFlags := 26, nameIndex := 340, descriptorIndex := 51, attributes := #[] }, { accessFlags := 26, nameIndex := 17, descriptorIndex := 14, attributes := #[] }, { accessFlags := 26, nameIndex := 41, descriptorIndex := 14, attributes := #[] }, { accessFlags := 128, nameIndex := 13, descriptorIndex := 14, attributes := #[] }, { accessFlags := 2, nameIndex := 50, descriptorIndex := 51, attributes := #[] }])
  fields := #[{ name := "serialVersionUID", type := .long, accessFlags := 26, slot := 0, constantValue := 0 }, { name := "DEFAULT_CAPACITY", type := .int, accessFlags := 26, slot := 1, constantValue := 0 }, { name := "EMPTY_ELEMENTDATA", type := (.array (.object "java/lang/Object")), accessFlags := 26, slot := 2, constantValue := 0 }, { name := "DEFAULTCAPACITY_EMPTY_ELEMENTDATA", type := (.array (.object "java/lang/Object")), accessFlags := 26, slot := 3, constantValue := 0 }, { name := "elementData", type := (.array (.object "java/lang/Object")), accessFlags := 128, slot := 1, constantValue := 0 }, { name := "size", type := .int, accessFlags := 2, slot := 2, constantValue := 0 }]
  methods := #[k12m0, k12m1, k12m2, k12m3, k12m4, k12m5, k12m6]
  instanceTypes := #[.int, (.array (.object "java/lang/Object")), .int]
  staticTypes := #[.long, .int, (.array (.object "java/lang/Object")), (.array (.object "java/lang/Object"))]
  resolved := Array.replicate 509 none
  statics := none }

def pool13 : Array CpInfo := pool [(1, .methodref 2 3), (0, .class_ 4), (0, .nameAndType 5 6), (0, u "java/lang/Object"), (0, u "<init>"), (0, u "()V"), (1, .class_ 10), (1, u "java/lang/Number"), (2, .class_ 14), (0, u "java/io/Serializable"), (0, u "serialVersionUID"), (0, u "J")] 20

def k13c0 : Code := { maxStack := 1, maxLocals := 1, code := jdk_18_method_1_code, exceptionTable := #[], attributes := #[] }
def k13m0 : Method := { name := "<init>", desc := "()V", sig := { parameters := [], returnType := none }, accessFlags := 1, code := some k13c0 }
/-- java/lang/Number -/
def k13 : Class := { plain "java/lang/Number" (some 0) with
  accessFlags := 1057
  interfaces := #[11]
  cf := some (fileOf pool13 8 #[] #[{ accessFlags := 1, nameIndex := 5, descriptorIndex := 6, attributes := #[] }] 1057 2 #[13] #[{ accessFlags := 26, nameIndex := 15, descriptorIndex := 16, attributes := #[] }])
  fields := #[{ name := "serialVersionUID", type := .long, accessFlags := 26, slot := 0, constantValue := 0 }]
  methods := #[k13m0]
  instanceTypes := #[]
  staticTypes := #[.long]
  resolved := Array.replicate 37 none
  statics := none }

def pool14 : Array CpInfo := pool [(1, .class_ 2), (0, u "java/lang/Comparable"), (0, .class_ 4), (0, u "java/lang/Object")] 7

/-- java/lang/Comparable -/
def k14 : Class := { plain "java/lang/Comparable" (some 0) with
  accessFlags := 1537
  interfaces := #[]
  cf := some (fileOf pool14 1 #[] #[] 1537 3 #[] #[])
  fields := #[]
  methods := #[]
  instanceTypes := #[]
  staticTypes := #[]
  resolved := Array.replicate 12 none
  statics := none }

def pool15 : Array CpInfo := pool [(1, .class_ 2), (0, u "java/lang/constant/Constable"), (0, .class_ 4), (0, u "java/lang/Object")] 6

/-- java/lang/constant/Constable -/
def k15 : Class := { plain "java/lang/constant/Constable" (some 0) with
  accessFlags := 1537
  interfaces := #[]
  cf := some (fileOf pool15 1 #[] #[] 1537 3 #[] #[])
  fields := #[]
  methods := #[]
  instanceTypes := #[]
  staticTypes := #[]
  resolved := Array.replicate 11 none
  statics := none }

def pool16 : Array CpInfo := pool [(1, .class_ 2), (0, u "java/lang/constant/ConstantDesc"), (0, .class_ 4), (0, u "java/lang/Object")] 32

/-- java/lang/constant/ConstantDesc -/
def k16 : Class := { plain "java/lang/constant/ConstantDesc" (some 0) with
  accessFlags := 1537
  interfaces := #[]
  cf := some (fileOf pool16 1 #[] #[] 1537 3 #[] #[])
  fields := #[]
  methods := #[]
  instanceTypes := #[]
  staticTypes := #[]
  resolved := Array.replicate 37 none
  statics := none }

def pool17 : Array CpInfo := pool [(1, .class_ 2), (0, u "java/lang/Long"), (55, .nameAndType 59 60), (0, u "<init>"), (0, u "()V"), (24, u "valueOf"), (143, u "(J)Ljava/lang/Long;"), (0, .long 18446744073709551488), (1, .long 127), (1, .fieldref 235 236), (0, .class_ 237), (0, .nameAndType 238 239), (0, u "java/lang/Long$LongCache"), (0, u "cache"), (0, u "[Ljava/lang/Long;"), (0, .methodref 1 241), (0, .nameAndType 59 242), (0, u "(J)V"), (27, .methodref 271 58), (0, .class_ 272), (0, u "java/lang/Number"), (0, .fieldref 1 274), (0, .nameAndType 275 276), (0, u "value"), (0, u "J"), (5, u "longValue"), (0, u "()J"), (77, u "TYPE"), (0, u "Ljava/lang/Class;"), (0, .class_ 364), (0, u "java/lang/Comparable"), (0, .class_ 366), (0, u "java/lang/constant/Constable"), (0, .class_ 368), (0, u "java/lang/constant/ConstantDesc"), (0, u "MIN_VALUE"), (1, u "MAX_VALUE"), (4, u "SIZE"), (0, u "I"), (1, u "BYTES"), (1, u "serialVersionUID")] 142

def k17c0 : Code := { maxStack := 4, maxLocals := 3, code := jdk_35_method_24_code, exceptionTable := #[], attributes := #[] }
def k17m0 : Method := { name := "valueOf", desc := "(J)Ljava/lang/Long;", sig := { parameters := [.long], returnType := some (.object "java/lang/Long") }, accessFlags := 9, code := some k17c0 }
def k17c1 : Code := { maxStack := 3, maxLocals := 3, code := jdk_35_method_26_code, exceptionTable := #[], attributes := #[] }
def k17m1 : Method := { name := "<init>", desc := "(J)V", sig := { parameters := [.long], returnType := none }, accessFlags := 1, code := some k17c1 }
def k17c2 : Code := { maxStack := 2, maxLocals := 1, code := jdk_35_method_31_code, exceptionTable := #[], attributes := #[] }
def k17m2 : Method := { name := "longValue", desc := "()J", sig := { parameters := [], returnType := some .long }, accessFlags := 1, code := some k17c2 }
/-- java/lang/Long -/
def k17 : Class := { plain "java/lang/Long" (some 13) with
  accessFlags := 49
  interfaces := #[14, 15, 16]
  cf := some (fileOf pool17 1 #[.nestMembers #[235]] #[{ accessFlags := 9, nameIndex := 85, descriptorIndex := 229, attributes := #[] }, { accessFlags := 1, nameIndex := 59, descriptorIndex := 242, attributes := #[] }, { accessFlags := 1, nameIndex := 282, descriptorIndex := 283, attributes := #[] }] 49 271 #[363, 365, 367] #[{ accessFlags := 25, nameIndex := 369, descriptorIndex := 276, attributes := #[] }, { accessFlags := 25, nameIndex := 371, descriptorIndex := 276, attributes := #[] }, { accessFlags := 25, nameIndex := 361, descriptorIndex := 362, attributes := #[] }, { accessFlags := 18, nameIndex := 275, descriptorIndex := 276, attributes := #[] }, { accessFlags := 25, nameIndex := 376, descriptorIndex := 377, attributes := #[] }, { accessFlags := 25, nameIndex := 379, descriptorIndex := 377, attributes := #[] }, { accessFlags := 26, nameIndex := 381, descriptorIndex := 276, attributes := #[] }])
  fields := #[{ name := "MIN_VALUE", type := .long, accessFlags := 25, slot := 0, constantValue := 0 }, { name := "MAX_VALUE", type := .long, accessFlags := 25, slot := 1, constantValue := 0 }, { name := "TYPE", type := (.object "java/lang/Class"), accessFlags := 25, slot := 2, constantValue := 0 }, { name := "value", type := .long, accessFlags := 18, slot := 0, constantValue := 0 }, { name := "SIZE", type := .int, accessFlags := 25, slot := 3, constantValue := 0 }, { name := "BYTES", type := .int, accessFlags := 25, slot := 4, constantValue := 0 }, { name := "serialVersionUID", type := .long, accessFlags := 26, slot := 5, constantValue := 0 }]
  methods := #[k17m0, k17m1, k17m2]
  instanceTypes := #[.long]
  staticTypes := #[.long, .long, (.object "java/lang/Class"), .int, .int, .long]
  resolved := Array.replicate 524 none
  statics := none }

def pool18 : Array CpInfo := pool [(2, .class_ 4), (1, u "java/lang/Object"), (0, u "<init>"), (0, u "()V"), (0, .class_ 8), (0, u "java/lang/Long"), (7, .class_ 18), (1, u "java/lang/Long$LongCache"), (0, u "$assertionsDisabled"), (0, u "Z"), (8, u "archivedCache"), (0, u "[Ljava/lang/Long;"), (7, u "cache")] 24

def k18m0 : Method := { name := "<init>", desc := "()V", sig := { parameters := [], returnType := none }, accessFlags := 2, code := none }
/-- java/lang/Long$LongCache -/
def k18 : Class := { plain "java/lang/Long$LongCache" (some 0) with
  accessFlags := 48
  interfaces := #[]
  cf := some (fileOf pool18 16 #[.nestHost 7] #[{ accessFlags := 2, nameIndex := 5, descriptorIndex := 6, attributes := #[] }] 48 2 #[] #[{ accessFlags := 24, nameIndex := 38, descriptorIndex := 30, attributes := #[] }, { accessFlags := 8, nameIndex := 29, descriptorIndex := 30, attributes := #[] }, { accessFlags := 4120, nameIndex := 19, descriptorIndex := 20, attributes := #[] }])
  fields := #[{ name := "cache", type := (.array (.object "java/lang/Long")), accessFlags := 24, slot := 0, constantValue := 0 }, { name := "archivedCache", type := (.array (.object "java/lang/Long")), accessFlags := 8, slot := 1, constantValue := 0 }, { name := "$assertionsDisabled", type := .boolean, accessFlags := 4120, slot := 2, constantValue := 0 }]
  methods := #[k18m0]
  instanceTypes := #[]
  staticTypes := #[(.array (.object "java/lang/Long")), (.array (.object "java/lang/Long")), .boolean]
  resolved := Array.replicate 63 none
  statics := some 0 }

def pool19 : Array CpInfo := pool [(2, .class_ 4), (1, u "java/lang/Object"), (0, u "<init>"), (0, u "()V"), (1, .class_ 10), (1, u "java/util/List"), (2, .class_ 14), (0, u "java/util/RandomAccess"), (4, .class_ 20), (0, u "java/util/Collections"), (63, u "r"), (0, u "Ljava/util/Random;"), (67, u "(Ljava/util/List;)V"), (9, .nameAndType 164 165), (0, u "getClass"), (0, u "()Ljava/lang/Class;"), (0, .class_ 167), (0, u "java/util/Collections$UnmodifiableCollection"), (6, .class_ 175), (0, u "java/util/Collections$UnmodifiableSequencedCollection"), (6, .class_ 183), (0, u "java/util/Collections$UnmodifiableSet"), (6, .class_ 191), (0, u "java/util/Collections$UnmodifiableSequencedSet"), (6, .class_ 199), (0, u "java/util/Collections$UnmodifiableSortedSet"), (6, .class_ 207), (0, u "java/util/Collections$UnmodifiableNavigableSet"), (3, .interfaceMethodref 8 163), (0, .class_ 213), (0, u "java/util/Collections$UnmodifiableList"), (0, .interfaceMethodref 8 163), (0, .class_ 216), (0, u "java/util/Collections$UnmodifiableRandomAccessList"), (0, .methodref 215 218), (0, .nameAndType 5 153), (4, .class_ 224), (0, u "java/util/Collections$UnmodifiableMap"), (6, .class_ 232), (0, u "java/util/Collections$UnmodifiableSequencedMap"), (4, .class_ 238), (0, u "java/util/Collections$UnmodifiableSortedMap"), (6, .class_ 246), (0, u "java/util/Collections$UnmodifiableNavigableMap"), (3, .class_ 251), (0, u "java/util/Collections$SynchronizedCollection"), (4, .class_ 257), (0, u "java/util/Collections$SynchronizedSet"), (4, .class_ 263), (0, u "java/util/Collections$SynchronizedSortedSet"), (1, .class_ 266), (0, u "java/util/Collections$SynchronizedNavigableSet"), (1, .class_ 269), (0, u "java/util/Collections$SynchronizedRandomAccessList"), (1, .class_ 272), (0, u "java/util/Collections$SynchronizedList"), (5, .class_ 279), (0, u "java/util/Collections$SynchronizedMap"), (1, .class_ 282), (0, u "java/util/Collections$SynchronizedSortedMap"), (1, .class_ 285), (0, u "java/util/Collections$SynchronizedNavigableMap"), (1, .class_ 288), (0, u "java/util/Collections$CheckedCollection"), (11, .class_ 301), (0, u "java/util/Collections$CheckedQueue"), (3, .class_ 306), (0, u "java/util/Collections$CheckedSet"), (3, .class_ 311), (0, u "java/util/Collections$CheckedSortedSet"), (3, .class_ 316), (0, u "java/util/Collections$CheckedNavigableSet"), (3, .class_ 321), (0, u "java/util/Collections$CheckedRandomAccessList"), (3, .class_ 326), (0, u "java/util/Collections$CheckedList"), (1, .class_ 329), (0, u "java/util/Collections$CheckedMap"), (3, .class_ 334), (0, u "java/util/Collections$CheckedSortedMap"), (3, .class_ 339), (0, u "java/util/Collections$CheckedNavigableMap"), (4, .class_ 346), (1, u "java/util/Collections$EmptyIterator"), (3, .class_ 352), (1, u "java/util/Collections$EmptyListIterator"), (2, .class_ 357), (1, u "java/util/Collections$EmptyEnumeration"), (4, u "EMPTY_SET"), (0, u "Ljava/util/Set;"), (6, u "EMPTY_LIST"), (0, u "Ljava/util/List;"), (2, u "EMPTY_MAP"), (0, u "Ljava/util/Map;"), (4, .class_ 381), (0, u "java/util/Collections$SingletonSet"), (2, .class_ 385), (0, u "java/util/Collections$1"), (1, .class_ 388), (0, u "java/util/Collections$2"), (1, .class_ 391), (0, u "java/util/Collections$SingletonList"), (1, .class_ 394), (0, u "java/util/Collections$SingletonMap"), (22, .class_ 418), (0, u "java/util/Collections$CopiesList"), (4, .class_ 425), (1, u "java/util/Collections$ReverseComparator"), (8, .class_ 435), (0, u "java/util/Collections$ReverseComparator2"), (6, .class_ 443), (0, u "java/util/Collections$3"), (25, .class_ 470), (0, u "java/util/Collections$SetFromMap"), (2, .class_ 474), (0, u "java/util/Collections$SequencedSetFromMap"), (3, .class_ 479), (0, u "java/util/Collections$AsLIFOQueue"), (11, .class_ 492), (0, u "java/util/Collections$EmptySet"), (1, .class_ 495), (0, u "java/util/Collections$EmptyList"), (1, .class_ 498), (0, u "java/util/Collections$EmptyMap"), (1, u "BINARYSEARCH_THRESHOLD"), (0, u "I"), (2, u "REVERSE_THRESHOLD"), (1, u "SHUFFLE_THRESHOLD"), (1, u "FILL_THRESHOLD"), (1, u "ROTATE_THRESHOLD"), (1, u "COPY_THRESHOLD"), (1, u "REPLACEALL_THRESHOLD"), (1, u "INDEXOFSUBLIST_THRESHOLD"), (129, u "unmodifiableList"), (0, u "(Ljava/util/List;)Ljava/util/List;"), (202, .class_ 851), (0, u "java/util/Collections$CheckedMap$CheckedEntrySet"), (0, .class_ 853), (0, u "java/util/Collections$CheckedMap$CheckedEntrySet$CheckedEntry"), (0, .class_ 855), (0, u "java/util/Collections$CheckedMap$CheckedEntrySet$1"), (0, .class_ 857), (0, u "java/util/Collections$CheckedList$1"), (0, .class_ 859), (0, u "java/util/Collections$CheckedCollection$1"), (0, .class_ 861), (0, u "java/util/Collections$UnmodifiableNavigableMap$EmptyNavigableMap"), (0, .class_ 863), (0, u "java/util/Collections$UnmodifiableMap$UnmodifiableEntrySet"), (0, .class_ 865), (0, u "java/util/Collections$UnmodifiableMap$UnmodifiableEntrySet$UnmodifiableEntry"), (0, .class_ 867), (0, u "java/util/Collections$UnmodifiableMap$UnmodifiableEntrySet$UnmodifiableEntrySetSpliterator"), (0, .class_ 869), (0, u "java/util/Collections$UnmodifiableMap$UnmodifiableEntrySet$1"), (0, .class_ 871), (0, u "java/util/Collections$UnmodifiableList$1"), (0, .class_ 873), (0, u "java/util/Collections$UnmodifiableNavigableSet$EmptyNavigableSet"), (0, .class_ 875), (0, u "java/util/Collections$UnmodifiableCollection$1")] 57

def k19m0 : Method := { name := "<init>", desc := "()V", sig := { parameters := [], returnType := none }, accessFlags := 2, code := none }
def k19c1 : Code := { maxStack := 3, maxLocals := 1, code := jdk_79_method_35_code, exceptionTable := #[], attributes := #[] }
def k19m1 : Method := { name := "unmodifiableList", desc := "(Ljava/util/List;)Ljava/util/List;", sig := { parameters := [(.object "java/util/List")], returnType := some (.object "java/util/List") }, accessFlags := 9, code := some k19c1 }
/-- java/util/Collections -/
def k19 : Class := { plain "java/util/Collections" (some 0) with
  accessFlags := 33
  interfaces := #[]
  cf := some (fileOf pool19 19 #[.nestMembers #[478, 473, 469, 434, 423, 417, 393, 390, 380, 497, 494, 491, 355, 350, 344, 338, 333, 328, 850, 852, 854, 320, 325, 856, 315, 310, 305, 300, 287, 858, 284, 281, 278, 268, 271, 265, 262, 256, 250, 245, 860, 237, 231, 223, 862, 864, 866, 868, 215, 212, 870, 206, 872, 198, 190, 182, 174, 166, 874, 442, 387, 384]] #[{ accessFlags := 2, nameIndex := 5, descriptorIndex := 6, attributes := #[] }, { accessFlags := 9, nameIndex := 646, descriptorIndex := 647, attributes := #[] }] 33 2 #[] #[{ accessFlags := 26, nameIndex := 500, descriptorIndex := 501, attributes := #[] }, { accessFlags := 26, nameIndex := 504, descriptorIndex := 501, attributes := #[] }, { accessFlags := 26, nameIndex := 506, descriptorIndex := 501, attributes := #[] }, { accessFlags := 26, nameIndex := 508, descriptorIndex := 501, attributes := #[] }, { accessFlags := 26, nameIndex := 510, descriptorIndex := 501, attributes := #[] }, { accessFlags := 26, nameIndex := 512, descriptorIndex := 501, attributes := #[] }, { accessFlags := 26, nameIndex := 514, descriptorIndex := 501, attributes := #[] }, { accessFlags := 26, nameIndex := 516, descriptorIndex := 501, attributes := #[] }, { accessFlags := 10, nameIndex := 84, descriptorIndex := 85, attributes := #[] }, { accessFlags := 25, nameIndex := 362, descriptorIndex := 363, attributes := #[] }, { accessFlags := 25, nameIndex := 370, descriptorIndex := 371, attributes := #[] }, { accessFlags := 25, nameIndex := 374, descriptorIndex := 375, attributes := #[] }])
  fields := #[{ name := "BINARYSEARCH_THRESHOLD", type := .int, accessFlags := 26, slot := 0, constantValue := 0 }, { name := "REVERSE_THRESHOLD", type := .int, accessFlags := 26, slot := 1, constantValue := 0 }, { name := "SHUFFLE_THRESHOLD", type := .int, accessFlags := 26, slot := 2, constantValue := 0 }, { name := "FILL_THRESHOLD", type := .int, accessFlags := 26, slot := 3, constantValue := 0 }, { name := "ROTATE_THRESHOLD", type := .int, accessFlags := 26, slot := 4, constantValue := 0 }, { name := "COPY_THRESHOLD", type := .int, accessFlags := 26, slot := 5, constantValue := 0 }, { name := "REPLACEALL_THRESHOLD", type := .int, accessFlags := 26, slot := 6, constantValue := 0 }, { name := "INDEXOFSUBLIST_THRESHOLD", type := .int, accessFlags := 26, slot := 7, constantValue := 0 }, { name := "r", type := (.object "java/util/Random"), accessFlags := 10, slot := 8, constantValue := 0 }, { name := "EMPTY_SET", type := (.object "java/util/Set"), accessFlags := 25, slot := 9, constantValue := 0 }, { name := "EMPTY_LIST", type := (.object "java/util/List"), accessFlags := 25, slot := 10, constantValue := 0 }, { name := "EMPTY_MAP", type := (.object "java/util/Map"), accessFlags := 25, slot := 11, constantValue := 0 }]
  methods := #[k19m0, k19m1]
  instanceTypes := #[]
  staticTypes := #[.int, .int, .int, .int, .int, .int, .int, .int, (.object "java/util/Random"), (.object "java/util/Set"), (.object "java/util/List"), (.object "java/util/Map")]
  resolved := Array.replicate 933 none
  statics := none }

def pool20 : Array CpInfo := pool [(1, .methodref 2 3), (0, .class_ 4), (0, .nameAndType 5 6), (0, u "java/lang/Object"), (0, u "<init>"), (0, u "()V"), (3, .fieldref 11 12), (0, .class_ 13), (0, .nameAndType 14 15), (0, u "java/util/Collections$UnmodifiableCollection"), (0, u "c"), (0, u "Ljava/util/Collection;"), (0, .interfaceMethodref 17 18), (0, .class_ 19), (0, .nameAndType 20 21), (0, u "java/util/Collection"), (0, u "size"), (0, u "()I"), (49, .class_ 72), (0, u "java/io/Serializable"), (0, u "serialVersionUID"), (0, u "J"), (5, u "(Ljava/util/Collection;)V"), (51, .class_ 133), (0, u "java/util/Collections")] 2

def k20c0 : Code := { maxStack := 2, maxLocals := 2, code := jdk_119_method_1_code, exceptionTable := #[], attributes := #[] }
def k20m0 : Method := { name := "<init>", desc := "(Ljava/util/Collection;)V", sig := { parameters := [(.object "java/util/Collection")], returnType := none }, accessFlags := 0, code := some k20c0 }
def k20c1 : Code := { maxStack := 1, maxLocals := 1, code := jdk_119_method_2_code, exceptionTable := #[], attributes := #[] }
def k20m1 : Method := { name := "size", desc := "()I", sig := { parameters := [], returnType := some .int }, accessFlags := 1, code := some k20c1 }
/-- java/util/Collections$UnmodifiableCollection -/
def k20 : Class := { plain "java/util/Collections$UnmodifiableCollection" (some 0) with
  accessFlags := 32
  interfaces := #[4, 11]
  cf := some (fileOf pool20 11 #[.nestHost 132] #[{ accessFlags := 0, nameIndex := 5, descriptorIndex := 80, attributes := #[] }, { accessFlags := 1, nameIndex := 20, descriptorIndex := 21, attributes := #[] }] 32 2 #[17, 71] #[{ accessFlags := 26, nameIndex := 73, descriptorIndex := 74, attributes := #[] }, { accessFlags := 16, nameIndex := 14, descriptorIndex := 15, attributes := #[] }])
  fields := #[{ name := "serialVersionUID", type := .long, accessFlags := 26, slot := 0, constantValue := 0 }, { name := "c", type := (.object "java/util/Collection"), accessFlags := 16, slot := 0, constantValue := 0 }]
  methods := #[k20m0, k20m1]
  instanceTypes := #[(.object "java/util/Collection")]
  staticTypes := #[.long]
  resolved := Array.replicate 136 none
  statics := none }

def pool21 : Array CpInfo := pool [(1, .methodref 2 3), (0, .class_ 4), (0, .nameAndType 5 6), (0, u "java/util/Collections$UnmodifiableCollection"), (0, u "<init>"), (0, u "(Ljava/util/Collection;)V"), (0, .fieldref 8 9), (0, .class_ 10), (0, .nameAndType 11 12), (0, u "java/util/Collections$UnmodifiableList"), (0, u "list"), (0, u "Ljava/util/List;"), (1, .class_ 16), (1, u "java/util/List"), (6, .interfaceMethodref 14 24), (0, .nameAndType 25 26), (0, u "get"), (0, u "(I)Ljava/lang/Object;"), (27, u "(Ljava/util/List;)V"), (5, u "serialVersionUID"), (0, u "J"), (59, .class_ 122), (0, u "java/util/Collections")] 4

def k21c0 : Code := { maxStack := 2, maxLocals := 2, code := jdk_120_method_1_code, exceptionTable := #[], attributes := #[] }
def k21m0 : Method := { name := "<init>", desc := "(Ljava/util/List;)V", sig := { parameters := [(.object "java/util/List")], returnType := none }, accessFlags := 0, code := some k21c0 }
def k21c1 : Code := { maxStack := 2, maxLocals := 2, code := jdk_120_method_4_code, exceptionTable := #[], attributes := #[] }
def k21m1 : Method := { name := "get", desc := "(I)Ljava/lang/Object;", sig := { parameters := [.int], returnType := some (.object "java/lang/Object") }, accessFlags := 1, code := some k21c1 }
/-- java/util/Collections$UnmodifiableList -/
def k21 : Class := { plain "java/util/Collections$UnmodifiableList" (some 20) with
  mirror := some 262
  accessFlags := 32
  interfaces := #[7]
  cf := some (fileOf pool21 8 #[.nestHost 121] #[{ accessFlags := 0, nameIndex := 5, descriptorIndex := 54, attributes := #[] }, { accessFlags := 1, nameIndex := 25, descriptorIndex := 26, attributes := #[] }] 32 2 #[14] #[{ accessFlags := 26, nameIndex := 60, descriptorIndex := 61, attributes := #[] }, { accessFlags := 16, nameIndex := 11, descriptorIndex := 12, attributes := #[] }])
  fields := #[{ name := "serialVersionUID", type := .long, accessFlags := 26, slot := 0, constantValue := 0 }, { name := "list", type := (.object "java/util/List"), accessFlags := 16, slot := 1, constantValue := 0 }]
  methods := #[k21m0, k21m1]
  instanceTypes := #[(.object "java/util/Collection"), (.object "java/util/List")]
  staticTypes := #[.long]
  resolved := Array.replicate 127 none
  statics := none }

def pool22 : Array CpInfo := pool [(1, .methodref 2 3), (0, .class_ 4), (0, .nameAndType 5 6), (0, u "java/util/Collections$UnmodifiableList"), (0, u "<init>"), (0, u "(Ljava/util/List;)V"), (0, .class_ 8), (0, u "java/util/Collections$UnmodifiableRandomAccessList"), (11, .class_ 21), (0, u "java/util/RandomAccess"), (0, u "serialVersionUID"), (0, u "J"), (23, .class_ 48), (0, u "java/util/Collections")] 3

def k22c0 : Code := { maxStack := 2, maxLocals := 2, code := jdk_121_method_1_code, exceptionTable := #[], attributes := #[] }
def k22m0 : Method := { name := "<init>", desc := "(Ljava/util/List;)V", sig := { parameters := [(.object "java/util/List")], returnType := none }, accessFlags := 0, code := some k22c0 }
/-- java/util/Collections$UnmodifiableRandomAccessList -/
def k22 : Class := { plain "java/util/Collections$UnmodifiableRandomAccessList" (some 21) with
  mirror := some 263
  accessFlags := 32
  interfaces := #[9]
  cf := some (fileOf pool22 7 #[.nestHost 47] #[{ accessFlags := 0, nameIndex := 5, descriptorIndex := 6, attributes := #[] }] 32 2 #[20] #[{ accessFlags := 26, nameIndex := 22, descriptorIndex := 23, attributes := #[] }])
  fields := #[{ name := "serialVersionUID", type := .long, accessFlags := 26, slot := 0, constantValue := 0 }]
  methods := #[k22m0]
  instanceTypes := #[(.object "java/util/Collection"), (.object "java/util/List")]
  staticTypes := #[.long]
  resolved := Array.replicate 52 none
  statics := none }

def pool23 : Array CpInfo := pool [(2, .class_ 4), (1, u "java/lang/Object"), (0, u "<init>"), (0, u "()V"), (3, .class_ 11), (0, u "java/util/ImmutableCollections$List12"), (0, .class_ 13), (0, u "java/util/ImmutableCollections$ListN"), (3, u "Z"), (29, .class_ 49), (1, u "java/util/ImmutableCollections"), (0, u "$assertionsDisabled"), (5, u "[Ljava/lang/Object;"), (5, u "EMPTY_LIST"), (0, u "Ljava/util/ImmutableCollections$ListN;"), (8, u "EMPTY_LIST_NULLS"), (22, u "SALT32L"), (0, u "J"), (2, u "REVERSE"), (6, u "archivedObjects"), (2, u "EMPTY"), (0, u "Ljava/lang/Object;"), (0, .class_ 112), (0, u "java/util/ImmutableCollections$SetN"), (5, u "EMPTY_SET"), (0, u "Ljava/util/ImmutableCollections$SetN;"), (0, .class_ 121), (0, u "java/util/ImmutableCollections$MapN"), (3, u "EMPTY_MAP"), (0, u "Ljava/util/ImmutableCollections$MapN;"), (4, u "EXPAND_FACTOR"), (0, u "I"), (36, .class_ 170), (0, u "java/util/ImmutableCollections$MapN$MapNIterator"), (0, .class_ 172), (0, u "java/util/ImmutableCollections$MapN$1"), (0, .class_ 174), (0, u "java/util/ImmutableCollections$Map1"), (0, .class_ 176), (0, u "java/util/ImmutableCollections$AbstractImmutableMap"), (0, .class_ 178), (0, u "java/util/ImmutableCollections$SetN$SetNIterator"), (0, .class_ 180), (0, u "java/util/ImmutableCollections$Set12"), (0, .class_ 182), (0, u "java/util/ImmutableCollections$Set12$1"), (0, .class_ 184), (0, u "java/util/ImmutableCollections$AbstractImmutableSet"), (0, .class_ 186), (0, u "java/util/ImmutableCollections$SubList"), (0, .class_ 188), (0, u "java/util/ImmutableCollections$ListItr"), (0, .class_ 190), (0, u "java/util/ImmutableCollections$AbstractImmutableList"), (0, .class_ 192), (0, u "java/util/ImmutableCollections$AbstractImmutableCollection"), (0, .class_ 194), (0, u "java/util/ImmutableCollections$Access"), (0, .class_ 196), (0, u "java/util/ImmutableCollections$Access$1")] 16

def k23m0 : Method := { name := "<init>", desc := "()V", sig := { parameters := [], returnType := none }, accessFlags := 2, code := none }
/-- java/util/ImmutableCollections -/
def k23 : Class := { plain "java/util/ImmutableCollections" (some 0) with
  accessFlags := 32
  interfaces := #[]
  cf := some (fileOf pool23 47 #[.nestMembers #[120, 169, 171, 173, 175, 111, 177, 179, 181, 183, 12, 10, 185, 187, 189, 191, 193, 195]] #[{ accessFlags := 2, nameIndex := 5, descriptorIndex := 6, attributes := #[] }] 32 2 #[] #[{ accessFlags := 26, nameIndex := 95, descriptorIndex := 96, attributes := #[] }, { accessFlags := 26, nameIndex := 99, descriptorIndex := 17, attributes := #[] }, { accessFlags := 10, nameIndex := 106, descriptorIndex := 56, attributes := #[] }, { accessFlags := 26, nameIndex := 109, descriptorIndex := 110, attributes := #[] }, { accessFlags := 24, nameIndex := 62, descriptorIndex := 63, attributes := #[] }, { accessFlags := 24, nameIndex := 72, descriptorIndex := 63, attributes := #[] }, { accessFlags := 24, nameIndex := 118, descriptorIndex := 119, attributes := #[] }, { accessFlags := 24, nameIndex := 125, descriptorIndex := 126, attributes := #[] }, { accessFlags := 24, nameIndex := 131, descriptorIndex := 132, attributes := #[] }, { accessFlags := 4120, nameIndex := 50, descriptorIndex := 17, attributes := #[] }])
  fields := #[{ name := "SALT32L", type := .long, accessFlags := 26, slot := 0, constantValue := 0 }, { name := "REVERSE", type := .boolean, accessFlags := 26, slot := 1, constantValue := 0 }, { name := "archivedObjects", type := (.array (.object "java/lang/Object")), accessFlags := 10, slot := 2, constantValue := 0 }, { name := "EMPTY", type := (.object "java/lang/Object"), accessFlags := 26, slot := 3, constantValue := 0 }, { name := "EMPTY_LIST", type := (.object "java/util/ImmutableCollections$ListN"), accessFlags := 24, slot := 4, constantValue := 0 }, { name := "EMPTY_LIST_NULLS", type := (.object "java/util/ImmutableCollections$ListN"), accessFlags := 24, slot := 5, constantValue := 0 }, { name := "EMPTY_SET", type := (.object "java/util/ImmutableCollections$SetN"), accessFlags := 24, slot := 6, constantValue := 0 }, { name := "EMPTY_MAP", type := (.object "java/util/ImmutableCollections$MapN"), accessFlags := 24, slot := 7, constantValue := 0 }, { name := "EXPAND_FACTOR", type := .int, accessFlags := 24, slot := 8, constantValue := 0 }, { name := "$assertionsDisabled", type := .boolean, accessFlags := 4120, slot := 9, constantValue := 0 }]
  methods := #[k23m0]
  instanceTypes := #[]
  staticTypes := #[.long, .boolean, (.array (.object "java/lang/Object")), (.object "java/lang/Object"), (.object "java/util/ImmutableCollections$ListN"), (.object "java/util/ImmutableCollections$ListN"), (.object "java/util/ImmutableCollections$SetN"), (.object "java/util/ImmutableCollections$MapN"), .int, .boolean]
  resolved := Array.replicate 213 none
  statics := some 1 }

def pool24 : Array CpInfo := pool [(2, .class_ 4), (1, u "java/lang/Object"), (0, u "<init>"), (0, u "()V"), (35, .class_ 44), (1, u "java/util/Objects"), (60, .methodref 106 107), (0, .class_ 108), (0, .nameAndType 109 110), (0, u "jdk/internal/util/Preconditions"), (0, u "checkIndex"), (0, u "(IILjava/util/function/BiFunction;)I"), (60, u "(II)I")] 12

def k24m0 : Method := { name := "<init>", desc := "()V", sig := { parameters := [], returnType := none }, accessFlags := 2, code := none }
def k24c1 : Code := { maxStack := 3, maxLocals := 2, code := jdk_31_method_17_code, exceptionTable := #[], attributes := #[] }
def k24m1 : Method := { name := "checkIndex", desc := "(II)I", sig := { parameters := [.int, .int], returnType := some .int }, accessFlags := 9, code := some k24c1 }
/-- java/util/Objects -/
def k24 : Class := { plain "java/util/Objects" (some 0) with
  accessFlags := 49
  interfaces := #[]
  cf := some (fileOf pool24 42 #[] #[{ accessFlags := 2, nameIndex := 5, descriptorIndex := 6, attributes := #[] }, { accessFlags := 9, nameIndex := 109, descriptorIndex := 171, attributes := #[] }] 49 2 #[] #[])
  fields := #[]
  methods := #[k24m0, k24m1]
  instanceTypes := #[]
  staticTypes := #[]
  resolved := Array.replicate 184 none
  statics := none }

def pool25 : Array CpInfo := pool [(2, .class_ 4), (1, u "java/lang/Object"), (0, u "<init>"), (0, u "()V"), (17, .class_ 26), (1, u "jdk/internal/util/Preconditions"), (6, u "checkIndex"), (21, .class_ 56), (0, u "jdk/internal/util/Preconditions$4"), (57, .class_ 115), (0, u "jdk/internal/util/Preconditions$1"), (7, u "SIOOBE_FORMATTER"), (0, u "Ljava/util/function/BiFunction;"), (0, .class_ 126), (0, u "jdk/internal/util/Preconditions$2"), (3, u "AIOOBE_FORMATTER"), (0, .class_ 132), (0, u "jdk/internal/util/Preconditions$3"), (3, u "IOOBE_FORMATTER"), (41, u "(IILjava/util/function/BiFunction;)I")] 15

def k25m0 : Method := { name := "<init>", desc := "()V", sig := { parameters := [], returnType := none }, accessFlags := 1, code := none }
def k25c1 : Code := { maxStack := 3, maxLocals := 3, code := jdk_41_method_11_code, exceptionTable := #[], attributes := #[] }
def k25m1 : Method := { name := "checkIndex", desc := "(IILjava/util/function/BiFunction;)I", sig := { parameters := [.int, .int, (.object "java/util/function/BiFunction")], returnType := some .int }, accessFlags := 9, code := some k25c1 }
/-- jdk/internal/util/Preconditions -/
def k25 : Class := { plain "jdk/internal/util/Preconditions" (some 0) with
  accessFlags := 33
  interfaces := #[]
  cf := some (fileOf pool25 24 #[.nestMembers #[55, 131, 125, 114]] #[{ accessFlags := 1, nameIndex := 5, descriptorIndex := 6, attributes := #[] }, { accessFlags := 9, nameIndex := 33, descriptorIndex := 178, attributes := #[] }] 33 2 #[] #[{ accessFlags := 25, nameIndex := 123, descriptorIndex := 124, attributes := #[] }, { accessFlags := 25, nameIndex := 130, descriptorIndex := 124, attributes := #[] }, { accessFlags := 25, nameIndex := 136, descriptorIndex := 124, attributes := #[] }])
  fields := #[{ name := "SIOOBE_FORMATTER", type := (.object "java/util/function/BiFunction"), accessFlags := 25, slot := 0, constantValue := 0 }, { name := "AIOOBE_FORMATTER", type := (.object "java/util/function/BiFunction"), accessFlags := 25, slot := 1, constantValue := 0 }, { name := "IOOBE_FORMATTER", type := (.object "java/util/function/BiFunction"), accessFlags := 25, slot := 2, constantValue := 0 }]
  methods := #[k25m0, k25m1]
  instanceTypes := #[]
  staticTypes := #[(.object "java/util/function/BiFunction"), (.object "java/util/function/BiFunction"), (.object "java/util/function/BiFunction")]
  resolved := Array.replicate 194 none
  statics := none }

def pool26 : Array CpInfo := pool [(1, .class_ 2), (0, u "java/lang/Math"), (1, .class_ 6), (1, u "java/lang/Object"), (0, u "<init>"), (0, u "()V"), (89, .class_ 100), (1, u "java/lang/Math$RandomNumberGeneratorHolder"), (71, u "negativeZeroFloatBits"), (0, u "J"), (2, u "negativeZeroDoubleBits"), (24, u "min"), (43, u "$assertionsDisabled"), (0, u "Z"), (88, u "(II)I"), (2, u "twoToTheDoubleScaleDown"), (0, u "D"), (4, u "twoToTheDoubleScaleUp"), (9, u "E"), (3, u "PI"), (2, u "TAU"), (2, u "DEGREES_TO_RADIANS"), (0, u "RADIANS_TO_DEGREES")] 94

def k26m0 : Method := { name := "<init>", desc := "()V", sig := { parameters := [], returnType := none }, accessFlags := 2, code := none }
def k26c1 : Code := { maxStack := 2, maxLocals := 2, code := jdk_29_method_69_code, exceptionTable := #[], attributes := #[] }
def k26m1 : Method := { name := "min", desc := "(II)I", sig := { parameters := [.int, .int], returnType := some .int }, accessFlags := 9, code := some k26c1 }
/-- java/lang/Math -/
def k26 : Class := { plain "java/lang/Math" (some 0) with
  accessFlags := 49
  interfaces := #[]
  cf := some (fileOf pool26 1 #[.nestMembers #[98]] #[{ accessFlags := 2, nameIndex := 7, descriptorIndex := 8, attributes := #[] }, { accessFlags := 9, nameIndex := 201, descriptorIndex := 335, attributes := #[] }] 49 4 #[] #[{ accessFlags := 25, nameIndex := 354, descriptorIndex := 339, attributes := #[] }, { accessFlags := 25, nameIndex := 358, descriptorIndex := 339, attributes := #[] }, { accessFlags := 25, nameIndex := 361, descriptorIndex := 339, attributes := #[] }, { accessFlags := 26, nameIndex := 364, descriptorIndex := 339, attributes := #[] }, { accessFlags := 26, nameIndex := 365, descriptorIndex := 339, attributes := #[] }, { accessFlags := 26, nameIndex := 172, descriptorIndex := 173, attributes := #[] }, { accessFlags := 26, nameIndex := 176, descriptorIndex := 173, attributes := #[] }, { accessFlags := 8, nameIndex := 344, descriptorIndex := 339, attributes := #[] }, { accessFlags := 8, nameIndex := 338, descriptorIndex := 339, attributes := #[] }, { accessFlags := 4120, nameIndex := 245, descriptorIndex := 246, attributes := #[] }])
  fields := #[{ name := "E", type := .double, accessFlags := 25, slot := 0, constantValue := 0 }, { name := "PI", type := .double, accessFlags := 25, slot := 1, constantValue := 0 }, { name := "TAU", type := .double, accessFlags := 25, slot := 2, constantValue := 0 }, { name := "DEGREES_TO_RADIANS", type := .double, accessFlags := 26, slot := 3, constantValue := 0 }, { name := "RADIANS_TO_DEGREES", type := .double, accessFlags := 26, slot := 4, constantValue := 0 }, { name := "negativeZeroFloatBits", type := .long, accessFlags := 26, slot := 5, constantValue := 0 }, { name := "negativeZeroDoubleBits", type := .long, accessFlags := 26, slot := 6, constantValue := 0 }, { name := "twoToTheDoubleScaleUp", type := .double, accessFlags := 8, slot := 7, constantValue := 0 }, { name := "twoToTheDoubleScaleDown", type := .double, accessFlags := 8, slot := 8, constantValue := 0 }, { name := "$assertionsDisabled", type := .boolean, accessFlags := 4120, slot := 9, constantValue := 0 }]
  methods := #[k26m0, k26m1]
  instanceTypes := #[]
  staticTypes := #[.double, .double, .double, .double, .double, .long, .long, .double, .double, .boolean]
  resolved := Array.replicate 460 none
  statics := none }

def pool27 : Array CpInfo := pool [(2, .class_ 4), (1, u "java/util/AbstractCollection"), (0, u "<init>"), (0, u "()V"), (1, .class_ 10), (1, u "java/util/ImmutableCollections"), (2, .class_ 14), (0, u "java/util/ImmutableCollections$AbstractImmutableCollection")] 41

def k27m0 : Method := { name := "<init>", desc := "()V", sig := { parameters := [], returnType := none }, accessFlags := 0, code := none }
/-- java/util/ImmutableCollections$AbstractImmutableCollection -/
def k27 : Class := { plain "java/util/ImmutableCollections$AbstractImmutableCollection" (some 5) with
  accessFlags := 1056
  interfaces := #[]
  cf := some (fileOf pool27 13 #[.nestHost 8] #[{ accessFlags := 0, nameIndex := 5, descriptorIndex := 6, attributes := #[] }] 1056 2 #[] #[])
  fields := #[]
  methods := #[k27m0]
  instanceTypes := #[]
  staticTypes := #[]
  resolved := Array.replicate 56 none
  statics := none }

def pool28 : Array CpInfo := pool [(2, .class_ 4), (1, u "java/util/ImmutableCollections$AbstractImmutableCollection"), (0, u "<init>"), (0, u "()V"), (1, .class_ 10), (1, u "java/util/ImmutableCollections"), (3, .class_ 16), (1, u "java/util/ImmutableCollections$AbstractImmutableList"), (60, .class_ 78), (0, u "java/util/List"), (45, .class_ 125), (0, u "java/util/RandomAccess")] 70

def k28m0 : Method := { name := "<init>", desc := "()V", sig := { parameters := [], returnType := none }, accessFlags := 0, code := none }
/-- java/util/ImmutableCollections$AbstractImmutableList -/
def k28 : Class := { plain "java/util/ImmutableCollections$AbstractImmutableList" (some 27) with
  accessFlags := 1056
  interfaces := #[7, 9]
  cf := some (fileOf pool28 14 #[.nestHost 8] #[{ accessFlags := 0, nameIndex := 5, descriptorIndex := 6, attributes := #[] }] 1056 2 #[77, 124] #[])
  fields := #[]
  methods := #[k28m0]
  instanceTypes := #[]
  staticTypes := #[]
  resolved := Array.replicate 196 none
  statics := none }

def pool29 : Array CpInfo := pool [(2, .class_ 4), (1, u "java/util/ImmutableCollections$AbstractImmutableList"), (3, .class_ 10), (1, u "java/util/ImmutableCollections$ListN"), (0, u "elements"), (0, u "[Ljava/lang/Object;"), (2, u "allowNulls"), (0, u "Z"), (42, .class_ 60), (0, u "java/io/Serializable"), (53, .class_ 115), (0, u "java/util/ImmutableCollections")] 3

/-- java/util/ImmutableCollections$ListN -/
def k29 : Class := { plain "java/util/ImmutableCollections$ListN" (some 28) with
  accessFlags := 48
  interfaces := #[11]
  cf := some (fileOf pool29 8 #[.nestHost 114] #[] 48 2 #[59] #[{ accessFlags := 18, nameIndex := 11, descriptorIndex := 12, attributes := #[] }, { accessFlags := 18, nameIndex := 15, descriptorIndex := 16, attributes := #[] }])
  fields := #[{ name := "elements", type := (.array (.object "java/lang/Object")), accessFlags := 18, slot := 0, constantValue := 0 }, { name := "allowNulls", type := .boolean, accessFlags := 18, slot := 1, constantValue := 0 }]
  methods := #[]
  instanceTypes := #[(.array (.object "java/lang/Object")), .boolean]
  staticTypes := #[]
  resolved := Array.replicate 119 none
  statics := none }

/-- the primitive byte -/
def k30 : Class := { plain "byte" none with kind := .primitive 'B', accessFlags := 0x411 }
/-- [B -/
def k31 : Class := { plain "[B" (some 0) with kind := .array 30 .byte, interfaces := #[10, 11], accessFlags := 1041 }

/-- the primitive int -/
def k32 : Class := { plain "int" none with kind := .primitive 'I', accessFlags := 0x411 }
/-- [I -/
def k33 : Class := { plain "[I" (some 0) with kind := .array 32 .int, interfaces := #[10, 11], accessFlags := 1041 }

/-- the primitive long -/
def k34 : Class := { plain "long" none with kind := .primitive 'J', accessFlags := 0x411 }
/-- [J -/
def k35 : Class := { plain "[J" (some 0) with kind := .array 34 .long, interfaces := #[10, 11], accessFlags := 1041 }

/-- [Ljava/lang/Long; -/
def k36 : Class := { plain "[Ljava/lang/Long;" (some 0) with kind := .array 17 (.object "java/lang/Long"), interfaces := #[10, 11], accessFlags := 1041 }

/-- [Ljava/lang/Object; -/
def k37 : Class := { plain "[Ljava/lang/Object;" (some 0) with kind := .array 0 (.object "java/lang/Object"), interfaces := #[10, 11], accessFlags := 1041 }

def heap : Heap := #[{ cls := 18, slots := #[.ref 2, .null, .int 0], vm := .statics 18 },
  { cls := 23, slots := #[.long 0, .int 0, .null, .null, .ref 260, .null, .null, .null, .int 0, .int 0], vm := .statics 23 },
  { cls := 36, slots := #[.ref 4, .ref 5, .ref 6, .ref 7, .ref 8, .ref 9, .ref 10, .ref 11, .ref 12, .ref 13, .ref 14, .ref 15, .ref 16, .ref 17, .ref 18, .ref 19, .ref 20, .ref 21, .ref 22, .ref 23, .ref 24, .ref 25, .ref 26, .ref 27, .ref 28, .ref 29, .ref 30, .ref 31, .ref 32, .ref 33, .ref 34, .ref 35, .ref 36, .ref 37, .ref 38, .ref 39, .ref 40, .ref 41, .ref 42, .ref 43, .ref 44, .ref 45, .ref 46, .ref 47, .ref 48, .ref 49, .ref 50, .ref 51, .ref 52, .ref 53, .ref 54, .ref 55, .ref 56, .ref 57, .ref 58, .ref 59, .ref 60, .ref 61, .ref 62, .ref 63, .ref 64, .ref 65, .ref 66, .ref 67, .ref 68, .ref 69, .ref 70, .ref 71, .ref 72, .ref 73, .ref 74, .ref 75, .ref 76, .ref 77, .ref 78, .ref 79, .ref 80, .ref 81, .ref 82, .ref 83, .ref 84, .ref 85, .ref 86, .ref 87, .ref 88, .ref 89, .ref 90, .ref 91, .ref 92, .ref 93, .ref 94, .ref 95, .ref 96, .ref 97, .ref 98, .ref 99, .ref 100, .ref 101, .ref 102, .ref 103, .ref 104, .ref 105, .ref 106, .ref 107, .ref 108, .ref 109, .ref 110, .ref 111, .ref 112, .ref 113, .ref 114, .ref 115, .ref 116, .ref 117, .ref 118, .ref 119, .ref 120, .ref 121, .ref 122, .ref 123, .ref 124, .ref 125, .ref 126, .ref 127, .ref 128, .ref 129, .ref 130, .ref 131, .ref 132, .ref 133, .ref 134, .ref 135, .ref 136, .ref 137, .ref 138, .ref 139, .ref 140, .ref 141, .ref 142, .ref 143, .ref 144, .ref 145, .ref 146, .ref 147, .ref 148, .ref 149, .ref 150, .ref 151, .ref 152, .ref 153, .ref 154, .ref 155, .ref 156, .ref 157, .ref 158, .ref 159, .ref 160, .ref 161, .ref 162, .ref 163, .ref 164, .ref 165, .ref 166, .ref 167, .ref 168, .ref 169, .ref 170, .ref 171, .ref 172, .ref 173, .ref 174, .ref 175, .ref 176, .ref 177, .ref 178, .ref 179, .ref 180, .ref 181, .ref 182, .ref 183, .ref 184, .ref 185, .ref 186, .ref 187, .ref 188, .ref 189, .ref 190, .ref 191, .ref 192, .ref 193, .ref 194, .ref 195, .ref 196, .ref 197, .ref 198, .ref 199, .ref 200, .ref 201, .ref 202, .ref 203, .ref 204, .ref 205, .ref 206, .ref 207, .ref 208, .ref 209, .ref 210, .ref 211, .ref 212, .ref 213, .ref 214, .ref 215, .ref 216, .ref 217, .ref 218, .ref 219, .ref 220, .ref 221, .ref 222, .ref 223, .ref 224, .ref 225, .ref 226, .ref 227, .ref 228, .ref 229, .ref 230, .ref 231, .ref 232, .ref 233, .ref 234, .ref 235, .ref 236, .ref 237, .ref 238, .ref 239, .ref 240, .ref 241, .ref 242, .ref 243, .ref 244, .ref 245, .ref 246, .ref 247, .ref 248, .ref 249, .ref 250, .ref 251, .ref 252, .ref 253, .ref 254, .ref 255, .ref 256, .ref 257, .ref 258, .ref 259], vm := .none },
  { cls := 37, slots := #[], vm := .none },
  { cls := 17, slots := #[.long (-128)], vm := .none },
  { cls := 17, slots := #[.long (-127)], vm := .none },
  { cls := 17, slots := #[.long (-126)], vm := .none },
  { cls := 17, slots := #[.long (-125)], vm := .none },
  { cls := 17, slots := #[.long (-124)], vm := .none },
  { cls := 17, slots := #[.long (-123)], vm := .none },
  { cls := 17, slots := #[.long (-122)], vm := .none },
  { cls := 17, slots := #[.long (-121)], vm := .none },
  { cls := 17, slots := #[.long (-120)], vm := .none },
  { cls := 17, slots := #[.long (-119)], vm := .none },
  { cls := 17, slots := #[.long (-118)], vm := .none },
  { cls := 17, slots := #[.long (-117)], vm := .none },
  { cls := 17, slots := #[.long (-116)], vm := .none },
  { cls := 17, slots := #[.long (-115)], vm := .none },
  { cls := 17, slots := #[.long (-114)], vm := .none },
  { cls := 17, slots := #[.long (-113)], vm := .none },
  { cls := 17, slots := #[.long (-112)], vm := .none },
  { cls := 17, slots := #[.long (-111)], vm := .none },
  { cls := 17, slots := #[.long (-110)], vm := .none },
  { cls := 17, slots := #[.long (-109)], vm := .none },
  { cls := 17, slots := #[.long (-108)], vm := .none },
  { cls := 17, slots := #[.long (-107)], vm := .none },
  { cls := 17, slots := #[.long (-106)], vm := .none },
  { cls := 17, slots := #[.long (-105)], vm := .none },
  { cls := 17, slots := #[.long (-104)], vm := .none },
  { cls := 17, slots := #[.long (-103)], vm := .none },
  { cls := 17, slots := #[.long (-102)], vm := .none },
  { cls := 17, slots := #[.long (-101)], vm := .none },
  { cls := 17, slots := #[.long (-100)], vm := .none },
  { cls := 17, slots := #[.long (-99)], vm := .none },
  { cls := 17, slots := #[.long (-98)], vm := .none },
  { cls := 17, slots := #[.long (-97)], vm := .none },
  { cls := 17, slots := #[.long (-96)], vm := .none },
  { cls := 17, slots := #[.long (-95)], vm := .none },
  { cls := 17, slots := #[.long (-94)], vm := .none },
  { cls := 17, slots := #[.long (-93)], vm := .none },
  { cls := 17, slots := #[.long (-92)], vm := .none },
  { cls := 17, slots := #[.long (-91)], vm := .none },
  { cls := 17, slots := #[.long (-90)], vm := .none },
  { cls := 17, slots := #[.long (-89)], vm := .none },
  { cls := 17, slots := #[.long (-88)], vm := .none },
  { cls := 17, slots := #[.long (-87)], vm := .none },
  { cls := 17, slots := #[.long (-86)], vm := .none },
  { cls := 17, slots := #[.long (-85)], vm := .none },
  { cls := 17, slots := #[.long (-84)], vm := .none },
  { cls := 17, slots := #[.long (-83)], vm := .none },
  { cls := 17, slots := #[.long (-82)], vm := .none },
  { cls := 17, slots := #[.long (-81)], vm := .none },
  { cls := 17, slots := #[.long (-80)], vm := .none },
  { cls := 17, slots := #[.long (-79)], vm := .none },
  { cls := 17, slots := #[.long (-78)], vm := .none },
  { cls := 17, slots := #[.long (-77)], vm := .none },
  { cls := 17, slots := #[.long (-76)], vm := .none },
  { cls := 17, slots := #[.long (-75)], vm := .none },
  { cls := 17, slots := #[.long (-74)], vm := .none },
  { cls := 17, slots := #[.long (-73)], vm := .none },
  { cls := 17, slots := #[.long (-72)], vm := .none },
  { cls := 17, slots := #[.long (-71)], vm := .none },
  { cls := 17, slots := #[.long (-70)], vm := .none },
  { cls := 17, slots := #[.long (-69)], vm := .none },
  { cls := 17, slots := #[.long (-68)], vm := .none },
  { cls := 17, slots := #[.long (-67)], vm := .none },
  { cls := 17, slots := #[.long (-66)], vm := .none },
  { cls := 17, slots := #[.long (-65)], vm := .none },
  { cls := 17, slots := #[.long (-64)], vm := .none },
  { cls := 17, slots := #[.long (-63)], vm := .none },
  { cls := 17, slots := #[.long (-62)], vm := .none },
  { cls := 17, slots := #[.long (-61)], vm := .none },
  { cls := 17, slots := #[.long (-60)], vm := .none },
  { cls := 17, slots := #[.long (-59)], vm := .none },
  { cls := 17, slots := #[.long (-58)], vm := .none },
  { cls := 17, slots := #[.long (-57)], vm := .none },
  { cls := 17, slots := #[.long (-56)], vm := .none },
  { cls := 17, slots := #[.long (-55)], vm := .none },
  { cls := 17, slots := #[.long (-54)], vm := .none },
  { cls := 17, slots := #[.long (-53)], vm := .none },
  { cls := 17, slots := #[.long (-52)], vm := .none },
  { cls := 17, slots := #[.long (-51)], vm := .none },
  { cls := 17, slots := #[.long (-50)], vm := .none },
  { cls := 17, slots := #[.long (-49)], vm := .none },
  { cls := 17, slots := #[.long (-48)], vm := .none },
  { cls := 17, slots := #[.long (-47)], vm := .none },
  { cls := 17, slots := #[.long (-46)], vm := .none },
  { cls := 17, slots := #[.long (-45)], vm := .none },
  { cls := 17, slots := #[.long (-44)], vm := .none },
  { cls := 17, slots := #[.long (-43)], vm := .none },
  { cls := 17, slots := #[.long (-42)], vm := .none },
  { cls := 17, slots := #[.long (-41)], vm := .none },
  { cls := 17, slots := #[.long (-40)], vm := .none },
  { cls := 17, slots := #[.long (-39)], vm := .none },
  { cls := 17, slots := #[.long (-38)], vm := .none },
  { cls := 17, slots := #[.long (-37)], vm := .none },
  { cls := 17, slots := #[.long (-36)], vm := .none },
  { cls := 17, slots := #[.long (-35)], vm := .none },
  { cls := 17, slots := #[.long (-34)], vm := .none },
  { cls := 17, slots := #[.long (-33)], vm := .none },
  { cls := 17, slots := #[.long (-32)], vm := .none },
  { cls := 17, slots := #[.long (-31)], vm := .none },
  { cls := 17, slots := #[.long (-30)], vm := .none },
  { cls := 17, slots := #[.long (-29)], vm := .none },
  { cls := 17, slots := #[.long (-28)], vm := .none },
  { cls := 17, slots := #[.long (-27)], vm := .none },
  { cls := 17, slots := #[.long (-26)], vm := .none },
  { cls := 17, slots := #[.long (-25)], vm := .none },
  { cls := 17, slots := #[.long (-24)], vm := .none },
  { cls := 17, slots := #[.long (-23)], vm := .none },
  { cls := 17, slots := #[.long (-22)], vm := .none },
  { cls := 17, slots := #[.long (-21)], vm := .none },
  { cls := 17, slots := #[.long (-20)], vm := .none },
  { cls := 17, slots := #[.long (-19)], vm := .none },
  { cls := 17, slots := #[.long (-18)], vm := .none },
  { cls := 17, slots := #[.long (-17)], vm := .none },
  { cls := 17, slots := #[.long (-16)], vm := .none },
  { cls := 17, slots := #[.long (-15)], vm := .none },
  { cls := 17, slots := #[.long (-14)], vm := .none },
  { cls := 17, slots := #[.long (-13)], vm := .none },
  { cls := 17, slots := #[.long (-12)], vm := .none },
  { cls := 17, slots := #[.long (-11)], vm := .none },
  { cls := 17, slots := #[.long (-10)], vm := .none },
  { cls := 17, slots := #[.long (-9)], vm := .none },
  { cls := 17, slots := #[.long (-8)], vm := .none },
  { cls := 17, slots := #[.long (-7)], vm := .none },
  { cls := 17, slots := #[.long (-6)], vm := .none },
  { cls := 17, slots := #[.long (-5)], vm := .none },
  { cls := 17, slots := #[.long (-4)], vm := .none },
  { cls := 17, slots := #[.long (-3)], vm := .none },
  { cls := 17, slots := #[.long (-2)], vm := .none },
  { cls := 17, slots := #[.long (-1)], vm := .none },
  { cls := 17, slots := #[.long (0)], vm := .none },
  { cls := 17, slots := #[.long (1)], vm := .none },
  { cls := 17, slots := #[.long (2)], vm := .none },
  { cls := 17, slots := #[.long (3)], vm := .none },
  { cls := 17, slots := #[.long (4)], vm := .none },
  { cls := 17, slots := #[.long (5)], vm := .none },
  { cls := 17, slots := #[.long (6)], vm := .none },
  { cls := 17, slots := #[.long (7)], vm := .none },
  { cls := 17, slots := #[.long (8)], vm := .none },
  { cls := 17, slots := #[.long (9)], vm := .none },
  { cls := 17, slots := #[.long (10)], vm := .none },
  { cls := 17, slots := #[.long (11)], vm := .none },
  { cls := 17, slots := #[.long (12)], vm := .none },
  { cls := 17, slots := #[.long (13)], vm := .none },
  { cls := 17, slots := #[.long (14)], vm := .none },
  { cls := 17, slots := #[.long (15)], vm := .none },
  { cls := 17, slots := #[.long (16)], vm := .none },
  { cls := 17, slots := #[.long (17)], vm := .none },
  { cls := 17, slots := #[.long (18)], vm := .none },
  { cls := 17, slots := #[.long (19)], vm := .none },
  { cls := 17, slots := #[.long (20)], vm := .none },
  { cls := 17, slots := #[.long (21)], vm := .none },
  { cls := 17, slots := #[.long (22)], vm := .none },
  { cls := 17, slots := #[.long (23)], vm := .none },
  { cls := 17, slots := #[.long (24)], vm := .none },
  { cls := 17, slots := #[.long (25)], vm := .none },
  { cls := 17, slots := #[.long (26)], vm := .none },
  { cls := 17, slots := #[.long (27)], vm := .none },
  { cls := 17, slots := #[.long (28)], vm := .none },
  { cls := 17, slots := #[.long (29)], vm := .none },
  { cls := 17, slots := #[.long (30)], vm := .none },
  { cls := 17, slots := #[.long (31)], vm := .none },
  { cls := 17, slots := #[.long (32)], vm := .none },
  { cls := 17, slots := #[.long (33)], vm := .none },
  { cls := 17, slots := #[.long (34)], vm := .none },
  { cls := 17, slots := #[.long (35)], vm := .none },
  { cls := 17, slots := #[.long (36)], vm := .none },
  { cls := 17, slots := #[.long (37)], vm := .none },
  { cls := 17, slots := #[.long (38)], vm := .none },
  { cls := 17, slots := #[.long (39)], vm := .none },
  { cls := 17, slots := #[.long (40)], vm := .none },
  { cls := 17, slots := #[.long (41)], vm := .none },
  { cls := 17, slots := #[.long (42)], vm := .none },
  { cls := 17, slots := #[.long (43)], vm := .none },
  { cls := 17, slots := #[.long (44)], vm := .none },
  { cls := 17, slots := #[.long (45)], vm := .none },
  { cls := 17, slots := #[.long (46)], vm := .none },
  { cls := 17, slots := #[.long (47)], vm := .none },
  { cls := 17, slots := #[.long (48)], vm := .none },
  { cls := 17, slots := #[.long (49)], vm := .none },
  { cls := 17, slots := #[.long (50)], vm := .none },
  { cls := 17, slots := #[.long (51)], vm := .none },
  { cls := 17, slots := #[.long (52)], vm := .none },
  { cls := 17, slots := #[.long (53)], vm := .none },
  { cls := 17, slots := #[.long (54)], vm := .none },
  { cls := 17, slots := #[.long (55)], vm := .none },
  { cls := 17, slots := #[.long (56)], vm := .none },
  { cls := 17, slots := #[.long (57)], vm := .none },
  { cls := 17, slots := #[.long (58)], vm := .none },
  { cls := 17, slots := #[.long (59)], vm := .none },
  { cls := 17, slots := #[.long (60)], vm := .none },
  { cls := 17, slots := #[.long (61)], vm := .none },
  { cls := 17, slots := #[.long (62)], vm := .none },
  { cls := 17, slots := #[.long (63)], vm := .none },
  { cls := 17, slots := #[.long (64)], vm := .none },
  { cls := 17, slots := #[.long (65)], vm := .none },
  { cls := 17, slots := #[.long (66)], vm := .none },
  { cls := 17, slots := #[.long (67)], vm := .none },
  { cls := 17, slots := #[.long (68)], vm := .none },
  { cls := 17, slots := #[.long (69)], vm := .none },
  { cls := 17, slots := #[.long (70)], vm := .none },
  { cls := 17, slots := #[.long (71)], vm := .none },
  { cls := 17, slots := #[.long (72)], vm := .none },
  { cls := 17, slots := #[.long (73)], vm := .none },
  { cls := 17, slots := #[.long (74)], vm := .none },
  { cls := 17, slots := #[.long (75)], vm := .none },
  { cls := 17, slots := #[.long (76)], vm := .none },
  { cls := 17, slots := #[.long (77)], vm := .none },
  { cls := 17, slots := #[.long (78)], vm := .none },
  { cls := 17, slots := #[.long (79)], vm := .none },
  { cls := 17, slots := #[.long (80)], vm := .none },
  { cls := 17, slots := #[.long (81)], vm := .none },
  { cls := 17, slots := #[.long (82)], vm := .none },
  { cls := 17, slots := #[.long (83)], vm := .none },
  { cls := 17, slots := #[.long (84)], vm := .none },
  { cls := 17, slots := #[.long (85)], vm := .none },
  { cls := 17, slots := #[.long (86)], vm := .none },
  { cls := 17, slots := #[.long (87)], vm := .none },
  { cls := 17, slots := #[.long (88)], vm := .none },
  { cls := 17, slots := #[.long (89)], vm := .none },
  { cls := 17, slots := #[.long (90)], vm := .none },
  { cls := 17, slots := #[.long (91)], vm := .none },
  { cls := 17, slots := #[.long (92)], vm := .none },
  { cls := 17, slots := #[.long (93)], vm := .none },
  { cls := 17, slots := #[.long (94)], vm := .none },
  { cls := 17, slots := #[.long (95)], vm := .none },
  { cls := 17, slots := #[.long (96)], vm := .none },
  { cls := 17, slots := #[.long (97)], vm := .none },
  { cls := 17, slots := #[.long (98)], vm := .none },
  { cls := 17, slots := #[.long (99)], vm := .none },
  { cls := 17, slots := #[.long (100)], vm := .none },
  { cls := 17, slots := #[.long (101)], vm := .none },
  { cls := 17, slots := #[.long (102)], vm := .none },
  { cls := 17, slots := #[.long (103)], vm := .none },
  { cls := 17, slots := #[.long (104)], vm := .none },
  { cls := 17, slots := #[.long (105)], vm := .none },
  { cls := 17, slots := #[.long (106)], vm := .none },
  { cls := 17, slots := #[.long (107)], vm := .none },
  { cls := 17, slots := #[.long (108)], vm := .none },
  { cls := 17, slots := #[.long (109)], vm := .none },
  { cls := 17, slots := #[.long (110)], vm := .none },
  { cls := 17, slots := #[.long (111)], vm := .none },
  { cls := 17, slots := #[.long (112)], vm := .none },
  { cls := 17, slots := #[.long (113)], vm := .none },
  { cls := 17, slots := #[.long (114)], vm := .none },
  { cls := 17, slots := #[.long (115)], vm := .none },
  { cls := 17, slots := #[.long (116)], vm := .none },
  { cls := 17, slots := #[.long (117)], vm := .none },
  { cls := 17, slots := #[.long (118)], vm := .none },
  { cls := 17, slots := #[.long (119)], vm := .none },
  { cls := 17, slots := #[.long (120)], vm := .none },
  { cls := 17, slots := #[.long (121)], vm := .none },
  { cls := 17, slots := #[.long (122)], vm := .none },
  { cls := 17, slots := #[.long (123)], vm := .none },
  { cls := 17, slots := #[.long (124)], vm := .none },
  { cls := 17, slots := #[.long (125)], vm := .none },
  { cls := 17, slots := #[.long (126)], vm := .none },
  { cls := 17, slots := #[.long (127)], vm := .none },
  { cls := 29, slots := #[.ref 3, .int 0], vm := .none },
  { cls := 0, slots := #[], vm := .mirror 12 },
  { cls := 0, slots := #[], vm := .mirror 21 },
  { cls := 0, slots := #[], vm := .mirror 22 }]
def classes : Array Class := #[k0, k1, k2, k3, k4, k5, k6, k7, k8, k9, k10, k11, k12, k13, k14, k15, k16, k17, k18, k19, k20, k21, k22, k23, k24, k25, k26, k27, k28, k29, k30, k31, k32, k33, k34, k35, k36, k37]
def interned : List (Array UInt16 × Addr) := []
def slotsUsed : Nat := 527
def theMethod : MethodId := ⟨1, 1⟩
def args0 : Array Value := #[.int 5, .long 7, .long 8, .long 9, .int 3]
def aboutOver (below : List Frame) : State where
  vm := { classes := classes, interned := interned.toArray }
  heap := heap
  slotsUsed := slotsUsed
  threads := #[{ frames := .invoking theMethod args0 :: below }]
def below0 : List Frame := [.native { method := ⟨0, 0⟩, args := #[] }]
def about1 : State := aboutOver below0
def p0 : Program := .bare "" "" ""
def e0 : Env := launch0.env 0 0 0
theorem w_frames : about1.frames = Frame.invoking theMethod args0 :: below0 := rfl
set_option maxRecDepth 65536 in
theorem w_args : argsFit about1.vm theMethod args0 = true := by decide +kernel
set_option maxRecDepth 65536 in
theorem w_heap : heapFits about1 = true := by decide +kernel
set_option maxRecDepth 65536 in
theorem w_runnable : about1.curStatus? = some .runnable := by decide +kernel
set_option maxRecDepth 65536 in
theorem w_alone : about1.alone = true := by decide +kernel
set_option maxRecDepth 65536 in
theorem w_named : about1.methodNamed? x = some theMethod := by decide +kernel
set_option maxRecDepth 65536 in
theorem w_hears : about1.hears theMethod below0 = true := by decide +kernel
set_option maxRecDepth 65536 in
theorem w_ripe : about1.ripe theMethod args0 below0 = true := by decide +kernel
theorem w_running : about1.status = .running := rfl
set_option maxRecDepth 65536 in
theorem w_room : about1.hasRoom e0.platform room_1 = true :=
  launch0.hasRoom_least _ room_1 (by decide +kernel) (by decide +kernel) (by decide +kernel) (by decide +kernel) (by decide +kernel) (by decide +kernel)
theorem allAtoms_all (ts : List Jvm.Cond) (a : Array Jvm.Value) (st : Jvm.State) : (allAtoms ts).before a st = ts.all (fun c => c.before a st) := by
  induction ts with
  | nil => rfl
  | cons c t ih =>
    show (Jvm.Cond.and c (allAtoms t)).before a st = _
    rw [Jvm.Cond.before_and, ih, List.all_cons]
def words1 : List Jvm.Cond := Jvm.Cond.code x code maxLocals ret :: tables_1
/-- a 'code' word, met by the world's own term for the bytes: nothing is compared byte by byte -/
theorem code_word {y : MethodName} {bytes : ByteArray} {mx : Nat} {rt : Option FieldType} {a : Array Value} {s : State} {m : MethodId} {meth : Method} {c : Code} (h1 : s.methodNamed? y = some m) (h2 : s.vm.method? m = some meth) (h3 : meth.code = some c) (h4 : c.code = bytes)
    (h5 : (c.maxLocals == mx && c.exceptionTable.isEmpty && decide (c.maxStack ≤ mostOperands) && decide (meth.sig.returnType = rt) && !meth.locks && decide (parseMethodDescriptor y.desc = some meth.sig)) = true) : (Jvm.Cond.code y bytes mx rt).before a s = true := by
  simp only [Bool.and_eq_true, beq_iff_eq, Bool.not_eq_true', decide_eq_true_eq] at h5
  obtain ⟨⟨⟨⟨⟨g1, g2⟩, g3⟩, g4⟩, g5⟩, g6⟩ := h5
  simp [Cond.before, Cond.holds, Cond.value, h1, h2, h3, h4, g1, g2, g3, g4, g5, g6]
def isCode : Jvm.Cond → Bool
  | .code _ _ _ _ => true
  | _ => false
theorem all_split {L : List Jvm.Cond} {P : Jvm.Cond → Bool} (h1 : L.all (fun c => isCode c || P c) = true) (h2 : ∀ c ∈ L.filter isCode, P c = true) : L.all P = true := by
  refine List.all_eq_true.mpr fun c hc => ?_
  have h := List.all_eq_true.mp h1 c hc
  rcases Bool.eq_false_or_eq_true (isCode c) with hi | hi
  · exact h2 c (List.mem_filter.mpr ⟨hc, hi⟩)
  · simpa [hi] using h
set_option maxRecDepth 65536 in
theorem w_c0 : (Jvm.Cond.code x code maxLocals ret).before args0 about1 = true := code_word (m := ⟨1, 1⟩) (meth := k1m1) (c := k1c1) (by decide +kernel) rfl rfl rfl (by decide +kernel)
set_option maxRecDepth 65536 in
theorem w_c1 : (Jvm.Cond.code ({ cls := "com/example/nackoff/nackoff/RetryPolicy", name := "of", desc := "(I[J)Lcom/example/nackoff/nackoff/RetryPolicy;" } : Jvm.MethodName) prog_3_method_3_code (8 : Nat) (Option.some (Jvm.ClassFile.FieldType.object "com/example/nackoff/nackoff/RetryPolicy"))).before args0 about1 = true := code_word (m := ⟨2, 1⟩) (meth := k2m1) (c := k2c1) (by decide +kernel) rfl rfl rfl (by decide +kernel)
set_option maxRecDepth 65536 in
theorem w_c2 : (Jvm.Cond.code ({ cls := "java/util/ArrayList", name := "<init>", desc := "(I)V" } : Jvm.MethodName) jdk_38_method_1_code (2 : Nat) (Option.none : Option Jvm.ClassFile.FieldType)).before args0 about1 = true := code_word (m := ⟨12, 0⟩) (meth := k12m0) (c := k12c0) (by decide +kernel) rfl rfl rfl (by decide +kernel)
set_option maxRecDepth 65536 in
theorem w_c3 : (Jvm.Cond.code ({ cls := "java/util/AbstractList", name := "<init>", desc := "()V" } : Jvm.MethodName) jdk_39_method_1_code (1 : Nat) (Option.none : Option Jvm.ClassFile.FieldType)).before args0 about1 = true := code_word (m := ⟨8, 0⟩) (meth := k8m0) (c := k8c0) (by decide +kernel) rfl rfl rfl (by decide +kernel)
set_option maxRecDepth 65536 in
theorem w_c4 : (Jvm.Cond.code ({ cls := "java/util/AbstractCollection", name := "<init>", desc := "()V" } : Jvm.MethodName) jdk_22_method_1_code (1 : Nat) (Option.none : Option Jvm.ClassFile.FieldType)).before args0 about1 = true := code_word (m := ⟨5, 0⟩) (meth := k5m0) (c := k5c0) (by decide +kernel) rfl rfl rfl (by decide +kernel)
set_option maxRecDepth 65536 in
theorem w_c5 : (Jvm.Cond.code ({ cls := "java/lang/Object", name := "<init>", desc := "()V" } : Jvm.MethodName) object_method_1_code (1 : Nat) (Option.none : Option Jvm.ClassFile.FieldType)).before args0 about1 = true := code_word (m := ⟨0, 0⟩) (meth := k0m0) (c := k0c0) (by decide +kernel) rfl rfl rfl (by decide +kernel)
set_option maxRecDepth 65536 in
theorem w_c6 : (Jvm.Cond.code ({ cls := "java/lang/Long", name := "valueOf", desc := "(J)Ljava/lang/Long;" } : Jvm.MethodName) jdk_35_method_24_code (3 : Nat) (Option.some (Jvm.ClassFile.FieldType.object "java/lang/Long"))).before args0 about1 = true := code_word (m := ⟨17, 0⟩) (meth := k17m0) (c := k17c0) (by decide +kernel) rfl rfl rfl (by decide +kernel)
set_option maxRecDepth 65536 in
theorem w_c7 : (Jvm.Cond.code ({ cls := "java/util/ArrayList", name := "add", desc := "(Ljava/lang/Object;)Z" } : Jvm.MethodName) jdk_38_method_25_code (2 : Nat) (Option.some Jvm.ClassFile.FieldType.boolean)).before args0 about1 = true := code_word (m := ⟨12, 6⟩) (meth := k12m6) (c := k12c6) (by decide +kernel) rfl rfl rfl (by decide +kernel)
set_option maxRecDepth 65536 in
theorem w_c8 : (Jvm.Cond.code ({ cls := "java/util/ArrayList", name := "add", desc := "(Ljava/lang/Object;[Ljava/lang/Object;I)V" } : Jvm.MethodName) jdk_38_method_24_code (4 : Nat) (Option.none : Option Jvm.ClassFile.FieldType)).before args0 about1 = true := code_word (m := ⟨12, 5⟩) (meth := k12m5) (c := k12c5) (by decide +kernel) rfl rfl rfl (by decide +kernel)
set_option maxRecDepth 65536 in
theorem w_c9 : (Jvm.Cond.code ({ cls := "java/util/Collections", name := "unmodifiableList", desc := "(Ljava/util/List;)Ljava/util/List;" } : Jvm.MethodName) jdk_79_method_35_code (1 : Nat) (Option.some (Jvm.ClassFile.FieldType.object "java/util/List"))).before args0 about1 = true := code_word (m := ⟨19, 1⟩) (meth := k19m1) (c := k19c1) (by decide +kernel) rfl rfl rfl (by decide +kernel)
set_option maxRecDepth 65536 in
theorem w_c10 : (Jvm.Cond.code ({ cls := "java/util/Collections$UnmodifiableRandomAccessList", name := "<init>", desc := "(Ljava/util/List;)V" } : Jvm.MethodName) jdk_121_method_1_code (2 : Nat) (Option.none : Option Jvm.ClassFile.FieldType)).before args0 about1 = true := code_word (m := ⟨22, 0⟩) (meth := k22m0) (c := k22c0) (by decide +kernel) rfl rfl rfl (by decide +kernel)
set_option maxRecDepth 65536 in
theorem w_c11 : (Jvm.Cond.code ({ cls := "java/util/Collections$UnmodifiableList", name := "<init>", desc := "(Ljava/util/List;)V" } : Jvm.MethodName) jdk_120_method_1_code (2 : Nat) (Option.none : Option Jvm.ClassFile.FieldType)).before args0 about1 = true := code_word (m := ⟨21, 0⟩) (meth := k21m0) (c := k21c0) (by decide +kernel) rfl rfl rfl (by decide +kernel)
set_option maxRecDepth 65536 in
theorem w_c12 : (Jvm.Cond.code ({ cls := "java/util/Collections$UnmodifiableCollection", name := "<init>", desc := "(Ljava/util/Collection;)V" } : Jvm.MethodName) jdk_119_method_1_code (2 : Nat) (Option.none : Option Jvm.ClassFile.FieldType)).before args0 about1 = true := code_word (m := ⟨20, 0⟩) (meth := k20m0) (c := k20c0) (by decide +kernel) rfl rfl rfl (by decide +kernel)
set_option maxRecDepth 65536 in
theorem w_c13 : (Jvm.Cond.code ({ cls := "java/util/List", name := "of", desc := "()Ljava/util/List;" } : Jvm.MethodName) jdk_40_method_36_code (0 : Nat) (Option.some (Jvm.ClassFile.FieldType.object "java/util/List"))).before args0 about1 = true := code_word (m := ⟨7, 3⟩) (meth := k7m3) (c := k7c3) (by decide +kernel) rfl rfl rfl (by decide +kernel)
set_option maxRecDepth 65536 in
theorem w_c14 : (Jvm.Cond.code ({ cls := "com/example/nackoff/nackoff/RetryPolicy", name := "<init>", desc := "(ILjava/util/List;Ljava/util/List;)V" } : Jvm.MethodName) prog_3_method_1_code (4 : Nat) (Option.none : Option Jvm.ClassFile.FieldType)).before args0 about1 = true := code_word (m := ⟨2, 0⟩) (meth := k2m0) (c := k2c0) (by decide +kernel) rfl rfl rfl (by decide +kernel)
set_option maxRecDepth 65536 in
theorem w_c15 : (Jvm.Cond.code ({ cls := "com/example/nackoff/nackoff/RetryPolicy", name := "retries", desc := "()I" } : Jvm.MethodName) prog_3_method_6_code (1 : Nat) (Option.some Jvm.ClassFile.FieldType.int)).before args0 about1 = true := code_word (m := ⟨2, 2⟩) (meth := k2m2) (c := k2c2) (by decide +kernel) rfl rfl rfl (by decide +kernel)
set_option maxRecDepth 65536 in
theorem w_c16 : (Jvm.Cond.code ({ cls := "com/example/nackoff/nackoff/RetryPolicy", name := "waitsMs", desc := "()Ljava/util/List;" } : Jvm.MethodName) prog_3_method_7_code (1 : Nat) (Option.some (Jvm.ClassFile.FieldType.object "java/util/List"))).before args0 about1 = true := code_word (m := ⟨2, 3⟩) (meth := k2m3) (c := k2c3) (by decide +kernel) rfl rfl rfl (by decide +kernel)
set_option maxRecDepth 65536 in
theorem w_c17 : (Jvm.Cond.code ({ cls := "java/util/Collections$UnmodifiableCollection", name := "size", desc := "()I" } : Jvm.MethodName) jdk_119_method_2_code (1 : Nat) (Option.some Jvm.ClassFile.FieldType.int)).before args0 about1 = true := code_word (m := ⟨20, 1⟩) (meth := k20m1) (c := k20c1) (by decide +kernel) rfl rfl rfl (by decide +kernel)
set_option maxRecDepth 65536 in
theorem w_c18 : (Jvm.Cond.code ({ cls := "java/util/ArrayList", name := "size", desc := "()I" } : Jvm.MethodName) jdk_38_method_8_code (1 : Nat) (Option.some Jvm.ClassFile.FieldType.int)).before args0 about1 = true := code_word (m := ⟨12, 2⟩) (meth := k12m2) (c := k12c2) (by decide +kernel) rfl rfl rfl (by decide +kernel)
set_option maxRecDepth 65536 in
theorem w_c19 : (Jvm.Cond.code ({ cls := "java/util/Collections$UnmodifiableList", name := "get", desc := "(I)Ljava/lang/Object;" } : Jvm.MethodName) jdk_120_method_4_code (2 : Nat) (Option.some (Jvm.ClassFile.FieldType.object "java/lang/Object"))).before args0 about1 = true := code_word (m := ⟨21, 1⟩) (meth := k21m1) (c := k21c1) (by decide +kernel) rfl rfl rfl (by decide +kernel)
set_option maxRecDepth 65536 in
theorem w_c20 : (Jvm.Cond.code ({ cls := "java/util/ArrayList", name := "get", desc := "(I)Ljava/lang/Object;" } : Jvm.MethodName) jdk_38_method_20_code (2 : Nat) (Option.some (Jvm.ClassFile.FieldType.object "java/lang/Object"))).before args0 about1 = true := code_word (m := ⟨12, 4⟩) (meth := k12m4) (c := k12c4) (by decide +kernel) rfl rfl rfl (by decide +kernel)
set_option maxRecDepth 65536 in
theorem w_c21 : (Jvm.Cond.code ({ cls := "java/util/Objects", name := "checkIndex", desc := "(II)I" } : Jvm.MethodName) jdk_31_method_17_code (2 : Nat) (Option.some Jvm.ClassFile.FieldType.int)).before args0 about1 = true := code_word (m := ⟨24, 1⟩) (meth := k24m1) (c := k24c1) (by decide +kernel) rfl rfl rfl (by decide +kernel)
set_option maxRecDepth 65536 in
theorem w_c22 : (Jvm.Cond.code ({ cls := "jdk/internal/util/Preconditions", name := "checkIndex", desc := "(IILjava/util/function/BiFunction;)I" } : Jvm.MethodName) jdk_41_method_11_code (3 : Nat) (Option.some Jvm.ClassFile.FieldType.int)).before args0 about1 = true := code_word (m := ⟨25, 1⟩) (meth := k25m1) (c := k25c1) (by decide +kernel) rfl rfl rfl (by decide +kernel)
set_option maxRecDepth 65536 in
theorem w_c23 : (Jvm.Cond.code ({ cls := "java/util/ArrayList", name := "elementData", desc := "(I)Ljava/lang/Object;" } : Jvm.MethodName) jdk_38_method_18_code (2 : Nat) (Option.some (Jvm.ClassFile.FieldType.object "java/lang/Object"))).before args0 about1 = true := code_word (m := ⟨12, 3⟩) (meth := k12m3) (c := k12c3) (by decide +kernel) rfl rfl rfl (by decide +kernel)
set_option maxRecDepth 65536 in
theorem w_c24 : (Jvm.Cond.code ({ cls := "java/lang/Long", name := "longValue", desc := "()J" } : Jvm.MethodName) jdk_35_method_31_code (1 : Nat) (Option.some Jvm.ClassFile.FieldType.long)).before args0 about1 = true := code_word (m := ⟨17, 2⟩) (meth := k17m2) (c := k17c2) (by decide +kernel) rfl rfl rfl (by decide +kernel)
set_option maxRecDepth 65536 in
theorem w_c25 : (Jvm.Cond.code ({ cls := "java/lang/Long", name := "<init>", desc := "(J)V" } : Jvm.MethodName) jdk_35_method_26_code (3 : Nat) (Option.none : Option Jvm.ClassFile.FieldType)).before args0 about1 = true := code_word (m := ⟨17, 1⟩) (meth := k17m1) (c := k17c1) (by decide +kernel) rfl rfl rfl (by decide +kernel)
set_option maxRecDepth 65536 in
theorem w_c26 : (Jvm.Cond.code ({ cls := "java/lang/Number", name := "<init>", desc := "()V" } : Jvm.MethodName) jdk_18_method_1_code (1 : Nat) (Option.none : Option Jvm.ClassFile.FieldType)).before args0 about1 = true := code_word (m := ⟨13, 0⟩) (meth := k13m0) (c := k13c0) (by decide +kernel) rfl rfl rfl (by decide +kernel)
set_option maxRecDepth 65536 in
theorem w_c27 : (Jvm.Cond.code ({ cls := "java/lang/Math", name := "min", desc := "(II)I" } : Jvm.MethodName) jdk_29_method_69_code (2 : Nat) (Option.some Jvm.ClassFile.FieldType.int)).before args0 about1 = true := code_word (m := ⟨26, 1⟩) (meth := k26m1) (c := k26c1) (by decide +kernel) rfl rfl rfl (by decide +kernel)
set_option maxRecDepth 65536 in
theorem w_c28 : (Jvm.Cond.code ({ cls := "com/example/nackoff/nackoff/RetryPolicy", name := "waitBeforeRetryMs", desc := "(I)J" } : Jvm.MethodName) prog_3_method_8_code (2 : Nat) (Option.some Jvm.ClassFile.FieldType.long)).before args0 about1 = true := code_word (m := ⟨2, 4⟩) (meth := k2m4) (c := k2c4) (by decide +kernel) rfl rfl rfl (by decide +kernel)
def codes1 : List Jvm.Cond := [Jvm.Cond.code x code maxLocals ret, Jvm.Cond.code ({ cls := "com/example/nackoff/nackoff/RetryPolicy", name := "of", desc := "(I[J)Lcom/example/nackoff/nackoff/RetryPolicy;" } : Jvm.MethodName) prog_3_method_3_code (8 : Nat) (Option.some (Jvm.ClassFile.FieldType.object "com/example/nackoff/nackoff/RetryPolicy")), Jvm.Cond.code ({ cls := "java/util/ArrayList", name := "<init>", desc := "(I)V" } : Jvm.MethodName) jdk_38_method_1_code (2 : Nat) (Option.none : Option Jvm.ClassFile.FieldType), Jvm.Cond.code ({ cls := "java/util/AbstractList", name := "<init>", desc := "()V" } : Jvm.MethodName) jdk_39_method_1_code (1 : Nat) (Option.none : Option Jvm.ClassFile.FieldType), Jvm.Cond.code ({ cls := "java/util/AbstractCollection", name := "<init>", desc := "()V" } : Jvm.MethodName) jdk_22_method_1_code (1 : Nat) (Option.none : Option Jvm.ClassFile.FieldType), Jvm.Cond.code ({ cls := "java/lang/Object", name := "<init>", desc := "()V" } : Jvm.MethodName) object_method_1_code (1 : Nat) (Option.none : Option Jvm.ClassFile.FieldType), Jvm.Cond.code ({ cls := "java/lang/Long", name := "valueOf", desc := "(J)Ljava/lang/Long;" } : Jvm.MethodName) jdk_35_method_24_code (3 : Nat) (Option.some (Jvm.ClassFile.FieldType.object "java/lang/Long")), Jvm.Cond.code ({ cls := "java/util/ArrayList", name := "add", desc := "(Ljava/lang/Object;)Z" } : Jvm.MethodName) jdk_38_method_25_code (2 : Nat) (Option.some Jvm.ClassFile.FieldType.boolean), Jvm.Cond.code ({ cls := "java/util/ArrayList", name := "add", desc := "(Ljava/lang/Object;[Ljava/lang/Object;I)V" } : Jvm.MethodName) jdk_38_method_24_code (4 : Nat) (Option.none : Option Jvm.ClassFile.FieldType), Jvm.Cond.code ({ cls := "java/util/Collections", name := "unmodifiableList", desc := "(Ljava/util/List;)Ljava/util/List;" } : Jvm.MethodName) jdk_79_method_35_code (1 : Nat) (Option.some (Jvm.ClassFile.FieldType.object "java/util/List")), Jvm.Cond.code ({ cls := "java/util/Collections$UnmodifiableRandomAccessList", name := "<init>", desc := "(Ljava/util/List;)V" } : Jvm.MethodName) jdk_121_method_1_code (2 : Nat) (Option.none : Option Jvm.ClassFile.FieldType), Jvm.Cond.code ({ cls := "java/util/Collections$UnmodifiableList", name := "<init>", desc := "(Ljava/util/List;)V" } : Jvm.MethodName) jdk_120_method_1_code (2 : Nat) (Option.none : Option Jvm.ClassFile.FieldType), Jvm.Cond.code ({ cls := "java/util/Collections$UnmodifiableCollection", name := "<init>", desc := "(Ljava/util/Collection;)V" } : Jvm.MethodName) jdk_119_method_1_code (2 : Nat) (Option.none : Option Jvm.ClassFile.FieldType), Jvm.Cond.code ({ cls := "java/util/List", name := "of", desc := "()Ljava/util/List;" } : Jvm.MethodName) jdk_40_method_36_code (0 : Nat) (Option.some (Jvm.ClassFile.FieldType.object "java/util/List")), Jvm.Cond.code ({ cls := "com/example/nackoff/nackoff/RetryPolicy", name := "<init>", desc := "(ILjava/util/List;Ljava/util/List;)V" } : Jvm.MethodName) prog_3_method_1_code (4 : Nat) (Option.none : Option Jvm.ClassFile.FieldType), Jvm.Cond.code ({ cls := "com/example/nackoff/nackoff/RetryPolicy", name := "retries", desc := "()I" } : Jvm.MethodName) prog_3_method_6_code (1 : Nat) (Option.some Jvm.ClassFile.FieldType.int), Jvm.Cond.code ({ cls := "com/example/nackoff/nackoff/RetryPolicy", name := "waitsMs", desc := "()Ljava/util/List;" } : Jvm.MethodName) prog_3_method_7_code (1 : Nat) (Option.some (Jvm.ClassFile.FieldType.object "java/util/List")), Jvm.Cond.code ({ cls := "java/util/Collections$UnmodifiableCollection", name := "size", desc := "()I" } : Jvm.MethodName) jdk_119_method_2_code (1 : Nat) (Option.some Jvm.ClassFile.FieldType.int), Jvm.Cond.code ({ cls := "java/util/ArrayList", name := "size", desc := "()I" } : Jvm.MethodName) jdk_38_method_8_code (1 : Nat) (Option.some Jvm.ClassFile.FieldType.int), Jvm.Cond.code ({ cls := "java/util/Collections$UnmodifiableList", name := "get", desc := "(I)Ljava/lang/Object;" } : Jvm.MethodName) jdk_120_method_4_code (2 : Nat) (Option.some (Jvm.ClassFile.FieldType.object "java/lang/Object")), Jvm.Cond.code ({ cls := "java/util/ArrayList", name := "get", desc := "(I)Ljava/lang/Object;" } : Jvm.MethodName) jdk_38_method_20_code (2 : Nat) (Option.some (Jvm.ClassFile.FieldType.object "java/lang/Object")), Jvm.Cond.code ({ cls := "java/util/Objects", name := "checkIndex", desc := "(II)I" } : Jvm.MethodName) jdk_31_method_17_code (2 : Nat) (Option.some Jvm.ClassFile.FieldType.int), Jvm.Cond.code ({ cls := "jdk/internal/util/Preconditions", name := "checkIndex", desc := "(IILjava/util/function/BiFunction;)I" } : Jvm.MethodName) jdk_41_method_11_code (3 : Nat) (Option.some Jvm.ClassFile.FieldType.int), Jvm.Cond.code ({ cls := "java/util/ArrayList", name := "elementData", desc := "(I)Ljava/lang/Object;" } : Jvm.MethodName) jdk_38_method_18_code (2 : Nat) (Option.some (Jvm.ClassFile.FieldType.object "java/lang/Object")), Jvm.Cond.code ({ cls := "java/lang/Long", name := "longValue", desc := "()J" } : Jvm.MethodName) jdk_35_method_31_code (1 : Nat) (Option.some Jvm.ClassFile.FieldType.long), Jvm.Cond.code ({ cls := "java/lang/Long", name := "<init>", desc := "(J)V" } : Jvm.MethodName) jdk_35_method_26_code (3 : Nat) (Option.none : Option Jvm.ClassFile.FieldType), Jvm.Cond.code ({ cls := "java/lang/Number", name := "<init>", desc := "()V" } : Jvm.MethodName) jdk_18_method_1_code (1 : Nat) (Option.none : Option Jvm.ClassFile.FieldType), Jvm.Cond.code ({ cls := "java/lang/Math", name := "min", desc := "(II)I" } : Jvm.MethodName) jdk_29_method_69_code (2 : Nat) (Option.some Jvm.ClassFile.FieldType.int), Jvm.Cond.code ({ cls := "com/example/nackoff/nackoff/RetryPolicy", name := "waitBeforeRetryMs", desc := "(I)J" } : Jvm.MethodName) prog_3_method_8_code (2 : Nat) (Option.some Jvm.ClassFile.FieldType.long)]
set_option maxRecDepth 65536 in
theorem codes_eq : words1.filter isCode = codes1 := rfl
theorem w_codes : ∀ c ∈ words1.filter isCode, c.before args0 about1 = true := by
  rw [codes_eq]
  intro c hc
  simp only [codes1, List.mem_cons, List.not_mem_nil, or_false] at hc
  rcases hc with rfl | rfl | rfl | rfl | rfl | rfl | rfl | rfl | rfl | rfl | rfl | rfl | rfl | rfl | rfl | rfl | rfl | rfl | rfl | rfl | rfl | rfl | rfl | rfl | rfl | rfl | rfl | rfl | rfl
  · exact w_c0
  · exact w_c1
  · exact w_c2
  · exact w_c3
  · exact w_c4
  · exact w_c5
  · exact w_c6
  · exact w_c7
  · exact w_c8
  · exact w_c9
  · exact w_c10
  · exact w_c11
  · exact w_c12
  · exact w_c13
  · exact w_c14
  · exact w_c15
  · exact w_c16
  · exact w_c17
  · exact w_c18
  · exact w_c19
  · exact w_c20
  · exact w_c21
  · exact w_c22
  · exact w_c23
  · exact w_c24
  · exact w_c25
  · exact w_c26
  · exact w_c27
  · exact w_c28
set_option maxRecDepth 65536 in
theorem w_t1 : (words1.take 24).all (fun c => isCode c || c.before args0 about1) = true := by decide +kernel
set_option maxRecDepth 65536 in
theorem w_t2 : ((words1.drop 24).take 24).all (fun c => isCode c || c.before args0 about1) = true := by decide +kernel
set_option maxRecDepth 65536 in
theorem w_t3 : (((words1.drop 24).drop 24).take 24).all (fun c => isCode c || c.before args0 about1) = true := by decide +kernel
set_option maxRecDepth 65536 in
theorem w_t4 : ((((words1.drop 24).drop 24).drop 24).take 24).all (fun c => isCode c || c.before args0 about1) = true := by decide +kernel
set_option maxRecDepth 65536 in
theorem w_t5 : (((((words1.drop 24).drop 24).drop 24).drop 24).take 24).all (fun c => isCode c || c.before args0 about1) = true := by decide +kernel
set_option maxRecDepth 65536 in
theorem w_t6 : ((((((words1.drop 24).drop 24).drop 24).drop 24).drop 24).take 24).all (fun c => isCode c || c.before args0 about1) = true := by decide +kernel
set_option maxRecDepth 65536 in
theorem w_t7 : (((((((words1.drop 24).drop 24).drop 24).drop 24).drop 24).drop 24).take 24).all (fun c => isCode c || c.before args0 about1) = true := by decide +kernel
set_option maxRecDepth 65536 in
theorem w_t8 : ((((((((words1.drop 24).drop 24).drop 24).drop 24).drop 24).drop 24).drop 24).take 24).all (fun c => isCode c || c.before args0 about1) = true := by decide +kernel
set_option maxRecDepth 65536 in
theorem w_t9 : ((((((((words1.drop 24).drop 24).drop 24).drop 24).drop 24).drop 24).drop 24).drop 24).all (fun c => isCode c || c.before args0 about1) = true := by decide +kernel
theorem w_tables : (allAtoms (Jvm.Cond.code x code maxLocals ret :: tables_1)).before args0 about1 = true := by
  rw [allAtoms_all]
  show words1.all (fun c => c.before args0 about1) = true
  refine all_split ?_ w_codes
  rw [← List.take_append_drop 24 words1, List.all_append, w_t1, ← List.take_append_drop 24 (words1.drop 24), List.all_append, w_t2, ← List.take_append_drop 24 ((words1.drop 24).drop 24), List.all_append, w_t3, ← List.take_append_drop 24 (((words1.drop 24).drop 24).drop 24), List.all_append, w_t4, ← List.take_append_drop 24 ((((words1.drop 24).drop 24).drop 24).drop 24), List.all_append, w_t5, ← List.take_append_drop 24 (((((words1.drop 24).drop 24).drop 24).drop 24).drop 24), List.all_append, w_t6, ← List.take_append_drop 24 ((((((words1.drop 24).drop 24).drop 24).drop 24).drop 24).drop 24), List.all_append, w_t7, ← List.take_append_drop 24 (((((((words1.drop 24).drop 24).drop 24).drop 24).drop 24).drop 24).drop 24), List.all_append, w_t8, w_t9]
  rfl
set_option maxRecDepth 65536 in
theorem w_rest : rest_1_c.before args0 about1 = true := by decide +kernel
set_option maxRecDepth 65536 in
theorem w_case : (Jvm.Cond.and given_1 narrow_1).before args0 about1 = true := by decide +kernel
theorem w_applies : (headSpec (Jvm.Cond.code x code maxLocals ret :: tables_1) room_1).applies x e0.platform about1 = true :=
  (Spec.applies_iff w_frames).mpr ⟨w_running, w_runnable, w_alone, w_named, w_hears, w_ripe, w_room, w_tables⟩
set_option maxRecDepth 65536 in
theorem atStart : AtStart classFile x code maxLocals ret World_1 tables_1 room_1 Calls_1 rest_1 Pre_1 launch0 p0 e0 about1 theMethod args0 below0 :=
  ⟨lists_1, trivial, launch0.admits_env _ _ _, launch0.least_env, fairChoices_fair.cas, fairChoices_fair.clock, w_frames, w_args, w_heap, w_applies, ⟨⟨12, k12, 261, by decide +kernel, rfl, rfl, _, rfl, rfl⟩, ⟨⟨21, k21, 262, by decide +kernel, rfl, rfl, _, rfl, rfl⟩, ⟨⟨22, k22, 263, by decide +kernel, rfl, rfl, _, rfl, rfl⟩, trivial⟩⟩⟩, w_rest, w_case⟩
end start1
theorem witness_1 : WitnessClaimed_1 := ⟨start1.p0, start1.e0, start1.about1, start1.theMethod, start1.args0, start1.below0, start1.atStart⟩
end Jvm.Pilot.@@N@@
