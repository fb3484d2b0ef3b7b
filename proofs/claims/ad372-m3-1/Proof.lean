import JvmDerived
import JvmDerived.Pilot.@@N@@Statement
import JvmDerived.Pilot.@@N@@Code
set_option linter.unusedVariables false
set_option linter.unusedSimpArgs false
@@BLOCK:NumsL.lean.txt@@
namespace Jvm.RoadKit
open Sem ClassFile Op Lib Jvm.Stand Jvm.Free Jvm.LawKit
section New
variable {p : Program} {l : Launch} {e : Env} {R : Room} {s : State} {m : MethodId} {args : Array Value} {below : List Frame} {meth : Method} {c : Code} {T : State} {locs : List Loc} {cells slots : Nat}
theorem retI (X : Stand p l e R s m args below meth c T locs cells slots) (hx : p.tables.exec = Jvm.exec) {pc : Nat} {Ls : Array Slot} {z : Int32} {rest : List Value} (hret : meth.sig.returnType = some .int) (hd : decode c.code pc = .ok (.ireturn, 1)) {fs : List Frame}
    (hl : ∀ (f : JFrame) (acts : List Action), f.method = m → f.locked = none → f.entered = [] → (doReturn e (T.setTop f) acts (some (.int z))).1 = T.setFrames fs) : Steps p.tables e below (T.setTop (mkF m pc Ls (.int z :: rest))) (T.setFrames fs) := by
  have hm' : T.vm.method? m = some meth := X.method'
  have hn : narrow .int (.int z) = .int z := rfl
  show Steps p.tables e below (T.setTop { method := m, pc := pc, locals := Ls, stack := _ :: rest, locked := none }) _
  jvm_step X.here [X.here.top, hx, hd, hm', hret, hn]
  first | (intro acts; rw [hl _ acts rfl rfl rfl]) | rw [hl _ _ rfl rfl rfl]
  exact Steps.refl _
end New
end Jvm.RoadKit
namespace Jvm.Pilot.@@N@@
open Jvm Jvm.ClassFile Sem Op Lib Jvm.Free Jvm.Stand Jvm.LawKit Jvm.RoadKit Bundle Jvm.Pilot.@@N@@.Jvm.D
theorem wk {a0 : Array Value} {Z : State} (hw : ∀ d ∈ tables_1, d.before a0 Z = true) {d : Jvm.Cond} (i : Nat) (h : tables_1[i]? = some d) : d.before a0 Z = true := hw _ (List.mem_of_getElem? h)
abbrev Go (tb : Tables) (e : Env) (below : List Frame) (T : State) (g : JFrame) (T0 : State) (g0 : JFrame) : Prop := ∀ t, Steps tb e below (T.setTop g) t → Steps tb e below (T0.setTop g0) t
theorem own_fldI {args : Array Value} {s : State} {t : Term} {C n d : String} {a : Addr} {k : Int32} (h : (Jvm.Cond.eq (Term.field t C n d) (Term.int k)).value args s none s [] = some true) (ht : t.eval args s none [] s = some (.ref a)) : s.fieldOf? a C n d = some (.int k) := by
  obtain ⟨x, y, e1, e2, k1, k2⟩ := cmp_v (Or.inl h)
  have e3 : (Term.int k).eval args s none [] s = some (.int k) := rfl
  obtain rfl : Value.int k = y := Option.some.inj (e3.symm.trans e2)
  obtain ⟨z, rfl⟩ := k2
  rw [fld_at ht] at e1
  have q : (Jvm.Cond.eq (Term.field t C n d) (Term.int k)).value args s none s [] = some (decide (z = k)) := by simp [Jvm.Cond.value, fld_at ht, e1, e3]
  rw [gotT q h] at e1
  exact e1
theorem own_fldR {args : Array Value} {s : State} {t u : Term} {C n d : String} {a b : Addr} (h : (Jvm.Cond.eq (Term.field t C n d) u).value args s none s [] = some true) (ht : t.eval args s none [] s = some (.ref a)) (hu : u.eval args s none [] s = some (.ref b)) : s.fieldOf? a C n d = some (.ref b) := by
  obtain ⟨x, y, e1, e2, k1, k2⟩ := cmp_v (Or.inl h)
  obtain rfl : Value.ref b = y := Option.some.inj (hu.symm.trans e2)
  have q := eq_R e1 hu k2.2 rfl
  rw [gotT q h, fld_at ht] at e1
  exact e1
theorem own_fldN {args : Array Value} {s : State} {t : Term} {C n d : String} {a : Addr} (h : (Jvm.Cond.eq (Term.field t C n d) Term.null).value args s none s [] = some true) (ht : t.eval args s none [] s = some (.ref a)) : s.fieldOf? a C n d = some .null := by
  have e := null_v h
  rw [fld_at ht] at e
  exact e
theorem own_or {args : Array Value} {first s : State} {o : Option Outcome} {idx : List Nat} {c d : Jvm.Cond} (h : (Jvm.Cond.or c d).value args first o s idx = some true) (hc : c.value args first o s idx = some false) : d.value args first o s idx = some true := by
  simpa [Jvm.Cond.value, hc] using h
theorem own_elemI {args : Array Value} {s : State} {t ix : Term} {idx : List Nat} {a : Addr} {cl : Cell} {j k : Int32} (h : (Jvm.Cond.eq (Term.elem t ix) (Term.int k)).value args s none s idx = some true) (ht : t.eval args s none idx s = some (.ref a)) (hj : ix.eval args s none idx s = some (.int j)) (hc : s.heap[a]? = some cl) : cl.slots[j.toNatClampNeg]? = some (.int k) := by
  obtain ⟨x, y, e1, e2, k1, k2⟩ := cmp_v (Or.inl h)
  have e3 : (Term.int k).eval args s none idx s = some (.int k) := rfl
  obtain rfl : Value.int k = y := Option.some.inj (e3.symm.trans e2)
  obtain ⟨z, rfl⟩ := k2
  have q : (Jvm.Cond.eq (Term.elem t ix) (Term.int k)).value args s none s idx = some (decide (z = k)) := by simp [Jvm.Cond.value, e1, e3]
  rw [gotT q h] at e1
  exact (elem_in e1 ht hj hc).2
theorem own_elemR {args : Array Value} {s : State} {t ix u : Term} {idx : List Nat} {a b : Addr} {cl : Cell} {j : Int32} (h : (Jvm.Cond.eq (Term.elem t ix) u).value args s none s idx = some true) (ht : t.eval args s none idx s = some (.ref a)) (hj : ix.eval args s none idx s = some (.int j)) (hu : u.eval args s none idx s = some (.ref b)) (hc : s.heap[a]? = some cl) : cl.slots[j.toNatClampNeg]? = some (.ref b) := by
  obtain ⟨x, y, e1, e2, k1, k2⟩ := cmp_v (Or.inl h)
  obtain rfl : Value.ref b = y := Option.some.inj (hu.symm.trans e2)
  have q := eq_R e1 hu k2.2 rfl
  rw [gotT q h] at e1
  exact (elem_in e1 ht hj hc).2
theorem own_len {args : Array Value} {s : State} {t : Term} {a : Addr} {cl : Cell} {k : Int32} (h : (Jvm.Cond.eq (Term.length t) (Term.int k)).value args s none s [] = some true) (ht : t.eval args s none [] s = some (.ref a)) (ha : s.arrayAt? a = some cl) : cl.slots.size.toInt32 = k ∧ cl.slots.size < 2 ^ 31 := by
  obtain ⟨x, y, e1, e2, k1, k2⟩ := cmp_v (Or.inl h)
  have e3 : (Term.int k).eval args s none [] s = some (.int k) := rfl
  obtain rfl : Value.int k = y := Option.some.inj (e3.symm.trans e2)
  by_cases hl : cl.slots.size < 2 ^ 31
  · have e4 := len_f (args := args) (first := s) (o := none) (idx := []) ht ha hl
    obtain rfl : x = .int cl.slots.size.toInt32 := Option.some.inj (e1.symm.trans e4)
    have q : (Jvm.Cond.eq (Term.length t) (Term.int k)).value args s none s [] = some (decide (cl.slots.size.toInt32 = k)) := by simp [Jvm.Cond.value, e1, e3]
    exact ⟨gotT q h, hl⟩
  · simp [Term.eval, ht, ha, hl] at e1
theorem own_size {n : Nat} {k : Int32} (h : n.toInt32 = k) (hn : n < 2 ^ 31) : (n : Int) = k.toInt := by
  rw [← h, len_toInt hn]
def QP (r : Value) (h0 : Heap) (n0 : Nat) (v : Option Value) (h : Heap) (L : List Loc) : Prop := v = some r ∧ Fr n0 L ∧ h = h0
def QL (r : Value) (h0 : Heap) (n0 : Nat) (v : Option Value) (h : Heap) (L : List Loc) : Prop := v = some r ∧ Fr n0 L
theorem own_diff (a b : Int32) : (a.toInt64 - b.toInt64).toInt = a.toInt - b.toInt := by
  have a1 := a.toInt_lt; have a2 := a.le_toInt; have b1 := b.toInt_lt; have b2 := b.le_toInt
  rw [Jvm.Kit.i64_sub (by rw [Jvm.Kit.i64_of_i32, Jvm.Kit.i64_of_i32]; omega) (by rw [Jvm.Kit.i64_of_i32, Jvm.Kit.i64_of_i32]; omega), Jvm.Kit.i64_of_i32, Jvm.Kit.i64_of_i32]
theorem own_lt (a b : Int32) : lcmpW (a.toInt64 - b.toInt64) (0 : Int64) < (0 : Int32) ↔ a < b := by
  have z : (0 : Int64).toInt = 0 := by decide
  rw [lw_lt, Int64.lt_iff_toInt_lt, own_diff, Int32.lt_iff_toInt_lt, z]
  omega
theorem own_eq (a b : Int32) : lcmpW (a.toInt64 - b.toInt64) (0 : Int64) = (0 : Int32) ↔ a = b := by
  have z : (0 : Int64).toInt = 0 := by decide
  rw [lw_eq, ← Int64.toInt_inj, own_diff, ← Int32.toInt_inj, z]
  omega
theorem pn_2 : plainName "java/lang/Enum" = true := by first | (simp [plainName, overriddenIn]; done) | decide +kernel
theorem ef_2 (m : MethodId) (x0 : Addr) : entryFrame m #[(.ref x0)] 1 = mkF m 0 #[.val (.ref x0)] [] := by first | (simp [entryFrame, mkF, argsToLocals, Value.category]; done) | rfl
theorem d2_0 : decode jdk_37_method_2_code 0 = .ok (.aload_n 0, 1) := by decide +kernel
theorem d2_1 : decode jdk_37_method_2_code 1 = .ok (.getfield 7, 3) := by decide +kernel
theorem d2_4 : decode jdk_37_method_2_code 4 = .ok (.ireturn, 1) := by decide +kernel
set_option maxRecDepth 65536 in
set_option maxHeartbeats 40000000 in
theorem rm2 (l : Launch) (Z : State) (a0 : Array Value) (hw : ∀ d ∈ tables_1, d.before a0 Z = true) (ws : List Jvm.Cond) (a1 : Addr) (k : Int32) (h0 : Heap) (n0 : Nat) (Z0 : n0 ≤ h0.size) (F_a1 : Fld Z h0 a1 "java/lang/Enum" "ordinal" "I" (.int k)) :
    MetFree l (⟨"java/lang/Enum", "ordinal", "()I"⟩ : MethodName) (head1 (Jvm.Cond.code (⟨"java/lang/Enum", "ordinal", "()I"⟩ : MethodName) jdk_37_method_2_code 1 (some .int) :: ws) ({ frames := 0, cells := 0, slots := 0, locals := 0 } : Room)) (fun a U => a = #[(.ref a1)] ∧ Z.Warmed39 U.vm ∧ U.heap = h0) (fun _ _ _ _ _ => True) (fun _ U o U' => ∃ v L, o = .returned v ∧ QP (.int k) h0 n0 v U'.heap L ∧ FrameEnd U o U' L ({ frames := 0, cells := 0, slots := 0, locals := 0 } : Room).cells ({ frames := 0, cells := 0, slots := 0, locals := 0 } : Room).slots) := by
  refine MetFree.of_bodySF (plainFor_of_name pn_2) hisR ?_
  intro p e s m args below meth c s₁ Bd hml0 hP hK
  obtain ⟨rfl, hZ, hh⟩ := hP
  have hx := Bd.exec
  have hby := Bd.bytes
  have hml : c.maxLocals = 1 := hml0
  have hown : s.vm.findClass "java/lang/Enum" = some m.cls := findClass_of_methodNamed Bd.named
  have hnm := (name_of_methodNamed Bd.named Bd.method).1
  have X0 : Stand p l e ({ frames := 0, cells := 0, slots := 0, locals := 0 } : Room) s m #[(.ref a1)] below meth c s₁ [] 0 0 := Stand.of_body Bd
  have e0 : s₁.heap = h0 := by rw [← hh, Bd.state]; rfl
  have N0 := Fr.nil n0
  have go0 : Go p.tables e below s₁ (mkF m 0 #[.val (.ref a1)] []) s₁ (entryFrame m #[(.ref a1)] 1) := fun t k => castTop (ef_2 m a1) k
  have go1 : Go p.tables e below s₁ (mkF m 1 #[.val (.ref a1)] [(.ref a1)]) s₁ (entryFrame m #[(.ref a1)] 1) := by
    intro t k
    refine go0 t ?_
    show Steps _ _ _ (s₁.setTop (mkF m 0 #[.val (.ref a1)] [])) _
    refine XS.aloadN X0.here hx rfl (hb hby d2_0) rfl rfl ?_
    exact k
  obtain ⟨T2, X2, e2, st2⟩ := getF X0 hx hZ hown (host := "") (Or.inl (wk hw 17 rfl)) Via.refl e0 F_a1 (g := (mkF m 1 #[.val (.ref a1)] [(.ref a1)])) rfl rfl (hb hby d2_1)
  have go3 : Go p.tables e below T2 (mkF m 4 #[.val (.ref a1)] [(.int k)]) s₁ (entryFrame m #[(.ref a1)] 1) := by
    intro t k
    refine go1 t ?_
    show Steps _ _ _ (s₁.setTop (mkF m 1 #[.val (.ref a1)] [(.ref a1)])) _
    refine st2 _ ?_
    exact k
  obtain ⟨fs, hr, hrun, hended, hW, hsame⟩ := X2.leave (v := some (.int k)) (fun h => by rw [Bd.returns] at h; cases h)
  refine ⟨_, _, go3 _ ?_, hrun, hended, _, _, rfl, ?_, ⟨_, rfl⟩, hW, hsame.mono (by decide) (by decide)⟩
  · exact retI X2 hx Bd.returns (hb hby d2_4) hr
  · show QP (.int k) h0 n0 _ T2.heap _
    rw [e2]
    exact ⟨rfl, N0, rfl⟩
theorem pn_1 : plainName "com/example/karc/karc/SecurityLevels" = true := by first | (simp [plainName, overriddenIn]; done) | decide +kernel
theorem ef_1 (m : MethodId) (x0 : Addr) (x1 : Int32) (x2 : Int32) : entryFrame m #[(.ref x0), (.int x1), (.int x2)] 3 = mkF m 0 #[.val (.ref x0), .val (.int x1), .val (.int x2)] [] := by first | (simp [entryFrame, mkF, argsToLocals, Value.category]; done) | rfl
theorem d1_0 : decode prog_19_method_8_code 0 = .ok (.getstatic 96, 3) := by decide +kernel
theorem d1_3 : decode prog_19_method_8_code 3 = .ok (.aload_n 0, 1) := by decide +kernel
theorem d1_4 : decode prog_19_method_8_code 4 = .ok (.invokevirtual 102, 3) := by decide +kernel
theorem pd_0 : parseMethodDescriptor "()I" = some ⟨[], some .int⟩ := by decide +kernel
theorem d1_7 : decode prog_19_method_8_code 7 = .ok (.iaload, 1) := by decide +kernel
theorem d1_8 : decode prog_19_method_8_code 8 = .ok (.lookupswitch 28 #[(1, 38), (2, 51)], 28) := by decide +kernel
theorem d1_46 : decode prog_19_method_8_code 46 = .ok (.iload_n 1, 1) := by decide +kernel
theorem d1_47 : decode prog_19_method_8_code 47 = .ok (.iload_n 2, 1) := by decide +kernel
theorem d1_48 : decode prog_19_method_8_code 48 = .ok (.if_icmp .lt 7, 3) := by decide +kernel
theorem d1_55 : decode prog_19_method_8_code 55 = .ok (.iconst 0, 1) := by decide +kernel
theorem d1_56 : decode prog_19_method_8_code 56 = .ok (.goto 13, 3) := by decide +kernel
theorem d1_69 : decode prog_19_method_8_code 69 = .ok (.ireturn, 1) := by decide +kernel
theorem d1_51 : decode prog_19_method_8_code 51 = .ok (.iconst 1, 1) := by decide +kernel
theorem d1_52 : decode prog_19_method_8_code 52 = .ok (.goto 17, 3) := by decide +kernel
set_option maxRecDepth 65536 in
set_option maxHeartbeats 40000000 in
theorem rm1_r (l : Launch) (Z : State) (a0 : Array Value) (hw : ∀ d ∈ tables_1, d.before a0 Z = true) (ws : List Jvm.Cond) (a1 : Addr) (p2 p3 : Int32) (wM : Addr) (cl : Cell) (h0 : Heap) (n0 : Nat) (Z0 : n0 ≤ h0.size) (S_M : Sta Z h0 "com/example/karc/karc/SecurityLevels$1" "$SwitchMap$com$example$karc$karc$Flow" "[I" (.ref wM)) (Ar : Arr Z h0 wM cl .int) (hin : ¬ ((0 : Int32) < 0 ∨ cl.slots.size ≤ (0 : Int32).toNatClampNeg)) (hat : cl.slots[(0 : Int32).toNatClampNeg]? = some (.int (1 : Int32))) (E_a1 : Exa Z h0 a1 "com/example/karc/karc/Flow") (F_a1 : Fld Z h0 a1 "java/lang/Enum" "ordinal" "I" (.int (0 : Int32))) :
    MetFree l (⟨"com/example/karc/karc/SecurityLevels", "allows", "(Lcom/example/karc/karc/Flow;II)Z"⟩ : MethodName) (head1 (Jvm.Cond.code (⟨"com/example/karc/karc/SecurityLevels", "allows", "(Lcom/example/karc/karc/Flow;II)Z"⟩ : MethodName) prog_19_method_8_code 3 (some .boolean) :: ws) ({ frames := 1, cells := 0, slots := 0, locals := 13 } : Room)) (fun a U => a = #[(.ref a1), (.int p2), (.int p3)] ∧ Z.Warmed39 U.vm ∧ U.heap = h0) (fun _ _ _ _ _ => True) (fun _ U o U' => ∃ v L, o = .returned v ∧ QP (.int (if p2 < p3 then (0 : Int32) else (1 : Int32))) h0 n0 v U'.heap L ∧ FrameEnd U o U' L ({ frames := 1, cells := 0, slots := 0, locals := 13 } : Room).cells ({ frames := 1, cells := 0, slots := 0, locals := 13 } : Room).slots) := by
  refine MetFree.of_bodySF (plainFor_of_name pn_1) hisR ?_
  intro p e s m args below meth c s₁ Bd hml0 hP hK
  obtain ⟨rfl, hZ, hh⟩ := hP
  have hx := Bd.exec
  have hby := Bd.bytes
  have hml : c.maxLocals = 3 := hml0
  have hown : s.vm.findClass "com/example/karc/karc/SecurityLevels" = some m.cls := findClass_of_methodNamed Bd.named
  have hnm := (name_of_methodNamed Bd.named Bd.method).1
  have X0 : Stand p l e ({ frames := 1, cells := 0, slots := 0, locals := 13 } : Room) s m #[(.ref a1), (.int p2), (.int p3)] below meth c s₁ [] 0 0 := Stand.of_body Bd
  have e0 : s₁.heap = h0 := by rw [← hh, Bd.state]; rfl
  have N0 := Fr.nil n0
  have go0 : Go p.tables e below s₁ (mkF m 0 #[.val (.ref a1), .val (.int p2), .val (.int p3)] []) s₁ (entryFrame m #[(.ref a1), (.int p2), (.int p3)] 3) := fun t k => castTop (ef_1 m a1 p2 p3) k
  obtain ⟨T1, X1, e1, st1⟩ := getS2 X0 hx hZ hown (host := "") (Or.inl (wk hw 7 rfl)) Via.refl e0 S_M (g := (mkF m 0 #[.val (.ref a1), .val (.int p2), .val (.int p3)] [])) rfl (hb hby d1_0)
  have go3 : Go p.tables e below T1 (mkF m 4 #[.val (.ref a1), .val (.int p2), .val (.int p3)] [(.ref a1), (.ref wM)]) s₁ (entryFrame m #[(.ref a1), (.int p2), (.int p3)] 3) := by
    intro t k
    refine go0 t ?_
    show Steps _ _ _ (s₁.setTop (mkF m 0 #[.val (.ref a1), .val (.int p2), .val (.int p3)] [])) _
    refine st1 _ ?_
    show Steps _ _ _ (T1.setTop (mkF m 3 #[.val (.ref a1), .val (.int p2), .val (.int p3)] [(.ref wM)])) _
    refine XS.aloadN X1.here hx rfl (hb hby d1_3) rfl rfl ?_
    exact k
  obtain ⟨cq2, kq2, q2a, q2b, q2c⟩ := isOf hZ e1 E_a1
  obtain ⟨_, _, ⟨T2, L2, k2, n2⟩, -, X2, ⟨Lc2, hQ2, l2, y2, z2⟩, st2⟩ := X1.virtualBackUp hx (C := "com/example/karc/karc/Flow") (owner := "java/lang/Enum") (x := (⟨"com/example/karc/karc/Flow", "ordinal", "()I"⟩ : MethodName)) (y := (⟨"java/lang/Enum", "ordinal", "()I"⟩ : MethodName)) hown (mvT hZ (wk hw 10 rfl)) (mvT hZ (wk hw 11 rfl)) (mvT hZ (wk hw 12 rfl)) (by decide) (mvT hZ (wk hw 14 rfl)) (mvT hZ (wk hw 13 rfl)) (backOf (W := 1) (rm2 l Z a0 hw [] a1 (0 : Int32) h0 n0 Z0 F_a1) hZ (wk hw 16 rfl) (wk hw 15 rfl) (by decide) (by decide)) q2a q2c (g := (mkF m 4 #[.val (.ref a1), .val (.int p2), .val (.int p3)] [(.ref a1), (.ref wM)])) rfl (by rw [hml]; rfl) (Steps.refl _) (argsL := []) (rest := [(.ref wM)]) (lenOf pd_0 rfl) rfl (by show 2 * 0 + _ ≤ _; exact Nat.le_of_eq rfl) (hb hby d1_4) (fun _ _ => ⟨rfl, e1, (by decide : 0 + 0 ≤ _), (by decide : 0 + 0 ≤ _)⟩)
  dsimp only [Pt.U, Pt.locs, Pt.cells, Pt.slots] at X2 l2 y2 z2 st2 hQ2
  subst l2 y2 z2
  obtain ⟨rfl, N2q, e2⟩ := hQ2
  have N2 := Fr.app N0 N2q
  have go4 : Go p.tables e below T2 (mkF m 48 #[.val (.ref a1), .val (.int p2), .val (.int p3)] [(.int p3), (.int p2)]) s₁ (entryFrame m #[(.ref a1), (.int p2), (.int p3)] 3) := by
    intro t k
    refine go3 t ?_
    show Steps _ _ _ (T1.setTop (mkF m 4 #[.val (.ref a1), .val (.int p2), .val (.int p3)] [(.ref a1), (.ref wM)])) _
    refine st2.trans ?_
    show Steps _ _ _ (T2.setTop (mkF m 7 #[.val (.ref a1), .val (.int p2), .val (.int p3)] [(.int (0 : Int32)), (.ref wM)])) _
    refine X2.iaload hx (j := (0 : Int32)) (v := (.int (1 : Int32))) (by rw [e2]; exact Ar.1) (State.isArrayOf_alike hZ.alike Ar.2.1) Ar.2.2 hin hat (g := (mkF m 7 #[.val (.ref a1), .val (.int p2), .val (.int p3)] [(.int (0 : Int32)), (.ref wM)])) rfl rfl (hb hby d1_7) _ ?_
    show Steps _ _ _ (T2.setTop (mkF m 8 #[.val (.ref a1), .val (.int p2), .val (.int p3)] [(.int (1 : Int32))])) _
    refine X2.lookupswitchHit hx (g := (mkF m 8 #[.val (.ref a1), .val (.int p2), .val (.int p3)] [(.int (1 : Int32))])) rfl rfl (hb hby d1_8) (by decide) (a := 1) (off := 38) (by decide) (by show (0 : Int) ≤ ((8 : Nat) : Int) + 38; decide) _ ?_
    show Steps _ _ _ (T2.setTop (mkF m 46 #[.val (.ref a1), .val (.int p2), .val (.int p3)] [])) _
    refine XS.iloadN X2.here hx rfl (hb hby d1_46) rfl ?_
    show Steps _ _ _ (T2.setTop (mkF m 47 #[.val (.ref a1), .val (.int p2), .val (.int p3)] [(.int p2)])) _
    refine XS.iloadN X2.here hx rfl (hb hby d1_47) rfl ?_
    exact k
  by_cases hc48 : p2 < p3
  · skip
    have go5 : Go p.tables e below T2 (mkF m 69 #[.val (.ref a1), .val (.int p2), .val (.int p3)] [(.int (0 : Int32))]) s₁ (entryFrame m #[(.ref a1), (.int p2), (.int p3)] 3) := by
      intro t k
      refine go4 t ?_
      show Steps _ _ _ (T2.setTop (mkF m 48 #[.val (.ref a1), .val (.int p2), .val (.int p3)] [(.int p3), (.int p2)])) _
      refine XS.icmpYes X2.here hx rfl (pc0 := 48) (pc' := 55) rfl (hb hby d1_48) rfl (tlt hc48).1 (by decide) (by decide) ?_
      show Steps _ _ _ (T2.setTop (mkF m 55 #[.val (.ref a1), .val (.int p2), .val (.int p3)] [])) _
      refine XS.iconst X2.here hx rfl (hb hby d1_55) ?_
      show Steps _ _ _ (T2.setTop (mkF m 56 #[.val (.ref a1), .val (.int p2), .val (.int p3)] [(.int (0 : Int32))])) _
      refine XS.goto X2.here hx rfl (pc0 := 56) (pc' := 69) rfl (hb hby d1_56) (by decide) (by decide) ?_
      exact k
    obtain ⟨fs, hr, hrun, hended, hW, hsame⟩ := X2.leave (v := some (.int (0 : Int32))) (fun h => by rw [Bd.returns] at h; cases h)
    refine ⟨_, _, go5 _ ?_, hrun, hended, _, _, rfl, ?_, ⟨_, rfl⟩, hW, hsame.mono (by decide) (by decide)⟩
    · exact retN X2 hx (t := .boolean) Bd.returns (by simp) (hb hby d1_69) hr
    · show QP (.int (if p2 < p3 then (0 : Int32) else (1 : Int32))) h0 n0 _ T2.heap _
      rw [e2]
      exact ⟨by rw [if_pos hc48], N2, rfl⟩
  · skip
    have go6 : Go p.tables e below T2 (mkF m 69 #[.val (.ref a1), .val (.int p2), .val (.int p3)] [(.int (1 : Int32))]) s₁ (entryFrame m #[(.ref a1), (.int p2), (.int p3)] 3) := by
      intro t k
      refine go4 t ?_
      show Steps _ _ _ (T2.setTop (mkF m 48 #[.val (.ref a1), .val (.int p2), .val (.int p3)] [(.int p3), (.int p2)])) _
      refine XS.icmpNo X2.here hx rfl (hb hby d1_48) rfl (flt hc48).1 ?_
      show Steps _ _ _ (T2.setTop (mkF m 51 #[.val (.ref a1), .val (.int p2), .val (.int p3)] [])) _
      refine XS.iconst X2.here hx rfl (hb hby d1_51) ?_
      show Steps _ _ _ (T2.setTop (mkF m 52 #[.val (.ref a1), .val (.int p2), .val (.int p3)] [(.int (1 : Int32))])) _
      refine XS.goto X2.here hx rfl (pc0 := 52) (pc' := 69) rfl (hb hby d1_52) (by decide) (by decide) ?_
      exact k
    obtain ⟨fs, hr, hrun, hended, hW, hsame⟩ := X2.leave (v := some (.int (1 : Int32))) (fun h => by rw [Bd.returns] at h; cases h)
    refine ⟨_, _, go6 _ ?_, hrun, hended, _, _, rfl, ?_, ⟨_, rfl⟩, hW, hsame.mono (by decide) (by decide)⟩
    · exact retN X2 hx (t := .boolean) Bd.returns (by simp) (hb hby d1_69) hr
    · show QP (.int (if p2 < p3 then (0 : Int32) else (1 : Int32))) h0 n0 _ T2.heap _
      rw [e2]
      exact ⟨by rw [if_neg hc48], N2, rfl⟩
theorem d1_59 : decode prog_19_method_8_code 59 = .ok (.iload_n 1, 1) := by decide +kernel
theorem d1_60 : decode prog_19_method_8_code 60 = .ok (.iload_n 2, 1) := by decide +kernel
theorem d1_61 : decode prog_19_method_8_code 61 = .ok (.if_icmp .ne 7, 3) := by decide +kernel
theorem d1_64 : decode prog_19_method_8_code 64 = .ok (.iconst 1, 1) := by decide +kernel
theorem d1_65 : decode prog_19_method_8_code 65 = .ok (.goto 4, 3) := by decide +kernel
theorem d1_68 : decode prog_19_method_8_code 68 = .ok (.iconst 0, 1) := by decide +kernel
set_option maxRecDepth 65536 in
set_option maxHeartbeats 40000000 in
theorem rm1_w (l : Launch) (Z : State) (a0 : Array Value) (hw : ∀ d ∈ tables_1, d.before a0 Z = true) (ws : List Jvm.Cond) (a1 : Addr) (p2 p3 : Int32) (wM : Addr) (cl : Cell) (h0 : Heap) (n0 : Nat) (Z0 : n0 ≤ h0.size) (S_M : Sta Z h0 "com/example/karc/karc/SecurityLevels$1" "$SwitchMap$com$example$karc$karc$Flow" "[I" (.ref wM)) (Ar : Arr Z h0 wM cl .int) (hin : ¬ ((1 : Int32) < 0 ∨ cl.slots.size ≤ (1 : Int32).toNatClampNeg)) (hat : cl.slots[(1 : Int32).toNatClampNeg]? = some (.int (2 : Int32))) (E_a1 : Exa Z h0 a1 "com/example/karc/karc/Flow") (F_a1 : Fld Z h0 a1 "java/lang/Enum" "ordinal" "I" (.int (1 : Int32))) :
    MetFree l (⟨"com/example/karc/karc/SecurityLevels", "allows", "(Lcom/example/karc/karc/Flow;II)Z"⟩ : MethodName) (head1 (Jvm.Cond.code (⟨"com/example/karc/karc/SecurityLevels", "allows", "(Lcom/example/karc/karc/Flow;II)Z"⟩ : MethodName) prog_19_method_8_code 3 (some .boolean) :: ws) ({ frames := 1, cells := 0, slots := 0, locals := 13 } : Room)) (fun a U => a = #[(.ref a1), (.int p2), (.int p3)] ∧ Z.Warmed39 U.vm ∧ U.heap = h0) (fun _ _ _ _ _ => True) (fun _ U o U' => ∃ v L, o = .returned v ∧ QP (.int (if p2 = p3 then (1 : Int32) else (0 : Int32))) h0 n0 v U'.heap L ∧ FrameEnd U o U' L ({ frames := 1, cells := 0, slots := 0, locals := 13 } : Room).cells ({ frames := 1, cells := 0, slots := 0, locals := 13 } : Room).slots) := by
  refine MetFree.of_bodySF (plainFor_of_name pn_1) hisR ?_
  intro p e s m args below meth c s₁ Bd hml0 hP hK
  obtain ⟨rfl, hZ, hh⟩ := hP
  have hx := Bd.exec
  have hby := Bd.bytes
  have hml : c.maxLocals = 3 := hml0
  have hown : s.vm.findClass "com/example/karc/karc/SecurityLevels" = some m.cls := findClass_of_methodNamed Bd.named
  have hnm := (name_of_methodNamed Bd.named Bd.method).1
  have X0 : Stand p l e ({ frames := 1, cells := 0, slots := 0, locals := 13 } : Room) s m #[(.ref a1), (.int p2), (.int p3)] below meth c s₁ [] 0 0 := Stand.of_body Bd
  have e0 : s₁.heap = h0 := by rw [← hh, Bd.state]; rfl
  have N0 := Fr.nil n0
  have go0 : Go p.tables e below s₁ (mkF m 0 #[.val (.ref a1), .val (.int p2), .val (.int p3)] []) s₁ (entryFrame m #[(.ref a1), (.int p2), (.int p3)] 3) := fun t k => castTop (ef_1 m a1 p2 p3) k
  obtain ⟨T1, X1, e1, st1⟩ := getS2 X0 hx hZ hown (host := "") (Or.inl (wk hw 7 rfl)) Via.refl e0 S_M (g := (mkF m 0 #[.val (.ref a1), .val (.int p2), .val (.int p3)] [])) rfl (hb hby d1_0)
  have go3 : Go p.tables e below T1 (mkF m 4 #[.val (.ref a1), .val (.int p2), .val (.int p3)] [(.ref a1), (.ref wM)]) s₁ (entryFrame m #[(.ref a1), (.int p2), (.int p3)] 3) := by
    intro t k
    refine go0 t ?_
    show Steps _ _ _ (s₁.setTop (mkF m 0 #[.val (.ref a1), .val (.int p2), .val (.int p3)] [])) _
    refine st1 _ ?_
    show Steps _ _ _ (T1.setTop (mkF m 3 #[.val (.ref a1), .val (.int p2), .val (.int p3)] [(.ref wM)])) _
    refine XS.aloadN X1.here hx rfl (hb hby d1_3) rfl rfl ?_
    exact k
  obtain ⟨cq2, kq2, q2a, q2b, q2c⟩ := isOf hZ e1 E_a1
  obtain ⟨_, _, ⟨T2, L2, k2, n2⟩, -, X2, ⟨Lc2, hQ2, l2, y2, z2⟩, st2⟩ := X1.virtualBackUp hx (C := "com/example/karc/karc/Flow") (owner := "java/lang/Enum") (x := (⟨"com/example/karc/karc/Flow", "ordinal", "()I"⟩ : MethodName)) (y := (⟨"java/lang/Enum", "ordinal", "()I"⟩ : MethodName)) hown (mvT hZ (wk hw 10 rfl)) (mvT hZ (wk hw 11 rfl)) (mvT hZ (wk hw 12 rfl)) (by decide) (mvT hZ (wk hw 14 rfl)) (mvT hZ (wk hw 13 rfl)) (backOf (W := 1) (rm2 l Z a0 hw [] a1 (1 : Int32) h0 n0 Z0 F_a1) hZ (wk hw 16 rfl) (wk hw 15 rfl) (by decide) (by decide)) q2a q2c (g := (mkF m 4 #[.val (.ref a1), .val (.int p2), .val (.int p3)] [(.ref a1), (.ref wM)])) rfl (by rw [hml]; rfl) (Steps.refl _) (argsL := []) (rest := [(.ref wM)]) (lenOf pd_0 rfl) rfl (by show 2 * 0 + _ ≤ _; exact Nat.le_of_eq rfl) (hb hby d1_4) (fun _ _ => ⟨rfl, e1, (by decide : 0 + 0 ≤ _), (by decide : 0 + 0 ≤ _)⟩)
  dsimp only [Pt.U, Pt.locs, Pt.cells, Pt.slots] at X2 l2 y2 z2 st2 hQ2
  subst l2 y2 z2
  obtain ⟨rfl, N2q, e2⟩ := hQ2
  have N2 := Fr.app N0 N2q
  have go4 : Go p.tables e below T2 (mkF m 61 #[.val (.ref a1), .val (.int p2), .val (.int p3)] [(.int p3), (.int p2)]) s₁ (entryFrame m #[(.ref a1), (.int p2), (.int p3)] 3) := by
    intro t k
    refine go3 t ?_
    show Steps _ _ _ (T1.setTop (mkF m 4 #[.val (.ref a1), .val (.int p2), .val (.int p3)] [(.ref a1), (.ref wM)])) _
    refine st2.trans ?_
    show Steps _ _ _ (T2.setTop (mkF m 7 #[.val (.ref a1), .val (.int p2), .val (.int p3)] [(.int (1 : Int32)), (.ref wM)])) _
    refine X2.iaload hx (j := (1 : Int32)) (v := (.int (2 : Int32))) (by rw [e2]; exact Ar.1) (State.isArrayOf_alike hZ.alike Ar.2.1) Ar.2.2 hin hat (g := (mkF m 7 #[.val (.ref a1), .val (.int p2), .val (.int p3)] [(.int (1 : Int32)), (.ref wM)])) rfl rfl (hb hby d1_7) _ ?_
    show Steps _ _ _ (T2.setTop (mkF m 8 #[.val (.ref a1), .val (.int p2), .val (.int p3)] [(.int (2 : Int32))])) _
    refine X2.lookupswitchHit hx (g := (mkF m 8 #[.val (.ref a1), .val (.int p2), .val (.int p3)] [(.int (2 : Int32))])) rfl rfl (hb hby d1_8) (by decide) (a := 2) (off := 51) (by decide) (by show (0 : Int) ≤ ((8 : Nat) : Int) + 51; decide) _ ?_
    show Steps _ _ _ (T2.setTop (mkF m 59 #[.val (.ref a1), .val (.int p2), .val (.int p3)] [])) _
    refine XS.iloadN X2.here hx rfl (hb hby d1_59) rfl ?_
    show Steps _ _ _ (T2.setTop (mkF m 60 #[.val (.ref a1), .val (.int p2), .val (.int p3)] [(.int p2)])) _
    refine XS.iloadN X2.here hx rfl (hb hby d1_60) rfl ?_
    exact k
  by_cases hc61 : p2 = p3
  · skip
    have go5 : Go p.tables e below T2 (mkF m 69 #[.val (.ref a1), .val (.int p2), .val (.int p3)] [(.int (1 : Int32))]) s₁ (entryFrame m #[(.ref a1), (.int p2), (.int p3)] 3) := by
      intro t k
      refine go4 t ?_
      show Steps _ _ _ (T2.setTop (mkF m 61 #[.val (.ref a1), .val (.int p2), .val (.int p3)] [(.int p3), (.int p2)])) _
      refine XS.icmpNo X2.here hx rfl (hb hby d1_61) rfl (teq hc61).2 ?_
      show Steps _ _ _ (T2.setTop (mkF m 64 #[.val (.ref a1), .val (.int p2), .val (.int p3)] [])) _
      refine XS.iconst X2.here hx rfl (hb hby d1_64) ?_
      show Steps _ _ _ (T2.setTop (mkF m 65 #[.val (.ref a1), .val (.int p2), .val (.int p3)] [(.int (1 : Int32))])) _
      refine XS.goto X2.here hx rfl (pc0 := 65) (pc' := 69) rfl (hb hby d1_65) (by decide) (by decide) ?_
      exact k
    obtain ⟨fs, hr, hrun, hended, hW, hsame⟩ := X2.leave (v := some (.int (1 : Int32))) (fun h => by rw [Bd.returns] at h; cases h)
    refine ⟨_, _, go5 _ ?_, hrun, hended, _, _, rfl, ?_, ⟨_, rfl⟩, hW, hsame.mono (by decide) (by decide)⟩
    · exact retN X2 hx (t := .boolean) Bd.returns (by simp) (hb hby d1_69) hr
    · show QP (.int (if p2 = p3 then (1 : Int32) else (0 : Int32))) h0 n0 _ T2.heap _
      rw [e2]
      exact ⟨by rw [if_pos hc61], N2, rfl⟩
  · skip
    have go6 : Go p.tables e below T2 (mkF m 69 #[.val (.ref a1), .val (.int p2), .val (.int p3)] [(.int (0 : Int32))]) s₁ (entryFrame m #[(.ref a1), (.int p2), (.int p3)] 3) := by
      intro t k
      refine go4 t ?_
      show Steps _ _ _ (T2.setTop (mkF m 61 #[.val (.ref a1), .val (.int p2), .val (.int p3)] [(.int p3), (.int p2)])) _
      refine XS.icmpYes X2.here hx rfl (pc0 := 61) (pc' := 68) rfl (hb hby d1_61) rfl (feq hc61).2 (by decide) (by decide) ?_
      show Steps _ _ _ (T2.setTop (mkF m 68 #[.val (.ref a1), .val (.int p2), .val (.int p3)] [])) _
      refine XS.iconst X2.here hx rfl (hb hby d1_68) ?_
      exact k
    obtain ⟨fs, hr, hrun, hended, hW, hsame⟩ := X2.leave (v := some (.int (0 : Int32))) (fun h => by rw [Bd.returns] at h; cases h)
    refine ⟨_, _, go6 _ ?_, hrun, hended, _, _, rfl, ?_, ⟨_, rfl⟩, hW, hsame.mono (by decide) (by decide)⟩
    · exact retN X2 hx (t := .boolean) Bd.returns (by simp) (hb hby d1_69) hr
    · show QP (.int (if p2 = p3 then (1 : Int32) else (0 : Int32))) h0 n0 _ T2.heap _
      rw [e2]
      exact ⟨by rw [if_neg hc61], N2, rfl⟩
theorem pn_0 : plainName "com/example/karc/karc/SecurityLevelsAllowsPinLaw" = true := by first | (simp [plainName, overriddenIn]; done) | decide +kernel
theorem ef_0 (m : MethodId) (x0 : Int32) (x1 : Int32) (x2 : Int32) : entryFrame m #[(.int x0), (.int x1), (.int x2)] maxLocals = mkF m 0 #[.val (.int x0), .val (.int x1), .val (.int x2), .unset, .unset, .unset, .unset, .unset, .unset, .unset, .unset] [] := by first | (simp [entryFrame, mkF, argsToLocals, Value.category, maxLocals]; done) | rfl
theorem pd_1 : parseMethodDescriptor "(Lcom/example/karc/karc/Flow;II)Z" = some ⟨[(.object "com/example/karc/karc/Flow"), .int, .int], some .boolean⟩ := by decide +kernel
set_option maxRecDepth 65536 in
set_option maxHeartbeats 40000000 in
theorem rm0 (l : Launch) (Z : State) (a0 : Array Value) (hw : ∀ d ∈ tables_1, d.before a0 Z = true) (ws : List Jvm.Cond) (p1 p2 p3 : Int32) (wM : Addr) (cl : Cell) (wR wW : Addr) (h0 : Heap) (n0 : Nat) (Z0 : n0 ≤ h0.size) (S_M : Sta Z h0 "com/example/karc/karc/SecurityLevels$1" "$SwitchMap$com$example$karc$karc$Flow" "[I" (.ref wM)) (Ar : Arr Z h0 wM cl .int) (hin0 : ¬ ((0 : Int32) < 0 ∨ cl.slots.size ≤ (0 : Int32).toNatClampNeg)) (hat0 : cl.slots[(0 : Int32).toNatClampNeg]? = some (.int (1 : Int32))) (hin1 : ¬ ((1 : Int32) < 0 ∨ cl.slots.size ≤ (1 : Int32).toNatClampNeg)) (hat1 : cl.slots[(1 : Int32).toNatClampNeg]? = some (.int (2 : Int32))) (S_R : Sta Z h0 "com/example/karc/karc/Flow" "READ" "Lcom/example/karc/karc/Flow;" (.ref wR)) (E_wR : Exa Z h0 wR "com/example/karc/karc/Flow") (F_wR : Fld Z h0 wR "java/lang/Enum" "ordinal" "I" (.int (0 : Int32))) (S_W : Sta Z h0 "com/example/karc/karc/Flow" "WRITE" "Lcom/example/karc/karc/Flow;" (.ref wW)) (E_wW : Exa Z h0 wW "com/example/karc/karc/Flow") (F_wW : Fld Z h0 wW "java/lang/Enum" "ordinal" "I" (.int (1 : Int32))) :
    MetFree l x (head1 (Jvm.Cond.code x code maxLocals ret :: ws) room_1) (fun a U => a = #[(.int p1), (.int p2), (.int p3)] ∧ Z.Warmed39 U.vm ∧ U.heap = h0) (fun _ _ _ _ _ => True) (fun _ U o U' => ∃ v L, o = .returned v ∧ QL (.int 1) h0 n0 v U'.heap L ∧ FrameEnd U o U' L room_1.cells room_1.slots) := by
  refine MetFree.of_bodySF (plainFor_of_name pn_0) hisR ?_
  intro p e s m args below meth c s₁ Bd hml0 hP hK
  obtain ⟨rfl, hZ, hh⟩ := hP
  have hx := Bd.exec
  have hby := Bd.bytes
  have hml : c.maxLocals = 11 := hml0
  have hown : s.vm.findClass "com/example/karc/karc/SecurityLevelsAllowsPinLaw" = some m.cls := findClass_of_methodNamed Bd.named
  have hnm := (name_of_methodNamed Bd.named Bd.method).1
  have X0 : Stand p l e room_1 s m #[(.int p1), (.int p2), (.int p3)] below meth c s₁ [] 0 0 := Stand.of_body Bd
  have e0 : s₁.heap = h0 := by rw [← hh, Bd.state]; rfl
  have N0 := Fr.nil n0
  have go0 : Go p.tables e below s₁ (mkF m 0 #[.val (.int p1), .val (.int p2), .val (.int p3), .unset, .unset, .unset, .unset, .unset, .unset, .unset, .unset] []) s₁ (entryFrame m #[(.int p1), (.int p2), (.int p3)] maxLocals) := fun t k => castTop (ef_0 m p1 p2 p3) k
  have go1 : Go p.tables e below s₁ (mkF m 3 #[.val (.int p1), .val (.int p2), .val (.int p3), .unset, .unset, .unset, .unset, .unset, .unset, .unset, .unset] [(.int (p3 &&& (1 : Int32)))]) s₁ (entryFrame m #[(.int p1), (.int p2), (.int p3)] maxLocals) := by
    intro t k
    refine go0 t ?_
    show Steps _ _ _ (s₁.setTop (mkF m 0 #[.val (.int p1), .val (.int p2), .val (.int p3), .unset, .unset, .unset, .unset, .unset, .unset, .unset, .unset] [])) _
    refine XS.iloadN X0.here hx rfl (hb hby at_0) rfl ?_
    show Steps _ _ _ (s₁.setTop (mkF m 1 #[.val (.int p1), .val (.int p2), .val (.int p3), .unset, .unset, .unset, .unset, .unset, .unset, .unset, .unset] [(.int p3)])) _
    refine XS.iconst X0.here hx rfl (hb hby at_1) ?_
    show Steps _ _ _ (s₁.setTop (mkF m 2 #[.val (.int p1), .val (.int p2), .val (.int p3), .unset, .unset, .unset, .unset, .unset, .unset, .unset, .unset] [(.int (1 : Int32)), (.int p3)])) _
    refine XS.iand X0.here hx rfl (hb hby at_2) rfl ?_
    exact k
  by_cases hc3 : (p3 &&& (1 : Int32)) = (0 : Int32)
  · skip
    have go2 : Go p.tables e below s₁ (mkF m 31 #[.val (.int p1), .val (.int p2), .val (.int p3), .val (.int (0 : Int32)), .val (.int p2), .val (.long ((p1.toInt64) - (p2.toInt64))), .second, .unset, .unset, .unset, .unset] []) s₁ (entryFrame m #[(.int p1), (.int p2), (.int p3)] maxLocals) := by
      intro t k
      refine go1 t ?_
      show Steps _ _ _ (s₁.setTop (mkF m 3 #[.val (.int p1), .val (.int p2), .val (.int p3), .unset, .unset, .unset, .unset, .unset, .unset, .unset, .unset] [(.int (p3 &&& (1 : Int32)))])) _
      refine XS.ifYes X0.here hx rfl (pc0 := 3) (pc' := 10) rfl (hb hby at_3) rfl ((if0 _ _).trans (teq hc3).1) (by decide) (by decide) ?_
      show Steps _ _ _ (s₁.setTop (mkF m 10 #[.val (.int p1), .val (.int p2), .val (.int p3), .unset, .unset, .unset, .unset, .unset, .unset, .unset, .unset] [])) _
      refine XS.iconst X0.here hx rfl (hb hby at_10) ?_
      show Steps _ _ _ (s₁.setTop (mkF m 11 #[.val (.int p1), .val (.int p2), .val (.int p3), .unset, .unset, .unset, .unset, .unset, .unset, .unset, .unset] [(.int (0 : Int32))])) _
      refine XS.istoreN X0.here hx rfl (hb hby at_11) rfl (l' := #[.val (.int p1), .val (.int p2), .val (.int p3), .val (.int (0 : Int32)), .unset, .unset, .unset, .unset, .unset, .unset, .unset]) rfl ?_
      show Steps _ _ _ (s₁.setTop (mkF m 12 #[.val (.int p1), .val (.int p2), .val (.int p3), .val (.int (0 : Int32)), .unset, .unset, .unset, .unset, .unset, .unset, .unset] [])) _
      refine XS.iloadN X0.here hx rfl (hb hby at_12) rfl ?_
      show Steps _ _ _ (s₁.setTop (mkF m 13 #[.val (.int p1), .val (.int p2), .val (.int p3), .val (.int (0 : Int32)), .unset, .unset, .unset, .unset, .unset, .unset, .unset] [(.int (0 : Int32))])) _
      refine XS.ifYes X0.here hx rfl (pc0 := 13) (pc' := 20) rfl (hb hby at_13) rfl ((if0 _ _).trans (teq rfl).1) (by decide) (by decide) ?_
      show Steps _ _ _ (s₁.setTop (mkF m 20 #[.val (.int p1), .val (.int p2), .val (.int p3), .val (.int (0 : Int32)), .unset, .unset, .unset, .unset, .unset, .unset, .unset] [])) _
      refine XS.iloadN X0.here hx rfl (hb hby at_20) rfl ?_
      show Steps _ _ _ (s₁.setTop (mkF m 21 #[.val (.int p1), .val (.int p2), .val (.int p3), .val (.int (0 : Int32)), .unset, .unset, .unset, .unset, .unset, .unset, .unset] [(.int p2)])) _
      refine XS.istore X0.here hx rfl (hb hby at_21) rfl (l' := #[.val (.int p1), .val (.int p2), .val (.int p3), .val (.int (0 : Int32)), .val (.int p2), .unset, .unset, .unset, .unset, .unset, .unset]) rfl ?_
      show Steps _ _ _ (s₁.setTop (mkF m 23 #[.val (.int p1), .val (.int p2), .val (.int p3), .val (.int (0 : Int32)), .val (.int p2), .unset, .unset, .unset, .unset, .unset, .unset] [])) _
      refine XS.iloadN X0.here hx rfl (hb hby at_23) rfl ?_
      show Steps _ _ _ (s₁.setTop (mkF m 24 #[.val (.int p1), .val (.int p2), .val (.int p3), .val (.int (0 : Int32)), .val (.int p2), .unset, .unset, .unset, .unset, .unset, .unset] [(.int p1)])) _
      refine XS.i2l X0.here hx rfl (hb hby at_24) rfl ?_
      show Steps _ _ _ (s₁.setTop (mkF m 25 #[.val (.int p1), .val (.int p2), .val (.int p3), .val (.int (0 : Int32)), .val (.int p2), .unset, .unset, .unset, .unset, .unset, .unset] [(.long (p1.toInt64))])) _
      refine XS.iload X0.here hx rfl (hb hby at_25) rfl ?_
      show Steps _ _ _ (s₁.setTop (mkF m 27 #[.val (.int p1), .val (.int p2), .val (.int p3), .val (.int (0 : Int32)), .val (.int p2), .unset, .unset, .unset, .unset, .unset, .unset] [(.int p2), (.long (p1.toInt64))])) _
      refine XS.i2l X0.here hx rfl (hb hby at_27) rfl ?_
      show Steps _ _ _ (s₁.setTop (mkF m 28 #[.val (.int p1), .val (.int p2), .val (.int p3), .val (.int (0 : Int32)), .val (.int p2), .unset, .unset, .unset, .unset, .unset, .unset] [(.long (p2.toInt64)), (.long (p1.toInt64))])) _
      refine XS.lsub X0.here hx rfl (hb hby at_28) rfl ?_
      show Steps _ _ _ (s₁.setTop (mkF m 29 #[.val (.int p1), .val (.int p2), .val (.int p3), .val (.int (0 : Int32)), .val (.int p2), .unset, .unset, .unset, .unset, .unset, .unset] [(.long ((p1.toInt64) - (p2.toInt64)))])) _
      refine XS.lstore X0.here hx rfl (hb hby at_29) rfl (l' := #[.val (.int p1), .val (.int p2), .val (.int p3), .val (.int (0 : Int32)), .val (.int p2), .val (.long ((p1.toInt64) - (p2.toInt64))), .second, .unset, .unset, .unset, .unset]) rfl ?_
      exact k
    obtain ⟨T3, X3, e3, st3⟩ := getS2 X0 hx hZ hown (host := "") (Or.inl (wk hw 0 rfl)) Via.refl e0 S_R (g := (mkF m 31 #[.val (.int p1), .val (.int p2), .val (.int p3), .val (.int (0 : Int32)), .val (.int p2), .val (.long ((p1.toInt64) - (p2.toInt64))), .second, .unset, .unset, .unset, .unset] [])) rfl (hb hby at_31)
    have go5 : Go p.tables e below T3 (mkF m 37 #[.val (.int p1), .val (.int p2), .val (.int p3), .val (.int (0 : Int32)), .val (.int p2), .val (.long ((p1.toInt64) - (p2.toInt64))), .second, .unset, .unset, .unset, .unset] [(.int p2), (.int p1), (.ref wR)]) s₁ (entryFrame m #[(.int p1), (.int p2), (.int p3)] maxLocals) := by
      intro t k
      refine go2 t ?_
      show Steps _ _ _ (s₁.setTop (mkF m 31 #[.val (.int p1), .val (.int p2), .val (.int p3), .val (.int (0 : Int32)), .val (.int p2), .val (.long ((p1.toInt64) - (p2.toInt64))), .second, .unset, .unset, .unset, .unset] [])) _
      refine st3 _ ?_
      show Steps _ _ _ (T3.setTop (mkF m 34 #[.val (.int p1), .val (.int p2), .val (.int p3), .val (.int (0 : Int32)), .val (.int p2), .val (.long ((p1.toInt64) - (p2.toInt64))), .second, .unset, .unset, .unset, .unset] [(.ref wR)])) _
      refine XS.iloadN X3.here hx rfl (hb hby at_34) rfl ?_
      show Steps _ _ _ (T3.setTop (mkF m 35 #[.val (.int p1), .val (.int p2), .val (.int p3), .val (.int (0 : Int32)), .val (.int p2), .val (.long ((p1.toInt64) - (p2.toInt64))), .second, .unset, .unset, .unset, .unset] [(.int p1), (.ref wR)])) _
      refine XS.iload X3.here hx rfl (hb hby at_35) rfl ?_
      exact k
    obtain ⟨_, _, ⟨T4, L4, k4, n4⟩, -, X4, ⟨Lc4, hQ4, l4, y4, z4⟩, st4⟩ := Jvm.LawKit.callS X3 hx (y := (⟨"com/example/karc/karc/SecurityLevels", "allows", "(Lcom/example/karc/karc/Flow;II)Z"⟩ : MethodName)) hown (mvT hZ (wk hw 3 rfl)) (mvT hZ (wk hw 4 rfl)) (mvT hZ (wk hw 5 rfl)) (mvT hZ (wk hw 6 rfl)) (by decide) (backOf (W := 0) (rm1_r l Z a0 hw [] wR p1 p2 wM cl h0 n0 Z0 S_M Ar hin0 hat0 E_wR F_wR) hZ (wk hw 6 rfl) (wk hw 5 rfl) (by decide) (by decide)) (g := (mkF m 37 #[.val (.int p1), .val (.int p2), .val (.int p3), .val (.int (0 : Int32)), .val (.int p2), .val (.long ((p1.toInt64) - (p2.toInt64))), .second, .unset, .unset, .unset, .unset] [(.int p2), (.int p1), (.ref wR)])) rfl (by rw [hml]; rfl) (argsL := [(.ref wR), (.int p1), (.int p2)]) (rest := []) (lenOf pd_1 rfl) rfl (by show 2 * 0 + _ ≤ _; exact Nat.le_of_eq rfl) (hb hby at_37) (fun _ _ => ⟨rfl, e3, (by decide : 0 + 0 ≤ _), (by decide : 0 + 0 ≤ _)⟩)
    dsimp only [Pt.U, Pt.locs, Pt.cells, Pt.slots] at X4 l4 y4 z4 st4 hQ4
    subst l4 y4 z4
    obtain ⟨rfl, N4q, e4⟩ := hQ4
    have N4 := Fr.app N0 N4q
    have go6 : Go p.tables e below T4 (mkF m 42 #[.val (.int p1), .val (.int p2), .val (.int p3), .val (.int (0 : Int32)), .val (.int p2), .val (.long ((p1.toInt64) - (p2.toInt64))), .second, .val (.int (if p1 < p2 then (0 : Int32) else (1 : Int32))), .unset, .unset, .unset] []) s₁ (entryFrame m #[(.int p1), (.int p2), (.int p3)] maxLocals) := by
      intro t k
      refine go5 t ?_
      show Steps _ _ _ (T3.setTop (mkF m 37 #[.val (.int p1), .val (.int p2), .val (.int p3), .val (.int (0 : Int32)), .val (.int p2), .val (.long ((p1.toInt64) - (p2.toInt64))), .second, .unset, .unset, .unset, .unset] [(.int p2), (.int p1), (.ref wR)])) _
      refine st4 _ ?_
      show Steps _ _ _ (T4.setTop (mkF m 40 #[.val (.int p1), .val (.int p2), .val (.int p3), .val (.int (0 : Int32)), .val (.int p2), .val (.long ((p1.toInt64) - (p2.toInt64))), .second, .unset, .unset, .unset, .unset] [(.int (if p1 < p2 then (0 : Int32) else (1 : Int32)))])) _
      refine XS.istore X4.here hx rfl (hb hby at_40) rfl (l' := #[.val (.int p1), .val (.int p2), .val (.int p3), .val (.int (0 : Int32)), .val (.int p2), .val (.long ((p1.toInt64) - (p2.toInt64))), .second, .val (.int (if p1 < p2 then (0 : Int32) else (1 : Int32))), .unset, .unset, .unset]) rfl ?_
      exact k
    obtain ⟨T7, X7, e7, st7⟩ := getS2 X4 hx hZ hown (host := "") (Or.inl (wk hw 19 rfl)) Via.refl e4 S_W (g := (mkF m 42 #[.val (.int p1), .val (.int p2), .val (.int p3), .val (.int (0 : Int32)), .val (.int p2), .val (.long ((p1.toInt64) - (p2.toInt64))), .second, .val (.int (if p1 < p2 then (0 : Int32) else (1 : Int32))), .unset, .unset, .unset] [])) rfl (hb hby at_42)
    have go9 : Go p.tables e below T7 (mkF m 48 #[.val (.int p1), .val (.int p2), .val (.int p3), .val (.int (0 : Int32)), .val (.int p2), .val (.long ((p1.toInt64) - (p2.toInt64))), .second, .val (.int (if p1 < p2 then (0 : Int32) else (1 : Int32))), .unset, .unset, .unset] [(.int p2), (.int p1), (.ref wW)]) s₁ (entryFrame m #[(.int p1), (.int p2), (.int p3)] maxLocals) := by
      intro t k
      refine go6 t ?_
      show Steps _ _ _ (T4.setTop (mkF m 42 #[.val (.int p1), .val (.int p2), .val (.int p3), .val (.int (0 : Int32)), .val (.int p2), .val (.long ((p1.toInt64) - (p2.toInt64))), .second, .val (.int (if p1 < p2 then (0 : Int32) else (1 : Int32))), .unset, .unset, .unset] [])) _
      refine st7 _ ?_
      show Steps _ _ _ (T7.setTop (mkF m 45 #[.val (.int p1), .val (.int p2), .val (.int p3), .val (.int (0 : Int32)), .val (.int p2), .val (.long ((p1.toInt64) - (p2.toInt64))), .second, .val (.int (if p1 < p2 then (0 : Int32) else (1 : Int32))), .unset, .unset, .unset] [(.ref wW)])) _
      refine XS.iloadN X7.here hx rfl (hb hby at_45) rfl ?_
      show Steps _ _ _ (T7.setTop (mkF m 46 #[.val (.int p1), .val (.int p2), .val (.int p3), .val (.int (0 : Int32)), .val (.int p2), .val (.long ((p1.toInt64) - (p2.toInt64))), .second, .val (.int (if p1 < p2 then (0 : Int32) else (1 : Int32))), .unset, .unset, .unset] [(.int p1), (.ref wW)])) _
      refine XS.iload X7.here hx rfl (hb hby at_46) rfl ?_
      exact k
    obtain ⟨_, _, ⟨T8, L8, k8, n8⟩, -, X8, ⟨Lc8, hQ8, l8, y8, z8⟩, st8⟩ := Jvm.LawKit.callS X7 hx (y := (⟨"com/example/karc/karc/SecurityLevels", "allows", "(Lcom/example/karc/karc/Flow;II)Z"⟩ : MethodName)) hown (mvT hZ (wk hw 3 rfl)) (mvT hZ (wk hw 4 rfl)) (mvT hZ (wk hw 5 rfl)) (mvT hZ (wk hw 6 rfl)) (by decide) (backOf (W := 0) (rm1_w l Z a0 hw [] wW p1 p2 wM cl h0 n0 Z0 S_M Ar hin1 hat1 E_wW F_wW) hZ (wk hw 6 rfl) (wk hw 5 rfl) (by decide) (by decide)) (g := (mkF m 48 #[.val (.int p1), .val (.int p2), .val (.int p3), .val (.int (0 : Int32)), .val (.int p2), .val (.long ((p1.toInt64) - (p2.toInt64))), .second, .val (.int (if p1 < p2 then (0 : Int32) else (1 : Int32))), .unset, .unset, .unset] [(.int p2), (.int p1), (.ref wW)])) rfl (by rw [hml]; rfl) (argsL := [(.ref wW), (.int p1), (.int p2)]) (rest := []) (lenOf pd_1 rfl) rfl (by show 2 * 0 + _ ≤ _; exact Nat.le_of_eq rfl) (hb hby at_48) (fun _ _ => ⟨rfl, e7, (by decide : 0 + 0 ≤ _), (by decide : 0 + 0 ≤ _)⟩)
    dsimp only [Pt.U, Pt.locs, Pt.cells, Pt.slots] at X8 l8 y8 z8 st8 hQ8
    subst l8 y8 z8
    obtain ⟨rfl, N8q, e8⟩ := hQ8
    have N8 := Fr.app N4 N8q
    have go10 : Go p.tables e below T8 (mkF m 57 #[.val (.int p1), .val (.int p2), .val (.int p3), .val (.int (0 : Int32)), .val (.int p2), .val (.long ((p1.toInt64) - (p2.toInt64))), .second, .val (.int (if p1 < p2 then (0 : Int32) else (1 : Int32))), .val (.int (if p1 = p2 then (1 : Int32) else (0 : Int32))), .unset, .unset] [(.int (lcmpW ((p1.toInt64) - (p2.toInt64)) (0 : Int64)))]) s₁ (entryFrame m #[(.int p1), (.int p2), (.int p3)] maxLocals) := by
      intro t k
      refine go9 t ?_
      show Steps _ _ _ (T7.setTop (mkF m 48 #[.val (.int p1), .val (.int p2), .val (.int p3), .val (.int (0 : Int32)), .val (.int p2), .val (.long ((p1.toInt64) - (p2.toInt64))), .second, .val (.int (if p1 < p2 then (0 : Int32) else (1 : Int32))), .unset, .unset, .unset] [(.int p2), (.int p1), (.ref wW)])) _
      refine st8 _ ?_
      show Steps _ _ _ (T8.setTop (mkF m 51 #[.val (.int p1), .val (.int p2), .val (.int p3), .val (.int (0 : Int32)), .val (.int p2), .val (.long ((p1.toInt64) - (p2.toInt64))), .second, .val (.int (if p1 < p2 then (0 : Int32) else (1 : Int32))), .unset, .unset, .unset] [(.int (if p1 = p2 then (1 : Int32) else (0 : Int32)))])) _
      refine XS.istore X8.here hx rfl (hb hby at_51) rfl (l' := #[.val (.int p1), .val (.int p2), .val (.int p3), .val (.int (0 : Int32)), .val (.int p2), .val (.long ((p1.toInt64) - (p2.toInt64))), .second, .val (.int (if p1 < p2 then (0 : Int32) else (1 : Int32))), .val (.int (if p1 = p2 then (1 : Int32) else (0 : Int32))), .unset, .unset]) rfl ?_
      show Steps _ _ _ (T8.setTop (mkF m 53 #[.val (.int p1), .val (.int p2), .val (.int p3), .val (.int (0 : Int32)), .val (.int p2), .val (.long ((p1.toInt64) - (p2.toInt64))), .second, .val (.int (if p1 < p2 then (0 : Int32) else (1 : Int32))), .val (.int (if p1 = p2 then (1 : Int32) else (0 : Int32))), .unset, .unset] [])) _
      refine XS.lload X8.here hx rfl (hb hby at_53) rfl ?_
      show Steps _ _ _ (T8.setTop (mkF m 55 #[.val (.int p1), .val (.int p2), .val (.int p3), .val (.int (0 : Int32)), .val (.int p2), .val (.long ((p1.toInt64) - (p2.toInt64))), .second, .val (.int (if p1 < p2 then (0 : Int32) else (1 : Int32))), .val (.int (if p1 = p2 then (1 : Int32) else (0 : Int32))), .unset, .unset] [(.long ((p1.toInt64) - (p2.toInt64)))])) _
      refine XS.lconst X8.here hx rfl (hb hby at_55) ?_
      show Steps _ _ _ (T8.setTop (mkF m 56 #[.val (.int p1), .val (.int p2), .val (.int p3), .val (.int (0 : Int32)), .val (.int p2), .val (.long ((p1.toInt64) - (p2.toInt64))), .second, .val (.int (if p1 < p2 then (0 : Int32) else (1 : Int32))), .val (.int (if p1 = p2 then (1 : Int32) else (0 : Int32))), .unset, .unset] [(.long (0 : Int64)), (.long ((p1.toInt64) - (p2.toInt64)))])) _
      refine XS.lcmp X8.here hx rfl (hb hby at_56) rfl ?_
      exact k
    by_cases hc57 : (lcmpW ((p1.toInt64) - (p2.toInt64)) (0 : Int64)) < (0 : Int32)
    · skip
      have go11 : Go p.tables e below T8 (mkF m 71 #[.val (.int p1), .val (.int p2), .val (.int p3), .val (.int (0 : Int32)), .val (.int p2), .val (.long ((p1.toInt64) - (p2.toInt64))), .second, .val (.int (if p1 < p2 then (0 : Int32) else (1 : Int32))), .val (.int (if p1 = p2 then (1 : Int32) else (0 : Int32))), .val (.int (0 : Int32)), .unset] [(.int (lcmpW ((p1.toInt64) - (p2.toInt64)) (0 : Int64)))]) s₁ (entryFrame m #[(.int p1), (.int p2), (.int p3)] maxLocals) := by
        intro t k
        refine go10 t ?_
        show Steps _ _ _ (T8.setTop (mkF m 57 #[.val (.int p1), .val (.int p2), .val (.int p3), .val (.int (0 : Int32)), .val (.int p2), .val (.long ((p1.toInt64) - (p2.toInt64))), .second, .val (.int (if p1 < p2 then (0 : Int32) else (1 : Int32))), .val (.int (if p1 = p2 then (1 : Int32) else (0 : Int32))), .unset, .unset] [(.int (lcmpW ((p1.toInt64) - (p2.toInt64)) (0 : Int64)))])) _
        refine XS.ifYes X8.here hx rfl (pc0 := 57) (pc' := 64) rfl (hb hby at_57) rfl ((if0 _ _).trans (tlt hc57).1) (by decide) (by decide) ?_
        show Steps _ _ _ (T8.setTop (mkF m 64 #[.val (.int p1), .val (.int p2), .val (.int p3), .val (.int (0 : Int32)), .val (.int p2), .val (.long ((p1.toInt64) - (p2.toInt64))), .second, .val (.int (if p1 < p2 then (0 : Int32) else (1 : Int32))), .val (.int (if p1 = p2 then (1 : Int32) else (0 : Int32))), .unset, .unset] [])) _
        refine XS.iconst X8.here hx rfl (hb hby at_64) ?_
        show Steps _ _ _ (T8.setTop (mkF m 65 #[.val (.int p1), .val (.int p2), .val (.int p3), .val (.int (0 : Int32)), .val (.int p2), .val (.long ((p1.toInt64) - (p2.toInt64))), .second, .val (.int (if p1 < p2 then (0 : Int32) else (1 : Int32))), .val (.int (if p1 = p2 then (1 : Int32) else (0 : Int32))), .unset, .unset] [(.int (0 : Int32))])) _
        refine XS.istore X8.here hx rfl (hb hby at_65) rfl (l' := #[.val (.int p1), .val (.int p2), .val (.int p3), .val (.int (0 : Int32)), .val (.int p2), .val (.long ((p1.toInt64) - (p2.toInt64))), .second, .val (.int (if p1 < p2 then (0 : Int32) else (1 : Int32))), .val (.int (if p1 = p2 then (1 : Int32) else (0 : Int32))), .val (.int (0 : Int32)), .unset]) rfl ?_
        show Steps _ _ _ (T8.setTop (mkF m 67 #[.val (.int p1), .val (.int p2), .val (.int p3), .val (.int (0 : Int32)), .val (.int p2), .val (.long ((p1.toInt64) - (p2.toInt64))), .second, .val (.int (if p1 < p2 then (0 : Int32) else (1 : Int32))), .val (.int (if p1 = p2 then (1 : Int32) else (0 : Int32))), .val (.int (0 : Int32)), .unset] [])) _
        refine XS.lload X8.here hx rfl (hb hby at_67) rfl ?_
        show Steps _ _ _ (T8.setTop (mkF m 69 #[.val (.int p1), .val (.int p2), .val (.int p3), .val (.int (0 : Int32)), .val (.int p2), .val (.long ((p1.toInt64) - (p2.toInt64))), .second, .val (.int (if p1 < p2 then (0 : Int32) else (1 : Int32))), .val (.int (if p1 = p2 then (1 : Int32) else (0 : Int32))), .val (.int (0 : Int32)), .unset] [(.long ((p1.toInt64) - (p2.toInt64)))])) _
        refine XS.lconst X8.here hx rfl (hb hby at_69) ?_
        show Steps _ _ _ (T8.setTop (mkF m 70 #[.val (.int p1), .val (.int p2), .val (.int p3), .val (.int (0 : Int32)), .val (.int p2), .val (.long ((p1.toInt64) - (p2.toInt64))), .second, .val (.int (if p1 < p2 then (0 : Int32) else (1 : Int32))), .val (.int (if p1 = p2 then (1 : Int32) else (0 : Int32))), .val (.int (0 : Int32)), .unset] [(.long (0 : Int64)), (.long ((p1.toInt64) - (p2.toInt64)))])) _
        refine XS.lcmp X8.here hx rfl (hb hby at_70) rfl ?_
        exact k
      by_cases hc71 : (lcmpW ((p1.toInt64) - (p2.toInt64)) (0 : Int64)) = (0 : Int32)
      · skip
        have go12 : Go p.tables e below T8 (mkF m 100 #[.val (.int p1), .val (.int p2), .val (.int p3), .val (.int (0 : Int32)), .val (.int p2), .val (.long ((p1.toInt64) - (p2.toInt64))), .second, .val (.int (if p1 < p2 then (0 : Int32) else (1 : Int32))), .val (.int (if p1 = p2 then (1 : Int32) else (0 : Int32))), .val (.int (0 : Int32)), .val (.int (1 : Int32))] [(.int (1 : Int32))]) s₁ (entryFrame m #[(.int p1), (.int p2), (.int p3)] maxLocals) := by
          intro t k
          refine go11 t ?_
          show Steps _ _ _ (T8.setTop (mkF m 71 #[.val (.int p1), .val (.int p2), .val (.int p3), .val (.int (0 : Int32)), .val (.int p2), .val (.long ((p1.toInt64) - (p2.toInt64))), .second, .val (.int (if p1 < p2 then (0 : Int32) else (1 : Int32))), .val (.int (if p1 = p2 then (1 : Int32) else (0 : Int32))), .val (.int (0 : Int32)), .unset] [(.int (lcmpW ((p1.toInt64) - (p2.toInt64)) (0 : Int64)))])) _
          refine XS.ifNo X8.here hx rfl (hb hby at_71) rfl ((if0 _ _).trans (teq hc71).2) ?_
          show Steps _ _ _ (T8.setTop (mkF m 74 #[.val (.int p1), .val (.int p2), .val (.int p3), .val (.int (0 : Int32)), .val (.int p2), .val (.long ((p1.toInt64) - (p2.toInt64))), .second, .val (.int (if p1 < p2 then (0 : Int32) else (1 : Int32))), .val (.int (if p1 = p2 then (1 : Int32) else (0 : Int32))), .val (.int (0 : Int32)), .unset] [])) _
          refine XS.iconst X8.here hx rfl (hb hby at_74) ?_
          show Steps _ _ _ (T8.setTop (mkF m 75 #[.val (.int p1), .val (.int p2), .val (.int p3), .val (.int (0 : Int32)), .val (.int p2), .val (.long ((p1.toInt64) - (p2.toInt64))), .second, .val (.int (if p1 < p2 then (0 : Int32) else (1 : Int32))), .val (.int (if p1 = p2 then (1 : Int32) else (0 : Int32))), .val (.int (0 : Int32)), .unset] [(.int (1 : Int32))])) _
          refine XS.goto X8.here hx rfl (pc0 := 75) (pc' := 79) rfl (hb hby at_75) (by decide) (by decide) ?_
          show Steps _ _ _ (T8.setTop (mkF m 79 #[.val (.int p1), .val (.int p2), .val (.int p3), .val (.int (0 : Int32)), .val (.int p2), .val (.long ((p1.toInt64) - (p2.toInt64))), .second, .val (.int (if p1 < p2 then (0 : Int32) else (1 : Int32))), .val (.int (if p1 = p2 then (1 : Int32) else (0 : Int32))), .val (.int (0 : Int32)), .unset] [(.int (1 : Int32))])) _
          refine XS.istore X8.here hx rfl (hb hby at_79) rfl (l' := #[.val (.int p1), .val (.int p2), .val (.int p3), .val (.int (0 : Int32)), .val (.int p2), .val (.long ((p1.toInt64) - (p2.toInt64))), .second, .val (.int (if p1 < p2 then (0 : Int32) else (1 : Int32))), .val (.int (if p1 = p2 then (1 : Int32) else (0 : Int32))), .val (.int (0 : Int32)), .val (.int (1 : Int32))]) rfl ?_
          show Steps _ _ _ (T8.setTop (mkF m 81 #[.val (.int p1), .val (.int p2), .val (.int p3), .val (.int (0 : Int32)), .val (.int p2), .val (.long ((p1.toInt64) - (p2.toInt64))), .second, .val (.int (if p1 < p2 then (0 : Int32) else (1 : Int32))), .val (.int (if p1 = p2 then (1 : Int32) else (0 : Int32))), .val (.int (0 : Int32)), .val (.int (1 : Int32))] [])) _
          refine XS.iload X8.here hx rfl (hb hby at_81) rfl ?_
          show Steps _ _ _ (T8.setTop (mkF m 83 #[.val (.int p1), .val (.int p2), .val (.int p3), .val (.int (0 : Int32)), .val (.int p2), .val (.long ((p1.toInt64) - (p2.toInt64))), .second, .val (.int (if p1 < p2 then (0 : Int32) else (1 : Int32))), .val (.int (if p1 = p2 then (1 : Int32) else (0 : Int32))), .val (.int (0 : Int32)), .val (.int (1 : Int32))] [(.int (if p1 < p2 then (0 : Int32) else (1 : Int32)))])) _
          refine XS.iload X8.here hx rfl (hb hby at_83) rfl ?_
          show Steps _ _ _ (T8.setTop (mkF m 85 #[.val (.int p1), .val (.int p2), .val (.int p3), .val (.int (0 : Int32)), .val (.int p2), .val (.long ((p1.toInt64) - (p2.toInt64))), .second, .val (.int (if p1 < p2 then (0 : Int32) else (1 : Int32))), .val (.int (if p1 = p2 then (1 : Int32) else (0 : Int32))), .val (.int (0 : Int32)), .val (.int (1 : Int32))] [(.int (0 : Int32)), (.int (if p1 < p2 then (0 : Int32) else (1 : Int32)))])) _
          refine XS.icmpNo X8.here hx rfl (hb hby at_85) rfl (teq (if_pos ((own_lt _ _).mp hc57))).2 ?_
          show Steps _ _ _ (T8.setTop (mkF m 88 #[.val (.int p1), .val (.int p2), .val (.int p3), .val (.int (0 : Int32)), .val (.int p2), .val (.long ((p1.toInt64) - (p2.toInt64))), .second, .val (.int (if p1 < p2 then (0 : Int32) else (1 : Int32))), .val (.int (if p1 = p2 then (1 : Int32) else (0 : Int32))), .val (.int (0 : Int32)), .val (.int (1 : Int32))] [])) _
          refine XS.iload X8.here hx rfl (hb hby at_88) rfl ?_
          show Steps _ _ _ (T8.setTop (mkF m 90 #[.val (.int p1), .val (.int p2), .val (.int p3), .val (.int (0 : Int32)), .val (.int p2), .val (.long ((p1.toInt64) - (p2.toInt64))), .second, .val (.int (if p1 < p2 then (0 : Int32) else (1 : Int32))), .val (.int (if p1 = p2 then (1 : Int32) else (0 : Int32))), .val (.int (0 : Int32)), .val (.int (1 : Int32))] [(.int (if p1 = p2 then (1 : Int32) else (0 : Int32)))])) _
          refine XS.iload X8.here hx rfl (hb hby at_90) rfl ?_
          show Steps _ _ _ (T8.setTop (mkF m 92 #[.val (.int p1), .val (.int p2), .val (.int p3), .val (.int (0 : Int32)), .val (.int p2), .val (.long ((p1.toInt64) - (p2.toInt64))), .second, .val (.int (if p1 < p2 then (0 : Int32) else (1 : Int32))), .val (.int (if p1 = p2 then (1 : Int32) else (0 : Int32))), .val (.int (0 : Int32)), .val (.int (1 : Int32))] [(.int (1 : Int32)), (.int (if p1 = p2 then (1 : Int32) else (0 : Int32)))])) _
          refine XS.icmpNo X8.here hx rfl (hb hby at_92) rfl (teq (if_pos ((own_eq _ _).mp hc71))).2 ?_
          show Steps _ _ _ (T8.setTop (mkF m 95 #[.val (.int p1), .val (.int p2), .val (.int p3), .val (.int (0 : Int32)), .val (.int p2), .val (.long ((p1.toInt64) - (p2.toInt64))), .second, .val (.int (if p1 < p2 then (0 : Int32) else (1 : Int32))), .val (.int (if p1 = p2 then (1 : Int32) else (0 : Int32))), .val (.int (0 : Int32)), .val (.int (1 : Int32))] [])) _
          refine XS.iconst X8.here hx rfl (hb hby at_95) ?_
          show Steps _ _ _ (T8.setTop (mkF m 96 #[.val (.int p1), .val (.int p2), .val (.int p3), .val (.int (0 : Int32)), .val (.int p2), .val (.long ((p1.toInt64) - (p2.toInt64))), .second, .val (.int (if p1 < p2 then (0 : Int32) else (1 : Int32))), .val (.int (if p1 = p2 then (1 : Int32) else (0 : Int32))), .val (.int (0 : Int32)), .val (.int (1 : Int32))] [(.int (1 : Int32))])) _
          refine XS.goto X8.here hx rfl (pc0 := 96) (pc' := 100) rfl (hb hby at_96) (by decide) (by decide) ?_
          exact k
        obtain ⟨fs, hr, hrun, hended, hW, hsame⟩ := X8.leave (v := some (.int (1 : Int32))) (fun h => by rw [Bd.returns] at h; cases h)
        refine ⟨_, _, go12 _ ?_, hrun, hended, _, _, rfl, ?_, ⟨_, rfl⟩, hW, hsame.mono (by decide) (by decide)⟩
        · exact retN X8 hx (t := .boolean) Bd.returns (by simp) (hb hby at_100) hr
        · show QL (.int 1) h0 n0 _ T8.heap _
          rw [e8]
          exact ⟨rfl, N8⟩
      · skip
        have go13 : Go p.tables e below T8 (mkF m 100 #[.val (.int p1), .val (.int p2), .val (.int p3), .val (.int (0 : Int32)), .val (.int p2), .val (.long ((p1.toInt64) - (p2.toInt64))), .second, .val (.int (if p1 < p2 then (0 : Int32) else (1 : Int32))), .val (.int (if p1 = p2 then (1 : Int32) else (0 : Int32))), .val (.int (0 : Int32)), .val (.int (0 : Int32))] [(.int (1 : Int32))]) s₁ (entryFrame m #[(.int p1), (.int p2), (.int p3)] maxLocals) := by
          intro t k
          refine go11 t ?_
          show Steps _ _ _ (T8.setTop (mkF m 71 #[.val (.int p1), .val (.int p2), .val (.int p3), .val (.int (0 : Int32)), .val (.int p2), .val (.long ((p1.toInt64) - (p2.toInt64))), .second, .val (.int (if p1 < p2 then (0 : Int32) else (1 : Int32))), .val (.int (if p1 = p2 then (1 : Int32) else (0 : Int32))), .val (.int (0 : Int32)), .unset] [(.int (lcmpW ((p1.toInt64) - (p2.toInt64)) (0 : Int64)))])) _
          refine XS.ifYes X8.here hx rfl (pc0 := 71) (pc' := 78) rfl (hb hby at_71) rfl ((if0 _ _).trans (feq hc71).2) (by decide) (by decide) ?_
          show Steps _ _ _ (T8.setTop (mkF m 78 #[.val (.int p1), .val (.int p2), .val (.int p3), .val (.int (0 : Int32)), .val (.int p2), .val (.long ((p1.toInt64) - (p2.toInt64))), .second, .val (.int (if p1 < p2 then (0 : Int32) else (1 : Int32))), .val (.int (if p1 = p2 then (1 : Int32) else (0 : Int32))), .val (.int (0 : Int32)), .unset] [])) _
          refine XS.iconst X8.here hx rfl (hb hby at_78) ?_
          show Steps _ _ _ (T8.setTop (mkF m 79 #[.val (.int p1), .val (.int p2), .val (.int p3), .val (.int (0 : Int32)), .val (.int p2), .val (.long ((p1.toInt64) - (p2.toInt64))), .second, .val (.int (if p1 < p2 then (0 : Int32) else (1 : Int32))), .val (.int (if p1 = p2 then (1 : Int32) else (0 : Int32))), .val (.int (0 : Int32)), .unset] [(.int (0 : Int32))])) _
          refine XS.istore X8.here hx rfl (hb hby at_79) rfl (l' := #[.val (.int p1), .val (.int p2), .val (.int p3), .val (.int (0 : Int32)), .val (.int p2), .val (.long ((p1.toInt64) - (p2.toInt64))), .second, .val (.int (if p1 < p2 then (0 : Int32) else (1 : Int32))), .val (.int (if p1 = p2 then (1 : Int32) else (0 : Int32))), .val (.int (0 : Int32)), .val (.int (0 : Int32))]) rfl ?_
          show Steps _ _ _ (T8.setTop (mkF m 81 #[.val (.int p1), .val (.int p2), .val (.int p3), .val (.int (0 : Int32)), .val (.int p2), .val (.long ((p1.toInt64) - (p2.toInt64))), .second, .val (.int (if p1 < p2 then (0 : Int32) else (1 : Int32))), .val (.int (if p1 = p2 then (1 : Int32) else (0 : Int32))), .val (.int (0 : Int32)), .val (.int (0 : Int32))] [])) _
          refine XS.iload X8.here hx rfl (hb hby at_81) rfl ?_
          show Steps _ _ _ (T8.setTop (mkF m 83 #[.val (.int p1), .val (.int p2), .val (.int p3), .val (.int (0 : Int32)), .val (.int p2), .val (.long ((p1.toInt64) - (p2.toInt64))), .second, .val (.int (if p1 < p2 then (0 : Int32) else (1 : Int32))), .val (.int (if p1 = p2 then (1 : Int32) else (0 : Int32))), .val (.int (0 : Int32)), .val (.int (0 : Int32))] [(.int (if p1 < p2 then (0 : Int32) else (1 : Int32)))])) _
          refine XS.iload X8.here hx rfl (hb hby at_83) rfl ?_
          show Steps _ _ _ (T8.setTop (mkF m 85 #[.val (.int p1), .val (.int p2), .val (.int p3), .val (.int (0 : Int32)), .val (.int p2), .val (.long ((p1.toInt64) - (p2.toInt64))), .second, .val (.int (if p1 < p2 then (0 : Int32) else (1 : Int32))), .val (.int (if p1 = p2 then (1 : Int32) else (0 : Int32))), .val (.int (0 : Int32)), .val (.int (0 : Int32))] [(.int (0 : Int32)), (.int (if p1 < p2 then (0 : Int32) else (1 : Int32)))])) _
          refine XS.icmpNo X8.here hx rfl (hb hby at_85) rfl (teq (if_pos ((own_lt _ _).mp hc57))).2 ?_
          show Steps _ _ _ (T8.setTop (mkF m 88 #[.val (.int p1), .val (.int p2), .val (.int p3), .val (.int (0 : Int32)), .val (.int p2), .val (.long ((p1.toInt64) - (p2.toInt64))), .second, .val (.int (if p1 < p2 then (0 : Int32) else (1 : Int32))), .val (.int (if p1 = p2 then (1 : Int32) else (0 : Int32))), .val (.int (0 : Int32)), .val (.int (0 : Int32))] [])) _
          refine XS.iload X8.here hx rfl (hb hby at_88) rfl ?_
          show Steps _ _ _ (T8.setTop (mkF m 90 #[.val (.int p1), .val (.int p2), .val (.int p3), .val (.int (0 : Int32)), .val (.int p2), .val (.long ((p1.toInt64) - (p2.toInt64))), .second, .val (.int (if p1 < p2 then (0 : Int32) else (1 : Int32))), .val (.int (if p1 = p2 then (1 : Int32) else (0 : Int32))), .val (.int (0 : Int32)), .val (.int (0 : Int32))] [(.int (if p1 = p2 then (1 : Int32) else (0 : Int32)))])) _
          refine XS.iload X8.here hx rfl (hb hby at_90) rfl ?_
          show Steps _ _ _ (T8.setTop (mkF m 92 #[.val (.int p1), .val (.int p2), .val (.int p3), .val (.int (0 : Int32)), .val (.int p2), .val (.long ((p1.toInt64) - (p2.toInt64))), .second, .val (.int (if p1 < p2 then (0 : Int32) else (1 : Int32))), .val (.int (if p1 = p2 then (1 : Int32) else (0 : Int32))), .val (.int (0 : Int32)), .val (.int (0 : Int32))] [(.int (0 : Int32)), (.int (if p1 = p2 then (1 : Int32) else (0 : Int32)))])) _
          refine XS.icmpNo X8.here hx rfl (hb hby at_92) rfl (teq (if_neg (fun q => hc71 ((own_eq _ _).mpr q)))).2 ?_
          show Steps _ _ _ (T8.setTop (mkF m 95 #[.val (.int p1), .val (.int p2), .val (.int p3), .val (.int (0 : Int32)), .val (.int p2), .val (.long ((p1.toInt64) - (p2.toInt64))), .second, .val (.int (if p1 < p2 then (0 : Int32) else (1 : Int32))), .val (.int (if p1 = p2 then (1 : Int32) else (0 : Int32))), .val (.int (0 : Int32)), .val (.int (0 : Int32))] [])) _
          refine XS.iconst X8.here hx rfl (hb hby at_95) ?_
          show Steps _ _ _ (T8.setTop (mkF m 96 #[.val (.int p1), .val (.int p2), .val (.int p3), .val (.int (0 : Int32)), .val (.int p2), .val (.long ((p1.toInt64) - (p2.toInt64))), .second, .val (.int (if p1 < p2 then (0 : Int32) else (1 : Int32))), .val (.int (if p1 = p2 then (1 : Int32) else (0 : Int32))), .val (.int (0 : Int32)), .val (.int (0 : Int32))] [(.int (1 : Int32))])) _
          refine XS.goto X8.here hx rfl (pc0 := 96) (pc' := 100) rfl (hb hby at_96) (by decide) (by decide) ?_
          exact k
        obtain ⟨fs, hr, hrun, hended, hW, hsame⟩ := X8.leave (v := some (.int (1 : Int32))) (fun h => by rw [Bd.returns] at h; cases h)
        refine ⟨_, _, go13 _ ?_, hrun, hended, _, _, rfl, ?_, ⟨_, rfl⟩, hW, hsame.mono (by decide) (by decide)⟩
        · exact retN X8 hx (t := .boolean) Bd.returns (by simp) (hb hby at_100) hr
        · show QL (.int 1) h0 n0 _ T8.heap _
          rw [e8]
          exact ⟨rfl, N8⟩
    · skip
      have go14 : Go p.tables e below T8 (mkF m 71 #[.val (.int p1), .val (.int p2), .val (.int p3), .val (.int (0 : Int32)), .val (.int p2), .val (.long ((p1.toInt64) - (p2.toInt64))), .second, .val (.int (if p1 < p2 then (0 : Int32) else (1 : Int32))), .val (.int (if p1 = p2 then (1 : Int32) else (0 : Int32))), .val (.int (1 : Int32)), .unset] [(.int (lcmpW ((p1.toInt64) - (p2.toInt64)) (0 : Int64)))]) s₁ (entryFrame m #[(.int p1), (.int p2), (.int p3)] maxLocals) := by
        intro t k
        refine go10 t ?_
        show Steps _ _ _ (T8.setTop (mkF m 57 #[.val (.int p1), .val (.int p2), .val (.int p3), .val (.int (0 : Int32)), .val (.int p2), .val (.long ((p1.toInt64) - (p2.toInt64))), .second, .val (.int (if p1 < p2 then (0 : Int32) else (1 : Int32))), .val (.int (if p1 = p2 then (1 : Int32) else (0 : Int32))), .unset, .unset] [(.int (lcmpW ((p1.toInt64) - (p2.toInt64)) (0 : Int64)))])) _
        refine XS.ifNo X8.here hx rfl (hb hby at_57) rfl ((if0 _ _).trans (flt hc57).1) ?_
        show Steps _ _ _ (T8.setTop (mkF m 60 #[.val (.int p1), .val (.int p2), .val (.int p3), .val (.int (0 : Int32)), .val (.int p2), .val (.long ((p1.toInt64) - (p2.toInt64))), .second, .val (.int (if p1 < p2 then (0 : Int32) else (1 : Int32))), .val (.int (if p1 = p2 then (1 : Int32) else (0 : Int32))), .unset, .unset] [])) _
        refine XS.iconst X8.here hx rfl (hb hby at_60) ?_
        show Steps _ _ _ (T8.setTop (mkF m 61 #[.val (.int p1), .val (.int p2), .val (.int p3), .val (.int (0 : Int32)), .val (.int p2), .val (.long ((p1.toInt64) - (p2.toInt64))), .second, .val (.int (if p1 < p2 then (0 : Int32) else (1 : Int32))), .val (.int (if p1 = p2 then (1 : Int32) else (0 : Int32))), .unset, .unset] [(.int (1 : Int32))])) _
        refine XS.goto X8.here hx rfl (pc0 := 61) (pc' := 65) rfl (hb hby at_61) (by decide) (by decide) ?_
        show Steps _ _ _ (T8.setTop (mkF m 65 #[.val (.int p1), .val (.int p2), .val (.int p3), .val (.int (0 : Int32)), .val (.int p2), .val (.long ((p1.toInt64) - (p2.toInt64))), .second, .val (.int (if p1 < p2 then (0 : Int32) else (1 : Int32))), .val (.int (if p1 = p2 then (1 : Int32) else (0 : Int32))), .unset, .unset] [(.int (1 : Int32))])) _
        refine XS.istore X8.here hx rfl (hb hby at_65) rfl (l' := #[.val (.int p1), .val (.int p2), .val (.int p3), .val (.int (0 : Int32)), .val (.int p2), .val (.long ((p1.toInt64) - (p2.toInt64))), .second, .val (.int (if p1 < p2 then (0 : Int32) else (1 : Int32))), .val (.int (if p1 = p2 then (1 : Int32) else (0 : Int32))), .val (.int (1 : Int32)), .unset]) rfl ?_
        show Steps _ _ _ (T8.setTop (mkF m 67 #[.val (.int p1), .val (.int p2), .val (.int p3), .val (.int (0 : Int32)), .val (.int p2), .val (.long ((p1.toInt64) - (p2.toInt64))), .second, .val (.int (if p1 < p2 then (0 : Int32) else (1 : Int32))), .val (.int (if p1 = p2 then (1 : Int32) else (0 : Int32))), .val (.int (1 : Int32)), .unset] [])) _
        refine XS.lload X8.here hx rfl (hb hby at_67) rfl ?_
        show Steps _ _ _ (T8.setTop (mkF m 69 #[.val (.int p1), .val (.int p2), .val (.int p3), .val (.int (0 : Int32)), .val (.int p2), .val (.long ((p1.toInt64) - (p2.toInt64))), .second, .val (.int (if p1 < p2 then (0 : Int32) else (1 : Int32))), .val (.int (if p1 = p2 then (1 : Int32) else (0 : Int32))), .val (.int (1 : Int32)), .unset] [(.long ((p1.toInt64) - (p2.toInt64)))])) _
        refine XS.lconst X8.here hx rfl (hb hby at_69) ?_
        show Steps _ _ _ (T8.setTop (mkF m 70 #[.val (.int p1), .val (.int p2), .val (.int p3), .val (.int (0 : Int32)), .val (.int p2), .val (.long ((p1.toInt64) - (p2.toInt64))), .second, .val (.int (if p1 < p2 then (0 : Int32) else (1 : Int32))), .val (.int (if p1 = p2 then (1 : Int32) else (0 : Int32))), .val (.int (1 : Int32)), .unset] [(.long (0 : Int64)), (.long ((p1.toInt64) - (p2.toInt64)))])) _
        refine XS.lcmp X8.here hx rfl (hb hby at_70) rfl ?_
        exact k
      by_cases hc71 : (lcmpW ((p1.toInt64) - (p2.toInt64)) (0 : Int64)) = (0 : Int32)
      · skip
        have go15 : Go p.tables e below T8 (mkF m 100 #[.val (.int p1), .val (.int p2), .val (.int p3), .val (.int (0 : Int32)), .val (.int p2), .val (.long ((p1.toInt64) - (p2.toInt64))), .second, .val (.int (if p1 < p2 then (0 : Int32) else (1 : Int32))), .val (.int (if p1 = p2 then (1 : Int32) else (0 : Int32))), .val (.int (1 : Int32)), .val (.int (1 : Int32))] [(.int (1 : Int32))]) s₁ (entryFrame m #[(.int p1), (.int p2), (.int p3)] maxLocals) := by
          intro t k
          refine go14 t ?_
          show Steps _ _ _ (T8.setTop (mkF m 71 #[.val (.int p1), .val (.int p2), .val (.int p3), .val (.int (0 : Int32)), .val (.int p2), .val (.long ((p1.toInt64) - (p2.toInt64))), .second, .val (.int (if p1 < p2 then (0 : Int32) else (1 : Int32))), .val (.int (if p1 = p2 then (1 : Int32) else (0 : Int32))), .val (.int (1 : Int32)), .unset] [(.int (lcmpW ((p1.toInt64) - (p2.toInt64)) (0 : Int64)))])) _
          refine XS.ifNo X8.here hx rfl (hb hby at_71) rfl ((if0 _ _).trans (teq hc71).2) ?_
          show Steps _ _ _ (T8.setTop (mkF m 74 #[.val (.int p1), .val (.int p2), .val (.int p3), .val (.int (0 : Int32)), .val (.int p2), .val (.long ((p1.toInt64) - (p2.toInt64))), .second, .val (.int (if p1 < p2 then (0 : Int32) else (1 : Int32))), .val (.int (if p1 = p2 then (1 : Int32) else (0 : Int32))), .val (.int (1 : Int32)), .unset] [])) _
          refine XS.iconst X8.here hx rfl (hb hby at_74) ?_
          show Steps _ _ _ (T8.setTop (mkF m 75 #[.val (.int p1), .val (.int p2), .val (.int p3), .val (.int (0 : Int32)), .val (.int p2), .val (.long ((p1.toInt64) - (p2.toInt64))), .second, .val (.int (if p1 < p2 then (0 : Int32) else (1 : Int32))), .val (.int (if p1 = p2 then (1 : Int32) else (0 : Int32))), .val (.int (1 : Int32)), .unset] [(.int (1 : Int32))])) _
          refine XS.goto X8.here hx rfl (pc0 := 75) (pc' := 79) rfl (hb hby at_75) (by decide) (by decide) ?_
          show Steps _ _ _ (T8.setTop (mkF m 79 #[.val (.int p1), .val (.int p2), .val (.int p3), .val (.int (0 : Int32)), .val (.int p2), .val (.long ((p1.toInt64) - (p2.toInt64))), .second, .val (.int (if p1 < p2 then (0 : Int32) else (1 : Int32))), .val (.int (if p1 = p2 then (1 : Int32) else (0 : Int32))), .val (.int (1 : Int32)), .unset] [(.int (1 : Int32))])) _
          refine XS.istore X8.here hx rfl (hb hby at_79) rfl (l' := #[.val (.int p1), .val (.int p2), .val (.int p3), .val (.int (0 : Int32)), .val (.int p2), .val (.long ((p1.toInt64) - (p2.toInt64))), .second, .val (.int (if p1 < p2 then (0 : Int32) else (1 : Int32))), .val (.int (if p1 = p2 then (1 : Int32) else (0 : Int32))), .val (.int (1 : Int32)), .val (.int (1 : Int32))]) rfl ?_
          show Steps _ _ _ (T8.setTop (mkF m 81 #[.val (.int p1), .val (.int p2), .val (.int p3), .val (.int (0 : Int32)), .val (.int p2), .val (.long ((p1.toInt64) - (p2.toInt64))), .second, .val (.int (if p1 < p2 then (0 : Int32) else (1 : Int32))), .val (.int (if p1 = p2 then (1 : Int32) else (0 : Int32))), .val (.int (1 : Int32)), .val (.int (1 : Int32))] [])) _
          refine XS.iload X8.here hx rfl (hb hby at_81) rfl ?_
          show Steps _ _ _ (T8.setTop (mkF m 83 #[.val (.int p1), .val (.int p2), .val (.int p3), .val (.int (0 : Int32)), .val (.int p2), .val (.long ((p1.toInt64) - (p2.toInt64))), .second, .val (.int (if p1 < p2 then (0 : Int32) else (1 : Int32))), .val (.int (if p1 = p2 then (1 : Int32) else (0 : Int32))), .val (.int (1 : Int32)), .val (.int (1 : Int32))] [(.int (if p1 < p2 then (0 : Int32) else (1 : Int32)))])) _
          refine XS.iload X8.here hx rfl (hb hby at_83) rfl ?_
          show Steps _ _ _ (T8.setTop (mkF m 85 #[.val (.int p1), .val (.int p2), .val (.int p3), .val (.int (0 : Int32)), .val (.int p2), .val (.long ((p1.toInt64) - (p2.toInt64))), .second, .val (.int (if p1 < p2 then (0 : Int32) else (1 : Int32))), .val (.int (if p1 = p2 then (1 : Int32) else (0 : Int32))), .val (.int (1 : Int32)), .val (.int (1 : Int32))] [(.int (1 : Int32)), (.int (if p1 < p2 then (0 : Int32) else (1 : Int32)))])) _
          refine XS.icmpNo X8.here hx rfl (hb hby at_85) rfl (teq (if_neg (fun q => hc57 ((own_lt _ _).mpr q)))).2 ?_
          show Steps _ _ _ (T8.setTop (mkF m 88 #[.val (.int p1), .val (.int p2), .val (.int p3), .val (.int (0 : Int32)), .val (.int p2), .val (.long ((p1.toInt64) - (p2.toInt64))), .second, .val (.int (if p1 < p2 then (0 : Int32) else (1 : Int32))), .val (.int (if p1 = p2 then (1 : Int32) else (0 : Int32))), .val (.int (1 : Int32)), .val (.int (1 : Int32))] [])) _
          refine XS.iload X8.here hx rfl (hb hby at_88) rfl ?_
          show Steps _ _ _ (T8.setTop (mkF m 90 #[.val (.int p1), .val (.int p2), .val (.int p3), .val (.int (0 : Int32)), .val (.int p2), .val (.long ((p1.toInt64) - (p2.toInt64))), .second, .val (.int (if p1 < p2 then (0 : Int32) else (1 : Int32))), .val (.int (if p1 = p2 then (1 : Int32) else (0 : Int32))), .val (.int (1 : Int32)), .val (.int (1 : Int32))] [(.int (if p1 = p2 then (1 : Int32) else (0 : Int32)))])) _
          refine XS.iload X8.here hx rfl (hb hby at_90) rfl ?_
          show Steps _ _ _ (T8.setTop (mkF m 92 #[.val (.int p1), .val (.int p2), .val (.int p3), .val (.int (0 : Int32)), .val (.int p2), .val (.long ((p1.toInt64) - (p2.toInt64))), .second, .val (.int (if p1 < p2 then (0 : Int32) else (1 : Int32))), .val (.int (if p1 = p2 then (1 : Int32) else (0 : Int32))), .val (.int (1 : Int32)), .val (.int (1 : Int32))] [(.int (1 : Int32)), (.int (if p1 = p2 then (1 : Int32) else (0 : Int32)))])) _
          refine XS.icmpNo X8.here hx rfl (hb hby at_92) rfl (teq (if_pos ((own_eq _ _).mp hc71))).2 ?_
          show Steps _ _ _ (T8.setTop (mkF m 95 #[.val (.int p1), .val (.int p2), .val (.int p3), .val (.int (0 : Int32)), .val (.int p2), .val (.long ((p1.toInt64) - (p2.toInt64))), .second, .val (.int (if p1 < p2 then (0 : Int32) else (1 : Int32))), .val (.int (if p1 = p2 then (1 : Int32) else (0 : Int32))), .val (.int (1 : Int32)), .val (.int (1 : Int32))] [])) _
          refine XS.iconst X8.here hx rfl (hb hby at_95) ?_
          show Steps _ _ _ (T8.setTop (mkF m 96 #[.val (.int p1), .val (.int p2), .val (.int p3), .val (.int (0 : Int32)), .val (.int p2), .val (.long ((p1.toInt64) - (p2.toInt64))), .second, .val (.int (if p1 < p2 then (0 : Int32) else (1 : Int32))), .val (.int (if p1 = p2 then (1 : Int32) else (0 : Int32))), .val (.int (1 : Int32)), .val (.int (1 : Int32))] [(.int (1 : Int32))])) _
          refine XS.goto X8.here hx rfl (pc0 := 96) (pc' := 100) rfl (hb hby at_96) (by decide) (by decide) ?_
          exact k
        obtain ⟨fs, hr, hrun, hended, hW, hsame⟩ := X8.leave (v := some (.int (1 : Int32))) (fun h => by rw [Bd.returns] at h; cases h)
        refine ⟨_, _, go15 _ ?_, hrun, hended, _, _, rfl, ?_, ⟨_, rfl⟩, hW, hsame.mono (by decide) (by decide)⟩
        · exact retN X8 hx (t := .boolean) Bd.returns (by simp) (hb hby at_100) hr
        · show QL (.int 1) h0 n0 _ T8.heap _
          rw [e8]
          exact ⟨rfl, N8⟩
      · skip
        have go16 : Go p.tables e below T8 (mkF m 100 #[.val (.int p1), .val (.int p2), .val (.int p3), .val (.int (0 : Int32)), .val (.int p2), .val (.long ((p1.toInt64) - (p2.toInt64))), .second, .val (.int (if p1 < p2 then (0 : Int32) else (1 : Int32))), .val (.int (if p1 = p2 then (1 : Int32) else (0 : Int32))), .val (.int (1 : Int32)), .val (.int (0 : Int32))] [(.int (1 : Int32))]) s₁ (entryFrame m #[(.int p1), (.int p2), (.int p3)] maxLocals) := by
          intro t k
          refine go14 t ?_
          show Steps _ _ _ (T8.setTop (mkF m 71 #[.val (.int p1), .val (.int p2), .val (.int p3), .val (.int (0 : Int32)), .val (.int p2), .val (.long ((p1.toInt64) - (p2.toInt64))), .second, .val (.int (if p1 < p2 then (0 : Int32) else (1 : Int32))), .val (.int (if p1 = p2 then (1 : Int32) else (0 : Int32))), .val (.int (1 : Int32)), .unset] [(.int (lcmpW ((p1.toInt64) - (p2.toInt64)) (0 : Int64)))])) _
          refine XS.ifYes X8.here hx rfl (pc0 := 71) (pc' := 78) rfl (hb hby at_71) rfl ((if0 _ _).trans (feq hc71).2) (by decide) (by decide) ?_
          show Steps _ _ _ (T8.setTop (mkF m 78 #[.val (.int p1), .val (.int p2), .val (.int p3), .val (.int (0 : Int32)), .val (.int p2), .val (.long ((p1.toInt64) - (p2.toInt64))), .second, .val (.int (if p1 < p2 then (0 : Int32) else (1 : Int32))), .val (.int (if p1 = p2 then (1 : Int32) else (0 : Int32))), .val (.int (1 : Int32)), .unset] [])) _
          refine XS.iconst X8.here hx rfl (hb hby at_78) ?_
          show Steps _ _ _ (T8.setTop (mkF m 79 #[.val (.int p1), .val (.int p2), .val (.int p3), .val (.int (0 : Int32)), .val (.int p2), .val (.long ((p1.toInt64) - (p2.toInt64))), .second, .val (.int (if p1 < p2 then (0 : Int32) else (1 : Int32))), .val (.int (if p1 = p2 then (1 : Int32) else (0 : Int32))), .val (.int (1 : Int32)), .unset] [(.int (0 : Int32))])) _
          refine XS.istore X8.here hx rfl (hb hby at_79) rfl (l' := #[.val (.int p1), .val (.int p2), .val (.int p3), .val (.int (0 : Int32)), .val (.int p2), .val (.long ((p1.toInt64) - (p2.toInt64))), .second, .val (.int (if p1 < p2 then (0 : Int32) else (1 : Int32))), .val (.int (if p1 = p2 then (1 : Int32) else (0 : Int32))), .val (.int (1 : Int32)), .val (.int (0 : Int32))]) rfl ?_
          show Steps _ _ _ (T8.setTop (mkF m 81 #[.val (.int p1), .val (.int p2), .val (.int p3), .val (.int (0 : Int32)), .val (.int p2), .val (.long ((p1.toInt64) - (p2.toInt64))), .second, .val (.int (if p1 < p2 then (0 : Int32) else (1 : Int32))), .val (.int (if p1 = p2 then (1 : Int32) else (0 : Int32))), .val (.int (1 : Int32)), .val (.int (0 : Int32))] [])) _
          refine XS.iload X8.here hx rfl (hb hby at_81) rfl ?_
          show Steps _ _ _ (T8.setTop (mkF m 83 #[.val (.int p1), .val (.int p2), .val (.int p3), .val (.int (0 : Int32)), .val (.int p2), .val (.long ((p1.toInt64) - (p2.toInt64))), .second, .val (.int (if p1 < p2 then (0 : Int32) else (1 : Int32))), .val (.int (if p1 = p2 then (1 : Int32) else (0 : Int32))), .val (.int (1 : Int32)), .val (.int (0 : Int32))] [(.int (if p1 < p2 then (0 : Int32) else (1 : Int32)))])) _
          refine XS.iload X8.here hx rfl (hb hby at_83) rfl ?_
          show Steps _ _ _ (T8.setTop (mkF m 85 #[.val (.int p1), .val (.int p2), .val (.int p3), .val (.int (0 : Int32)), .val (.int p2), .val (.long ((p1.toInt64) - (p2.toInt64))), .second, .val (.int (if p1 < p2 then (0 : Int32) else (1 : Int32))), .val (.int (if p1 = p2 then (1 : Int32) else (0 : Int32))), .val (.int (1 : Int32)), .val (.int (0 : Int32))] [(.int (1 : Int32)), (.int (if p1 < p2 then (0 : Int32) else (1 : Int32)))])) _
          refine XS.icmpNo X8.here hx rfl (hb hby at_85) rfl (teq (if_neg (fun q => hc57 ((own_lt _ _).mpr q)))).2 ?_
          show Steps _ _ _ (T8.setTop (mkF m 88 #[.val (.int p1), .val (.int p2), .val (.int p3), .val (.int (0 : Int32)), .val (.int p2), .val (.long ((p1.toInt64) - (p2.toInt64))), .second, .val (.int (if p1 < p2 then (0 : Int32) else (1 : Int32))), .val (.int (if p1 = p2 then (1 : Int32) else (0 : Int32))), .val (.int (1 : Int32)), .val (.int (0 : Int32))] [])) _
          refine XS.iload X8.here hx rfl (hb hby at_88) rfl ?_
          show Steps _ _ _ (T8.setTop (mkF m 90 #[.val (.int p1), .val (.int p2), .val (.int p3), .val (.int (0 : Int32)), .val (.int p2), .val (.long ((p1.toInt64) - (p2.toInt64))), .second, .val (.int (if p1 < p2 then (0 : Int32) else (1 : Int32))), .val (.int (if p1 = p2 then (1 : Int32) else (0 : Int32))), .val (.int (1 : Int32)), .val (.int (0 : Int32))] [(.int (if p1 = p2 then (1 : Int32) else (0 : Int32)))])) _
          refine XS.iload X8.here hx rfl (hb hby at_90) rfl ?_
          show Steps _ _ _ (T8.setTop (mkF m 92 #[.val (.int p1), .val (.int p2), .val (.int p3), .val (.int (0 : Int32)), .val (.int p2), .val (.long ((p1.toInt64) - (p2.toInt64))), .second, .val (.int (if p1 < p2 then (0 : Int32) else (1 : Int32))), .val (.int (if p1 = p2 then (1 : Int32) else (0 : Int32))), .val (.int (1 : Int32)), .val (.int (0 : Int32))] [(.int (0 : Int32)), (.int (if p1 = p2 then (1 : Int32) else (0 : Int32)))])) _
          refine XS.icmpNo X8.here hx rfl (hb hby at_92) rfl (teq (if_neg (fun q => hc71 ((own_eq _ _).mpr q)))).2 ?_
          show Steps _ _ _ (T8.setTop (mkF m 95 #[.val (.int p1), .val (.int p2), .val (.int p3), .val (.int (0 : Int32)), .val (.int p2), .val (.long ((p1.toInt64) - (p2.toInt64))), .second, .val (.int (if p1 < p2 then (0 : Int32) else (1 : Int32))), .val (.int (if p1 = p2 then (1 : Int32) else (0 : Int32))), .val (.int (1 : Int32)), .val (.int (0 : Int32))] [])) _
          refine XS.iconst X8.here hx rfl (hb hby at_95) ?_
          show Steps _ _ _ (T8.setTop (mkF m 96 #[.val (.int p1), .val (.int p2), .val (.int p3), .val (.int (0 : Int32)), .val (.int p2), .val (.long ((p1.toInt64) - (p2.toInt64))), .second, .val (.int (if p1 < p2 then (0 : Int32) else (1 : Int32))), .val (.int (if p1 = p2 then (1 : Int32) else (0 : Int32))), .val (.int (1 : Int32)), .val (.int (0 : Int32))] [(.int (1 : Int32))])) _
          refine XS.goto X8.here hx rfl (pc0 := 96) (pc' := 100) rfl (hb hby at_96) (by decide) (by decide) ?_
          exact k
        obtain ⟨fs, hr, hrun, hended, hW, hsame⟩ := X8.leave (v := some (.int (1 : Int32))) (fun h => by rw [Bd.returns] at h; cases h)
        refine ⟨_, _, go16 _ ?_, hrun, hended, _, _, rfl, ?_, ⟨_, rfl⟩, hW, hsame.mono (by decide) (by decide)⟩
        · exact retN X8 hx (t := .boolean) Bd.returns (by simp) (hb hby at_100) hr
        · show QL (.int 1) h0 n0 _ T8.heap _
          rw [e8]
          exact ⟨rfl, N8⟩
  · skip
    have go17 : Go p.tables e below s₁ (mkF m 31 #[.val (.int p1), .val (.int p2), .val (.int p3), .val (.int (1 : Int32)), .val (.int p1), .val (.long ((p1.toInt64) - (p1.toInt64))), .second, .unset, .unset, .unset, .unset] []) s₁ (entryFrame m #[(.int p1), (.int p2), (.int p3)] maxLocals) := by
      intro t k
      refine go1 t ?_
      show Steps _ _ _ (s₁.setTop (mkF m 3 #[.val (.int p1), .val (.int p2), .val (.int p3), .unset, .unset, .unset, .unset, .unset, .unset, .unset, .unset] [(.int (p3 &&& (1 : Int32)))])) _
      refine XS.ifNo X0.here hx rfl (hb hby at_3) rfl ((if0 _ _).trans (feq hc3).1) ?_
      show Steps _ _ _ (s₁.setTop (mkF m 6 #[.val (.int p1), .val (.int p2), .val (.int p3), .unset, .unset, .unset, .unset, .unset, .unset, .unset, .unset] [])) _
      refine XS.iconst X0.here hx rfl (hb hby at_6) ?_
      show Steps _ _ _ (s₁.setTop (mkF m 7 #[.val (.int p1), .val (.int p2), .val (.int p3), .unset, .unset, .unset, .unset, .unset, .unset, .unset, .unset] [(.int (1 : Int32))])) _
      refine XS.goto X0.here hx rfl (pc0 := 7) (pc' := 11) rfl (hb hby at_7) (by decide) (by decide) ?_
      show Steps _ _ _ (s₁.setTop (mkF m 11 #[.val (.int p1), .val (.int p2), .val (.int p3), .unset, .unset, .unset, .unset, .unset, .unset, .unset, .unset] [(.int (1 : Int32))])) _
      refine XS.istoreN X0.here hx rfl (hb hby at_11) rfl (l' := #[.val (.int p1), .val (.int p2), .val (.int p3), .val (.int (1 : Int32)), .unset, .unset, .unset, .unset, .unset, .unset, .unset]) rfl ?_
      show Steps _ _ _ (s₁.setTop (mkF m 12 #[.val (.int p1), .val (.int p2), .val (.int p3), .val (.int (1 : Int32)), .unset, .unset, .unset, .unset, .unset, .unset, .unset] [])) _
      refine XS.iloadN X0.here hx rfl (hb hby at_12) rfl ?_
      show Steps _ _ _ (s₁.setTop (mkF m 13 #[.val (.int p1), .val (.int p2), .val (.int p3), .val (.int (1 : Int32)), .unset, .unset, .unset, .unset, .unset, .unset, .unset] [(.int (1 : Int32))])) _
      refine XS.ifNo X0.here hx rfl (hb hby at_13) rfl ((if0 _ _).trans (feq (by decide)).1) ?_
      show Steps _ _ _ (s₁.setTop (mkF m 16 #[.val (.int p1), .val (.int p2), .val (.int p3), .val (.int (1 : Int32)), .unset, .unset, .unset, .unset, .unset, .unset, .unset] [])) _
      refine XS.iloadN X0.here hx rfl (hb hby at_16) rfl ?_
      show Steps _ _ _ (s₁.setTop (mkF m 17 #[.val (.int p1), .val (.int p2), .val (.int p3), .val (.int (1 : Int32)), .unset, .unset, .unset, .unset, .unset, .unset, .unset] [(.int p1)])) _
      refine XS.goto X0.here hx rfl (pc0 := 17) (pc' := 21) rfl (hb hby at_17) (by decide) (by decide) ?_
      show Steps _ _ _ (s₁.setTop (mkF m 21 #[.val (.int p1), .val (.int p2), .val (.int p3), .val (.int (1 : Int32)), .unset, .unset, .unset, .unset, .unset, .unset, .unset] [(.int p1)])) _
      refine XS.istore X0.here hx rfl (hb hby at_21) rfl (l' := #[.val (.int p1), .val (.int p2), .val (.int p3), .val (.int (1 : Int32)), .val (.int p1), .unset, .unset, .unset, .unset, .unset, .unset]) rfl ?_
      show Steps _ _ _ (s₁.setTop (mkF m 23 #[.val (.int p1), .val (.int p2), .val (.int p3), .val (.int (1 : Int32)), .val (.int p1), .unset, .unset, .unset, .unset, .unset, .unset] [])) _
      refine XS.iloadN X0.here hx rfl (hb hby at_23) rfl ?_
      show Steps _ _ _ (s₁.setTop (mkF m 24 #[.val (.int p1), .val (.int p2), .val (.int p3), .val (.int (1 : Int32)), .val (.int p1), .unset, .unset, .unset, .unset, .unset, .unset] [(.int p1)])) _
      refine XS.i2l X0.here hx rfl (hb hby at_24) rfl ?_
      show Steps _ _ _ (s₁.setTop (mkF m 25 #[.val (.int p1), .val (.int p2), .val (.int p3), .val (.int (1 : Int32)), .val (.int p1), .unset, .unset, .unset, .unset, .unset, .unset] [(.long (p1.toInt64))])) _
      refine XS.iload X0.here hx rfl (hb hby at_25) rfl ?_
      show Steps _ _ _ (s₁.setTop (mkF m 27 #[.val (.int p1), .val (.int p2), .val (.int p3), .val (.int (1 : Int32)), .val (.int p1), .unset, .unset, .unset, .unset, .unset, .unset] [(.int p1), (.long (p1.toInt64))])) _
      refine XS.i2l X0.here hx rfl (hb hby at_27) rfl ?_
      show Steps _ _ _ (s₁.setTop (mkF m 28 #[.val (.int p1), .val (.int p2), .val (.int p3), .val (.int (1 : Int32)), .val (.int p1), .unset, .unset, .unset, .unset, .unset, .unset] [(.long (p1.toInt64)), (.long (p1.toInt64))])) _
      refine XS.lsub X0.here hx rfl (hb hby at_28) rfl ?_
      show Steps _ _ _ (s₁.setTop (mkF m 29 #[.val (.int p1), .val (.int p2), .val (.int p3), .val (.int (1 : Int32)), .val (.int p1), .unset, .unset, .unset, .unset, .unset, .unset] [(.long ((p1.toInt64) - (p1.toInt64)))])) _
      refine XS.lstore X0.here hx rfl (hb hby at_29) rfl (l' := #[.val (.int p1), .val (.int p2), .val (.int p3), .val (.int (1 : Int32)), .val (.int p1), .val (.long ((p1.toInt64) - (p1.toInt64))), .second, .unset, .unset, .unset, .unset]) rfl ?_
      exact k
    obtain ⟨T18, X18, e18, st18⟩ := getS2 X0 hx hZ hown (host := "") (Or.inl (wk hw 0 rfl)) Via.refl e0 S_R (g := (mkF m 31 #[.val (.int p1), .val (.int p2), .val (.int p3), .val (.int (1 : Int32)), .val (.int p1), .val (.long ((p1.toInt64) - (p1.toInt64))), .second, .unset, .unset, .unset, .unset] [])) rfl (hb hby at_31)
    have go20 : Go p.tables e below T18 (mkF m 37 #[.val (.int p1), .val (.int p2), .val (.int p3), .val (.int (1 : Int32)), .val (.int p1), .val (.long ((p1.toInt64) - (p1.toInt64))), .second, .unset, .unset, .unset, .unset] [(.int p1), (.int p1), (.ref wR)]) s₁ (entryFrame m #[(.int p1), (.int p2), (.int p3)] maxLocals) := by
      intro t k
      refine go17 t ?_
      show Steps _ _ _ (s₁.setTop (mkF m 31 #[.val (.int p1), .val (.int p2), .val (.int p3), .val (.int (1 : Int32)), .val (.int p1), .val (.long ((p1.toInt64) - (p1.toInt64))), .second, .unset, .unset, .unset, .unset] [])) _
      refine st18 _ ?_
      show Steps _ _ _ (T18.setTop (mkF m 34 #[.val (.int p1), .val (.int p2), .val (.int p3), .val (.int (1 : Int32)), .val (.int p1), .val (.long ((p1.toInt64) - (p1.toInt64))), .second, .unset, .unset, .unset, .unset] [(.ref wR)])) _
      refine XS.iloadN X18.here hx rfl (hb hby at_34) rfl ?_
      show Steps _ _ _ (T18.setTop (mkF m 35 #[.val (.int p1), .val (.int p2), .val (.int p3), .val (.int (1 : Int32)), .val (.int p1), .val (.long ((p1.toInt64) - (p1.toInt64))), .second, .unset, .unset, .unset, .unset] [(.int p1), (.ref wR)])) _
      refine XS.iload X18.here hx rfl (hb hby at_35) rfl ?_
      exact k
    obtain ⟨_, _, ⟨T19, L19, k19, n19⟩, -, X19, ⟨Lc19, hQ19, l19, y19, z19⟩, st19⟩ := Jvm.LawKit.callS X18 hx (y := (⟨"com/example/karc/karc/SecurityLevels", "allows", "(Lcom/example/karc/karc/Flow;II)Z"⟩ : MethodName)) hown (mvT hZ (wk hw 3 rfl)) (mvT hZ (wk hw 4 rfl)) (mvT hZ (wk hw 5 rfl)) (mvT hZ (wk hw 6 rfl)) (by decide) (backOf (W := 0) (rm1_r l Z a0 hw [] wR p1 p1 wM cl h0 n0 Z0 S_M Ar hin0 hat0 E_wR F_wR) hZ (wk hw 6 rfl) (wk hw 5 rfl) (by decide) (by decide)) (g := (mkF m 37 #[.val (.int p1), .val (.int p2), .val (.int p3), .val (.int (1 : Int32)), .val (.int p1), .val (.long ((p1.toInt64) - (p1.toInt64))), .second, .unset, .unset, .unset, .unset] [(.int p1), (.int p1), (.ref wR)])) rfl (by rw [hml]; rfl) (argsL := [(.ref wR), (.int p1), (.int p1)]) (rest := []) (lenOf pd_1 rfl) rfl (by show 2 * 0 + _ ≤ _; exact Nat.le_of_eq rfl) (hb hby at_37) (fun _ _ => ⟨rfl, e18, (by decide : 0 + 0 ≤ _), (by decide : 0 + 0 ≤ _)⟩)
    dsimp only [Pt.U, Pt.locs, Pt.cells, Pt.slots] at X19 l19 y19 z19 st19 hQ19
    subst l19 y19 z19
    obtain ⟨rfl, N19q, e19⟩ := hQ19
    have N19 := Fr.app N0 N19q
    have go21 : Go p.tables e below T19 (mkF m 42 #[.val (.int p1), .val (.int p2), .val (.int p3), .val (.int (1 : Int32)), .val (.int p1), .val (.long ((p1.toInt64) - (p1.toInt64))), .second, .val (.int (if p1 < p1 then (0 : Int32) else (1 : Int32))), .unset, .unset, .unset] []) s₁ (entryFrame m #[(.int p1), (.int p2), (.int p3)] maxLocals) := by
      intro t k
      refine go20 t ?_
      show Steps _ _ _ (T18.setTop (mkF m 37 #[.val (.int p1), .val (.int p2), .val (.int p3), .val (.int (1 : Int32)), .val (.int p1), .val (.long ((p1.toInt64) - (p1.toInt64))), .second, .unset, .unset, .unset, .unset] [(.int p1), (.int p1), (.ref wR)])) _
      refine st19 _ ?_
      show Steps _ _ _ (T19.setTop (mkF m 40 #[.val (.int p1), .val (.int p2), .val (.int p3), .val (.int (1 : Int32)), .val (.int p1), .val (.long ((p1.toInt64) - (p1.toInt64))), .second, .unset, .unset, .unset, .unset] [(.int (if p1 < p1 then (0 : Int32) else (1 : Int32)))])) _
      refine XS.istore X19.here hx rfl (hb hby at_40) rfl (l' := #[.val (.int p1), .val (.int p2), .val (.int p3), .val (.int (1 : Int32)), .val (.int p1), .val (.long ((p1.toInt64) - (p1.toInt64))), .second, .val (.int (if p1 < p1 then (0 : Int32) else (1 : Int32))), .unset, .unset, .unset]) rfl ?_
      exact k
    obtain ⟨T22, X22, e22, st22⟩ := getS2 X19 hx hZ hown (host := "") (Or.inl (wk hw 19 rfl)) Via.refl e19 S_W (g := (mkF m 42 #[.val (.int p1), .val (.int p2), .val (.int p3), .val (.int (1 : Int32)), .val (.int p1), .val (.long ((p1.toInt64) - (p1.toInt64))), .second, .val (.int (if p1 < p1 then (0 : Int32) else (1 : Int32))), .unset, .unset, .unset] [])) rfl (hb hby at_42)
    have go24 : Go p.tables e below T22 (mkF m 48 #[.val (.int p1), .val (.int p2), .val (.int p3), .val (.int (1 : Int32)), .val (.int p1), .val (.long ((p1.toInt64) - (p1.toInt64))), .second, .val (.int (if p1 < p1 then (0 : Int32) else (1 : Int32))), .unset, .unset, .unset] [(.int p1), (.int p1), (.ref wW)]) s₁ (entryFrame m #[(.int p1), (.int p2), (.int p3)] maxLocals) := by
      intro t k
      refine go21 t ?_
      show Steps _ _ _ (T19.setTop (mkF m 42 #[.val (.int p1), .val (.int p2), .val (.int p3), .val (.int (1 : Int32)), .val (.int p1), .val (.long ((p1.toInt64) - (p1.toInt64))), .second, .val (.int (if p1 < p1 then (0 : Int32) else (1 : Int32))), .unset, .unset, .unset] [])) _
      refine st22 _ ?_
      show Steps _ _ _ (T22.setTop (mkF m 45 #[.val (.int p1), .val (.int p2), .val (.int p3), .val (.int (1 : Int32)), .val (.int p1), .val (.long ((p1.toInt64) - (p1.toInt64))), .second, .val (.int (if p1 < p1 then (0 : Int32) else (1 : Int32))), .unset, .unset, .unset] [(.ref wW)])) _
      refine XS.iloadN X22.here hx rfl (hb hby at_45) rfl ?_
      show Steps _ _ _ (T22.setTop (mkF m 46 #[.val (.int p1), .val (.int p2), .val (.int p3), .val (.int (1 : Int32)), .val (.int p1), .val (.long ((p1.toInt64) - (p1.toInt64))), .second, .val (.int (if p1 < p1 then (0 : Int32) else (1 : Int32))), .unset, .unset, .unset] [(.int p1), (.ref wW)])) _
      refine XS.iload X22.here hx rfl (hb hby at_46) rfl ?_
      exact k
    obtain ⟨_, _, ⟨T23, L23, k23, n23⟩, -, X23, ⟨Lc23, hQ23, l23, y23, z23⟩, st23⟩ := Jvm.LawKit.callS X22 hx (y := (⟨"com/example/karc/karc/SecurityLevels", "allows", "(Lcom/example/karc/karc/Flow;II)Z"⟩ : MethodName)) hown (mvT hZ (wk hw 3 rfl)) (mvT hZ (wk hw 4 rfl)) (mvT hZ (wk hw 5 rfl)) (mvT hZ (wk hw 6 rfl)) (by decide) (backOf (W := 0) (rm1_w l Z a0 hw [] wW p1 p1 wM cl h0 n0 Z0 S_M Ar hin1 hat1 E_wW F_wW) hZ (wk hw 6 rfl) (wk hw 5 rfl) (by decide) (by decide)) (g := (mkF m 48 #[.val (.int p1), .val (.int p2), .val (.int p3), .val (.int (1 : Int32)), .val (.int p1), .val (.long ((p1.toInt64) - (p1.toInt64))), .second, .val (.int (if p1 < p1 then (0 : Int32) else (1 : Int32))), .unset, .unset, .unset] [(.int p1), (.int p1), (.ref wW)])) rfl (by rw [hml]; rfl) (argsL := [(.ref wW), (.int p1), (.int p1)]) (rest := []) (lenOf pd_1 rfl) rfl (by show 2 * 0 + _ ≤ _; exact Nat.le_of_eq rfl) (hb hby at_48) (fun _ _ => ⟨rfl, e22, (by decide : 0 + 0 ≤ _), (by decide : 0 + 0 ≤ _)⟩)
    dsimp only [Pt.U, Pt.locs, Pt.cells, Pt.slots] at X23 l23 y23 z23 st23 hQ23
    subst l23 y23 z23
    obtain ⟨rfl, N23q, e23⟩ := hQ23
    have N23 := Fr.app N19 N23q
    have go25 : Go p.tables e below T23 (mkF m 57 #[.val (.int p1), .val (.int p2), .val (.int p3), .val (.int (1 : Int32)), .val (.int p1), .val (.long ((p1.toInt64) - (p1.toInt64))), .second, .val (.int (if p1 < p1 then (0 : Int32) else (1 : Int32))), .val (.int (if p1 = p1 then (1 : Int32) else (0 : Int32))), .unset, .unset] [(.int (lcmpW ((p1.toInt64) - (p1.toInt64)) (0 : Int64)))]) s₁ (entryFrame m #[(.int p1), (.int p2), (.int p3)] maxLocals) := by
      intro t k
      refine go24 t ?_
      show Steps _ _ _ (T22.setTop (mkF m 48 #[.val (.int p1), .val (.int p2), .val (.int p3), .val (.int (1 : Int32)), .val (.int p1), .val (.long ((p1.toInt64) - (p1.toInt64))), .second, .val (.int (if p1 < p1 then (0 : Int32) else (1 : Int32))), .unset, .unset, .unset] [(.int p1), (.int p1), (.ref wW)])) _
      refine st23 _ ?_
      show Steps _ _ _ (T23.setTop (mkF m 51 #[.val (.int p1), .val (.int p2), .val (.int p3), .val (.int (1 : Int32)), .val (.int p1), .val (.long ((p1.toInt64) - (p1.toInt64))), .second, .val (.int (if p1 < p1 then (0 : Int32) else (1 : Int32))), .unset, .unset, .unset] [(.int (if p1 = p1 then (1 : Int32) else (0 : Int32)))])) _
      refine XS.istore X23.here hx rfl (hb hby at_51) rfl (l' := #[.val (.int p1), .val (.int p2), .val (.int p3), .val (.int (1 : Int32)), .val (.int p1), .val (.long ((p1.toInt64) - (p1.toInt64))), .second, .val (.int (if p1 < p1 then (0 : Int32) else (1 : Int32))), .val (.int (if p1 = p1 then (1 : Int32) else (0 : Int32))), .unset, .unset]) rfl ?_
      show Steps _ _ _ (T23.setTop (mkF m 53 #[.val (.int p1), .val (.int p2), .val (.int p3), .val (.int (1 : Int32)), .val (.int p1), .val (.long ((p1.toInt64) - (p1.toInt64))), .second, .val (.int (if p1 < p1 then (0 : Int32) else (1 : Int32))), .val (.int (if p1 = p1 then (1 : Int32) else (0 : Int32))), .unset, .unset] [])) _
      refine XS.lload X23.here hx rfl (hb hby at_53) rfl ?_
      show Steps _ _ _ (T23.setTop (mkF m 55 #[.val (.int p1), .val (.int p2), .val (.int p3), .val (.int (1 : Int32)), .val (.int p1), .val (.long ((p1.toInt64) - (p1.toInt64))), .second, .val (.int (if p1 < p1 then (0 : Int32) else (1 : Int32))), .val (.int (if p1 = p1 then (1 : Int32) else (0 : Int32))), .unset, .unset] [(.long ((p1.toInt64) - (p1.toInt64)))])) _
      refine XS.lconst X23.here hx rfl (hb hby at_55) ?_
      show Steps _ _ _ (T23.setTop (mkF m 56 #[.val (.int p1), .val (.int p2), .val (.int p3), .val (.int (1 : Int32)), .val (.int p1), .val (.long ((p1.toInt64) - (p1.toInt64))), .second, .val (.int (if p1 < p1 then (0 : Int32) else (1 : Int32))), .val (.int (if p1 = p1 then (1 : Int32) else (0 : Int32))), .unset, .unset] [(.long (0 : Int64)), (.long ((p1.toInt64) - (p1.toInt64)))])) _
      refine XS.lcmp X23.here hx rfl (hb hby at_56) rfl ?_
      exact k
    by_cases hc57 : (lcmpW ((p1.toInt64) - (p1.toInt64)) (0 : Int64)) < (0 : Int32)
    · skip
      have go26 : Go p.tables e below T23 (mkF m 71 #[.val (.int p1), .val (.int p2), .val (.int p3), .val (.int (1 : Int32)), .val (.int p1), .val (.long ((p1.toInt64) - (p1.toInt64))), .second, .val (.int (if p1 < p1 then (0 : Int32) else (1 : Int32))), .val (.int (if p1 = p1 then (1 : Int32) else (0 : Int32))), .val (.int (0 : Int32)), .unset] [(.int (lcmpW ((p1.toInt64) - (p1.toInt64)) (0 : Int64)))]) s₁ (entryFrame m #[(.int p1), (.int p2), (.int p3)] maxLocals) := by
        intro t k
        refine go25 t ?_
        show Steps _ _ _ (T23.setTop (mkF m 57 #[.val (.int p1), .val (.int p2), .val (.int p3), .val (.int (1 : Int32)), .val (.int p1), .val (.long ((p1.toInt64) - (p1.toInt64))), .second, .val (.int (if p1 < p1 then (0 : Int32) else (1 : Int32))), .val (.int (if p1 = p1 then (1 : Int32) else (0 : Int32))), .unset, .unset] [(.int (lcmpW ((p1.toInt64) - (p1.toInt64)) (0 : Int64)))])) _
        refine XS.ifYes X23.here hx rfl (pc0 := 57) (pc' := 64) rfl (hb hby at_57) rfl ((if0 _ _).trans (tlt hc57).1) (by decide) (by decide) ?_
        show Steps _ _ _ (T23.setTop (mkF m 64 #[.val (.int p1), .val (.int p2), .val (.int p3), .val (.int (1 : Int32)), .val (.int p1), .val (.long ((p1.toInt64) - (p1.toInt64))), .second, .val (.int (if p1 < p1 then (0 : Int32) else (1 : Int32))), .val (.int (if p1 = p1 then (1 : Int32) else (0 : Int32))), .unset, .unset] [])) _
        refine XS.iconst X23.here hx rfl (hb hby at_64) ?_
        show Steps _ _ _ (T23.setTop (mkF m 65 #[.val (.int p1), .val (.int p2), .val (.int p3), .val (.int (1 : Int32)), .val (.int p1), .val (.long ((p1.toInt64) - (p1.toInt64))), .second, .val (.int (if p1 < p1 then (0 : Int32) else (1 : Int32))), .val (.int (if p1 = p1 then (1 : Int32) else (0 : Int32))), .unset, .unset] [(.int (0 : Int32))])) _
        refine XS.istore X23.here hx rfl (hb hby at_65) rfl (l' := #[.val (.int p1), .val (.int p2), .val (.int p3), .val (.int (1 : Int32)), .val (.int p1), .val (.long ((p1.toInt64) - (p1.toInt64))), .second, .val (.int (if p1 < p1 then (0 : Int32) else (1 : Int32))), .val (.int (if p1 = p1 then (1 : Int32) else (0 : Int32))), .val (.int (0 : Int32)), .unset]) rfl ?_
        show Steps _ _ _ (T23.setTop (mkF m 67 #[.val (.int p1), .val (.int p2), .val (.int p3), .val (.int (1 : Int32)), .val (.int p1), .val (.long ((p1.toInt64) - (p1.toInt64))), .second, .val (.int (if p1 < p1 then (0 : Int32) else (1 : Int32))), .val (.int (if p1 = p1 then (1 : Int32) else (0 : Int32))), .val (.int (0 : Int32)), .unset] [])) _
        refine XS.lload X23.here hx rfl (hb hby at_67) rfl ?_
        show Steps _ _ _ (T23.setTop (mkF m 69 #[.val (.int p1), .val (.int p2), .val (.int p3), .val (.int (1 : Int32)), .val (.int p1), .val (.long ((p1.toInt64) - (p1.toInt64))), .second, .val (.int (if p1 < p1 then (0 : Int32) else (1 : Int32))), .val (.int (if p1 = p1 then (1 : Int32) else (0 : Int32))), .val (.int (0 : Int32)), .unset] [(.long ((p1.toInt64) - (p1.toInt64)))])) _
        refine XS.lconst X23.here hx rfl (hb hby at_69) ?_
        show Steps _ _ _ (T23.setTop (mkF m 70 #[.val (.int p1), .val (.int p2), .val (.int p3), .val (.int (1 : Int32)), .val (.int p1), .val (.long ((p1.toInt64) - (p1.toInt64))), .second, .val (.int (if p1 < p1 then (0 : Int32) else (1 : Int32))), .val (.int (if p1 = p1 then (1 : Int32) else (0 : Int32))), .val (.int (0 : Int32)), .unset] [(.long (0 : Int64)), (.long ((p1.toInt64) - (p1.toInt64)))])) _
        refine XS.lcmp X23.here hx rfl (hb hby at_70) rfl ?_
        exact k
      by_cases hc71 : (lcmpW ((p1.toInt64) - (p1.toInt64)) (0 : Int64)) = (0 : Int32)
      · skip
        have go27 : Go p.tables e below T23 (mkF m 100 #[.val (.int p1), .val (.int p2), .val (.int p3), .val (.int (1 : Int32)), .val (.int p1), .val (.long ((p1.toInt64) - (p1.toInt64))), .second, .val (.int (if p1 < p1 then (0 : Int32) else (1 : Int32))), .val (.int (if p1 = p1 then (1 : Int32) else (0 : Int32))), .val (.int (0 : Int32)), .val (.int (1 : Int32))] [(.int (1 : Int32))]) s₁ (entryFrame m #[(.int p1), (.int p2), (.int p3)] maxLocals) := by
          intro t k
          refine go26 t ?_
          show Steps _ _ _ (T23.setTop (mkF m 71 #[.val (.int p1), .val (.int p2), .val (.int p3), .val (.int (1 : Int32)), .val (.int p1), .val (.long ((p1.toInt64) - (p1.toInt64))), .second, .val (.int (if p1 < p1 then (0 : Int32) else (1 : Int32))), .val (.int (if p1 = p1 then (1 : Int32) else (0 : Int32))), .val (.int (0 : Int32)), .unset] [(.int (lcmpW ((p1.toInt64) - (p1.toInt64)) (0 : Int64)))])) _
          refine XS.ifNo X23.here hx rfl (hb hby at_71) rfl ((if0 _ _).trans (teq hc71).2) ?_
          show Steps _ _ _ (T23.setTop (mkF m 74 #[.val (.int p1), .val (.int p2), .val (.int p3), .val (.int (1 : Int32)), .val (.int p1), .val (.long ((p1.toInt64) - (p1.toInt64))), .second, .val (.int (if p1 < p1 then (0 : Int32) else (1 : Int32))), .val (.int (if p1 = p1 then (1 : Int32) else (0 : Int32))), .val (.int (0 : Int32)), .unset] [])) _
          refine XS.iconst X23.here hx rfl (hb hby at_74) ?_
          show Steps _ _ _ (T23.setTop (mkF m 75 #[.val (.int p1), .val (.int p2), .val (.int p3), .val (.int (1 : Int32)), .val (.int p1), .val (.long ((p1.toInt64) - (p1.toInt64))), .second, .val (.int (if p1 < p1 then (0 : Int32) else (1 : Int32))), .val (.int (if p1 = p1 then (1 : Int32) else (0 : Int32))), .val (.int (0 : Int32)), .unset] [(.int (1 : Int32))])) _
          refine XS.goto X23.here hx rfl (pc0 := 75) (pc' := 79) rfl (hb hby at_75) (by decide) (by decide) ?_
          show Steps _ _ _ (T23.setTop (mkF m 79 #[.val (.int p1), .val (.int p2), .val (.int p3), .val (.int (1 : Int32)), .val (.int p1), .val (.long ((p1.toInt64) - (p1.toInt64))), .second, .val (.int (if p1 < p1 then (0 : Int32) else (1 : Int32))), .val (.int (if p1 = p1 then (1 : Int32) else (0 : Int32))), .val (.int (0 : Int32)), .unset] [(.int (1 : Int32))])) _
          refine XS.istore X23.here hx rfl (hb hby at_79) rfl (l' := #[.val (.int p1), .val (.int p2), .val (.int p3), .val (.int (1 : Int32)), .val (.int p1), .val (.long ((p1.toInt64) - (p1.toInt64))), .second, .val (.int (if p1 < p1 then (0 : Int32) else (1 : Int32))), .val (.int (if p1 = p1 then (1 : Int32) else (0 : Int32))), .val (.int (0 : Int32)), .val (.int (1 : Int32))]) rfl ?_
          show Steps _ _ _ (T23.setTop (mkF m 81 #[.val (.int p1), .val (.int p2), .val (.int p3), .val (.int (1 : Int32)), .val (.int p1), .val (.long ((p1.toInt64) - (p1.toInt64))), .second, .val (.int (if p1 < p1 then (0 : Int32) else (1 : Int32))), .val (.int (if p1 = p1 then (1 : Int32) else (0 : Int32))), .val (.int (0 : Int32)), .val (.int (1 : Int32))] [])) _
          refine XS.iload X23.here hx rfl (hb hby at_81) rfl ?_
          show Steps _ _ _ (T23.setTop (mkF m 83 #[.val (.int p1), .val (.int p2), .val (.int p3), .val (.int (1 : Int32)), .val (.int p1), .val (.long ((p1.toInt64) - (p1.toInt64))), .second, .val (.int (if p1 < p1 then (0 : Int32) else (1 : Int32))), .val (.int (if p1 = p1 then (1 : Int32) else (0 : Int32))), .val (.int (0 : Int32)), .val (.int (1 : Int32))] [(.int (if p1 < p1 then (0 : Int32) else (1 : Int32)))])) _
          refine XS.iload X23.here hx rfl (hb hby at_83) rfl ?_
          show Steps _ _ _ (T23.setTop (mkF m 85 #[.val (.int p1), .val (.int p2), .val (.int p3), .val (.int (1 : Int32)), .val (.int p1), .val (.long ((p1.toInt64) - (p1.toInt64))), .second, .val (.int (if p1 < p1 then (0 : Int32) else (1 : Int32))), .val (.int (if p1 = p1 then (1 : Int32) else (0 : Int32))), .val (.int (0 : Int32)), .val (.int (1 : Int32))] [(.int (0 : Int32)), (.int (if p1 < p1 then (0 : Int32) else (1 : Int32)))])) _
          refine XS.icmpNo X23.here hx rfl (hb hby at_85) rfl (teq (if_pos ((own_lt _ _).mp hc57))).2 ?_
          show Steps _ _ _ (T23.setTop (mkF m 88 #[.val (.int p1), .val (.int p2), .val (.int p3), .val (.int (1 : Int32)), .val (.int p1), .val (.long ((p1.toInt64) - (p1.toInt64))), .second, .val (.int (if p1 < p1 then (0 : Int32) else (1 : Int32))), .val (.int (if p1 = p1 then (1 : Int32) else (0 : Int32))), .val (.int (0 : Int32)), .val (.int (1 : Int32))] [])) _
          refine XS.iload X23.here hx rfl (hb hby at_88) rfl ?_
          show Steps _ _ _ (T23.setTop (mkF m 90 #[.val (.int p1), .val (.int p2), .val (.int p3), .val (.int (1 : Int32)), .val (.int p1), .val (.long ((p1.toInt64) - (p1.toInt64))), .second, .val (.int (if p1 < p1 then (0 : Int32) else (1 : Int32))), .val (.int (if p1 = p1 then (1 : Int32) else (0 : Int32))), .val (.int (0 : Int32)), .val (.int (1 : Int32))] [(.int (if p1 = p1 then (1 : Int32) else (0 : Int32)))])) _
          refine XS.iload X23.here hx rfl (hb hby at_90) rfl ?_
          show Steps _ _ _ (T23.setTop (mkF m 92 #[.val (.int p1), .val (.int p2), .val (.int p3), .val (.int (1 : Int32)), .val (.int p1), .val (.long ((p1.toInt64) - (p1.toInt64))), .second, .val (.int (if p1 < p1 then (0 : Int32) else (1 : Int32))), .val (.int (if p1 = p1 then (1 : Int32) else (0 : Int32))), .val (.int (0 : Int32)), .val (.int (1 : Int32))] [(.int (1 : Int32)), (.int (if p1 = p1 then (1 : Int32) else (0 : Int32)))])) _
          refine XS.icmpNo X23.here hx rfl (hb hby at_92) rfl (teq (if_pos ((own_eq _ _).mp hc71))).2 ?_
          show Steps _ _ _ (T23.setTop (mkF m 95 #[.val (.int p1), .val (.int p2), .val (.int p3), .val (.int (1 : Int32)), .val (.int p1), .val (.long ((p1.toInt64) - (p1.toInt64))), .second, .val (.int (if p1 < p1 then (0 : Int32) else (1 : Int32))), .val (.int (if p1 = p1 then (1 : Int32) else (0 : Int32))), .val (.int (0 : Int32)), .val (.int (1 : Int32))] [])) _
          refine XS.iconst X23.here hx rfl (hb hby at_95) ?_
          show Steps _ _ _ (T23.setTop (mkF m 96 #[.val (.int p1), .val (.int p2), .val (.int p3), .val (.int (1 : Int32)), .val (.int p1), .val (.long ((p1.toInt64) - (p1.toInt64))), .second, .val (.int (if p1 < p1 then (0 : Int32) else (1 : Int32))), .val (.int (if p1 = p1 then (1 : Int32) else (0 : Int32))), .val (.int (0 : Int32)), .val (.int (1 : Int32))] [(.int (1 : Int32))])) _
          refine XS.goto X23.here hx rfl (pc0 := 96) (pc' := 100) rfl (hb hby at_96) (by decide) (by decide) ?_
          exact k
        obtain ⟨fs, hr, hrun, hended, hW, hsame⟩ := X23.leave (v := some (.int (1 : Int32))) (fun h => by rw [Bd.returns] at h; cases h)
        refine ⟨_, _, go27 _ ?_, hrun, hended, _, _, rfl, ?_, ⟨_, rfl⟩, hW, hsame.mono (by decide) (by decide)⟩
        · exact retN X23 hx (t := .boolean) Bd.returns (by simp) (hb hby at_100) hr
        · show QL (.int 1) h0 n0 _ T23.heap _
          rw [e23]
          exact ⟨rfl, N23⟩
      · skip
        have go28 : Go p.tables e below T23 (mkF m 100 #[.val (.int p1), .val (.int p2), .val (.int p3), .val (.int (1 : Int32)), .val (.int p1), .val (.long ((p1.toInt64) - (p1.toInt64))), .second, .val (.int (if p1 < p1 then (0 : Int32) else (1 : Int32))), .val (.int (if p1 = p1 then (1 : Int32) else (0 : Int32))), .val (.int (0 : Int32)), .val (.int (0 : Int32))] [(.int (1 : Int32))]) s₁ (entryFrame m #[(.int p1), (.int p2), (.int p3)] maxLocals) := by
          intro t k
          refine go26 t ?_
          show Steps _ _ _ (T23.setTop (mkF m 71 #[.val (.int p1), .val (.int p2), .val (.int p3), .val (.int (1 : Int32)), .val (.int p1), .val (.long ((p1.toInt64) - (p1.toInt64))), .second, .val (.int (if p1 < p1 then (0 : Int32) else (1 : Int32))), .val (.int (if p1 = p1 then (1 : Int32) else (0 : Int32))), .val (.int (0 : Int32)), .unset] [(.int (lcmpW ((p1.toInt64) - (p1.toInt64)) (0 : Int64)))])) _
          refine XS.ifYes X23.here hx rfl (pc0 := 71) (pc' := 78) rfl (hb hby at_71) rfl ((if0 _ _).trans (feq hc71).2) (by decide) (by decide) ?_
          show Steps _ _ _ (T23.setTop (mkF m 78 #[.val (.int p1), .val (.int p2), .val (.int p3), .val (.int (1 : Int32)), .val (.int p1), .val (.long ((p1.toInt64) - (p1.toInt64))), .second, .val (.int (if p1 < p1 then (0 : Int32) else (1 : Int32))), .val (.int (if p1 = p1 then (1 : Int32) else (0 : Int32))), .val (.int (0 : Int32)), .unset] [])) _
          refine XS.iconst X23.here hx rfl (hb hby at_78) ?_
          show Steps _ _ _ (T23.setTop (mkF m 79 #[.val (.int p1), .val (.int p2), .val (.int p3), .val (.int (1 : Int32)), .val (.int p1), .val (.long ((p1.toInt64) - (p1.toInt64))), .second, .val (.int (if p1 < p1 then (0 : Int32) else (1 : Int32))), .val (.int (if p1 = p1 then (1 : Int32) else (0 : Int32))), .val (.int (0 : Int32)), .unset] [(.int (0 : Int32))])) _
          refine XS.istore X23.here hx rfl (hb hby at_79) rfl (l' := #[.val (.int p1), .val (.int p2), .val (.int p3), .val (.int (1 : Int32)), .val (.int p1), .val (.long ((p1.toInt64) - (p1.toInt64))), .second, .val (.int (if p1 < p1 then (0 : Int32) else (1 : Int32))), .val (.int (if p1 = p1 then (1 : Int32) else (0 : Int32))), .val (.int (0 : Int32)), .val (.int (0 : Int32))]) rfl ?_
          show Steps _ _ _ (T23.setTop (mkF m 81 #[.val (.int p1), .val (.int p2), .val (.int p3), .val (.int (1 : Int32)), .val (.int p1), .val (.long ((p1.toInt64) - (p1.toInt64))), .second, .val (.int (if p1 < p1 then (0 : Int32) else (1 : Int32))), .val (.int (if p1 = p1 then (1 : Int32) else (0 : Int32))), .val (.int (0 : Int32)), .val (.int (0 : Int32))] [])) _
          refine XS.iload X23.here hx rfl (hb hby at_81) rfl ?_
          show Steps _ _ _ (T23.setTop (mkF m 83 #[.val (.int p1), .val (.int p2), .val (.int p3), .val (.int (1 : Int32)), .val (.int p1), .val (.long ((p1.toInt64) - (p1.toInt64))), .second, .val (.int (if p1 < p1 then (0 : Int32) else (1 : Int32))), .val (.int (if p1 = p1 then (1 : Int32) else (0 : Int32))), .val (.int (0 : Int32)), .val (.int (0 : Int32))] [(.int (if p1 < p1 then (0 : Int32) else (1 : Int32)))])) _
          refine XS.iload X23.here hx rfl (hb hby at_83) rfl ?_
          show Steps _ _ _ (T23.setTop (mkF m 85 #[.val (.int p1), .val (.int p2), .val (.int p3), .val (.int (1 : Int32)), .val (.int p1), .val (.long ((p1.toInt64) - (p1.toInt64))), .second, .val (.int (if p1 < p1 then (0 : Int32) else (1 : Int32))), .val (.int (if p1 = p1 then (1 : Int32) else (0 : Int32))), .val (.int (0 : Int32)), .val (.int (0 : Int32))] [(.int (0 : Int32)), (.int (if p1 < p1 then (0 : Int32) else (1 : Int32)))])) _
          refine XS.icmpNo X23.here hx rfl (hb hby at_85) rfl (teq (if_pos ((own_lt _ _).mp hc57))).2 ?_
          show Steps _ _ _ (T23.setTop (mkF m 88 #[.val (.int p1), .val (.int p2), .val (.int p3), .val (.int (1 : Int32)), .val (.int p1), .val (.long ((p1.toInt64) - (p1.toInt64))), .second, .val (.int (if p1 < p1 then (0 : Int32) else (1 : Int32))), .val (.int (if p1 = p1 then (1 : Int32) else (0 : Int32))), .val (.int (0 : Int32)), .val (.int (0 : Int32))] [])) _
          refine XS.iload X23.here hx rfl (hb hby at_88) rfl ?_
          show Steps _ _ _ (T23.setTop (mkF m 90 #[.val (.int p1), .val (.int p2), .val (.int p3), .val (.int (1 : Int32)), .val (.int p1), .val (.long ((p1.toInt64) - (p1.toInt64))), .second, .val (.int (if p1 < p1 then (0 : Int32) else (1 : Int32))), .val (.int (if p1 = p1 then (1 : Int32) else (0 : Int32))), .val (.int (0 : Int32)), .val (.int (0 : Int32))] [(.int (if p1 = p1 then (1 : Int32) else (0 : Int32)))])) _
          refine XS.iload X23.here hx rfl (hb hby at_90) rfl ?_
          show Steps _ _ _ (T23.setTop (mkF m 92 #[.val (.int p1), .val (.int p2), .val (.int p3), .val (.int (1 : Int32)), .val (.int p1), .val (.long ((p1.toInt64) - (p1.toInt64))), .second, .val (.int (if p1 < p1 then (0 : Int32) else (1 : Int32))), .val (.int (if p1 = p1 then (1 : Int32) else (0 : Int32))), .val (.int (0 : Int32)), .val (.int (0 : Int32))] [(.int (0 : Int32)), (.int (if p1 = p1 then (1 : Int32) else (0 : Int32)))])) _
          refine XS.icmpNo X23.here hx rfl (hb hby at_92) rfl (teq (if_neg (fun q => hc71 ((own_eq _ _).mpr q)))).2 ?_
          show Steps _ _ _ (T23.setTop (mkF m 95 #[.val (.int p1), .val (.int p2), .val (.int p3), .val (.int (1 : Int32)), .val (.int p1), .val (.long ((p1.toInt64) - (p1.toInt64))), .second, .val (.int (if p1 < p1 then (0 : Int32) else (1 : Int32))), .val (.int (if p1 = p1 then (1 : Int32) else (0 : Int32))), .val (.int (0 : Int32)), .val (.int (0 : Int32))] [])) _
          refine XS.iconst X23.here hx rfl (hb hby at_95) ?_
          show Steps _ _ _ (T23.setTop (mkF m 96 #[.val (.int p1), .val (.int p2), .val (.int p3), .val (.int (1 : Int32)), .val (.int p1), .val (.long ((p1.toInt64) - (p1.toInt64))), .second, .val (.int (if p1 < p1 then (0 : Int32) else (1 : Int32))), .val (.int (if p1 = p1 then (1 : Int32) else (0 : Int32))), .val (.int (0 : Int32)), .val (.int (0 : Int32))] [(.int (1 : Int32))])) _
          refine XS.goto X23.here hx rfl (pc0 := 96) (pc' := 100) rfl (hb hby at_96) (by decide) (by decide) ?_
          exact k
        obtain ⟨fs, hr, hrun, hended, hW, hsame⟩ := X23.leave (v := some (.int (1 : Int32))) (fun h => by rw [Bd.returns] at h; cases h)
        refine ⟨_, _, go28 _ ?_, hrun, hended, _, _, rfl, ?_, ⟨_, rfl⟩, hW, hsame.mono (by decide) (by decide)⟩
        · exact retN X23 hx (t := .boolean) Bd.returns (by simp) (hb hby at_100) hr
        · show QL (.int 1) h0 n0 _ T23.heap _
          rw [e23]
          exact ⟨rfl, N23⟩
    · skip
      have go29 : Go p.tables e below T23 (mkF m 71 #[.val (.int p1), .val (.int p2), .val (.int p3), .val (.int (1 : Int32)), .val (.int p1), .val (.long ((p1.toInt64) - (p1.toInt64))), .second, .val (.int (if p1 < p1 then (0 : Int32) else (1 : Int32))), .val (.int (if p1 = p1 then (1 : Int32) else (0 : Int32))), .val (.int (1 : Int32)), .unset] [(.int (lcmpW ((p1.toInt64) - (p1.toInt64)) (0 : Int64)))]) s₁ (entryFrame m #[(.int p1), (.int p2), (.int p3)] maxLocals) := by
        intro t k
        refine go25 t ?_
        show Steps _ _ _ (T23.setTop (mkF m 57 #[.val (.int p1), .val (.int p2), .val (.int p3), .val (.int (1 : Int32)), .val (.int p1), .val (.long ((p1.toInt64) - (p1.toInt64))), .second, .val (.int (if p1 < p1 then (0 : Int32) else (1 : Int32))), .val (.int (if p1 = p1 then (1 : Int32) else (0 : Int32))), .unset, .unset] [(.int (lcmpW ((p1.toInt64) - (p1.toInt64)) (0 : Int64)))])) _
        refine XS.ifNo X23.here hx rfl (hb hby at_57) rfl ((if0 _ _).trans (flt hc57).1) ?_
        show Steps _ _ _ (T23.setTop (mkF m 60 #[.val (.int p1), .val (.int p2), .val (.int p3), .val (.int (1 : Int32)), .val (.int p1), .val (.long ((p1.toInt64) - (p1.toInt64))), .second, .val (.int (if p1 < p1 then (0 : Int32) else (1 : Int32))), .val (.int (if p1 = p1 then (1 : Int32) else (0 : Int32))), .unset, .unset] [])) _
        refine XS.iconst X23.here hx rfl (hb hby at_60) ?_
        show Steps _ _ _ (T23.setTop (mkF m 61 #[.val (.int p1), .val (.int p2), .val (.int p3), .val (.int (1 : Int32)), .val (.int p1), .val (.long ((p1.toInt64) - (p1.toInt64))), .second, .val (.int (if p1 < p1 then (0 : Int32) else (1 : Int32))), .val (.int (if p1 = p1 then (1 : Int32) else (0 : Int32))), .unset, .unset] [(.int (1 : Int32))])) _
        refine XS.goto X23.here hx rfl (pc0 := 61) (pc' := 65) rfl (hb hby at_61) (by decide) (by decide) ?_
        show Steps _ _ _ (T23.setTop (mkF m 65 #[.val (.int p1), .val (.int p2), .val (.int p3), .val (.int (1 : Int32)), .val (.int p1), .val (.long ((p1.toInt64) - (p1.toInt64))), .second, .val (.int (if p1 < p1 then (0 : Int32) else (1 : Int32))), .val (.int (if p1 = p1 then (1 : Int32) else (0 : Int32))), .unset, .unset] [(.int (1 : Int32))])) _
        refine XS.istore X23.here hx rfl (hb hby at_65) rfl (l' := #[.val (.int p1), .val (.int p2), .val (.int p3), .val (.int (1 : Int32)), .val (.int p1), .val (.long ((p1.toInt64) - (p1.toInt64))), .second, .val (.int (if p1 < p1 then (0 : Int32) else (1 : Int32))), .val (.int (if p1 = p1 then (1 : Int32) else (0 : Int32))), .val (.int (1 : Int32)), .unset]) rfl ?_
        show Steps _ _ _ (T23.setTop (mkF m 67 #[.val (.int p1), .val (.int p2), .val (.int p3), .val (.int (1 : Int32)), .val (.int p1), .val (.long ((p1.toInt64) - (p1.toInt64))), .second, .val (.int (if p1 < p1 then (0 : Int32) else (1 : Int32))), .val (.int (if p1 = p1 then (1 : Int32) else (0 : Int32))), .val (.int (1 : Int32)), .unset] [])) _
        refine XS.lload X23.here hx rfl (hb hby at_67) rfl ?_
        show Steps _ _ _ (T23.setTop (mkF m 69 #[.val (.int p1), .val (.int p2), .val (.int p3), .val (.int (1 : Int32)), .val (.int p1), .val (.long ((p1.toInt64) - (p1.toInt64))), .second, .val (.int (if p1 < p1 then (0 : Int32) else (1 : Int32))), .val (.int (if p1 = p1 then (1 : Int32) else (0 : Int32))), .val (.int (1 : Int32)), .unset] [(.long ((p1.toInt64) - (p1.toInt64)))])) _
        refine XS.lconst X23.here hx rfl (hb hby at_69) ?_
        show Steps _ _ _ (T23.setTop (mkF m 70 #[.val (.int p1), .val (.int p2), .val (.int p3), .val (.int (1 : Int32)), .val (.int p1), .val (.long ((p1.toInt64) - (p1.toInt64))), .second, .val (.int (if p1 < p1 then (0 : Int32) else (1 : Int32))), .val (.int (if p1 = p1 then (1 : Int32) else (0 : Int32))), .val (.int (1 : Int32)), .unset] [(.long (0 : Int64)), (.long ((p1.toInt64) - (p1.toInt64)))])) _
        refine XS.lcmp X23.here hx rfl (hb hby at_70) rfl ?_
        exact k
      by_cases hc71 : (lcmpW ((p1.toInt64) - (p1.toInt64)) (0 : Int64)) = (0 : Int32)
      · skip
        have go30 : Go p.tables e below T23 (mkF m 100 #[.val (.int p1), .val (.int p2), .val (.int p3), .val (.int (1 : Int32)), .val (.int p1), .val (.long ((p1.toInt64) - (p1.toInt64))), .second, .val (.int (if p1 < p1 then (0 : Int32) else (1 : Int32))), .val (.int (if p1 = p1 then (1 : Int32) else (0 : Int32))), .val (.int (1 : Int32)), .val (.int (1 : Int32))] [(.int (1 : Int32))]) s₁ (entryFrame m #[(.int p1), (.int p2), (.int p3)] maxLocals) := by
          intro t k
          refine go29 t ?_
          show Steps _ _ _ (T23.setTop (mkF m 71 #[.val (.int p1), .val (.int p2), .val (.int p3), .val (.int (1 : Int32)), .val (.int p1), .val (.long ((p1.toInt64) - (p1.toInt64))), .second, .val (.int (if p1 < p1 then (0 : Int32) else (1 : Int32))), .val (.int (if p1 = p1 then (1 : Int32) else (0 : Int32))), .val (.int (1 : Int32)), .unset] [(.int (lcmpW ((p1.toInt64) - (p1.toInt64)) (0 : Int64)))])) _
          refine XS.ifNo X23.here hx rfl (hb hby at_71) rfl ((if0 _ _).trans (teq hc71).2) ?_
          show Steps _ _ _ (T23.setTop (mkF m 74 #[.val (.int p1), .val (.int p2), .val (.int p3), .val (.int (1 : Int32)), .val (.int p1), .val (.long ((p1.toInt64) - (p1.toInt64))), .second, .val (.int (if p1 < p1 then (0 : Int32) else (1 : Int32))), .val (.int (if p1 = p1 then (1 : Int32) else (0 : Int32))), .val (.int (1 : Int32)), .unset] [])) _
          refine XS.iconst X23.here hx rfl (hb hby at_74) ?_
          show Steps _ _ _ (T23.setTop (mkF m 75 #[.val (.int p1), .val (.int p2), .val (.int p3), .val (.int (1 : Int32)), .val (.int p1), .val (.long ((p1.toInt64) - (p1.toInt64))), .second, .val (.int (if p1 < p1 then (0 : Int32) else (1 : Int32))), .val (.int (if p1 = p1 then (1 : Int32) else (0 : Int32))), .val (.int (1 : Int32)), .unset] [(.int (1 : Int32))])) _
          refine XS.goto X23.here hx rfl (pc0 := 75) (pc' := 79) rfl (hb hby at_75) (by decide) (by decide) ?_
          show Steps _ _ _ (T23.setTop (mkF m 79 #[.val (.int p1), .val (.int p2), .val (.int p3), .val (.int (1 : Int32)), .val (.int p1), .val (.long ((p1.toInt64) - (p1.toInt64))), .second, .val (.int (if p1 < p1 then (0 : Int32) else (1 : Int32))), .val (.int (if p1 = p1 then (1 : Int32) else (0 : Int32))), .val (.int (1 : Int32)), .unset] [(.int (1 : Int32))])) _
          refine XS.istore X23.here hx rfl (hb hby at_79) rfl (l' := #[.val (.int p1), .val (.int p2), .val (.int p3), .val (.int (1 : Int32)), .val (.int p1), .val (.long ((p1.toInt64) - (p1.toInt64))), .second, .val (.int (if p1 < p1 then (0 : Int32) else (1 : Int32))), .val (.int (if p1 = p1 then (1 : Int32) else (0 : Int32))), .val (.int (1 : Int32)), .val (.int (1 : Int32))]) rfl ?_
          show Steps _ _ _ (T23.setTop (mkF m 81 #[.val (.int p1), .val (.int p2), .val (.int p3), .val (.int (1 : Int32)), .val (.int p1), .val (.long ((p1.toInt64) - (p1.toInt64))), .second, .val (.int (if p1 < p1 then (0 : Int32) else (1 : Int32))), .val (.int (if p1 = p1 then (1 : Int32) else (0 : Int32))), .val (.int (1 : Int32)), .val (.int (1 : Int32))] [])) _
          refine XS.iload X23.here hx rfl (hb hby at_81) rfl ?_
          show Steps _ _ _ (T23.setTop (mkF m 83 #[.val (.int p1), .val (.int p2), .val (.int p3), .val (.int (1 : Int32)), .val (.int p1), .val (.long ((p1.toInt64) - (p1.toInt64))), .second, .val (.int (if p1 < p1 then (0 : Int32) else (1 : Int32))), .val (.int (if p1 = p1 then (1 : Int32) else (0 : Int32))), .val (.int (1 : Int32)), .val (.int (1 : Int32))] [(.int (if p1 < p1 then (0 : Int32) else (1 : Int32)))])) _
          refine XS.iload X23.here hx rfl (hb hby at_83) rfl ?_
          show Steps _ _ _ (T23.setTop (mkF m 85 #[.val (.int p1), .val (.int p2), .val (.int p3), .val (.int (1 : Int32)), .val (.int p1), .val (.long ((p1.toInt64) - (p1.toInt64))), .second, .val (.int (if p1 < p1 then (0 : Int32) else (1 : Int32))), .val (.int (if p1 = p1 then (1 : Int32) else (0 : Int32))), .val (.int (1 : Int32)), .val (.int (1 : Int32))] [(.int (1 : Int32)), (.int (if p1 < p1 then (0 : Int32) else (1 : Int32)))])) _
          refine XS.icmpNo X23.here hx rfl (hb hby at_85) rfl (teq (if_neg (fun q => hc57 ((own_lt _ _).mpr q)))).2 ?_
          show Steps _ _ _ (T23.setTop (mkF m 88 #[.val (.int p1), .val (.int p2), .val (.int p3), .val (.int (1 : Int32)), .val (.int p1), .val (.long ((p1.toInt64) - (p1.toInt64))), .second, .val (.int (if p1 < p1 then (0 : Int32) else (1 : Int32))), .val (.int (if p1 = p1 then (1 : Int32) else (0 : Int32))), .val (.int (1 : Int32)), .val (.int (1 : Int32))] [])) _
          refine XS.iload X23.here hx rfl (hb hby at_88) rfl ?_
          show Steps _ _ _ (T23.setTop (mkF m 90 #[.val (.int p1), .val (.int p2), .val (.int p3), .val (.int (1 : Int32)), .val (.int p1), .val (.long ((p1.toInt64) - (p1.toInt64))), .second, .val (.int (if p1 < p1 then (0 : Int32) else (1 : Int32))), .val (.int (if p1 = p1 then (1 : Int32) else (0 : Int32))), .val (.int (1 : Int32)), .val (.int (1 : Int32))] [(.int (if p1 = p1 then (1 : Int32) else (0 : Int32)))])) _
          refine XS.iload X23.here hx rfl (hb hby at_90) rfl ?_
          show Steps _ _ _ (T23.setTop (mkF m 92 #[.val (.int p1), .val (.int p2), .val (.int p3), .val (.int (1 : Int32)), .val (.int p1), .val (.long ((p1.toInt64) - (p1.toInt64))), .second, .val (.int (if p1 < p1 then (0 : Int32) else (1 : Int32))), .val (.int (if p1 = p1 then (1 : Int32) else (0 : Int32))), .val (.int (1 : Int32)), .val (.int (1 : Int32))] [(.int (1 : Int32)), (.int (if p1 = p1 then (1 : Int32) else (0 : Int32)))])) _
          refine XS.icmpNo X23.here hx rfl (hb hby at_92) rfl (teq (if_pos ((own_eq _ _).mp hc71))).2 ?_
          show Steps _ _ _ (T23.setTop (mkF m 95 #[.val (.int p1), .val (.int p2), .val (.int p3), .val (.int (1 : Int32)), .val (.int p1), .val (.long ((p1.toInt64) - (p1.toInt64))), .second, .val (.int (if p1 < p1 then (0 : Int32) else (1 : Int32))), .val (.int (if p1 = p1 then (1 : Int32) else (0 : Int32))), .val (.int (1 : Int32)), .val (.int (1 : Int32))] [])) _
          refine XS.iconst X23.here hx rfl (hb hby at_95) ?_
          show Steps _ _ _ (T23.setTop (mkF m 96 #[.val (.int p1), .val (.int p2), .val (.int p3), .val (.int (1 : Int32)), .val (.int p1), .val (.long ((p1.toInt64) - (p1.toInt64))), .second, .val (.int (if p1 < p1 then (0 : Int32) else (1 : Int32))), .val (.int (if p1 = p1 then (1 : Int32) else (0 : Int32))), .val (.int (1 : Int32)), .val (.int (1 : Int32))] [(.int (1 : Int32))])) _
          refine XS.goto X23.here hx rfl (pc0 := 96) (pc' := 100) rfl (hb hby at_96) (by decide) (by decide) ?_
          exact k
        obtain ⟨fs, hr, hrun, hended, hW, hsame⟩ := X23.leave (v := some (.int (1 : Int32))) (fun h => by rw [Bd.returns] at h; cases h)
        refine ⟨_, _, go30 _ ?_, hrun, hended, _, _, rfl, ?_, ⟨_, rfl⟩, hW, hsame.mono (by decide) (by decide)⟩
        · exact retN X23 hx (t := .boolean) Bd.returns (by simp) (hb hby at_100) hr
        · show QL (.int 1) h0 n0 _ T23.heap _
          rw [e23]
          exact ⟨rfl, N23⟩
      · skip
        have go31 : Go p.tables e below T23 (mkF m 100 #[.val (.int p1), .val (.int p2), .val (.int p3), .val (.int (1 : Int32)), .val (.int p1), .val (.long ((p1.toInt64) - (p1.toInt64))), .second, .val (.int (if p1 < p1 then (0 : Int32) else (1 : Int32))), .val (.int (if p1 = p1 then (1 : Int32) else (0 : Int32))), .val (.int (1 : Int32)), .val (.int (0 : Int32))] [(.int (1 : Int32))]) s₁ (entryFrame m #[(.int p1), (.int p2), (.int p3)] maxLocals) := by
          intro t k
          refine go29 t ?_
          show Steps _ _ _ (T23.setTop (mkF m 71 #[.val (.int p1), .val (.int p2), .val (.int p3), .val (.int (1 : Int32)), .val (.int p1), .val (.long ((p1.toInt64) - (p1.toInt64))), .second, .val (.int (if p1 < p1 then (0 : Int32) else (1 : Int32))), .val (.int (if p1 = p1 then (1 : Int32) else (0 : Int32))), .val (.int (1 : Int32)), .unset] [(.int (lcmpW ((p1.toInt64) - (p1.toInt64)) (0 : Int64)))])) _
          refine XS.ifYes X23.here hx rfl (pc0 := 71) (pc' := 78) rfl (hb hby at_71) rfl ((if0 _ _).trans (feq hc71).2) (by decide) (by decide) ?_
          show Steps _ _ _ (T23.setTop (mkF m 78 #[.val (.int p1), .val (.int p2), .val (.int p3), .val (.int (1 : Int32)), .val (.int p1), .val (.long ((p1.toInt64) - (p1.toInt64))), .second, .val (.int (if p1 < p1 then (0 : Int32) else (1 : Int32))), .val (.int (if p1 = p1 then (1 : Int32) else (0 : Int32))), .val (.int (1 : Int32)), .unset] [])) _
          refine XS.iconst X23.here hx rfl (hb hby at_78) ?_
          show Steps _ _ _ (T23.setTop (mkF m 79 #[.val (.int p1), .val (.int p2), .val (.int p3), .val (.int (1 : Int32)), .val (.int p1), .val (.long ((p1.toInt64) - (p1.toInt64))), .second, .val (.int (if p1 < p1 then (0 : Int32) else (1 : Int32))), .val (.int (if p1 = p1 then (1 : Int32) else (0 : Int32))), .val (.int (1 : Int32)), .unset] [(.int (0 : Int32))])) _
          refine XS.istore X23.here hx rfl (hb hby at_79) rfl (l' := #[.val (.int p1), .val (.int p2), .val (.int p3), .val (.int (1 : Int32)), .val (.int p1), .val (.long ((p1.toInt64) - (p1.toInt64))), .second, .val (.int (if p1 < p1 then (0 : Int32) else (1 : Int32))), .val (.int (if p1 = p1 then (1 : Int32) else (0 : Int32))), .val (.int (1 : Int32)), .val (.int (0 : Int32))]) rfl ?_
          show Steps _ _ _ (T23.setTop (mkF m 81 #[.val (.int p1), .val (.int p2), .val (.int p3), .val (.int (1 : Int32)), .val (.int p1), .val (.long ((p1.toInt64) - (p1.toInt64))), .second, .val (.int (if p1 < p1 then (0 : Int32) else (1 : Int32))), .val (.int (if p1 = p1 then (1 : Int32) else (0 : Int32))), .val (.int (1 : Int32)), .val (.int (0 : Int32))] [])) _
          refine XS.iload X23.here hx rfl (hb hby at_81) rfl ?_
          show Steps _ _ _ (T23.setTop (mkF m 83 #[.val (.int p1), .val (.int p2), .val (.int p3), .val (.int (1 : Int32)), .val (.int p1), .val (.long ((p1.toInt64) - (p1.toInt64))), .second, .val (.int (if p1 < p1 then (0 : Int32) else (1 : Int32))), .val (.int (if p1 = p1 then (1 : Int32) else (0 : Int32))), .val (.int (1 : Int32)), .val (.int (0 : Int32))] [(.int (if p1 < p1 then (0 : Int32) else (1 : Int32)))])) _
          refine XS.iload X23.here hx rfl (hb hby at_83) rfl ?_
          show Steps _ _ _ (T23.setTop (mkF m 85 #[.val (.int p1), .val (.int p2), .val (.int p3), .val (.int (1 : Int32)), .val (.int p1), .val (.long ((p1.toInt64) - (p1.toInt64))), .second, .val (.int (if p1 < p1 then (0 : Int32) else (1 : Int32))), .val (.int (if p1 = p1 then (1 : Int32) else (0 : Int32))), .val (.int (1 : Int32)), .val (.int (0 : Int32))] [(.int (1 : Int32)), (.int (if p1 < p1 then (0 : Int32) else (1 : Int32)))])) _
          refine XS.icmpNo X23.here hx rfl (hb hby at_85) rfl (teq (if_neg (fun q => hc57 ((own_lt _ _).mpr q)))).2 ?_
          show Steps _ _ _ (T23.setTop (mkF m 88 #[.val (.int p1), .val (.int p2), .val (.int p3), .val (.int (1 : Int32)), .val (.int p1), .val (.long ((p1.toInt64) - (p1.toInt64))), .second, .val (.int (if p1 < p1 then (0 : Int32) else (1 : Int32))), .val (.int (if p1 = p1 then (1 : Int32) else (0 : Int32))), .val (.int (1 : Int32)), .val (.int (0 : Int32))] [])) _
          refine XS.iload X23.here hx rfl (hb hby at_88) rfl ?_
          show Steps _ _ _ (T23.setTop (mkF m 90 #[.val (.int p1), .val (.int p2), .val (.int p3), .val (.int (1 : Int32)), .val (.int p1), .val (.long ((p1.toInt64) - (p1.toInt64))), .second, .val (.int (if p1 < p1 then (0 : Int32) else (1 : Int32))), .val (.int (if p1 = p1 then (1 : Int32) else (0 : Int32))), .val (.int (1 : Int32)), .val (.int (0 : Int32))] [(.int (if p1 = p1 then (1 : Int32) else (0 : Int32)))])) _
          refine XS.iload X23.here hx rfl (hb hby at_90) rfl ?_
          show Steps _ _ _ (T23.setTop (mkF m 92 #[.val (.int p1), .val (.int p2), .val (.int p3), .val (.int (1 : Int32)), .val (.int p1), .val (.long ((p1.toInt64) - (p1.toInt64))), .second, .val (.int (if p1 < p1 then (0 : Int32) else (1 : Int32))), .val (.int (if p1 = p1 then (1 : Int32) else (0 : Int32))), .val (.int (1 : Int32)), .val (.int (0 : Int32))] [(.int (0 : Int32)), (.int (if p1 = p1 then (1 : Int32) else (0 : Int32)))])) _
          refine XS.icmpNo X23.here hx rfl (hb hby at_92) rfl (teq (if_neg (fun q => hc71 ((own_eq _ _).mpr q)))).2 ?_
          show Steps _ _ _ (T23.setTop (mkF m 95 #[.val (.int p1), .val (.int p2), .val (.int p3), .val (.int (1 : Int32)), .val (.int p1), .val (.long ((p1.toInt64) - (p1.toInt64))), .second, .val (.int (if p1 < p1 then (0 : Int32) else (1 : Int32))), .val (.int (if p1 = p1 then (1 : Int32) else (0 : Int32))), .val (.int (1 : Int32)), .val (.int (0 : Int32))] [])) _
          refine XS.iconst X23.here hx rfl (hb hby at_95) ?_
          show Steps _ _ _ (T23.setTop (mkF m 96 #[.val (.int p1), .val (.int p2), .val (.int p3), .val (.int (1 : Int32)), .val (.int p1), .val (.long ((p1.toInt64) - (p1.toInt64))), .second, .val (.int (if p1 < p1 then (0 : Int32) else (1 : Int32))), .val (.int (if p1 = p1 then (1 : Int32) else (0 : Int32))), .val (.int (1 : Int32)), .val (.int (0 : Int32))] [(.int (1 : Int32))])) _
          refine XS.goto X23.here hx rfl (pc0 := 96) (pc' := 100) rfl (hb hby at_96) (by decide) (by decide) ?_
          exact k
        obtain ⟨fs, hr, hrun, hended, hW, hsame⟩ := X23.leave (v := some (.int (1 : Int32))) (fun h => by rw [Bd.returns] at h; cases h)
        refine ⟨_, _, go31 _ ?_, hrun, hended, _, _, rfl, ?_, ⟨_, rfl⟩, hW, hsame.mono (by decide) (by decide)⟩
        · exact retN X23 hx (t := .boolean) Bd.returns (by simp) (hb hby at_100) hr
        · show QL (.int 1) h0 n0 _ T23.heap _
          rw [e23]
          exact ⟨rfl, N23⟩
set_option maxRecDepth 65536 in
set_option maxHeartbeats 40000000 in
theorem comes_1 {Post : Tables → Env → Array Value → State → Outcome → State → Prop} (hpost : ∀ tb e args s v u, (limb_1_1.after args s (.returned v) u = true ∧ limb_1_2.after args s (.returned v) u = true ∧ True) → FrameEnd s (.returned v) u (Jvm.fieldLocs frame_1_writes args s ++ Jvm.arrayLocs frame_1_arrays args s ++ Jvm.staticLocs frame_1_statics s) 0 0 → Post tb e args s (.returned v) u) :
    ArmFor flags0 classFile x code maxLocals ret World_1 tables_1 room_1 Calls_1 rest_1 Pre_1 Post := by
  intro l hfl _ _ p e ha hc hk s m args below hf hA hF happ hP
  obtain ⟨hcalls, hrest, hpre⟩ := hP
  obtain ⟨-, -, -, hnamed, -, -, -, hat⟩ := (Spec.applies_iff hf).mp happ
  obtain ⟨hg, hn⟩ := and_e (Cond.before_iff.mp (show (Jvm.Cond.and given_1 narrow_1).before args s = true from hpre))
  obtain ⟨gc, g0⟩ := and_e hg
  obtain ⟨ga0, g1⟩ := and_e g0
  obtain ⟨ga1, g2⟩ := and_e g1
  have ga2 := g2
  obtain ⟨w0, w1, w2, rfl⟩ : ∃ w0 w1 w2 : Value, args = #[w0, w1, w2] := by
    have hs : args.size = 3 := by simpa [Cond.value, given_1] using gc
    obtain ⟨L⟩ := args
    match L, hs with
    | [w0, w1, w2], _ => exact ⟨w0, w1, w2, rfl⟩
  have hw := fun d (hd : d ∈ tables_1) => atoms_spec (ws := Jvm.Cond.code x code maxLocals ret :: tables_1) hat d (List.mem_cons_of_mem _ hd)
  have hfit : Fit s := fun {y c} hc i hi => by
    obtain ⟨ha, rfl⟩ := Array.getElem?_eq_some_iff.mp hc
    have q := List.all_eq_true.mp ((Array.all_eq_true_iff_forall_mem.mp hF) _ (Array.getElem_mem ha)) i (List.mem_range.mpr hi)
    simpa [Array.getElem?_eq_getElem hi] using q
  obtain ⟨i0, ei0⟩ := is_v ga0
  obtain rfl : w0 = (.int i0) := Option.some.inj ei0
  obtain ⟨i1, ei1⟩ := is_v ga1
  obtain rfl : w1 = (.int i1) := Option.some.inj ei1
  obtain ⟨i2, ei2⟩ := is_v ga2
  obtain rfl : w2 = (.int i2) := Option.some.inj ei2
  obtain ⟨n1, m1⟩ := and_e hn
  obtain ⟨n2, m2⟩ := and_e m1
  obtain ⟨n3, m3⟩ := and_e m2
  obtain ⟨n4, m4⟩ := and_e m3
  obtain ⟨n5, m5⟩ := and_e m4
  obtain ⟨n6, m6⟩ := and_e m5
  obtain ⟨n7, m7⟩ := and_e m6
  have n8 := m7
  obtain ⟨wR, eR⟩ := exa_v n1
  obtain ⟨wW, eW⟩ := exa_v n6
  obtain ⟨wM, eM⟩ := arr_v n2
  obtain ⟨cl, Ar⟩ := Arr.start eM n2
  have hat0 : s.arrayAt? wM = some cl := Ar.fin (Vm.Alike.refl _)
  obtain ⟨hlen, h31⟩ := own_len n3 eM hat0
  have hsz : cl.slots.size = 2 := by
    have q := own_size hlen h31
    have a1 : (2 : Int32).toInt = 2 := by decide
    omega
  have key := rm0 l s _ hw tables_1 i0 i1 i2 wM cl wR wW s.heap s.heap.size (Nat.le_refl _) (Sta.start eM (Or.inr ⟨(wk hw 8 rfl), (wk hw 9 rfl)⟩)) Ar (by rw [hsz]; decide) (own_elemI n5 eM (j := 0) rfl Ar.1) (by rw [hsz]; decide) (own_elemI n8 eM (j := 1) rfl Ar.1) (Sta.start eR (Or.inr ⟨(wk hw 1 rfl), (wk hw 2 rfl)⟩)) (Exa.start eR n1) (Fld.start (own_fldI n4 eR)) (Sta.start eW (Or.inr ⟨(wk hw 1 rfl), (wk hw 20 rfl)⟩)) (Exa.start eW n6) (Fld.start (own_fldI n7 eW)) p e ha hc hk s m _ below hf ((Spec.applies_iff_loose hf).mp happ).1 ⟨rfl, State.Warmed39.refl s, rfl⟩ trivial
  obtain ⟨n, o, h1, h2, h3, _, L, rfl, ⟨rfl, N⟩, hq⟩ := key
  refine ⟨n, _, h1, h2, h3, hpost _ _ _ _ _ _ ⟨Cond.after_iff.mpr rfl, Cond.after_iff.mpr (eq_i res_at (Term.int_eval (1)) rfl), trivial⟩ ⟨hq.1, hq.2.1, (hq.2.2.sift fun y hy => Or.inr (N y hy)).mono (by decide) (by decide)⟩⟩
theorem main_1_1 : Claimed_1_1 := comes_1 fun _ _ _ _ _ _ h hF => ⟨h.1, hF⟩
theorem main_1_2 : Claimed_1_2 := comes_1 fun _ _ _ _ _ _ h hF => ⟨h.2.1, hF⟩
end Jvm.Pilot.@@N@@
namespace Jvm.Pilot.@@N@@
open Jvm Jvm.ClassFile Sem Op Lib Jvm.Free Jvm.Stand Jvm.Pilot.@@N@@.Jvm.D
/-! MADE BY PROGRAM (witnessworld.py) out of the Statement's table words and the real class files: 14 classes; the members and pool entries that the words name. The judged class is class 1, her method 1. -/
namespace start1
open Jvm.ClassFile
def u (s : String) : CpInfo := .utf8 (stringToUtf16 s)
/-- a pool by its gaps: so many unusable entries, then the entry; so many at the end -/
def gap : Nat → List CpInfo → List CpInfo
  | 0, r => r
  | n + 1, r => .unusable :: gap n r
def poolList (es : List (Nat × CpInfo)) (last : Nat) : List CpInfo := es.foldr (fun e r => gap e.1 (e.2 :: r)) (gap last [])
def pool (es : List (Nat × CpInfo)) (last : Nat) : Array CpInfo := ⟨poolList es last⟩
def fileOf (pool : Array CpInfo) (this : Nat) (attrs : Array Attribute := #[]) (ms : Array MethodInfo := #[]) (fl : Nat := 33) (sup : Nat := 0) (ifs : Array Nat := #[]) (fds : Array FieldInfo := #[]) : ClassFile where
  minorVersion := 0
  majorVersion := 65
  constantPool := pool
  accessFlags := fl
  thisClass := this
  superClass := sup
  interfaces := ifs
  fields := fds
  methods := ms
  attributes := attrs
def plain (name : String) (sup : Option ClassId) : Class where
  name := name
  kind := .ordinary
  loader := none
  accessFlags := 33
  super := sup
  interfaces := #[]
  cf := none
  fields := #[]
  methods := #[]
  instanceTypes := #[]
  staticTypes := #[]
  resolved := #[]
  callSites := []
  init := .initialized
  statics := none
  mirror := none

def pool0 : Array CpInfo := pool [(5, u "<init>"), (0, u "()V"), (1, .class_ 10), (1, u "java/lang/Object")] 113

def k0m0 : Method := { name := "<init>", desc := "()V", sig := { parameters := [], returnType := none }, accessFlags := 1, code := none }
/-- java/lang/Object -/
def k0 : Class := { plain "java/lang/Object" none with
  accessFlags := 33
  interfaces := #[]
  cf := some (fileOf pool0 8 #[] #[{ accessFlags := 1, nameIndex := 5, descriptorIndex := 6, attributes := #[] }] 33 0 #[] #[])
  fields := #[]
  methods := #[k0m0]
  instanceTypes := #[]
  staticTypes := #[]
  resolved := Array.replicate 124 none
  statics := none }

def pool1 : Array CpInfo := pool [(2, .class_ 4), (1, u "java/lang/Object"), (0, u "<init>"), (0, u "()V"), (0, .fieldref 8 9), (0, .class_ 10), (0, .nameAndType 11 12), (0, u "com/example/karc/karc/Flow"), (0, u "READ"), (0, u "Lcom/example/karc/karc/Flow;"), (0, .methodref 14 15), (0, .class_ 16), (0, .nameAndType 17 18), (0, u "com/example/karc/karc/SecurityLevels"), (0, u "allows"), (0, u "(Lcom/example/karc/karc/Flow;II)Z"), (0, .fieldref 8 20), (0, .nameAndType 21 12), (0, u "WRITE"), (0, .class_ 23), (0, u "com/example/karc/karc/SecurityLevelsAllowsPinLaw"), (2, u "law"), (0, u "(III)Z")] 3

def k1m0 : Method := { name := "<init>", desc := "()V", sig := { parameters := [], returnType := none }, accessFlags := 2, code := none }
def k1c1 : Code := { maxStack := 4, maxLocals := 11, code := code, exceptionTable := #[], attributes := #[] }
def k1m1 : Method := { name := "law", desc := "(III)Z", sig := { parameters := [.int, .int, .int], returnType := some .boolean }, accessFlags := 9, code := some k1c1 }
/-- com/example/karc/karc/SecurityLevelsAllowsPinLaw -/
def k1 : Class := { plain "com/example/karc/karc/SecurityLevelsAllowsPinLaw" (some 0) with
  accessFlags := 49
  interfaces := #[]
  cf := some (fileOf pool1 22 #[] #[{ accessFlags := 2, nameIndex := 5, descriptorIndex := 6, attributes := #[] }, { accessFlags := 9, nameIndex := 26, descriptorIndex := 27, attributes := #[] }] 49 2 #[] #[])
  fields := #[]
  methods := #[k1m0, k1m1]
  instanceTypes := #[]
  staticTypes := #[]
  resolved := Array.replicate 31 none
  statics := none }

def pool2 : Array CpInfo := pool [(1, .class_ 2), (0, u "java/lang/constant/Constable"), (0, .class_ 4), (0, u "java/lang/Object")] 6

/-- java/lang/constant/Constable -/
def k2 : Class := { plain "java/lang/constant/Constable" (some 0) with
  accessFlags := 1537
  interfaces := #[]
  cf := some (fileOf pool2 1 #[] #[] 1537 3 #[] #[])
  fields := #[]
  methods := #[]
  instanceTypes := #[]
  staticTypes := #[]
  resolved := Array.replicate 11 none
  statics := none }

def pool3 : Array CpInfo := pool [(1, .class_ 2), (0, u "java/lang/Comparable"), (0, .class_ 4), (0, u "java/lang/Object")] 7

/-- java/lang/Comparable -/
def k3 : Class := { plain "java/lang/Comparable" (some 0) with
  accessFlags := 1537
  interfaces := #[]
  cf := some (fileOf pool3 1 #[] #[] 1537 3 #[] #[])
  fields := #[]
  methods := #[]
  instanceTypes := #[]
  staticTypes := #[]
  resolved := Array.replicate 12 none
  statics := none }

def pool4 : Array CpInfo := pool [(1, .class_ 2), (0, u "java/io/Serializable"), (0, .class_ 4), (0, u "java/lang/Object")] 2

/-- java/io/Serializable -/
def k4 : Class := { plain "java/io/Serializable" (some 0) with
  accessFlags := 1537
  interfaces := #[]
  cf := some (fileOf pool4 1 #[] #[] 1537 3 #[] #[])
  fields := #[]
  methods := #[]
  instanceTypes := #[]
  staticTypes := #[]
  resolved := Array.replicate 7 none
  statics := none }

def pool5 : Array CpInfo := pool [(2, .class_ 4), (1, u "java/lang/Enum"), (0, u "name"), (0, u "Ljava/lang/String;"), (0, .fieldref 2 8), (0, .nameAndType 9 10), (0, u "ordinal"), (0, u "I"), (1, .class_ 14), (1, u "java/lang/Object"), (4, u "hash"), (86, .class_ 108), (1, u "java/lang/Enum$EnumDesc"), (2, .class_ 112), (0, u "java/lang/constant/Constable"), (0, .class_ 114), (0, u "java/lang/Comparable"), (0, .class_ 116), (0, u "java/io/Serializable"), (9, u "()I")] 77

def k5c0 : Code := { maxStack := 1, maxLocals := 1, code := jdk_37_method_2_code, exceptionTable := #[], attributes := #[] }
def k5m0 : Method := { name := "ordinal", desc := "()I", sig := { parameters := [], returnType := some .int }, accessFlags := 17, code := some k5c0 }
/-- java/lang/Enum -/
def k5 : Class := { plain "java/lang/Enum" (some 0) with
  accessFlags := 1057
  interfaces := #[2, 3, 4]
  cf := some (fileOf pool5 2 #[.nestMembers #[106]] #[{ accessFlags := 17, nameIndex := 9, descriptorIndex := 126, attributes := #[] }] 1057 12 #[111, 113, 115] #[{ accessFlags := 18, nameIndex := 5, descriptorIndex := 6, attributes := #[] }, { accessFlags := 18, nameIndex := 9, descriptorIndex := 10, attributes := #[] }, { accessFlags := 2, nameIndex := 19, descriptorIndex := 10, attributes := #[] }])
  fields := #[{ name := "name", type := (.object "java/lang/String"), accessFlags := 18, slot := 0, constantValue := 0 }, { name := "ordinal", type := .int, accessFlags := 18, slot := 1, constantValue := 0 }, { name := "hash", type := .int, accessFlags := 2, slot := 2, constantValue := 0 }]
  methods := #[k5m0]
  instanceTypes := #[(.object "java/lang/String"), .int, .int]
  staticTypes := #[]
  resolved := Array.replicate 204 none
  statics := none }

def pool6 : Array CpInfo := pool [(1, .class_ 2), (0, u "com/example/karc/karc/Flow"), (2, u "READ"), (0, u "Lcom/example/karc/karc/Flow;"), (2, u "WRITE"), (2, u "$VALUES"), (0, u "[Lcom/example/karc/karc/Flow;"), (6, .class_ 22), (1, u "java/lang/Enum"), (8, u "word"), (0, u "Ljava/lang/String;")] 111

/-- com/example/karc/karc/Flow -/
def k6 : Class := { plain "com/example/karc/karc/Flow" (some 5) with
  accessFlags := 16433
  interfaces := #[]
  cf := some (fileOf pool6 1 #[] #[] 16433 20 #[] #[{ accessFlags := 16409, nameIndex := 5, descriptorIndex := 6, attributes := #[] }, { accessFlags := 16409, nameIndex := 9, descriptorIndex := 6, attributes := #[] }, { accessFlags := 18, nameIndex := 31, descriptorIndex := 32, attributes := #[] }, { accessFlags := 4122, nameIndex := 12, descriptorIndex := 13, attributes := #[] }])
  fields := #[{ name := "READ", type := (.object "com/example/karc/karc/Flow"), accessFlags := 16409, slot := 0, constantValue := 0 }, { name := "WRITE", type := (.object "com/example/karc/karc/Flow"), accessFlags := 16409, slot := 1, constantValue := 0 }, { name := "word", type := (.object "java/lang/String"), accessFlags := 18, slot := 3, constantValue := 0 }, { name := "$VALUES", type := (.array (.object "com/example/karc/karc/Flow")), accessFlags := 4122, slot := 2, constantValue := 0 }]
  methods := #[]
  instanceTypes := #[(.object "java/lang/String"), .int, .int, (.object "java/lang/String")]
  staticTypes := #[(.object "com/example/karc/karc/Flow"), (.object "com/example/karc/karc/Flow"), (.array (.object "com/example/karc/karc/Flow"))]
  resolved := Array.replicate 144 none
  statics := some 0 }

def pool7 : Array CpInfo := pool [(2, .class_ 4), (1, u "java/lang/Object"), (9, .class_ 16), (1, u "com/example/karc/karc/SecurityLevels"), (0, u "levels"), (0, u "Ljava/util/List;"), (6, u "()I"), (24, u "clearance"), (0, u "Ljava/util/Map;"), (2, u "classification"), (2, u "roleLevels"), (38, .fieldref 97 98), (0, .class_ 99), (0, .nameAndType 100 101), (0, u "com/example/karc/karc/SecurityLevels$1"), (0, u "$SwitchMap$com$example$karc$karc$Flow"), (0, u "[I"), (0, .methodref 103 104), (0, .class_ 105), (0, .nameAndType 106 25), (0, u "com/example/karc/karc/Flow"), (0, u "ordinal"), (26, u "allows"), (0, u "(Lcom/example/karc/karc/Flow;II)Z"), (0, u "LOWEST"), (0, u "I")] 50

def k7c0 : Code := { maxStack := 4, maxLocals := 3, code := prog_19_method_8_code, exceptionTable := #[], attributes := #[] }
def k7m0 : Method := { name := "allows", desc := "(Lcom/example/karc/karc/Flow;II)Z", sig := { parameters := [(.object "com/example/karc/karc/Flow"), .int, .int], returnType := some .boolean }, accessFlags := 8, code := some k7c0 }
/-- com/example/karc/karc/SecurityLevels -/
def k7 : Class := { plain "com/example/karc/karc/SecurityLevels" (some 0) with
  accessFlags := 48
  interfaces := #[]
  cf := some (fileOf pool7 14 #[.nestMembers #[97]] #[{ accessFlags := 8, nameIndex := 133, descriptorIndex := 134, attributes := #[] }] 48 2 #[] #[{ accessFlags := 26, nameIndex := 135, descriptorIndex := 136, attributes := #[] }, { accessFlags := 18, nameIndex := 17, descriptorIndex := 18, attributes := #[] }, { accessFlags := 18, nameIndex := 50, descriptorIndex := 51, attributes := #[] }, { accessFlags := 18, nameIndex := 54, descriptorIndex := 51, attributes := #[] }, { accessFlags := 18, nameIndex := 57, descriptorIndex := 51, attributes := #[] }])
  fields := #[{ name := "LOWEST", type := .int, accessFlags := 26, slot := 0, constantValue := 0 }, { name := "levels", type := (.object "java/util/List"), accessFlags := 18, slot := 0, constantValue := 0 }, { name := "clearance", type := (.object "java/util/Map"), accessFlags := 18, slot := 1, constantValue := 0 }, { name := "classification", type := (.object "java/util/Map"), accessFlags := 18, slot := 2, constantValue := 0 }, { name := "roleLevels", type := (.object "java/util/Map"), accessFlags := 18, slot := 3, constantValue := 0 }]
  methods := #[k7m0]
  instanceTypes := #[(.object "java/util/List"), (.object "java/util/Map"), (.object "java/util/Map"), (.object "java/util/Map")]
  staticTypes := #[.int]
  resolved := Array.replicate 187 none
  statics := none }

def pool8 : Array CpInfo := pool [(8, .class_ 10), (1, u "com/example/karc/karc/SecurityLevels$1"), (0, u "$SwitchMap$com$example$karc$karc$Flow"), (0, u "[I"), (13, .class_ 27), (0, u "java/lang/Object"), (8, .class_ 37), (0, u "com/example/karc/karc/SecurityLevels")] 2

/-- com/example/karc/karc/SecurityLevels$1 -/
def k8 : Class := { plain "com/example/karc/karc/SecurityLevels$1" (some 0) with
  accessFlags := 4128
  interfaces := #[]
  cf := some (fileOf pool8 8 #[.nestHost 36] #[] 4128 26 #[] #[{ accessFlags := 4120, nameIndex := 11, descriptorIndex := 12, attributes := #[] }])
  fields := #[{ name := "$SwitchMap$com$example$karc$karc$Flow", type := (.array .int), accessFlags := 4120, slot := 0, constantValue := 0 }]
  methods := #[]
  instanceTypes := #[]
  staticTypes := #[(.array .int)]
  resolved := Array.replicate 40 none
  statics := some 1 }

def pool9 : Array CpInfo := pool [(1, u "java/lang/Cloneable"), (0, .class_ 1), (0, u "java/lang/Object"), (0, .class_ 3)] 3

/-- java/lang/Cloneable -/
def k9 : Class := { plain "java/lang/Cloneable" (some 0) with
  accessFlags := 1537
  interfaces := #[]
  cf := some (fileOf pool9 2 #[] #[] 1537 4 #[] #[])
  fields := #[]
  methods := #[]
  instanceTypes := #[]
  staticTypes := #[]
  resolved := Array.replicate 8 none
  statics := none }

/-- the primitive byte -/
def k10 : Class := { plain "byte" none with kind := .primitive 'B', accessFlags := 0x411 }
/-- [B -/
def k11 : Class := { plain "[B" (some 0) with kind := .array 10 .byte, interfaces := #[9, 4], accessFlags := 1041 }

/-- the primitive int -/
def k12 : Class := { plain "int" none with kind := .primitive 'I', accessFlags := 0x411 }
/-- [I -/
def k13 : Class := { plain "[I" (some 0) with kind := .array 12 .int, interfaces := #[9, 4], accessFlags := 1041 }

def heap : Heap := #[{ cls := 6, slots := #[.ref 3, .ref 4, .null], vm := .statics 6 },
  { cls := 8, slots := #[.ref 2], vm := .statics 8 },
  { cls := 13, slots := #[.int 1, .int 2], vm := .none },
  { cls := 6, slots := #[.null, .int 0, .int 0, .null], vm := .none },
  { cls := 6, slots := #[.null, .int 1, .int 0, .null], vm := .none }]
def classes : Array Class := #[k0, k1, k2, k3, k4, k5, k6, k7, k8, k9, k10, k11, k12, k13]
def interned : List (Array UInt16 × Addr) := []
def slotsUsed : Nat := 14
def theMethod : MethodId := ⟨1, 1⟩
def args0 : Array Value := #[.int 5, .int 7, .int 2]
def aboutOver (below : List Frame) : State where
  vm := { classes := classes, interned := interned.toArray }
  heap := heap
  slotsUsed := slotsUsed
  threads := #[{ frames := .invoking theMethod args0 :: below }]
def below0 : List Frame := [.native { method := ⟨0, 0⟩, args := #[] }]
def about1 : State := aboutOver below0
def p0 : Program := .bare "" "" ""
def e0 : Env := launch0.env 0 0 0
theorem w_frames : about1.frames = Frame.invoking theMethod args0 :: below0 := rfl
set_option maxRecDepth 65536 in
theorem w_args : argsFit about1.vm theMethod args0 = true := by decide +kernel
set_option maxRecDepth 65536 in
theorem w_heap : heapFits about1 = true := by decide +kernel
set_option maxRecDepth 65536 in
theorem w_runnable : about1.curStatus? = some .runnable := by decide +kernel
set_option maxRecDepth 65536 in
theorem w_alone : about1.alone = true := by decide +kernel
set_option maxRecDepth 65536 in
theorem w_named : about1.methodNamed? x = some theMethod := by decide +kernel
set_option maxRecDepth 65536 in
theorem w_hears : about1.hears theMethod below0 = true := by decide +kernel
set_option maxRecDepth 65536 in
theorem w_ripe : about1.ripe theMethod args0 below0 = true := by decide +kernel
theorem w_running : about1.status = .running := rfl
set_option maxRecDepth 65536 in
theorem w_room : about1.hasRoom e0.platform room_1 = true :=
  launch0.hasRoom_least _ room_1 (by decide +kernel) (by decide +kernel) (by decide +kernel) (by decide +kernel) (by decide +kernel) (by decide +kernel)
theorem allAtoms_all (ts : List Jvm.Cond) (a : Array Jvm.Value) (st : Jvm.State) : (allAtoms ts).before a st = ts.all (fun c => c.before a st) := by
  induction ts with
  | nil => rfl
  | cons c t ih =>
    show (Jvm.Cond.and c (allAtoms t)).before a st = _
    rw [Jvm.Cond.before_and, ih, List.all_cons]
def words1 : List Jvm.Cond := Jvm.Cond.code x code maxLocals ret :: tables_1
/-- a 'code' word, met by the world's own term for the bytes: nothing is compared byte by byte -/
theorem code_word {y : MethodName} {bytes : ByteArray} {mx : Nat} {rt : Option FieldType} {a : Array Value} {s : State} {m : MethodId} {meth : Method} {c : Code} (h1 : s.methodNamed? y = some m) (h2 : s.vm.method? m = some meth) (h3 : meth.code = some c) (h4 : c.code = bytes)
    (h5 : (c.maxLocals == mx && c.exceptionTable.isEmpty && decide (c.maxStack ≤ mostOperands) && decide (meth.sig.returnType = rt) && !meth.locks && decide (parseMethodDescriptor y.desc = some meth.sig)) = true) : (Jvm.Cond.code y bytes mx rt).before a s = true := by
  simp only [Bool.and_eq_true, beq_iff_eq, Bool.not_eq_true', decide_eq_true_eq] at h5
  obtain ⟨⟨⟨⟨⟨g1, g2⟩, g3⟩, g4⟩, g5⟩, g6⟩ := h5
  simp [Cond.before, Cond.holds, Cond.value, h1, h2, h3, h4, g1, g2, g3, g4, g5, g6]
def isCode : Jvm.Cond → Bool
  | .code _ _ _ _ => true
  | _ => false
theorem all_split {L : List Jvm.Cond} {P : Jvm.Cond → Bool} (h1 : L.all (fun c => isCode c || P c) = true) (h2 : ∀ c ∈ L.filter isCode, P c = true) : L.all P = true := by
  refine List.all_eq_true.mpr fun c hc => ?_
  have h := List.all_eq_true.mp h1 c hc
  rcases Bool.eq_false_or_eq_true (isCode c) with hi | hi
  · exact h2 c (List.mem_filter.mpr ⟨hc, hi⟩)
  · simpa [hi] using h
set_option maxRecDepth 65536 in
theorem w_c0 : (Jvm.Cond.code x code maxLocals ret).before args0 about1 = true := code_word (m := ⟨1, 1⟩) (meth := k1m1) (c := k1c1) (by decide +kernel) rfl rfl rfl (by decide +kernel)
set_option maxRecDepth 65536 in
theorem w_c1 : (Jvm.Cond.code ({ cls := "com/example/karc/karc/SecurityLevels", name := "allows", desc := "(Lcom/example/karc/karc/Flow;II)Z" } : Jvm.MethodName) prog_19_method_8_code (3 : Nat) (Option.some Jvm.ClassFile.FieldType.boolean)).before args0 about1 = true := code_word (m := ⟨7, 0⟩) (meth := k7m0) (c := k7c0) (by decide +kernel) rfl rfl rfl (by decide +kernel)
set_option maxRecDepth 65536 in
theorem w_c2 : (Jvm.Cond.code ({ cls := "java/lang/Enum", name := "ordinal", desc := "()I" } : Jvm.MethodName) jdk_37_method_2_code (1 : Nat) (Option.some Jvm.ClassFile.FieldType.int)).before args0 about1 = true := code_word (m := ⟨5, 0⟩) (meth := k5m0) (c := k5c0) (by decide +kernel) rfl rfl rfl (by decide +kernel)
def codes1 : List Jvm.Cond := [Jvm.Cond.code x code maxLocals ret, Jvm.Cond.code ({ cls := "com/example/karc/karc/SecurityLevels", name := "allows", desc := "(Lcom/example/karc/karc/Flow;II)Z" } : Jvm.MethodName) prog_19_method_8_code (3 : Nat) (Option.some Jvm.ClassFile.FieldType.boolean), Jvm.Cond.code ({ cls := "java/lang/Enum", name := "ordinal", desc := "()I" } : Jvm.MethodName) jdk_37_method_2_code (1 : Nat) (Option.some Jvm.ClassFile.FieldType.int)]
set_option maxRecDepth 65536 in
theorem codes_eq : words1.filter isCode = codes1 := rfl
theorem w_codes : ∀ c ∈ words1.filter isCode, c.before args0 about1 = true := by
  rw [codes_eq]
  intro c hc
  simp only [codes1, List.mem_cons, List.not_mem_nil, or_false] at hc
  rcases hc with rfl | rfl | rfl
  · exact w_c0
  · exact w_c1
  · exact w_c2
set_option maxRecDepth 65536 in
theorem w_t1 : words1.all (fun c => isCode c || c.before args0 about1) = true := by decide +kernel
theorem w_tables : (allAtoms (Jvm.Cond.code x code maxLocals ret :: tables_1)).before args0 about1 = true := by
  rw [allAtoms_all]
  show words1.all (fun c => c.before args0 about1) = true
  refine all_split ?_ w_codes
  rw [w_t1]
set_option maxRecDepth 65536 in
theorem w_case : (Jvm.Cond.and given_1 narrow_1).before args0 about1 = true := by decide +kernel
theorem w_applies : (headSpec (Jvm.Cond.code x code maxLocals ret :: tables_1) room_1).applies x e0.platform about1 = true :=
  (Spec.applies_iff w_frames).mpr ⟨w_running, w_runnable, w_alone, w_named, w_hears, w_ripe, w_room, w_tables⟩
theorem atStart : AtStart classFile x code maxLocals ret World_1 tables_1 room_1 Calls_1 rest_1 Pre_1 launch0 p0 e0 about1 theMethod args0 below0 :=
  ⟨lists_1, trivial, launch0.admits_env _ _ _, launch0.least_env, fairChoices_fair.cas, fairChoices_fair.clock, w_frames, w_args, w_heap, w_applies, trivial, trivial, w_case⟩
end start1
theorem witness_1 : WitnessClaimed_1 := ⟨start1.p0, start1.e0, start1.about1, start1.theMethod, start1.args0, start1.below0, start1.atStart⟩
end Jvm.Pilot.@@N@@
