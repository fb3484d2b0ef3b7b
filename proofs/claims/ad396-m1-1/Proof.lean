import JvmDerived
import JvmDerived.Pilot.@@N@@Statement
import JvmDerived.Pilot.@@N@@Code
set_option linter.unusedVariables false
set_option linter.unusedSimpArgs false
namespace Jvm.RoadKit
open Sem ClassFile Op Lib Jvm.Stand Jvm.Free Jvm.LawKit
section New
variable {p : Program} {l : Launch} {e : Env} {R : Room} {s : State} {m : MethodId} {args : Array Value} {below : List Frame} {meth : Method} {c : Code} {T : State} {locs : List Loc} {cells slots : Nat}
theorem retI (X : Stand p l e R s m args below meth c T locs cells slots) (hx : p.tables.exec = Jvm.exec) {pc : Nat} {Ls : Array Slot} {z : Int32} {rest : List Value} (hret : meth.sig.returnType = some .int) (hd : decode c.code pc = .ok (.ireturn, 1)) {fs : List Frame}
    (hl : ∀ (f : JFrame) (acts : List Action), f.method = m → f.locked = none → f.entered = [] → (doReturn e (T.setTop f) acts (some (.int z))).1 = T.setFrames fs) : Steps p.tables e below (T.setTop (mkF m pc Ls (.int z :: rest))) (T.setFrames fs) := by
  have hm' : T.vm.method? m = some meth := X.method'
  have hn : narrow .int (.int z) = .int z := rfl
  show Steps p.tables e below (T.setTop { method := m, pc := pc, locals := Ls, stack := _ :: rest, locked := none }) _
  jvm_step X.here [X.here.top, hx, hd, hm', hret, hn]
  first | (intro acts; rw [hl _ acts rfl rfl rfl]) | rw [hl _ _ rfl rfl rfl]
  exact Steps.refl _
end New
end Jvm.RoadKit
namespace Jvm.Pilot.@@N@@
open Jvm Jvm.ClassFile Sem Op Lib Jvm.Free Jvm.Stand Jvm.LawKit Jvm.RoadKit Bundle Jvm.Pilot.@@N@@.Jvm.D
theorem wk {a0 : Array Value} {Z : State} (hw : ∀ d ∈ tables_1, d.before a0 Z = true) {d : Jvm.Cond} (i : Nat) (h : tables_1[i]? = some d) : d.before a0 Z = true := hw _ (List.mem_of_getElem? h)
abbrev Go (tb : Tables) (e : Env) (below : List Frame) (T : State) (g : JFrame) (T0 : State) (g0 : JFrame) : Prop := ∀ t, Steps tb e below (T.setTop g) t → Steps tb e below (T0.setTop g0) t
theorem own_fldI {args : Array Value} {s : State} {t : Term} {C n d : String} {a : Addr} {k : Int32} (h : (Jvm.Cond.eq (Term.field t C n d) (Term.int k)).value args s none s [] = some true) (ht : t.eval args s none [] s = some (.ref a)) : s.fieldOf? a C n d = some (.int k) := by
  obtain ⟨x, y, e1, e2, k1, k2⟩ := cmp_v (Or.inl h)
  have e3 : (Term.int k).eval args s none [] s = some (.int k) := rfl
  obtain rfl : Value.int k = y := Option.some.inj (e3.symm.trans e2)
  obtain ⟨z, rfl⟩ := k2
  rw [fld_at ht] at e1
  have q : (Jvm.Cond.eq (Term.field t C n d) (Term.int k)).value args s none s [] = some (decide (z = k)) := by simp [Jvm.Cond.value, fld_at ht, e1, e3]
  rw [gotT q h] at e1
  exact e1
theorem own_fldR {args : Array Value} {s : State} {t u : Term} {C n d : String} {a b : Addr} (h : (Jvm.Cond.eq (Term.field t C n d) u).value args s none s [] = some true) (ht : t.eval args s none [] s = some (.ref a)) (hu : u.eval args s none [] s = some (.ref b)) : s.fieldOf? a C n d = some (.ref b) := by
  obtain ⟨x, y, e1, e2, k1, k2⟩ := cmp_v (Or.inl h)
  obtain rfl : Value.ref b = y := Option.some.inj (hu.symm.trans e2)
  have q := eq_R e1 hu k2.2 rfl
  rw [gotT q h, fld_at ht] at e1
  exact e1
theorem own_fldN {args : Array Value} {s : State} {t : Term} {C n d : String} {a : Addr} (h : (Jvm.Cond.eq (Term.field t C n d) Term.null).value args s none s [] = some true) (ht : t.eval args s none [] s = some (.ref a)) : s.fieldOf? a C n d = some .null := by
  have e := null_v h
  rw [fld_at ht] at e
  exact e
def QP (r : Value) (h0 : Heap) (n0 : Nat) (v : Option Value) (h : Heap) (L : List Loc) : Prop := v = some r ∧ Fr n0 L ∧ h = h0
def QL (r : Value) (h0 : Heap) (n0 : Nat) (v : Option Value) (h : Heap) (L : List Loc) : Prop := v = some r ∧ Fr n0 L
theorem pn_1 : plainName "com/example/cyclebook/cyclebook/Posting$Type" = true := by first | (simp [plainName, overriddenIn]; done) | decide +kernel
theorem ef_1 (m : MethodId) (x0 : Addr) : entryFrame m #[(.ref x0)] 1 = mkF m 0 #[.val (.ref x0)] [] := by first | (simp [entryFrame, mkF, argsToLocals, Value.category]; done) | rfl
theorem d1_0 : decode prog_64_method_7_code 0 = .ok (.aload_n 0, 1) := by decide +kernel
theorem d1_1 : decode prog_64_method_7_code 1 = .ok (.getfield 42, 3) := by decide +kernel
theorem d1_4 : decode prog_64_method_7_code 4 = .ok (.ifnull 7, 3) := by decide +kernel
theorem d1_7 : decode prog_64_method_7_code 7 = .ok (.iconst 1, 1) := by decide +kernel
theorem d1_8 : decode prog_64_method_7_code 8 = .ok (.goto 4, 3) := by decide +kernel
theorem d1_12 : decode prog_64_method_7_code 12 = .ok (.ireturn, 1) := by decide +kernel
set_option maxRecDepth 65536 in
set_option maxHeartbeats 40000000 in
theorem rm1_y (l : Launch) (Z : State) (a0 : Array Value) (hw : ∀ d ∈ tables_1, d.before a0 Z = true) (ws : List Jvm.Cond) (a1 : Addr) (w2 : Addr) (h0 : Heap) (n0 : Nat) (Z0 : n0 ≤ h0.size) (F_a1 : Fld Z h0 a1 "com/example/cyclebook/cyclebook/Posting$Type" "debt" "Lcom/example/cyclebook/cyclebook/Debt;" (.ref w2)) :
    MetFree l (⟨"com/example/cyclebook/cyclebook/Posting$Type", "isDebit", "()Z"⟩ : MethodName) (head1 (Jvm.Cond.code (⟨"com/example/cyclebook/cyclebook/Posting$Type", "isDebit", "()Z"⟩ : MethodName) prog_64_method_7_code 1 (some .boolean) :: ws) ({ frames := 0, cells := 0, slots := 0, locals := 0 } : Room)) (fun a U => a = #[(.ref a1)] ∧ Z.Warmed39 U.vm ∧ U.heap = h0) (fun _ _ _ _ _ => True) (fun _ U o U' => ∃ v L, o = .returned v ∧ QP (.int (1 : Int32)) h0 n0 v U'.heap L ∧ FrameEnd U o U' L ({ frames := 0, cells := 0, slots := 0, locals := 0 } : Room).cells ({ frames := 0, cells := 0, slots := 0, locals := 0 } : Room).slots) := by
  refine MetFree.of_bodySF (plainFor_of_name pn_1) hisR ?_
  intro p e s m args below meth c s₁ Bd hml0 hP hK
  obtain ⟨rfl, hZ, hh⟩ := hP
  have hx := Bd.exec
  have hby := Bd.bytes
  have hml : c.maxLocals = 1 := hml0
  have hown : s.vm.findClass "com/example/cyclebook/cyclebook/Posting$Type" = some m.cls := findClass_of_methodNamed Bd.named
  have hnm := (name_of_methodNamed Bd.named Bd.method).1
  have X0 : Stand p l e ({ frames := 0, cells := 0, slots := 0, locals := 0 } : Room) s m #[(.ref a1)] below meth c s₁ [] 0 0 := Stand.of_body Bd
  have e0 : s₁.heap = h0 := by rw [← hh, Bd.state]; rfl
  have N0 := Fr.nil n0
  have go0 : Go p.tables e below s₁ (mkF m 0 #[.val (.ref a1)] []) s₁ (entryFrame m #[(.ref a1)] 1) := fun t k => castTop (ef_1 m a1) k
  have go1 : Go p.tables e below s₁ (mkF m 1 #[.val (.ref a1)] [(.ref a1)]) s₁ (entryFrame m #[(.ref a1)] 1) := by
    intro t k
    refine go0 t ?_
    show Steps _ _ _ (s₁.setTop (mkF m 0 #[.val (.ref a1)] [])) _
    refine XS.aloadN X0.here hx rfl (hb hby d1_0) rfl rfl ?_
    exact k
  obtain ⟨T2, X2, e2, st2⟩ := getF X0 hx hZ hown (host := "") (Or.inl (wk hw 9 rfl)) Via.refl e0 F_a1 (g := (mkF m 1 #[.val (.ref a1)] [(.ref a1)])) rfl rfl (hb hby d1_1)
  have go3 : Go p.tables e below T2 (mkF m 12 #[.val (.ref a1)] [(.int (1 : Int32))]) s₁ (entryFrame m #[(.ref a1)] 1) := by
    intro t k
    refine go1 t ?_
    show Steps _ _ _ (s₁.setTop (mkF m 1 #[.val (.ref a1)] [(.ref a1)])) _
    refine st2 _ ?_
    show Steps _ _ _ (T2.setTop (mkF m 4 #[.val (.ref a1)] [(.ref w2)])) _
    refine XS.ifnullNo X2.here hx rfl (hb hby d1_4) rfl ?_
    show Steps _ _ _ (T2.setTop (mkF m 7 #[.val (.ref a1)] [])) _
    refine XS.iconst X2.here hx rfl (hb hby d1_7) ?_
    show Steps _ _ _ (T2.setTop (mkF m 8 #[.val (.ref a1)] [(.int (1 : Int32))])) _
    refine XS.goto X2.here hx rfl (pc0 := 8) (pc' := 12) rfl (hb hby d1_8) (by decide) (by decide) ?_
    exact k
  obtain ⟨fs, hr, hrun, hended, hW, hsame⟩ := X2.leave (v := some (.int (1 : Int32))) (fun h => by rw [Bd.returns] at h; cases h)
  refine ⟨_, _, go3 _ ?_, hrun, hended, _, _, rfl, ?_, ⟨_, rfl⟩, hW, hsame.mono (by decide) (by decide)⟩
  · exact retN X2 hx (t := .boolean) Bd.returns (by simp) (hb hby d1_12) hr
  · show QP (.int (1 : Int32)) h0 n0 _ T2.heap _
    rw [e2]
    exact ⟨rfl, N0, rfl⟩
theorem d1_11 : decode prog_64_method_7_code 11 = .ok (.iconst 0, 1) := by decide +kernel
set_option maxRecDepth 65536 in
set_option maxHeartbeats 40000000 in
theorem rm1_n (l : Launch) (Z : State) (a0 : Array Value) (hw : ∀ d ∈ tables_1, d.before a0 Z = true) (ws : List Jvm.Cond) (a1 : Addr) (h0 : Heap) (n0 : Nat) (Z0 : n0 ≤ h0.size) (F_a1 : Fld Z h0 a1 "com/example/cyclebook/cyclebook/Posting$Type" "debt" "Lcom/example/cyclebook/cyclebook/Debt;" .null) :
    MetFree l (⟨"com/example/cyclebook/cyclebook/Posting$Type", "isDebit", "()Z"⟩ : MethodName) (head1 (Jvm.Cond.code (⟨"com/example/cyclebook/cyclebook/Posting$Type", "isDebit", "()Z"⟩ : MethodName) prog_64_method_7_code 1 (some .boolean) :: ws) ({ frames := 0, cells := 0, slots := 0, locals := 0 } : Room)) (fun a U => a = #[(.ref a1)] ∧ Z.Warmed39 U.vm ∧ U.heap = h0) (fun _ _ _ _ _ => True) (fun _ U o U' => ∃ v L, o = .returned v ∧ QP (.int (0 : Int32)) h0 n0 v U'.heap L ∧ FrameEnd U o U' L ({ frames := 0, cells := 0, slots := 0, locals := 0 } : Room).cells ({ frames := 0, cells := 0, slots := 0, locals := 0 } : Room).slots) := by
  refine MetFree.of_bodySF (plainFor_of_name pn_1) hisR ?_
  intro p e s m args below meth c s₁ Bd hml0 hP hK
  obtain ⟨rfl, hZ, hh⟩ := hP
  have hx := Bd.exec
  have hby := Bd.bytes
  have hml : c.maxLocals = 1 := hml0
  have hown : s.vm.findClass "com/example/cyclebook/cyclebook/Posting$Type" = some m.cls := findClass_of_methodNamed Bd.named
  have hnm := (name_of_methodNamed Bd.named Bd.method).1
  have X0 : Stand p l e ({ frames := 0, cells := 0, slots := 0, locals := 0 } : Room) s m #[(.ref a1)] below meth c s₁ [] 0 0 := Stand.of_body Bd
  have e0 : s₁.heap = h0 := by rw [← hh, Bd.state]; rfl
  have N0 := Fr.nil n0
  have go0 : Go p.tables e below s₁ (mkF m 0 #[.val (.ref a1)] []) s₁ (entryFrame m #[(.ref a1)] 1) := fun t k => castTop (ef_1 m a1) k
  have go1 : Go p.tables e below s₁ (mkF m 1 #[.val (.ref a1)] [(.ref a1)]) s₁ (entryFrame m #[(.ref a1)] 1) := by
    intro t k
    refine go0 t ?_
    show Steps _ _ _ (s₁.setTop (mkF m 0 #[.val (.ref a1)] [])) _
    refine XS.aloadN X0.here hx rfl (hb hby d1_0) rfl rfl ?_
    exact k
  obtain ⟨T2, X2, e2, st2⟩ := getF X0 hx hZ hown (host := "") (Or.inl (wk hw 9 rfl)) Via.refl e0 F_a1 (g := (mkF m 1 #[.val (.ref a1)] [(.ref a1)])) rfl rfl (hb hby d1_1)
  have go3 : Go p.tables e below T2 (mkF m 12 #[.val (.ref a1)] [(.int (0 : Int32))]) s₁ (entryFrame m #[(.ref a1)] 1) := by
    intro t k
    refine go1 t ?_
    show Steps _ _ _ (s₁.setTop (mkF m 1 #[.val (.ref a1)] [(.ref a1)])) _
    refine st2 _ ?_
    show Steps _ _ _ (T2.setTop (mkF m 4 #[.val (.ref a1)] [.null])) _
    refine XS.ifnullYes X2.here hx rfl (pc0 := 4) (pc' := 11) rfl (hb hby d1_4) rfl (by decide) (by decide) ?_
    show Steps _ _ _ (T2.setTop (mkF m 11 #[.val (.ref a1)] [])) _
    refine XS.iconst X2.here hx rfl (hb hby d1_11) ?_
    exact k
  obtain ⟨fs, hr, hrun, hended, hW, hsame⟩ := X2.leave (v := some (.int (0 : Int32))) (fun h => by rw [Bd.returns] at h; cases h)
  refine ⟨_, _, go3 _ ?_, hrun, hended, _, _, rfl, ?_, ⟨_, rfl⟩, hW, hsame.mono (by decide) (by decide)⟩
  · exact retN X2 hx (t := .boolean) Bd.returns (by simp) (hb hby d1_12) hr
  · show QP (.int (0 : Int32)) h0 n0 _ T2.heap _
    rw [e2]
    exact ⟨rfl, N0, rfl⟩
theorem pn_2 : plainName "com/example/cyclebook/cyclebook/Posting$Type" = true := by first | (simp [plainName, overriddenIn]; done) | decide +kernel
theorem ef_2 (m : MethodId) (x0 : Addr) : entryFrame m #[(.ref x0)] 1 = mkF m 0 #[.val (.ref x0)] [] := by first | (simp [entryFrame, mkF, argsToLocals, Value.category]; done) | rfl
theorem d2_0 : decode prog_64_method_8_code 0 = .ok (.aload_n 0, 1) := by decide +kernel
theorem d2_1 : decode prog_64_method_8_code 1 = .ok (.getfield 42, 3) := by decide +kernel
theorem d2_4 : decode prog_64_method_8_code 4 = .ok (.areturn, 1) := by decide +kernel
set_option maxRecDepth 65536 in
set_option maxHeartbeats 40000000 in
theorem rm2_y (l : Launch) (Z : State) (a0 : Array Value) (hw : ∀ d ∈ tables_1, d.before a0 Z = true) (ws : List Jvm.Cond) (a1 : Addr) (w2 : Addr) (h0 : Heap) (n0 : Nat) (Z0 : n0 ≤ h0.size) (F_a1 : Fld Z h0 a1 "com/example/cyclebook/cyclebook/Posting$Type" "debt" "Lcom/example/cyclebook/cyclebook/Debt;" (.ref w2)) :
    MetFree l (⟨"com/example/cyclebook/cyclebook/Posting$Type", "debt", "()Lcom/example/cyclebook/cyclebook/Debt;"⟩ : MethodName) (head1 (Jvm.Cond.code (⟨"com/example/cyclebook/cyclebook/Posting$Type", "debt", "()Lcom/example/cyclebook/cyclebook/Debt;"⟩ : MethodName) prog_64_method_8_code 1 (some (.object "com/example/cyclebook/cyclebook/Debt")) :: ws) ({ frames := 0, cells := 0, slots := 0, locals := 0 } : Room)) (fun a U => a = #[(.ref a1)] ∧ Z.Warmed39 U.vm ∧ U.heap = h0) (fun _ _ _ _ _ => True) (fun _ U o U' => ∃ v L, o = .returned v ∧ QP (.ref w2) h0 n0 v U'.heap L ∧ FrameEnd U o U' L ({ frames := 0, cells := 0, slots := 0, locals := 0 } : Room).cells ({ frames := 0, cells := 0, slots := 0, locals := 0 } : Room).slots) := by
  refine MetFree.of_bodySF (plainFor_of_name pn_2) hisR ?_
  intro p e s m args below meth c s₁ Bd hml0 hP hK
  obtain ⟨rfl, hZ, hh⟩ := hP
  have hx := Bd.exec
  have hby := Bd.bytes
  have hml : c.maxLocals = 1 := hml0
  have hown : s.vm.findClass "com/example/cyclebook/cyclebook/Posting$Type" = some m.cls := findClass_of_methodNamed Bd.named
  have hnm := (name_of_methodNamed Bd.named Bd.method).1
  have X0 : Stand p l e ({ frames := 0, cells := 0, slots := 0, locals := 0 } : Room) s m #[(.ref a1)] below meth c s₁ [] 0 0 := Stand.of_body Bd
  have e0 : s₁.heap = h0 := by rw [← hh, Bd.state]; rfl
  have N0 := Fr.nil n0
  have go0 : Go p.tables e below s₁ (mkF m 0 #[.val (.ref a1)] []) s₁ (entryFrame m #[(.ref a1)] 1) := fun t k => castTop (ef_2 m a1) k
  have go1 : Go p.tables e below s₁ (mkF m 1 #[.val (.ref a1)] [(.ref a1)]) s₁ (entryFrame m #[(.ref a1)] 1) := by
    intro t k
    refine go0 t ?_
    show Steps _ _ _ (s₁.setTop (mkF m 0 #[.val (.ref a1)] [])) _
    refine XS.aloadN X0.here hx rfl (hb hby d2_0) rfl rfl ?_
    exact k
  obtain ⟨T2, X2, e2, st2⟩ := getF X0 hx hZ hown (host := "") (Or.inl (wk hw 9 rfl)) Via.refl e0 F_a1 (g := (mkF m 1 #[.val (.ref a1)] [(.ref a1)])) rfl rfl (hb hby d2_1)
  have go3 : Go p.tables e below T2 (mkF m 4 #[.val (.ref a1)] [(.ref w2)]) s₁ (entryFrame m #[(.ref a1)] 1) := by
    intro t k
    refine go1 t ?_
    show Steps _ _ _ (s₁.setTop (mkF m 1 #[.val (.ref a1)] [(.ref a1)])) _
    refine st2 _ ?_
    exact k
  obtain ⟨fs, hr, hrun, hended, hW, hsame⟩ := X2.leave (v := some (.ref w2)) (fun h => by rw [Bd.returns] at h; cases h)
  refine ⟨_, _, go3 _ ?_, hrun, hended, _, _, rfl, ?_, ⟨_, rfl⟩, hW, hsame.mono (by decide) (by decide)⟩
  · exact retOut X2 hx Bd.returns rfl (Or.inr (Or.inr (Or.inr (Or.inr ⟨rfl, rfl, rfl⟩)))) (hb hby d2_4) hr
  · show QP (.ref w2) h0 n0 _ T2.heap _
    rw [e2]
    exact ⟨rfl, N0, rfl⟩
set_option maxRecDepth 65536 in
set_option maxHeartbeats 40000000 in
theorem rm2_n (l : Launch) (Z : State) (a0 : Array Value) (hw : ∀ d ∈ tables_1, d.before a0 Z = true) (ws : List Jvm.Cond) (a1 : Addr) (h0 : Heap) (n0 : Nat) (Z0 : n0 ≤ h0.size) (F_a1 : Fld Z h0 a1 "com/example/cyclebook/cyclebook/Posting$Type" "debt" "Lcom/example/cyclebook/cyclebook/Debt;" .null) :
    MetFree l (⟨"com/example/cyclebook/cyclebook/Posting$Type", "debt", "()Lcom/example/cyclebook/cyclebook/Debt;"⟩ : MethodName) (head1 (Jvm.Cond.code (⟨"com/example/cyclebook/cyclebook/Posting$Type", "debt", "()Lcom/example/cyclebook/cyclebook/Debt;"⟩ : MethodName) prog_64_method_8_code 1 (some (.object "com/example/cyclebook/cyclebook/Debt")) :: ws) ({ frames := 0, cells := 0, slots := 0, locals := 0 } : Room)) (fun a U => a = #[(.ref a1)] ∧ Z.Warmed39 U.vm ∧ U.heap = h0) (fun _ _ _ _ _ => True) (fun _ U o U' => ∃ v L, o = .returned v ∧ QP .null h0 n0 v U'.heap L ∧ FrameEnd U o U' L ({ frames := 0, cells := 0, slots := 0, locals := 0 } : Room).cells ({ frames := 0, cells := 0, slots := 0, locals := 0 } : Room).slots) := by
  refine MetFree.of_bodySF (plainFor_of_name pn_2) hisR ?_
  intro p e s m args below meth c s₁ Bd hml0 hP hK
  obtain ⟨rfl, hZ, hh⟩ := hP
  have hx := Bd.exec
  have hby := Bd.bytes
  have hml : c.maxLocals = 1 := hml0
  have hown : s.vm.findClass "com/example/cyclebook/cyclebook/Posting$Type" = some m.cls := findClass_of_methodNamed Bd.named
  have hnm := (name_of_methodNamed Bd.named Bd.method).1
  have X0 : Stand p l e ({ frames := 0, cells := 0, slots := 0, locals := 0 } : Room) s m #[(.ref a1)] below meth c s₁ [] 0 0 := Stand.of_body Bd
  have e0 : s₁.heap = h0 := by rw [← hh, Bd.state]; rfl
  have N0 := Fr.nil n0
  have go0 : Go p.tables e below s₁ (mkF m 0 #[.val (.ref a1)] []) s₁ (entryFrame m #[(.ref a1)] 1) := fun t k => castTop (ef_2 m a1) k
  have go1 : Go p.tables e below s₁ (mkF m 1 #[.val (.ref a1)] [(.ref a1)]) s₁ (entryFrame m #[(.ref a1)] 1) := by
    intro t k
    refine go0 t ?_
    show Steps _ _ _ (s₁.setTop (mkF m 0 #[.val (.ref a1)] [])) _
    refine XS.aloadN X0.here hx rfl (hb hby d2_0) rfl rfl ?_
    exact k
  obtain ⟨T2, X2, e2, st2⟩ := getF X0 hx hZ hown (host := "") (Or.inl (wk hw 9 rfl)) Via.refl e0 F_a1 (g := (mkF m 1 #[.val (.ref a1)] [(.ref a1)])) rfl rfl (hb hby d2_1)
  have go3 : Go p.tables e below T2 (mkF m 4 #[.val (.ref a1)] [.null]) s₁ (entryFrame m #[(.ref a1)] 1) := by
    intro t k
    refine go1 t ?_
    show Steps _ _ _ (s₁.setTop (mkF m 1 #[.val (.ref a1)] [(.ref a1)])) _
    refine st2 _ ?_
    exact k
  obtain ⟨fs, hr, hrun, hended, hW, hsame⟩ := X2.leave (v := some .null) (fun h => by rw [Bd.returns] at h; cases h)
  refine ⟨_, _, go3 _ ?_, hrun, hended, _, _, rfl, ?_, ⟨_, rfl⟩, hW, hsame.mono (by decide) (by decide)⟩
  · exact retOut X2 hx Bd.returns rfl (Or.inr (Or.inr (Or.inr (Or.inr ⟨rfl, rfl, rfl⟩)))) (hb hby d2_4) hr
  · show QP .null h0 n0 _ T2.heap _
    rw [e2]
    exact ⟨rfl, N0, rfl⟩
theorem pn_0 : plainName "com/example/cyclebook/cyclebook/TypeIsDebitPinLaw" = true := by first | (simp [plainName, overriddenIn]; done) | decide +kernel
theorem ef_0 (m : MethodId) (x0 : Int32) : entryFrame m #[(.int x0)] maxLocals = mkF m 0 #[.val (.int x0), .unset, .unset, .unset, .unset] [] := by first | (simp [entryFrame, mkF, argsToLocals, Value.category, maxLocals]; done) | rfl
theorem pd_0 : parseMethodDescriptor "()Z" = some ⟨[], some .boolean⟩ := by decide +kernel
theorem pd_1 : parseMethodDescriptor "()Lcom/example/cyclebook/cyclebook/Debt;" = some ⟨[], some (.object "com/example/cyclebook/cyclebook/Debt")⟩ := by decide +kernel
set_option maxRecDepth 65536 in
set_option maxHeartbeats 40000000 in
theorem rm0 (l : Launch) (Z : State) (a0 : Array Value) (hw : ∀ d ∈ tables_1, d.before a0 Z = true) (ws : List Jvm.Cond) (p1 : Int32) (wPURCHASE wREFUND wPAYMENT wCASH_ADVANCE wPLAN dP dC : Addr) (h0 : Heap) (n0 : Nat) (Z0 : n0 ≤ h0.size) (S_PURCHASE : Sta Z h0 "com/example/cyclebook/cyclebook/Posting$Type" "PURCHASE" "Lcom/example/cyclebook/cyclebook/Posting$Type;" (.ref wPURCHASE)) (E_PURCHASE : Exa Z h0 wPURCHASE "com/example/cyclebook/cyclebook/Posting$Type") (F_PURCHASE : Fld Z h0 wPURCHASE "com/example/cyclebook/cyclebook/Posting$Type" "debt" "Lcom/example/cyclebook/cyclebook/Debt;" (.ref dP)) (S_REFUND : Sta Z h0 "com/example/cyclebook/cyclebook/Posting$Type" "REFUND" "Lcom/example/cyclebook/cyclebook/Posting$Type;" (.ref wREFUND)) (E_REFUND : Exa Z h0 wREFUND "com/example/cyclebook/cyclebook/Posting$Type") (F_REFUND : Fld Z h0 wREFUND "com/example/cyclebook/cyclebook/Posting$Type" "debt" "Lcom/example/cyclebook/cyclebook/Debt;" .null) (S_PAYMENT : Sta Z h0 "com/example/cyclebook/cyclebook/Posting$Type" "PAYMENT" "Lcom/example/cyclebook/cyclebook/Posting$Type;" (.ref wPAYMENT)) (E_PAYMENT : Exa Z h0 wPAYMENT "com/example/cyclebook/cyclebook/Posting$Type") (F_PAYMENT : Fld Z h0 wPAYMENT "com/example/cyclebook/cyclebook/Posting$Type" "debt" "Lcom/example/cyclebook/cyclebook/Debt;" .null) (S_CASH_ADVANCE : Sta Z h0 "com/example/cyclebook/cyclebook/Posting$Type" "CASH_ADVANCE" "Lcom/example/cyclebook/cyclebook/Posting$Type;" (.ref wCASH_ADVANCE)) (E_CASH_ADVANCE : Exa Z h0 wCASH_ADVANCE "com/example/cyclebook/cyclebook/Posting$Type") (F_CASH_ADVANCE : Fld Z h0 wCASH_ADVANCE "com/example/cyclebook/cyclebook/Posting$Type" "debt" "Lcom/example/cyclebook/cyclebook/Debt;" (.ref dC)) (S_PLAN : Sta Z h0 "com/example/cyclebook/cyclebook/Posting$Type" "PLAN" "Lcom/example/cyclebook/cyclebook/Posting$Type;" (.ref wPLAN)) (E_PLAN : Exa Z h0 wPLAN "com/example/cyclebook/cyclebook/Posting$Type") (F_PLAN : Fld Z h0 wPLAN "com/example/cyclebook/cyclebook/Posting$Type" "debt" "Lcom/example/cyclebook/cyclebook/Debt;" .null) :
    MetFree l x (head1 (Jvm.Cond.code x code maxLocals ret :: ws) room_1) (fun a U => a = #[(.int p1)] ∧ Z.Warmed39 U.vm ∧ U.heap = h0) (fun _ _ _ _ _ => True) (fun _ U o U' => ∃ v L, o = .returned v ∧ QL (.int 1) h0 n0 v U'.heap L ∧ FrameEnd U o U' L room_1.cells room_1.slots) := by
  refine MetFree.of_bodySF (plainFor_of_name pn_0) hisR ?_
  intro p e s m args below meth c s₁ Bd hml0 hP hK
  obtain ⟨rfl, hZ, hh⟩ := hP
  have hx := Bd.exec
  have hby := Bd.bytes
  have hml : c.maxLocals = 5 := hml0
  have hown : s.vm.findClass "com/example/cyclebook/cyclebook/TypeIsDebitPinLaw" = some m.cls := findClass_of_methodNamed Bd.named
  have hnm := (name_of_methodNamed Bd.named Bd.method).1
  have X0 : Stand p l e room_1 s m #[(.int p1)] below meth c s₁ [] 0 0 := Stand.of_body Bd
  have e0 : s₁.heap = h0 := by rw [← hh, Bd.state]; rfl
  have N0 := Fr.nil n0
  have go0 : Go p.tables e below s₁ (mkF m 0 #[.val (.int p1), .unset, .unset, .unset, .unset] []) s₁ (entryFrame m #[(.int p1)] maxLocals) := fun t k => castTop (ef_0 m p1) k
  have go1 : Go p.tables e below s₁ (mkF m 8 #[.val (.int p1), .val (.int ((p1 &&& (2147483647 : Int32)) % (5 : Int32))), .unset, .unset, .unset] [(.int ((p1 &&& (2147483647 : Int32)) % (5 : Int32)))]) s₁ (entryFrame m #[(.int p1)] maxLocals) := by
    intro t k
    refine go0 t ?_
    show Steps _ _ _ (s₁.setTop (mkF m 0 #[.val (.int p1), .unset, .unset, .unset, .unset] [])) _
    refine XS.iloadN X0.here hx rfl (hb hby at_0) rfl ?_
    show Steps _ _ _ (s₁.setTop (mkF m 1 #[.val (.int p1), .unset, .unset, .unset, .unset] [(.int p1)])) _
    refine X0.ldcInt hx hown (mvT hZ (wk hw 0 rfl)) (g := (mkF m 1 #[.val (.int p1), .unset, .unset, .unset, .unset] [(.int p1)])) rfl (hb hby at_1) _ ?_
    show Steps _ _ _ (s₁.setTop (mkF m 3 #[.val (.int p1), .unset, .unset, .unset, .unset] [(.int (2147483647 : Int32)), (.int p1)])) _
    refine XS.iand X0.here hx rfl (hb hby at_3) rfl ?_
    show Steps _ _ _ (s₁.setTop (mkF m 4 #[.val (.int p1), .unset, .unset, .unset, .unset] [(.int (p1 &&& (2147483647 : Int32)))])) _
    refine XS.iconst X0.here hx rfl (hb hby at_4) ?_
    show Steps _ _ _ (s₁.setTop (mkF m 5 #[.val (.int p1), .unset, .unset, .unset, .unset] [(.int (5 : Int32)), (.int (p1 &&& (2147483647 : Int32)))])) _
    refine iremM X0 hx rfl (hb hby at_5) rfl (by decide) ?_
    show Steps _ _ _ (s₁.setTop (mkF m 6 #[.val (.int p1), .unset, .unset, .unset, .unset] [(.int ((p1 &&& (2147483647 : Int32)) % (5 : Int32)))])) _
    refine XS.istoreN X0.here hx rfl (hb hby at_6) rfl (l' := #[.val (.int p1), .val (.int ((p1 &&& (2147483647 : Int32)) % (5 : Int32))), .unset, .unset, .unset]) rfl ?_
    show Steps _ _ _ (s₁.setTop (mkF m 7 #[.val (.int p1), .val (.int ((p1 &&& (2147483647 : Int32)) % (5 : Int32))), .unset, .unset, .unset] [])) _
    refine XS.iloadN X0.here hx rfl (hb hby at_7) rfl ?_
    exact k
  by_cases hc8 : ((p1 &&& (2147483647 : Int32)) % (5 : Int32)) = (0 : Int32)
  · skip
    have go2 : Go p.tables e below s₁ (mkF m 11 #[.val (.int p1), .val (.int ((p1 &&& (2147483647 : Int32)) % (5 : Int32))), .unset, .unset, .unset] []) s₁ (entryFrame m #[(.int p1)] maxLocals) := by
      intro t k
      refine go1 t ?_
      show Steps _ _ _ (s₁.setTop (mkF m 8 #[.val (.int p1), .val (.int ((p1 &&& (2147483647 : Int32)) % (5 : Int32))), .unset, .unset, .unset] [(.int ((p1 &&& (2147483647 : Int32)) % (5 : Int32)))])) _
      refine XS.ifNo X0.here hx rfl (hb hby at_8) rfl ((if0 _ _).trans (teq hc8).2) ?_
      exact k
    obtain ⟨T3, X3, e3, st3⟩ := getS2 X0 hx hZ hown (host := "") (Or.inl (wk hw 1 rfl)) Via.refl e0 S_PURCHASE (g := (mkF m 11 #[.val (.int p1), .val (.int ((p1 &&& (2147483647 : Int32)) % (5 : Int32))), .unset, .unset, .unset] [])) rfl (hb hby at_11)
    have go5 : Go p.tables e below T3 (mkF m 69 #[.val (.int p1), .val (.int ((p1 &&& (2147483647 : Int32)) % (5 : Int32))), .val (.ref wPURCHASE), .val (.int (1 : Int32)), .unset] [(.ref wPURCHASE)]) s₁ (entryFrame m #[(.int p1)] maxLocals) := by
      intro t k
      refine go2 t ?_
      show Steps _ _ _ (s₁.setTop (mkF m 11 #[.val (.int p1), .val (.int ((p1 &&& (2147483647 : Int32)) % (5 : Int32))), .unset, .unset, .unset] [])) _
      refine st3 _ ?_
      show Steps _ _ _ (T3.setTop (mkF m 14 #[.val (.int p1), .val (.int ((p1 &&& (2147483647 : Int32)) % (5 : Int32))), .unset, .unset, .unset] [(.ref wPURCHASE)])) _
      refine XS.astoreN X3.here hx rfl (hb hby at_14) rfl rfl (l' := #[.val (.int p1), .val (.int ((p1 &&& (2147483647 : Int32)) % (5 : Int32))), .val (.ref wPURCHASE), .unset, .unset]) rfl ?_
      show Steps _ _ _ (T3.setTop (mkF m 15 #[.val (.int p1), .val (.int ((p1 &&& (2147483647 : Int32)) % (5 : Int32))), .val (.ref wPURCHASE), .unset, .unset] [])) _
      refine XS.iconst X3.here hx rfl (hb hby at_15) ?_
      show Steps _ _ _ (T3.setTop (mkF m 16 #[.val (.int p1), .val (.int ((p1 &&& (2147483647 : Int32)) % (5 : Int32))), .val (.ref wPURCHASE), .unset, .unset] [(.int (1 : Int32))])) _
      refine XS.istoreN X3.here hx rfl (hb hby at_16) rfl (l' := #[.val (.int p1), .val (.int ((p1 &&& (2147483647 : Int32)) % (5 : Int32))), .val (.ref wPURCHASE), .val (.int (1 : Int32)), .unset]) rfl ?_
      show Steps _ _ _ (T3.setTop (mkF m 17 #[.val (.int p1), .val (.int ((p1 &&& (2147483647 : Int32)) % (5 : Int32))), .val (.ref wPURCHASE), .val (.int (1 : Int32)), .unset] [])) _
      refine XS.goto X3.here hx rfl (pc0 := 17) (pc' := 68) rfl (hb hby at_17) (by decide) (by decide) ?_
      show Steps _ _ _ (T3.setTop (mkF m 68 #[.val (.int p1), .val (.int ((p1 &&& (2147483647 : Int32)) % (5 : Int32))), .val (.ref wPURCHASE), .val (.int (1 : Int32)), .unset] [])) _
      refine XS.aloadN X3.here hx rfl (hb hby at_68) rfl rfl ?_
      exact k
    obtain ⟨cq4, kq4, q4a, q4b, q4c⟩ := isOf hZ e3 E_PURCHASE
    obtain ⟨_, _, ⟨T4, L4, k4, n4⟩, -, X4, ⟨Lc4, hQ4, l4, y4, z4⟩, st4⟩ := X3.virtualBack hx (y := (⟨"com/example/cyclebook/cyclebook/Posting$Type", "isDebit", "()Z"⟩ : MethodName)) (z := (⟨"com/example/cyclebook/cyclebook/Posting$Type", "isDebit", "()Z"⟩ : MethodName)) hown (mvT hZ (wk hw 4 rfl)) (mvT hZ (wk hw 5 rfl)) (notFace_of_selects (args := #[]) (mvT hZ (wk hw 7 rfl))) (mvT hZ (wk hw 7 rfl)) (mvT hZ (wk hw 6 rfl)) (by decide) (backOf (W := 0) (rm1_y l Z a0 hw [] wPURCHASE dP h0 n0 Z0 F_PURCHASE) hZ (wk hw 8 rfl) (wk hw 2 rfl) (by decide) (by decide)) q4a q4c (g := (mkF m 69 #[.val (.int p1), .val (.int ((p1 &&& (2147483647 : Int32)) % (5 : Int32))), .val (.ref wPURCHASE), .val (.int (1 : Int32)), .unset] [(.ref wPURCHASE)])) rfl (by rw [hml]; rfl) (Steps.refl _) (argsL := []) (rest := []) (lenOf pd_0 rfl) rfl (by show 2 * 0 + _ ≤ _; exact Nat.le_of_eq rfl) (hb hby at_69) (fun _ _ => ⟨rfl, e3, (by decide : 0 + 0 ≤ _), (by decide : 0 + 0 ≤ _)⟩)
    dsimp only [Pt.U, Pt.locs, Pt.cells, Pt.slots] at X4 l4 y4 z4 st4 hQ4
    subst l4 y4 z4
    obtain ⟨rfl, N4q, e4⟩ := hQ4
    have N4 := Fr.app N0 N4q
    have go7 : Go p.tables e below T4 (mkF m 83 #[.val (.int p1), .val (.int ((p1 &&& (2147483647 : Int32)) % (5 : Int32))), .val (.ref wPURCHASE), .val (.int (1 : Int32)), .val (.int (1 : Int32))] [(.ref wPURCHASE), (.int (1 : Int32))]) s₁ (entryFrame m #[(.int p1)] maxLocals) := by
      intro t k
      refine go5 t ?_
      show Steps _ _ _ (T3.setTop (mkF m 69 #[.val (.int p1), .val (.int ((p1 &&& (2147483647 : Int32)) % (5 : Int32))), .val (.ref wPURCHASE), .val (.int (1 : Int32)), .unset] [(.ref wPURCHASE)])) _
      refine st4.trans ?_
      show Steps _ _ _ (T4.setTop (mkF m 72 #[.val (.int p1), .val (.int ((p1 &&& (2147483647 : Int32)) % (5 : Int32))), .val (.ref wPURCHASE), .val (.int (1 : Int32)), .unset] [(.int (1 : Int32))])) _
      refine XS.istore X4.here hx rfl (hb hby at_72) rfl (l' := #[.val (.int p1), .val (.int ((p1 &&& (2147483647 : Int32)) % (5 : Int32))), .val (.ref wPURCHASE), .val (.int (1 : Int32)), .val (.int (1 : Int32))]) rfl ?_
      show Steps _ _ _ (T4.setTop (mkF m 74 #[.val (.int p1), .val (.int ((p1 &&& (2147483647 : Int32)) % (5 : Int32))), .val (.ref wPURCHASE), .val (.int (1 : Int32)), .val (.int (1 : Int32))] [])) _
      refine XS.iload X4.here hx rfl (hb hby at_74) rfl ?_
      show Steps _ _ _ (T4.setTop (mkF m 76 #[.val (.int p1), .val (.int ((p1 &&& (2147483647 : Int32)) % (5 : Int32))), .val (.ref wPURCHASE), .val (.int (1 : Int32)), .val (.int (1 : Int32))] [(.int (1 : Int32))])) _
      refine XS.iloadN X4.here hx rfl (hb hby at_76) rfl ?_
      show Steps _ _ _ (T4.setTop (mkF m 77 #[.val (.int p1), .val (.int ((p1 &&& (2147483647 : Int32)) % (5 : Int32))), .val (.ref wPURCHASE), .val (.int (1 : Int32)), .val (.int (1 : Int32))] [(.int (1 : Int32)), (.int (1 : Int32))])) _
      refine XS.icmpNo X4.here hx rfl (hb hby at_77) rfl (teq rfl).2 ?_
      show Steps _ _ _ (T4.setTop (mkF m 80 #[.val (.int p1), .val (.int ((p1 &&& (2147483647 : Int32)) % (5 : Int32))), .val (.ref wPURCHASE), .val (.int (1 : Int32)), .val (.int (1 : Int32))] [])) _
      refine XS.iload X4.here hx rfl (hb hby at_80) rfl ?_
      show Steps _ _ _ (T4.setTop (mkF m 82 #[.val (.int p1), .val (.int ((p1 &&& (2147483647 : Int32)) % (5 : Int32))), .val (.ref wPURCHASE), .val (.int (1 : Int32)), .val (.int (1 : Int32))] [(.int (1 : Int32))])) _
      refine XS.aloadN X4.here hx rfl (hb hby at_82) rfl rfl ?_
      exact k
    obtain ⟨cq6, kq6, q6a, q6b, q6c⟩ := isOf hZ e4 E_PURCHASE
    obtain ⟨_, _, ⟨T6, L6, k6, n6⟩, -, X6, ⟨Lc6, hQ6, l6, y6, z6⟩, st6⟩ := X4.virtualBack hx (y := (⟨"com/example/cyclebook/cyclebook/Posting$Type", "debt", "()Lcom/example/cyclebook/cyclebook/Debt;"⟩ : MethodName)) (z := (⟨"com/example/cyclebook/cyclebook/Posting$Type", "debt", "()Lcom/example/cyclebook/cyclebook/Debt;"⟩ : MethodName)) hown (mvT hZ (wk hw 13 rfl)) (mvT hZ (wk hw 14 rfl)) (notFace_of_selects (args := #[]) (mvT hZ (wk hw 16 rfl))) (mvT hZ (wk hw 16 rfl)) (mvT hZ (wk hw 15 rfl)) (by decide) (backOf (W := 1) (rm2_y l Z a0 hw [] wPURCHASE dP h0 n0 Z0 F_PURCHASE) hZ (wk hw 17 rfl) (wk hw 2 rfl) (by decide) (by decide)) q6a q6c (g := (mkF m 83 #[.val (.int p1), .val (.int ((p1 &&& (2147483647 : Int32)) % (5 : Int32))), .val (.ref wPURCHASE), .val (.int (1 : Int32)), .val (.int (1 : Int32))] [(.ref wPURCHASE), (.int (1 : Int32))])) rfl (by rw [hml]; rfl) (Steps.refl _) (argsL := []) (rest := [(.int (1 : Int32))]) (lenOf pd_1 rfl) rfl (by show 2 * 0 + _ ≤ _; exact Nat.le_of_eq rfl) (hb hby at_83) (fun _ _ => ⟨rfl, e4, (by decide : 0 + 0 ≤ _), (by decide : 0 + 0 ≤ _)⟩)
    dsimp only [Pt.U, Pt.locs, Pt.cells, Pt.slots] at X6 l6 y6 z6 st6 hQ6
    subst l6 y6 z6
    obtain ⟨rfl, N6q, e6⟩ := hQ6
    have N6 := Fr.app N4 N6q
    have go8 : Go p.tables e below T6 (mkF m 102 #[.val (.int p1), .val (.int ((p1 &&& (2147483647 : Int32)) % (5 : Int32))), .val (.ref wPURCHASE), .val (.int (1 : Int32)), .val (.int (1 : Int32))] [(.int (1 : Int32))]) s₁ (entryFrame m #[(.int p1)] maxLocals) := by
      intro t k
      refine go7 t ?_
      show Steps _ _ _ (T4.setTop (mkF m 83 #[.val (.int p1), .val (.int ((p1 &&& (2147483647 : Int32)) % (5 : Int32))), .val (.ref wPURCHASE), .val (.int (1 : Int32)), .val (.int (1 : Int32))] [(.ref wPURCHASE), (.int (1 : Int32))])) _
      refine st6.trans ?_
      show Steps _ _ _ (T6.setTop (mkF m 86 #[.val (.int p1), .val (.int ((p1 &&& (2147483647 : Int32)) % (5 : Int32))), .val (.ref wPURCHASE), .val (.int (1 : Int32)), .val (.int (1 : Int32))] [(.ref dP), (.int (1 : Int32))])) _
      refine XS.ifnullNo X6.here hx rfl (hb hby at_86) rfl ?_
      show Steps _ _ _ (T6.setTop (mkF m 89 #[.val (.int p1), .val (.int ((p1 &&& (2147483647 : Int32)) % (5 : Int32))), .val (.ref wPURCHASE), .val (.int (1 : Int32)), .val (.int (1 : Int32))] [(.int (1 : Int32))])) _
      refine XS.iconst X6.here hx rfl (hb hby at_89) ?_
      show Steps _ _ _ (T6.setTop (mkF m 90 #[.val (.int p1), .val (.int ((p1 &&& (2147483647 : Int32)) % (5 : Int32))), .val (.ref wPURCHASE), .val (.int (1 : Int32)), .val (.int (1 : Int32))] [(.int (1 : Int32)), (.int (1 : Int32))])) _
      refine XS.goto X6.here hx rfl (pc0 := 90) (pc' := 94) rfl (hb hby at_90) (by decide) (by decide) ?_
      show Steps _ _ _ (T6.setTop (mkF m 94 #[.val (.int p1), .val (.int ((p1 &&& (2147483647 : Int32)) % (5 : Int32))), .val (.ref wPURCHASE), .val (.int (1 : Int32)), .val (.int (1 : Int32))] [(.int (1 : Int32)), (.int (1 : Int32))])) _
      refine XS.icmpNo X6.here hx rfl (hb hby at_94) rfl (teq rfl).2 ?_
      show Steps _ _ _ (T6.setTop (mkF m 97 #[.val (.int p1), .val (.int ((p1 &&& (2147483647 : Int32)) % (5 : Int32))), .val (.ref wPURCHASE), .val (.int (1 : Int32)), .val (.int (1 : Int32))] [])) _
      refine XS.iconst X6.here hx rfl (hb hby at_97) ?_
      show Steps _ _ _ (T6.setTop (mkF m 98 #[.val (.int p1), .val (.int ((p1 &&& (2147483647 : Int32)) % (5 : Int32))), .val (.ref wPURCHASE), .val (.int (1 : Int32)), .val (.int (1 : Int32))] [(.int (1 : Int32))])) _
      refine XS.goto X6.here hx rfl (pc0 := 98) (pc' := 102) rfl (hb hby at_98) (by decide) (by decide) ?_
      exact k
    obtain ⟨fs, hr, hrun, hended, hW, hsame⟩ := X6.leave (v := some (.int (1 : Int32))) (fun h => by rw [Bd.returns] at h; cases h)
    refine ⟨_, _, go8 _ ?_, hrun, hended, _, _, rfl, ?_, ⟨_, rfl⟩, hW, hsame.mono (by decide) (by decide)⟩
    · exact retN X6 hx (t := .boolean) Bd.returns (by simp) (hb hby at_102) hr
    · show QL (.int 1) h0 n0 _ T6.heap _
      rw [e6]
      exact ⟨rfl, N6⟩
  · skip
    have go9 : Go p.tables e below s₁ (mkF m 22 #[.val (.int p1), .val (.int ((p1 &&& (2147483647 : Int32)) % (5 : Int32))), .unset, .unset, .unset] [(.int (1 : Int32)), (.int ((p1 &&& (2147483647 : Int32)) % (5 : Int32)))]) s₁ (entryFrame m #[(.int p1)] maxLocals) := by
      intro t k
      refine go1 t ?_
      show Steps _ _ _ (s₁.setTop (mkF m 8 #[.val (.int p1), .val (.int ((p1 &&& (2147483647 : Int32)) % (5 : Int32))), .unset, .unset, .unset] [(.int ((p1 &&& (2147483647 : Int32)) % (5 : Int32)))])) _
      refine XS.ifYes X0.here hx rfl (pc0 := 8) (pc' := 20) rfl (hb hby at_8) rfl ((if0 _ _).trans (feq hc8).2) (by decide) (by decide) ?_
      show Steps _ _ _ (s₁.setTop (mkF m 20 #[.val (.int p1), .val (.int ((p1 &&& (2147483647 : Int32)) % (5 : Int32))), .unset, .unset, .unset] [])) _
      refine XS.iloadN X0.here hx rfl (hb hby at_20) rfl ?_
      show Steps _ _ _ (s₁.setTop (mkF m 21 #[.val (.int p1), .val (.int ((p1 &&& (2147483647 : Int32)) % (5 : Int32))), .unset, .unset, .unset] [(.int ((p1 &&& (2147483647 : Int32)) % (5 : Int32)))])) _
      refine XS.iconst X0.here hx rfl (hb hby at_21) ?_
      exact k
    by_cases hc22 : ((p1 &&& (2147483647 : Int32)) % (5 : Int32)) = (1 : Int32)
    · skip
      have go10 : Go p.tables e below s₁ (mkF m 25 #[.val (.int p1), .val (.int ((p1 &&& (2147483647 : Int32)) % (5 : Int32))), .unset, .unset, .unset] []) s₁ (entryFrame m #[(.int p1)] maxLocals) := by
        intro t k
        refine go9 t ?_
        show Steps _ _ _ (s₁.setTop (mkF m 22 #[.val (.int p1), .val (.int ((p1 &&& (2147483647 : Int32)) % (5 : Int32))), .unset, .unset, .unset] [(.int (1 : Int32)), (.int ((p1 &&& (2147483647 : Int32)) % (5 : Int32)))])) _
        refine XS.icmpNo X0.here hx rfl (hb hby at_22) rfl (teq hc22).2 ?_
        exact k
      obtain ⟨T11, X11, e11, st11⟩ := getS2 X0 hx hZ hown (host := "") (Or.inl (wk hw 21 rfl)) Via.refl e0 S_REFUND (g := (mkF m 25 #[.val (.int p1), .val (.int ((p1 &&& (2147483647 : Int32)) % (5 : Int32))), .unset, .unset, .unset] [])) rfl (hb hby at_25)
      have go13 : Go p.tables e below T11 (mkF m 69 #[.val (.int p1), .val (.int ((p1 &&& (2147483647 : Int32)) % (5 : Int32))), .val (.ref wREFUND), .val (.int (0 : Int32)), .unset] [(.ref wREFUND)]) s₁ (entryFrame m #[(.int p1)] maxLocals) := by
        intro t k
        refine go10 t ?_
        show Steps _ _ _ (s₁.setTop (mkF m 25 #[.val (.int p1), .val (.int ((p1 &&& (2147483647 : Int32)) % (5 : Int32))), .unset, .unset, .unset] [])) _
        refine st11 _ ?_
        show Steps _ _ _ (T11.setTop (mkF m 28 #[.val (.int p1), .val (.int ((p1 &&& (2147483647 : Int32)) % (5 : Int32))), .unset, .unset, .unset] [(.ref wREFUND)])) _
        refine XS.astoreN X11.here hx rfl (hb hby at_28) rfl rfl (l' := #[.val (.int p1), .val (.int ((p1 &&& (2147483647 : Int32)) % (5 : Int32))), .val (.ref wREFUND), .unset, .unset]) rfl ?_
        show Steps _ _ _ (T11.setTop (mkF m 29 #[.val (.int p1), .val (.int ((p1 &&& (2147483647 : Int32)) % (5 : Int32))), .val (.ref wREFUND), .unset, .unset] [])) _
        refine XS.iconst X11.here hx rfl (hb hby at_29) ?_
        show Steps _ _ _ (T11.setTop (mkF m 30 #[.val (.int p1), .val (.int ((p1 &&& (2147483647 : Int32)) % (5 : Int32))), .val (.ref wREFUND), .unset, .unset] [(.int (0 : Int32))])) _
        refine XS.istoreN X11.here hx rfl (hb hby at_30) rfl (l' := #[.val (.int p1), .val (.int ((p1 &&& (2147483647 : Int32)) % (5 : Int32))), .val (.ref wREFUND), .val (.int (0 : Int32)), .unset]) rfl ?_
        show Steps _ _ _ (T11.setTop (mkF m 31 #[.val (.int p1), .val (.int ((p1 &&& (2147483647 : Int32)) % (5 : Int32))), .val (.ref wREFUND), .val (.int (0 : Int32)), .unset] [])) _
        refine XS.goto X11.here hx rfl (pc0 := 31) (pc' := 68) rfl (hb hby at_31) (by decide) (by decide) ?_
        show Steps _ _ _ (T11.setTop (mkF m 68 #[.val (.int p1), .val (.int ((p1 &&& (2147483647 : Int32)) % (5 : Int32))), .val (.ref wREFUND), .val (.int (0 : Int32)), .unset] [])) _
        refine XS.aloadN X11.here hx rfl (hb hby at_68) rfl rfl ?_
        exact k
      obtain ⟨cq12, kq12, q12a, q12b, q12c⟩ := isOf hZ e11 E_REFUND
      obtain ⟨_, _, ⟨T12, L12, k12, n12⟩, -, X12, ⟨Lc12, hQ12, l12, y12, z12⟩, st12⟩ := X11.virtualBack hx (y := (⟨"com/example/cyclebook/cyclebook/Posting$Type", "isDebit", "()Z"⟩ : MethodName)) (z := (⟨"com/example/cyclebook/cyclebook/Posting$Type", "isDebit", "()Z"⟩ : MethodName)) hown (mvT hZ (wk hw 4 rfl)) (mvT hZ (wk hw 5 rfl)) (notFace_of_selects (args := #[]) (mvT hZ (wk hw 7 rfl))) (mvT hZ (wk hw 7 rfl)) (mvT hZ (wk hw 6 rfl)) (by decide) (backOf (W := 0) (rm1_n l Z a0 hw [] wREFUND  h0 n0 Z0 F_REFUND) hZ (wk hw 8 rfl) (wk hw 2 rfl) (by decide) (by decide)) q12a q12c (g := (mkF m 69 #[.val (.int p1), .val (.int ((p1 &&& (2147483647 : Int32)) % (5 : Int32))), .val (.ref wREFUND), .val (.int (0 : Int32)), .unset] [(.ref wREFUND)])) rfl (by rw [hml]; rfl) (Steps.refl _) (argsL := []) (rest := []) (lenOf pd_0 rfl) rfl (by show 2 * 0 + _ ≤ _; exact Nat.le_of_eq rfl) (hb hby at_69) (fun _ _ => ⟨rfl, e11, (by decide : 0 + 0 ≤ _), (by decide : 0 + 0 ≤ _)⟩)
      dsimp only [Pt.U, Pt.locs, Pt.cells, Pt.slots] at X12 l12 y12 z12 st12 hQ12
      subst l12 y12 z12
      obtain ⟨rfl, N12q, e12⟩ := hQ12
      have N12 := Fr.app N0 N12q
      have go15 : Go p.tables e below T12 (mkF m 83 #[.val (.int p1), .val (.int ((p1 &&& (2147483647 : Int32)) % (5 : Int32))), .val (.ref wREFUND), .val (.int (0 : Int32)), .val (.int (0 : Int32))] [(.ref wREFUND), (.int (0 : Int32))]) s₁ (entryFrame m #[(.int p1)] maxLocals) := by
        intro t k
        refine go13 t ?_
        show Steps _ _ _ (T11.setTop (mkF m 69 #[.val (.int p1), .val (.int ((p1 &&& (2147483647 : Int32)) % (5 : Int32))), .val (.ref wREFUND), .val (.int (0 : Int32)), .unset] [(.ref wREFUND)])) _
        refine st12.trans ?_
        show Steps _ _ _ (T12.setTop (mkF m 72 #[.val (.int p1), .val (.int ((p1 &&& (2147483647 : Int32)) % (5 : Int32))), .val (.ref wREFUND), .val (.int (0 : Int32)), .unset] [(.int (0 : Int32))])) _
        refine XS.istore X12.here hx rfl (hb hby at_72) rfl (l' := #[.val (.int p1), .val (.int ((p1 &&& (2147483647 : Int32)) % (5 : Int32))), .val (.ref wREFUND), .val (.int (0 : Int32)), .val (.int (0 : Int32))]) rfl ?_
        show Steps _ _ _ (T12.setTop (mkF m 74 #[.val (.int p1), .val (.int ((p1 &&& (2147483647 : Int32)) % (5 : Int32))), .val (.ref wREFUND), .val (.int (0 : Int32)), .val (.int (0 : Int32))] [])) _
        refine XS.iload X12.here hx rfl (hb hby at_74) rfl ?_
        show Steps _ _ _ (T12.setTop (mkF m 76 #[.val (.int p1), .val (.int ((p1 &&& (2147483647 : Int32)) % (5 : Int32))), .val (.ref wREFUND), .val (.int (0 : Int32)), .val (.int (0 : Int32))] [(.int (0 : Int32))])) _
        refine XS.iloadN X12.here hx rfl (hb hby at_76) rfl ?_
        show Steps _ _ _ (T12.setTop (mkF m 77 #[.val (.int p1), .val (.int ((p1 &&& (2147483647 : Int32)) % (5 : Int32))), .val (.ref wREFUND), .val (.int (0 : Int32)), .val (.int (0 : Int32))] [(.int (0 : Int32)), (.int (0 : Int32))])) _
        refine XS.icmpNo X12.here hx rfl (hb hby at_77) rfl (teq rfl).2 ?_
        show Steps _ _ _ (T12.setTop (mkF m 80 #[.val (.int p1), .val (.int ((p1 &&& (2147483647 : Int32)) % (5 : Int32))), .val (.ref wREFUND), .val (.int (0 : Int32)), .val (.int (0 : Int32))] [])) _
        refine XS.iload X12.here hx rfl (hb hby at_80) rfl ?_
        show Steps _ _ _ (T12.setTop (mkF m 82 #[.val (.int p1), .val (.int ((p1 &&& (2147483647 : Int32)) % (5 : Int32))), .val (.ref wREFUND), .val (.int (0 : Int32)), .val (.int (0 : Int32))] [(.int (0 : Int32))])) _
        refine XS.aloadN X12.here hx rfl (hb hby at_82) rfl rfl ?_
        exact k
      obtain ⟨cq14, kq14, q14a, q14b, q14c⟩ := isOf hZ e12 E_REFUND
      obtain ⟨_, _, ⟨T14, L14, k14, n14⟩, -, X14, ⟨Lc14, hQ14, l14, y14, z14⟩, st14⟩ := X12.virtualBack hx (y := (⟨"com/example/cyclebook/cyclebook/Posting$Type", "debt", "()Lcom/example/cyclebook/cyclebook/Debt;"⟩ : MethodName)) (z := (⟨"com/example/cyclebook/cyclebook/Posting$Type", "debt", "()Lcom/example/cyclebook/cyclebook/Debt;"⟩ : MethodName)) hown (mvT hZ (wk hw 13 rfl)) (mvT hZ (wk hw 14 rfl)) (notFace_of_selects (args := #[]) (mvT hZ (wk hw 16 rfl))) (mvT hZ (wk hw 16 rfl)) (mvT hZ (wk hw 15 rfl)) (by decide) (backOf (W := 1) (rm2_n l Z a0 hw [] wREFUND  h0 n0 Z0 F_REFUND) hZ (wk hw 17 rfl) (wk hw 2 rfl) (by decide) (by decide)) q14a q14c (g := (mkF m 83 #[.val (.int p1), .val (.int ((p1 &&& (2147483647 : Int32)) % (5 : Int32))), .val (.ref wREFUND), .val (.int (0 : Int32)), .val (.int (0 : Int32))] [(.ref wREFUND), (.int (0 : Int32))])) rfl (by rw [hml]; rfl) (Steps.refl _) (argsL := []) (rest := [(.int (0 : Int32))]) (lenOf pd_1 rfl) rfl (by show 2 * 0 + _ ≤ _; exact Nat.le_of_eq rfl) (hb hby at_83) (fun _ _ => ⟨rfl, e12, (by decide : 0 + 0 ≤ _), (by decide : 0 + 0 ≤ _)⟩)
      dsimp only [Pt.U, Pt.locs, Pt.cells, Pt.slots] at X14 l14 y14 z14 st14 hQ14
      subst l14 y14 z14
      obtain ⟨rfl, N14q, e14⟩ := hQ14
      have N14 := Fr.app N12 N14q
      have go16 : Go p.tables e below T14 (mkF m 102 #[.val (.int p1), .val (.int ((p1 &&& (2147483647 : Int32)) % (5 : Int32))), .val (.ref wREFUND), .val (.int (0 : Int32)), .val (.int (0 : Int32))] [(.int (1 : Int32))]) s₁ (entryFrame m #[(.int p1)] maxLocals) := by
        intro t k
        refine go15 t ?_
        show Steps _ _ _ (T12.setTop (mkF m 83 #[.val (.int p1), .val (.int ((p1 &&& (2147483647 : Int32)) % (5 : Int32))), .val (.ref wREFUND), .val (.int (0 : Int32)), .val (.int (0 : Int32))] [(.ref wREFUND), (.int (0 : Int32))])) _
        refine st14.trans ?_
        show Steps _ _ _ (T14.setTop (mkF m 86 #[.val (.int p1), .val (.int ((p1 &&& (2147483647 : Int32)) % (5 : Int32))), .val (.ref wREFUND), .val (.int (0 : Int32)), .val (.int (0 : Int32))] [.null, (.int (0 : Int32))])) _
        refine XS.ifnullYes X14.here hx rfl (pc0 := 86) (pc' := 93) rfl (hb hby at_86) rfl (by decide) (by decide) ?_
        show Steps _ _ _ (T14.setTop (mkF m 93 #[.val (.int p1), .val (.int ((p1 &&& (2147483647 : Int32)) % (5 : Int32))), .val (.ref wREFUND), .val (.int (0 : Int32)), .val (.int (0 : Int32))] [(.int (0 : Int32))])) _
        refine XS.iconst X14.here hx rfl (hb hby at_93) ?_
        show Steps _ _ _ (T14.setTop (mkF m 94 #[.val (.int p1), .val (.int ((p1 &&& (2147483647 : Int32)) % (5 : Int32))), .val (.ref wREFUND), .val (.int (0 : Int32)), .val (.int (0 : Int32))] [(.int (0 : Int32)), (.int (0 : Int32))])) _
        refine XS.icmpNo X14.here hx rfl (hb hby at_94) rfl (teq rfl).2 ?_
        show Steps _ _ _ (T14.setTop (mkF m 97 #[.val (.int p1), .val (.int ((p1 &&& (2147483647 : Int32)) % (5 : Int32))), .val (.ref wREFUND), .val (.int (0 : Int32)), .val (.int (0 : Int32))] [])) _
        refine XS.iconst X14.here hx rfl (hb hby at_97) ?_
        show Steps _ _ _ (T14.setTop (mkF m 98 #[.val (.int p1), .val (.int ((p1 &&& (2147483647 : Int32)) % (5 : Int32))), .val (.ref wREFUND), .val (.int (0 : Int32)), .val (.int (0 : Int32))] [(.int (1 : Int32))])) _
        refine XS.goto X14.here hx rfl (pc0 := 98) (pc' := 102) rfl (hb hby at_98) (by decide) (by decide) ?_
        exact k
      obtain ⟨fs, hr, hrun, hended, hW, hsame⟩ := X14.leave (v := some (.int (1 : Int32))) (fun h => by rw [Bd.returns] at h; cases h)
      refine ⟨_, _, go16 _ ?_, hrun, hended, _, _, rfl, ?_, ⟨_, rfl⟩, hW, hsame.mono (by decide) (by decide)⟩
      · exact retN X14 hx (t := .boolean) Bd.returns (by simp) (hb hby at_102) hr
      · show QL (.int 1) h0 n0 _ T14.heap _
        rw [e14]
        exact ⟨rfl, N14⟩
    · skip
      have go17 : Go p.tables e below s₁ (mkF m 36 #[.val (.int p1), .val (.int ((p1 &&& (2147483647 : Int32)) % (5 : Int32))), .unset, .unset, .unset] [(.int (2 : Int32)), (.int ((p1 &&& (2147483647 : Int32)) % (5 : Int32)))]) s₁ (entryFrame m #[(.int p1)] maxLocals) := by
        intro t k
        refine go9 t ?_
        show Steps _ _ _ (s₁.setTop (mkF m 22 #[.val (.int p1), .val (.int ((p1 &&& (2147483647 : Int32)) % (5 : Int32))), .unset, .unset, .unset] [(.int (1 : Int32)), (.int ((p1 &&& (2147483647 : Int32)) % (5 : Int32)))])) _
        refine XS.icmpYes X0.here hx rfl (pc0 := 22) (pc' := 34) rfl (hb hby at_22) rfl (feq hc22).2 (by decide) (by decide) ?_
        show Steps _ _ _ (s₁.setTop (mkF m 34 #[.val (.int p1), .val (.int ((p1 &&& (2147483647 : Int32)) % (5 : Int32))), .unset, .unset, .unset] [])) _
        refine XS.iloadN X0.here hx rfl (hb hby at_34) rfl ?_
        show Steps _ _ _ (s₁.setTop (mkF m 35 #[.val (.int p1), .val (.int ((p1 &&& (2147483647 : Int32)) % (5 : Int32))), .unset, .unset, .unset] [(.int ((p1 &&& (2147483647 : Int32)) % (5 : Int32)))])) _
        refine XS.iconst X0.here hx rfl (hb hby at_35) ?_
        exact k
      by_cases hc36 : ((p1 &&& (2147483647 : Int32)) % (5 : Int32)) = (2 : Int32)
      · skip
        have go18 : Go p.tables e below s₁ (mkF m 39 #[.val (.int p1), .val (.int ((p1 &&& (2147483647 : Int32)) % (5 : Int32))), .unset, .unset, .unset] []) s₁ (entryFrame m #[(.int p1)] maxLocals) := by
          intro t k
          refine go17 t ?_
          show Steps _ _ _ (s₁.setTop (mkF m 36 #[.val (.int p1), .val (.int ((p1 &&& (2147483647 : Int32)) % (5 : Int32))), .unset, .unset, .unset] [(.int (2 : Int32)), (.int ((p1 &&& (2147483647 : Int32)) % (5 : Int32)))])) _
          refine XS.icmpNo X0.here hx rfl (hb hby at_36) rfl (teq hc36).2 ?_
          exact k
        obtain ⟨T19, X19, e19, st19⟩ := getS2 X0 hx hZ hown (host := "") (Or.inl (wk hw 25 rfl)) Via.refl e0 S_PAYMENT (g := (mkF m 39 #[.val (.int p1), .val (.int ((p1 &&& (2147483647 : Int32)) % (5 : Int32))), .unset, .unset, .unset] [])) rfl (hb hby at_39)
        have go21 : Go p.tables e below T19 (mkF m 69 #[.val (.int p1), .val (.int ((p1 &&& (2147483647 : Int32)) % (5 : Int32))), .val (.ref wPAYMENT), .val (.int (0 : Int32)), .unset] [(.ref wPAYMENT)]) s₁ (entryFrame m #[(.int p1)] maxLocals) := by
          intro t k
          refine go18 t ?_
          show Steps _ _ _ (s₁.setTop (mkF m 39 #[.val (.int p1), .val (.int ((p1 &&& (2147483647 : Int32)) % (5 : Int32))), .unset, .unset, .unset] [])) _
          refine st19 _ ?_
          show Steps _ _ _ (T19.setTop (mkF m 42 #[.val (.int p1), .val (.int ((p1 &&& (2147483647 : Int32)) % (5 : Int32))), .unset, .unset, .unset] [(.ref wPAYMENT)])) _
          refine XS.astoreN X19.here hx rfl (hb hby at_42) rfl rfl (l' := #[.val (.int p1), .val (.int ((p1 &&& (2147483647 : Int32)) % (5 : Int32))), .val (.ref wPAYMENT), .unset, .unset]) rfl ?_
          show Steps _ _ _ (T19.setTop (mkF m 43 #[.val (.int p1), .val (.int ((p1 &&& (2147483647 : Int32)) % (5 : Int32))), .val (.ref wPAYMENT), .unset, .unset] [])) _
          refine XS.iconst X19.here hx rfl (hb hby at_43) ?_
          show Steps _ _ _ (T19.setTop (mkF m 44 #[.val (.int p1), .val (.int ((p1 &&& (2147483647 : Int32)) % (5 : Int32))), .val (.ref wPAYMENT), .unset, .unset] [(.int (0 : Int32))])) _
          refine XS.istoreN X19.here hx rfl (hb hby at_44) rfl (l' := #[.val (.int p1), .val (.int ((p1 &&& (2147483647 : Int32)) % (5 : Int32))), .val (.ref wPAYMENT), .val (.int (0 : Int32)), .unset]) rfl ?_
          show Steps _ _ _ (T19.setTop (mkF m 45 #[.val (.int p1), .val (.int ((p1 &&& (2147483647 : Int32)) % (5 : Int32))), .val (.ref wPAYMENT), .val (.int (0 : Int32)), .unset] [])) _
          refine XS.goto X19.here hx rfl (pc0 := 45) (pc' := 68) rfl (hb hby at_45) (by decide) (by decide) ?_
          show Steps _ _ _ (T19.setTop (mkF m 68 #[.val (.int p1), .val (.int ((p1 &&& (2147483647 : Int32)) % (5 : Int32))), .val (.ref wPAYMENT), .val (.int (0 : Int32)), .unset] [])) _
          refine XS.aloadN X19.here hx rfl (hb hby at_68) rfl rfl ?_
          exact k
        obtain ⟨cq20, kq20, q20a, q20b, q20c⟩ := isOf hZ e19 E_PAYMENT
        obtain ⟨_, _, ⟨T20, L20, k20, n20⟩, -, X20, ⟨Lc20, hQ20, l20, y20, z20⟩, st20⟩ := X19.virtualBack hx (y := (⟨"com/example/cyclebook/cyclebook/Posting$Type", "isDebit", "()Z"⟩ : MethodName)) (z := (⟨"com/example/cyclebook/cyclebook/Posting$Type", "isDebit", "()Z"⟩ : MethodName)) hown (mvT hZ (wk hw 4 rfl)) (mvT hZ (wk hw 5 rfl)) (notFace_of_selects (args := #[]) (mvT hZ (wk hw 7 rfl))) (mvT hZ (wk hw 7 rfl)) (mvT hZ (wk hw 6 rfl)) (by decide) (backOf (W := 0) (rm1_n l Z a0 hw [] wPAYMENT  h0 n0 Z0 F_PAYMENT) hZ (wk hw 8 rfl) (wk hw 2 rfl) (by decide) (by decide)) q20a q20c (g := (mkF m 69 #[.val (.int p1), .val (.int ((p1 &&& (2147483647 : Int32)) % (5 : Int32))), .val (.ref wPAYMENT), .val (.int (0 : Int32)), .unset] [(.ref wPAYMENT)])) rfl (by rw [hml]; rfl) (Steps.refl _) (argsL := []) (rest := []) (lenOf pd_0 rfl) rfl (by show 2 * 0 + _ ≤ _; exact Nat.le_of_eq rfl) (hb hby at_69) (fun _ _ => ⟨rfl, e19, (by decide : 0 + 0 ≤ _), (by decide : 0 + 0 ≤ _)⟩)
        dsimp only [Pt.U, Pt.locs, Pt.cells, Pt.slots] at X20 l20 y20 z20 st20 hQ20
        subst l20 y20 z20
        obtain ⟨rfl, N20q, e20⟩ := hQ20
        have N20 := Fr.app N0 N20q
        have go23 : Go p.tables e below T20 (mkF m 83 #[.val (.int p1), .val (.int ((p1 &&& (2147483647 : Int32)) % (5 : Int32))), .val (.ref wPAYMENT), .val (.int (0 : Int32)), .val (.int (0 : Int32))] [(.ref wPAYMENT), (.int (0 : Int32))]) s₁ (entryFrame m #[(.int p1)] maxLocals) := by
          intro t k
          refine go21 t ?_
          show Steps _ _ _ (T19.setTop (mkF m 69 #[.val (.int p1), .val (.int ((p1 &&& (2147483647 : Int32)) % (5 : Int32))), .val (.ref wPAYMENT), .val (.int (0 : Int32)), .unset] [(.ref wPAYMENT)])) _
          refine st20.trans ?_
          show Steps _ _ _ (T20.setTop (mkF m 72 #[.val (.int p1), .val (.int ((p1 &&& (2147483647 : Int32)) % (5 : Int32))), .val (.ref wPAYMENT), .val (.int (0 : Int32)), .unset] [(.int (0 : Int32))])) _
          refine XS.istore X20.here hx rfl (hb hby at_72) rfl (l' := #[.val (.int p1), .val (.int ((p1 &&& (2147483647 : Int32)) % (5 : Int32))), .val (.ref wPAYMENT), .val (.int (0 : Int32)), .val (.int (0 : Int32))]) rfl ?_
          show Steps _ _ _ (T20.setTop (mkF m 74 #[.val (.int p1), .val (.int ((p1 &&& (2147483647 : Int32)) % (5 : Int32))), .val (.ref wPAYMENT), .val (.int (0 : Int32)), .val (.int (0 : Int32))] [])) _
          refine XS.iload X20.here hx rfl (hb hby at_74) rfl ?_
          show Steps _ _ _ (T20.setTop (mkF m 76 #[.val (.int p1), .val (.int ((p1 &&& (2147483647 : Int32)) % (5 : Int32))), .val (.ref wPAYMENT), .val (.int (0 : Int32)), .val (.int (0 : Int32))] [(.int (0 : Int32))])) _
          refine XS.iloadN X20.here hx rfl (hb hby at_76) rfl ?_
          show Steps _ _ _ (T20.setTop (mkF m 77 #[.val (.int p1), .val (.int ((p1 &&& (2147483647 : Int32)) % (5 : Int32))), .val (.ref wPAYMENT), .val (.int (0 : Int32)), .val (.int (0 : Int32))] [(.int (0 : Int32)), (.int (0 : Int32))])) _
          refine XS.icmpNo X20.here hx rfl (hb hby at_77) rfl (teq rfl).2 ?_
          show Steps _ _ _ (T20.setTop (mkF m 80 #[.val (.int p1), .val (.int ((p1 &&& (2147483647 : Int32)) % (5 : Int32))), .val (.ref wPAYMENT), .val (.int (0 : Int32)), .val (.int (0 : Int32))] [])) _
          refine XS.iload X20.here hx rfl (hb hby at_80) rfl ?_
          show Steps _ _ _ (T20.setTop (mkF m 82 #[.val (.int p1), .val (.int ((p1 &&& (2147483647 : Int32)) % (5 : Int32))), .val (.ref wPAYMENT), .val (.int (0 : Int32)), .val (.int (0 : Int32))] [(.int (0 : Int32))])) _
          refine XS.aloadN X20.here hx rfl (hb hby at_82) rfl rfl ?_
          exact k
        obtain ⟨cq22, kq22, q22a, q22b, q22c⟩ := isOf hZ e20 E_PAYMENT
        obtain ⟨_, _, ⟨T22, L22, k22, n22⟩, -, X22, ⟨Lc22, hQ22, l22, y22, z22⟩, st22⟩ := X20.virtualBack hx (y := (⟨"com/example/cyclebook/cyclebook/Posting$Type", "debt", "()Lcom/example/cyclebook/cyclebook/Debt;"⟩ : MethodName)) (z := (⟨"com/example/cyclebook/cyclebook/Posting$Type", "debt", "()Lcom/example/cyclebook/cyclebook/Debt;"⟩ : MethodName)) hown (mvT hZ (wk hw 13 rfl)) (mvT hZ (wk hw 14 rfl)) (notFace_of_selects (args := #[]) (mvT hZ (wk hw 16 rfl))) (mvT hZ (wk hw 16 rfl)) (mvT hZ (wk hw 15 rfl)) (by decide) (backOf (W := 1) (rm2_n l Z a0 hw [] wPAYMENT  h0 n0 Z0 F_PAYMENT) hZ (wk hw 17 rfl) (wk hw 2 rfl) (by decide) (by decide)) q22a q22c (g := (mkF m 83 #[.val (.int p1), .val (.int ((p1 &&& (2147483647 : Int32)) % (5 : Int32))), .val (.ref wPAYMENT), .val (.int (0 : Int32)), .val (.int (0 : Int32))] [(.ref wPAYMENT), (.int (0 : Int32))])) rfl (by rw [hml]; rfl) (Steps.refl _) (argsL := []) (rest := [(.int (0 : Int32))]) (lenOf pd_1 rfl) rfl (by show 2 * 0 + _ ≤ _; exact Nat.le_of_eq rfl) (hb hby at_83) (fun _ _ => ⟨rfl, e20, (by decide : 0 + 0 ≤ _), (by decide : 0 + 0 ≤ _)⟩)
        dsimp only [Pt.U, Pt.locs, Pt.cells, Pt.slots] at X22 l22 y22 z22 st22 hQ22
        subst l22 y22 z22
        obtain ⟨rfl, N22q, e22⟩ := hQ22
        have N22 := Fr.app N20 N22q
        have go24 : Go p.tables e below T22 (mkF m 102 #[.val (.int p1), .val (.int ((p1 &&& (2147483647 : Int32)) % (5 : Int32))), .val (.ref wPAYMENT), .val (.int (0 : Int32)), .val (.int (0 : Int32))] [(.int (1 : Int32))]) s₁ (entryFrame m #[(.int p1)] maxLocals) := by
          intro t k
          refine go23 t ?_
          show Steps _ _ _ (T20.setTop (mkF m 83 #[.val (.int p1), .val (.int ((p1 &&& (2147483647 : Int32)) % (5 : Int32))), .val (.ref wPAYMENT), .val (.int (0 : Int32)), .val (.int (0 : Int32))] [(.ref wPAYMENT), (.int (0 : Int32))])) _
          refine st22.trans ?_
          show Steps _ _ _ (T22.setTop (mkF m 86 #[.val (.int p1), .val (.int ((p1 &&& (2147483647 : Int32)) % (5 : Int32))), .val (.ref wPAYMENT), .val (.int (0 : Int32)), .val (.int (0 : Int32))] [.null, (.int (0 : Int32))])) _
          refine XS.ifnullYes X22.here hx rfl (pc0 := 86) (pc' := 93) rfl (hb hby at_86) rfl (by decide) (by decide) ?_
          show Steps _ _ _ (T22.setTop (mkF m 93 #[.val (.int p1), .val (.int ((p1 &&& (2147483647 : Int32)) % (5 : Int32))), .val (.ref wPAYMENT), .val (.int (0 : Int32)), .val (.int (0 : Int32))] [(.int (0 : Int32))])) _
          refine XS.iconst X22.here hx rfl (hb hby at_93) ?_
          show Steps _ _ _ (T22.setTop (mkF m 94 #[.val (.int p1), .val (.int ((p1 &&& (2147483647 : Int32)) % (5 : Int32))), .val (.ref wPAYMENT), .val (.int (0 : Int32)), .val (.int (0 : Int32))] [(.int (0 : Int32)), (.int (0 : Int32))])) _
          refine XS.icmpNo X22.here hx rfl (hb hby at_94) rfl (teq rfl).2 ?_
          show Steps _ _ _ (T22.setTop (mkF m 97 #[.val (.int p1), .val (.int ((p1 &&& (2147483647 : Int32)) % (5 : Int32))), .val (.ref wPAYMENT), .val (.int (0 : Int32)), .val (.int (0 : Int32))] [])) _
          refine XS.iconst X22.here hx rfl (hb hby at_97) ?_
          show Steps _ _ _ (T22.setTop (mkF m 98 #[.val (.int p1), .val (.int ((p1 &&& (2147483647 : Int32)) % (5 : Int32))), .val (.ref wPAYMENT), .val (.int (0 : Int32)), .val (.int (0 : Int32))] [(.int (1 : Int32))])) _
          refine XS.goto X22.here hx rfl (pc0 := 98) (pc' := 102) rfl (hb hby at_98) (by decide) (by decide) ?_
          exact k
        obtain ⟨fs, hr, hrun, hended, hW, hsame⟩ := X22.leave (v := some (.int (1 : Int32))) (fun h => by rw [Bd.returns] at h; cases h)
        refine ⟨_, _, go24 _ ?_, hrun, hended, _, _, rfl, ?_, ⟨_, rfl⟩, hW, hsame.mono (by decide) (by decide)⟩
        · exact retN X22 hx (t := .boolean) Bd.returns (by simp) (hb hby at_102) hr
        · show QL (.int 1) h0 n0 _ T22.heap _
          rw [e22]
          exact ⟨rfl, N22⟩
      · skip
        have go25 : Go p.tables e below s₁ (mkF m 50 #[.val (.int p1), .val (.int ((p1 &&& (2147483647 : Int32)) % (5 : Int32))), .unset, .unset, .unset] [(.int (3 : Int32)), (.int ((p1 &&& (2147483647 : Int32)) % (5 : Int32)))]) s₁ (entryFrame m #[(.int p1)] maxLocals) := by
          intro t k
          refine go17 t ?_
          show Steps _ _ _ (s₁.setTop (mkF m 36 #[.val (.int p1), .val (.int ((p1 &&& (2147483647 : Int32)) % (5 : Int32))), .unset, .unset, .unset] [(.int (2 : Int32)), (.int ((p1 &&& (2147483647 : Int32)) % (5 : Int32)))])) _
          refine XS.icmpYes X0.here hx rfl (pc0 := 36) (pc' := 48) rfl (hb hby at_36) rfl (feq hc36).2 (by decide) (by decide) ?_
          show Steps _ _ _ (s₁.setTop (mkF m 48 #[.val (.int p1), .val (.int ((p1 &&& (2147483647 : Int32)) % (5 : Int32))), .unset, .unset, .unset] [])) _
          refine XS.iloadN X0.here hx rfl (hb hby at_48) rfl ?_
          show Steps _ _ _ (s₁.setTop (mkF m 49 #[.val (.int p1), .val (.int ((p1 &&& (2147483647 : Int32)) % (5 : Int32))), .unset, .unset, .unset] [(.int ((p1 &&& (2147483647 : Int32)) % (5 : Int32)))])) _
          refine XS.iconst X0.here hx rfl (hb hby at_49) ?_
          exact k
        by_cases hc50 : ((p1 &&& (2147483647 : Int32)) % (5 : Int32)) = (3 : Int32)
        · skip
          have go26 : Go p.tables e below s₁ (mkF m 53 #[.val (.int p1), .val (.int ((p1 &&& (2147483647 : Int32)) % (5 : Int32))), .unset, .unset, .unset] []) s₁ (entryFrame m #[(.int p1)] maxLocals) := by
            intro t k
            refine go25 t ?_
            show Steps _ _ _ (s₁.setTop (mkF m 50 #[.val (.int p1), .val (.int ((p1 &&& (2147483647 : Int32)) % (5 : Int32))), .unset, .unset, .unset] [(.int (3 : Int32)), (.int ((p1 &&& (2147483647 : Int32)) % (5 : Int32)))])) _
            refine XS.icmpNo X0.here hx rfl (hb hby at_50) rfl (teq hc50).2 ?_
            exact k
          obtain ⟨T27, X27, e27, st27⟩ := getS2 X0 hx hZ hown (host := "") (Or.inl (wk hw 18 rfl)) Via.refl e0 S_CASH_ADVANCE (g := (mkF m 53 #[.val (.int p1), .val (.int ((p1 &&& (2147483647 : Int32)) % (5 : Int32))), .unset, .unset, .unset] [])) rfl (hb hby at_53)
          have go29 : Go p.tables e below T27 (mkF m 69 #[.val (.int p1), .val (.int ((p1 &&& (2147483647 : Int32)) % (5 : Int32))), .val (.ref wCASH_ADVANCE), .val (.int (1 : Int32)), .unset] [(.ref wCASH_ADVANCE)]) s₁ (entryFrame m #[(.int p1)] maxLocals) := by
            intro t k
            refine go26 t ?_
            show Steps _ _ _ (s₁.setTop (mkF m 53 #[.val (.int p1), .val (.int ((p1 &&& (2147483647 : Int32)) % (5 : Int32))), .unset, .unset, .unset] [])) _
            refine st27 _ ?_
            show Steps _ _ _ (T27.setTop (mkF m 56 #[.val (.int p1), .val (.int ((p1 &&& (2147483647 : Int32)) % (5 : Int32))), .unset, .unset, .unset] [(.ref wCASH_ADVANCE)])) _
            refine XS.astoreN X27.here hx rfl (hb hby at_56) rfl rfl (l' := #[.val (.int p1), .val (.int ((p1 &&& (2147483647 : Int32)) % (5 : Int32))), .val (.ref wCASH_ADVANCE), .unset, .unset]) rfl ?_
            show Steps _ _ _ (T27.setTop (mkF m 57 #[.val (.int p1), .val (.int ((p1 &&& (2147483647 : Int32)) % (5 : Int32))), .val (.ref wCASH_ADVANCE), .unset, .unset] [])) _
            refine XS.iconst X27.here hx rfl (hb hby at_57) ?_
            show Steps _ _ _ (T27.setTop (mkF m 58 #[.val (.int p1), .val (.int ((p1 &&& (2147483647 : Int32)) % (5 : Int32))), .val (.ref wCASH_ADVANCE), .unset, .unset] [(.int (1 : Int32))])) _
            refine XS.istoreN X27.here hx rfl (hb hby at_58) rfl (l' := #[.val (.int p1), .val (.int ((p1 &&& (2147483647 : Int32)) % (5 : Int32))), .val (.ref wCASH_ADVANCE), .val (.int (1 : Int32)), .unset]) rfl ?_
            show Steps _ _ _ (T27.setTop (mkF m 59 #[.val (.int p1), .val (.int ((p1 &&& (2147483647 : Int32)) % (5 : Int32))), .val (.ref wCASH_ADVANCE), .val (.int (1 : Int32)), .unset] [])) _
            refine XS.goto X27.here hx rfl (pc0 := 59) (pc' := 68) rfl (hb hby at_59) (by decide) (by decide) ?_
            show Steps _ _ _ (T27.setTop (mkF m 68 #[.val (.int p1), .val (.int ((p1 &&& (2147483647 : Int32)) % (5 : Int32))), .val (.ref wCASH_ADVANCE), .val (.int (1 : Int32)), .unset] [])) _
            refine XS.aloadN X27.here hx rfl (hb hby at_68) rfl rfl ?_
            exact k
          obtain ⟨cq28, kq28, q28a, q28b, q28c⟩ := isOf hZ e27 E_CASH_ADVANCE
          obtain ⟨_, _, ⟨T28, L28, k28, n28⟩, -, X28, ⟨Lc28, hQ28, l28, y28, z28⟩, st28⟩ := X27.virtualBack hx (y := (⟨"com/example/cyclebook/cyclebook/Posting$Type", "isDebit", "()Z"⟩ : MethodName)) (z := (⟨"com/example/cyclebook/cyclebook/Posting$Type", "isDebit", "()Z"⟩ : MethodName)) hown (mvT hZ (wk hw 4 rfl)) (mvT hZ (wk hw 5 rfl)) (notFace_of_selects (args := #[]) (mvT hZ (wk hw 7 rfl))) (mvT hZ (wk hw 7 rfl)) (mvT hZ (wk hw 6 rfl)) (by decide) (backOf (W := 0) (rm1_y l Z a0 hw [] wCASH_ADVANCE dC h0 n0 Z0 F_CASH_ADVANCE) hZ (wk hw 8 rfl) (wk hw 2 rfl) (by decide) (by decide)) q28a q28c (g := (mkF m 69 #[.val (.int p1), .val (.int ((p1 &&& (2147483647 : Int32)) % (5 : Int32))), .val (.ref wCASH_ADVANCE), .val (.int (1 : Int32)), .unset] [(.ref wCASH_ADVANCE)])) rfl (by rw [hml]; rfl) (Steps.refl _) (argsL := []) (rest := []) (lenOf pd_0 rfl) rfl (by show 2 * 0 + _ ≤ _; exact Nat.le_of_eq rfl) (hb hby at_69) (fun _ _ => ⟨rfl, e27, (by decide : 0 + 0 ≤ _), (by decide : 0 + 0 ≤ _)⟩)
          dsimp only [Pt.U, Pt.locs, Pt.cells, Pt.slots] at X28 l28 y28 z28 st28 hQ28
          subst l28 y28 z28
          obtain ⟨rfl, N28q, e28⟩ := hQ28
          have N28 := Fr.app N0 N28q
          have go31 : Go p.tables e below T28 (mkF m 83 #[.val (.int p1), .val (.int ((p1 &&& (2147483647 : Int32)) % (5 : Int32))), .val (.ref wCASH_ADVANCE), .val (.int (1 : Int32)), .val (.int (1 : Int32))] [(.ref wCASH_ADVANCE), (.int (1 : Int32))]) s₁ (entryFrame m #[(.int p1)] maxLocals) := by
            intro t k
            refine go29 t ?_
            show Steps _ _ _ (T27.setTop (mkF m 69 #[.val (.int p1), .val (.int ((p1 &&& (2147483647 : Int32)) % (5 : Int32))), .val (.ref wCASH_ADVANCE), .val (.int (1 : Int32)), .unset] [(.ref wCASH_ADVANCE)])) _
            refine st28.trans ?_
            show Steps _ _ _ (T28.setTop (mkF m 72 #[.val (.int p1), .val (.int ((p1 &&& (2147483647 : Int32)) % (5 : Int32))), .val (.ref wCASH_ADVANCE), .val (.int (1 : Int32)), .unset] [(.int (1 : Int32))])) _
            refine XS.istore X28.here hx rfl (hb hby at_72) rfl (l' := #[.val (.int p1), .val (.int ((p1 &&& (2147483647 : Int32)) % (5 : Int32))), .val (.ref wCASH_ADVANCE), .val (.int (1 : Int32)), .val (.int (1 : Int32))]) rfl ?_
            show Steps _ _ _ (T28.setTop (mkF m 74 #[.val (.int p1), .val (.int ((p1 &&& (2147483647 : Int32)) % (5 : Int32))), .val (.ref wCASH_ADVANCE), .val (.int (1 : Int32)), .val (.int (1 : Int32))] [])) _
            refine XS.iload X28.here hx rfl (hb hby at_74) rfl ?_
            show Steps _ _ _ (T28.setTop (mkF m 76 #[.val (.int p1), .val (.int ((p1 &&& (2147483647 : Int32)) % (5 : Int32))), .val (.ref wCASH_ADVANCE), .val (.int (1 : Int32)), .val (.int (1 : Int32))] [(.int (1 : Int32))])) _
            refine XS.iloadN X28.here hx rfl (hb hby at_76) rfl ?_
            show Steps _ _ _ (T28.setTop (mkF m 77 #[.val (.int p1), .val (.int ((p1 &&& (2147483647 : Int32)) % (5 : Int32))), .val (.ref wCASH_ADVANCE), .val (.int (1 : Int32)), .val (.int (1 : Int32))] [(.int (1 : Int32)), (.int (1 : Int32))])) _
            refine XS.icmpNo X28.here hx rfl (hb hby at_77) rfl (teq rfl).2 ?_
            show Steps _ _ _ (T28.setTop (mkF m 80 #[.val (.int p1), .val (.int ((p1 &&& (2147483647 : Int32)) % (5 : Int32))), .val (.ref wCASH_ADVANCE), .val (.int (1 : Int32)), .val (.int (1 : Int32))] [])) _
            refine XS.iload X28.here hx rfl (hb hby at_80) rfl ?_
            show Steps _ _ _ (T28.setTop (mkF m 82 #[.val (.int p1), .val (.int ((p1 &&& (2147483647 : Int32)) % (5 : Int32))), .val (.ref wCASH_ADVANCE), .val (.int (1 : Int32)), .val (.int (1 : Int32))] [(.int (1 : Int32))])) _
            refine XS.aloadN X28.here hx rfl (hb hby at_82) rfl rfl ?_
            exact k
          obtain ⟨cq30, kq30, q30a, q30b, q30c⟩ := isOf hZ e28 E_CASH_ADVANCE
          obtain ⟨_, _, ⟨T30, L30, k30, n30⟩, -, X30, ⟨Lc30, hQ30, l30, y30, z30⟩, st30⟩ := X28.virtualBack hx (y := (⟨"com/example/cyclebook/cyclebook/Posting$Type", "debt", "()Lcom/example/cyclebook/cyclebook/Debt;"⟩ : MethodName)) (z := (⟨"com/example/cyclebook/cyclebook/Posting$Type", "debt", "()Lcom/example/cyclebook/cyclebook/Debt;"⟩ : MethodName)) hown (mvT hZ (wk hw 13 rfl)) (mvT hZ (wk hw 14 rfl)) (notFace_of_selects (args := #[]) (mvT hZ (wk hw 16 rfl))) (mvT hZ (wk hw 16 rfl)) (mvT hZ (wk hw 15 rfl)) (by decide) (backOf (W := 1) (rm2_y l Z a0 hw [] wCASH_ADVANCE dC h0 n0 Z0 F_CASH_ADVANCE) hZ (wk hw 17 rfl) (wk hw 2 rfl) (by decide) (by decide)) q30a q30c (g := (mkF m 83 #[.val (.int p1), .val (.int ((p1 &&& (2147483647 : Int32)) % (5 : Int32))), .val (.ref wCASH_ADVANCE), .val (.int (1 : Int32)), .val (.int (1 : Int32))] [(.ref wCASH_ADVANCE), (.int (1 : Int32))])) rfl (by rw [hml]; rfl) (Steps.refl _) (argsL := []) (rest := [(.int (1 : Int32))]) (lenOf pd_1 rfl) rfl (by show 2 * 0 + _ ≤ _; exact Nat.le_of_eq rfl) (hb hby at_83) (fun _ _ => ⟨rfl, e28, (by decide : 0 + 0 ≤ _), (by decide : 0 + 0 ≤ _)⟩)
          dsimp only [Pt.U, Pt.locs, Pt.cells, Pt.slots] at X30 l30 y30 z30 st30 hQ30
          subst l30 y30 z30
          obtain ⟨rfl, N30q, e30⟩ := hQ30
          have N30 := Fr.app N28 N30q
          have go32 : Go p.tables e below T30 (mkF m 102 #[.val (.int p1), .val (.int ((p1 &&& (2147483647 : Int32)) % (5 : Int32))), .val (.ref wCASH_ADVANCE), .val (.int (1 : Int32)), .val (.int (1 : Int32))] [(.int (1 : Int32))]) s₁ (entryFrame m #[(.int p1)] maxLocals) := by
            intro t k
            refine go31 t ?_
            show Steps _ _ _ (T28.setTop (mkF m 83 #[.val (.int p1), .val (.int ((p1 &&& (2147483647 : Int32)) % (5 : Int32))), .val (.ref wCASH_ADVANCE), .val (.int (1 : Int32)), .val (.int (1 : Int32))] [(.ref wCASH_ADVANCE), (.int (1 : Int32))])) _
            refine st30.trans ?_
            show Steps _ _ _ (T30.setTop (mkF m 86 #[.val (.int p1), .val (.int ((p1 &&& (2147483647 : Int32)) % (5 : Int32))), .val (.ref wCASH_ADVANCE), .val (.int (1 : Int32)), .val (.int (1 : Int32))] [(.ref dC), (.int (1 : Int32))])) _
            refine XS.ifnullNo X30.here hx rfl (hb hby at_86) rfl ?_
            show Steps _ _ _ (T30.setTop (mkF m 89 #[.val (.int p1), .val (.int ((p1 &&& (2147483647 : Int32)) % (5 : Int32))), .val (.ref wCASH_ADVANCE), .val (.int (1 : Int32)), .val (.int (1 : Int32))] [(.int (1 : Int32))])) _
            refine XS.iconst X30.here hx rfl (hb hby at_89) ?_
            show Steps _ _ _ (T30.setTop (mkF m 90 #[.val (.int p1), .val (.int ((p1 &&& (2147483647 : Int32)) % (5 : Int32))), .val (.ref wCASH_ADVANCE), .val (.int (1 : Int32)), .val (.int (1 : Int32))] [(.int (1 : Int32)), (.int (1 : Int32))])) _
            refine XS.goto X30.here hx rfl (pc0 := 90) (pc' := 94) rfl (hb hby at_90) (by decide) (by decide) ?_
            show Steps _ _ _ (T30.setTop (mkF m 94 #[.val (.int p1), .val (.int ((p1 &&& (2147483647 : Int32)) % (5 : Int32))), .val (.ref wCASH_ADVANCE), .val (.int (1 : Int32)), .val (.int (1 : Int32))] [(.int (1 : Int32)), (.int (1 : Int32))])) _
            refine XS.icmpNo X30.here hx rfl (hb hby at_94) rfl (teq rfl).2 ?_
            show Steps _ _ _ (T30.setTop (mkF m 97 #[.val (.int p1), .val (.int ((p1 &&& (2147483647 : Int32)) % (5 : Int32))), .val (.ref wCASH_ADVANCE), .val (.int (1 : Int32)), .val (.int (1 : Int32))] [])) _
            refine XS.iconst X30.here hx rfl (hb hby at_97) ?_
            show Steps _ _ _ (T30.setTop (mkF m 98 #[.val (.int p1), .val (.int ((p1 &&& (2147483647 : Int32)) % (5 : Int32))), .val (.ref wCASH_ADVANCE), .val (.int (1 : Int32)), .val (.int (1 : Int32))] [(.int (1 : Int32))])) _
            refine XS.goto X30.here hx rfl (pc0 := 98) (pc' := 102) rfl (hb hby at_98) (by decide) (by decide) ?_
            exact k
          obtain ⟨fs, hr, hrun, hended, hW, hsame⟩ := X30.leave (v := some (.int (1 : Int32))) (fun h => by rw [Bd.returns] at h; cases h)
          refine ⟨_, _, go32 _ ?_, hrun, hended, _, _, rfl, ?_, ⟨_, rfl⟩, hW, hsame.mono (by decide) (by decide)⟩
          · exact retN X30 hx (t := .boolean) Bd.returns (by simp) (hb hby at_102) hr
          · show QL (.int 1) h0 n0 _ T30.heap _
            rw [e30]
            exact ⟨rfl, N30⟩
        · skip
          have go33 : Go p.tables e below s₁ (mkF m 62 #[.val (.int p1), .val (.int ((p1 &&& (2147483647 : Int32)) % (5 : Int32))), .unset, .unset, .unset] []) s₁ (entryFrame m #[(.int p1)] maxLocals) := by
            intro t k
            refine go25 t ?_
            show Steps _ _ _ (s₁.setTop (mkF m 50 #[.val (.int p1), .val (.int ((p1 &&& (2147483647 : Int32)) % (5 : Int32))), .unset, .unset, .unset] [(.int (3 : Int32)), (.int ((p1 &&& (2147483647 : Int32)) % (5 : Int32)))])) _
            refine XS.icmpYes X0.here hx rfl (pc0 := 50) (pc' := 62) rfl (hb hby at_50) rfl (feq hc50).2 (by decide) (by decide) ?_
            exact k
          obtain ⟨T34, X34, e34, st34⟩ := getS2 X0 hx hZ hown (host := "") (Or.inl (wk hw 23 rfl)) Via.refl e0 S_PLAN (g := (mkF m 62 #[.val (.int p1), .val (.int ((p1 &&& (2147483647 : Int32)) % (5 : Int32))), .unset, .unset, .unset] [])) rfl (hb hby at_62)
          have go36 : Go p.tables e below T34 (mkF m 69 #[.val (.int p1), .val (.int ((p1 &&& (2147483647 : Int32)) % (5 : Int32))), .val (.ref wPLAN), .val (.int (0 : Int32)), .unset] [(.ref wPLAN)]) s₁ (entryFrame m #[(.int p1)] maxLocals) := by
            intro t k
            refine go33 t ?_
            show Steps _ _ _ (s₁.setTop (mkF m 62 #[.val (.int p1), .val (.int ((p1 &&& (2147483647 : Int32)) % (5 : Int32))), .unset, .unset, .unset] [])) _
            refine st34 _ ?_
            show Steps _ _ _ (T34.setTop (mkF m 65 #[.val (.int p1), .val (.int ((p1 &&& (2147483647 : Int32)) % (5 : Int32))), .unset, .unset, .unset] [(.ref wPLAN)])) _
            refine XS.astoreN X34.here hx rfl (hb hby at_65) rfl rfl (l' := #[.val (.int p1), .val (.int ((p1 &&& (2147483647 : Int32)) % (5 : Int32))), .val (.ref wPLAN), .unset, .unset]) rfl ?_
            show Steps _ _ _ (T34.setTop (mkF m 66 #[.val (.int p1), .val (.int ((p1 &&& (2147483647 : Int32)) % (5 : Int32))), .val (.ref wPLAN), .unset, .unset] [])) _
            refine XS.iconst X34.here hx rfl (hb hby at_66) ?_
            show Steps _ _ _ (T34.setTop (mkF m 67 #[.val (.int p1), .val (.int ((p1 &&& (2147483647 : Int32)) % (5 : Int32))), .val (.ref wPLAN), .unset, .unset] [(.int (0 : Int32))])) _
            refine XS.istoreN X34.here hx rfl (hb hby at_67) rfl (l' := #[.val (.int p1), .val (.int ((p1 &&& (2147483647 : Int32)) % (5 : Int32))), .val (.ref wPLAN), .val (.int (0 : Int32)), .unset]) rfl ?_
            show Steps _ _ _ (T34.setTop (mkF m 68 #[.val (.int p1), .val (.int ((p1 &&& (2147483647 : Int32)) % (5 : Int32))), .val (.ref wPLAN), .val (.int (0 : Int32)), .unset] [])) _
            refine XS.aloadN X34.here hx rfl (hb hby at_68) rfl rfl ?_
            exact k
          obtain ⟨cq35, kq35, q35a, q35b, q35c⟩ := isOf hZ e34 E_PLAN
          obtain ⟨_, _, ⟨T35, L35, k35, n35⟩, -, X35, ⟨Lc35, hQ35, l35, y35, z35⟩, st35⟩ := X34.virtualBack hx (y := (⟨"com/example/cyclebook/cyclebook/Posting$Type", "isDebit", "()Z"⟩ : MethodName)) (z := (⟨"com/example/cyclebook/cyclebook/Posting$Type", "isDebit", "()Z"⟩ : MethodName)) hown (mvT hZ (wk hw 4 rfl)) (mvT hZ (wk hw 5 rfl)) (notFace_of_selects (args := #[]) (mvT hZ (wk hw 7 rfl))) (mvT hZ (wk hw 7 rfl)) (mvT hZ (wk hw 6 rfl)) (by decide) (backOf (W := 0) (rm1_n l Z a0 hw [] wPLAN  h0 n0 Z0 F_PLAN) hZ (wk hw 8 rfl) (wk hw 2 rfl) (by decide) (by decide)) q35a q35c (g := (mkF m 69 #[.val (.int p1), .val (.int ((p1 &&& (2147483647 : Int32)) % (5 : Int32))), .val (.ref wPLAN), .val (.int (0 : Int32)), .unset] [(.ref wPLAN)])) rfl (by rw [hml]; rfl) (Steps.refl _) (argsL := []) (rest := []) (lenOf pd_0 rfl) rfl (by show 2 * 0 + _ ≤ _; exact Nat.le_of_eq rfl) (hb hby at_69) (fun _ _ => ⟨rfl, e34, (by decide : 0 + 0 ≤ _), (by decide : 0 + 0 ≤ _)⟩)
          dsimp only [Pt.U, Pt.locs, Pt.cells, Pt.slots] at X35 l35 y35 z35 st35 hQ35
          subst l35 y35 z35
          obtain ⟨rfl, N35q, e35⟩ := hQ35
          have N35 := Fr.app N0 N35q
          have go38 : Go p.tables e below T35 (mkF m 83 #[.val (.int p1), .val (.int ((p1 &&& (2147483647 : Int32)) % (5 : Int32))), .val (.ref wPLAN), .val (.int (0 : Int32)), .val (.int (0 : Int32))] [(.ref wPLAN), (.int (0 : Int32))]) s₁ (entryFrame m #[(.int p1)] maxLocals) := by
            intro t k
            refine go36 t ?_
            show Steps _ _ _ (T34.setTop (mkF m 69 #[.val (.int p1), .val (.int ((p1 &&& (2147483647 : Int32)) % (5 : Int32))), .val (.ref wPLAN), .val (.int (0 : Int32)), .unset] [(.ref wPLAN)])) _
            refine st35.trans ?_
            show Steps _ _ _ (T35.setTop (mkF m 72 #[.val (.int p1), .val (.int ((p1 &&& (2147483647 : Int32)) % (5 : Int32))), .val (.ref wPLAN), .val (.int (0 : Int32)), .unset] [(.int (0 : Int32))])) _
            refine XS.istore X35.here hx rfl (hb hby at_72) rfl (l' := #[.val (.int p1), .val (.int ((p1 &&& (2147483647 : Int32)) % (5 : Int32))), .val (.ref wPLAN), .val (.int (0 : Int32)), .val (.int (0 : Int32))]) rfl ?_
            show Steps _ _ _ (T35.setTop (mkF m 74 #[.val (.int p1), .val (.int ((p1 &&& (2147483647 : Int32)) % (5 : Int32))), .val (.ref wPLAN), .val (.int (0 : Int32)), .val (.int (0 : Int32))] [])) _
            refine XS.iload X35.here hx rfl (hb hby at_74) rfl ?_
            show Steps _ _ _ (T35.setTop (mkF m 76 #[.val (.int p1), .val (.int ((p1 &&& (2147483647 : Int32)) % (5 : Int32))), .val (.ref wPLAN), .val (.int (0 : Int32)), .val (.int (0 : Int32))] [(.int (0 : Int32))])) _
            refine XS.iloadN X35.here hx rfl (hb hby at_76) rfl ?_
            show Steps _ _ _ (T35.setTop (mkF m 77 #[.val (.int p1), .val (.int ((p1 &&& (2147483647 : Int32)) % (5 : Int32))), .val (.ref wPLAN), .val (.int (0 : Int32)), .val (.int (0 : Int32))] [(.int (0 : Int32)), (.int (0 : Int32))])) _
            refine XS.icmpNo X35.here hx rfl (hb hby at_77) rfl (teq rfl).2 ?_
            show Steps _ _ _ (T35.setTop (mkF m 80 #[.val (.int p1), .val (.int ((p1 &&& (2147483647 : Int32)) % (5 : Int32))), .val (.ref wPLAN), .val (.int (0 : Int32)), .val (.int (0 : Int32))] [])) _
            refine XS.iload X35.here hx rfl (hb hby at_80) rfl ?_
            show Steps _ _ _ (T35.setTop (mkF m 82 #[.val (.int p1), .val (.int ((p1 &&& (2147483647 : Int32)) % (5 : Int32))), .val (.ref wPLAN), .val (.int (0 : Int32)), .val (.int (0 : Int32))] [(.int (0 : Int32))])) _
            refine XS.aloadN X35.here hx rfl (hb hby at_82) rfl rfl ?_
            exact k
          obtain ⟨cq37, kq37, q37a, q37b, q37c⟩ := isOf hZ e35 E_PLAN
          obtain ⟨_, _, ⟨T37, L37, k37, n37⟩, -, X37, ⟨Lc37, hQ37, l37, y37, z37⟩, st37⟩ := X35.virtualBack hx (y := (⟨"com/example/cyclebook/cyclebook/Posting$Type", "debt", "()Lcom/example/cyclebook/cyclebook/Debt;"⟩ : MethodName)) (z := (⟨"com/example/cyclebook/cyclebook/Posting$Type", "debt", "()Lcom/example/cyclebook/cyclebook/Debt;"⟩ : MethodName)) hown (mvT hZ (wk hw 13 rfl)) (mvT hZ (wk hw 14 rfl)) (notFace_of_selects (args := #[]) (mvT hZ (wk hw 16 rfl))) (mvT hZ (wk hw 16 rfl)) (mvT hZ (wk hw 15 rfl)) (by decide) (backOf (W := 1) (rm2_n l Z a0 hw [] wPLAN  h0 n0 Z0 F_PLAN) hZ (wk hw 17 rfl) (wk hw 2 rfl) (by decide) (by decide)) q37a q37c (g := (mkF m 83 #[.val (.int p1), .val (.int ((p1 &&& (2147483647 : Int32)) % (5 : Int32))), .val (.ref wPLAN), .val (.int (0 : Int32)), .val (.int (0 : Int32))] [(.ref wPLAN), (.int (0 : Int32))])) rfl (by rw [hml]; rfl) (Steps.refl _) (argsL := []) (rest := [(.int (0 : Int32))]) (lenOf pd_1 rfl) rfl (by show 2 * 0 + _ ≤ _; exact Nat.le_of_eq rfl) (hb hby at_83) (fun _ _ => ⟨rfl, e35, (by decide : 0 + 0 ≤ _), (by decide : 0 + 0 ≤ _)⟩)
          dsimp only [Pt.U, Pt.locs, Pt.cells, Pt.slots] at X37 l37 y37 z37 st37 hQ37
          subst l37 y37 z37
          obtain ⟨rfl, N37q, e37⟩ := hQ37
          have N37 := Fr.app N35 N37q
          have go39 : Go p.tables e below T37 (mkF m 102 #[.val (.int p1), .val (.int ((p1 &&& (2147483647 : Int32)) % (5 : Int32))), .val (.ref wPLAN), .val (.int (0 : Int32)), .val (.int (0 : Int32))] [(.int (1 : Int32))]) s₁ (entryFrame m #[(.int p1)] maxLocals) := by
            intro t k
            refine go38 t ?_
            show Steps _ _ _ (T35.setTop (mkF m 83 #[.val (.int p1), .val (.int ((p1 &&& (2147483647 : Int32)) % (5 : Int32))), .val (.ref wPLAN), .val (.int (0 : Int32)), .val (.int (0 : Int32))] [(.ref wPLAN), (.int (0 : Int32))])) _
            refine st37.trans ?_
            show Steps _ _ _ (T37.setTop (mkF m 86 #[.val (.int p1), .val (.int ((p1 &&& (2147483647 : Int32)) % (5 : Int32))), .val (.ref wPLAN), .val (.int (0 : Int32)), .val (.int (0 : Int32))] [.null, (.int (0 : Int32))])) _
            refine XS.ifnullYes X37.here hx rfl (pc0 := 86) (pc' := 93) rfl (hb hby at_86) rfl (by decide) (by decide) ?_
            show Steps _ _ _ (T37.setTop (mkF m 93 #[.val (.int p1), .val (.int ((p1 &&& (2147483647 : Int32)) % (5 : Int32))), .val (.ref wPLAN), .val (.int (0 : Int32)), .val (.int (0 : Int32))] [(.int (0 : Int32))])) _
            refine XS.iconst X37.here hx rfl (hb hby at_93) ?_
            show Steps _ _ _ (T37.setTop (mkF m 94 #[.val (.int p1), .val (.int ((p1 &&& (2147483647 : Int32)) % (5 : Int32))), .val (.ref wPLAN), .val (.int (0 : Int32)), .val (.int (0 : Int32))] [(.int (0 : Int32)), (.int (0 : Int32))])) _
            refine XS.icmpNo X37.here hx rfl (hb hby at_94) rfl (teq rfl).2 ?_
            show Steps _ _ _ (T37.setTop (mkF m 97 #[.val (.int p1), .val (.int ((p1 &&& (2147483647 : Int32)) % (5 : Int32))), .val (.ref wPLAN), .val (.int (0 : Int32)), .val (.int (0 : Int32))] [])) _
            refine XS.iconst X37.here hx rfl (hb hby at_97) ?_
            show Steps _ _ _ (T37.setTop (mkF m 98 #[.val (.int p1), .val (.int ((p1 &&& (2147483647 : Int32)) % (5 : Int32))), .val (.ref wPLAN), .val (.int (0 : Int32)), .val (.int (0 : Int32))] [(.int (1 : Int32))])) _
            refine XS.goto X37.here hx rfl (pc0 := 98) (pc' := 102) rfl (hb hby at_98) (by decide) (by decide) ?_
            exact k
          obtain ⟨fs, hr, hrun, hended, hW, hsame⟩ := X37.leave (v := some (.int (1 : Int32))) (fun h => by rw [Bd.returns] at h; cases h)
          refine ⟨_, _, go39 _ ?_, hrun, hended, _, _, rfl, ?_, ⟨_, rfl⟩, hW, hsame.mono (by decide) (by decide)⟩
          · exact retN X37 hx (t := .boolean) Bd.returns (by simp) (hb hby at_102) hr
          · show QL (.int 1) h0 n0 _ T37.heap _
            rw [e37]
            exact ⟨rfl, N37⟩
set_option maxRecDepth 65536 in
set_option maxHeartbeats 40000000 in
theorem comes_1 {Post : Tables → Env → Array Value → State → Outcome → State → Prop} (hpost : ∀ tb e args s v u, (limb_1_1.after args s (.returned v) u = true ∧ limb_1_2.after args s (.returned v) u = true ∧ True) → FrameEnd s (.returned v) u (Jvm.fieldLocs frame_1_writes args s ++ Jvm.arrayLocs frame_1_arrays args s ++ Jvm.staticLocs frame_1_statics s) 0 0 → Post tb e args s (.returned v) u) :
    ArmFor flags0 classFile x code maxLocals ret World_1 tables_1 room_1 Calls_1 rest_1 Pre_1 Post := by
  intro l hfl _ _ p e ha hc hk s m args below hf hA hF happ hP
  obtain ⟨hcalls, hrest, hpre⟩ := hP
  obtain ⟨-, -, -, hnamed, -, -, -, hat⟩ := (Spec.applies_iff hf).mp happ
  obtain ⟨hg, hn⟩ := and_e (Cond.before_iff.mp (show (Jvm.Cond.and given_1 narrow_1).before args s = true from hpre))
  obtain ⟨gc, g0⟩ := and_e hg
  have ga0 := g0
  obtain ⟨w0, rfl⟩ : ∃ w0 : Value, args = #[w0] := by
    have hs : args.size = 1 := by simpa [Cond.value, given_1] using gc
    obtain ⟨L⟩ := args
    match L, hs with
    | [w0], _ => exact ⟨w0, rfl⟩
  have hw := fun d (hd : d ∈ tables_1) => atoms_spec (ws := Jvm.Cond.code x code maxLocals ret :: tables_1) hat d (List.mem_cons_of_mem _ hd)
  have hfit : Fit s := fun {y c} hc i hi => by
    obtain ⟨ha, rfl⟩ := Array.getElem?_eq_some_iff.mp hc
    have q := List.all_eq_true.mp ((Array.all_eq_true_iff_forall_mem.mp hF) _ (Array.getElem_mem ha)) i (List.mem_range.mpr hi)
    simpa [Array.getElem?_eq_getElem hi] using q
  obtain ⟨i0, ei0⟩ := is_v ga0
  obtain rfl : w0 = (.int i0) := Option.some.inj ei0
  obtain ⟨n1, m1⟩ := and_e hn
  obtain ⟨n2, m2⟩ := and_e m1
  obtain ⟨n3, m3⟩ := and_e m2
  obtain ⟨n4, m4⟩ := and_e m3
  obtain ⟨n5, m5⟩ := and_e m4
  obtain ⟨n6, m6⟩ := and_e m5
  obtain ⟨n7, m7⟩ := and_e m6
  obtain ⟨n8, m8⟩ := and_e m7
  obtain ⟨n9, m9⟩ := and_e m8
  obtain ⟨n10, m10⟩ := and_e m9
  obtain ⟨n11, m11⟩ := and_e m10
  have n12 := m11
  obtain ⟨wPURCHASE, ePURCHASE⟩ := exa_v n1
  have EPURCHASE := Exa.start ePURCHASE n1
  have SPURCHASE := Sta.start ePURCHASE (Or.inr ⟨(wk hw 2 rfl), (wk hw 3 rfl)⟩)
  obtain ⟨wREFUND, eREFUND⟩ := exa_v n7
  have EREFUND := Exa.start eREFUND n7
  have SREFUND := Sta.start eREFUND (Or.inr ⟨(wk hw 2 rfl), (wk hw 22 rfl)⟩)
  obtain ⟨wPAYMENT, ePAYMENT⟩ := exa_v n11
  have EPAYMENT := Exa.start ePAYMENT n11
  have SPAYMENT := Sta.start ePAYMENT (Or.inr ⟨(wk hw 2 rfl), (wk hw 26 rfl)⟩)
  obtain ⟨wCASH_ADVANCE, eCASH_ADVANCE⟩ := exa_v n4
  have ECASH_ADVANCE := Exa.start eCASH_ADVANCE n4
  have SCASH_ADVANCE := Sta.start eCASH_ADVANCE (Or.inr ⟨(wk hw 2 rfl), (wk hw 19 rfl)⟩)
  obtain ⟨wPLAN, ePLAN⟩ := exa_v n9
  have EPLAN := Exa.start ePLAN n9
  have SPLAN := Sta.start ePLAN (Or.inr ⟨(wk hw 2 rfl), (wk hw 24 rfl)⟩)
  obtain ⟨dP, edP⟩ := exa_v n2
  obtain ⟨dC, edC⟩ := exa_v n5
  have FPURCHASE := Fld.start (own_fldR n3 ePURCHASE edP)
  have FREFUND := Fld.start (own_fldN n8 eREFUND)
  have FPAYMENT := Fld.start (own_fldN n12 ePAYMENT)
  have FCASH_ADVANCE := Fld.start (own_fldR n6 eCASH_ADVANCE edC)
  have FPLAN := Fld.start (own_fldN n10 ePLAN)
  have key := rm0 l s _ hw tables_1 i0 wPURCHASE wREFUND wPAYMENT wCASH_ADVANCE wPLAN dP dC s.heap s.heap.size (Nat.le_refl _) SPURCHASE EPURCHASE FPURCHASE SREFUND EREFUND FREFUND SPAYMENT EPAYMENT FPAYMENT SCASH_ADVANCE ECASH_ADVANCE FCASH_ADVANCE SPLAN EPLAN FPLAN p e ha hc hk s m _ below hf ((Spec.applies_iff_loose hf).mp happ).1 ⟨rfl, State.Warmed39.refl s, rfl⟩ trivial
  obtain ⟨n, o, h1, h2, h3, _, L, rfl, ⟨rfl, N⟩, hq⟩ := key
  refine ⟨n, _, h1, h2, h3, hpost _ _ _ _ _ _ ⟨Cond.after_iff.mpr rfl, Cond.after_iff.mpr (eq_i res_at (Term.int_eval (1)) rfl), trivial⟩ ⟨hq.1, hq.2.1, (hq.2.2.sift fun y hy => Or.inr (N y hy)).mono (by decide) (by decide)⟩⟩
theorem main_1_1 : Claimed_1_1 := comes_1 fun _ _ _ _ _ _ h hF => ⟨h.1, hF⟩
theorem main_1_2 : Claimed_1_2 := comes_1 fun _ _ _ _ _ _ h hF => ⟨h.2.1, hF⟩
end Jvm.Pilot.@@N@@
namespace Jvm.Pilot.@@N@@
open Jvm Jvm.ClassFile Sem Op Lib Jvm.Free Jvm.Stand Jvm.Pilot.@@N@@.Jvm.D
/-! MADE BY PROGRAM (witnessworld.py) out of the Statement's table words and the real class files: 13 classes; the members and pool entries that the words name. The judged class is class 1, her method 1. -/
namespace start1
open Jvm.ClassFile
def u (s : String) : CpInfo := .utf8 (stringToUtf16 s)
/-- a pool by its gaps: so many unusable entries, then the entry; so many at the end -/
def gap : Nat → List CpInfo → List CpInfo
  | 0, r => r
  | n + 1, r => .unusable :: gap n r
def poolList (es : List (Nat × CpInfo)) (last : Nat) : List CpInfo := es.foldr (fun e r => gap e.1 (e.2 :: r)) (gap last [])
def pool (es : List (Nat × CpInfo)) (last : Nat) : Array CpInfo := ⟨poolList es last⟩
def fileOf (pool : Array CpInfo) (this : Nat) (attrs : Array Attribute := #[]) (ms : Array MethodInfo := #[]) (fl : Nat := 33) (sup : Nat := 0) (ifs : Array Nat := #[]) (fds : Array FieldInfo := #[]) : ClassFile where
  minorVersion := 0
  majorVersion := 65
  constantPool := pool
  accessFlags := fl
  thisClass := this
  superClass := sup
  interfaces := ifs
  fields := fds
  methods := ms
  attributes := attrs
def plain (name : String) (sup : Option ClassId) : Class where
  name := name
  kind := .ordinary
  loader := none
  accessFlags := 33
  super := sup
  interfaces := #[]
  cf := none
  fields := #[]
  methods := #[]
  instanceTypes := #[]
  staticTypes := #[]
  resolved := #[]
  callSites := []
  init := .initialized
  statics := none
  mirror := none

def pool0 : Array CpInfo := pool [(5, u "<init>"), (0, u "()V"), (1, .class_ 10), (1, u "java/lang/Object")] 113

def k0m0 : Method := { name := "<init>", desc := "()V", sig := { parameters := [], returnType := none }, accessFlags := 1, code := none }
/-- java/lang/Object -/
def k0 : Class := { plain "java/lang/Object" none with
  accessFlags := 33
  interfaces := #[]
  cf := some (fileOf pool0 8 #[] #[{ accessFlags := 1, nameIndex := 5, descriptorIndex := 6, attributes := #[] }] 33 0 #[] #[])
  fields := #[]
  methods := #[k0m0]
  instanceTypes := #[]
  staticTypes := #[]
  resolved := Array.replicate 124 none
  statics := none }

def pool1 : Array CpInfo := pool [(2, .class_ 4), (1, u "java/lang/Object"), (0, u "<init>"), (0, u "()V"), (0, .integer 2147483647), (0, .fieldref 9 10), (0, .class_ 11), (0, .nameAndType 12 13), (0, u "com/example/cyclebook/cyclebook/Posting$Type"), (0, u "PURCHASE"), (0, u "Lcom/example/cyclebook/cyclebook/Posting$Type;"), (0, .fieldref 9 15), (0, .nameAndType 16 13), (0, u "REFUND"), (0, .fieldref 9 18), (0, .nameAndType 19 13), (0, u "PAYMENT"), (0, .fieldref 9 21), (0, .nameAndType 22 13), (0, u "CASH_ADVANCE"), (0, .fieldref 9 24), (0, .nameAndType 25 13), (0, u "PLAN"), (0, .methodref 9 27), (0, .nameAndType 28 29), (0, u "isDebit"), (0, u "()Z"), (0, .methodref 9 31), (0, .nameAndType 32 33), (0, u "debt"), (0, u "()Lcom/example/cyclebook/cyclebook/Debt;"), (0, .class_ 35), (0, u "com/example/cyclebook/cyclebook/TypeIsDebitPinLaw"), (2, u "law"), (0, u "(I)Z")] 7

def k1m0 : Method := { name := "<init>", desc := "()V", sig := { parameters := [], returnType := none }, accessFlags := 1, code := none }
def k1c1 : Code := { maxStack := 2, maxLocals := 5, code := code, exceptionTable := #[], attributes := #[] }
def k1m1 : Method := { name := "law", desc := "(I)Z", sig := { parameters := [.int], returnType := some .boolean }, accessFlags := 9, code := some k1c1 }
/-- com/example/cyclebook/cyclebook/TypeIsDebitPinLaw -/
def k1 : Class := { plain "com/example/cyclebook/cyclebook/TypeIsDebitPinLaw" (some 0) with
  accessFlags := 49
  interfaces := #[]
  cf := some (fileOf pool1 34 #[] #[{ accessFlags := 1, nameIndex := 5, descriptorIndex := 6, attributes := #[] }, { accessFlags := 9, nameIndex := 38, descriptorIndex := 39, attributes := #[] }] 49 2 #[] #[])
  fields := #[]
  methods := #[k1m0, k1m1]
  instanceTypes := #[]
  staticTypes := #[]
  resolved := Array.replicate 47 none
  statics := none }

def pool2 : Array CpInfo := pool [(1, .class_ 2), (0, u "java/lang/constant/Constable"), (0, .class_ 4), (0, u "java/lang/Object")] 6

/-- java/lang/constant/Constable -/
def k2 : Class := { plain "java/lang/constant/Constable" (some 0) with
  accessFlags := 1537
  interfaces := #[]
  cf := some (fileOf pool2 1 #[] #[] 1537 3 #[] #[])
  fields := #[]
  methods := #[]
  instanceTypes := #[]
  staticTypes := #[]
  resolved := Array.replicate 11 none
  statics := none }

def pool3 : Array CpInfo := pool [(1, .class_ 2), (0, u "java/lang/Comparable"), (0, .class_ 4), (0, u "java/lang/Object")] 7

/-- java/lang/Comparable -/
def k3 : Class := { plain "java/lang/Comparable" (some 0) with
  accessFlags := 1537
  interfaces := #[]
  cf := some (fileOf pool3 1 #[] #[] 1537 3 #[] #[])
  fields := #[]
  methods := #[]
  instanceTypes := #[]
  staticTypes := #[]
  resolved := Array.replicate 12 none
  statics := none }

def pool4 : Array CpInfo := pool [(1, .class_ 2), (0, u "java/io/Serializable"), (0, .class_ 4), (0, u "java/lang/Object")] 2

/-- java/io/Serializable -/
def k4 : Class := { plain "java/io/Serializable" (some 0) with
  accessFlags := 1537
  interfaces := #[]
  cf := some (fileOf pool4 1 #[] #[] 1537 3 #[] #[])
  fields := #[]
  methods := #[]
  instanceTypes := #[]
  staticTypes := #[]
  resolved := Array.replicate 7 none
  statics := none }

def pool5 : Array CpInfo := pool [(2, .class_ 4), (1, u "java/lang/Enum"), (0, u "name"), (0, u "Ljava/lang/String;"), (2, u "ordinal"), (0, u "I"), (1, .class_ 14), (1, u "java/lang/Object"), (4, u "hash"), (86, .class_ 108), (1, u "java/lang/Enum$EnumDesc"), (2, .class_ 112), (0, u "java/lang/constant/Constable"), (0, .class_ 114), (0, u "java/lang/Comparable"), (0, .class_ 116), (0, u "java/io/Serializable")] 87

/-- java/lang/Enum -/
def k5 : Class := { plain "java/lang/Enum" (some 0) with
  accessFlags := 1057
  interfaces := #[2, 3, 4]
  cf := some (fileOf pool5 2 #[.nestMembers #[106]] #[] 1057 12 #[111, 113, 115] #[{ accessFlags := 18, nameIndex := 5, descriptorIndex := 6, attributes := #[] }, { accessFlags := 18, nameIndex := 9, descriptorIndex := 10, attributes := #[] }, { accessFlags := 2, nameIndex := 19, descriptorIndex := 10, attributes := #[] }])
  fields := #[{ name := "name", type := (.object "java/lang/String"), accessFlags := 18, slot := 0, constantValue := 0 }, { name := "ordinal", type := .int, accessFlags := 18, slot := 1, constantValue := 0 }, { name := "hash", type := .int, accessFlags := 2, slot := 2, constantValue := 0 }]
  methods := #[]
  instanceTypes := #[(.object "java/lang/String"), .int, .int]
  staticTypes := #[]
  resolved := Array.replicate 204 none
  statics := none }

def pool6 : Array CpInfo := pool [(1, .class_ 2), (0, u "com/example/cyclebook/cyclebook/Posting$Type"), (2, u "PURCHASE"), (0, u "Lcom/example/cyclebook/cyclebook/Posting$Type;"), (2, u "REFUND"), (2, u "PAYMENT"), (2, u "CASH_ADVANCE"), (2, u "PLAN"), (2, u "$VALUES"), (0, u "[Lcom/example/cyclebook/cyclebook/Posting$Type;"), (6, .class_ 31), (1, u "java/lang/Enum"), (8, u "name"), (0, u "Ljava/lang/String;"), (0, .fieldref 1 43), (0, .nameAndType 44 45), (0, u "debt"), (0, u "Lcom/example/cyclebook/cyclebook/Debt;"), (2, u "IN_TRANSACTIONS_FILES"), (0, u "Ljava/util/List;"), (11, u "()Z"), (21, u "isDebit"), (68, u "()Lcom/example/cyclebook/cyclebook/Debt;"), (9, .class_ 163), (0, u "com/example/cyclebook/cyclebook/Posting")] 20

def k6c0 : Code := { maxStack := 1, maxLocals := 1, code := prog_64_method_7_code, exceptionTable := #[], attributes := #[] }
def k6m0 : Method := { name := "isDebit", desc := "()Z", sig := { parameters := [], returnType := some .boolean }, accessFlags := 0, code := some k6c0 }
def k6c1 : Code := { maxStack := 1, maxLocals := 1, code := prog_64_method_8_code, exceptionTable := #[], attributes := #[] }
def k6m1 : Method := { name := "debt", desc := "()Lcom/example/cyclebook/cyclebook/Debt;", sig := { parameters := [], returnType := some (.object "com/example/cyclebook/cyclebook/Debt") }, accessFlags := 0, code := some k6c1 }
/-- com/example/cyclebook/cyclebook/Posting$Type -/
def k6 : Class := { plain "com/example/cyclebook/cyclebook/Posting$Type" (some 5) with
  accessFlags := 16432
  interfaces := #[]
  cf := some (fileOf pool6 1 #[.nestHost 162] #[{ accessFlags := 0, nameIndex := 83, descriptorIndex := 61, attributes := #[] }, { accessFlags := 0, nameIndex := 44, descriptorIndex := 152, attributes := #[] }] 16432 29 #[] #[{ accessFlags := 16409, nameIndex := 5, descriptorIndex := 6, attributes := #[] }, { accessFlags := 16409, nameIndex := 9, descriptorIndex := 6, attributes := #[] }, { accessFlags := 16409, nameIndex := 12, descriptorIndex := 6, attributes := #[] }, { accessFlags := 16409, nameIndex := 15, descriptorIndex := 6, attributes := #[] }, { accessFlags := 16409, nameIndex := 18, descriptorIndex := 6, attributes := #[] }, { accessFlags := 26, nameIndex := 48, descriptorIndex := 49, attributes := #[] }, { accessFlags := 18, nameIndex := 40, descriptorIndex := 41, attributes := #[] }, { accessFlags := 18, nameIndex := 44, descriptorIndex := 45, attributes := #[] }, { accessFlags := 4122, nameIndex := 21, descriptorIndex := 22, attributes := #[] }])
  fields := #[{ name := "PURCHASE", type := (.object "com/example/cyclebook/cyclebook/Posting$Type"), accessFlags := 16409, slot := 0, constantValue := 0 }, { name := "REFUND", type := (.object "com/example/cyclebook/cyclebook/Posting$Type"), accessFlags := 16409, slot := 1, constantValue := 0 }, { name := "PAYMENT", type := (.object "com/example/cyclebook/cyclebook/Posting$Type"), accessFlags := 16409, slot := 2, constantValue := 0 }, { name := "CASH_ADVANCE", type := (.object "com/example/cyclebook/cyclebook/Posting$Type"), accessFlags := 16409, slot := 3, constantValue := 0 }, { name := "PLAN", type := (.object "com/example/cyclebook/cyclebook/Posting$Type"), accessFlags := 16409, slot := 4, constantValue := 0 }, { name := "IN_TRANSACTIONS_FILES", type := (.object "java/util/List"), accessFlags := 26, slot := 5, constantValue := 0 }, { name := "name", type := (.object "java/lang/String"), accessFlags := 18, slot := 3, constantValue := 0 }, { name := "debt", type := (.object "com/example/cyclebook/cyclebook/Debt"), accessFlags := 18, slot := 4, constantValue := 0 }, { name := "$VALUES", type := (.array (.object "com/example/cyclebook/cyclebook/Posting$Type")), accessFlags := 4122, slot := 6, constantValue := 0 }]
  methods := #[k6m0, k6m1]
  instanceTypes := #[(.object "java/lang/String"), .int, .int, (.object "java/lang/String"), (.object "com/example/cyclebook/cyclebook/Debt")]
  staticTypes := #[(.object "com/example/cyclebook/cyclebook/Posting$Type"), (.object "com/example/cyclebook/cyclebook/Posting$Type"), (.object "com/example/cyclebook/cyclebook/Posting$Type"), (.object "com/example/cyclebook/cyclebook/Posting$Type"), (.object "com/example/cyclebook/cyclebook/Posting$Type"), (.object "java/util/List"), (.array (.object "com/example/cyclebook/cyclebook/Posting$Type"))]
  resolved := Array.replicate 184 none
  statics := some 0 }

def pool7 : Array CpInfo := pool [(1, .class_ 2), (0, u "com/example/cyclebook/cyclebook/Debt"), (2, u "INTEREST"), (0, u "Lcom/example/cyclebook/cyclebook/Debt;"), (2, u "FEES"), (2, u "CASH"), (2, u "PRINCIPAL"), (2, u "$VALUES"), (0, u "[Lcom/example/cyclebook/cyclebook/Debt;"), (6, .class_ 28), (1, u "java/lang/Enum")] 26

/-- com/example/cyclebook/cyclebook/Debt -/
def k7 : Class := { plain "com/example/cyclebook/cyclebook/Debt" (some 5) with
  accessFlags := 16432
  interfaces := #[]
  cf := some (fileOf pool7 1 #[] #[] 16432 26 #[] #[{ accessFlags := 16409, nameIndex := 5, descriptorIndex := 6, attributes := #[] }, { accessFlags := 16409, nameIndex := 9, descriptorIndex := 6, attributes := #[] }, { accessFlags := 16409, nameIndex := 12, descriptorIndex := 6, attributes := #[] }, { accessFlags := 16409, nameIndex := 15, descriptorIndex := 6, attributes := #[] }, { accessFlags := 4122, nameIndex := 18, descriptorIndex := 19, attributes := #[] }])
  fields := #[{ name := "INTEREST", type := (.object "com/example/cyclebook/cyclebook/Debt"), accessFlags := 16409, slot := 0, constantValue := 0 }, { name := "FEES", type := (.object "com/example/cyclebook/cyclebook/Debt"), accessFlags := 16409, slot := 1, constantValue := 0 }, { name := "CASH", type := (.object "com/example/cyclebook/cyclebook/Debt"), accessFlags := 16409, slot := 2, constantValue := 0 }, { name := "PRINCIPAL", type := (.object "com/example/cyclebook/cyclebook/Debt"), accessFlags := 16409, slot := 3, constantValue := 0 }, { name := "$VALUES", type := (.array (.object "com/example/cyclebook/cyclebook/Debt")), accessFlags := 4122, slot := 4, constantValue := 0 }]
  methods := #[]
  instanceTypes := #[(.object "java/lang/String"), .int, .int]
  staticTypes := #[(.object "com/example/cyclebook/cyclebook/Debt"), (.object "com/example/cyclebook/cyclebook/Debt"), (.object "com/example/cyclebook/cyclebook/Debt"), (.object "com/example/cyclebook/cyclebook/Debt"), (.array (.object "com/example/cyclebook/cyclebook/Debt"))]
  resolved := Array.replicate 55 none
  statics := some 1 }

def pool8 : Array CpInfo := pool [(1, u "java/lang/Cloneable"), (0, .class_ 1), (0, u "java/lang/Object"), (0, .class_ 3)] 3

/-- java/lang/Cloneable -/
def k8 : Class := { plain "java/lang/Cloneable" (some 0) with
  accessFlags := 1537
  interfaces := #[]
  cf := some (fileOf pool8 2 #[] #[] 1537 4 #[] #[])
  fields := #[]
  methods := #[]
  instanceTypes := #[]
  staticTypes := #[]
  resolved := Array.replicate 8 none
  statics := none }

/-- the primitive byte -/
def k9 : Class := { plain "byte" none with kind := .primitive 'B', accessFlags := 0x411 }
/-- [B -/
def k10 : Class := { plain "[B" (some 0) with kind := .array 9 .byte, interfaces := #[8, 4], accessFlags := 1041 }

/-- the primitive int -/
def k11 : Class := { plain "int" none with kind := .primitive 'I', accessFlags := 0x411 }
/-- [I -/
def k12 : Class := { plain "[I" (some 0) with kind := .array 11 .int, interfaces := #[8, 4], accessFlags := 1041 }

def heap : Heap := #[{ cls := 6, slots := #[.ref 4, .ref 5, .ref 6, .ref 7, .ref 8, .null, .null], vm := .statics 6 },
  { cls := 7, slots := #[.null, .null, .ref 3, .ref 2, .null], vm := .statics 7 },
  { cls := 7, slots := #[.null, .int 0, .int 0], vm := .none },
  { cls := 7, slots := #[.null, .int 1, .int 0], vm := .none },
  { cls := 6, slots := #[.null, .int 0, .int 0, .null, .ref 2], vm := .none },
  { cls := 6, slots := #[.null, .int 1, .int 0, .null, .null], vm := .none },
  { cls := 6, slots := #[.null, .int 2, .int 0, .null, .null], vm := .none },
  { cls := 6, slots := #[.null, .int 3, .int 0, .null, .ref 3], vm := .none },
  { cls := 6, slots := #[.null, .int 4, .int 0, .null, .null], vm := .none }]
def classes : Array Class := #[k0, k1, k2, k3, k4, k5, k6, k7, k8, k9, k10, k11, k12]
def interned : List (Array UInt16 × Addr) := []
def slotsUsed : Nat := 43
def theMethod : MethodId := ⟨1, 1⟩
def args0 : Array Value := #[.int 5]
def aboutOver (below : List Frame) : State where
  vm := { classes := classes, interned := interned.toArray }
  heap := heap
  slotsUsed := slotsUsed
  threads := #[{ frames := .invoking theMethod args0 :: below }]
def below0 : List Frame := [.native { method := ⟨0, 0⟩, args := #[] }]
def about1 : State := aboutOver below0
def p0 : Program := .bare "" "" ""
def e0 : Env := launch0.env 0 0 0
theorem w_frames : about1.frames = Frame.invoking theMethod args0 :: below0 := rfl
set_option maxRecDepth 65536 in
theorem w_args : argsFit about1.vm theMethod args0 = true := by decide +kernel
set_option maxRecDepth 65536 in
theorem w_heap : heapFits about1 = true := by decide +kernel
set_option maxRecDepth 65536 in
theorem w_runnable : about1.curStatus? = some .runnable := by decide +kernel
set_option maxRecDepth 65536 in
theorem w_alone : about1.alone = true := by decide +kernel
set_option maxRecDepth 65536 in
theorem w_named : about1.methodNamed? x = some theMethod := by decide +kernel
set_option maxRecDepth 65536 in
theorem w_hears : about1.hears theMethod below0 = true := by decide +kernel
set_option maxRecDepth 65536 in
theorem w_ripe : about1.ripe theMethod args0 below0 = true := by decide +kernel
theorem w_running : about1.status = .running := rfl
set_option maxRecDepth 65536 in
theorem w_room : about1.hasRoom e0.platform room_1 = true :=
  launch0.hasRoom_least _ room_1 (by decide +kernel) (by decide +kernel) (by decide +kernel) (by decide +kernel) (by decide +kernel) (by decide +kernel)
theorem allAtoms_all (ts : List Jvm.Cond) (a : Array Jvm.Value) (st : Jvm.State) : (allAtoms ts).before a st = ts.all (fun c => c.before a st) := by
  induction ts with
  | nil => rfl
  | cons c t ih =>
    show (Jvm.Cond.and c (allAtoms t)).before a st = _
    rw [Jvm.Cond.before_and, ih, List.all_cons]
def words1 : List Jvm.Cond := Jvm.Cond.code x code maxLocals ret :: tables_1
/-- a 'code' word, met by the world's own term for the bytes: nothing is compared byte by byte -/
theorem code_word {y : MethodName} {bytes : ByteArray} {mx : Nat} {rt : Option FieldType} {a : Array Value} {s : State} {m : MethodId} {meth : Method} {c : Code} (h1 : s.methodNamed? y = some m) (h2 : s.vm.method? m = some meth) (h3 : meth.code = some c) (h4 : c.code = bytes)
    (h5 : (c.maxLocals == mx && c.exceptionTable.isEmpty && decide (c.maxStack ≤ mostOperands) && decide (meth.sig.returnType = rt) && !meth.locks && decide (parseMethodDescriptor y.desc = some meth.sig)) = true) : (Jvm.Cond.code y bytes mx rt).before a s = true := by
  simp only [Bool.and_eq_true, beq_iff_eq, Bool.not_eq_true', decide_eq_true_eq] at h5
  obtain ⟨⟨⟨⟨⟨g1, g2⟩, g3⟩, g4⟩, g5⟩, g6⟩ := h5
  simp [Cond.before, Cond.holds, Cond.value, h1, h2, h3, h4, g1, g2, g3, g4, g5, g6]
def isCode : Jvm.Cond → Bool
  | .code _ _ _ _ => true
  | _ => false
theorem all_split {L : List Jvm.Cond} {P : Jvm.Cond → Bool} (h1 : L.all (fun c => isCode c || P c) = true) (h2 : ∀ c ∈ L.filter isCode, P c = true) : L.all P = true := by
  refine List.all_eq_true.mpr fun c hc => ?_
  have h := List.all_eq_true.mp h1 c hc
  rcases Bool.eq_false_or_eq_true (isCode c) with hi | hi
  · exact h2 c (List.mem_filter.mpr ⟨hc, hi⟩)
  · simpa [hi] using h
set_option maxRecDepth 65536 in
theorem w_c0 : (Jvm.Cond.code x code maxLocals ret).before args0 about1 = true := code_word (m := ⟨1, 1⟩) (meth := k1m1) (c := k1c1) (by decide +kernel) rfl rfl rfl (by decide +kernel)
set_option maxRecDepth 65536 in
theorem w_c1 : (Jvm.Cond.code ({ cls := "com/example/cyclebook/cyclebook/Posting$Type", name := "isDebit", desc := "()Z" } : Jvm.MethodName) prog_64_method_7_code (1 : Nat) (Option.some Jvm.ClassFile.FieldType.boolean)).before args0 about1 = true := code_word (m := ⟨6, 0⟩) (meth := k6m0) (c := k6c0) (by decide +kernel) rfl rfl rfl (by decide +kernel)
set_option maxRecDepth 65536 in
theorem w_c2 : (Jvm.Cond.code ({ cls := "com/example/cyclebook/cyclebook/Posting$Type", name := "debt", desc := "()Lcom/example/cyclebook/cyclebook/Debt;" } : Jvm.MethodName) prog_64_method_8_code (1 : Nat) (Option.some (Jvm.ClassFile.FieldType.object "com/example/cyclebook/cyclebook/Debt"))).before args0 about1 = true := code_word (m := ⟨6, 1⟩) (meth := k6m1) (c := k6c1) (by decide +kernel) rfl rfl rfl (by decide +kernel)
def codes1 : List Jvm.Cond := [Jvm.Cond.code x code maxLocals ret, Jvm.Cond.code ({ cls := "com/example/cyclebook/cyclebook/Posting$Type", name := "isDebit", desc := "()Z" } : Jvm.MethodName) prog_64_method_7_code (1 : Nat) (Option.some Jvm.ClassFile.FieldType.boolean), Jvm.Cond.code ({ cls := "com/example/cyclebook/cyclebook/Posting$Type", name := "debt", desc := "()Lcom/example/cyclebook/cyclebook/Debt;" } : Jvm.MethodName) prog_64_method_8_code (1 : Nat) (Option.some (Jvm.ClassFile.FieldType.object "com/example/cyclebook/cyclebook/Debt"))]
set_option maxRecDepth 65536 in
theorem codes_eq : words1.filter isCode = codes1 := rfl
theorem w_codes : ∀ c ∈ words1.filter isCode, c.before args0 about1 = true := by
  rw [codes_eq]
  intro c hc
  simp only [codes1, List.mem_cons, List.not_mem_nil, or_false] at hc
  rcases hc with rfl | rfl | rfl
  · exact w_c0
  · exact w_c1
  · exact w_c2
set_option maxRecDepth 65536 in
theorem w_t1 : (words1.take 24).all (fun c => isCode c || c.before args0 about1) = true := by decide +kernel
set_option maxRecDepth 65536 in
theorem w_t2 : (words1.drop 24).all (fun c => isCode c || c.before args0 about1) = true := by decide +kernel
theorem w_tables : (allAtoms (Jvm.Cond.code x code maxLocals ret :: tables_1)).before args0 about1 = true := by
  rw [allAtoms_all]
  show words1.all (fun c => c.before args0 about1) = true
  refine all_split ?_ w_codes
  rw [← List.take_append_drop 24 words1, List.all_append, w_t1, w_t2]
  rfl
set_option maxRecDepth 65536 in
theorem w_case : (Jvm.Cond.and given_1 narrow_1).before args0 about1 = true := by decide +kernel
theorem w_applies : (headSpec (Jvm.Cond.code x code maxLocals ret :: tables_1) room_1).applies x e0.platform about1 = true :=
  (Spec.applies_iff w_frames).mpr ⟨w_running, w_runnable, w_alone, w_named, w_hears, w_ripe, w_room, w_tables⟩
theorem atStart : AtStart classFile x code maxLocals ret World_1 tables_1 room_1 Calls_1 rest_1 Pre_1 launch0 p0 e0 about1 theMethod args0 below0 :=
  ⟨lists_1, trivial, launch0.admits_env _ _ _, launch0.least_env, fairChoices_fair.cas, fairChoices_fair.clock, w_frames, w_args, w_heap, w_applies, trivial, trivial, w_case⟩
end start1
theorem witness_1 : WitnessClaimed_1 := ⟨start1.p0, start1.e0, start1.about1, start1.theMethod, start1.args0, start1.below0, start1.atStart⟩
end Jvm.Pilot.@@N@@
