import JvmDerived
import JvmDerived.Pilot.@@N@@Statement
import JvmDerived.Pilot.@@N@@Code
set_option linter.unusedVariables false
set_option linter.unusedSimpArgs false
@@BLOCK:NumsL.lean.txt@@
namespace Jvm.RoadKit
open Sem ClassFile Op Lib Jvm.Stand Jvm.Free Jvm.LawKit
section New
variable {p : Program} {l : Launch} {e : Env} {R : Room} {s : State} {m : MethodId} {args : Array Value} {below : List Frame} {meth : Method} {c : Code} {T : State} {locs : List Loc} {cells slots : Nat}
theorem retI (X : Stand p l e R s m args below meth c T locs cells slots) (hx : p.tables.exec = Jvm.exec) {pc : Nat} {Ls : Array Slot} {z : Int32} {rest : List Value} (hret : meth.sig.returnType = some .int) (hd : decode c.code pc = .ok (.ireturn, 1)) {fs : List Frame}
    (hl : ∀ (f : JFrame) (acts : List Action), f.method = m → f.locked = none → f.entered = [] → (doReturn e (T.setTop f) acts (some (.int z))).1 = T.setFrames fs) : Steps p.tables e below (T.setTop (mkF m pc Ls (.int z :: rest))) (T.setFrames fs) := by
  have hm' : T.vm.method? m = some meth := X.method'
  have hn : narrow .int (.int z) = .int z := rfl
  show Steps p.tables e below (T.setTop { method := m, pc := pc, locals := Ls, stack := _ :: rest, locked := none }) _
  jvm_step X.here [X.here.top, hx, hd, hm', hret, hn]
  first | (intro acts; rw [hl _ acts rfl rfl rfl]) | rw [hl _ _ rfl rfl rfl]
  exact Steps.refl _
end New
end Jvm.RoadKit
namespace Jvm.Pilot.@@N@@
open Jvm Jvm.ClassFile Sem Op Lib Jvm.Free Jvm.Stand Jvm.LawKit Jvm.RoadKit Bundle Jvm.Pilot.@@N@@.Jvm.D
theorem wk {a0 : Array Value} {Z : State} (hw : ∀ d ∈ tables_1, d.before a0 Z = true) {d : Jvm.Cond} (i : Nat) (h : tables_1[i]? = some d) : d.before a0 Z = true := hw _ (List.mem_of_getElem? h)
abbrev Go (tb : Tables) (e : Env) (below : List Frame) (T : State) (g : JFrame) (T0 : State) (g0 : JFrame) : Prop := ∀ t, Steps tb e below (T.setTop g) t → Steps tb e below (T0.setTop g0) t
theorem own_fldI {args : Array Value} {s : State} {t : Term} {C n d : String} {a : Addr} {k : Int32} (h : (Jvm.Cond.eq (Term.field t C n d) (Term.int k)).value args s none s [] = some true) (ht : t.eval args s none [] s = some (.ref a)) : s.fieldOf? a C n d = some (.int k) := by
  obtain ⟨x, y, e1, e2, k1, k2⟩ := cmp_v (Or.inl h)
  have e3 : (Term.int k).eval args s none [] s = some (.int k) := rfl
  obtain rfl : Value.int k = y := Option.some.inj (e3.symm.trans e2)
  obtain ⟨z, rfl⟩ := k2
  rw [fld_at ht] at e1
  have q : (Jvm.Cond.eq (Term.field t C n d) (Term.int k)).value args s none s [] = some (decide (z = k)) := by simp [Jvm.Cond.value, fld_at ht, e1, e3]
  rw [gotT q h] at e1
  exact e1
theorem own_fldR {args : Array Value} {s : State} {t u : Term} {C n d : String} {a b : Addr} (h : (Jvm.Cond.eq (Term.field t C n d) u).value args s none s [] = some true) (ht : t.eval args s none [] s = some (.ref a)) (hu : u.eval args s none [] s = some (.ref b)) : s.fieldOf? a C n d = some (.ref b) := by
  obtain ⟨x, y, e1, e2, k1, k2⟩ := cmp_v (Or.inl h)
  obtain rfl : Value.ref b = y := Option.some.inj (hu.symm.trans e2)
  have q := eq_R e1 hu k2.2 rfl
  rw [gotT q h, fld_at ht] at e1
  exact e1
theorem own_fldN {args : Array Value} {s : State} {t : Term} {C n d : String} {a : Addr} (h : (Jvm.Cond.eq (Term.field t C n d) Term.null).value args s none s [] = some true) (ht : t.eval args s none [] s = some (.ref a)) : s.fieldOf? a C n d = some .null := by
  have e := null_v h
  rw [fld_at ht] at e
  exact e
def QP (r : Value) (h0 : Heap) (n0 : Nat) (v : Option Value) (h : Heap) (L : List Loc) : Prop := v = some r ∧ Fr n0 L ∧ h = h0
def QL (r : Value) (h0 : Heap) (n0 : Nat) (v : Option Value) (h : Heap) (L : List Loc) : Prop := v = some r ∧ Fr n0 L
def pk (wP wF wN : Addr) (i : Int32) : Addr := if i = 0 then wP else if i = 1 then wF else wN
def cdx (i : Int32) : Int32 := if i = 0 then 0 else if i = 1 then 1 else 2
theorem own_pkF {Z : State} {h0 : Heap} {wP wF wN : Addr} {C f d : String} (F0 : Fld Z h0 wP C f d (.int 0)) (F1 : Fld Z h0 wF C f d (.int 1)) (F2 : Fld Z h0 wN C f d (.int 2)) (i : Int32) : Fld Z h0 (pk wP wF wN i) C f d (.int (cdx i)) := by
  simp only [pk, cdx]
  split
  · exact F0
  · split
    · exact F1
    · exact F2
theorem own_pkE {Z : State} {h0 : Heap} {wP wF wN : Addr} {C : String} (F0 : Exa Z h0 wP C) (F1 : Exa Z h0 wF C) (F2 : Exa Z h0 wN C) (i : Int32) : Exa Z h0 (pk wP wF wN i) C := by
  simp only [pk]
  split
  · exact F0
  · split
    · exact F1
    · exact F2
theorem own_mod (x : Int32) : (x &&& (2147483647 : Int32)) % (3 : Int32) = 0 ∨ (x &&& (2147483647 : Int32)) % (3 : Int32) = 1 ∨ (x &&& (2147483647 : Int32)) % (3 : Int32) = 2 := by
  have e1 : (x &&& (2147483647 : Int32)).toInt = x.toInt % 2 ^ 31 := Jvm.Kit.i32_mask x 2147483647 (k := 31) (by decide) (by decide)
  have e2 : ((x &&& (2147483647 : Int32)) % (3 : Int32)).toInt = (x &&& (2147483647 : Int32)).toInt.tmod (3 : Int32).toInt := Int32.toInt_mod _ _
  have e3 : (3 : Int32).toInt = 3 := by decide
  rw [e3, Int.tmod_eq_emod_of_nonneg (by omega)] at e2
  have c0 : (0 : Int32).toInt = 0 := by decide
  have c1 : (1 : Int32).toInt = 1 := by decide
  have c2 : (2 : Int32).toInt = 2 := by decide
  rw [← Int32.toInt_inj, ← Int32.toInt_inj, ← Int32.toInt_inj, c0, c1, c2]
  omega
theorem own_and (wP wF wN : Addr) {i j : Int32} (hi : i = 0 ∨ i = 1 ∨ i = 2) (hj : j = 0 ∨ j = 1 ∨ j = 2) : (if cdx i < cdx j then pk wP wF wN j else pk wP wF wN i) = pk wP wF wN (if i < j then j else i) := by
  rcases hi with rfl | rfl | rfl <;> rcases hj with rfl | rfl | rfl <;> rfl
theorem pn_1 : plainName "com/example/covenantry/covenantry/cli/ExitStatusAndPinLaw" = true := by first | (simp [plainName, overriddenIn]; done) | decide +kernel
theorem ef_1 (m : MethodId) (x0 : Int32) : entryFrame m #[(.int x0)] 1 = mkF m 0 #[.val (.int x0)] [] := by first | (simp [entryFrame, mkF, argsToLocals, Value.category]; done) | rfl
theorem d1_0 : decode method_2_code 0 = .ok (.iload_n 0, 1) := by decide +kernel
theorem d1_1 : decode method_2_code 1 = .ok (.ifCond .ne 7, 3) := by decide +kernel
theorem d1_4 : decode method_2_code 4 = .ok (.getstatic 7, 3) := by decide +kernel
theorem d1_7 : decode method_2_code 7 = .ok (.areturn, 1) := by decide +kernel
theorem d1_8 : decode method_2_code 8 = .ok (.iload_n 0, 1) := by decide +kernel
theorem d1_9 : decode method_2_code 9 = .ok (.iconst 1, 1) := by decide +kernel
theorem d1_10 : decode method_2_code 10 = .ok (.if_icmp .ne 7, 3) := by decide +kernel
theorem d1_13 : decode method_2_code 13 = .ok (.getstatic 13, 3) := by decide +kernel
theorem d1_16 : decode method_2_code 16 = .ok (.areturn, 1) := by decide +kernel
theorem d1_17 : decode method_2_code 17 = .ok (.getstatic 16, 3) := by decide +kernel
theorem d1_20 : decode method_2_code 20 = .ok (.areturn, 1) := by decide +kernel
set_option maxRecDepth 65536 in
set_option maxHeartbeats 40000000 in
theorem rm1 (l : Launch) (Z : State) (a0 : Array Value) (hw : ∀ d ∈ tables_1, d.before a0 Z = true) (ws : List Jvm.Cond) (p1 : Int32) (wP wF wN : Addr) (h0 : Heap) (n0 : Nat) (Z0 : n0 ≤ h0.size) (S_PASSED : Sta Z h0 "com/example/covenantry/covenantry/cli/ExitStatus" "PASSED" "Lcom/example/covenantry/covenantry/cli/ExitStatus;" (.ref wP)) (S_FAILED : Sta Z h0 "com/example/covenantry/covenantry/cli/ExitStatus" "FAILED" "Lcom/example/covenantry/covenantry/cli/ExitStatus;" (.ref wF)) (S_NOT_EVALUATED : Sta Z h0 "com/example/covenantry/covenantry/cli/ExitStatus" "NOT_EVALUATED" "Lcom/example/covenantry/covenantry/cli/ExitStatus;" (.ref wN)) :
    MetFree l (⟨"com/example/covenantry/covenantry/cli/ExitStatusAndPinLaw", "pick", "(I)Lcom/example/covenantry/covenantry/cli/ExitStatus;"⟩ : MethodName) (head1 (Jvm.Cond.code (⟨"com/example/covenantry/covenantry/cli/ExitStatusAndPinLaw", "pick", "(I)Lcom/example/covenantry/covenantry/cli/ExitStatus;"⟩ : MethodName) method_2_code 1 (some (.object "com/example/covenantry/covenantry/cli/ExitStatus")) :: ws) ({ frames := 0, cells := 0, slots := 0, locals := 0 } : Room)) (fun a U => a = #[(.int p1)] ∧ Z.Warmed39 U.vm ∧ U.heap = h0) (fun _ _ _ _ _ => True) (fun _ U o U' => ∃ v L, o = .returned v ∧ QP (.ref (pk wP wF wN p1)) h0 n0 v U'.heap L ∧ FrameEnd U o U' L ({ frames := 0, cells := 0, slots := 0, locals := 0 } : Room).cells ({ frames := 0, cells := 0, slots := 0, locals := 0 } : Room).slots) := by
  refine MetFree.of_bodySF (plainFor_of_name pn_1) hisR ?_
  intro p e s m args below meth c s₁ Bd hml0 hP hK
  obtain ⟨rfl, hZ, hh⟩ := hP
  have hx := Bd.exec
  have hby := Bd.bytes
  have hml : c.maxLocals = 1 := hml0
  have hown : s.vm.findClass "com/example/covenantry/covenantry/cli/ExitStatusAndPinLaw" = some m.cls := findClass_of_methodNamed Bd.named
  have hnm := (name_of_methodNamed Bd.named Bd.method).1
  have X0 : Stand p l e ({ frames := 0, cells := 0, slots := 0, locals := 0 } : Room) s m #[(.int p1)] below meth c s₁ [] 0 0 := Stand.of_body Bd
  have e0 : s₁.heap = h0 := by rw [← hh, Bd.state]; rfl
  have N0 := Fr.nil n0
  have go0 : Go p.tables e below s₁ (mkF m 0 #[.val (.int p1)] []) s₁ (entryFrame m #[(.int p1)] 1) := fun t k => castTop (ef_1 m p1) k
  have go1 : Go p.tables e below s₁ (mkF m 1 #[.val (.int p1)] [(.int p1)]) s₁ (entryFrame m #[(.int p1)] 1) := by
    intro t k
    refine go0 t ?_
    show Steps _ _ _ (s₁.setTop (mkF m 0 #[.val (.int p1)] [])) _
    refine XS.iloadN X0.here hx rfl (hb hby d1_0) rfl ?_
    exact k
  by_cases hc1 : p1 = (0 : Int32)
  · skip
    have go2 : Go p.tables e below s₁ (mkF m 4 #[.val (.int p1)] []) s₁ (entryFrame m #[(.int p1)] 1) := by
      intro t k
      refine go1 t ?_
      show Steps _ _ _ (s₁.setTop (mkF m 1 #[.val (.int p1)] [(.int p1)])) _
      refine XS.ifNo X0.here hx rfl (hb hby d1_1) rfl ((if0 _ _).trans (teq hc1).2) ?_
      exact k
    obtain ⟨T3, X3, e3, st3⟩ := getS2 X0 hx hZ hown (host := "") (Or.inl (wk hw 5 rfl)) Via.refl e0 S_PASSED (g := (mkF m 4 #[.val (.int p1)] [])) rfl (hb hby d1_4)
    have go4 : Go p.tables e below T3 (mkF m 7 #[.val (.int p1)] [(.ref wP)]) s₁ (entryFrame m #[(.int p1)] 1) := by
      intro t k
      refine go2 t ?_
      show Steps _ _ _ (s₁.setTop (mkF m 4 #[.val (.int p1)] [])) _
      refine st3 _ ?_
      exact k
    obtain ⟨fs, hr, hrun, hended, hW, hsame⟩ := X3.leave (v := some (.ref wP)) (fun h => by rw [Bd.returns] at h; cases h)
    refine ⟨_, _, go4 _ ?_, hrun, hended, _, _, rfl, ?_, ⟨_, rfl⟩, hW, hsame.mono (by decide) (by decide)⟩
    · exact retOut X3 hx Bd.returns rfl (Or.inr (Or.inr (Or.inr (Or.inr ⟨rfl, rfl, rfl⟩)))) (hb hby d1_7) hr
    · show QP (.ref (pk wP wF wN p1)) h0 n0 _ T3.heap _
      rw [e3]
      exact ⟨by simp [pk, hc1], N0, rfl⟩
  · skip
    have go5 : Go p.tables e below s₁ (mkF m 10 #[.val (.int p1)] [(.int (1 : Int32)), (.int p1)]) s₁ (entryFrame m #[(.int p1)] 1) := by
      intro t k
      refine go1 t ?_
      show Steps _ _ _ (s₁.setTop (mkF m 1 #[.val (.int p1)] [(.int p1)])) _
      refine XS.ifYes X0.here hx rfl (pc0 := 1) (pc' := 8) rfl (hb hby d1_1) rfl ((if0 _ _).trans (feq hc1).2) (by decide) (by decide) ?_
      show Steps _ _ _ (s₁.setTop (mkF m 8 #[.val (.int p1)] [])) _
      refine XS.iloadN X0.here hx rfl (hb hby d1_8) rfl ?_
      show Steps _ _ _ (s₁.setTop (mkF m 9 #[.val (.int p1)] [(.int p1)])) _
      refine XS.iconst X0.here hx rfl (hb hby d1_9) ?_
      exact k
    by_cases hc10 : p1 = (1 : Int32)
    · skip
      have go6 : Go p.tables e below s₁ (mkF m 13 #[.val (.int p1)] []) s₁ (entryFrame m #[(.int p1)] 1) := by
        intro t k
        refine go5 t ?_
        show Steps _ _ _ (s₁.setTop (mkF m 10 #[.val (.int p1)] [(.int (1 : Int32)), (.int p1)])) _
        refine XS.icmpNo X0.here hx rfl (hb hby d1_10) rfl (teq hc10).2 ?_
        exact k
      obtain ⟨T7, X7, e7, st7⟩ := getS2 X0 hx hZ hown (host := "") (Or.inl (wk hw 21 rfl)) Via.refl e0 S_FAILED (g := (mkF m 13 #[.val (.int p1)] [])) rfl (hb hby d1_13)
      have go8 : Go p.tables e below T7 (mkF m 16 #[.val (.int p1)] [(.ref wF)]) s₁ (entryFrame m #[(.int p1)] 1) := by
        intro t k
        refine go6 t ?_
        show Steps _ _ _ (s₁.setTop (mkF m 13 #[.val (.int p1)] [])) _
        refine st7 _ ?_
        exact k
      obtain ⟨fs, hr, hrun, hended, hW, hsame⟩ := X7.leave (v := some (.ref wF)) (fun h => by rw [Bd.returns] at h; cases h)
      refine ⟨_, _, go8 _ ?_, hrun, hended, _, _, rfl, ?_, ⟨_, rfl⟩, hW, hsame.mono (by decide) (by decide)⟩
      · exact retOut X7 hx Bd.returns rfl (Or.inr (Or.inr (Or.inr (Or.inr ⟨rfl, rfl, rfl⟩)))) (hb hby d1_16) hr
      · show QP (.ref (pk wP wF wN p1)) h0 n0 _ T7.heap _
        rw [e7]
        exact ⟨by simp [pk, hc1, hc10], N0, rfl⟩
    · skip
      have go9 : Go p.tables e below s₁ (mkF m 17 #[.val (.int p1)] []) s₁ (entryFrame m #[(.int p1)] 1) := by
        intro t k
        refine go5 t ?_
        show Steps _ _ _ (s₁.setTop (mkF m 10 #[.val (.int p1)] [(.int (1 : Int32)), (.int p1)])) _
        refine XS.icmpYes X0.here hx rfl (pc0 := 10) (pc' := 17) rfl (hb hby d1_10) rfl (feq hc10).2 (by decide) (by decide) ?_
        exact k
      obtain ⟨T10, X10, e10, st10⟩ := getS2 X0 hx hZ hown (host := "") (Or.inl (wk hw 19 rfl)) Via.refl e0 S_NOT_EVALUATED (g := (mkF m 17 #[.val (.int p1)] [])) rfl (hb hby d1_17)
      have go11 : Go p.tables e below T10 (mkF m 20 #[.val (.int p1)] [(.ref wN)]) s₁ (entryFrame m #[(.int p1)] 1) := by
        intro t k
        refine go9 t ?_
        show Steps _ _ _ (s₁.setTop (mkF m 17 #[.val (.int p1)] [])) _
        refine st10 _ ?_
        exact k
      obtain ⟨fs, hr, hrun, hended, hW, hsame⟩ := X10.leave (v := some (.ref wN)) (fun h => by rw [Bd.returns] at h; cases h)
      refine ⟨_, _, go11 _ ?_, hrun, hended, _, _, rfl, ?_, ⟨_, rfl⟩, hW, hsame.mono (by decide) (by decide)⟩
      · exact retOut X10 hx Bd.returns rfl (Or.inr (Or.inr (Or.inr (Or.inr ⟨rfl, rfl, rfl⟩)))) (hb hby d1_20) hr
      · show QP (.ref (pk wP wF wN p1)) h0 n0 _ T10.heap _
        rw [e10]
        exact ⟨by simp [pk, hc1, hc10], N0, rfl⟩
theorem ef_2 (m : MethodId) (x0 : Int32) (x1 : Int32) : entryFrame m #[(.int x0), (.int x1)] 2 = mkF m 0 #[.val (.int x0), .val (.int x1)] [] := by first | (simp [entryFrame, mkF, argsToLocals, Value.category]; done) | rfl
theorem d2_0 : decode jdk_29_method_65_code 0 = .ok (.iload_n 0, 1) := by decide +kernel
theorem d2_1 : decode jdk_29_method_65_code 1 = .ok (.iload_n 1, 1) := by decide +kernel
theorem d2_2 : decode jdk_29_method_65_code 2 = .ok (.if_icmp .lt 7, 3) := by decide +kernel
theorem d2_9 : decode jdk_29_method_65_code 9 = .ok (.iload_n 1, 1) := by decide +kernel
theorem d2_10 : decode jdk_29_method_65_code 10 = .ok (.ireturn, 1) := by decide +kernel
theorem d2_5 : decode jdk_29_method_65_code 5 = .ok (.iload_n 0, 1) := by decide +kernel
theorem d2_6 : decode jdk_29_method_65_code 6 = .ok (.goto 4, 3) := by decide +kernel
set_option maxRecDepth 65536 in
set_option maxHeartbeats 40000000 in
theorem rm2 (l : Launch) (Z : State) (a0 : Array Value) (hw : ∀ d ∈ tables_1, d.before a0 Z = true) (ws : List Jvm.Cond) (p1 p2 : Int32) (h0 : Heap) (n0 : Nat) (Z0 : n0 ≤ h0.size)  :
    MetFree l (⟨"java/lang/Math", "max", "(II)I"⟩ : MethodName) (head1 (Jvm.Cond.code (⟨"java/lang/Math", "max", "(II)I"⟩ : MethodName) jdk_29_method_65_code 2 (some .int) :: ws) ({ frames := 0, cells := 0, slots := 0, locals := 0 } : Room)) (fun a U => a = #[(.int p1), (.int p2)] ∧ Z.Warmed39 U.vm ∧ U.heap = h0) (fun _ _ _ _ _ => True) (fun _ U o U' => ∃ v L, o = .returned v ∧ QP (.int (if p1 < p2 then p2 else p1)) h0 n0 v U'.heap L ∧ FrameEnd U o U' L ({ frames := 0, cells := 0, slots := 0, locals := 0 } : Room).cells ({ frames := 0, cells := 0, slots := 0, locals := 0 } : Room).slots) := by
  refine MetFree.of_bodySF (Jvm.Free.JP.mathPlain rfl (by decide +kernel)) hisR ?_
  intro p e s m args below meth c s₁ Bd hml0 hP hK
  obtain ⟨rfl, hZ, hh⟩ := hP
  have hx := Bd.exec
  have hby := Bd.bytes
  have hml : c.maxLocals = 2 := hml0
  have hown : s.vm.findClass "java/lang/Math" = some m.cls := findClass_of_methodNamed Bd.named
  have hnm := (name_of_methodNamed Bd.named Bd.method).1
  have X0 : Stand p l e ({ frames := 0, cells := 0, slots := 0, locals := 0 } : Room) s m #[(.int p1), (.int p2)] below meth c s₁ [] 0 0 := Stand.of_body Bd
  have e0 : s₁.heap = h0 := by rw [← hh, Bd.state]; rfl
  have N0 := Fr.nil n0
  have go0 : Go p.tables e below s₁ (mkF m 0 #[.val (.int p1), .val (.int p2)] []) s₁ (entryFrame m #[(.int p1), (.int p2)] 2) := fun t k => castTop (ef_2 m p1 p2) k
  have go1 : Go p.tables e below s₁ (mkF m 2 #[.val (.int p1), .val (.int p2)] [(.int p2), (.int p1)]) s₁ (entryFrame m #[(.int p1), (.int p2)] 2) := by
    intro t k
    refine go0 t ?_
    show Steps _ _ _ (s₁.setTop (mkF m 0 #[.val (.int p1), .val (.int p2)] [])) _
    refine XS.iloadN X0.here hx rfl (hb hby d2_0) rfl ?_
    show Steps _ _ _ (s₁.setTop (mkF m 1 #[.val (.int p1), .val (.int p2)] [(.int p1)])) _
    refine XS.iloadN X0.here hx rfl (hb hby d2_1) rfl ?_
    exact k
  by_cases hc2 : p1 < p2
  · skip
    have go2 : Go p.tables e below s₁ (mkF m 10 #[.val (.int p1), .val (.int p2)] [(.int p2)]) s₁ (entryFrame m #[(.int p1), (.int p2)] 2) := by
      intro t k
      refine go1 t ?_
      show Steps _ _ _ (s₁.setTop (mkF m 2 #[.val (.int p1), .val (.int p2)] [(.int p2), (.int p1)])) _
      refine XS.icmpYes X0.here hx rfl (pc0 := 2) (pc' := 9) rfl (hb hby d2_2) rfl (tlt hc2).1 (by decide) (by decide) ?_
      show Steps _ _ _ (s₁.setTop (mkF m 9 #[.val (.int p1), .val (.int p2)] [])) _
      refine XS.iloadN X0.here hx rfl (hb hby d2_9) rfl ?_
      exact k
    obtain ⟨fs, hr, hrun, hended, hW, hsame⟩ := X0.leave (v := some (.int p2)) (fun h => by rw [Bd.returns] at h; cases h)
    refine ⟨_, _, go2 _ ?_, hrun, hended, _, _, rfl, ?_, ⟨_, rfl⟩, hW, hsame.mono (by decide) (by decide)⟩
    · exact retI X0 hx Bd.returns (hb hby d2_10) hr
    · show QP (.int (if p1 < p2 then p2 else p1)) h0 n0 _ s₁.heap _
      rw [e0]
      exact ⟨by simp [hc2], N0, rfl⟩
  · skip
    have go3 : Go p.tables e below s₁ (mkF m 10 #[.val (.int p1), .val (.int p2)] [(.int p1)]) s₁ (entryFrame m #[(.int p1), (.int p2)] 2) := by
      intro t k
      refine go1 t ?_
      show Steps _ _ _ (s₁.setTop (mkF m 2 #[.val (.int p1), .val (.int p2)] [(.int p2), (.int p1)])) _
      refine XS.icmpNo X0.here hx rfl (hb hby d2_2) rfl (flt hc2).1 ?_
      show Steps _ _ _ (s₁.setTop (mkF m 5 #[.val (.int p1), .val (.int p2)] [])) _
      refine XS.iloadN X0.here hx rfl (hb hby d2_5) rfl ?_
      show Steps _ _ _ (s₁.setTop (mkF m 6 #[.val (.int p1), .val (.int p2)] [(.int p1)])) _
      refine XS.goto X0.here hx rfl (pc0 := 6) (pc' := 10) rfl (hb hby d2_6) (by decide) (by decide) ?_
      exact k
    obtain ⟨fs, hr, hrun, hended, hW, hsame⟩ := X0.leave (v := some (.int p1)) (fun h => by rw [Bd.returns] at h; cases h)
    refine ⟨_, _, go3 _ ?_, hrun, hended, _, _, rfl, ?_, ⟨_, rfl⟩, hW, hsame.mono (by decide) (by decide)⟩
    · exact retI X0 hx Bd.returns (hb hby d2_10) hr
    · show QP (.int (if p1 < p2 then p2 else p1)) h0 n0 _ s₁.heap _
      rw [e0]
      exact ⟨by simp [hc2], N0, rfl⟩
theorem pn_3 : plainName "com/example/covenantry/covenantry/cli/ExitStatus" = true := by first | (simp [plainName, overriddenIn]; done) | decide +kernel
theorem ef_3 (m : MethodId) (x0 : Addr) (x1 : Addr) : entryFrame m #[(.ref x0), (.ref x1)] 2 = mkF m 0 #[.val (.ref x0), .val (.ref x1)] [] := by first | (simp [entryFrame, mkF, argsToLocals, Value.category]; done) | rfl
theorem d3_0 : decode prog_1_method_5_code 0 = .ok (.aload_n 1, 1) := by decide +kernel
theorem d3_1 : decode prog_1_method_5_code 1 = .ok (.getfield 32, 3) := by decide +kernel
theorem d3_4 : decode prog_1_method_5_code 4 = .ok (.aload_n 0, 1) := by decide +kernel
theorem d3_5 : decode prog_1_method_5_code 5 = .ok (.getfield 32, 3) := by decide +kernel
theorem d3_8 : decode prog_1_method_5_code 8 = .ok (.if_icmp .le 7, 3) := by decide +kernel
theorem d3_11 : decode prog_1_method_5_code 11 = .ok (.aload_n 1, 1) := by decide +kernel
theorem d3_12 : decode prog_1_method_5_code 12 = .ok (.goto 4, 3) := by decide +kernel
theorem d3_16 : decode prog_1_method_5_code 16 = .ok (.areturn, 1) := by decide +kernel
theorem d3_15 : decode prog_1_method_5_code 15 = .ok (.aload_n 0, 1) := by decide +kernel
set_option maxRecDepth 65536 in
set_option maxHeartbeats 40000000 in
theorem rm3 (l : Launch) (Z : State) (a0 : Array Value) (hw : ∀ d ∈ tables_1, d.before a0 Z = true) (ws : List Jvm.Cond) (a1 a2 : Addr) (c1 c2 : Int32) (h0 : Heap) (n0 : Nat) (Z0 : n0 ≤ h0.size) (F_a1 : Fld Z h0 a1 "com/example/covenantry/covenantry/cli/ExitStatus" "code" "I" (.int c1)) (F_a2 : Fld Z h0 a2 "com/example/covenantry/covenantry/cli/ExitStatus" "code" "I" (.int c2)) :
    MetFree l (⟨"com/example/covenantry/covenantry/cli/ExitStatus", "and", "(Lcom/example/covenantry/covenantry/cli/ExitStatus;)Lcom/example/covenantry/covenantry/cli/ExitStatus;"⟩ : MethodName) (head1 (Jvm.Cond.code (⟨"com/example/covenantry/covenantry/cli/ExitStatus", "and", "(Lcom/example/covenantry/covenantry/cli/ExitStatus;)Lcom/example/covenantry/covenantry/cli/ExitStatus;"⟩ : MethodName) prog_1_method_5_code 2 (some (.object "com/example/covenantry/covenantry/cli/ExitStatus")) :: ws) ({ frames := 0, cells := 0, slots := 0, locals := 0 } : Room)) (fun a U => a = #[(.ref a1), (.ref a2)] ∧ Z.Warmed39 U.vm ∧ U.heap = h0) (fun _ _ _ _ _ => True) (fun _ U o U' => ∃ v L, o = .returned v ∧ QP (.ref (if c1 < c2 then a2 else a1)) h0 n0 v U'.heap L ∧ FrameEnd U o U' L ({ frames := 0, cells := 0, slots := 0, locals := 0 } : Room).cells ({ frames := 0, cells := 0, slots := 0, locals := 0 } : Room).slots) := by
  refine MetFree.of_bodySF (plainFor_of_name pn_3) hisR ?_
  intro p e s m args below meth c s₁ Bd hml0 hP hK
  obtain ⟨rfl, hZ, hh⟩ := hP
  have hx := Bd.exec
  have hby := Bd.bytes
  have hml : c.maxLocals = 2 := hml0
  have hown : s.vm.findClass "com/example/covenantry/covenantry/cli/ExitStatus" = some m.cls := findClass_of_methodNamed Bd.named
  have hnm := (name_of_methodNamed Bd.named Bd.method).1
  have X0 : Stand p l e ({ frames := 0, cells := 0, slots := 0, locals := 0 } : Room) s m #[(.ref a1), (.ref a2)] below meth c s₁ [] 0 0 := Stand.of_body Bd
  have e0 : s₁.heap = h0 := by rw [← hh, Bd.state]; rfl
  have N0 := Fr.nil n0
  have go0 : Go p.tables e below s₁ (mkF m 0 #[.val (.ref a1), .val (.ref a2)] []) s₁ (entryFrame m #[(.ref a1), (.ref a2)] 2) := fun t k => castTop (ef_3 m a1 a2) k
  have go1 : Go p.tables e below s₁ (mkF m 1 #[.val (.ref a1), .val (.ref a2)] [(.ref a2)]) s₁ (entryFrame m #[(.ref a1), (.ref a2)] 2) := by
    intro t k
    refine go0 t ?_
    show Steps _ _ _ (s₁.setTop (mkF m 0 #[.val (.ref a1), .val (.ref a2)] [])) _
    refine XS.aloadN X0.here hx rfl (hb hby d3_0) rfl rfl ?_
    exact k
  obtain ⟨T2, X2, e2, st2⟩ := getF X0 hx hZ hown (host := "") (Or.inl (wk hw 17 rfl)) Via.refl e0 F_a2 (g := (mkF m 1 #[.val (.ref a1), .val (.ref a2)] [(.ref a2)])) rfl rfl (hb hby d3_1)
  have go3 : Go p.tables e below T2 (mkF m 5 #[.val (.ref a1), .val (.ref a2)] [(.ref a1), (.int c2)]) s₁ (entryFrame m #[(.ref a1), (.ref a2)] 2) := by
    intro t k
    refine go1 t ?_
    show Steps _ _ _ (s₁.setTop (mkF m 1 #[.val (.ref a1), .val (.ref a2)] [(.ref a2)])) _
    refine st2 _ ?_
    show Steps _ _ _ (T2.setTop (mkF m 4 #[.val (.ref a1), .val (.ref a2)] [(.int c2)])) _
    refine XS.aloadN X2.here hx rfl (hb hby d3_4) rfl rfl ?_
    exact k
  obtain ⟨T4, X4, e4, st4⟩ := getF X2 hx hZ hown (host := "") (Or.inl (wk hw 17 rfl)) Via.refl e2 F_a1 (g := (mkF m 5 #[.val (.ref a1), .val (.ref a2)] [(.ref a1), (.int c2)])) rfl rfl (hb hby d3_5)
  have go5 : Go p.tables e below T4 (mkF m 8 #[.val (.ref a1), .val (.ref a2)] [(.int c1), (.int c2)]) s₁ (entryFrame m #[(.ref a1), (.ref a2)] 2) := by
    intro t k
    refine go3 t ?_
    show Steps _ _ _ (T2.setTop (mkF m 5 #[.val (.ref a1), .val (.ref a2)] [(.ref a1), (.int c2)])) _
    refine st4 _ ?_
    exact k
  by_cases hc8 : c1 < c2
  · skip
    have go6 : Go p.tables e below T4 (mkF m 16 #[.val (.ref a1), .val (.ref a2)] [(.ref a2)]) s₁ (entryFrame m #[(.ref a1), (.ref a2)] 2) := by
      intro t k
      refine go5 t ?_
      show Steps _ _ _ (T4.setTop (mkF m 8 #[.val (.ref a1), .val (.ref a2)] [(.int c1), (.int c2)])) _
      refine XS.icmpNo X4.here hx rfl (hb hby d3_8) rfl (tlt hc8).2.2.2 ?_
      show Steps _ _ _ (T4.setTop (mkF m 11 #[.val (.ref a1), .val (.ref a2)] [])) _
      refine XS.aloadN X4.here hx rfl (hb hby d3_11) rfl rfl ?_
      show Steps _ _ _ (T4.setTop (mkF m 12 #[.val (.ref a1), .val (.ref a2)] [(.ref a2)])) _
      refine XS.goto X4.here hx rfl (pc0 := 12) (pc' := 16) rfl (hb hby d3_12) (by decide) (by decide) ?_
      exact k
    obtain ⟨fs, hr, hrun, hended, hW, hsame⟩ := X4.leave (v := some (.ref a2)) (fun h => by rw [Bd.returns] at h; cases h)
    refine ⟨_, _, go6 _ ?_, hrun, hended, _, _, rfl, ?_, ⟨_, rfl⟩, hW, hsame.mono (by decide) (by decide)⟩
    · exact retOut X4 hx Bd.returns rfl (Or.inr (Or.inr (Or.inr (Or.inr ⟨rfl, rfl, rfl⟩)))) (hb hby d3_16) hr
    · show QP (.ref (if c1 < c2 then a2 else a1)) h0 n0 _ T4.heap _
      rw [e4]
      exact ⟨by simp [hc8], N0, rfl⟩
  · skip
    have go7 : Go p.tables e below T4 (mkF m 16 #[.val (.ref a1), .val (.ref a2)] [(.ref a1)]) s₁ (entryFrame m #[(.ref a1), (.ref a2)] 2) := by
      intro t k
      refine go5 t ?_
      show Steps _ _ _ (T4.setTop (mkF m 8 #[.val (.ref a1), .val (.ref a2)] [(.int c1), (.int c2)])) _
      refine XS.icmpYes X4.here hx rfl (pc0 := 8) (pc' := 15) rfl (hb hby d3_8) rfl (flt hc8).2.2.2 (by decide) (by decide) ?_
      show Steps _ _ _ (T4.setTop (mkF m 15 #[.val (.ref a1), .val (.ref a2)] [])) _
      refine XS.aloadN X4.here hx rfl (hb hby d3_15) rfl rfl ?_
      exact k
    obtain ⟨fs, hr, hrun, hended, hW, hsame⟩ := X4.leave (v := some (.ref a1)) (fun h => by rw [Bd.returns] at h; cases h)
    refine ⟨_, _, go7 _ ?_, hrun, hended, _, _, rfl, ?_, ⟨_, rfl⟩, hW, hsame.mono (by decide) (by decide)⟩
    · exact retOut X4 hx Bd.returns rfl (Or.inr (Or.inr (Or.inr (Or.inr ⟨rfl, rfl, rfl⟩)))) (hb hby d3_16) hr
    · show QP (.ref (if c1 < c2 then a2 else a1)) h0 n0 _ T4.heap _
      rw [e4]
      exact ⟨by simp [hc8], N0, rfl⟩
theorem pn_0 : plainName "com/example/covenantry/covenantry/cli/ExitStatusAndPinLaw" = true := by first | (simp [plainName, overriddenIn]; done) | decide +kernel
theorem ef_0 (m : MethodId) (x0 : Int32) (x1 : Int32) : entryFrame m #[(.int x0), (.int x1)] maxLocals = mkF m 0 #[.val (.int x0), .val (.int x1), .unset, .unset, .unset, .unset, .unset, .unset] [] := by first | (simp [entryFrame, mkF, argsToLocals, Value.category, maxLocals]; done) | rfl
theorem pd_0 : parseMethodDescriptor "(I)Lcom/example/covenantry/covenantry/cli/ExitStatus;" = some ⟨[.int], some (.object "com/example/covenantry/covenantry/cli/ExitStatus")⟩ := by decide +kernel
theorem pd_1 : parseMethodDescriptor "(II)I" = some ⟨[.int, .int], some .int⟩ := by decide +kernel
theorem pd_2 : parseMethodDescriptor "(Lcom/example/covenantry/covenantry/cli/ExitStatus;)Lcom/example/covenantry/covenantry/cli/ExitStatus;" = some ⟨[(.object "com/example/covenantry/covenantry/cli/ExitStatus")], some (.object "com/example/covenantry/covenantry/cli/ExitStatus")⟩ := by decide +kernel
set_option maxRecDepth 65536 in
set_option maxHeartbeats 40000000 in
theorem rm0 (l : Launch) (Z : State) (a0 : Array Value) (hw : ∀ d ∈ tables_1, d.before a0 Z = true) (ws : List Jvm.Cond) (p1 p2 : Int32) (wP wF wN : Addr) (h0 : Heap) (n0 : Nat) (Z0 : n0 ≤ h0.size) (S_PASSED : Sta Z h0 "com/example/covenantry/covenantry/cli/ExitStatus" "PASSED" "Lcom/example/covenantry/covenantry/cli/ExitStatus;" (.ref wP)) (S_FAILED : Sta Z h0 "com/example/covenantry/covenantry/cli/ExitStatus" "FAILED" "Lcom/example/covenantry/covenantry/cli/ExitStatus;" (.ref wF)) (S_NOT_EVALUATED : Sta Z h0 "com/example/covenantry/covenantry/cli/ExitStatus" "NOT_EVALUATED" "Lcom/example/covenantry/covenantry/cli/ExitStatus;" (.ref wN)) (E_wP : Exa Z h0 wP "com/example/covenantry/covenantry/cli/ExitStatus") (F_wP : Fld Z h0 wP "com/example/covenantry/covenantry/cli/ExitStatus" "code" "I" (.int 0)) (E_wF : Exa Z h0 wF "com/example/covenantry/covenantry/cli/ExitStatus") (F_wF : Fld Z h0 wF "com/example/covenantry/covenantry/cli/ExitStatus" "code" "I" (.int 1)) (E_wN : Exa Z h0 wN "com/example/covenantry/covenantry/cli/ExitStatus") (F_wN : Fld Z h0 wN "com/example/covenantry/covenantry/cli/ExitStatus" "code" "I" (.int 2)) :
    MetFree l x (head1 (Jvm.Cond.code x code maxLocals ret :: ws) room_1) (fun a U => a = #[(.int p1), (.int p2)] ∧ Z.Warmed39 U.vm ∧ U.heap = h0) (fun _ _ _ _ _ => True) (fun _ U o U' => ∃ v L, o = .returned v ∧ QL (.int 1) h0 n0 v U'.heap L ∧ FrameEnd U o U' L room_1.cells room_1.slots) := by
  refine MetFree.of_bodySF (plainFor_of_name pn_0) hisR ?_
  intro p e s m args below meth c s₁ Bd hml0 hP hK
  obtain ⟨rfl, hZ, hh⟩ := hP
  have hx := Bd.exec
  have hby := Bd.bytes
  have hml : c.maxLocals = 8 := hml0
  have hown : s.vm.findClass "com/example/covenantry/covenantry/cli/ExitStatusAndPinLaw" = some m.cls := findClass_of_methodNamed Bd.named
  have hnm := (name_of_methodNamed Bd.named Bd.method).1
  have X0 : Stand p l e room_1 s m #[(.int p1), (.int p2)] below meth c s₁ [] 0 0 := Stand.of_body Bd
  have e0 : s₁.heap = h0 := by rw [← hh, Bd.state]; rfl
  have N0 := Fr.nil n0
  have go0 : Go p.tables e below s₁ (mkF m 0 #[.val (.int p1), .val (.int p2), .unset, .unset, .unset, .unset, .unset, .unset] []) s₁ (entryFrame m #[(.int p1), (.int p2)] maxLocals) := fun t k => castTop (ef_0 m p1 p2) k
  have go2 : Go p.tables e below s₁ (mkF m 15 #[.val (.int p1), .val (.int p2), .val (.int ((p1 &&& (2147483647 : Int32)) % (3 : Int32))), .val (.int ((p2 &&& (2147483647 : Int32)) % (3 : Int32))), .unset, .unset, .unset, .unset] [(.int ((p1 &&& (2147483647 : Int32)) % (3 : Int32)))]) s₁ (entryFrame m #[(.int p1), (.int p2)] maxLocals) := by
    intro t k
    refine go0 t ?_
    show Steps _ _ _ (s₁.setTop (mkF m 0 #[.val (.int p1), .val (.int p2), .unset, .unset, .unset, .unset, .unset, .unset] [])) _
    refine XS.iloadN X0.here hx rfl (hb hby at_0) rfl ?_
    show Steps _ _ _ (s₁.setTop (mkF m 1 #[.val (.int p1), .val (.int p2), .unset, .unset, .unset, .unset, .unset, .unset] [(.int p1)])) _
    refine X0.ldcInt hx hown (mvT hZ (wk hw 0 rfl)) (g := (mkF m 1 #[.val (.int p1), .val (.int p2), .unset, .unset, .unset, .unset, .unset, .unset] [(.int p1)])) rfl (hb hby at_1) _ ?_
    show Steps _ _ _ (s₁.setTop (mkF m 3 #[.val (.int p1), .val (.int p2), .unset, .unset, .unset, .unset, .unset, .unset] [(.int (2147483647 : Int32)), (.int p1)])) _
    refine XS.iand X0.here hx rfl (hb hby at_3) rfl ?_
    show Steps _ _ _ (s₁.setTop (mkF m 4 #[.val (.int p1), .val (.int p2), .unset, .unset, .unset, .unset, .unset, .unset] [(.int (p1 &&& (2147483647 : Int32)))])) _
    refine XS.iconst X0.here hx rfl (hb hby at_4) ?_
    show Steps _ _ _ (s₁.setTop (mkF m 5 #[.val (.int p1), .val (.int p2), .unset, .unset, .unset, .unset, .unset, .unset] [(.int (3 : Int32)), (.int (p1 &&& (2147483647 : Int32)))])) _
    refine iremM X0 hx rfl (hb hby at_5) rfl (by decide) ?_
    show Steps _ _ _ (s₁.setTop (mkF m 6 #[.val (.int p1), .val (.int p2), .unset, .unset, .unset, .unset, .unset, .unset] [(.int ((p1 &&& (2147483647 : Int32)) % (3 : Int32)))])) _
    refine XS.istoreN X0.here hx rfl (hb hby at_6) rfl (l' := #[.val (.int p1), .val (.int p2), .val (.int ((p1 &&& (2147483647 : Int32)) % (3 : Int32))), .unset, .unset, .unset, .unset, .unset]) rfl ?_
    show Steps _ _ _ (s₁.setTop (mkF m 7 #[.val (.int p1), .val (.int p2), .val (.int ((p1 &&& (2147483647 : Int32)) % (3 : Int32))), .unset, .unset, .unset, .unset, .unset] [])) _
    refine XS.iloadN X0.here hx rfl (hb hby at_7) rfl ?_
    show Steps _ _ _ (s₁.setTop (mkF m 8 #[.val (.int p1), .val (.int p2), .val (.int ((p1 &&& (2147483647 : Int32)) % (3 : Int32))), .unset, .unset, .unset, .unset, .unset] [(.int p2)])) _
    refine X0.ldcInt hx hown (mvT hZ (wk hw 0 rfl)) (g := (mkF m 8 #[.val (.int p1), .val (.int p2), .val (.int ((p1 &&& (2147483647 : Int32)) % (3 : Int32))), .unset, .unset, .unset, .unset, .unset] [(.int p2)])) rfl (hb hby at_8) _ ?_
    show Steps _ _ _ (s₁.setTop (mkF m 10 #[.val (.int p1), .val (.int p2), .val (.int ((p1 &&& (2147483647 : Int32)) % (3 : Int32))), .unset, .unset, .unset, .unset, .unset] [(.int (2147483647 : Int32)), (.int p2)])) _
    refine XS.iand X0.here hx rfl (hb hby at_10) rfl ?_
    show Steps _ _ _ (s₁.setTop (mkF m 11 #[.val (.int p1), .val (.int p2), .val (.int ((p1 &&& (2147483647 : Int32)) % (3 : Int32))), .unset, .unset, .unset, .unset, .unset] [(.int (p2 &&& (2147483647 : Int32)))])) _
    refine XS.iconst X0.here hx rfl (hb hby at_11) ?_
    show Steps _ _ _ (s₁.setTop (mkF m 12 #[.val (.int p1), .val (.int p2), .val (.int ((p1 &&& (2147483647 : Int32)) % (3 : Int32))), .unset, .unset, .unset, .unset, .unset] [(.int (3 : Int32)), (.int (p2 &&& (2147483647 : Int32)))])) _
    refine iremM X0 hx rfl (hb hby at_12) rfl (by decide) ?_
    show Steps _ _ _ (s₁.setTop (mkF m 13 #[.val (.int p1), .val (.int p2), .val (.int ((p1 &&& (2147483647 : Int32)) % (3 : Int32))), .unset, .unset, .unset, .unset, .unset] [(.int ((p2 &&& (2147483647 : Int32)) % (3 : Int32)))])) _
    refine XS.istoreN X0.here hx rfl (hb hby at_13) rfl (l' := #[.val (.int p1), .val (.int p2), .val (.int ((p1 &&& (2147483647 : Int32)) % (3 : Int32))), .val (.int ((p2 &&& (2147483647 : Int32)) % (3 : Int32))), .unset, .unset, .unset, .unset]) rfl ?_
    show Steps _ _ _ (s₁.setTop (mkF m 14 #[.val (.int p1), .val (.int p2), .val (.int ((p1 &&& (2147483647 : Int32)) % (3 : Int32))), .val (.int ((p2 &&& (2147483647 : Int32)) % (3 : Int32))), .unset, .unset, .unset, .unset] [])) _
    refine XS.iloadN X0.here hx rfl (hb hby at_14) rfl ?_
    exact k
  obtain ⟨_, _, ⟨T1, L1, k1, n1⟩, -, X1, ⟨Lc1, hQ1, l1, y1, z1⟩, st1⟩ := Jvm.LawKit.callS X0 hx (y := (⟨"com/example/covenantry/covenantry/cli/ExitStatusAndPinLaw", "pick", "(I)Lcom/example/covenantry/covenantry/cli/ExitStatus;"⟩ : MethodName)) hown (mvT hZ (wk hw 1 rfl)) (mvT hZ (wk hw 2 rfl)) (mvT hZ (wk hw 3 rfl)) (mvT hZ (wk hw 4 rfl)) (by decide) (backOf (W := 0) (rm1 l Z a0 hw [] ((p1 &&& (2147483647 : Int32)) % (3 : Int32)) wP wF wN h0 n0 Z0 S_PASSED S_FAILED S_NOT_EVALUATED) hZ (wk hw 4 rfl) (wk hw 3 rfl) (by decide) (by decide)) (g := (mkF m 15 #[.val (.int p1), .val (.int p2), .val (.int ((p1 &&& (2147483647 : Int32)) % (3 : Int32))), .val (.int ((p2 &&& (2147483647 : Int32)) % (3 : Int32))), .unset, .unset, .unset, .unset] [(.int ((p1 &&& (2147483647 : Int32)) % (3 : Int32)))])) rfl (by rw [hml]; rfl) (argsL := [(.int ((p1 &&& (2147483647 : Int32)) % (3 : Int32)))]) (rest := []) (lenOf pd_0 rfl) rfl (by show 2 * 0 + _ ≤ _; exact Nat.le_of_eq rfl) (hb hby at_15) (fun _ _ => ⟨rfl, e0, (by decide : 0 + 0 ≤ _), (by decide : 0 + 0 ≤ _)⟩)
  dsimp only [Pt.U, Pt.locs, Pt.cells, Pt.slots] at X1 l1 y1 z1 st1 hQ1
  subst l1 y1 z1
  obtain ⟨rfl, N1q, e1⟩ := hQ1
  have N1 := Fr.app N0 N1q
  have go4 : Go p.tables e below T1 (mkF m 21 #[.val (.int p1), .val (.int p2), .val (.int ((p1 &&& (2147483647 : Int32)) % (3 : Int32))), .val (.int ((p2 &&& (2147483647 : Int32)) % (3 : Int32))), .val (.ref (pk wP wF wN ((p1 &&& (2147483647 : Int32)) % (3 : Int32)))), .unset, .unset, .unset] [(.int ((p2 &&& (2147483647 : Int32)) % (3 : Int32)))]) s₁ (entryFrame m #[(.int p1), (.int p2)] maxLocals) := by
    intro t k
    refine go2 t ?_
    show Steps _ _ _ (s₁.setTop (mkF m 15 #[.val (.int p1), .val (.int p2), .val (.int ((p1 &&& (2147483647 : Int32)) % (3 : Int32))), .val (.int ((p2 &&& (2147483647 : Int32)) % (3 : Int32))), .unset, .unset, .unset, .unset] [(.int ((p1 &&& (2147483647 : Int32)) % (3 : Int32)))])) _
    refine st1 _ ?_
    show Steps _ _ _ (T1.setTop (mkF m 18 #[.val (.int p1), .val (.int p2), .val (.int ((p1 &&& (2147483647 : Int32)) % (3 : Int32))), .val (.int ((p2 &&& (2147483647 : Int32)) % (3 : Int32))), .unset, .unset, .unset, .unset] [(.ref (pk wP wF wN ((p1 &&& (2147483647 : Int32)) % (3 : Int32))))])) _
    refine XS.astore X1.here hx rfl (hb hby at_18) rfl rfl (l' := #[.val (.int p1), .val (.int p2), .val (.int ((p1 &&& (2147483647 : Int32)) % (3 : Int32))), .val (.int ((p2 &&& (2147483647 : Int32)) % (3 : Int32))), .val (.ref (pk wP wF wN ((p1 &&& (2147483647 : Int32)) % (3 : Int32)))), .unset, .unset, .unset]) rfl ?_
    show Steps _ _ _ (T1.setTop (mkF m 20 #[.val (.int p1), .val (.int p2), .val (.int ((p1 &&& (2147483647 : Int32)) % (3 : Int32))), .val (.int ((p2 &&& (2147483647 : Int32)) % (3 : Int32))), .val (.ref (pk wP wF wN ((p1 &&& (2147483647 : Int32)) % (3 : Int32)))), .unset, .unset, .unset] [])) _
    refine XS.iloadN X1.here hx rfl (hb hby at_20) rfl ?_
    exact k
  obtain ⟨_, _, ⟨T3, L3, k3, n3⟩, -, X3, ⟨Lc3, hQ3, l3, y3, z3⟩, st3⟩ := Jvm.LawKit.callS X1 hx (y := (⟨"com/example/covenantry/covenantry/cli/ExitStatusAndPinLaw", "pick", "(I)Lcom/example/covenantry/covenantry/cli/ExitStatus;"⟩ : MethodName)) hown (mvT hZ (wk hw 1 rfl)) (mvT hZ (wk hw 2 rfl)) (mvT hZ (wk hw 3 rfl)) (mvT hZ (wk hw 4 rfl)) (by decide) (backOf (W := 0) (rm1 l Z a0 hw [] ((p2 &&& (2147483647 : Int32)) % (3 : Int32)) wP wF wN h0 n0 Z0 S_PASSED S_FAILED S_NOT_EVALUATED) hZ (wk hw 4 rfl) (wk hw 3 rfl) (by decide) (by decide)) (g := (mkF m 21 #[.val (.int p1), .val (.int p2), .val (.int ((p1 &&& (2147483647 : Int32)) % (3 : Int32))), .val (.int ((p2 &&& (2147483647 : Int32)) % (3 : Int32))), .val (.ref (pk wP wF wN ((p1 &&& (2147483647 : Int32)) % (3 : Int32)))), .unset, .unset, .unset] [(.int ((p2 &&& (2147483647 : Int32)) % (3 : Int32)))])) rfl (by rw [hml]; rfl) (argsL := [(.int ((p2 &&& (2147483647 : Int32)) % (3 : Int32)))]) (rest := []) (lenOf pd_0 rfl) rfl (by show 2 * 0 + _ ≤ _; exact Nat.le_of_eq rfl) (hb hby at_21) (fun _ _ => ⟨rfl, e1, (by decide : 0 + 0 ≤ _), (by decide : 0 + 0 ≤ _)⟩)
  dsimp only [Pt.U, Pt.locs, Pt.cells, Pt.slots] at X3 l3 y3 z3 st3 hQ3
  subst l3 y3 z3
  obtain ⟨rfl, N3q, e3⟩ := hQ3
  have N3 := Fr.app N1 N3q
  have go6 : Go p.tables e below T3 (mkF m 28 #[.val (.int p1), .val (.int p2), .val (.int ((p1 &&& (2147483647 : Int32)) % (3 : Int32))), .val (.int ((p2 &&& (2147483647 : Int32)) % (3 : Int32))), .val (.ref (pk wP wF wN ((p1 &&& (2147483647 : Int32)) % (3 : Int32)))), .val (.ref (pk wP wF wN ((p2 &&& (2147483647 : Int32)) % (3 : Int32)))), .unset, .unset] [(.int ((p2 &&& (2147483647 : Int32)) % (3 : Int32))), (.int ((p1 &&& (2147483647 : Int32)) % (3 : Int32)))]) s₁ (entryFrame m #[(.int p1), (.int p2)] maxLocals) := by
    intro t k
    refine go4 t ?_
    show Steps _ _ _ (T1.setTop (mkF m 21 #[.val (.int p1), .val (.int p2), .val (.int ((p1 &&& (2147483647 : Int32)) % (3 : Int32))), .val (.int ((p2 &&& (2147483647 : Int32)) % (3 : Int32))), .val (.ref (pk wP wF wN ((p1 &&& (2147483647 : Int32)) % (3 : Int32)))), .unset, .unset, .unset] [(.int ((p2 &&& (2147483647 : Int32)) % (3 : Int32)))])) _
    refine st3 _ ?_
    show Steps _ _ _ (T3.setTop (mkF m 24 #[.val (.int p1), .val (.int p2), .val (.int ((p1 &&& (2147483647 : Int32)) % (3 : Int32))), .val (.int ((p2 &&& (2147483647 : Int32)) % (3 : Int32))), .val (.ref (pk wP wF wN ((p1 &&& (2147483647 : Int32)) % (3 : Int32)))), .unset, .unset, .unset] [(.ref (pk wP wF wN ((p2 &&& (2147483647 : Int32)) % (3 : Int32))))])) _
    refine XS.astore X3.here hx rfl (hb hby at_24) rfl rfl (l' := #[.val (.int p1), .val (.int p2), .val (.int ((p1 &&& (2147483647 : Int32)) % (3 : Int32))), .val (.int ((p2 &&& (2147483647 : Int32)) % (3 : Int32))), .val (.ref (pk wP wF wN ((p1 &&& (2147483647 : Int32)) % (3 : Int32)))), .val (.ref (pk wP wF wN ((p2 &&& (2147483647 : Int32)) % (3 : Int32)))), .unset, .unset]) rfl ?_
    show Steps _ _ _ (T3.setTop (mkF m 26 #[.val (.int p1), .val (.int p2), .val (.int ((p1 &&& (2147483647 : Int32)) % (3 : Int32))), .val (.int ((p2 &&& (2147483647 : Int32)) % (3 : Int32))), .val (.ref (pk wP wF wN ((p1 &&& (2147483647 : Int32)) % (3 : Int32)))), .val (.ref (pk wP wF wN ((p2 &&& (2147483647 : Int32)) % (3 : Int32)))), .unset, .unset] [])) _
    refine XS.iloadN X3.here hx rfl (hb hby at_26) rfl ?_
    show Steps _ _ _ (T3.setTop (mkF m 27 #[.val (.int p1), .val (.int p2), .val (.int ((p1 &&& (2147483647 : Int32)) % (3 : Int32))), .val (.int ((p2 &&& (2147483647 : Int32)) % (3 : Int32))), .val (.ref (pk wP wF wN ((p1 &&& (2147483647 : Int32)) % (3 : Int32)))), .val (.ref (pk wP wF wN ((p2 &&& (2147483647 : Int32)) % (3 : Int32)))), .unset, .unset] [(.int ((p1 &&& (2147483647 : Int32)) % (3 : Int32)))])) _
    refine XS.iloadN X3.here hx rfl (hb hby at_27) rfl ?_
    exact k
  obtain ⟨_, _, ⟨T5, L5, k5, n5⟩, -, X5, ⟨Lc5, hQ5, l5, y5, z5⟩, st5⟩ := Jvm.LawKit.callS X3 hx (y := (⟨"java/lang/Math", "max", "(II)I"⟩ : MethodName)) hown (mvT hZ (wk hw 8 rfl)) (mvT hZ (wk hw 9 rfl)) (mvT hZ (wk hw 10 rfl)) (mvT hZ (wk hw 11 rfl)) (by decide) (backOf (W := 0) (rm2 l Z a0 hw [] ((p1 &&& (2147483647 : Int32)) % (3 : Int32)) ((p2 &&& (2147483647 : Int32)) % (3 : Int32)) h0 n0 Z0) hZ (wk hw 11 rfl) (wk hw 10 rfl) (by decide) (by decide)) (g := (mkF m 28 #[.val (.int p1), .val (.int p2), .val (.int ((p1 &&& (2147483647 : Int32)) % (3 : Int32))), .val (.int ((p2 &&& (2147483647 : Int32)) % (3 : Int32))), .val (.ref (pk wP wF wN ((p1 &&& (2147483647 : Int32)) % (3 : Int32)))), .val (.ref (pk wP wF wN ((p2 &&& (2147483647 : Int32)) % (3 : Int32)))), .unset, .unset] [(.int ((p2 &&& (2147483647 : Int32)) % (3 : Int32))), (.int ((p1 &&& (2147483647 : Int32)) % (3 : Int32)))])) rfl (by rw [hml]; rfl) (argsL := [(.int ((p1 &&& (2147483647 : Int32)) % (3 : Int32))), (.int ((p2 &&& (2147483647 : Int32)) % (3 : Int32)))]) (rest := []) (lenOf pd_1 rfl) rfl (by show 2 * 0 + _ ≤ _; exact Nat.le_of_eq rfl) (hb hby at_28) (fun _ _ => ⟨rfl, e3, (by decide : 0 + 0 ≤ _), (by decide : 0 + 0 ≤ _)⟩)
  dsimp only [Pt.U, Pt.locs, Pt.cells, Pt.slots] at X5 l5 y5 z5 st5 hQ5
  subst l5 y5 z5
  obtain ⟨rfl, N5q, e5⟩ := hQ5
  have N5 := Fr.app N3 N5q
  have go8 : Go p.tables e below T5 (mkF m 31 #[.val (.int p1), .val (.int p2), .val (.int ((p1 &&& (2147483647 : Int32)) % (3 : Int32))), .val (.int ((p2 &&& (2147483647 : Int32)) % (3 : Int32))), .val (.ref (pk wP wF wN ((p1 &&& (2147483647 : Int32)) % (3 : Int32)))), .val (.ref (pk wP wF wN ((p2 &&& (2147483647 : Int32)) % (3 : Int32)))), .unset, .unset] [(.int (if ((p1 &&& (2147483647 : Int32)) % (3 : Int32)) < ((p2 &&& (2147483647 : Int32)) % (3 : Int32)) then ((p2 &&& (2147483647 : Int32)) % (3 : Int32)) else ((p1 &&& (2147483647 : Int32)) % (3 : Int32))))]) s₁ (entryFrame m #[(.int p1), (.int p2)] maxLocals) := by
    intro t k
    refine go6 t ?_
    show Steps _ _ _ (T3.setTop (mkF m 28 #[.val (.int p1), .val (.int p2), .val (.int ((p1 &&& (2147483647 : Int32)) % (3 : Int32))), .val (.int ((p2 &&& (2147483647 : Int32)) % (3 : Int32))), .val (.ref (pk wP wF wN ((p1 &&& (2147483647 : Int32)) % (3 : Int32)))), .val (.ref (pk wP wF wN ((p2 &&& (2147483647 : Int32)) % (3 : Int32)))), .unset, .unset] [(.int ((p2 &&& (2147483647 : Int32)) % (3 : Int32))), (.int ((p1 &&& (2147483647 : Int32)) % (3 : Int32)))])) _
    refine st5 _ ?_
    exact k
  obtain ⟨_, _, ⟨T7, L7, k7, n7⟩, -, X7, ⟨Lc7, hQ7, l7, y7, z7⟩, st7⟩ := Jvm.LawKit.callS X5 hx (y := (⟨"com/example/covenantry/covenantry/cli/ExitStatusAndPinLaw", "pick", "(I)Lcom/example/covenantry/covenantry/cli/ExitStatus;"⟩ : MethodName)) hown (mvT hZ (wk hw 1 rfl)) (mvT hZ (wk hw 2 rfl)) (mvT hZ (wk hw 3 rfl)) (mvT hZ (wk hw 4 rfl)) (by decide) (backOf (W := 0) (rm1 l Z a0 hw [] (if ((p1 &&& (2147483647 : Int32)) % (3 : Int32)) < ((p2 &&& (2147483647 : Int32)) % (3 : Int32)) then ((p2 &&& (2147483647 : Int32)) % (3 : Int32)) else ((p1 &&& (2147483647 : Int32)) % (3 : Int32))) wP wF wN h0 n0 Z0 S_PASSED S_FAILED S_NOT_EVALUATED) hZ (wk hw 4 rfl) (wk hw 3 rfl) (by decide) (by decide)) (g := (mkF m 31 #[.val (.int p1), .val (.int p2), .val (.int ((p1 &&& (2147483647 : Int32)) % (3 : Int32))), .val (.int ((p2 &&& (2147483647 : Int32)) % (3 : Int32))), .val (.ref (pk wP wF wN ((p1 &&& (2147483647 : Int32)) % (3 : Int32)))), .val (.ref (pk wP wF wN ((p2 &&& (2147483647 : Int32)) % (3 : Int32)))), .unset, .unset] [(.int (if ((p1 &&& (2147483647 : Int32)) % (3 : Int32)) < ((p2 &&& (2147483647 : Int32)) % (3 : Int32)) then ((p2 &&& (2147483647 : Int32)) % (3 : Int32)) else ((p1 &&& (2147483647 : Int32)) % (3 : Int32))))])) rfl (by rw [hml]; rfl) (argsL := [(.int (if ((p1 &&& (2147483647 : Int32)) % (3 : Int32)) < ((p2 &&& (2147483647 : Int32)) % (3 : Int32)) then ((p2 &&& (2147483647 : Int32)) % (3 : Int32)) else ((p1 &&& (2147483647 : Int32)) % (3 : Int32))))]) (rest := []) (lenOf pd_0 rfl) rfl (by show 2 * 0 + _ ≤ _; exact Nat.le_of_eq rfl) (hb hby at_31) (fun _ _ => ⟨rfl, e5, (by decide : 0 + 0 ≤ _), (by decide : 0 + 0 ≤ _)⟩)
  dsimp only [Pt.U, Pt.locs, Pt.cells, Pt.slots] at X7 l7 y7 z7 st7 hQ7
  subst l7 y7 z7
  obtain ⟨rfl, N7q, e7⟩ := hQ7
  have N7 := Fr.app N5 N7q
  have go10 : Go p.tables e below T7 (mkF m 40 #[.val (.int p1), .val (.int p2), .val (.int ((p1 &&& (2147483647 : Int32)) % (3 : Int32))), .val (.int ((p2 &&& (2147483647 : Int32)) % (3 : Int32))), .val (.ref (pk wP wF wN ((p1 &&& (2147483647 : Int32)) % (3 : Int32)))), .val (.ref (pk wP wF wN ((p2 &&& (2147483647 : Int32)) % (3 : Int32)))), .val (.ref (pk wP wF wN (if ((p1 &&& (2147483647 : Int32)) % (3 : Int32)) < ((p2 &&& (2147483647 : Int32)) % (3 : Int32)) then ((p2 &&& (2147483647 : Int32)) % (3 : Int32)) else ((p1 &&& (2147483647 : Int32)) % (3 : Int32))))), .unset] [(.ref (pk wP wF wN ((p2 &&& (2147483647 : Int32)) % (3 : Int32)))), (.ref (pk wP wF wN ((p1 &&& (2147483647 : Int32)) % (3 : Int32))))]) s₁ (entryFrame m #[(.int p1), (.int p2)] maxLocals) := by
    intro t k
    refine go8 t ?_
    show Steps _ _ _ (T5.setTop (mkF m 31 #[.val (.int p1), .val (.int p2), .val (.int ((p1 &&& (2147483647 : Int32)) % (3 : Int32))), .val (.int ((p2 &&& (2147483647 : Int32)) % (3 : Int32))), .val (.ref (pk wP wF wN ((p1 &&& (2147483647 : Int32)) % (3 : Int32)))), .val (.ref (pk wP wF wN ((p2 &&& (2147483647 : Int32)) % (3 : Int32)))), .unset, .unset] [(.int (if ((p1 &&& (2147483647 : Int32)) % (3 : Int32)) < ((p2 &&& (2147483647 : Int32)) % (3 : Int32)) then ((p2 &&& (2147483647 : Int32)) % (3 : Int32)) else ((p1 &&& (2147483647 : Int32)) % (3 : Int32))))])) _
    refine st7 _ ?_
    show Steps _ _ _ (T7.setTop (mkF m 34 #[.val (.int p1), .val (.int p2), .val (.int ((p1 &&& (2147483647 : Int32)) % (3 : Int32))), .val (.int ((p2 &&& (2147483647 : Int32)) % (3 : Int32))), .val (.ref (pk wP wF wN ((p1 &&& (2147483647 : Int32)) % (3 : Int32)))), .val (.ref (pk wP wF wN ((p2 &&& (2147483647 : Int32)) % (3 : Int32)))), .unset, .unset] [(.ref (pk wP wF wN (if ((p1 &&& (2147483647 : Int32)) % (3 : Int32)) < ((p2 &&& (2147483647 : Int32)) % (3 : Int32)) then ((p2 &&& (2147483647 : Int32)) % (3 : Int32)) else ((p1 &&& (2147483647 : Int32)) % (3 : Int32)))))])) _
    refine XS.astore X7.here hx rfl (hb hby at_34) rfl rfl (l' := #[.val (.int p1), .val (.int p2), .val (.int ((p1 &&& (2147483647 : Int32)) % (3 : Int32))), .val (.int ((p2 &&& (2147483647 : Int32)) % (3 : Int32))), .val (.ref (pk wP wF wN ((p1 &&& (2147483647 : Int32)) % (3 : Int32)))), .val (.ref (pk wP wF wN ((p2 &&& (2147483647 : Int32)) % (3 : Int32)))), .val (.ref (pk wP wF wN (if ((p1 &&& (2147483647 : Int32)) % (3 : Int32)) < ((p2 &&& (2147483647 : Int32)) % (3 : Int32)) then ((p2 &&& (2147483647 : Int32)) % (3 : Int32)) else ((p1 &&& (2147483647 : Int32)) % (3 : Int32))))), .unset]) rfl ?_
    show Steps _ _ _ (T7.setTop (mkF m 36 #[.val (.int p1), .val (.int p2), .val (.int ((p1 &&& (2147483647 : Int32)) % (3 : Int32))), .val (.int ((p2 &&& (2147483647 : Int32)) % (3 : Int32))), .val (.ref (pk wP wF wN ((p1 &&& (2147483647 : Int32)) % (3 : Int32)))), .val (.ref (pk wP wF wN ((p2 &&& (2147483647 : Int32)) % (3 : Int32)))), .val (.ref (pk wP wF wN (if ((p1 &&& (2147483647 : Int32)) % (3 : Int32)) < ((p2 &&& (2147483647 : Int32)) % (3 : Int32)) then ((p2 &&& (2147483647 : Int32)) % (3 : Int32)) else ((p1 &&& (2147483647 : Int32)) % (3 : Int32))))), .unset] [])) _
    refine XS.aload X7.here hx rfl (hb hby at_36) rfl rfl ?_
    show Steps _ _ _ (T7.setTop (mkF m 38 #[.val (.int p1), .val (.int p2), .val (.int ((p1 &&& (2147483647 : Int32)) % (3 : Int32))), .val (.int ((p2 &&& (2147483647 : Int32)) % (3 : Int32))), .val (.ref (pk wP wF wN ((p1 &&& (2147483647 : Int32)) % (3 : Int32)))), .val (.ref (pk wP wF wN ((p2 &&& (2147483647 : Int32)) % (3 : Int32)))), .val (.ref (pk wP wF wN (if ((p1 &&& (2147483647 : Int32)) % (3 : Int32)) < ((p2 &&& (2147483647 : Int32)) % (3 : Int32)) then ((p2 &&& (2147483647 : Int32)) % (3 : Int32)) else ((p1 &&& (2147483647 : Int32)) % (3 : Int32))))), .unset] [(.ref (pk wP wF wN ((p1 &&& (2147483647 : Int32)) % (3 : Int32))))])) _
    refine XS.aload X7.here hx rfl (hb hby at_38) rfl rfl ?_
    exact k
  obtain ⟨cq9, kq9, q9a, q9b, q9c⟩ := isOf hZ e7 (own_pkE E_wP E_wF E_wN ((p1 &&& (2147483647 : Int32)) % (3 : Int32)))
  obtain ⟨_, _, ⟨T9, L9, k9, n9⟩, -, X9, ⟨Lc9, hQ9, l9, y9, z9⟩, st9⟩ := X7.virtualBack hx (y := (⟨"com/example/covenantry/covenantry/cli/ExitStatus", "and", "(Lcom/example/covenantry/covenantry/cli/ExitStatus;)Lcom/example/covenantry/covenantry/cli/ExitStatus;"⟩ : MethodName)) (z := (⟨"com/example/covenantry/covenantry/cli/ExitStatus", "and", "(Lcom/example/covenantry/covenantry/cli/ExitStatus;)Lcom/example/covenantry/covenantry/cli/ExitStatus;"⟩ : MethodName)) hown (mvT hZ (wk hw 12 rfl)) (mvT hZ (wk hw 13 rfl)) (notFace_of_selects (args := #[]) (mvT hZ (wk hw 15 rfl))) (mvT hZ (wk hw 15 rfl)) (mvT hZ (wk hw 14 rfl)) (by decide) (backOf (W := 0) (rm3 l Z a0 hw [] (pk wP wF wN ((p1 &&& (2147483647 : Int32)) % (3 : Int32))) (pk wP wF wN ((p2 &&& (2147483647 : Int32)) % (3 : Int32))) (cdx ((p1 &&& (2147483647 : Int32)) % (3 : Int32))) (cdx ((p2 &&& (2147483647 : Int32)) % (3 : Int32))) h0 n0 Z0 (own_pkF F_wP F_wF F_wN _) (own_pkF F_wP F_wF F_wN _)) hZ (wk hw 16 rfl) (wk hw 6 rfl) (by decide) (by decide)) q9a q9c (g := (mkF m 40 #[.val (.int p1), .val (.int p2), .val (.int ((p1 &&& (2147483647 : Int32)) % (3 : Int32))), .val (.int ((p2 &&& (2147483647 : Int32)) % (3 : Int32))), .val (.ref (pk wP wF wN ((p1 &&& (2147483647 : Int32)) % (3 : Int32)))), .val (.ref (pk wP wF wN ((p2 &&& (2147483647 : Int32)) % (3 : Int32)))), .val (.ref (pk wP wF wN (if ((p1 &&& (2147483647 : Int32)) % (3 : Int32)) < ((p2 &&& (2147483647 : Int32)) % (3 : Int32)) then ((p2 &&& (2147483647 : Int32)) % (3 : Int32)) else ((p1 &&& (2147483647 : Int32)) % (3 : Int32))))), .unset] [(.ref (pk wP wF wN ((p2 &&& (2147483647 : Int32)) % (3 : Int32)))), (.ref (pk wP wF wN ((p1 &&& (2147483647 : Int32)) % (3 : Int32))))])) rfl (by rw [hml]; rfl) (Steps.refl _) (argsL := [(.ref (pk wP wF wN ((p2 &&& (2147483647 : Int32)) % (3 : Int32))))]) (rest := []) (lenOf pd_2 rfl) rfl (by show 2 * 0 + _ ≤ _; exact Nat.le_of_eq rfl) (hb hby at_40) (fun _ _ => ⟨rfl, e7, (by decide : 0 + 0 ≤ _), (by decide : 0 + 0 ≤ _)⟩)
  dsimp only [Pt.U, Pt.locs, Pt.cells, Pt.slots] at X9 l9 y9 z9 st9 hQ9
  subst l9 y9 z9
  obtain ⟨rfl, N9q, e9⟩ := hQ9
  have N9 := Fr.app N7 N9q
  have go11 : Go p.tables e below T9 (mkF m 57 #[.val (.int p1), .val (.int p2), .val (.int ((p1 &&& (2147483647 : Int32)) % (3 : Int32))), .val (.int ((p2 &&& (2147483647 : Int32)) % (3 : Int32))), .val (.ref (pk wP wF wN ((p1 &&& (2147483647 : Int32)) % (3 : Int32)))), .val (.ref (pk wP wF wN ((p2 &&& (2147483647 : Int32)) % (3 : Int32)))), .val (.ref (pk wP wF wN (if ((p1 &&& (2147483647 : Int32)) % (3 : Int32)) < ((p2 &&& (2147483647 : Int32)) % (3 : Int32)) then ((p2 &&& (2147483647 : Int32)) % (3 : Int32)) else ((p1 &&& (2147483647 : Int32)) % (3 : Int32))))), .val (.ref (if (cdx ((p1 &&& (2147483647 : Int32)) % (3 : Int32))) < (cdx ((p2 &&& (2147483647 : Int32)) % (3 : Int32))) then (pk wP wF wN ((p2 &&& (2147483647 : Int32)) % (3 : Int32))) else (pk wP wF wN ((p1 &&& (2147483647 : Int32)) % (3 : Int32)))))] [(.int (1 : Int32))]) s₁ (entryFrame m #[(.int p1), (.int p2)] maxLocals) := by
    intro t k
    refine go10 t ?_
    show Steps _ _ _ (T7.setTop (mkF m 40 #[.val (.int p1), .val (.int p2), .val (.int ((p1 &&& (2147483647 : Int32)) % (3 : Int32))), .val (.int ((p2 &&& (2147483647 : Int32)) % (3 : Int32))), .val (.ref (pk wP wF wN ((p1 &&& (2147483647 : Int32)) % (3 : Int32)))), .val (.ref (pk wP wF wN ((p2 &&& (2147483647 : Int32)) % (3 : Int32)))), .val (.ref (pk wP wF wN (if ((p1 &&& (2147483647 : Int32)) % (3 : Int32)) < ((p2 &&& (2147483647 : Int32)) % (3 : Int32)) then ((p2 &&& (2147483647 : Int32)) % (3 : Int32)) else ((p1 &&& (2147483647 : Int32)) % (3 : Int32))))), .unset] [(.ref (pk wP wF wN ((p2 &&& (2147483647 : Int32)) % (3 : Int32)))), (.ref (pk wP wF wN ((p1 &&& (2147483647 : Int32)) % (3 : Int32))))])) _
    refine st9.trans ?_
    show Steps _ _ _ (T9.setTop (mkF m 43 #[.val (.int p1), .val (.int p2), .val (.int ((p1 &&& (2147483647 : Int32)) % (3 : Int32))), .val (.int ((p2 &&& (2147483647 : Int32)) % (3 : Int32))), .val (.ref (pk wP wF wN ((p1 &&& (2147483647 : Int32)) % (3 : Int32)))), .val (.ref (pk wP wF wN ((p2 &&& (2147483647 : Int32)) % (3 : Int32)))), .val (.ref (pk wP wF wN (if ((p1 &&& (2147483647 : Int32)) % (3 : Int32)) < ((p2 &&& (2147483647 : Int32)) % (3 : Int32)) then ((p2 &&& (2147483647 : Int32)) % (3 : Int32)) else ((p1 &&& (2147483647 : Int32)) % (3 : Int32))))), .unset] [(.ref (if (cdx ((p1 &&& (2147483647 : Int32)) % (3 : Int32))) < (cdx ((p2 &&& (2147483647 : Int32)) % (3 : Int32))) then (pk wP wF wN ((p2 &&& (2147483647 : Int32)) % (3 : Int32))) else (pk wP wF wN ((p1 &&& (2147483647 : Int32)) % (3 : Int32)))))])) _
    refine XS.astore X9.here hx rfl (hb hby at_43) rfl rfl (l' := #[.val (.int p1), .val (.int p2), .val (.int ((p1 &&& (2147483647 : Int32)) % (3 : Int32))), .val (.int ((p2 &&& (2147483647 : Int32)) % (3 : Int32))), .val (.ref (pk wP wF wN ((p1 &&& (2147483647 : Int32)) % (3 : Int32)))), .val (.ref (pk wP wF wN ((p2 &&& (2147483647 : Int32)) % (3 : Int32)))), .val (.ref (pk wP wF wN (if ((p1 &&& (2147483647 : Int32)) % (3 : Int32)) < ((p2 &&& (2147483647 : Int32)) % (3 : Int32)) then ((p2 &&& (2147483647 : Int32)) % (3 : Int32)) else ((p1 &&& (2147483647 : Int32)) % (3 : Int32))))), .val (.ref (if (cdx ((p1 &&& (2147483647 : Int32)) % (3 : Int32))) < (cdx ((p2 &&& (2147483647 : Int32)) % (3 : Int32))) then (pk wP wF wN ((p2 &&& (2147483647 : Int32)) % (3 : Int32))) else (pk wP wF wN ((p1 &&& (2147483647 : Int32)) % (3 : Int32)))))]) rfl ?_
    show Steps _ _ _ (T9.setTop (mkF m 45 #[.val (.int p1), .val (.int p2), .val (.int ((p1 &&& (2147483647 : Int32)) % (3 : Int32))), .val (.int ((p2 &&& (2147483647 : Int32)) % (3 : Int32))), .val (.ref (pk wP wF wN ((p1 &&& (2147483647 : Int32)) % (3 : Int32)))), .val (.ref (pk wP wF wN ((p2 &&& (2147483647 : Int32)) % (3 : Int32)))), .val (.ref (pk wP wF wN (if ((p1 &&& (2147483647 : Int32)) % (3 : Int32)) < ((p2 &&& (2147483647 : Int32)) % (3 : Int32)) then ((p2 &&& (2147483647 : Int32)) % (3 : Int32)) else ((p1 &&& (2147483647 : Int32)) % (3 : Int32))))), .val (.ref (if (cdx ((p1 &&& (2147483647 : Int32)) % (3 : Int32))) < (cdx ((p2 &&& (2147483647 : Int32)) % (3 : Int32))) then (pk wP wF wN ((p2 &&& (2147483647 : Int32)) % (3 : Int32))) else (pk wP wF wN ((p1 &&& (2147483647 : Int32)) % (3 : Int32)))))] [])) _
    refine XS.aload X9.here hx rfl (hb hby at_45) rfl rfl ?_
    show Steps _ _ _ (T9.setTop (mkF m 47 #[.val (.int p1), .val (.int p2), .val (.int ((p1 &&& (2147483647 : Int32)) % (3 : Int32))), .val (.int ((p2 &&& (2147483647 : Int32)) % (3 : Int32))), .val (.ref (pk wP wF wN ((p1 &&& (2147483647 : Int32)) % (3 : Int32)))), .val (.ref (pk wP wF wN ((p2 &&& (2147483647 : Int32)) % (3 : Int32)))), .val (.ref (pk wP wF wN (if ((p1 &&& (2147483647 : Int32)) % (3 : Int32)) < ((p2 &&& (2147483647 : Int32)) % (3 : Int32)) then ((p2 &&& (2147483647 : Int32)) % (3 : Int32)) else ((p1 &&& (2147483647 : Int32)) % (3 : Int32))))), .val (.ref (if (cdx ((p1 &&& (2147483647 : Int32)) % (3 : Int32))) < (cdx ((p2 &&& (2147483647 : Int32)) % (3 : Int32))) then (pk wP wF wN ((p2 &&& (2147483647 : Int32)) % (3 : Int32))) else (pk wP wF wN ((p1 &&& (2147483647 : Int32)) % (3 : Int32)))))] [(.ref (if (cdx ((p1 &&& (2147483647 : Int32)) % (3 : Int32))) < (cdx ((p2 &&& (2147483647 : Int32)) % (3 : Int32))) then (pk wP wF wN ((p2 &&& (2147483647 : Int32)) % (3 : Int32))) else (pk wP wF wN ((p1 &&& (2147483647 : Int32)) % (3 : Int32)))))])) _
    refine XS.aload X9.here hx rfl (hb hby at_47) rfl rfl ?_
    show Steps _ _ _ (T9.setTop (mkF m 49 #[.val (.int p1), .val (.int p2), .val (.int ((p1 &&& (2147483647 : Int32)) % (3 : Int32))), .val (.int ((p2 &&& (2147483647 : Int32)) % (3 : Int32))), .val (.ref (pk wP wF wN ((p1 &&& (2147483647 : Int32)) % (3 : Int32)))), .val (.ref (pk wP wF wN ((p2 &&& (2147483647 : Int32)) % (3 : Int32)))), .val (.ref (pk wP wF wN (if ((p1 &&& (2147483647 : Int32)) % (3 : Int32)) < ((p2 &&& (2147483647 : Int32)) % (3 : Int32)) then ((p2 &&& (2147483647 : Int32)) % (3 : Int32)) else ((p1 &&& (2147483647 : Int32)) % (3 : Int32))))), .val (.ref (if (cdx ((p1 &&& (2147483647 : Int32)) % (3 : Int32))) < (cdx ((p2 &&& (2147483647 : Int32)) % (3 : Int32))) then (pk wP wF wN ((p2 &&& (2147483647 : Int32)) % (3 : Int32))) else (pk wP wF wN ((p1 &&& (2147483647 : Int32)) % (3 : Int32)))))] [(.ref (pk wP wF wN (if ((p1 &&& (2147483647 : Int32)) % (3 : Int32)) < ((p2 &&& (2147483647 : Int32)) % (3 : Int32)) then ((p2 &&& (2147483647 : Int32)) % (3 : Int32)) else ((p1 &&& (2147483647 : Int32)) % (3 : Int32))))), (.ref (if (cdx ((p1 &&& (2147483647 : Int32)) % (3 : Int32))) < (cdx ((p2 &&& (2147483647 : Int32)) % (3 : Int32))) then (pk wP wF wN ((p2 &&& (2147483647 : Int32)) % (3 : Int32))) else (pk wP wF wN ((p1 &&& (2147483647 : Int32)) % (3 : Int32)))))])) _
    refine Jvm.RoadKit.acmp (g := (mkF m 49 #[.val (.int p1), .val (.int p2), .val (.int ((p1 &&& (2147483647 : Int32)) % (3 : Int32))), .val (.int ((p2 &&& (2147483647 : Int32)) % (3 : Int32))), .val (.ref (pk wP wF wN ((p1 &&& (2147483647 : Int32)) % (3 : Int32)))), .val (.ref (pk wP wF wN ((p2 &&& (2147483647 : Int32)) % (3 : Int32)))), .val (.ref (pk wP wF wN (if ((p1 &&& (2147483647 : Int32)) % (3 : Int32)) < ((p2 &&& (2147483647 : Int32)) % (3 : Int32)) then ((p2 &&& (2147483647 : Int32)) % (3 : Int32)) else ((p1 &&& (2147483647 : Int32)) % (3 : Int32))))), .val (.ref (if (cdx ((p1 &&& (2147483647 : Int32)) % (3 : Int32))) < (cdx ((p2 &&& (2147483647 : Int32)) % (3 : Int32))) then (pk wP wF wN ((p2 &&& (2147483647 : Int32)) % (3 : Int32))) else (pk wP wF wN ((p1 &&& (2147483647 : Int32)) % (3 : Int32)))))] [(.ref (pk wP wF wN (if ((p1 &&& (2147483647 : Int32)) % (3 : Int32)) < ((p2 &&& (2147483647 : Int32)) % (3 : Int32)) then ((p2 &&& (2147483647 : Int32)) % (3 : Int32)) else ((p1 &&& (2147483647 : Int32)) % (3 : Int32))))), (.ref (if (cdx ((p1 &&& (2147483647 : Int32)) % (3 : Int32))) < (cdx ((p2 &&& (2147483647 : Int32)) % (3 : Int32))) then (pk wP wF wN ((p2 &&& (2147483647 : Int32)) % (3 : Int32))) else (pk wP wF wN ((p1 &&& (2147483647 : Int32)) % (3 : Int32)))))])) X9 hx rfl rfl rfl (pc0 := 49) (pc' := 52) (same := true) rfl (hb hby at_49) rfl (decide_eq_true (congrArg Value.ref (own_and wP wF wN (own_mod p1) (own_mod p2)))) (by decide) (by decide) ?_
    show Steps _ _ _ (T9.setTop (mkF m 52 #[.val (.int p1), .val (.int p2), .val (.int ((p1 &&& (2147483647 : Int32)) % (3 : Int32))), .val (.int ((p2 &&& (2147483647 : Int32)) % (3 : Int32))), .val (.ref (pk wP wF wN ((p1 &&& (2147483647 : Int32)) % (3 : Int32)))), .val (.ref (pk wP wF wN ((p2 &&& (2147483647 : Int32)) % (3 : Int32)))), .val (.ref (pk wP wF wN (if ((p1 &&& (2147483647 : Int32)) % (3 : Int32)) < ((p2 &&& (2147483647 : Int32)) % (3 : Int32)) then ((p2 &&& (2147483647 : Int32)) % (3 : Int32)) else ((p1 &&& (2147483647 : Int32)) % (3 : Int32))))), .val (.ref (if (cdx ((p1 &&& (2147483647 : Int32)) % (3 : Int32))) < (cdx ((p2 &&& (2147483647 : Int32)) % (3 : Int32))) then (pk wP wF wN ((p2 &&& (2147483647 : Int32)) % (3 : Int32))) else (pk wP wF wN ((p1 &&& (2147483647 : Int32)) % (3 : Int32)))))] [])) _
    refine XS.iconst X9.here hx rfl (hb hby at_52) ?_
    show Steps _ _ _ (T9.setTop (mkF m 53 #[.val (.int p1), .val (.int p2), .val (.int ((p1 &&& (2147483647 : Int32)) % (3 : Int32))), .val (.int ((p2 &&& (2147483647 : Int32)) % (3 : Int32))), .val (.ref (pk wP wF wN ((p1 &&& (2147483647 : Int32)) % (3 : Int32)))), .val (.ref (pk wP wF wN ((p2 &&& (2147483647 : Int32)) % (3 : Int32)))), .val (.ref (pk wP wF wN (if ((p1 &&& (2147483647 : Int32)) % (3 : Int32)) < ((p2 &&& (2147483647 : Int32)) % (3 : Int32)) then ((p2 &&& (2147483647 : Int32)) % (3 : Int32)) else ((p1 &&& (2147483647 : Int32)) % (3 : Int32))))), .val (.ref (if (cdx ((p1 &&& (2147483647 : Int32)) % (3 : Int32))) < (cdx ((p2 &&& (2147483647 : Int32)) % (3 : Int32))) then (pk wP wF wN ((p2 &&& (2147483647 : Int32)) % (3 : Int32))) else (pk wP wF wN ((p1 &&& (2147483647 : Int32)) % (3 : Int32)))))] [(.int (1 : Int32))])) _
    refine XS.goto X9.here hx rfl (pc0 := 53) (pc' := 57) rfl (hb hby at_53) (by decide) (by decide) ?_
    exact k
  obtain ⟨fs, hr, hrun, hended, hW, hsame⟩ := X9.leave (v := some (.int (1 : Int32))) (fun h => by rw [Bd.returns] at h; cases h)
  refine ⟨_, _, go11 _ ?_, hrun, hended, _, _, rfl, ?_, ⟨_, rfl⟩, hW, hsame.mono (by decide) (by decide)⟩
  · exact retN X9 hx (t := .boolean) Bd.returns (by simp) (hb hby at_57) hr
  · show QL (.int 1) h0 n0 _ T9.heap _
    rw [e9]
    exact ⟨rfl, N9⟩
set_option maxRecDepth 65536 in
set_option maxHeartbeats 40000000 in
theorem comes_1 {Post : Tables → Env → Array Value → State → Outcome → State → Prop} (hpost : ∀ tb e args s v u, (limb_1_1.after args s (.returned v) u = true ∧ limb_1_2.after args s (.returned v) u = true ∧ True) → FrameEnd s (.returned v) u (Jvm.fieldLocs frame_1_writes args s ++ Jvm.arrayLocs frame_1_arrays args s ++ Jvm.staticLocs frame_1_statics s) 0 0 → Post tb e args s (.returned v) u) :
    ArmFor flags0 classFile x code maxLocals ret World_1 tables_1 room_1 Calls_1 rest_1 Pre_1 Post := by
  intro l hfl _ _ p e ha hc hk s m args below hf hA hF happ hP
  obtain ⟨hcalls, hrest, hpre⟩ := hP
  obtain ⟨-, -, -, hnamed, -, -, -, hat⟩ := (Spec.applies_iff hf).mp happ
  obtain ⟨hg, hn⟩ := and_e (Cond.before_iff.mp (show (Jvm.Cond.and given_1 narrow_1).before args s = true from hpre))
  obtain ⟨gc, g0⟩ := and_e hg
  obtain ⟨ga0, g1⟩ := and_e g0
  have ga1 := g1
  obtain ⟨w0, w1, rfl⟩ : ∃ w0 w1 : Value, args = #[w0, w1] := by
    have hs : args.size = 2 := by simpa [Cond.value, given_1] using gc
    obtain ⟨L⟩ := args
    match L, hs with
    | [w0, w1], _ => exact ⟨w0, w1, rfl⟩
  have hw := fun d (hd : d ∈ tables_1) => atoms_spec (ws := Jvm.Cond.code x code maxLocals ret :: tables_1) hat d (List.mem_cons_of_mem _ hd)
  have hfit : Fit s := fun {y c} hc i hi => by
    obtain ⟨ha, rfl⟩ := Array.getElem?_eq_some_iff.mp hc
    have q := List.all_eq_true.mp ((Array.all_eq_true_iff_forall_mem.mp hF) _ (Array.getElem_mem ha)) i (List.mem_range.mpr hi)
    simpa [Array.getElem?_eq_getElem hi] using q
  obtain ⟨i0, ei0⟩ := is_v ga0
  obtain rfl : w0 = (.int i0) := Option.some.inj ei0
  obtain ⟨i1, ei1⟩ := is_v ga1
  obtain rfl : w1 = (.int i1) := Option.some.inj ei1
  obtain ⟨n1, m1⟩ := and_e hn
  obtain ⟨n2, m2⟩ := and_e m1
  obtain ⟨n3, m3⟩ := and_e m2
  obtain ⟨n4, m4⟩ := and_e m3
  obtain ⟨n5, m5⟩ := and_e m4
  have n6 := m5
  obtain ⟨wP, ewP⟩ := exa_v n1
  have EwP := Exa.start ewP n1
  have SwP := Sta.start ewP (Or.inr ⟨(wk hw 6 rfl), (wk hw 7 rfl)⟩)
  have FwP := Fld.start (own_fldI n2 ewP)
  obtain ⟨wF, ewF⟩ := exa_v n4
  have EwF := Exa.start ewF n4
  have SwF := Sta.start ewF (Or.inr ⟨(wk hw 6 rfl), (wk hw 22 rfl)⟩)
  have FwF := Fld.start (own_fldI n5 ewF)
  obtain ⟨wN, ewN⟩ := exa_v n3
  have EwN := Exa.start ewN n3
  have SwN := Sta.start ewN (Or.inr ⟨(wk hw 6 rfl), (wk hw 20 rfl)⟩)
  have FwN := Fld.start (own_fldI n6 ewN)
  have key := rm0 l s _ hw tables_1 i0 i1 wP wF wN s.heap s.heap.size (Nat.le_refl _) SwP SwF SwN EwP FwP EwF FwF EwN FwN p e ha hc hk s m _ below hf ((Spec.applies_iff_loose hf).mp happ).1 ⟨rfl, State.Warmed39.refl s, rfl⟩ trivial
  obtain ⟨n, o, h1, h2, h3, _, L, rfl, ⟨rfl, N⟩, hq⟩ := key
  refine ⟨n, _, h1, h2, h3, hpost _ _ _ _ _ _ ⟨Cond.after_iff.mpr rfl, Cond.after_iff.mpr (eq_i res_at (Term.int_eval (1)) rfl), trivial⟩ ⟨hq.1, hq.2.1, (hq.2.2.sift fun y hy => Or.inr (N y hy)).mono (by decide) (by decide)⟩⟩
theorem main_1_1 : Claimed_1_1 := comes_1 fun _ _ _ _ _ _ h hF => ⟨h.1, hF⟩
theorem main_1_2 : Claimed_1_2 := comes_1 fun _ _ _ _ _ _ h hF => ⟨h.2.1, hF⟩
end Jvm.Pilot.@@N@@
namespace Jvm.Pilot.@@N@@
open Jvm Jvm.ClassFile Sem Op Lib Jvm.Free Jvm.Stand Jvm.Pilot.@@N@@.Jvm.D
/-! MADE BY PROGRAM (witnessworld.py) out of the Statement's table words and the real class files: 13 classes; the members and pool entries that the words name. The judged class is class 1, her method 2. -/
namespace start1
open Jvm.ClassFile
def u (s : String) : CpInfo := .utf8 (stringToUtf16 s)
/-- a pool by its gaps: so many unusable entries, then the entry; so many at the end -/
def gap : Nat → List CpInfo → List CpInfo
  | 0, r => r
  | n + 1, r => .unusable :: gap n r
def poolList (es : List (Nat × CpInfo)) (last : Nat) : List CpInfo := es.foldr (fun e r => gap e.1 (e.2 :: r)) (gap last [])
def pool (es : List (Nat × CpInfo)) (last : Nat) : Array CpInfo := ⟨poolList es last⟩
def fileOf (pool : Array CpInfo) (this : Nat) (attrs : Array Attribute := #[]) (ms : Array MethodInfo := #[]) (fl : Nat := 33) (sup : Nat := 0) (ifs : Array Nat := #[]) (fds : Array FieldInfo := #[]) : ClassFile where
  minorVersion := 0
  majorVersion := 65
  constantPool := pool
  accessFlags := fl
  thisClass := this
  superClass := sup
  interfaces := ifs
  fields := fds
  methods := ms
  attributes := attrs
def plain (name : String) (sup : Option ClassId) : Class where
  name := name
  kind := .ordinary
  loader := none
  accessFlags := 33
  super := sup
  interfaces := #[]
  cf := none
  fields := #[]
  methods := #[]
  instanceTypes := #[]
  staticTypes := #[]
  resolved := #[]
  callSites := []
  init := .initialized
  statics := none
  mirror := none

def pool0 : Array CpInfo := pool [(5, u "<init>"), (0, u "()V"), (1, .class_ 10), (1, u "java/lang/Object")] 113

def k0m0 : Method := { name := "<init>", desc := "()V", sig := { parameters := [], returnType := none }, accessFlags := 1, code := none }
/-- java/lang/Object -/
def k0 : Class := { plain "java/lang/Object" none with
  accessFlags := 33
  interfaces := #[]
  cf := some (fileOf pool0 8 #[] #[{ accessFlags := 1, nameIndex := 5, descriptorIndex := 6, attributes := #[] }] 33 0 #[] #[])
  fields := #[]
  methods := #[k0m0]
  instanceTypes := #[]
  staticTypes := #[]
  resolved := Array.replicate 124 none
  statics := none }

def pool1 : Array CpInfo := pool [(2, .class_ 4), (1, u "java/lang/Object"), (0, u "<init>"), (0, u "()V"), (0, .fieldref 8 9), (0, .class_ 10), (0, .nameAndType 11 12), (0, u "com/example/covenantry/covenantry/cli/ExitStatus"), (0, u "PASSED"), (0, u "Lcom/example/covenantry/covenantry/cli/ExitStatus;"), (0, .fieldref 8 14), (0, .nameAndType 15 12), (0, u "FAILED"), (0, .fieldref 8 17), (0, .nameAndType 18 12), (0, u "NOT_EVALUATED"), (0, .integer 2147483647), (0, .methodref 21 22), (0, .class_ 23), (0, .nameAndType 24 25), (0, u "com/example/covenantry/covenantry/cli/ExitStatusAndPinLaw"), (0, u "pick"), (0, u "(I)Lcom/example/covenantry/covenantry/cli/ExitStatus;"), (0, .methodref 27 28), (0, .class_ 29), (0, .nameAndType 30 31), (0, u "java/lang/Math"), (0, u "max"), (0, u "(II)I"), (0, .methodref 8 33), (0, .nameAndType 34 35), (0, u "and"), (0, u "(Lcom/example/covenantry/covenantry/cli/ExitStatus;)Lcom/example/covenantry/covenantry/cli/ExitStatus;"), (3, u "law"), (0, u "(II)Z")] 2

def k1m0 : Method := { name := "<init>", desc := "()V", sig := { parameters := [], returnType := none }, accessFlags := 1, code := none }
def k1c1 : Code := { maxStack := 2, maxLocals := 1, code := method_2_code, exceptionTable := #[], attributes := #[] }
def k1m1 : Method := { name := "pick", desc := "(I)Lcom/example/covenantry/covenantry/cli/ExitStatus;", sig := { parameters := [.int], returnType := some (.object "com/example/covenantry/covenantry/cli/ExitStatus") }, accessFlags := 10, code := some k1c1 }
def k1c2 : Code := { maxStack := 2, maxLocals := 8, code := code, exceptionTable := #[], attributes := #[] }
def k1m2 : Method := { name := "law", desc := "(II)Z", sig := { parameters := [.int, .int], returnType := some .boolean }, accessFlags := 9, code := some k1c2 }
/-- com/example/covenantry/covenantry/cli/ExitStatusAndPinLaw -/
def k1 : Class := { plain "com/example/covenantry/covenantry/cli/ExitStatusAndPinLaw" (some 0) with
  accessFlags := 49
  interfaces := #[]
  cf := some (fileOf pool1 21 #[] #[{ accessFlags := 1, nameIndex := 5, descriptorIndex := 6, attributes := #[] }, { accessFlags := 10, nameIndex := 24, descriptorIndex := 25, attributes := #[] }, { accessFlags := 9, nameIndex := 39, descriptorIndex := 40, attributes := #[] }] 49 2 #[] #[])
  fields := #[]
  methods := #[k1m0, k1m1, k1m2]
  instanceTypes := #[]
  staticTypes := #[]
  resolved := Array.replicate 43 none
  statics := none }

def pool2 : Array CpInfo := pool [(1, .class_ 2), (0, u "java/lang/constant/Constable"), (0, .class_ 4), (0, u "java/lang/Object")] 6

/-- java/lang/constant/Constable -/
def k2 : Class := { plain "java/lang/constant/Constable" (some 0) with
  accessFlags := 1537
  interfaces := #[]
  cf := some (fileOf pool2 1 #[] #[] 1537 3 #[] #[])
  fields := #[]
  methods := #[]
  instanceTypes := #[]
  staticTypes := #[]
  resolved := Array.replicate 11 none
  statics := none }

def pool3 : Array CpInfo := pool [(1, .class_ 2), (0, u "java/lang/Comparable"), (0, .class_ 4), (0, u "java/lang/Object")] 7

/-- java/lang/Comparable -/
def k3 : Class := { plain "java/lang/Comparable" (some 0) with
  accessFlags := 1537
  interfaces := #[]
  cf := some (fileOf pool3 1 #[] #[] 1537 3 #[] #[])
  fields := #[]
  methods := #[]
  instanceTypes := #[]
  staticTypes := #[]
  resolved := Array.replicate 12 none
  statics := none }

def pool4 : Array CpInfo := pool [(1, .class_ 2), (0, u "java/io/Serializable"), (0, .class_ 4), (0, u "java/lang/Object")] 2

/-- java/io/Serializable -/
def k4 : Class := { plain "java/io/Serializable" (some 0) with
  accessFlags := 1537
  interfaces := #[]
  cf := some (fileOf pool4 1 #[] #[] 1537 3 #[] #[])
  fields := #[]
  methods := #[]
  instanceTypes := #[]
  staticTypes := #[]
  resolved := Array.replicate 7 none
  statics := none }

def pool5 : Array CpInfo := pool [(2, .class_ 4), (1, u "java/lang/Enum"), (0, u "name"), (0, u "Ljava/lang/String;"), (2, u "ordinal"), (0, u "I"), (1, .class_ 14), (1, u "java/lang/Object"), (4, u "hash"), (86, .class_ 108), (1, u "java/lang/Enum$EnumDesc"), (2, .class_ 112), (0, u "java/lang/constant/Constable"), (0, .class_ 114), (0, u "java/lang/Comparable"), (0, .class_ 116), (0, u "java/io/Serializable")] 87

/-- java/lang/Enum -/
def k5 : Class := { plain "java/lang/Enum" (some 0) with
  accessFlags := 1057
  interfaces := #[2, 3, 4]
  cf := some (fileOf pool5 2 #[.nestMembers #[106]] #[] 1057 12 #[111, 113, 115] #[{ accessFlags := 18, nameIndex := 5, descriptorIndex := 6, attributes := #[] }, { accessFlags := 18, nameIndex := 9, descriptorIndex := 10, attributes := #[] }, { accessFlags := 2, nameIndex := 19, descriptorIndex := 10, attributes := #[] }])
  fields := #[{ name := "name", type := (.object "java/lang/String"), accessFlags := 18, slot := 0, constantValue := 0 }, { name := "ordinal", type := .int, accessFlags := 18, slot := 1, constantValue := 0 }, { name := "hash", type := .int, accessFlags := 2, slot := 2, constantValue := 0 }]
  methods := #[]
  instanceTypes := #[(.object "java/lang/String"), .int, .int]
  staticTypes := #[]
  resolved := Array.replicate 204 none
  statics := none }

def pool6 : Array CpInfo := pool [(1, .class_ 2), (0, u "com/example/covenantry/covenantry/cli/ExitStatus"), (2, u "PASSED"), (0, u "Lcom/example/covenantry/covenantry/cli/ExitStatus;"), (2, u "FAILED"), (2, u "NOT_EVALUATED"), (2, u "$VALUES"), (0, u "[Lcom/example/covenantry/covenantry/cli/ExitStatus;"), (6, .class_ 25), (1, u "java/lang/Enum"), (6, .fieldref 1 33), (0, .nameAndType 34 35), (0, u "code"), (0, u "I"), (18, u "and"), (0, u "(Lcom/example/covenantry/covenantry/cli/ExitStatus;)Lcom/example/covenantry/covenantry/cli/ExitStatus;")] 6

def k6c0 : Code := { maxStack := 2, maxLocals := 2, code := prog_1_method_5_code, exceptionTable := #[], attributes := #[] }
def k6m0 : Method := { name := "and", desc := "(Lcom/example/covenantry/covenantry/cli/ExitStatus;)Lcom/example/covenantry/covenantry/cli/ExitStatus;", sig := { parameters := [(.object "com/example/covenantry/covenantry/cli/ExitStatus")], returnType := some (.object "com/example/covenantry/covenantry/cli/ExitStatus") }, accessFlags := 1, code := some k6c0 }
/-- com/example/covenantry/covenantry/cli/ExitStatus -/
def k6 : Class := { plain "com/example/covenantry/covenantry/cli/ExitStatus" (some 5) with
  accessFlags := 16433
  interfaces := #[]
  cf := some (fileOf pool6 1 #[] #[{ accessFlags := 1, nameIndex := 54, descriptorIndex := 55, attributes := #[] }] 16433 23 #[] #[{ accessFlags := 16409, nameIndex := 5, descriptorIndex := 6, attributes := #[] }, { accessFlags := 16409, nameIndex := 9, descriptorIndex := 6, attributes := #[] }, { accessFlags := 16409, nameIndex := 12, descriptorIndex := 6, attributes := #[] }, { accessFlags := 18, nameIndex := 34, descriptorIndex := 35, attributes := #[] }, { accessFlags := 4122, nameIndex := 15, descriptorIndex := 16, attributes := #[] }])
  fields := #[{ name := "PASSED", type := (.object "com/example/covenantry/covenantry/cli/ExitStatus"), accessFlags := 16409, slot := 0, constantValue := 0 }, { name := "FAILED", type := (.object "com/example/covenantry/covenantry/cli/ExitStatus"), accessFlags := 16409, slot := 1, constantValue := 0 }, { name := "NOT_EVALUATED", type := (.object "com/example/covenantry/covenantry/cli/ExitStatus"), accessFlags := 16409, slot := 2, constantValue := 0 }, { name := "code", type := .int, accessFlags := 18, slot := 3, constantValue := 0 }, { name := "$VALUES", type := (.array (.object "com/example/covenantry/covenantry/cli/ExitStatus")), accessFlags := 4122, slot := 3, constantValue := 0 }]
  methods := #[k6m0]
  instanceTypes := #[(.object "java/lang/String"), .int, .int, .int]
  staticTypes := #[(.object "com/example/covenantry/covenantry/cli/ExitStatus"), (.object "com/example/covenantry/covenantry/cli/ExitStatus"), (.object "com/example/covenantry/covenantry/cli/ExitStatus"), (.array (.object "com/example/covenantry/covenantry/cli/ExitStatus"))]
  resolved := Array.replicate 62 none
  statics := some 0 }

def pool7 : Array CpInfo := pool [(1, .class_ 2), (0, u "java/lang/Math"), (1, .class_ 6), (1, u "java/lang/Object"), (0, u "<init>"), (0, u "()V"), (89, .class_ 100), (1, u "java/lang/Math$RandomNumberGeneratorHolder"), (71, u "negativeZeroFloatBits"), (0, u "J"), (2, u "negativeZeroDoubleBits"), (21, u "max"), (46, u "$assertionsDisabled"), (0, u "Z"), (88, u "(II)I"), (2, u "twoToTheDoubleScaleDown"), (0, u "D"), (4, u "twoToTheDoubleScaleUp"), (9, u "E"), (3, u "PI"), (2, u "TAU"), (2, u "DEGREES_TO_RADIANS"), (0, u "RADIANS_TO_DEGREES")] 94

def k7m0 : Method := { name := "<init>", desc := "()V", sig := { parameters := [], returnType := none }, accessFlags := 2, code := none }
def k7c1 : Code := { maxStack := 2, maxLocals := 2, code := jdk_29_method_65_code, exceptionTable := #[], attributes := #[] }
def k7m1 : Method := { name := "max", desc := "(II)I", sig := { parameters := [.int, .int], returnType := some .int }, accessFlags := 9, code := some k7c1 }
/-- java/lang/Math -/
def k7 : Class := { plain "java/lang/Math" (some 0) with
  accessFlags := 49
  interfaces := #[]
  cf := some (fileOf pool7 1 #[.nestMembers #[98]] #[{ accessFlags := 2, nameIndex := 7, descriptorIndex := 8, attributes := #[] }, { accessFlags := 9, nameIndex := 198, descriptorIndex := 335, attributes := #[] }] 49 4 #[] #[{ accessFlags := 25, nameIndex := 354, descriptorIndex := 339, attributes := #[] }, { accessFlags := 25, nameIndex := 358, descriptorIndex := 339, attributes := #[] }, { accessFlags := 25, nameIndex := 361, descriptorIndex := 339, attributes := #[] }, { accessFlags := 26, nameIndex := 364, descriptorIndex := 339, attributes := #[] }, { accessFlags := 26, nameIndex := 365, descriptorIndex := 339, attributes := #[] }, { accessFlags := 26, nameIndex := 172, descriptorIndex := 173, attributes := #[] }, { accessFlags := 26, nameIndex := 176, descriptorIndex := 173, attributes := #[] }, { accessFlags := 8, nameIndex := 344, descriptorIndex := 339, attributes := #[] }, { accessFlags := 8, nameIndex := 338, descriptorIndex := 339, attributes := #[] }, { accessFlags := 4120, nameIndex := 245, descriptorIndex := 246, attributes := #[] }])
  fields := #[{ name := "E", type := .double, accessFlags := 25, slot := 0, constantValue := 0 }, { name := "PI", type := .double, accessFlags := 25, slot := 1, constantValue := 0 }, { name := "TAU", type := .double, accessFlags := 25, slot := 2, constantValue := 0 }, { name := "DEGREES_TO_RADIANS", type := .double, accessFlags := 26, slot := 3, constantValue := 0 }, { name := "RADIANS_TO_DEGREES", type := .double, accessFlags := 26, slot := 4, constantValue := 0 }, { name := "negativeZeroFloatBits", type := .long, accessFlags := 26, slot := 5, constantValue := 0 }, { name := "negativeZeroDoubleBits", type := .long, accessFlags := 26, slot := 6, constantValue := 0 }, { name := "twoToTheDoubleScaleUp", type := .double, accessFlags := 8, slot := 7, constantValue := 0 }, { name := "twoToTheDoubleScaleDown", type := .double, accessFlags := 8, slot := 8, constantValue := 0 }, { name := "$assertionsDisabled", type := .boolean, accessFlags := 4120, slot := 9, constantValue := 0 }]
  methods := #[k7m0, k7m1]
  instanceTypes := #[]
  staticTypes := #[.double, .double, .double, .double, .double, .long, .long, .double, .double, .boolean]
  resolved := Array.replicate 460 none
  statics := none }

def pool8 : Array CpInfo := pool [(1, u "java/lang/Cloneable"), (0, .class_ 1), (0, u "java/lang/Object"), (0, .class_ 3)] 3

/-- java/lang/Cloneable -/
def k8 : Class := { plain "java/lang/Cloneable" (some 0) with
  accessFlags := 1537
  interfaces := #[]
  cf := some (fileOf pool8 2 #[] #[] 1537 4 #[] #[])
  fields := #[]
  methods := #[]
  instanceTypes := #[]
  staticTypes := #[]
  resolved := Array.replicate 8 none
  statics := none }

/-- the primitive byte -/
def k9 : Class := { plain "byte" none with kind := .primitive 'B', accessFlags := 0x411 }
/-- [B -/
def k10 : Class := { plain "[B" (some 0) with kind := .array 9 .byte, interfaces := #[8, 4], accessFlags := 1041 }

/-- the primitive int -/
def k11 : Class := { plain "int" none with kind := .primitive 'I', accessFlags := 0x411 }
/-- [I -/
def k12 : Class := { plain "[I" (some 0) with kind := .array 11 .int, interfaces := #[8, 4], accessFlags := 1041 }

def heap : Heap := #[{ cls := 6, slots := #[.ref 1, .ref 2, .ref 3, .null], vm := .statics 6 },
  { cls := 6, slots := #[.null, .int 0, .int 0, .int 0], vm := .none },
  { cls := 6, slots := #[.null, .int 1, .int 0, .int 1], vm := .none },
  { cls := 6, slots := #[.null, .int 2, .int 0, .int 2], vm := .none }]
def classes : Array Class := #[k0, k1, k2, k3, k4, k5, k6, k7, k8, k9, k10, k11, k12]
def interned : List (Array UInt16 × Addr) := []
def slotsUsed : Nat := 16
def theMethod : MethodId := ⟨1, 2⟩
def args0 : Array Value := #[.int 5, .int 7]
def aboutOver (below : List Frame) : State where
  vm := { classes := classes, interned := interned.toArray }
  heap := heap
  slotsUsed := slotsUsed
  threads := #[{ frames := .invoking theMethod args0 :: below }]
def below0 : List Frame := [.native { method := ⟨0, 0⟩, args := #[] }]
def about1 : State := aboutOver below0
def p0 : Program := .bare "" "" ""
def e0 : Env := launch0.env 0 0 0
theorem w_frames : about1.frames = Frame.invoking theMethod args0 :: below0 := rfl
set_option maxRecDepth 65536 in
theorem w_args : argsFit about1.vm theMethod args0 = true := by decide +kernel
set_option maxRecDepth 65536 in
theorem w_heap : heapFits about1 = true := by decide +kernel
set_option maxRecDepth 65536 in
theorem w_runnable : about1.curStatus? = some .runnable := by decide +kernel
set_option maxRecDepth 65536 in
theorem w_alone : about1.alone = true := by decide +kernel
set_option maxRecDepth 65536 in
theorem w_named : about1.methodNamed? x = some theMethod := by decide +kernel
set_option maxRecDepth 65536 in
theorem w_hears : about1.hears theMethod below0 = true := by decide +kernel
set_option maxRecDepth 65536 in
theorem w_ripe : about1.ripe theMethod args0 below0 = true := by decide +kernel
theorem w_running : about1.status = .running := rfl
set_option maxRecDepth 65536 in
theorem w_room : about1.hasRoom e0.platform room_1 = true :=
  launch0.hasRoom_least _ room_1 (by decide +kernel) (by decide +kernel) (by decide +kernel) (by decide +kernel) (by decide +kernel) (by decide +kernel)
theorem allAtoms_all (ts : List Jvm.Cond) (a : Array Jvm.Value) (st : Jvm.State) : (allAtoms ts).before a st = ts.all (fun c => c.before a st) := by
  induction ts with
  | nil => rfl
  | cons c t ih =>
    show (Jvm.Cond.and c (allAtoms t)).before a st = _
    rw [Jvm.Cond.before_and, ih, List.all_cons]
def words1 : List Jvm.Cond := Jvm.Cond.code x code maxLocals ret :: tables_1
/-- a 'code' word, met by the world's own term for the bytes: nothing is compared byte by byte -/
theorem code_word {y : MethodName} {bytes : ByteArray} {mx : Nat} {rt : Option FieldType} {a : Array Value} {s : State} {m : MethodId} {meth : Method} {c : Code} (h1 : s.methodNamed? y = some m) (h2 : s.vm.method? m = some meth) (h3 : meth.code = some c) (h4 : c.code = bytes)
    (h5 : (c.maxLocals == mx && c.exceptionTable.isEmpty && decide (c.maxStack ≤ mostOperands) && decide (meth.sig.returnType = rt) && !meth.locks && decide (parseMethodDescriptor y.desc = some meth.sig)) = true) : (Jvm.Cond.code y bytes mx rt).before a s = true := by
  simp only [Bool.and_eq_true, beq_iff_eq, Bool.not_eq_true', decide_eq_true_eq] at h5
  obtain ⟨⟨⟨⟨⟨g1, g2⟩, g3⟩, g4⟩, g5⟩, g6⟩ := h5
  simp [Cond.before, Cond.holds, Cond.value, h1, h2, h3, h4, g1, g2, g3, g4, g5, g6]
def isCode : Jvm.Cond → Bool
  | .code _ _ _ _ => true
  | _ => false
theorem all_split {L : List Jvm.Cond} {P : Jvm.Cond → Bool} (h1 : L.all (fun c => isCode c || P c) = true) (h2 : ∀ c ∈ L.filter isCode, P c = true) : L.all P = true := by
  refine List.all_eq_true.mpr fun c hc => ?_
  have h := List.all_eq_true.mp h1 c hc
  rcases Bool.eq_false_or_eq_true (isCode c) with hi | hi
  · exact h2 c (List.mem_filter.mpr ⟨hc, hi⟩)
  · simpa [hi] using h
set_option maxRecDepth 65536 in
theorem w_c0 : (Jvm.Cond.code x code maxLocals ret).before args0 about1 = true := code_word (m := ⟨1, 2⟩) (meth := k1m2) (c := k1c2) (by decide +kernel) rfl rfl rfl (by decide +kernel)
set_option maxRecDepth 65536 in
theorem w_c1 : (Jvm.Cond.code ({ cls := "com/example/covenantry/covenantry/cli/ExitStatusAndPinLaw", name := "pick", desc := "(I)Lcom/example/covenantry/covenantry/cli/ExitStatus;" } : Jvm.MethodName) method_2_code (1 : Nat) (Option.some (Jvm.ClassFile.FieldType.object "com/example/covenantry/covenantry/cli/ExitStatus"))).before args0 about1 = true := code_word (m := ⟨1, 1⟩) (meth := k1m1) (c := k1c1) (by decide +kernel) rfl rfl rfl (by decide +kernel)
set_option maxRecDepth 65536 in
theorem w_c2 : (Jvm.Cond.code ({ cls := "java/lang/Math", name := "max", desc := "(II)I" } : Jvm.MethodName) jdk_29_method_65_code (2 : Nat) (Option.some Jvm.ClassFile.FieldType.int)).before args0 about1 = true := code_word (m := ⟨7, 1⟩) (meth := k7m1) (c := k7c1) (by decide +kernel) rfl rfl rfl (by decide +kernel)
set_option maxRecDepth 65536 in
theorem w_c3 : (Jvm.Cond.code ({ cls := "com/example/covenantry/covenantry/cli/ExitStatus", name := "and", desc := "(Lcom/example/covenantry/covenantry/cli/ExitStatus;)Lcom/example/covenantry/covenantry/cli/ExitStatus;" } : Jvm.MethodName) prog_1_method_5_code (2 : Nat) (Option.some (Jvm.ClassFile.FieldType.object "com/example/covenantry/covenantry/cli/ExitStatus"))).before args0 about1 = true := code_word (m := ⟨6, 0⟩) (meth := k6m0) (c := k6c0) (by decide +kernel) rfl rfl rfl (by decide +kernel)
def codes1 : List Jvm.Cond := [Jvm.Cond.code x code maxLocals ret, Jvm.Cond.code ({ cls := "com/example/covenantry/covenantry/cli/ExitStatusAndPinLaw", name := "pick", desc := "(I)Lcom/example/covenantry/covenantry/cli/ExitStatus;" } : Jvm.MethodName) method_2_code (1 : Nat) (Option.some (Jvm.ClassFile.FieldType.object "com/example/covenantry/covenantry/cli/ExitStatus")), Jvm.Cond.code ({ cls := "java/lang/Math", name := "max", desc := "(II)I" } : Jvm.MethodName) jdk_29_method_65_code (2 : Nat) (Option.some Jvm.ClassFile.FieldType.int), Jvm.Cond.code ({ cls := "com/example/covenantry/covenantry/cli/ExitStatus", name := "and", desc := "(Lcom/example/covenantry/covenantry/cli/ExitStatus;)Lcom/example/covenantry/covenantry/cli/ExitStatus;" } : Jvm.MethodName) prog_1_method_5_code (2 : Nat) (Option.some (Jvm.ClassFile.FieldType.object "com/example/covenantry/covenantry/cli/ExitStatus"))]
set_option maxRecDepth 65536 in
theorem codes_eq : words1.filter isCode = codes1 := rfl
theorem w_codes : ∀ c ∈ words1.filter isCode, c.before args0 about1 = true := by
  rw [codes_eq]
  intro c hc
  simp only [codes1, List.mem_cons, List.not_mem_nil, or_false] at hc
  rcases hc with rfl | rfl | rfl | rfl
  · exact w_c0
  · exact w_c1
  · exact w_c2
  · exact w_c3
set_option maxRecDepth 65536 in
theorem w_t1 : words1.all (fun c => isCode c || c.before args0 about1) = true := by decide +kernel
theorem w_tables : (allAtoms (Jvm.Cond.code x code maxLocals ret :: tables_1)).before args0 about1 = true := by
  rw [allAtoms_all]
  show words1.all (fun c => c.before args0 about1) = true
  refine all_split ?_ w_codes
  rw [w_t1]
set_option maxRecDepth 65536 in
theorem w_case : (Jvm.Cond.and given_1 narrow_1).before args0 about1 = true := by decide +kernel
theorem w_applies : (headSpec (Jvm.Cond.code x code maxLocals ret :: tables_1) room_1).applies x e0.platform about1 = true :=
  (Spec.applies_iff w_frames).mpr ⟨w_running, w_runnable, w_alone, w_named, w_hears, w_ripe, w_room, w_tables⟩
theorem atStart : AtStart classFile x code maxLocals ret World_1 tables_1 room_1 Calls_1 rest_1 Pre_1 launch0 p0 e0 about1 theMethod args0 below0 :=
  ⟨lists_1, trivial, launch0.admits_env _ _ _, launch0.least_env, fairChoices_fair.cas, fairChoices_fair.clock, w_frames, w_args, w_heap, w_applies, trivial, trivial, w_case⟩
end start1
theorem witness_1 : WitnessClaimed_1 := ⟨start1.p0, start1.e0, start1.about1, start1.theMethod, start1.args0, start1.below0, start1.atStart⟩
end Jvm.Pilot.@@N@@
