import JvmDerived
import JvmDerived.Pilot.@@N@@Statement
import JvmDerived.Pilot.@@N@@Code
set_option linter.unusedVariables false
set_option linter.unusedSimpArgs false
namespace Jvm.RoadKit
open Sem ClassFile Op Lib Jvm.Stand Jvm.Free Jvm.LawKit
section New
variable {p : Program} {l : Launch} {e : Env} {R : Room} {s : State} {m : MethodId} {args : Array Value} {below : List Frame} {meth : Method} {c : Code} {T : State} {locs : List Loc} {cells slots : Nat}
theorem retI (X : Stand p l e R s m args below meth c T locs cells slots) (hx : p.tables.exec = Jvm.exec) {pc : Nat} {Ls : Array Slot} {z : Int32} {rest : List Value} (hret : meth.sig.returnType = some .int) (hd : decode c.code pc = .ok (.ireturn, 1)) {fs : List Frame}
    (hl : ∀ (f : JFrame) (acts : List Action), f.method = m → f.locked = none → f.entered = [] → (doReturn e (T.setTop f) acts (some (.int z))).1 = T.setFrames fs) : Steps p.tables e below (T.setTop (mkF m pc Ls (.int z :: rest))) (T.setFrames fs) := by
  have hm' : T.vm.method? m = some meth := X.method'
  have hn : narrow .int (.int z) = .int z := rfl
  show Steps p.tables e below (T.setTop { method := m, pc := pc, locals := Ls, stack := _ :: rest, locked := none }) _
  jvm_step X.here [X.here.top, hx, hd, hm', hret, hn]
  first | (intro acts; rw [hl _ acts rfl rfl rfl]) | rw [hl _ _ rfl rfl rfl]
  exact Steps.refl _
end New
end Jvm.RoadKit
namespace Jvm.Pilot.@@N@@
open Jvm Jvm.ClassFile Sem Op Lib Jvm.Free Jvm.Stand Jvm.LawKit Jvm.RoadKit Bundle Jvm.Pilot.@@N@@.Jvm.D
theorem wk {a0 : Array Value} {Z : State} (hw : ∀ d ∈ tables_1, d.before a0 Z = true) {d : Jvm.Cond} (i : Nat) (h : tables_1[i]? = some d) : d.before a0 Z = true := hw _ (List.mem_of_getElem? h)
abbrev Go (tb : Tables) (e : Env) (below : List Frame) (T : State) (g : JFrame) (T0 : State) (g0 : JFrame) : Prop := ∀ t, Steps tb e below (T.setTop g) t → Steps tb e below (T0.setTop g0) t
theorem own_fldI {args : Array Value} {s : State} {t : Term} {C n d : String} {a : Addr} {k : Int32} (h : (Jvm.Cond.eq (Term.field t C n d) (Term.int k)).value args s none s [] = some true) (ht : t.eval args s none [] s = some (.ref a)) : s.fieldOf? a C n d = some (.int k) := by
  obtain ⟨x, y, e1, e2, k1, k2⟩ := cmp_v (Or.inl h)
  have e3 : (Term.int k).eval args s none [] s = some (.int k) := rfl
  obtain rfl : Value.int k = y := Option.some.inj (e3.symm.trans e2)
  obtain ⟨z, rfl⟩ := k2
  rw [fld_at ht] at e1
  have q : (Jvm.Cond.eq (Term.field t C n d) (Term.int k)).value args s none s [] = some (decide (z = k)) := by simp [Jvm.Cond.value, fld_at ht, e1, e3]
  rw [gotT q h] at e1
  exact e1
theorem own_fldR {args : Array Value} {s : State} {t u : Term} {C n d : String} {a b : Addr} (h : (Jvm.Cond.eq (Term.field t C n d) u).value args s none s [] = some true) (ht : t.eval args s none [] s = some (.ref a)) (hu : u.eval args s none [] s = some (.ref b)) : s.fieldOf? a C n d = some (.ref b) := by
  obtain ⟨x, y, e1, e2, k1, k2⟩ := cmp_v (Or.inl h)
  obtain rfl : Value.ref b = y := Option.some.inj (hu.symm.trans e2)
  have q := eq_R e1 hu k2.2 rfl
  rw [gotT q h, fld_at ht] at e1
  exact e1
theorem own_fldN {args : Array Value} {s : State} {t : Term} {C n d : String} {a : Addr} (h : (Jvm.Cond.eq (Term.field t C n d) Term.null).value args s none s [] = some true) (ht : t.eval args s none [] s = some (.ref a)) : s.fieldOf? a C n d = some .null := by
  have e := null_v h
  rw [fld_at ht] at e
  exact e
theorem own_or {args : Array Value} {first s : State} {o : Option Outcome} {idx : List Nat} {c d : Jvm.Cond} (h : (Jvm.Cond.or c d).value args first o s idx = some true) (hc : c.value args first o s idx = some false) : d.value args first o s idx = some true := by
  simpa [Jvm.Cond.value, hc] using h
theorem own_elemI {args : Array Value} {s : State} {t ix : Term} {idx : List Nat} {a : Addr} {cl : Cell} {j k : Int32} (h : (Jvm.Cond.eq (Term.elem t ix) (Term.int k)).value args s none s idx = some true) (ht : t.eval args s none idx s = some (.ref a)) (hj : ix.eval args s none idx s = some (.int j)) (hc : s.heap[a]? = some cl) : cl.slots[j.toNatClampNeg]? = some (.int k) := by
  obtain ⟨x, y, e1, e2, k1, k2⟩ := cmp_v (Or.inl h)
  have e3 : (Term.int k).eval args s none idx s = some (.int k) := rfl
  obtain rfl : Value.int k = y := Option.some.inj (e3.symm.trans e2)
  obtain ⟨z, rfl⟩ := k2
  have q : (Jvm.Cond.eq (Term.elem t ix) (Term.int k)).value args s none s idx = some (decide (z = k)) := by simp [Jvm.Cond.value, e1, e3]
  rw [gotT q h] at e1
  exact (elem_in e1 ht hj hc).2
theorem own_elemR {args : Array Value} {s : State} {t ix u : Term} {idx : List Nat} {a b : Addr} {cl : Cell} {j : Int32} (h : (Jvm.Cond.eq (Term.elem t ix) u).value args s none s idx = some true) (ht : t.eval args s none idx s = some (.ref a)) (hj : ix.eval args s none idx s = some (.int j)) (hu : u.eval args s none idx s = some (.ref b)) (hc : s.heap[a]? = some cl) : cl.slots[j.toNatClampNeg]? = some (.ref b) := by
  obtain ⟨x, y, e1, e2, k1, k2⟩ := cmp_v (Or.inl h)
  obtain rfl : Value.ref b = y := Option.some.inj (hu.symm.trans e2)
  have q := eq_R e1 hu k2.2 rfl
  rw [gotT q h] at e1
  exact (elem_in e1 ht hj hc).2
theorem own_len {args : Array Value} {s : State} {t : Term} {a : Addr} {cl : Cell} {k : Int32} (h : (Jvm.Cond.eq (Term.length t) (Term.int k)).value args s none s [] = some true) (ht : t.eval args s none [] s = some (.ref a)) (ha : s.arrayAt? a = some cl) : cl.slots.size.toInt32 = k ∧ cl.slots.size < 2 ^ 31 := by
  obtain ⟨x, y, e1, e2, k1, k2⟩ := cmp_v (Or.inl h)
  have e3 : (Term.int k).eval args s none [] s = some (.int k) := rfl
  obtain rfl : Value.int k = y := Option.some.inj (e3.symm.trans e2)
  by_cases hl : cl.slots.size < 2 ^ 31
  · have e4 := len_f (args := args) (first := s) (o := none) (idx := []) ht ha hl
    obtain rfl : x = .int cl.slots.size.toInt32 := Option.some.inj (e1.symm.trans e4)
    have q : (Jvm.Cond.eq (Term.length t) (Term.int k)).value args s none s [] = some (decide (cl.slots.size.toInt32 = k)) := by simp [Jvm.Cond.value, e1, e3]
    exact ⟨gotT q h, hl⟩
  · simp [Term.eval, ht, ha, hl] at e1
theorem own_size {n : Nat} {k : Int32} (h : n.toInt32 = k) (hn : n < 2 ^ 31) : (n : Int) = k.toInt := by
  rw [← h, len_toInt hn]
def QP (r : Value) (h0 : Heap) (n0 : Nat) (v : Option Value) (h : Heap) (L : List Loc) : Prop := v = some r ∧ Fr n0 L ∧ h = h0
def QL (r : Value) (h0 : Heap) (n0 : Nat) (v : Option Value) (h : Heap) (L : List Loc) : Prop := v = some r ∧ Fr n0 L
def QR (r : Value) (h0 : Heap) (n0 : Nat) (v : Option Value) (h : Heap) (L : List Loc) : Prop := v = some r ∧ Fr n0 L ∧ Keep h0 h []
def QA (Z : State) (cl : Cell) (h0 : Heap) (n0 : Nat) (v : Option Value) (h : Heap) (L : List Loc) : Prop := ∃ b : Addr, v = some (.ref b) ∧ Fr n0 L ∧ Keep h0 h [] ∧ Arr Z h b (cloneOf cl) (.object "com/example/sketcher/sketcher/io/SketchFamily")
def pk4 (wB wD wF wS : Addr) (i : Int32) : Addr := if (i &&& (3 : Int32)) = (0 : Int32) then wB else if (i &&& (3 : Int32)) = (1 : Int32) then wD else if (i &&& (3 : Int32)) = (2 : Int32) then wF else wS
def cd4 (i : Int32) : Int32 := if (i &&& (3 : Int32)) = (0 : Int32) then 1 else if (i &&& (3 : Int32)) = (1 : Int32) then 2 else if (i &&& (3 : Int32)) = (2 : Int32) then 3 else 4
def ofc (wB wD wF wS : Addr) (c : Int32) : Value := if (1 : Int32) = c then .ref wB else if (2 : Int32) = c then .ref wD else if (3 : Int32) = c then .ref wF else if (4 : Int32) = c then .ref wS else .null
theorem own_pk4F {Z : State} {h : Heap} {wB wD wF wS : Addr} {C f d : String} (F0 : Fld Z h wB C f d (.int 1)) (F1 : Fld Z h wD C f d (.int 2)) (F2 : Fld Z h wF C f d (.int 3)) (F3 : Fld Z h wS C f d (.int 4)) (i : Int32) : Fld Z h (pk4 wB wD wF wS i) C f d (.int (cd4 i)) := by
  simp only [pk4, cd4]
  split
  · exact F0
  · split
    · exact F1
    · split
      · exact F2
      · exact F3
theorem own_pk4E {Z : State} {h : Heap} {wB wD wF wS : Addr} {C : String} (F0 : Exa Z h wB C) (F1 : Exa Z h wD C) (F2 : Exa Z h wF C) (F3 : Exa Z h wS C) (i : Int32) : Exa Z h (pk4 wB wD wF wS i) C := by
  simp only [pk4]
  split
  · exact F0
  · split
    · exact F1
    · split
      · exact F2
      · exact F3
theorem own_ofc1 (wB wD wF wS : Addr) : ofc wB wD wF wS 1 = .ref wB := rfl
theorem own_ofc2 (wB wD wF wS : Addr) : ofc wB wD wF wS 2 = .ref wD := rfl
theorem own_ofc3 (wB wD wF wS : Addr) : ofc wB wD wF wS 3 = .ref wF := rfl
theorem own_ofc4 (wB wD wF wS : Addr) : ofc wB wD wF wS 4 = .ref wS := rfl
theorem own_rt (wB wD wF wS : Addr) (i : Int32) : ofc wB wD wF wS (cd4 i) = .ref (pk4 wB wD wF wS i) := by
  simp only [pk4, cd4]
  split
  · exact own_ofc1 _ _ _ _
  · split
    · exact own_ofc2 _ _ _ _
    · split
      · exact own_ofc3 _ _ _ _
      · exact own_ofc4 _ _ _ _
theorem own_five (c : Int32) : c = 1 ∨ c = 2 ∨ c = 3 ∨ c = 4 ∨ (¬ c = 1 ∧ ¬ c = 2 ∧ ¬ c = 3 ∧ ¬ c = 4) := by
  by_cases h1 : c = 1
  · exact Or.inl h1
  by_cases h2 : c = 2
  · exact Or.inr (Or.inl h2)
  by_cases h3 : c = 3
  · exact Or.inr (Or.inr (Or.inl h3))
  by_cases h4 : c = 4
  · exact Or.inr (Or.inr (Or.inr (Or.inl h4)))
  exact Or.inr (Or.inr (Or.inr (Or.inr ⟨h1, h2, h3, h4⟩)))
theorem own_ofc0 (wB wD wF wS : Addr) {c : Int32} (h : ¬ c = 1 ∧ ¬ c = 2 ∧ ¬ c = 3 ∧ ¬ c = 4) : ofc wB wD wF wS c = .null := by
  simp only [ofc]
  rw [if_neg (fun q => h.1 q.symm), if_neg (fun q => h.2.1 q.symm), if_neg (fun q => h.2.2.1 q.symm), if_neg (fun q => h.2.2.2 q.symm)]
theorem own_ext0 {h0 h : Heap} (K : Keep h0 h []) : Ext h0 h := ⟨K.1, fun a c q => K.2.1 a c q nin0⟩
theorem pn_1 : plainName "com/example/sketcher/sketcher/io/SketchFamilyOfCodePinLaw" = true := by first | (simp [plainName, overriddenIn]; done) | decide +kernel
theorem ef_1 (m : MethodId) (x0 : Int32) : entryFrame m #[(.int x0)] 2 = mkF m 0 #[.val (.int x0), .unset] [] := by first | (simp [entryFrame, mkF, argsToLocals, Value.category]; done) | rfl
theorem d1_0 : decode method_2_code 0 = .ok (.iload_n 0, 1) := by decide +kernel
theorem d1_1 : decode method_2_code 1 = .ok (.iconst 3, 1) := by decide +kernel
theorem d1_2 : decode method_2_code 2 = .ok (.iand, 1) := by decide +kernel
theorem d1_3 : decode method_2_code 3 = .ok (.istore_n 1, 1) := by decide +kernel
theorem d1_4 : decode method_2_code 4 = .ok (.iload_n 1, 1) := by decide +kernel
theorem d1_5 : decode method_2_code 5 = .ok (.ifCond .ne 7, 3) := by decide +kernel
theorem d1_8 : decode method_2_code 8 = .ok (.getstatic 7, 3) := by decide +kernel
theorem d1_11 : decode method_2_code 11 = .ok (.areturn, 1) := by decide +kernel
theorem d1_12 : decode method_2_code 12 = .ok (.iload_n 1, 1) := by decide +kernel
theorem d1_13 : decode method_2_code 13 = .ok (.iconst 1, 1) := by decide +kernel
theorem d1_14 : decode method_2_code 14 = .ok (.if_icmp .ne 7, 3) := by decide +kernel
theorem d1_17 : decode method_2_code 17 = .ok (.getstatic 13, 3) := by decide +kernel
theorem d1_20 : decode method_2_code 20 = .ok (.areturn, 1) := by decide +kernel
theorem d1_21 : decode method_2_code 21 = .ok (.iload_n 1, 1) := by decide +kernel
theorem d1_22 : decode method_2_code 22 = .ok (.iconst 2, 1) := by decide +kernel
theorem d1_23 : decode method_2_code 23 = .ok (.if_icmp .ne 7, 3) := by decide +kernel
theorem d1_26 : decode method_2_code 26 = .ok (.getstatic 16, 3) := by decide +kernel
theorem d1_29 : decode method_2_code 29 = .ok (.areturn, 1) := by decide +kernel
theorem d1_30 : decode method_2_code 30 = .ok (.getstatic 19, 3) := by decide +kernel
theorem d1_33 : decode method_2_code 33 = .ok (.areturn, 1) := by decide +kernel
set_option maxRecDepth 65536 in
set_option maxHeartbeats 40000000 in
theorem rm1 (l : Launch) (Z : State) (a0 : Array Value) (hw : ∀ d ∈ tables_1, d.before a0 Z = true) (ws : List Jvm.Cond) (p1 : Int32) (wB wD wF wS : Addr) (h0 : Heap) (n0 : Nat) (Z0 : n0 ≤ h0.size) (S_wB : Sta Z h0 "com/example/sketcher/sketcher/io/SketchFamily" "BLOOM_FILTER" "Lcom/example/sketcher/sketcher/io/SketchFamily;" (.ref wB)) (S_wD : Sta Z h0 "com/example/sketcher/sketcher/io/SketchFamily" "DISTINCT_COUNT" "Lcom/example/sketcher/sketcher/io/SketchFamily;" (.ref wD)) (S_wF : Sta Z h0 "com/example/sketcher/sketcher/io/SketchFamily" "FREQUENCY" "Lcom/example/sketcher/sketcher/io/SketchFamily;" (.ref wF)) (S_wS : Sta Z h0 "com/example/sketcher/sketcher/io/SketchFamily" "SIMILARITY" "Lcom/example/sketcher/sketcher/io/SketchFamily;" (.ref wS)) :
    MetFree l (⟨"com/example/sketcher/sketcher/io/SketchFamilyOfCodePinLaw", "pick", "(I)Lcom/example/sketcher/sketcher/io/SketchFamily;"⟩ : MethodName) (head1 (Jvm.Cond.code (⟨"com/example/sketcher/sketcher/io/SketchFamilyOfCodePinLaw", "pick", "(I)Lcom/example/sketcher/sketcher/io/SketchFamily;"⟩ : MethodName) method_2_code 2 (some (.object "com/example/sketcher/sketcher/io/SketchFamily")) :: ws) ({ frames := 0, cells := 0, slots := 0, locals := 0 } : Room)) (fun a U => a = #[(.int p1)] ∧ Z.Warmed39 U.vm ∧ U.heap = h0) (fun _ _ _ _ _ => True) (fun _ U o U' => ∃ v L, o = .returned v ∧ QP (.ref (pk4 wB wD wF wS p1)) h0 n0 v U'.heap L ∧ FrameEnd U o U' L ({ frames := 0, cells := 0, slots := 0, locals := 0 } : Room).cells ({ frames := 0, cells := 0, slots := 0, locals := 0 } : Room).slots) := by
  refine MetFree.of_bodySF (plainFor_of_name pn_1) hisR ?_
  intro p e s m args below meth c s₁ Bd hml0 hP hK
  obtain ⟨rfl, hZ, hh⟩ := hP
  have hx := Bd.exec
  have hby := Bd.bytes
  have hml : c.maxLocals = 2 := hml0
  have hown : s.vm.findClass "com/example/sketcher/sketcher/io/SketchFamilyOfCodePinLaw" = some m.cls := findClass_of_methodNamed Bd.named
  have hnm := (name_of_methodNamed Bd.named Bd.method).1
  have X0 : Stand p l e ({ frames := 0, cells := 0, slots := 0, locals := 0 } : Room) s m #[(.int p1)] below meth c s₁ [] 0 0 := Stand.of_body Bd
  have e0 : s₁.heap = h0 := by rw [← hh, Bd.state]; rfl
  have N0 := Fr.nil n0
  have go0 : Go p.tables e below s₁ (mkF m 0 #[.val (.int p1), .unset] []) s₁ (entryFrame m #[(.int p1)] 2) := fun t k => castTop (ef_1 m p1) k
  have go1 : Go p.tables e below s₁ (mkF m 5 #[.val (.int p1), .val (.int (p1 &&& (3 : Int32)))] [(.int (p1 &&& (3 : Int32)))]) s₁ (entryFrame m #[(.int p1)] 2) := by
    intro t k
    refine go0 t ?_
    show Steps _ _ _ (s₁.setTop (mkF m 0 #[.val (.int p1), .unset] [])) _
    refine XS.iloadN X0.here hx rfl (hb hby d1_0) rfl ?_
    show Steps _ _ _ (s₁.setTop (mkF m 1 #[.val (.int p1), .unset] [(.int p1)])) _
    refine XS.iconst X0.here hx rfl (hb hby d1_1) ?_
    show Steps _ _ _ (s₁.setTop (mkF m 2 #[.val (.int p1), .unset] [(.int (3 : Int32)), (.int p1)])) _
    refine XS.iand X0.here hx rfl (hb hby d1_2) rfl ?_
    show Steps _ _ _ (s₁.setTop (mkF m 3 #[.val (.int p1), .unset] [(.int (p1 &&& (3 : Int32)))])) _
    refine XS.istoreN X0.here hx rfl (hb hby d1_3) rfl (l' := #[.val (.int p1), .val (.int (p1 &&& (3 : Int32)))]) rfl ?_
    show Steps _ _ _ (s₁.setTop (mkF m 4 #[.val (.int p1), .val (.int (p1 &&& (3 : Int32)))] [])) _
    refine XS.iloadN X0.here hx rfl (hb hby d1_4) rfl ?_
    exact k
  by_cases hc5 : (p1 &&& (3 : Int32)) = (0 : Int32)
  · skip
    have go2 : Go p.tables e below s₁ (mkF m 8 #[.val (.int p1), .val (.int (p1 &&& (3 : Int32)))] []) s₁ (entryFrame m #[(.int p1)] 2) := by
      intro t k
      refine go1 t ?_
      show Steps _ _ _ (s₁.setTop (mkF m 5 #[.val (.int p1), .val (.int (p1 &&& (3 : Int32)))] [(.int (p1 &&& (3 : Int32)))])) _
      refine XS.ifNo X0.here hx rfl (hb hby d1_5) rfl ((if0 _ _).trans (teq hc5).2) ?_
      exact k
    obtain ⟨T3, X3, e3, st3⟩ := getS2 X0 hx hZ hown (host := "") (Or.inl (wk hw 35 rfl)) Via.refl e0 S_wB (g := (mkF m 8 #[.val (.int p1), .val (.int (p1 &&& (3 : Int32)))] [])) rfl (hb hby d1_8)
    have go4 : Go p.tables e below T3 (mkF m 11 #[.val (.int p1), .val (.int (p1 &&& (3 : Int32)))] [(.ref wB)]) s₁ (entryFrame m #[(.int p1)] 2) := by
      intro t k
      refine go2 t ?_
      show Steps _ _ _ (s₁.setTop (mkF m 8 #[.val (.int p1), .val (.int (p1 &&& (3 : Int32)))] [])) _
      refine st3 _ ?_
      exact k
    obtain ⟨fs, hr, hrun, hended, hW, hsame⟩ := X3.leave (v := some (.ref wB)) (fun h => by rw [Bd.returns] at h; cases h)
    refine ⟨_, _, go4 _ ?_, hrun, hended, _, _, rfl, ?_, ⟨_, rfl⟩, hW, hsame.mono (by decide) (by decide)⟩
    · exact retOut X3 hx Bd.returns rfl (Or.inr (Or.inr (Or.inr (Or.inr ⟨rfl, rfl, rfl⟩)))) (hb hby d1_11) hr
    · show QP (.ref (pk4 wB wD wF wS p1)) h0 n0 _ T3.heap _
      rw [e3]
      exact ⟨by simp only [pk4]; rw [if_pos hc5], N0, rfl⟩
  · skip
    have go5 : Go p.tables e below s₁ (mkF m 14 #[.val (.int p1), .val (.int (p1 &&& (3 : Int32)))] [(.int (1 : Int32)), (.int (p1 &&& (3 : Int32)))]) s₁ (entryFrame m #[(.int p1)] 2) := by
      intro t k
      refine go1 t ?_
      show Steps _ _ _ (s₁.setTop (mkF m 5 #[.val (.int p1), .val (.int (p1 &&& (3 : Int32)))] [(.int (p1 &&& (3 : Int32)))])) _
      refine XS.ifYes X0.here hx rfl (pc0 := 5) (pc' := 12) rfl (hb hby d1_5) rfl ((if0 _ _).trans (feq hc5).2) (by decide) (by decide) ?_
      show Steps _ _ _ (s₁.setTop (mkF m 12 #[.val (.int p1), .val (.int (p1 &&& (3 : Int32)))] [])) _
      refine XS.iloadN X0.here hx rfl (hb hby d1_12) rfl ?_
      show Steps _ _ _ (s₁.setTop (mkF m 13 #[.val (.int p1), .val (.int (p1 &&& (3 : Int32)))] [(.int (p1 &&& (3 : Int32)))])) _
      refine XS.iconst X0.here hx rfl (hb hby d1_13) ?_
      exact k
    by_cases hc14 : (p1 &&& (3 : Int32)) = (1 : Int32)
    · skip
      have go6 : Go p.tables e below s₁ (mkF m 17 #[.val (.int p1), .val (.int (p1 &&& (3 : Int32)))] []) s₁ (entryFrame m #[(.int p1)] 2) := by
        intro t k
        refine go5 t ?_
        show Steps _ _ _ (s₁.setTop (mkF m 14 #[.val (.int p1), .val (.int (p1 &&& (3 : Int32)))] [(.int (1 : Int32)), (.int (p1 &&& (3 : Int32)))])) _
        refine XS.icmpNo X0.here hx rfl (hb hby d1_14) rfl (teq hc14).2 ?_
        exact k
      obtain ⟨T7, X7, e7, st7⟩ := getS2 X0 hx hZ hown (host := "") (Or.inl (wk hw 36 rfl)) Via.refl e0 S_wD (g := (mkF m 17 #[.val (.int p1), .val (.int (p1 &&& (3 : Int32)))] [])) rfl (hb hby d1_17)
      have go8 : Go p.tables e below T7 (mkF m 20 #[.val (.int p1), .val (.int (p1 &&& (3 : Int32)))] [(.ref wD)]) s₁ (entryFrame m #[(.int p1)] 2) := by
        intro t k
        refine go6 t ?_
        show Steps _ _ _ (s₁.setTop (mkF m 17 #[.val (.int p1), .val (.int (p1 &&& (3 : Int32)))] [])) _
        refine st7 _ ?_
        exact k
      obtain ⟨fs, hr, hrun, hended, hW, hsame⟩ := X7.leave (v := some (.ref wD)) (fun h => by rw [Bd.returns] at h; cases h)
      refine ⟨_, _, go8 _ ?_, hrun, hended, _, _, rfl, ?_, ⟨_, rfl⟩, hW, hsame.mono (by decide) (by decide)⟩
      · exact retOut X7 hx Bd.returns rfl (Or.inr (Or.inr (Or.inr (Or.inr ⟨rfl, rfl, rfl⟩)))) (hb hby d1_20) hr
      · show QP (.ref (pk4 wB wD wF wS p1)) h0 n0 _ T7.heap _
        rw [e7]
        exact ⟨by simp only [pk4]; rw [if_neg hc5, if_pos hc14], N0, rfl⟩
    · skip
      have go9 : Go p.tables e below s₁ (mkF m 23 #[.val (.int p1), .val (.int (p1 &&& (3 : Int32)))] [(.int (2 : Int32)), (.int (p1 &&& (3 : Int32)))]) s₁ (entryFrame m #[(.int p1)] 2) := by
        intro t k
        refine go5 t ?_
        show Steps _ _ _ (s₁.setTop (mkF m 14 #[.val (.int p1), .val (.int (p1 &&& (3 : Int32)))] [(.int (1 : Int32)), (.int (p1 &&& (3 : Int32)))])) _
        refine XS.icmpYes X0.here hx rfl (pc0 := 14) (pc' := 21) rfl (hb hby d1_14) rfl (feq hc14).2 (by decide) (by decide) ?_
        show Steps _ _ _ (s₁.setTop (mkF m 21 #[.val (.int p1), .val (.int (p1 &&& (3 : Int32)))] [])) _
        refine XS.iloadN X0.here hx rfl (hb hby d1_21) rfl ?_
        show Steps _ _ _ (s₁.setTop (mkF m 22 #[.val (.int p1), .val (.int (p1 &&& (3 : Int32)))] [(.int (p1 &&& (3 : Int32)))])) _
        refine XS.iconst X0.here hx rfl (hb hby d1_22) ?_
        exact k
      by_cases hc23 : (p1 &&& (3 : Int32)) = (2 : Int32)
      · skip
        have go10 : Go p.tables e below s₁ (mkF m 26 #[.val (.int p1), .val (.int (p1 &&& (3 : Int32)))] []) s₁ (entryFrame m #[(.int p1)] 2) := by
          intro t k
          refine go9 t ?_
          show Steps _ _ _ (s₁.setTop (mkF m 23 #[.val (.int p1), .val (.int (p1 &&& (3 : Int32)))] [(.int (2 : Int32)), (.int (p1 &&& (3 : Int32)))])) _
          refine XS.icmpNo X0.here hx rfl (hb hby d1_23) rfl (teq hc23).2 ?_
          exact k
        obtain ⟨T11, X11, e11, st11⟩ := getS2 X0 hx hZ hown (host := "") (Or.inl (wk hw 37 rfl)) Via.refl e0 S_wF (g := (mkF m 26 #[.val (.int p1), .val (.int (p1 &&& (3 : Int32)))] [])) rfl (hb hby d1_26)
        have go12 : Go p.tables e below T11 (mkF m 29 #[.val (.int p1), .val (.int (p1 &&& (3 : Int32)))] [(.ref wF)]) s₁ (entryFrame m #[(.int p1)] 2) := by
          intro t k
          refine go10 t ?_
          show Steps _ _ _ (s₁.setTop (mkF m 26 #[.val (.int p1), .val (.int (p1 &&& (3 : Int32)))] [])) _
          refine st11 _ ?_
          exact k
        obtain ⟨fs, hr, hrun, hended, hW, hsame⟩ := X11.leave (v := some (.ref wF)) (fun h => by rw [Bd.returns] at h; cases h)
        refine ⟨_, _, go12 _ ?_, hrun, hended, _, _, rfl, ?_, ⟨_, rfl⟩, hW, hsame.mono (by decide) (by decide)⟩
        · exact retOut X11 hx Bd.returns rfl (Or.inr (Or.inr (Or.inr (Or.inr ⟨rfl, rfl, rfl⟩)))) (hb hby d1_29) hr
        · show QP (.ref (pk4 wB wD wF wS p1)) h0 n0 _ T11.heap _
          rw [e11]
          exact ⟨by simp only [pk4]; rw [if_neg hc5, if_neg hc14, if_pos hc23], N0, rfl⟩
      · skip
        have go13 : Go p.tables e below s₁ (mkF m 30 #[.val (.int p1), .val (.int (p1 &&& (3 : Int32)))] []) s₁ (entryFrame m #[(.int p1)] 2) := by
          intro t k
          refine go9 t ?_
          show Steps _ _ _ (s₁.setTop (mkF m 23 #[.val (.int p1), .val (.int (p1 &&& (3 : Int32)))] [(.int (2 : Int32)), (.int (p1 &&& (3 : Int32)))])) _
          refine XS.icmpYes X0.here hx rfl (pc0 := 23) (pc' := 30) rfl (hb hby d1_23) rfl (feq hc23).2 (by decide) (by decide) ?_
          exact k
        obtain ⟨T14, X14, e14, st14⟩ := getS2 X0 hx hZ hown (host := "") (Or.inl (wk hw 4 rfl)) Via.refl e0 S_wS (g := (mkF m 30 #[.val (.int p1), .val (.int (p1 &&& (3 : Int32)))] [])) rfl (hb hby d1_30)
        have go15 : Go p.tables e below T14 (mkF m 33 #[.val (.int p1), .val (.int (p1 &&& (3 : Int32)))] [(.ref wS)]) s₁ (entryFrame m #[(.int p1)] 2) := by
          intro t k
          refine go13 t ?_
          show Steps _ _ _ (s₁.setTop (mkF m 30 #[.val (.int p1), .val (.int (p1 &&& (3 : Int32)))] [])) _
          refine st14 _ ?_
          exact k
        obtain ⟨fs, hr, hrun, hended, hW, hsame⟩ := X14.leave (v := some (.ref wS)) (fun h => by rw [Bd.returns] at h; cases h)
        refine ⟨_, _, go15 _ ?_, hrun, hended, _, _, rfl, ?_, ⟨_, rfl⟩, hW, hsame.mono (by decide) (by decide)⟩
        · exact retOut X14 hx Bd.returns rfl (Or.inr (Or.inr (Or.inr (Or.inr ⟨rfl, rfl, rfl⟩)))) (hb hby d1_33) hr
        · show QP (.ref (pk4 wB wD wF wS p1)) h0 n0 _ T14.heap _
          rw [e14]
          exact ⟨by simp only [pk4]; rw [if_neg hc5, if_neg hc14, if_neg hc23], N0, rfl⟩
theorem pn_2 : plainName "com/example/sketcher/sketcher/io/SketchFamily" = true := by first | (simp [plainName, overriddenIn]; done) | decide +kernel
theorem ef_2 (m : MethodId) (x0 : Addr) : entryFrame m #[(.ref x0)] 1 = mkF m 0 #[.val (.ref x0)] [] := by first | (simp [entryFrame, mkF, argsToLocals, Value.category]; done) | rfl
theorem d2_0 : decode prog_26_method_4_code 0 = .ok (.aload_n 0, 1) := by decide +kernel
theorem d2_1 : decode prog_26_method_4_code 1 = .ok (.getfield 35, 3) := by decide +kernel
theorem d2_4 : decode prog_26_method_4_code 4 = .ok (.ireturn, 1) := by decide +kernel
set_option maxRecDepth 65536 in
set_option maxHeartbeats 40000000 in
theorem rm2 (l : Launch) (Z : State) (a0 : Array Value) (hw : ∀ d ∈ tables_1, d.before a0 Z = true) (ws : List Jvm.Cond) (a1 : Addr) (k : Int32) (h0 : Heap) (n0 : Nat) (Z0 : n0 ≤ h0.size) (F_a1 : Fld Z h0 a1 "com/example/sketcher/sketcher/io/SketchFamily" "code" "I" (.int k)) :
    MetFree l (⟨"com/example/sketcher/sketcher/io/SketchFamily", "code", "()I"⟩ : MethodName) (head1 (Jvm.Cond.code (⟨"com/example/sketcher/sketcher/io/SketchFamily", "code", "()I"⟩ : MethodName) prog_26_method_4_code 1 (some .int) :: ws) ({ frames := 0, cells := 0, slots := 0, locals := 0 } : Room)) (fun a U => a = #[(.ref a1)] ∧ Z.Warmed39 U.vm ∧ U.heap = h0) (fun _ _ _ _ _ => True) (fun _ U o U' => ∃ v L, o = .returned v ∧ QP (.int k) h0 n0 v U'.heap L ∧ FrameEnd U o U' L ({ frames := 0, cells := 0, slots := 0, locals := 0 } : Room).cells ({ frames := 0, cells := 0, slots := 0, locals := 0 } : Room).slots) := by
  refine MetFree.of_bodySF (plainFor_of_name pn_2) hisR ?_
  intro p e s m args below meth c s₁ Bd hml0 hP hK
  obtain ⟨rfl, hZ, hh⟩ := hP
  have hx := Bd.exec
  have hby := Bd.bytes
  have hml : c.maxLocals = 1 := hml0
  have hown : s.vm.findClass "com/example/sketcher/sketcher/io/SketchFamily" = some m.cls := findClass_of_methodNamed Bd.named
  have hnm := (name_of_methodNamed Bd.named Bd.method).1
  have X0 : Stand p l e ({ frames := 0, cells := 0, slots := 0, locals := 0 } : Room) s m #[(.ref a1)] below meth c s₁ [] 0 0 := Stand.of_body Bd
  have e0 : s₁.heap = h0 := by rw [← hh, Bd.state]; rfl
  have N0 := Fr.nil n0
  have go0 : Go p.tables e below s₁ (mkF m 0 #[.val (.ref a1)] []) s₁ (entryFrame m #[(.ref a1)] 1) := fun t k => castTop (ef_2 m a1) k
  have go1 : Go p.tables e below s₁ (mkF m 1 #[.val (.ref a1)] [(.ref a1)]) s₁ (entryFrame m #[(.ref a1)] 1) := by
    intro t k
    refine go0 t ?_
    show Steps _ _ _ (s₁.setTop (mkF m 0 #[.val (.ref a1)] [])) _
    refine XS.aloadN X0.here hx rfl (hb hby d2_0) rfl rfl ?_
    exact k
  obtain ⟨T2, X2, e2, st2⟩ := getF X0 hx hZ hown (host := "") (Or.inl (wk hw 12 rfl)) Via.refl e0 F_a1 (g := (mkF m 1 #[.val (.ref a1)] [(.ref a1)])) rfl rfl (hb hby d2_1)
  have go3 : Go p.tables e below T2 (mkF m 4 #[.val (.ref a1)] [(.int k)]) s₁ (entryFrame m #[(.ref a1)] 1) := by
    intro t k
    refine go1 t ?_
    show Steps _ _ _ (s₁.setTop (mkF m 1 #[.val (.ref a1)] [(.ref a1)])) _
    refine st2 _ ?_
    exact k
  obtain ⟨fs, hr, hrun, hended, hW, hsame⟩ := X2.leave (v := some (.int k)) (fun h => by rw [Bd.returns] at h; cases h)
  refine ⟨_, _, go3 _ ?_, hrun, hended, _, _, rfl, ?_, ⟨_, rfl⟩, hW, hsame.mono (by decide) (by decide)⟩
  · exact retI X2 hx Bd.returns (hb hby d2_4) hr
  · show QP (.int k) h0 n0 _ T2.heap _
    rw [e2]
    exact ⟨rfl, N0, rfl⟩
theorem pn_4 : plainName "com/example/sketcher/sketcher/io/SketchFamily" = true := by first | (simp [plainName, overriddenIn]; done) | decide +kernel
theorem ef_4 (m : MethodId)  : entryFrame m #[] 0 = mkF m 0 #[] [] := by first | (simp [entryFrame, mkF, argsToLocals, Value.category]; done) | rfl
theorem d4_0 : decode prog_26_method_1_code 0 = .ok (.getstatic 16, 3) := by decide +kernel
theorem d4_3 : decode prog_26_method_1_code 3 = .ok (.invokevirtual 20, 3) := by decide +kernel
theorem d4_6 : decode prog_26_method_1_code 6 = .ok (.checkcast 21, 3) := by decide +kernel
theorem d4_9 : decode prog_26_method_1_code 9 = .ok (.areturn, 1) := by decide +kernel
set_option maxRecDepth 65536 in
set_option maxHeartbeats 40000000 in
theorem rm4 (l : Launch) (Z : State) (a0 : Array Value) (hw : ∀ d ∈ tables_1, d.before a0 Z = true) (ws : List Jvm.Cond) (wV : Addr) (cl : Cell) (h0 : Heap) (n0 : Nat) (Z0 : n0 ≤ h0.size) (S_V : Sta Z h0 "com/example/sketcher/sketcher/io/SketchFamily" "$VALUES" "[Lcom/example/sketcher/sketcher/io/SketchFamily;" (.ref wV)) (Ar : Arr Z h0 wV cl (.object "com/example/sketcher/sketcher/io/SketchFamily")) (E_V : Exa Z h0 wV "[Lcom/example/sketcher/sketcher/io/SketchFamily;") (FC : FitC Z cl) (hsz : cl.slots.size = 4) :
    MetFree l (⟨"com/example/sketcher/sketcher/io/SketchFamily", "values", "()[Lcom/example/sketcher/sketcher/io/SketchFamily;"⟩ : MethodName) (head1 (Jvm.Cond.code (⟨"com/example/sketcher/sketcher/io/SketchFamily", "values", "()[Lcom/example/sketcher/sketcher/io/SketchFamily;"⟩ : MethodName) prog_26_method_1_code 0 (some (.array (.object "com/example/sketcher/sketcher/io/SketchFamily"))) :: ws) ({ frames := 1, cells := 1, slots := 4, locals := 14 } : Room)) (fun a U => a = #[] ∧ Z.Warmed39 U.vm ∧ U.heap = h0) (fun _ _ _ _ _ => True) (fun _ U o U' => ∃ v L, o = .returned v ∧ QA Z cl h0 n0 v U'.heap L ∧ FrameEnd U o U' L ({ frames := 1, cells := 1, slots := 4, locals := 14 } : Room).cells ({ frames := 1, cells := 1, slots := 4, locals := 14 } : Room).slots) := by
  refine MetFree.of_bodySF (plainFor_of_name pn_4) hisR ?_
  intro p e s m args below meth c s₁ Bd hml0 hP hK
  obtain ⟨rfl, hZ, hh⟩ := hP
  have hx := Bd.exec
  have hby := Bd.bytes
  have hml : c.maxLocals = 0 := hml0
  have hown : s.vm.findClass "com/example/sketcher/sketcher/io/SketchFamily" = some m.cls := findClass_of_methodNamed Bd.named
  have hnm := (name_of_methodNamed Bd.named Bd.method).1
  have X0 : Stand p l e ({ frames := 1, cells := 1, slots := 4, locals := 14 } : Room) s m #[] below meth c s₁ [] 0 0 := Stand.of_body Bd
  have e0 : s₁.heap = h0 := by rw [← hh, Bd.state]; rfl
  have N0 := Fr.nil n0
  have go0 : Go p.tables e below s₁ (mkF m 0 #[] []) s₁ (entryFrame m #[] 0) := fun t k => castTop (ef_4 m ) k
  obtain ⟨T1, X1, e1, st1⟩ := getS2 X0 hx hZ hown (host := "") (Or.inl (wk hw 20 rfl)) Via.refl e0 S_V (g := (mkF m 0 #[] [])) rfl (hb hby d4_0)
  have go3 : Go p.tables e below T1 (mkF m 3 #[] [(.ref wV)]) s₁ (entryFrame m #[] 0) := by
    intro t k
    refine go0 t ?_
    show Steps _ _ _ (s₁.setTop (mkF m 0 #[] [])) _
    refine st1 _ ?_
    exact k
  obtain ⟨T4, h4, X4, e4, E4, A4, Ex4, st4⟩ := cloneA X1 hx hZ hown (wk hw 22 rfl) (wk hw 23 rfl) (wk hw 27 rfl) (wk hw 25 rfl) (wk hw 26 rfl) (wk hw 28 rfl) e1 Ar E_V FC (g := (mkF m 3 #[] [(.ref wV)])) rfl (by rw [hml]; rfl) rfl (hb hby d4_3) (by decide) (W := 0) (cap := 4) (by show 2 * 0 + _ ≤ _; exact Nat.le_of_eq rfl) (by decide) (Nat.le_of_eq hsz) (by decide) (by decide)
  obtain ⟨b2, g4⟩ : ∃ z, z = h0.size := ⟨_, rfl⟩
  rw [← g4] at A4 Ex4 st4
  have g_b2 : n0 ≤ b2 := Nat.le_trans Z0 (Nat.le_of_eq g4.symm)
  have sz_b2 : h0.size ≤ b2 := Nat.le_trans (Keep.refl h0 []).1 (Nat.le_of_eq g4.symm)
  have go5 : Go p.tables e below T4 (mkF m 6 #[] [(.ref b2)]) s₁ (entryFrame m #[] 0) := by
    intro t k
    refine go3 t ?_
    show Steps _ _ _ (T1.setTop (mkF m 3 #[] [(.ref wV)])) _
    refine st4 _ ?_
    exact k
  obtain ⟨T6, X6, e6, st6⟩ := castY X4 hx hZ hown (wk hw 33 rfl) e4 (Ins.self Ex4) (g := (mkF m 6 #[] [(.ref b2)])) rfl rfl (hb hby d4_6)
  have go7 : Go p.tables e below T6 (mkF m 9 #[] [(.ref b2)]) s₁ (entryFrame m #[] 0) := by
    intro t k
    refine go5 t ?_
    show Steps _ _ _ (T4.setTop (mkF m 6 #[] [(.ref b2)])) _
    refine st6 _ ?_
    exact k
  have f8 : Keep h0 h4 [] := ((Keep.refl h0 []).ext E4)
  obtain ⟨fs, hr, hrun, hended, hW, hsame⟩ := X6.leave (v := some (.ref b2)) (fun h => by rw [Bd.returns] at h; cases h)
  refine ⟨_, _, go7 _ ?_, hrun, hended, _, _, rfl, ?_, ⟨_, rfl⟩, hW, hsame.mono (by decide) (by decide)⟩
  · exact retOut X6 hx Bd.returns rfl (Or.inr (Or.inr (Or.inr (Or.inr ⟨rfl, rfl, rfl⟩)))) (hb hby d4_9) hr
  · show QA Z cl h0 n0 _ T6.heap _
    rw [e6]
    exact ⟨b2, rfl, N0, f8, A4⟩
theorem pn_3 : plainName "com/example/sketcher/sketcher/io/SketchFamily" = true := by first | (simp [plainName, overriddenIn]; done) | decide +kernel
theorem ef_3 (m : MethodId) (x0 : Int32) : entryFrame m #[(.int x0)] 6 = mkF m 0 #[.val (.int x0), .unset, .unset, .unset, .unset, .unset] [] := by first | (simp [entryFrame, mkF, argsToLocals, Value.category]; done) | rfl
theorem d3_0 : decode prog_26_method_7_code 0 = .ok (.aconst_null, 1) := by decide +kernel
theorem d3_1 : decode prog_26_method_7_code 1 = .ok (.astore_n 1, 1) := by decide +kernel
theorem d3_2 : decode prog_26_method_7_code 2 = .ok (.invokestatic 46, 3) := by decide +kernel
theorem pd_0 : parseMethodDescriptor "()[Lcom/example/sketcher/sketcher/io/SketchFamily;" = some ⟨[], some (.array (.object "com/example/sketcher/sketcher/io/SketchFamily"))⟩ := by decide +kernel
theorem d3_5 : decode prog_26_method_7_code 5 = .ok (.astore_n 2, 1) := by decide +kernel
theorem d3_6 : decode prog_26_method_7_code 6 = .ok (.aload_n 2, 1) := by decide +kernel
theorem d3_7 : decode prog_26_method_7_code 7 = .ok (.arraylength, 1) := by decide +kernel
theorem d3_8 : decode prog_26_method_7_code 8 = .ok (.istore_n 3, 1) := by decide +kernel
theorem d3_9 : decode prog_26_method_7_code 9 = .ok (.iconst 0, 1) := by decide +kernel
theorem d3_10 : decode prog_26_method_7_code 10 = .ok (.istore 4, 2) := by decide +kernel
theorem d3_12 : decode prog_26_method_7_code 12 = .ok (.iload 4, 2) := by decide +kernel
theorem d3_14 : decode prog_26_method_7_code 14 = .ok (.iload_n 3, 1) := by decide +kernel
theorem d3_15 : decode prog_26_method_7_code 15 = .ok (.if_icmp .ge 30, 3) := by decide +kernel
theorem d3_18 : decode prog_26_method_7_code 18 = .ok (.aload_n 2, 1) := by decide +kernel
theorem d3_19 : decode prog_26_method_7_code 19 = .ok (.iload 4, 2) := by decide +kernel
theorem d3_21 : decode prog_26_method_7_code 21 = .ok (.aaload, 1) := by decide +kernel
theorem d3_22 : decode prog_26_method_7_code 22 = .ok (.astore 5, 2) := by decide +kernel
theorem d3_24 : decode prog_26_method_7_code 24 = .ok (.aload 5, 2) := by decide +kernel
theorem d3_26 : decode prog_26_method_7_code 26 = .ok (.getfield 35, 3) := by decide +kernel
theorem d3_29 : decode prog_26_method_7_code 29 = .ok (.iload_n 0, 1) := by decide +kernel
theorem d3_30 : decode prog_26_method_7_code 30 = .ok (.if_icmp .ne 9, 3) := by decide +kernel
theorem d3_33 : decode prog_26_method_7_code 33 = .ok (.aload 5, 2) := by decide +kernel
theorem d3_35 : decode prog_26_method_7_code 35 = .ok (.astore_n 1, 1) := by decide +kernel
theorem d3_36 : decode prog_26_method_7_code 36 = .ok (.goto 9, 3) := by decide +kernel
theorem d3_45 : decode prog_26_method_7_code 45 = .ok (.aload_n 1, 1) := by decide +kernel
theorem d3_46 : decode prog_26_method_7_code 46 = .ok (.areturn, 1) := by decide +kernel
theorem d3_39 : decode prog_26_method_7_code 39 = .ok (.iinc 4 1, 3) := by decide +kernel
theorem d3_42 : decode prog_26_method_7_code 42 = .ok (.goto (-30), 3) := by decide +kernel
set_option maxRecDepth 65536 in
set_option maxHeartbeats 40000000 in
theorem rm3 (l : Launch) (Z : State) (a0 : Array Value) (hw : ∀ d ∈ tables_1, d.before a0 Z = true) (ws : List Jvm.Cond) (p1 : Int32) (wB wD wF wS : Addr) (wV : Addr) (cl : Cell) (h0 : Heap) (n0 : Nat) (Z0 : n0 ≤ h0.size) (F_wB : Fld Z h0 wB "com/example/sketcher/sketcher/io/SketchFamily" "code" "I" (.int (1 : Int32))) (F_wD : Fld Z h0 wD "com/example/sketcher/sketcher/io/SketchFamily" "code" "I" (.int (2 : Int32))) (F_wF : Fld Z h0 wF "com/example/sketcher/sketcher/io/SketchFamily" "code" "I" (.int (3 : Int32))) (F_wS : Fld Z h0 wS "com/example/sketcher/sketcher/io/SketchFamily" "code" "I" (.int (4 : Int32))) (S_V : Sta Z h0 "com/example/sketcher/sketcher/io/SketchFamily" "$VALUES" "[Lcom/example/sketcher/sketcher/io/SketchFamily;" (.ref wV)) (Ar : Arr Z h0 wV cl (.object "com/example/sketcher/sketcher/io/SketchFamily")) (E_V : Exa Z h0 wV "[Lcom/example/sketcher/sketcher/io/SketchFamily;") (FC : FitC Z cl) (hsz : cl.slots.size = 4) (hlen : (cloneOf cl).slots.size.toInt32 = (4 : Int32)) (hin : ∀ j : Int32, ¬ j < 0 → j < 4 → ¬ (j < 0 ∨ (cloneOf cl).slots.size ≤ j.toNatClampNeg)) (hat0 : cl.slots[(0 : Int32).toNatClampNeg]? = some (.ref wB)) (hat1 : cl.slots[(1 : Int32).toNatClampNeg]? = some (.ref wD)) (hat2 : cl.slots[(2 : Int32).toNatClampNeg]? = some (.ref wF)) (hat3 : cl.slots[(3 : Int32).toNatClampNeg]? = some (.ref wS)) :
    MetFree l (⟨"com/example/sketcher/sketcher/io/SketchFamily", "ofCode", "(I)Lcom/example/sketcher/sketcher/io/SketchFamily;"⟩ : MethodName) (head1 (Jvm.Cond.code (⟨"com/example/sketcher/sketcher/io/SketchFamily", "ofCode", "(I)Lcom/example/sketcher/sketcher/io/SketchFamily;"⟩ : MethodName) prog_26_method_7_code 6 (some (.object "com/example/sketcher/sketcher/io/SketchFamily")) :: ws) ({ frames := 2, cells := 1, slots := 4, locals := 25 } : Room)) (fun a U => a = #[(.int p1)] ∧ Z.Warmed39 U.vm ∧ U.heap = h0) (fun _ _ _ _ _ => True) (fun _ U o U' => ∃ v L, o = .returned v ∧ QR (ofc wB wD wF wS p1) h0 n0 v U'.heap L ∧ FrameEnd U o U' L ({ frames := 2, cells := 1, slots := 4, locals := 25 } : Room).cells ({ frames := 2, cells := 1, slots := 4, locals := 25 } : Room).slots) := by
  refine MetFree.of_bodySF (plainFor_of_name pn_3) hisR ?_
  intro p e s m args below meth c s₁ Bd hml0 hP hK
  obtain ⟨rfl, hZ, hh⟩ := hP
  have hx := Bd.exec
  have hby := Bd.bytes
  have hml : c.maxLocals = 6 := hml0
  have hown : s.vm.findClass "com/example/sketcher/sketcher/io/SketchFamily" = some m.cls := findClass_of_methodNamed Bd.named
  have hnm := (name_of_methodNamed Bd.named Bd.method).1
  have X0 : Stand p l e ({ frames := 2, cells := 1, slots := 4, locals := 25 } : Room) s m #[(.int p1)] below meth c s₁ [] 0 0 := Stand.of_body Bd
  have e0 : s₁.heap = h0 := by rw [← hh, Bd.state]; rfl
  have N0 := Fr.nil n0
  have go0 : Go p.tables e below s₁ (mkF m 0 #[.val (.int p1), .unset, .unset, .unset, .unset, .unset] []) s₁ (entryFrame m #[(.int p1)] 6) := fun t k => castTop (ef_3 m p1) k
  have go2 : Go p.tables e below s₁ (mkF m 2 #[.val (.int p1), .val .null, .unset, .unset, .unset, .unset] []) s₁ (entryFrame m #[(.int p1)] 6) := by
    intro t k
    refine go0 t ?_
    show Steps _ _ _ (s₁.setTop (mkF m 0 #[.val (.int p1), .unset, .unset, .unset, .unset, .unset] [])) _
    refine XS.aconstNull X0.here hx rfl (hb hby d3_0) ?_
    show Steps _ _ _ (s₁.setTop (mkF m 1 #[.val (.int p1), .unset, .unset, .unset, .unset, .unset] [.null])) _
    refine XS.astoreN X0.here hx rfl (hb hby d3_1) rfl rfl (l' := #[.val (.int p1), .val .null, .unset, .unset, .unset, .unset]) rfl ?_
    exact k
  obtain ⟨_, _, ⟨T1, L1, k1, n1⟩, -, X1, ⟨Lc1, hQ1, l1, y1, z1⟩, st1⟩ := Jvm.LawKit.callS X0 hx (y := (⟨"com/example/sketcher/sketcher/io/SketchFamily", "values", "()[Lcom/example/sketcher/sketcher/io/SketchFamily;"⟩ : MethodName)) hown (mvT hZ (wk hw 17 rfl)) (mvT hZ (wk hw 18 rfl)) (mvT hZ (wk hw 5 rfl)) (mvT hZ (wk hw 19 rfl)) (by decide) (backOf (W := 0) (rm4 l Z a0 hw [] wV cl h0 n0 Z0 S_V Ar E_V FC hsz) hZ (wk hw 19 rfl) (wk hw 5 rfl) (by decide) (by decide)) (g := (mkF m 2 #[.val (.int p1), .val .null, .unset, .unset, .unset, .unset] [])) rfl (by rw [hml]; rfl) (argsL := []) (rest := []) (lenOf pd_0 rfl) rfl (by show 2 * 0 + _ ≤ _; exact Nat.le_of_eq rfl) (hb hby d3_2) (fun _ _ => ⟨rfl, e0, (by decide : 0 + 1 ≤ _), (by decide : 0 + 4 ≤ _)⟩)
  dsimp only [Pt.U, Pt.locs, Pt.cells, Pt.slots] at X1 l1 y1 z1 st1 hQ1
  subst l1 y1 z1
  obtain ⟨b1, rfl, N1q, K1, Ab1⟩ := hQ1
  have N1 := Fr.app N0 N1q
  have go4 : Go p.tables e below T1 (mkF m 26 #[.val (.int p1), .val .null, .val (.ref b1), .val (.int (4 : Int32)), .val (.int (0 : Int32)), .val (.ref wB)] [(.ref wB)]) s₁ (entryFrame m #[(.int p1)] 6) := by
    intro t k
    refine go2 t ?_
    show Steps _ _ _ (s₁.setTop (mkF m 2 #[.val (.int p1), .val .null, .unset, .unset, .unset, .unset] [])) _
    refine st1 _ ?_
    show Steps _ _ _ (T1.setTop (mkF m 5 #[.val (.int p1), .val .null, .unset, .unset, .unset, .unset] [(.ref b1)])) _
    refine XS.astoreN X1.here hx rfl (hb hby d3_5) rfl rfl (l' := #[.val (.int p1), .val .null, .val (.ref b1), .unset, .unset, .unset]) rfl ?_
    show Steps _ _ _ (T1.setTop (mkF m 6 #[.val (.int p1), .val .null, .val (.ref b1), .unset, .unset, .unset] [])) _
    refine XS.aloadN X1.here hx rfl (hb hby d3_6) rfl rfl ?_
    show Steps _ _ _ (T1.setTop (mkF m 7 #[.val (.int p1), .val .null, .val (.ref b1), .unset, .unset, .unset] [(.ref b1)])) _
    refine X1.arraylength hx Ab1.1 (State.isArrayOf_alike hZ.alike Ab1.2.1) (g := (mkF m 7 #[.val (.int p1), .val .null, .val (.ref b1), .unset, .unset, .unset] [(.ref b1)])) rfl rfl (hb hby d3_7) _ ?_
    rw [hlen]
    show Steps _ _ _ (T1.setTop (mkF m 8 #[.val (.int p1), .val .null, .val (.ref b1), .unset, .unset, .unset] [(.int (4 : Int32))])) _
    refine XS.istoreN X1.here hx rfl (hb hby d3_8) rfl (l' := #[.val (.int p1), .val .null, .val (.ref b1), .val (.int (4 : Int32)), .unset, .unset]) rfl ?_
    show Steps _ _ _ (T1.setTop (mkF m 9 #[.val (.int p1), .val .null, .val (.ref b1), .val (.int (4 : Int32)), .unset, .unset] [])) _
    refine XS.iconst X1.here hx rfl (hb hby d3_9) ?_
    show Steps _ _ _ (T1.setTop (mkF m 10 #[.val (.int p1), .val .null, .val (.ref b1), .val (.int (4 : Int32)), .unset, .unset] [(.int (0 : Int32))])) _
    refine XS.istore X1.here hx rfl (hb hby d3_10) rfl (l' := #[.val (.int p1), .val .null, .val (.ref b1), .val (.int (4 : Int32)), .val (.int (0 : Int32)), .unset]) rfl ?_
    show Steps _ _ _ (T1.setTop (mkF m 12 #[.val (.int p1), .val .null, .val (.ref b1), .val (.int (4 : Int32)), .val (.int (0 : Int32)), .unset] [])) _
    refine XS.iload X1.here hx rfl (hb hby d3_12) rfl ?_
    show Steps _ _ _ (T1.setTop (mkF m 14 #[.val (.int p1), .val .null, .val (.ref b1), .val (.int (4 : Int32)), .val (.int (0 : Int32)), .unset] [(.int (0 : Int32))])) _
    refine XS.iloadN X1.here hx rfl (hb hby d3_14) rfl ?_
    show Steps _ _ _ (T1.setTop (mkF m 15 #[.val (.int p1), .val .null, .val (.ref b1), .val (.int (4 : Int32)), .val (.int (0 : Int32)), .unset] [(.int (4 : Int32)), (.int (0 : Int32))])) _
    refine XS.icmpNo X1.here hx rfl (hb hby d3_15) rfl (tlt (by decide)).2.1 ?_
    show Steps _ _ _ (T1.setTop (mkF m 18 #[.val (.int p1), .val .null, .val (.ref b1), .val (.int (4 : Int32)), .val (.int (0 : Int32)), .unset] [])) _
    refine XS.aloadN X1.here hx rfl (hb hby d3_18) rfl rfl ?_
    show Steps _ _ _ (T1.setTop (mkF m 19 #[.val (.int p1), .val .null, .val (.ref b1), .val (.int (4 : Int32)), .val (.int (0 : Int32)), .unset] [(.ref b1)])) _
    refine XS.iload X1.here hx rfl (hb hby d3_19) rfl ?_
    show Steps _ _ _ (T1.setTop (mkF m 21 #[.val (.int p1), .val .null, .val (.ref b1), .val (.int (4 : Int32)), .val (.int (0 : Int32)), .unset] [(.int (0 : Int32)), (.ref b1)])) _
    refine X1.aaload hx (j := (0 : Int32)) (v := (.ref wB)) Ab1.1 (State.isArrayOf_alike hZ.alike Ab1.2.1) rfl Ab1.2.2 (hin (0 : Int32) (by decide) (by decide)) hat0 (g := (mkF m 21 #[.val (.int p1), .val .null, .val (.ref b1), .val (.int (4 : Int32)), .val (.int (0 : Int32)), .unset] [(.int (0 : Int32)), (.ref b1)])) rfl rfl (hb hby d3_21) _ ?_
    show Steps _ _ _ (T1.setTop (mkF m 22 #[.val (.int p1), .val .null, .val (.ref b1), .val (.int (4 : Int32)), .val (.int (0 : Int32)), .unset] [(.ref wB)])) _
    refine XS.astore X1.here hx rfl (hb hby d3_22) rfl rfl (l' := #[.val (.int p1), .val .null, .val (.ref b1), .val (.int (4 : Int32)), .val (.int (0 : Int32)), .val (.ref wB)]) rfl ?_
    show Steps _ _ _ (T1.setTop (mkF m 24 #[.val (.int p1), .val .null, .val (.ref b1), .val (.int (4 : Int32)), .val (.int (0 : Int32)), .val (.ref wB)] [])) _
    refine XS.aload X1.here hx rfl (hb hby d3_24) rfl rfl ?_
    exact k
  have f3 : Fld Z T1.heap wB "com/example/sketcher/sketcher/io/SketchFamily" "code" "I" (.int (1 : Int32)) := (F_wB.keep K1 nin0)
  obtain ⟨T5, X5, e5, st5⟩ := getF X1 hx hZ hown (host := "") (Or.inl (wk hw 12 rfl)) Via.refl rfl f3 (g := (mkF m 26 #[.val (.int p1), .val .null, .val (.ref b1), .val (.int (4 : Int32)), .val (.int (0 : Int32)), .val (.ref wB)] [(.ref wB)])) rfl rfl (hb hby d3_26)
  have go6 : Go p.tables e below T5 (mkF m 30 #[.val (.int p1), .val .null, .val (.ref b1), .val (.int (4 : Int32)), .val (.int (0 : Int32)), .val (.ref wB)] [(.int p1), (.int (1 : Int32))]) s₁ (entryFrame m #[(.int p1)] 6) := by
    intro t k
    refine go4 t ?_
    show Steps _ _ _ (T1.setTop (mkF m 26 #[.val (.int p1), .val .null, .val (.ref b1), .val (.int (4 : Int32)), .val (.int (0 : Int32)), .val (.ref wB)] [(.ref wB)])) _
    refine st5 _ ?_
    show Steps _ _ _ (T5.setTop (mkF m 29 #[.val (.int p1), .val .null, .val (.ref b1), .val (.int (4 : Int32)), .val (.int (0 : Int32)), .val (.ref wB)] [(.int (1 : Int32))])) _
    refine XS.iloadN X5.here hx rfl (hb hby d3_29) rfl ?_
    exact k
  by_cases hc30 : (1 : Int32) = p1
  · skip
    have go7 : Go p.tables e below T5 (mkF m 46 #[.val (.int p1), .val (.ref wB), .val (.ref b1), .val (.int (4 : Int32)), .val (.int (0 : Int32)), .val (.ref wB)] [(.ref wB)]) s₁ (entryFrame m #[(.int p1)] 6) := by
      intro t k
      refine go6 t ?_
      show Steps _ _ _ (T5.setTop (mkF m 30 #[.val (.int p1), .val .null, .val (.ref b1), .val (.int (4 : Int32)), .val (.int (0 : Int32)), .val (.ref wB)] [(.int p1), (.int (1 : Int32))])) _
      refine XS.icmpNo X5.here hx rfl (hb hby d3_30) rfl (teq hc30).2 ?_
      show Steps _ _ _ (T5.setTop (mkF m 33 #[.val (.int p1), .val .null, .val (.ref b1), .val (.int (4 : Int32)), .val (.int (0 : Int32)), .val (.ref wB)] [])) _
      refine XS.aload X5.here hx rfl (hb hby d3_33) rfl rfl ?_
      show Steps _ _ _ (T5.setTop (mkF m 35 #[.val (.int p1), .val .null, .val (.ref b1), .val (.int (4 : Int32)), .val (.int (0 : Int32)), .val (.ref wB)] [(.ref wB)])) _
      refine XS.astoreN X5.here hx rfl (hb hby d3_35) rfl rfl (l' := #[.val (.int p1), .val (.ref wB), .val (.ref b1), .val (.int (4 : Int32)), .val (.int (0 : Int32)), .val (.ref wB)]) rfl ?_
      show Steps _ _ _ (T5.setTop (mkF m 36 #[.val (.int p1), .val (.ref wB), .val (.ref b1), .val (.int (4 : Int32)), .val (.int (0 : Int32)), .val (.ref wB)] [])) _
      refine XS.goto X5.here hx rfl (pc0 := 36) (pc' := 45) rfl (hb hby d3_36) (by decide) (by decide) ?_
      show Steps _ _ _ (T5.setTop (mkF m 45 #[.val (.int p1), .val (.ref wB), .val (.ref b1), .val (.int (4 : Int32)), .val (.int (0 : Int32)), .val (.ref wB)] [])) _
      refine XS.aloadN X5.here hx rfl (hb hby d3_45) rfl rfl ?_
      exact k
    have f8 : Keep h0 T1.heap [] := ((Keep.refl h0 []).trans K1 all0)
    obtain ⟨fs, hr, hrun, hended, hW, hsame⟩ := X5.leave (v := some (.ref wB)) (fun h => by rw [Bd.returns] at h; cases h)
    refine ⟨_, _, go7 _ ?_, hrun, hended, _, _, rfl, ?_, ⟨_, rfl⟩, hW, hsame.mono (by decide) (by decide)⟩
    · exact retOut X5 hx Bd.returns rfl (Or.inr (Or.inr (Or.inr (Or.inr ⟨rfl, rfl, rfl⟩)))) (hb hby d3_46) hr
    · show QR (ofc wB wD wF wS p1) h0 n0 _ T5.heap _
      rw [e5]
      exact ⟨by simp only [ofc]; rw [if_pos hc30], N1, f8⟩
  · skip
    have go10 : Go p.tables e below T5 (mkF m 26 #[.val (.int p1), .val .null, .val (.ref b1), .val (.int (4 : Int32)), .val (.int (1 : Int32)), .val (.ref wD)] [(.ref wD)]) s₁ (entryFrame m #[(.int p1)] 6) := by
      intro t k
      refine go6 t ?_
      show Steps _ _ _ (T5.setTop (mkF m 30 #[.val (.int p1), .val .null, .val (.ref b1), .val (.int (4 : Int32)), .val (.int (0 : Int32)), .val (.ref wB)] [(.int p1), (.int (1 : Int32))])) _
      refine XS.icmpYes X5.here hx rfl (pc0 := 30) (pc' := 39) rfl (hb hby d3_30) rfl (feq hc30).2 (by decide) (by decide) ?_
      show Steps _ _ _ (T5.setTop (mkF m 39 #[.val (.int p1), .val .null, .val (.ref b1), .val (.int (4 : Int32)), .val (.int (0 : Int32)), .val (.ref wB)] [])) _
      refine XS.iinc X5.here hx rfl (hb hby d3_39) rfl (l' := #[.val (.int p1), .val .null, .val (.ref b1), .val (.int (4 : Int32)), .val (.int (1 : Int32)), .val (.ref wB)]) rfl ?_
      show Steps _ _ _ (T5.setTop (mkF m 42 #[.val (.int p1), .val .null, .val (.ref b1), .val (.int (4 : Int32)), .val (.int (1 : Int32)), .val (.ref wB)] [])) _
      refine XS.goto X5.here hx rfl (pc0 := 42) (pc' := 12) rfl (hb hby d3_42) (by decide) (by decide) ?_
      show Steps _ _ _ (T5.setTop (mkF m 12 #[.val (.int p1), .val .null, .val (.ref b1), .val (.int (4 : Int32)), .val (.int (1 : Int32)), .val (.ref wB)] [])) _
      refine XS.iload X5.here hx rfl (hb hby d3_12) rfl ?_
      show Steps _ _ _ (T5.setTop (mkF m 14 #[.val (.int p1), .val .null, .val (.ref b1), .val (.int (4 : Int32)), .val (.int (1 : Int32)), .val (.ref wB)] [(.int (1 : Int32))])) _
      refine XS.iloadN X5.here hx rfl (hb hby d3_14) rfl ?_
      show Steps _ _ _ (T5.setTop (mkF m 15 #[.val (.int p1), .val .null, .val (.ref b1), .val (.int (4 : Int32)), .val (.int (1 : Int32)), .val (.ref wB)] [(.int (4 : Int32)), (.int (1 : Int32))])) _
      refine XS.icmpNo X5.here hx rfl (hb hby d3_15) rfl (tlt (by decide)).2.1 ?_
      show Steps _ _ _ (T5.setTop (mkF m 18 #[.val (.int p1), .val .null, .val (.ref b1), .val (.int (4 : Int32)), .val (.int (1 : Int32)), .val (.ref wB)] [])) _
      refine XS.aloadN X5.here hx rfl (hb hby d3_18) rfl rfl ?_
      show Steps _ _ _ (T5.setTop (mkF m 19 #[.val (.int p1), .val .null, .val (.ref b1), .val (.int (4 : Int32)), .val (.int (1 : Int32)), .val (.ref wB)] [(.ref b1)])) _
      refine XS.iload X5.here hx rfl (hb hby d3_19) rfl ?_
      show Steps _ _ _ (T5.setTop (mkF m 21 #[.val (.int p1), .val .null, .val (.ref b1), .val (.int (4 : Int32)), .val (.int (1 : Int32)), .val (.ref wB)] [(.int (1 : Int32)), (.ref b1)])) _
      refine X5.aaload hx (j := (1 : Int32)) (v := (.ref wD)) (by rw [e5]; exact Ab1.1) (State.isArrayOf_alike hZ.alike Ab1.2.1) rfl Ab1.2.2 (hin (1 : Int32) (by decide) (by decide)) hat1 (g := (mkF m 21 #[.val (.int p1), .val .null, .val (.ref b1), .val (.int (4 : Int32)), .val (.int (1 : Int32)), .val (.ref wB)] [(.int (1 : Int32)), (.ref b1)])) rfl rfl (hb hby d3_21) _ ?_
      show Steps _ _ _ (T5.setTop (mkF m 22 #[.val (.int p1), .val .null, .val (.ref b1), .val (.int (4 : Int32)), .val (.int (1 : Int32)), .val (.ref wB)] [(.ref wD)])) _
      refine XS.astore X5.here hx rfl (hb hby d3_22) rfl rfl (l' := #[.val (.int p1), .val .null, .val (.ref b1), .val (.int (4 : Int32)), .val (.int (1 : Int32)), .val (.ref wD)]) rfl ?_
      show Steps _ _ _ (T5.setTop (mkF m 24 #[.val (.int p1), .val .null, .val (.ref b1), .val (.int (4 : Int32)), .val (.int (1 : Int32)), .val (.ref wD)] [])) _
      refine XS.aload X5.here hx rfl (hb hby d3_24) rfl rfl ?_
      exact k
    have f9 : Fld Z T1.heap wD "com/example/sketcher/sketcher/io/SketchFamily" "code" "I" (.int (2 : Int32)) := (F_wD.keep K1 nin0)
    obtain ⟨T11, X11, e11, st11⟩ := getF X5 hx hZ hown (host := "") (Or.inl (wk hw 12 rfl)) Via.refl e5 f9 (g := (mkF m 26 #[.val (.int p1), .val .null, .val (.ref b1), .val (.int (4 : Int32)), .val (.int (1 : Int32)), .val (.ref wD)] [(.ref wD)])) rfl rfl (hb hby d3_26)
    have go12 : Go p.tables e below T11 (mkF m 30 #[.val (.int p1), .val .null, .val (.ref b1), .val (.int (4 : Int32)), .val (.int (1 : Int32)), .val (.ref wD)] [(.int p1), (.int (2 : Int32))]) s₁ (entryFrame m #[(.int p1)] 6) := by
      intro t k
      refine go10 t ?_
      show Steps _ _ _ (T5.setTop (mkF m 26 #[.val (.int p1), .val .null, .val (.ref b1), .val (.int (4 : Int32)), .val (.int (1 : Int32)), .val (.ref wD)] [(.ref wD)])) _
      refine st11 _ ?_
      show Steps _ _ _ (T11.setTop (mkF m 29 #[.val (.int p1), .val .null, .val (.ref b1), .val (.int (4 : Int32)), .val (.int (1 : Int32)), .val (.ref wD)] [(.int (2 : Int32))])) _
      refine XS.iloadN X11.here hx rfl (hb hby d3_29) rfl ?_
      exact k
    by_cases hc30_1 : (2 : Int32) = p1
    · skip
      have go13 : Go p.tables e below T11 (mkF m 46 #[.val (.int p1), .val (.ref wD), .val (.ref b1), .val (.int (4 : Int32)), .val (.int (1 : Int32)), .val (.ref wD)] [(.ref wD)]) s₁ (entryFrame m #[(.int p1)] 6) := by
        intro t k
        refine go12 t ?_
        show Steps _ _ _ (T11.setTop (mkF m 30 #[.val (.int p1), .val .null, .val (.ref b1), .val (.int (4 : Int32)), .val (.int (1 : Int32)), .val (.ref wD)] [(.int p1), (.int (2 : Int32))])) _
        refine XS.icmpNo X11.here hx rfl (hb hby d3_30) rfl (teq hc30_1).2 ?_
        show Steps _ _ _ (T11.setTop (mkF m 33 #[.val (.int p1), .val .null, .val (.ref b1), .val (.int (4 : Int32)), .val (.int (1 : Int32)), .val (.ref wD)] [])) _
        refine XS.aload X11.here hx rfl (hb hby d3_33) rfl rfl ?_
        show Steps _ _ _ (T11.setTop (mkF m 35 #[.val (.int p1), .val .null, .val (.ref b1), .val (.int (4 : Int32)), .val (.int (1 : Int32)), .val (.ref wD)] [(.ref wD)])) _
        refine XS.astoreN X11.here hx rfl (hb hby d3_35) rfl rfl (l' := #[.val (.int p1), .val (.ref wD), .val (.ref b1), .val (.int (4 : Int32)), .val (.int (1 : Int32)), .val (.ref wD)]) rfl ?_
        show Steps _ _ _ (T11.setTop (mkF m 36 #[.val (.int p1), .val (.ref wD), .val (.ref b1), .val (.int (4 : Int32)), .val (.int (1 : Int32)), .val (.ref wD)] [])) _
        refine XS.goto X11.here hx rfl (pc0 := 36) (pc' := 45) rfl (hb hby d3_36) (by decide) (by decide) ?_
        show Steps _ _ _ (T11.setTop (mkF m 45 #[.val (.int p1), .val (.ref wD), .val (.ref b1), .val (.int (4 : Int32)), .val (.int (1 : Int32)), .val (.ref wD)] [])) _
        refine XS.aloadN X11.here hx rfl (hb hby d3_45) rfl rfl ?_
        exact k
      have f14 : Keep h0 T1.heap [] := ((Keep.refl h0 []).trans K1 all0)
      obtain ⟨fs, hr, hrun, hended, hW, hsame⟩ := X11.leave (v := some (.ref wD)) (fun h => by rw [Bd.returns] at h; cases h)
      refine ⟨_, _, go13 _ ?_, hrun, hended, _, _, rfl, ?_, ⟨_, rfl⟩, hW, hsame.mono (by decide) (by decide)⟩
      · exact retOut X11 hx Bd.returns rfl (Or.inr (Or.inr (Or.inr (Or.inr ⟨rfl, rfl, rfl⟩)))) (hb hby d3_46) hr
      · show QR (ofc wB wD wF wS p1) h0 n0 _ T11.heap _
        rw [e11]
        exact ⟨by simp only [ofc]; rw [if_neg hc30, if_pos hc30_1], N1, f14⟩
    · skip
      have go16 : Go p.tables e below T11 (mkF m 26 #[.val (.int p1), .val .null, .val (.ref b1), .val (.int (4 : Int32)), .val (.int (2 : Int32)), .val (.ref wF)] [(.ref wF)]) s₁ (entryFrame m #[(.int p1)] 6) := by
        intro t k
        refine go12 t ?_
        show Steps _ _ _ (T11.setTop (mkF m 30 #[.val (.int p1), .val .null, .val (.ref b1), .val (.int (4 : Int32)), .val (.int (1 : Int32)), .val (.ref wD)] [(.int p1), (.int (2 : Int32))])) _
        refine XS.icmpYes X11.here hx rfl (pc0 := 30) (pc' := 39) rfl (hb hby d3_30) rfl (feq hc30_1).2 (by decide) (by decide) ?_
        show Steps _ _ _ (T11.setTop (mkF m 39 #[.val (.int p1), .val .null, .val (.ref b1), .val (.int (4 : Int32)), .val (.int (1 : Int32)), .val (.ref wD)] [])) _
        refine XS.iinc X11.here hx rfl (hb hby d3_39) rfl (l' := #[.val (.int p1), .val .null, .val (.ref b1), .val (.int (4 : Int32)), .val (.int (2 : Int32)), .val (.ref wD)]) rfl ?_
        show Steps _ _ _ (T11.setTop (mkF m 42 #[.val (.int p1), .val .null, .val (.ref b1), .val (.int (4 : Int32)), .val (.int (2 : Int32)), .val (.ref wD)] [])) _
        refine XS.goto X11.here hx rfl (pc0 := 42) (pc' := 12) rfl (hb hby d3_42) (by decide) (by decide) ?_
        show Steps _ _ _ (T11.setTop (mkF m 12 #[.val (.int p1), .val .null, .val (.ref b1), .val (.int (4 : Int32)), .val (.int (2 : Int32)), .val (.ref wD)] [])) _
        refine XS.iload X11.here hx rfl (hb hby d3_12) rfl ?_
        show Steps _ _ _ (T11.setTop (mkF m 14 #[.val (.int p1), .val .null, .val (.ref b1), .val (.int (4 : Int32)), .val (.int (2 : Int32)), .val (.ref wD)] [(.int (2 : Int32))])) _
        refine XS.iloadN X11.here hx rfl (hb hby d3_14) rfl ?_
        show Steps _ _ _ (T11.setTop (mkF m 15 #[.val (.int p1), .val .null, .val (.ref b1), .val (.int (4 : Int32)), .val (.int (2 : Int32)), .val (.ref wD)] [(.int (4 : Int32)), (.int (2 : Int32))])) _
        refine XS.icmpNo X11.here hx rfl (hb hby d3_15) rfl (tlt (by decide)).2.1 ?_
        show Steps _ _ _ (T11.setTop (mkF m 18 #[.val (.int p1), .val .null, .val (.ref b1), .val (.int (4 : Int32)), .val (.int (2 : Int32)), .val (.ref wD)] [])) _
        refine XS.aloadN X11.here hx rfl (hb hby d3_18) rfl rfl ?_
        show Steps _ _ _ (T11.setTop (mkF m 19 #[.val (.int p1), .val .null, .val (.ref b1), .val (.int (4 : Int32)), .val (.int (2 : Int32)), .val (.ref wD)] [(.ref b1)])) _
        refine XS.iload X11.here hx rfl (hb hby d3_19) rfl ?_
        show Steps _ _ _ (T11.setTop (mkF m 21 #[.val (.int p1), .val .null, .val (.ref b1), .val (.int (4 : Int32)), .val (.int (2 : Int32)), .val (.ref wD)] [(.int (2 : Int32)), (.ref b1)])) _
        refine X11.aaload hx (j := (2 : Int32)) (v := (.ref wF)) (by rw [e11]; exact Ab1.1) (State.isArrayOf_alike hZ.alike Ab1.2.1) rfl Ab1.2.2 (hin (2 : Int32) (by decide) (by decide)) hat2 (g := (mkF m 21 #[.val (.int p1), .val .null, .val (.ref b1), .val (.int (4 : Int32)), .val (.int (2 : Int32)), .val (.ref wD)] [(.int (2 : Int32)), (.ref b1)])) rfl rfl (hb hby d3_21) _ ?_
        show Steps _ _ _ (T11.setTop (mkF m 22 #[.val (.int p1), .val .null, .val (.ref b1), .val (.int (4 : Int32)), .val (.int (2 : Int32)), .val (.ref wD)] [(.ref wF)])) _
        refine XS.astore X11.here hx rfl (hb hby d3_22) rfl rfl (l' := #[.val (.int p1), .val .null, .val (.ref b1), .val (.int (4 : Int32)), .val (.int (2 : Int32)), .val (.ref wF)]) rfl ?_
        show Steps _ _ _ (T11.setTop (mkF m 24 #[.val (.int p1), .val .null, .val (.ref b1), .val (.int (4 : Int32)), .val (.int (2 : Int32)), .val (.ref wF)] [])) _
        refine XS.aload X11.here hx rfl (hb hby d3_24) rfl rfl ?_
        exact k
      have f15 : Fld Z T1.heap wF "com/example/sketcher/sketcher/io/SketchFamily" "code" "I" (.int (3 : Int32)) := (F_wF.keep K1 nin0)
      obtain ⟨T17, X17, e17, st17⟩ := getF X11 hx hZ hown (host := "") (Or.inl (wk hw 12 rfl)) Via.refl e11 f15 (g := (mkF m 26 #[.val (.int p1), .val .null, .val (.ref b1), .val (.int (4 : Int32)), .val (.int (2 : Int32)), .val (.ref wF)] [(.ref wF)])) rfl rfl (hb hby d3_26)
      have go18 : Go p.tables e below T17 (mkF m 30 #[.val (.int p1), .val .null, .val (.ref b1), .val (.int (4 : Int32)), .val (.int (2 : Int32)), .val (.ref wF)] [(.int p1), (.int (3 : Int32))]) s₁ (entryFrame m #[(.int p1)] 6) := by
        intro t k
        refine go16 t ?_
        show Steps _ _ _ (T11.setTop (mkF m 26 #[.val (.int p1), .val .null, .val (.ref b1), .val (.int (4 : Int32)), .val (.int (2 : Int32)), .val (.ref wF)] [(.ref wF)])) _
        refine st17 _ ?_
        show Steps _ _ _ (T17.setTop (mkF m 29 #[.val (.int p1), .val .null, .val (.ref b1), .val (.int (4 : Int32)), .val (.int (2 : Int32)), .val (.ref wF)] [(.int (3 : Int32))])) _
        refine XS.iloadN X17.here hx rfl (hb hby d3_29) rfl ?_
        exact k
      by_cases hc30_2 : (3 : Int32) = p1
      · skip
        have go19 : Go p.tables e below T17 (mkF m 46 #[.val (.int p1), .val (.ref wF), .val (.ref b1), .val (.int (4 : Int32)), .val (.int (2 : Int32)), .val (.ref wF)] [(.ref wF)]) s₁ (entryFrame m #[(.int p1)] 6) := by
          intro t k
          refine go18 t ?_
          show Steps _ _ _ (T17.setTop (mkF m 30 #[.val (.int p1), .val .null, .val (.ref b1), .val (.int (4 : Int32)), .val (.int (2 : Int32)), .val (.ref wF)] [(.int p1), (.int (3 : Int32))])) _
          refine XS.icmpNo X17.here hx rfl (hb hby d3_30) rfl (teq hc30_2).2 ?_
          show Steps _ _ _ (T17.setTop (mkF m 33 #[.val (.int p1), .val .null, .val (.ref b1), .val (.int (4 : Int32)), .val (.int (2 : Int32)), .val (.ref wF)] [])) _
          refine XS.aload X17.here hx rfl (hb hby d3_33) rfl rfl ?_
          show Steps _ _ _ (T17.setTop (mkF m 35 #[.val (.int p1), .val .null, .val (.ref b1), .val (.int (4 : Int32)), .val (.int (2 : Int32)), .val (.ref wF)] [(.ref wF)])) _
          refine XS.astoreN X17.here hx rfl (hb hby d3_35) rfl rfl (l' := #[.val (.int p1), .val (.ref wF), .val (.ref b1), .val (.int (4 : Int32)), .val (.int (2 : Int32)), .val (.ref wF)]) rfl ?_
          show Steps _ _ _ (T17.setTop (mkF m 36 #[.val (.int p1), .val (.ref wF), .val (.ref b1), .val (.int (4 : Int32)), .val (.int (2 : Int32)), .val (.ref wF)] [])) _
          refine XS.goto X17.here hx rfl (pc0 := 36) (pc' := 45) rfl (hb hby d3_36) (by decide) (by decide) ?_
          show Steps _ _ _ (T17.setTop (mkF m 45 #[.val (.int p1), .val (.ref wF), .val (.ref b1), .val (.int (4 : Int32)), .val (.int (2 : Int32)), .val (.ref wF)] [])) _
          refine XS.aloadN X17.here hx rfl (hb hby d3_45) rfl rfl ?_
          exact k
        have f20 : Keep h0 T1.heap [] := ((Keep.refl h0 []).trans K1 all0)
        obtain ⟨fs, hr, hrun, hended, hW, hsame⟩ := X17.leave (v := some (.ref wF)) (fun h => by rw [Bd.returns] at h; cases h)
        refine ⟨_, _, go19 _ ?_, hrun, hended, _, _, rfl, ?_, ⟨_, rfl⟩, hW, hsame.mono (by decide) (by decide)⟩
        · exact retOut X17 hx Bd.returns rfl (Or.inr (Or.inr (Or.inr (Or.inr ⟨rfl, rfl, rfl⟩)))) (hb hby d3_46) hr
        · show QR (ofc wB wD wF wS p1) h0 n0 _ T17.heap _
          rw [e17]
          exact ⟨by simp only [ofc]; rw [if_neg hc30, if_neg hc30_1, if_pos hc30_2], N1, f20⟩
      · skip
        have go22 : Go p.tables e below T17 (mkF m 26 #[.val (.int p1), .val .null, .val (.ref b1), .val (.int (4 : Int32)), .val (.int (3 : Int32)), .val (.ref wS)] [(.ref wS)]) s₁ (entryFrame m #[(.int p1)] 6) := by
          intro t k
          refine go18 t ?_
          show Steps _ _ _ (T17.setTop (mkF m 30 #[.val (.int p1), .val .null, .val (.ref b1), .val (.int (4 : Int32)), .val (.int (2 : Int32)), .val (.ref wF)] [(.int p1), (.int (3 : Int32))])) _
          refine XS.icmpYes X17.here hx rfl (pc0 := 30) (pc' := 39) rfl (hb hby d3_30) rfl (feq hc30_2).2 (by decide) (by decide) ?_
          show Steps _ _ _ (T17.setTop (mkF m 39 #[.val (.int p1), .val .null, .val (.ref b1), .val (.int (4 : Int32)), .val (.int (2 : Int32)), .val (.ref wF)] [])) _
          refine XS.iinc X17.here hx rfl (hb hby d3_39) rfl (l' := #[.val (.int p1), .val .null, .val (.ref b1), .val (.int (4 : Int32)), .val (.int (3 : Int32)), .val (.ref wF)]) rfl ?_
          show Steps _ _ _ (T17.setTop (mkF m 42 #[.val (.int p1), .val .null, .val (.ref b1), .val (.int (4 : Int32)), .val (.int (3 : Int32)), .val (.ref wF)] [])) _
          refine XS.goto X17.here hx rfl (pc0 := 42) (pc' := 12) rfl (hb hby d3_42) (by decide) (by decide) ?_
          show Steps _ _ _ (T17.setTop (mkF m 12 #[.val (.int p1), .val .null, .val (.ref b1), .val (.int (4 : Int32)), .val (.int (3 : Int32)), .val (.ref wF)] [])) _
          refine XS.iload X17.here hx rfl (hb hby d3_12) rfl ?_
          show Steps _ _ _ (T17.setTop (mkF m 14 #[.val (.int p1), .val .null, .val (.ref b1), .val (.int (4 : Int32)), .val (.int (3 : Int32)), .val (.ref wF)] [(.int (3 : Int32))])) _
          refine XS.iloadN X17.here hx rfl (hb hby d3_14) rfl ?_
          show Steps _ _ _ (T17.setTop (mkF m 15 #[.val (.int p1), .val .null, .val (.ref b1), .val (.int (4 : Int32)), .val (.int (3 : Int32)), .val (.ref wF)] [(.int (4 : Int32)), (.int (3 : Int32))])) _
          refine XS.icmpNo X17.here hx rfl (hb hby d3_15) rfl (tlt (by decide)).2.1 ?_
          show Steps _ _ _ (T17.setTop (mkF m 18 #[.val (.int p1), .val .null, .val (.ref b1), .val (.int (4 : Int32)), .val (.int (3 : Int32)), .val (.ref wF)] [])) _
          refine XS.aloadN X17.here hx rfl (hb hby d3_18) rfl rfl ?_
          show Steps _ _ _ (T17.setTop (mkF m 19 #[.val (.int p1), .val .null, .val (.ref b1), .val (.int (4 : Int32)), .val (.int (3 : Int32)), .val (.ref wF)] [(.ref b1)])) _
          refine XS.iload X17.here hx rfl (hb hby d3_19) rfl ?_
          show Steps _ _ _ (T17.setTop (mkF m 21 #[.val (.int p1), .val .null, .val (.ref b1), .val (.int (4 : Int32)), .val (.int (3 : Int32)), .val (.ref wF)] [(.int (3 : Int32)), (.ref b1)])) _
          refine X17.aaload hx (j := (3 : Int32)) (v := (.ref wS)) (by rw [e17]; exact Ab1.1) (State.isArrayOf_alike hZ.alike Ab1.2.1) rfl Ab1.2.2 (hin (3 : Int32) (by decide) (by decide)) hat3 (g := (mkF m 21 #[.val (.int p1), .val .null, .val (.ref b1), .val (.int (4 : Int32)), .val (.int (3 : Int32)), .val (.ref wF)] [(.int (3 : Int32)), (.ref b1)])) rfl rfl (hb hby d3_21) _ ?_
          show Steps _ _ _ (T17.setTop (mkF m 22 #[.val (.int p1), .val .null, .val (.ref b1), .val (.int (4 : Int32)), .val (.int (3 : Int32)), .val (.ref wF)] [(.ref wS)])) _
          refine XS.astore X17.here hx rfl (hb hby d3_22) rfl rfl (l' := #[.val (.int p1), .val .null, .val (.ref b1), .val (.int (4 : Int32)), .val (.int (3 : Int32)), .val (.ref wS)]) rfl ?_
          show Steps _ _ _ (T17.setTop (mkF m 24 #[.val (.int p1), .val .null, .val (.ref b1), .val (.int (4 : Int32)), .val (.int (3 : Int32)), .val (.ref wS)] [])) _
          refine XS.aload X17.here hx rfl (hb hby d3_24) rfl rfl ?_
          exact k
        have f21 : Fld Z T1.heap wS "com/example/sketcher/sketcher/io/SketchFamily" "code" "I" (.int (4 : Int32)) := (F_wS.keep K1 nin0)
        obtain ⟨T23, X23, e23, st23⟩ := getF X17 hx hZ hown (host := "") (Or.inl (wk hw 12 rfl)) Via.refl e17 f21 (g := (mkF m 26 #[.val (.int p1), .val .null, .val (.ref b1), .val (.int (4 : Int32)), .val (.int (3 : Int32)), .val (.ref wS)] [(.ref wS)])) rfl rfl (hb hby d3_26)
        have go24 : Go p.tables e below T23 (mkF m 30 #[.val (.int p1), .val .null, .val (.ref b1), .val (.int (4 : Int32)), .val (.int (3 : Int32)), .val (.ref wS)] [(.int p1), (.int (4 : Int32))]) s₁ (entryFrame m #[(.int p1)] 6) := by
          intro t k
          refine go22 t ?_
          show Steps _ _ _ (T17.setTop (mkF m 26 #[.val (.int p1), .val .null, .val (.ref b1), .val (.int (4 : Int32)), .val (.int (3 : Int32)), .val (.ref wS)] [(.ref wS)])) _
          refine st23 _ ?_
          show Steps _ _ _ (T23.setTop (mkF m 29 #[.val (.int p1), .val .null, .val (.ref b1), .val (.int (4 : Int32)), .val (.int (3 : Int32)), .val (.ref wS)] [(.int (4 : Int32))])) _
          refine XS.iloadN X23.here hx rfl (hb hby d3_29) rfl ?_
          exact k
        by_cases hc30_3 : (4 : Int32) = p1
        · skip
          have go25 : Go p.tables e below T23 (mkF m 46 #[.val (.int p1), .val (.ref wS), .val (.ref b1), .val (.int (4 : Int32)), .val (.int (3 : Int32)), .val (.ref wS)] [(.ref wS)]) s₁ (entryFrame m #[(.int p1)] 6) := by
            intro t k
            refine go24 t ?_
            show Steps _ _ _ (T23.setTop (mkF m 30 #[.val (.int p1), .val .null, .val (.ref b1), .val (.int (4 : Int32)), .val (.int (3 : Int32)), .val (.ref wS)] [(.int p1), (.int (4 : Int32))])) _
            refine XS.icmpNo X23.here hx rfl (hb hby d3_30) rfl (teq hc30_3).2 ?_
            show Steps _ _ _ (T23.setTop (mkF m 33 #[.val (.int p1), .val .null, .val (.ref b1), .val (.int (4 : Int32)), .val (.int (3 : Int32)), .val (.ref wS)] [])) _
            refine XS.aload X23.here hx rfl (hb hby d3_33) rfl rfl ?_
            show Steps _ _ _ (T23.setTop (mkF m 35 #[.val (.int p1), .val .null, .val (.ref b1), .val (.int (4 : Int32)), .val (.int (3 : Int32)), .val (.ref wS)] [(.ref wS)])) _
            refine XS.astoreN X23.here hx rfl (hb hby d3_35) rfl rfl (l' := #[.val (.int p1), .val (.ref wS), .val (.ref b1), .val (.int (4 : Int32)), .val (.int (3 : Int32)), .val (.ref wS)]) rfl ?_
            show Steps _ _ _ (T23.setTop (mkF m 36 #[.val (.int p1), .val (.ref wS), .val (.ref b1), .val (.int (4 : Int32)), .val (.int (3 : Int32)), .val (.ref wS)] [])) _
            refine XS.goto X23.here hx rfl (pc0 := 36) (pc' := 45) rfl (hb hby d3_36) (by decide) (by decide) ?_
            show Steps _ _ _ (T23.setTop (mkF m 45 #[.val (.int p1), .val (.ref wS), .val (.ref b1), .val (.int (4 : Int32)), .val (.int (3 : Int32)), .val (.ref wS)] [])) _
            refine XS.aloadN X23.here hx rfl (hb hby d3_45) rfl rfl ?_
            exact k
          have f26 : Keep h0 T1.heap [] := ((Keep.refl h0 []).trans K1 all0)
          obtain ⟨fs, hr, hrun, hended, hW, hsame⟩ := X23.leave (v := some (.ref wS)) (fun h => by rw [Bd.returns] at h; cases h)
          refine ⟨_, _, go25 _ ?_, hrun, hended, _, _, rfl, ?_, ⟨_, rfl⟩, hW, hsame.mono (by decide) (by decide)⟩
          · exact retOut X23 hx Bd.returns rfl (Or.inr (Or.inr (Or.inr (Or.inr ⟨rfl, rfl, rfl⟩)))) (hb hby d3_46) hr
          · show QR (ofc wB wD wF wS p1) h0 n0 _ T23.heap _
            rw [e23]
            exact ⟨by simp only [ofc]; rw [if_neg hc30, if_neg hc30_1, if_neg hc30_2, if_pos hc30_3], N1, f26⟩
        · skip
          have go27 : Go p.tables e below T23 (mkF m 46 #[.val (.int p1), .val .null, .val (.ref b1), .val (.int (4 : Int32)), .val (.int (4 : Int32)), .val (.ref wS)] [.null]) s₁ (entryFrame m #[(.int p1)] 6) := by
            intro t k
            refine go24 t ?_
            show Steps _ _ _ (T23.setTop (mkF m 30 #[.val (.int p1), .val .null, .val (.ref b1), .val (.int (4 : Int32)), .val (.int (3 : Int32)), .val (.ref wS)] [(.int p1), (.int (4 : Int32))])) _
            refine XS.icmpYes X23.here hx rfl (pc0 := 30) (pc' := 39) rfl (hb hby d3_30) rfl (feq hc30_3).2 (by decide) (by decide) ?_
            show Steps _ _ _ (T23.setTop (mkF m 39 #[.val (.int p1), .val .null, .val (.ref b1), .val (.int (4 : Int32)), .val (.int (3 : Int32)), .val (.ref wS)] [])) _
            refine XS.iinc X23.here hx rfl (hb hby d3_39) rfl (l' := #[.val (.int p1), .val .null, .val (.ref b1), .val (.int (4 : Int32)), .val (.int (4 : Int32)), .val (.ref wS)]) rfl ?_
            show Steps _ _ _ (T23.setTop (mkF m 42 #[.val (.int p1), .val .null, .val (.ref b1), .val (.int (4 : Int32)), .val (.int (4 : Int32)), .val (.ref wS)] [])) _
            refine XS.goto X23.here hx rfl (pc0 := 42) (pc' := 12) rfl (hb hby d3_42) (by decide) (by decide) ?_
            show Steps _ _ _ (T23.setTop (mkF m 12 #[.val (.int p1), .val .null, .val (.ref b1), .val (.int (4 : Int32)), .val (.int (4 : Int32)), .val (.ref wS)] [])) _
            refine XS.iload X23.here hx rfl (hb hby d3_12) rfl ?_
            show Steps _ _ _ (T23.setTop (mkF m 14 #[.val (.int p1), .val .null, .val (.ref b1), .val (.int (4 : Int32)), .val (.int (4 : Int32)), .val (.ref wS)] [(.int (4 : Int32))])) _
            refine XS.iloadN X23.here hx rfl (hb hby d3_14) rfl ?_
            show Steps _ _ _ (T23.setTop (mkF m 15 #[.val (.int p1), .val .null, .val (.ref b1), .val (.int (4 : Int32)), .val (.int (4 : Int32)), .val (.ref wS)] [(.int (4 : Int32)), (.int (4 : Int32))])) _
            refine XS.icmpYes X23.here hx rfl (pc0 := 15) (pc' := 45) rfl (hb hby d3_15) rfl (flt (by decide)).2.1 (by decide) (by decide) ?_
            show Steps _ _ _ (T23.setTop (mkF m 45 #[.val (.int p1), .val .null, .val (.ref b1), .val (.int (4 : Int32)), .val (.int (4 : Int32)), .val (.ref wS)] [])) _
            refine XS.aloadN X23.here hx rfl (hb hby d3_45) rfl rfl ?_
            exact k
          have f28 : Keep h0 T1.heap [] := ((Keep.refl h0 []).trans K1 all0)
          obtain ⟨fs, hr, hrun, hended, hW, hsame⟩ := X23.leave (v := some .null) (fun h => by rw [Bd.returns] at h; cases h)
          refine ⟨_, _, go27 _ ?_, hrun, hended, _, _, rfl, ?_, ⟨_, rfl⟩, hW, hsame.mono (by decide) (by decide)⟩
          · exact retOut X23 hx Bd.returns rfl (Or.inr (Or.inr (Or.inr (Or.inr ⟨rfl, rfl, rfl⟩)))) (hb hby d3_46) hr
          · show QR (ofc wB wD wF wS p1) h0 n0 _ T23.heap _
            rw [e23]
            exact ⟨by simp only [ofc]; rw [if_neg hc30, if_neg hc30_1, if_neg hc30_2, if_neg hc30_3], N1, f28⟩
theorem pn_0 : plainName "com/example/sketcher/sketcher/io/SketchFamilyOfCodePinLaw" = true := by first | (simp [plainName, overriddenIn]; done) | decide +kernel
theorem ef_0 (m : MethodId) (x0 : Int32) (x1 : Int32) : entryFrame m #[(.int x0), (.int x1)] maxLocals = mkF m 0 #[.val (.int x0), .val (.int x1), .unset, .unset, .unset, .unset, .unset] [] := by first | (simp [entryFrame, mkF, argsToLocals, Value.category, maxLocals]; done) | rfl
theorem pd_1 : parseMethodDescriptor "(I)Lcom/example/sketcher/sketcher/io/SketchFamily;" = some ⟨[.int], some (.object "com/example/sketcher/sketcher/io/SketchFamily")⟩ := by decide +kernel
theorem pd_2 : parseMethodDescriptor "()I" = some ⟨[], some .int⟩ := by decide +kernel
set_option maxRecDepth 65536 in
set_option maxHeartbeats 40000000 in
theorem rm0 (l : Launch) (Z : State) (a0 : Array Value) (hw : ∀ d ∈ tables_1, d.before a0 Z = true) (ws : List Jvm.Cond) (p1 p2 : Int32) (wB wD wF wS : Addr) (wV : Addr) (cl : Cell) (h0 : Heap) (n0 : Nat) (Z0 : n0 ≤ h0.size) (S_wB : Sta Z h0 "com/example/sketcher/sketcher/io/SketchFamily" "BLOOM_FILTER" "Lcom/example/sketcher/sketcher/io/SketchFamily;" (.ref wB)) (S_wD : Sta Z h0 "com/example/sketcher/sketcher/io/SketchFamily" "DISTINCT_COUNT" "Lcom/example/sketcher/sketcher/io/SketchFamily;" (.ref wD)) (S_wF : Sta Z h0 "com/example/sketcher/sketcher/io/SketchFamily" "FREQUENCY" "Lcom/example/sketcher/sketcher/io/SketchFamily;" (.ref wF)) (S_wS : Sta Z h0 "com/example/sketcher/sketcher/io/SketchFamily" "SIMILARITY" "Lcom/example/sketcher/sketcher/io/SketchFamily;" (.ref wS)) (E_wB : Exa Z h0 wB "com/example/sketcher/sketcher/io/SketchFamily") (E_wD : Exa Z h0 wD "com/example/sketcher/sketcher/io/SketchFamily") (E_wF : Exa Z h0 wF "com/example/sketcher/sketcher/io/SketchFamily") (E_wS : Exa Z h0 wS "com/example/sketcher/sketcher/io/SketchFamily") (F_wB : Fld Z h0 wB "com/example/sketcher/sketcher/io/SketchFamily" "code" "I" (.int (1 : Int32))) (F_wD : Fld Z h0 wD "com/example/sketcher/sketcher/io/SketchFamily" "code" "I" (.int (2 : Int32))) (F_wF : Fld Z h0 wF "com/example/sketcher/sketcher/io/SketchFamily" "code" "I" (.int (3 : Int32))) (F_wS : Fld Z h0 wS "com/example/sketcher/sketcher/io/SketchFamily" "code" "I" (.int (4 : Int32))) (S_V : Sta Z h0 "com/example/sketcher/sketcher/io/SketchFamily" "$VALUES" "[Lcom/example/sketcher/sketcher/io/SketchFamily;" (.ref wV)) (Ar : Arr Z h0 wV cl (.object "com/example/sketcher/sketcher/io/SketchFamily")) (E_V : Exa Z h0 wV "[Lcom/example/sketcher/sketcher/io/SketchFamily;") (FC : FitC Z cl) (hsz : cl.slots.size = 4) (hlen : (cloneOf cl).slots.size.toInt32 = (4 : Int32)) (hin : ∀ j : Int32, ¬ j < 0 → j < 4 → ¬ (j < 0 ∨ (cloneOf cl).slots.size ≤ j.toNatClampNeg)) (hat0 : cl.slots[(0 : Int32).toNatClampNeg]? = some (.ref wB)) (hat1 : cl.slots[(1 : Int32).toNatClampNeg]? = some (.ref wD)) (hat2 : cl.slots[(2 : Int32).toNatClampNeg]? = some (.ref wF)) (hat3 : cl.slots[(3 : Int32).toNatClampNeg]? = some (.ref wS)) :
    MetFree l x (head1 (Jvm.Cond.code x code maxLocals ret :: ws) room_1) (fun a U => a = #[(.int p1), (.int p2)] ∧ Z.Warmed39 U.vm ∧ U.heap = h0) (fun _ _ _ _ _ => True) (fun _ U o U' => ∃ v L, o = .returned v ∧ QL (.int 1) h0 n0 v U'.heap L ∧ FrameEnd U o U' L room_1.cells room_1.slots) := by
  refine MetFree.of_bodySF (plainFor_of_name pn_0) hisR ?_
  intro p e s m args below meth c s₁ Bd hml0 hP hK
  obtain ⟨rfl, hZ, hh⟩ := hP
  have hx := Bd.exec
  have hby := Bd.bytes
  have hml : c.maxLocals = 7 := hml0
  have hown : s.vm.findClass "com/example/sketcher/sketcher/io/SketchFamilyOfCodePinLaw" = some m.cls := findClass_of_methodNamed Bd.named
  have hnm := (name_of_methodNamed Bd.named Bd.method).1
  have X0 : Stand p l e room_1 s m #[(.int p1), (.int p2)] below meth c s₁ [] 0 0 := Stand.of_body Bd
  have e0 : s₁.heap = h0 := by rw [← hh, Bd.state]; rfl
  have N0 := Fr.nil n0
  have go0 : Go p.tables e below s₁ (mkF m 0 #[.val (.int p1), .val (.int p2), .unset, .unset, .unset, .unset, .unset] []) s₁ (entryFrame m #[(.int p1), (.int p2)] maxLocals) := fun t k => castTop (ef_0 m p1 p2) k
  have go2 : Go p.tables e below s₁ (mkF m 1 #[.val (.int p1), .val (.int p2), .unset, .unset, .unset, .unset, .unset] [(.int p2)]) s₁ (entryFrame m #[(.int p1), (.int p2)] maxLocals) := by
    intro t k
    refine go0 t ?_
    show Steps _ _ _ (s₁.setTop (mkF m 0 #[.val (.int p1), .val (.int p2), .unset, .unset, .unset, .unset, .unset] [])) _
    refine XS.iloadN X0.here hx rfl (hb hby at_0) rfl ?_
    exact k
  obtain ⟨_, _, ⟨T1, L1, k1, n1⟩, -, X1, ⟨Lc1, hQ1, l1, y1, z1⟩, st1⟩ := Jvm.LawKit.callS X0 hx (y := (⟨"com/example/sketcher/sketcher/io/SketchFamilyOfCodePinLaw", "pick", "(I)Lcom/example/sketcher/sketcher/io/SketchFamily;"⟩ : MethodName)) hown (mvT hZ (wk hw 0 rfl)) (mvT hZ (wk hw 1 rfl)) (mvT hZ (wk hw 2 rfl)) (mvT hZ (wk hw 3 rfl)) (by decide) (backOf (W := 0) (rm1 l Z a0 hw [] p2 wB wD wF wS h0 n0 Z0 S_wB S_wD S_wF S_wS) hZ (wk hw 3 rfl) (wk hw 2 rfl) (by decide) (by decide)) (g := (mkF m 1 #[.val (.int p1), .val (.int p2), .unset, .unset, .unset, .unset, .unset] [(.int p2)])) rfl (by rw [hml]; rfl) (argsL := [(.int p2)]) (rest := []) (lenOf pd_1 rfl) rfl (by show 2 * 0 + _ ≤ _; exact Nat.le_of_eq rfl) (hb hby at_1) (fun _ _ => ⟨rfl, e0, (by decide : 0 + 0 ≤ _), (by decide : 0 + 0 ≤ _)⟩)
  dsimp only [Pt.U, Pt.locs, Pt.cells, Pt.slots] at X1 l1 y1 z1 st1 hQ1
  subst l1 y1 z1
  obtain ⟨rfl, N1q, e1⟩ := hQ1
  have N1 := Fr.app N0 N1q
  have go4 : Go p.tables e below T1 (mkF m 6 #[.val (.int p1), .val (.int p2), .val (.ref (pk4 wB wD wF wS p2)), .unset, .unset, .unset, .unset] [(.ref (pk4 wB wD wF wS p2))]) s₁ (entryFrame m #[(.int p1), (.int p2)] maxLocals) := by
    intro t k
    refine go2 t ?_
    show Steps _ _ _ (s₁.setTop (mkF m 1 #[.val (.int p1), .val (.int p2), .unset, .unset, .unset, .unset, .unset] [(.int p2)])) _
    refine st1 _ ?_
    show Steps _ _ _ (T1.setTop (mkF m 4 #[.val (.int p1), .val (.int p2), .unset, .unset, .unset, .unset, .unset] [(.ref (pk4 wB wD wF wS p2))])) _
    refine XS.astoreN X1.here hx rfl (hb hby at_4) rfl rfl (l' := #[.val (.int p1), .val (.int p2), .val (.ref (pk4 wB wD wF wS p2)), .unset, .unset, .unset, .unset]) rfl ?_
    show Steps _ _ _ (T1.setTop (mkF m 5 #[.val (.int p1), .val (.int p2), .val (.ref (pk4 wB wD wF wS p2)), .unset, .unset, .unset, .unset] [])) _
    refine XS.aloadN X1.here hx rfl (hb hby at_5) rfl rfl ?_
    exact k
  obtain ⟨cq3, kq3, q3a, q3b, q3c⟩ := isOf hZ e1 (own_pk4E E_wB E_wD E_wF E_wS p2)
  obtain ⟨_, _, ⟨T3, L3, k3, n3⟩, -, X3, ⟨Lc3, hQ3, l3, y3, z3⟩, st3⟩ := X1.virtualBack hx (y := (⟨"com/example/sketcher/sketcher/io/SketchFamily", "code", "()I"⟩ : MethodName)) (z := (⟨"com/example/sketcher/sketcher/io/SketchFamily", "code", "()I"⟩ : MethodName)) hown (mvT hZ (wk hw 7 rfl)) (mvT hZ (wk hw 8 rfl)) (notFace_of_selects (args := #[]) (mvT hZ (wk hw 10 rfl))) (mvT hZ (wk hw 10 rfl)) (mvT hZ (wk hw 9 rfl)) (by decide) (backOf (W := 0) (rm2 l Z a0 hw [] (pk4 wB wD wF wS p2) (cd4 p2) h0 n0 Z0 (own_pk4F F_wB F_wD F_wF F_wS p2)) hZ (wk hw 11 rfl) (wk hw 5 rfl) (by decide) (by decide)) q3a q3c (g := (mkF m 6 #[.val (.int p1), .val (.int p2), .val (.ref (pk4 wB wD wF wS p2)), .unset, .unset, .unset, .unset] [(.ref (pk4 wB wD wF wS p2))])) rfl (by rw [hml]; rfl) (Steps.refl _) (argsL := []) (rest := []) (lenOf pd_2 rfl) rfl (by show 2 * 0 + _ ≤ _; exact Nat.le_of_eq rfl) (hb hby at_6) (fun _ _ => ⟨rfl, e1, (by decide : 0 + 0 ≤ _), (by decide : 0 + 0 ≤ _)⟩)
  dsimp only [Pt.U, Pt.locs, Pt.cells, Pt.slots] at X3 l3 y3 z3 st3 hQ3
  subst l3 y3 z3
  obtain ⟨rfl, N3q, e3⟩ := hQ3
  have N3 := Fr.app N1 N3q
  have go6 : Go p.tables e below T3 (mkF m 9 #[.val (.int p1), .val (.int p2), .val (.ref (pk4 wB wD wF wS p2)), .unset, .unset, .unset, .unset] [(.int (cd4 p2))]) s₁ (entryFrame m #[(.int p1), (.int p2)] maxLocals) := by
    intro t k
    refine go4 t ?_
    show Steps _ _ _ (T1.setTop (mkF m 6 #[.val (.int p1), .val (.int p2), .val (.ref (pk4 wB wD wF wS p2)), .unset, .unset, .unset, .unset] [(.ref (pk4 wB wD wF wS p2))])) _
    refine st3.trans ?_
    exact k
  obtain ⟨_, _, ⟨T5, L5, k5, n5⟩, -, X5, ⟨Lc5, hQ5, l5, y5, z5⟩, st5⟩ := Jvm.LawKit.callS X3 hx (y := (⟨"com/example/sketcher/sketcher/io/SketchFamily", "ofCode", "(I)Lcom/example/sketcher/sketcher/io/SketchFamily;"⟩ : MethodName)) hown (mvT hZ (wk hw 14 rfl)) (mvT hZ (wk hw 15 rfl)) (mvT hZ (wk hw 5 rfl)) (mvT hZ (wk hw 16 rfl)) (by decide) (backOf (W := 0) (rm3 l Z a0 hw [] (cd4 p2) wB wD wF wS wV cl h0 n0 Z0 F_wB F_wD F_wF F_wS (S_V.ext (own_ext0 (Keep.refl h0 []))) (Ar.ext (own_ext0 (Keep.refl h0 []))) (E_V.ext (own_ext0 (Keep.refl h0 []))) FC hsz hlen hin hat0 hat1 hat2 hat3) hZ (wk hw 16 rfl) (wk hw 5 rfl) (by decide) (by decide)) (g := (mkF m 9 #[.val (.int p1), .val (.int p2), .val (.ref (pk4 wB wD wF wS p2)), .unset, .unset, .unset, .unset] [(.int (cd4 p2))])) rfl (by rw [hml]; rfl) (argsL := [(.int (cd4 p2))]) (rest := []) (lenOf pd_1 rfl) rfl (by show 2 * 0 + _ ≤ _; exact Nat.le_of_eq rfl) (hb hby at_9) (fun _ _ => ⟨rfl, e3, (by decide : 0 + 1 ≤ _), (by decide : 0 + 4 ≤ _)⟩)
  dsimp only [Pt.U, Pt.locs, Pt.cells, Pt.slots] at X5 l5 y5 z5 st5 hQ5
  subst l5 y5 z5
  obtain ⟨hv5, N5q, K5⟩ := hQ5
  rw [own_rt] at hv5
  subst hv5
  have N5 := Fr.app N3 N5q
  have go7 : Go p.tables e below T5 (mkF m 23 #[.val (.int p1), .val (.int p2), .val (.ref (pk4 wB wD wF wS p2)), .val (.int (1 : Int32)), .unset, .unset, .unset] [(.int p1)]) s₁ (entryFrame m #[(.int p1), (.int p2)] maxLocals) := by
    intro t k
    refine go6 t ?_
    show Steps _ _ _ (T3.setTop (mkF m 9 #[.val (.int p1), .val (.int p2), .val (.ref (pk4 wB wD wF wS p2)), .unset, .unset, .unset, .unset] [(.int (cd4 p2))])) _
    refine st5 _ ?_
    show Steps _ _ _ (T5.setTop (mkF m 12 #[.val (.int p1), .val (.int p2), .val (.ref (pk4 wB wD wF wS p2)), .unset, .unset, .unset, .unset] [(.ref (pk4 wB wD wF wS p2))])) _
    refine XS.aloadN X5.here hx rfl (hb hby at_12) rfl rfl ?_
    show Steps _ _ _ (T5.setTop (mkF m 13 #[.val (.int p1), .val (.int p2), .val (.ref (pk4 wB wD wF wS p2)), .unset, .unset, .unset, .unset] [(.ref (pk4 wB wD wF wS p2)), (.ref (pk4 wB wD wF wS p2))])) _
    refine Jvm.RoadKit.acmp (g := (mkF m 13 #[.val (.int p1), .val (.int p2), .val (.ref (pk4 wB wD wF wS p2)), .unset, .unset, .unset, .unset] [(.ref (pk4 wB wD wF wS p2)), (.ref (pk4 wB wD wF wS p2))])) X5 hx rfl rfl rfl (pc0 := 13) (pc' := 16) (same := true) rfl (hb hby at_13) rfl (decide_eq_true (congrArg Value.ref rfl)) (by decide) (by decide) ?_
    show Steps _ _ _ (T5.setTop (mkF m 16 #[.val (.int p1), .val (.int p2), .val (.ref (pk4 wB wD wF wS p2)), .unset, .unset, .unset, .unset] [])) _
    refine XS.iconst X5.here hx rfl (hb hby at_16) ?_
    show Steps _ _ _ (T5.setTop (mkF m 17 #[.val (.int p1), .val (.int p2), .val (.ref (pk4 wB wD wF wS p2)), .unset, .unset, .unset, .unset] [(.int (1 : Int32))])) _
    refine XS.goto X5.here hx rfl (pc0 := 17) (pc' := 21) rfl (hb hby at_17) (by decide) (by decide) ?_
    show Steps _ _ _ (T5.setTop (mkF m 21 #[.val (.int p1), .val (.int p2), .val (.ref (pk4 wB wD wF wS p2)), .unset, .unset, .unset, .unset] [(.int (1 : Int32))])) _
    refine XS.istoreN X5.here hx rfl (hb hby at_21) rfl (l' := #[.val (.int p1), .val (.int p2), .val (.ref (pk4 wB wD wF wS p2)), .val (.int (1 : Int32)), .unset, .unset, .unset]) rfl ?_
    show Steps _ _ _ (T5.setTop (mkF m 22 #[.val (.int p1), .val (.int p2), .val (.ref (pk4 wB wD wF wS p2)), .val (.int (1 : Int32)), .unset, .unset, .unset] [])) _
    refine XS.iloadN X5.here hx rfl (hb hby at_22) rfl ?_
    exact k
  rcases own_five p1 with hk | hk | hk | hk | hk
  · skip
    have f8 : Fld Z T5.heap wB "com/example/sketcher/sketcher/io/SketchFamily" "code" "I" (.int (1 : Int32)) := (F_wB.keep K5 nin0)
    have f9 : Fld Z T5.heap wD "com/example/sketcher/sketcher/io/SketchFamily" "code" "I" (.int (2 : Int32)) := (F_wD.keep K5 nin0)
    have f10 : Fld Z T5.heap wF "com/example/sketcher/sketcher/io/SketchFamily" "code" "I" (.int (3 : Int32)) := (F_wF.keep K5 nin0)
    have f11 : Fld Z T5.heap wS "com/example/sketcher/sketcher/io/SketchFamily" "code" "I" (.int (4 : Int32)) := (F_wS.keep K5 nin0)
    have f12 : Exa Z T5.heap wB "com/example/sketcher/sketcher/io/SketchFamily" := (E_wB.keep K5)
    have f13 : Exa Z T5.heap wD "com/example/sketcher/sketcher/io/SketchFamily" := (E_wD.keep K5)
    have f14 : Exa Z T5.heap wF "com/example/sketcher/sketcher/io/SketchFamily" := (E_wF.keep K5)
    have f15 : Exa Z T5.heap wS "com/example/sketcher/sketcher/io/SketchFamily" := (E_wS.keep K5)
    have f16 : Keep h0 T5.heap [] := ((Keep.refl h0 []).trans K5 all0)
    have f17 : n0 ≤ T5.heap.size := (Nat.le_trans Z0 K5.1)
    obtain ⟨_, _, ⟨T18, L18, k18, n18⟩, -, X18, ⟨Lc18, hQ18, l18, y18, z18⟩, st18⟩ := Jvm.LawKit.callS X5 hx (y := (⟨"com/example/sketcher/sketcher/io/SketchFamily", "ofCode", "(I)Lcom/example/sketcher/sketcher/io/SketchFamily;"⟩ : MethodName)) hown (mvT hZ (wk hw 14 rfl)) (mvT hZ (wk hw 15 rfl)) (mvT hZ (wk hw 5 rfl)) (mvT hZ (wk hw 16 rfl)) (by decide) (backOf (W := 0) (rm3 l Z a0 hw [] p1 wB wD wF wS wV cl T5.heap n0 f17 f8 f9 f10 f11 (S_V.ext (own_ext0 f16)) (Ar.ext (own_ext0 f16)) (E_V.ext (own_ext0 f16)) FC hsz hlen hin hat0 hat1 hat2 hat3) hZ (wk hw 16 rfl) (wk hw 5 rfl) (by decide) (by decide)) (g := (mkF m 23 #[.val (.int p1), .val (.int p2), .val (.ref (pk4 wB wD wF wS p2)), .val (.int (1 : Int32)), .unset, .unset, .unset] [(.int p1)])) rfl (by rw [hml]; rfl) (argsL := [(.int p1)]) (rest := []) (lenOf pd_1 rfl) rfl (by show 2 * 0 + _ ≤ _; exact Nat.le_of_eq rfl) (hb hby at_23) (fun _ _ => ⟨rfl, rfl, (by decide : 1 + 1 ≤ _), (by decide : 4 + 4 ≤ _)⟩)
    dsimp only [Pt.U, Pt.locs, Pt.cells, Pt.slots] at X18 l18 y18 z18 st18 hQ18
    subst l18 y18 z18
    obtain ⟨hv18, N18q, K18⟩ := hQ18
    rw [hk, own_ofc1] at hv18
    subst hv18
    have N18 := Fr.app N5 N18q
    have go20 : Go p.tables e below T18 (mkF m 29 #[.val (.int p1), .val (.int p2), .val (.ref (pk4 wB wD wF wS p2)), .val (.int (1 : Int32)), .val (.ref wB), .unset, .unset] [(.int p1)]) s₁ (entryFrame m #[(.int p1), (.int p2)] maxLocals) := by
      intro t k
      refine go7 t ?_
      show Steps _ _ _ (T5.setTop (mkF m 23 #[.val (.int p1), .val (.int p2), .val (.ref (pk4 wB wD wF wS p2)), .val (.int (1 : Int32)), .unset, .unset, .unset] [(.int p1)])) _
      refine st18 _ ?_
      show Steps _ _ _ (T18.setTop (mkF m 26 #[.val (.int p1), .val (.int p2), .val (.ref (pk4 wB wD wF wS p2)), .val (.int (1 : Int32)), .unset, .unset, .unset] [(.ref wB)])) _
      refine XS.astore X18.here hx rfl (hb hby at_26) rfl rfl (l' := #[.val (.int p1), .val (.int p2), .val (.ref (pk4 wB wD wF wS p2)), .val (.int (1 : Int32)), .val (.ref wB), .unset, .unset]) rfl ?_
      show Steps _ _ _ (T18.setTop (mkF m 28 #[.val (.int p1), .val (.int p2), .val (.ref (pk4 wB wD wF wS p2)), .val (.int (1 : Int32)), .val (.ref wB), .unset, .unset] [])) _
      refine XS.iloadN X18.here hx rfl (hb hby at_28) rfl ?_
      exact k
    have f19 : Keep h0 T18.heap [] := (f16.trans K18 all0)
    obtain ⟨T21, X21, e21, st21⟩ := getS2 X18 hx hZ hown (host := "") (Or.inl (wk hw 35 rfl)) Via.refl rfl (S_wB.ext (own_ext0 f19)) (g := (mkF m 29 #[.val (.int p1), .val (.int p2), .val (.ref (pk4 wB wD wF wS p2)), .val (.int (1 : Int32)), .val (.ref wB), .unset, .unset] [(.int p1)])) rfl (hb hby at_29)
    have go23 : Go p.tables e below T21 (mkF m 32 #[.val (.int p1), .val (.int p2), .val (.ref (pk4 wB wD wF wS p2)), .val (.int (1 : Int32)), .val (.ref wB), .unset, .unset] [(.ref wB), (.int p1)]) s₁ (entryFrame m #[(.int p1), (.int p2)] maxLocals) := by
      intro t k
      refine go20 t ?_
      show Steps _ _ _ (T18.setTop (mkF m 29 #[.val (.int p1), .val (.int p2), .val (.ref (pk4 wB wD wF wS p2)), .val (.int (1 : Int32)), .val (.ref wB), .unset, .unset] [(.int p1)])) _
      refine st21 _ ?_
      exact k
    have f22 : Fld Z T18.heap wB "com/example/sketcher/sketcher/io/SketchFamily" "code" "I" (.int (1 : Int32)) := (f8.keep K18 nin0)
    have f24 : Fld Z T18.heap wD "com/example/sketcher/sketcher/io/SketchFamily" "code" "I" (.int (2 : Int32)) := (f9.keep K18 nin0)
    have f25 : Fld Z T18.heap wF "com/example/sketcher/sketcher/io/SketchFamily" "code" "I" (.int (3 : Int32)) := (f10.keep K18 nin0)
    have f26 : Fld Z T18.heap wS "com/example/sketcher/sketcher/io/SketchFamily" "code" "I" (.int (4 : Int32)) := (f11.keep K18 nin0)
    have f27 : Exa Z T18.heap wB "com/example/sketcher/sketcher/io/SketchFamily" := (f12.keep K18)
    have f28 : Exa Z T18.heap wD "com/example/sketcher/sketcher/io/SketchFamily" := (f13.keep K18)
    have f29 : Exa Z T18.heap wF "com/example/sketcher/sketcher/io/SketchFamily" := (f14.keep K18)
    have f30 : Exa Z T18.heap wS "com/example/sketcher/sketcher/io/SketchFamily" := (f15.keep K18)
    have f31 : n0 ≤ T18.heap.size := (Nat.le_trans f17 K18.1)
    obtain ⟨cq32, kq32, q32a, q32b, q32c⟩ := isOf hZ e21 f27
    obtain ⟨_, _, ⟨T32, L32, k32, n32⟩, -, X32, ⟨Lc32, hQ32, l32, y32, z32⟩, st32⟩ := X21.virtualBack hx (y := (⟨"com/example/sketcher/sketcher/io/SketchFamily", "code", "()I"⟩ : MethodName)) (z := (⟨"com/example/sketcher/sketcher/io/SketchFamily", "code", "()I"⟩ : MethodName)) hown (mvT hZ (wk hw 7 rfl)) (mvT hZ (wk hw 8 rfl)) (notFace_of_selects (args := #[]) (mvT hZ (wk hw 10 rfl))) (mvT hZ (wk hw 10 rfl)) (mvT hZ (wk hw 9 rfl)) (by decide) (backOf (W := 1) (rm2 l Z a0 hw [] wB (1 : Int32) T18.heap n0 f31 f22) hZ (wk hw 11 rfl) (wk hw 5 rfl) (by decide) (by decide)) q32a q32c (g := (mkF m 32 #[.val (.int p1), .val (.int p2), .val (.ref (pk4 wB wD wF wS p2)), .val (.int (1 : Int32)), .val (.ref wB), .unset, .unset] [(.ref wB), (.int p1)])) rfl (by rw [hml]; rfl) (Steps.refl _) (argsL := []) (rest := [(.int p1)]) (lenOf pd_2 rfl) rfl (by show 2 * 0 + _ ≤ _; exact Nat.le_of_eq rfl) (hb hby at_32) (fun _ _ => ⟨rfl, e21, (by decide : 2 + 0 ≤ _), (by decide : 8 + 0 ≤ _)⟩)
    dsimp only [Pt.U, Pt.locs, Pt.cells, Pt.slots] at X32 l32 y32 z32 st32 hQ32
    subst l32 y32 z32
    obtain ⟨rfl, N32q, e32⟩ := hQ32
    have N32 := Fr.app N18 N32q
    have go34 : Go p.tables e below T32 (mkF m 97 #[.val (.int p1), .val (.int p2), .val (.ref (pk4 wB wD wF wS p2)), .val (.int (1 : Int32)), .val (.ref wB), .val (.int (1 : Int32)), .unset] [(.ref wB)]) s₁ (entryFrame m #[(.int p1), (.int p2)] maxLocals) := by
      intro t k
      refine go23 t ?_
      show Steps _ _ _ (T21.setTop (mkF m 32 #[.val (.int p1), .val (.int p2), .val (.ref (pk4 wB wD wF wS p2)), .val (.int (1 : Int32)), .val (.ref wB), .unset, .unset] [(.ref wB), (.int p1)])) _
      refine st32.trans ?_
      show Steps _ _ _ (T32.setTop (mkF m 35 #[.val (.int p1), .val (.int p2), .val (.ref (pk4 wB wD wF wS p2)), .val (.int (1 : Int32)), .val (.ref wB), .unset, .unset] [(.int (1 : Int32)), (.int p1)])) _
      refine XS.icmpYes X32.here hx rfl (pc0 := 35) (pc' := 68) rfl (hb hby at_35) rfl (teq hk).1 (by decide) (by decide) ?_
      show Steps _ _ _ (T32.setTop (mkF m 68 #[.val (.int p1), .val (.int p2), .val (.ref (pk4 wB wD wF wS p2)), .val (.int (1 : Int32)), .val (.ref wB), .unset, .unset] [])) _
      refine XS.iconst X32.here hx rfl (hb hby at_68) ?_
      show Steps _ _ _ (T32.setTop (mkF m 69 #[.val (.int p1), .val (.int p2), .val (.ref (pk4 wB wD wF wS p2)), .val (.int (1 : Int32)), .val (.ref wB), .unset, .unset] [(.int (1 : Int32))])) _
      refine XS.goto X32.here hx rfl (pc0 := 69) (pc' := 73) rfl (hb hby at_69) (by decide) (by decide) ?_
      show Steps _ _ _ (T32.setTop (mkF m 73 #[.val (.int p1), .val (.int p2), .val (.ref (pk4 wB wD wF wS p2)), .val (.int (1 : Int32)), .val (.ref wB), .unset, .unset] [(.int (1 : Int32))])) _
      refine XS.istore X32.here hx rfl (hb hby at_73) rfl (l' := #[.val (.int p1), .val (.int p2), .val (.ref (pk4 wB wD wF wS p2)), .val (.int (1 : Int32)), .val (.ref wB), .val (.int (1 : Int32)), .unset]) rfl ?_
      show Steps _ _ _ (T32.setTop (mkF m 75 #[.val (.int p1), .val (.int p2), .val (.ref (pk4 wB wD wF wS p2)), .val (.int (1 : Int32)), .val (.ref wB), .val (.int (1 : Int32)), .unset] [])) _
      refine XS.aload X32.here hx rfl (hb hby at_75) rfl rfl ?_
      show Steps _ _ _ (T32.setTop (mkF m 77 #[.val (.int p1), .val (.int p2), .val (.ref (pk4 wB wD wF wS p2)), .val (.int (1 : Int32)), .val (.ref wB), .val (.int (1 : Int32)), .unset] [(.ref wB)])) _
      refine XS.ifnonnullYes X32.here hx rfl (pc0 := 77) (pc' := 95) rfl (hb hby at_77) rfl (by decide) (by decide) ?_
      show Steps _ _ _ (T32.setTop (mkF m 95 #[.val (.int p1), .val (.int p2), .val (.ref (pk4 wB wD wF wS p2)), .val (.int (1 : Int32)), .val (.ref wB), .val (.int (1 : Int32)), .unset] [])) _
      refine XS.aload X32.here hx rfl (hb hby at_95) rfl rfl ?_
      exact k
    obtain ⟨cq33, kq33, q33a, q33b, q33c⟩ := isOf hZ e32 f27
    obtain ⟨_, _, ⟨T33, L33, k33, n33⟩, -, X33, ⟨Lc33, hQ33, l33, y33, z33⟩, st33⟩ := X32.virtualBack hx (y := (⟨"com/example/sketcher/sketcher/io/SketchFamily", "code", "()I"⟩ : MethodName)) (z := (⟨"com/example/sketcher/sketcher/io/SketchFamily", "code", "()I"⟩ : MethodName)) hown (mvT hZ (wk hw 7 rfl)) (mvT hZ (wk hw 8 rfl)) (notFace_of_selects (args := #[]) (mvT hZ (wk hw 10 rfl))) (mvT hZ (wk hw 10 rfl)) (mvT hZ (wk hw 9 rfl)) (by decide) (backOf (W := 0) (rm2 l Z a0 hw [] wB (1 : Int32) T18.heap n0 f31 f22) hZ (wk hw 11 rfl) (wk hw 5 rfl) (by decide) (by decide)) q33a q33c (g := (mkF m 97 #[.val (.int p1), .val (.int p2), .val (.ref (pk4 wB wD wF wS p2)), .val (.int (1 : Int32)), .val (.ref wB), .val (.int (1 : Int32)), .unset] [(.ref wB)])) rfl (by rw [hml]; rfl) (Steps.refl _) (argsL := []) (rest := []) (lenOf pd_2 rfl) rfl (by show 2 * 0 + _ ≤ _; exact Nat.le_of_eq rfl) (hb hby at_97) (fun _ _ => ⟨rfl, e32, (by decide : 2 + 0 ≤ _), (by decide : 8 + 0 ≤ _)⟩)
    dsimp only [Pt.U, Pt.locs, Pt.cells, Pt.slots] at X33 l33 y33 z33 st33 hQ33
    subst l33 y33 z33
    obtain ⟨rfl, N33q, e33⟩ := hQ33
    have N33 := Fr.app N32 N33q
    have go35 : Go p.tables e below T33 (mkF m 125 #[.val (.int p1), .val (.int p2), .val (.ref (pk4 wB wD wF wS p2)), .val (.int (1 : Int32)), .val (.ref wB), .val (.int (1 : Int32)), .val (.int (1 : Int32))] [(.int (1 : Int32))]) s₁ (entryFrame m #[(.int p1), (.int p2)] maxLocals) := by
      intro t k
      refine go34 t ?_
      show Steps _ _ _ (T32.setTop (mkF m 97 #[.val (.int p1), .val (.int p2), .val (.ref (pk4 wB wD wF wS p2)), .val (.int (1 : Int32)), .val (.ref wB), .val (.int (1 : Int32)), .unset] [(.ref wB)])) _
      refine st33.trans ?_
      show Steps _ _ _ (T33.setTop (mkF m 100 #[.val (.int p1), .val (.int p2), .val (.ref (pk4 wB wD wF wS p2)), .val (.int (1 : Int32)), .val (.ref wB), .val (.int (1 : Int32)), .unset] [(.int (1 : Int32))])) _
      refine XS.iloadN X33.here hx rfl (hb hby at_100) rfl ?_
      show Steps _ _ _ (T33.setTop (mkF m 101 #[.val (.int p1), .val (.int p2), .val (.ref (pk4 wB wD wF wS p2)), .val (.int (1 : Int32)), .val (.ref wB), .val (.int (1 : Int32)), .unset] [(.int p1), (.int (1 : Int32))])) _
      refine XS.icmpNo X33.here hx rfl (hb hby at_101) rfl (teq hk.symm).2 ?_
      show Steps _ _ _ (T33.setTop (mkF m 104 #[.val (.int p1), .val (.int p2), .val (.ref (pk4 wB wD wF wS p2)), .val (.int (1 : Int32)), .val (.ref wB), .val (.int (1 : Int32)), .unset] [])) _
      refine XS.iconst X33.here hx rfl (hb hby at_104) ?_
      show Steps _ _ _ (T33.setTop (mkF m 105 #[.val (.int p1), .val (.int p2), .val (.ref (pk4 wB wD wF wS p2)), .val (.int (1 : Int32)), .val (.ref wB), .val (.int (1 : Int32)), .unset] [(.int (1 : Int32))])) _
      refine XS.goto X33.here hx rfl (pc0 := 105) (pc' := 109) rfl (hb hby at_105) (by decide) (by decide) ?_
      show Steps _ _ _ (T33.setTop (mkF m 109 #[.val (.int p1), .val (.int p2), .val (.ref (pk4 wB wD wF wS p2)), .val (.int (1 : Int32)), .val (.ref wB), .val (.int (1 : Int32)), .unset] [(.int (1 : Int32))])) _
      refine XS.istore X33.here hx rfl (hb hby at_109) rfl (l' := #[.val (.int p1), .val (.int p2), .val (.ref (pk4 wB wD wF wS p2)), .val (.int (1 : Int32)), .val (.ref wB), .val (.int (1 : Int32)), .val (.int (1 : Int32))]) rfl ?_
      show Steps _ _ _ (T33.setTop (mkF m 111 #[.val (.int p1), .val (.int p2), .val (.ref (pk4 wB wD wF wS p2)), .val (.int (1 : Int32)), .val (.ref wB), .val (.int (1 : Int32)), .val (.int (1 : Int32))] [])) _
      refine XS.iloadN X33.here hx rfl (hb hby at_111) rfl ?_
      show Steps _ _ _ (T33.setTop (mkF m 112 #[.val (.int p1), .val (.int p2), .val (.ref (pk4 wB wD wF wS p2)), .val (.int (1 : Int32)), .val (.ref wB), .val (.int (1 : Int32)), .val (.int (1 : Int32))] [(.int (1 : Int32))])) _
      refine XS.ifNo X33.here hx rfl (hb hby at_112) rfl ((if0 _ _).trans (feq (by decide)).1) ?_
      show Steps _ _ _ (T33.setTop (mkF m 115 #[.val (.int p1), .val (.int p2), .val (.ref (pk4 wB wD wF wS p2)), .val (.int (1 : Int32)), .val (.ref wB), .val (.int (1 : Int32)), .val (.int (1 : Int32))] [])) _
      refine XS.iload X33.here hx rfl (hb hby at_115) rfl ?_
      show Steps _ _ _ (T33.setTop (mkF m 117 #[.val (.int p1), .val (.int p2), .val (.ref (pk4 wB wD wF wS p2)), .val (.int (1 : Int32)), .val (.ref wB), .val (.int (1 : Int32)), .val (.int (1 : Int32))] [(.int (1 : Int32))])) _
      refine XS.ifNo X33.here hx rfl (hb hby at_117) rfl ((if0 _ _).trans (feq (by decide)).1) ?_
      show Steps _ _ _ (T33.setTop (mkF m 120 #[.val (.int p1), .val (.int p2), .val (.ref (pk4 wB wD wF wS p2)), .val (.int (1 : Int32)), .val (.ref wB), .val (.int (1 : Int32)), .val (.int (1 : Int32))] [])) _
      refine XS.iconst X33.here hx rfl (hb hby at_120) ?_
      show Steps _ _ _ (T33.setTop (mkF m 121 #[.val (.int p1), .val (.int p2), .val (.ref (pk4 wB wD wF wS p2)), .val (.int (1 : Int32)), .val (.ref wB), .val (.int (1 : Int32)), .val (.int (1 : Int32))] [(.int (1 : Int32))])) _
      refine XS.goto X33.here hx rfl (pc0 := 121) (pc' := 125) rfl (hb hby at_121) (by decide) (by decide) ?_
      exact k
    obtain ⟨fs, hr, hrun, hended, hW, hsame⟩ := X33.leave (v := some (.int (1 : Int32))) (fun h => by rw [Bd.returns] at h; cases h)
    refine ⟨_, _, go35 _ ?_, hrun, hended, _, _, rfl, ?_, ⟨_, rfl⟩, hW, hsame.mono (by decide) (by decide)⟩
    · exact retN X33 hx (t := .boolean) Bd.returns (by simp) (hb hby at_125) hr
    · show QL (.int 1) h0 n0 _ T33.heap _
      rw [e33]
      exact ⟨rfl, N33⟩
  · skip
    have f36 : Fld Z T5.heap wB "com/example/sketcher/sketcher/io/SketchFamily" "code" "I" (.int (1 : Int32)) := (F_wB.keep K5 nin0)
    have f37 : Fld Z T5.heap wD "com/example/sketcher/sketcher/io/SketchFamily" "code" "I" (.int (2 : Int32)) := (F_wD.keep K5 nin0)
    have f38 : Fld Z T5.heap wF "com/example/sketcher/sketcher/io/SketchFamily" "code" "I" (.int (3 : Int32)) := (F_wF.keep K5 nin0)
    have f39 : Fld Z T5.heap wS "com/example/sketcher/sketcher/io/SketchFamily" "code" "I" (.int (4 : Int32)) := (F_wS.keep K5 nin0)
    have f40 : Exa Z T5.heap wB "com/example/sketcher/sketcher/io/SketchFamily" := (E_wB.keep K5)
    have f41 : Exa Z T5.heap wD "com/example/sketcher/sketcher/io/SketchFamily" := (E_wD.keep K5)
    have f42 : Exa Z T5.heap wF "com/example/sketcher/sketcher/io/SketchFamily" := (E_wF.keep K5)
    have f43 : Exa Z T5.heap wS "com/example/sketcher/sketcher/io/SketchFamily" := (E_wS.keep K5)
    have f44 : Keep h0 T5.heap [] := ((Keep.refl h0 []).trans K5 all0)
    have f45 : n0 ≤ T5.heap.size := (Nat.le_trans Z0 K5.1)
    obtain ⟨_, _, ⟨T46, L46, k46, n46⟩, -, X46, ⟨Lc46, hQ46, l46, y46, z46⟩, st46⟩ := Jvm.LawKit.callS X5 hx (y := (⟨"com/example/sketcher/sketcher/io/SketchFamily", "ofCode", "(I)Lcom/example/sketcher/sketcher/io/SketchFamily;"⟩ : MethodName)) hown (mvT hZ (wk hw 14 rfl)) (mvT hZ (wk hw 15 rfl)) (mvT hZ (wk hw 5 rfl)) (mvT hZ (wk hw 16 rfl)) (by decide) (backOf (W := 0) (rm3 l Z a0 hw [] p1 wB wD wF wS wV cl T5.heap n0 f45 f36 f37 f38 f39 (S_V.ext (own_ext0 f44)) (Ar.ext (own_ext0 f44)) (E_V.ext (own_ext0 f44)) FC hsz hlen hin hat0 hat1 hat2 hat3) hZ (wk hw 16 rfl) (wk hw 5 rfl) (by decide) (by decide)) (g := (mkF m 23 #[.val (.int p1), .val (.int p2), .val (.ref (pk4 wB wD wF wS p2)), .val (.int (1 : Int32)), .unset, .unset, .unset] [(.int p1)])) rfl (by rw [hml]; rfl) (argsL := [(.int p1)]) (rest := []) (lenOf pd_1 rfl) rfl (by show 2 * 0 + _ ≤ _; exact Nat.le_of_eq rfl) (hb hby at_23) (fun _ _ => ⟨rfl, rfl, (by decide : 1 + 1 ≤ _), (by decide : 4 + 4 ≤ _)⟩)
    dsimp only [Pt.U, Pt.locs, Pt.cells, Pt.slots] at X46 l46 y46 z46 st46 hQ46
    subst l46 y46 z46
    obtain ⟨hv46, N46q, K46⟩ := hQ46
    rw [hk, own_ofc2] at hv46
    subst hv46
    have N46 := Fr.app N5 N46q
    have go48 : Go p.tables e below T46 (mkF m 29 #[.val (.int p1), .val (.int p2), .val (.ref (pk4 wB wD wF wS p2)), .val (.int (1 : Int32)), .val (.ref wD), .unset, .unset] [(.int p1)]) s₁ (entryFrame m #[(.int p1), (.int p2)] maxLocals) := by
      intro t k
      refine go7 t ?_
      show Steps _ _ _ (T5.setTop (mkF m 23 #[.val (.int p1), .val (.int p2), .val (.ref (pk4 wB wD wF wS p2)), .val (.int (1 : Int32)), .unset, .unset, .unset] [(.int p1)])) _
      refine st46 _ ?_
      show Steps _ _ _ (T46.setTop (mkF m 26 #[.val (.int p1), .val (.int p2), .val (.ref (pk4 wB wD wF wS p2)), .val (.int (1 : Int32)), .unset, .unset, .unset] [(.ref wD)])) _
      refine XS.astore X46.here hx rfl (hb hby at_26) rfl rfl (l' := #[.val (.int p1), .val (.int p2), .val (.ref (pk4 wB wD wF wS p2)), .val (.int (1 : Int32)), .val (.ref wD), .unset, .unset]) rfl ?_
      show Steps _ _ _ (T46.setTop (mkF m 28 #[.val (.int p1), .val (.int p2), .val (.ref (pk4 wB wD wF wS p2)), .val (.int (1 : Int32)), .val (.ref wD), .unset, .unset] [])) _
      refine XS.iloadN X46.here hx rfl (hb hby at_28) rfl ?_
      exact k
    have f47 : Keep h0 T46.heap [] := (f44.trans K46 all0)
    obtain ⟨T49, X49, e49, st49⟩ := getS2 X46 hx hZ hown (host := "") (Or.inl (wk hw 35 rfl)) Via.refl rfl (S_wB.ext (own_ext0 f47)) (g := (mkF m 29 #[.val (.int p1), .val (.int p2), .val (.ref (pk4 wB wD wF wS p2)), .val (.int (1 : Int32)), .val (.ref wD), .unset, .unset] [(.int p1)])) rfl (hb hby at_29)
    have go51 : Go p.tables e below T49 (mkF m 32 #[.val (.int p1), .val (.int p2), .val (.ref (pk4 wB wD wF wS p2)), .val (.int (1 : Int32)), .val (.ref wD), .unset, .unset] [(.ref wB), (.int p1)]) s₁ (entryFrame m #[(.int p1), (.int p2)] maxLocals) := by
      intro t k
      refine go48 t ?_
      show Steps _ _ _ (T46.setTop (mkF m 29 #[.val (.int p1), .val (.int p2), .val (.ref (pk4 wB wD wF wS p2)), .val (.int (1 : Int32)), .val (.ref wD), .unset, .unset] [(.int p1)])) _
      refine st49 _ ?_
      exact k
    have f50 : Fld Z T46.heap wB "com/example/sketcher/sketcher/io/SketchFamily" "code" "I" (.int (1 : Int32)) := (f36.keep K46 nin0)
    have f52 : Fld Z T46.heap wD "com/example/sketcher/sketcher/io/SketchFamily" "code" "I" (.int (2 : Int32)) := (f37.keep K46 nin0)
    have f53 : Fld Z T46.heap wF "com/example/sketcher/sketcher/io/SketchFamily" "code" "I" (.int (3 : Int32)) := (f38.keep K46 nin0)
    have f54 : Fld Z T46.heap wS "com/example/sketcher/sketcher/io/SketchFamily" "code" "I" (.int (4 : Int32)) := (f39.keep K46 nin0)
    have f55 : Exa Z T46.heap wB "com/example/sketcher/sketcher/io/SketchFamily" := (f40.keep K46)
    have f56 : Exa Z T46.heap wD "com/example/sketcher/sketcher/io/SketchFamily" := (f41.keep K46)
    have f57 : Exa Z T46.heap wF "com/example/sketcher/sketcher/io/SketchFamily" := (f42.keep K46)
    have f58 : Exa Z T46.heap wS "com/example/sketcher/sketcher/io/SketchFamily" := (f43.keep K46)
    have f59 : n0 ≤ T46.heap.size := (Nat.le_trans f45 K46.1)
    obtain ⟨cq60, kq60, q60a, q60b, q60c⟩ := isOf hZ e49 f55
    obtain ⟨_, _, ⟨T60, L60, k60, n60⟩, -, X60, ⟨Lc60, hQ60, l60, y60, z60⟩, st60⟩ := X49.virtualBack hx (y := (⟨"com/example/sketcher/sketcher/io/SketchFamily", "code", "()I"⟩ : MethodName)) (z := (⟨"com/example/sketcher/sketcher/io/SketchFamily", "code", "()I"⟩ : MethodName)) hown (mvT hZ (wk hw 7 rfl)) (mvT hZ (wk hw 8 rfl)) (notFace_of_selects (args := #[]) (mvT hZ (wk hw 10 rfl))) (mvT hZ (wk hw 10 rfl)) (mvT hZ (wk hw 9 rfl)) (by decide) (backOf (W := 1) (rm2 l Z a0 hw [] wB (1 : Int32) T46.heap n0 f59 f50) hZ (wk hw 11 rfl) (wk hw 5 rfl) (by decide) (by decide)) q60a q60c (g := (mkF m 32 #[.val (.int p1), .val (.int p2), .val (.ref (pk4 wB wD wF wS p2)), .val (.int (1 : Int32)), .val (.ref wD), .unset, .unset] [(.ref wB), (.int p1)])) rfl (by rw [hml]; rfl) (Steps.refl _) (argsL := []) (rest := [(.int p1)]) (lenOf pd_2 rfl) rfl (by show 2 * 0 + _ ≤ _; exact Nat.le_of_eq rfl) (hb hby at_32) (fun _ _ => ⟨rfl, e49, (by decide : 2 + 0 ≤ _), (by decide : 8 + 0 ≤ _)⟩)
    dsimp only [Pt.U, Pt.locs, Pt.cells, Pt.slots] at X60 l60 y60 z60 st60 hQ60
    subst l60 y60 z60
    obtain ⟨rfl, N60q, e60⟩ := hQ60
    have N60 := Fr.app N46 N60q
    have go61 : Go p.tables e below T60 (mkF m 39 #[.val (.int p1), .val (.int p2), .val (.ref (pk4 wB wD wF wS p2)), .val (.int (1 : Int32)), .val (.ref wD), .unset, .unset] [(.int p1)]) s₁ (entryFrame m #[(.int p1), (.int p2)] maxLocals) := by
      intro t k
      refine go51 t ?_
      show Steps _ _ _ (T49.setTop (mkF m 32 #[.val (.int p1), .val (.int p2), .val (.ref (pk4 wB wD wF wS p2)), .val (.int (1 : Int32)), .val (.ref wD), .unset, .unset] [(.ref wB), (.int p1)])) _
      refine st60.trans ?_
      show Steps _ _ _ (T60.setTop (mkF m 35 #[.val (.int p1), .val (.int p2), .val (.ref (pk4 wB wD wF wS p2)), .val (.int (1 : Int32)), .val (.ref wD), .unset, .unset] [(.int (1 : Int32)), (.int p1)])) _
      refine XS.icmpNo X60.here hx rfl (hb hby at_35) rfl (feq (by rw [hk]; decide)).1 ?_
      show Steps _ _ _ (T60.setTop (mkF m 38 #[.val (.int p1), .val (.int p2), .val (.ref (pk4 wB wD wF wS p2)), .val (.int (1 : Int32)), .val (.ref wD), .unset, .unset] [])) _
      refine XS.iloadN X60.here hx rfl (hb hby at_38) rfl ?_
      exact k
    obtain ⟨T62, X62, e62, st62⟩ := getS2 X60 hx hZ hown (host := "") (Or.inl (wk hw 36 rfl)) Via.refl e60 (S_wD.ext (own_ext0 f47)) (g := (mkF m 39 #[.val (.int p1), .val (.int p2), .val (.ref (pk4 wB wD wF wS p2)), .val (.int (1 : Int32)), .val (.ref wD), .unset, .unset] [(.int p1)])) rfl (hb hby at_39)
    have go64 : Go p.tables e below T62 (mkF m 42 #[.val (.int p1), .val (.int p2), .val (.ref (pk4 wB wD wF wS p2)), .val (.int (1 : Int32)), .val (.ref wD), .unset, .unset] [(.ref wD), (.int p1)]) s₁ (entryFrame m #[(.int p1), (.int p2)] maxLocals) := by
      intro t k
      refine go61 t ?_
      show Steps _ _ _ (T60.setTop (mkF m 39 #[.val (.int p1), .val (.int p2), .val (.ref (pk4 wB wD wF wS p2)), .val (.int (1 : Int32)), .val (.ref wD), .unset, .unset] [(.int p1)])) _
      refine st62 _ ?_
      exact k
    obtain ⟨cq63, kq63, q63a, q63b, q63c⟩ := isOf hZ e62 f56
    obtain ⟨_, _, ⟨T63, L63, k63, n63⟩, -, X63, ⟨Lc63, hQ63, l63, y63, z63⟩, st63⟩ := X62.virtualBack hx (y := (⟨"com/example/sketcher/sketcher/io/SketchFamily", "code", "()I"⟩ : MethodName)) (z := (⟨"com/example/sketcher/sketcher/io/SketchFamily", "code", "()I"⟩ : MethodName)) hown (mvT hZ (wk hw 7 rfl)) (mvT hZ (wk hw 8 rfl)) (notFace_of_selects (args := #[]) (mvT hZ (wk hw 10 rfl))) (mvT hZ (wk hw 10 rfl)) (mvT hZ (wk hw 9 rfl)) (by decide) (backOf (W := 1) (rm2 l Z a0 hw [] wD (2 : Int32) T46.heap n0 f59 f52) hZ (wk hw 11 rfl) (wk hw 5 rfl) (by decide) (by decide)) q63a q63c (g := (mkF m 42 #[.val (.int p1), .val (.int p2), .val (.ref (pk4 wB wD wF wS p2)), .val (.int (1 : Int32)), .val (.ref wD), .unset, .unset] [(.ref wD), (.int p1)])) rfl (by rw [hml]; rfl) (Steps.refl _) (argsL := []) (rest := [(.int p1)]) (lenOf pd_2 rfl) rfl (by show 2 * 0 + _ ≤ _; exact Nat.le_of_eq rfl) (hb hby at_42) (fun _ _ => ⟨rfl, e62, (by decide : 2 + 0 ≤ _), (by decide : 8 + 0 ≤ _)⟩)
    dsimp only [Pt.U, Pt.locs, Pt.cells, Pt.slots] at X63 l63 y63 z63 st63 hQ63
    subst l63 y63 z63
    obtain ⟨rfl, N63q, e63⟩ := hQ63
    have N63 := Fr.app N60 N63q
    have go66 : Go p.tables e below T63 (mkF m 97 #[.val (.int p1), .val (.int p2), .val (.ref (pk4 wB wD wF wS p2)), .val (.int (1 : Int32)), .val (.ref wD), .val (.int (1 : Int32)), .unset] [(.ref wD)]) s₁ (entryFrame m #[(.int p1), (.int p2)] maxLocals) := by
      intro t k
      refine go64 t ?_
      show Steps _ _ _ (T62.setTop (mkF m 42 #[.val (.int p1), .val (.int p2), .val (.ref (pk4 wB wD wF wS p2)), .val (.int (1 : Int32)), .val (.ref wD), .unset, .unset] [(.ref wD), (.int p1)])) _
      refine st63.trans ?_
      show Steps _ _ _ (T63.setTop (mkF m 45 #[.val (.int p1), .val (.int p2), .val (.ref (pk4 wB wD wF wS p2)), .val (.int (1 : Int32)), .val (.ref wD), .unset, .unset] [(.int (2 : Int32)), (.int p1)])) _
      refine XS.icmpYes X63.here hx rfl (pc0 := 45) (pc' := 68) rfl (hb hby at_45) rfl (teq hk).1 (by decide) (by decide) ?_
      show Steps _ _ _ (T63.setTop (mkF m 68 #[.val (.int p1), .val (.int p2), .val (.ref (pk4 wB wD wF wS p2)), .val (.int (1 : Int32)), .val (.ref wD), .unset, .unset] [])) _
      refine XS.iconst X63.here hx rfl (hb hby at_68) ?_
      show Steps _ _ _ (T63.setTop (mkF m 69 #[.val (.int p1), .val (.int p2), .val (.ref (pk4 wB wD wF wS p2)), .val (.int (1 : Int32)), .val (.ref wD), .unset, .unset] [(.int (1 : Int32))])) _
      refine XS.goto X63.here hx rfl (pc0 := 69) (pc' := 73) rfl (hb hby at_69) (by decide) (by decide) ?_
      show Steps _ _ _ (T63.setTop (mkF m 73 #[.val (.int p1), .val (.int p2), .val (.ref (pk4 wB wD wF wS p2)), .val (.int (1 : Int32)), .val (.ref wD), .unset, .unset] [(.int (1 : Int32))])) _
      refine XS.istore X63.here hx rfl (hb hby at_73) rfl (l' := #[.val (.int p1), .val (.int p2), .val (.ref (pk4 wB wD wF wS p2)), .val (.int (1 : Int32)), .val (.ref wD), .val (.int (1 : Int32)), .unset]) rfl ?_
      show Steps _ _ _ (T63.setTop (mkF m 75 #[.val (.int p1), .val (.int p2), .val (.ref (pk4 wB wD wF wS p2)), .val (.int (1 : Int32)), .val (.ref wD), .val (.int (1 : Int32)), .unset] [])) _
      refine XS.aload X63.here hx rfl (hb hby at_75) rfl rfl ?_
      show Steps _ _ _ (T63.setTop (mkF m 77 #[.val (.int p1), .val (.int p2), .val (.ref (pk4 wB wD wF wS p2)), .val (.int (1 : Int32)), .val (.ref wD), .val (.int (1 : Int32)), .unset] [(.ref wD)])) _
      refine XS.ifnonnullYes X63.here hx rfl (pc0 := 77) (pc' := 95) rfl (hb hby at_77) rfl (by decide) (by decide) ?_
      show Steps _ _ _ (T63.setTop (mkF m 95 #[.val (.int p1), .val (.int p2), .val (.ref (pk4 wB wD wF wS p2)), .val (.int (1 : Int32)), .val (.ref wD), .val (.int (1 : Int32)), .unset] [])) _
      refine XS.aload X63.here hx rfl (hb hby at_95) rfl rfl ?_
      exact k
    obtain ⟨cq65, kq65, q65a, q65b, q65c⟩ := isOf hZ e63 f56
    obtain ⟨_, _, ⟨T65, L65, k65, n65⟩, -, X65, ⟨Lc65, hQ65, l65, y65, z65⟩, st65⟩ := X63.virtualBack hx (y := (⟨"com/example/sketcher/sketcher/io/SketchFamily", "code", "()I"⟩ : MethodName)) (z := (⟨"com/example/sketcher/sketcher/io/SketchFamily", "code", "()I"⟩ : MethodName)) hown (mvT hZ (wk hw 7 rfl)) (mvT hZ (wk hw 8 rfl)) (notFace_of_selects (args := #[]) (mvT hZ (wk hw 10 rfl))) (mvT hZ (wk hw 10 rfl)) (mvT hZ (wk hw 9 rfl)) (by decide) (backOf (W := 0) (rm2 l Z a0 hw [] wD (2 : Int32) T46.heap n0 f59 f52) hZ (wk hw 11 rfl) (wk hw 5 rfl) (by decide) (by decide)) q65a q65c (g := (mkF m 97 #[.val (.int p1), .val (.int p2), .val (.ref (pk4 wB wD wF wS p2)), .val (.int (1 : Int32)), .val (.ref wD), .val (.int (1 : Int32)), .unset] [(.ref wD)])) rfl (by rw [hml]; rfl) (Steps.refl _) (argsL := []) (rest := []) (lenOf pd_2 rfl) rfl (by show 2 * 0 + _ ≤ _; exact Nat.le_of_eq rfl) (hb hby at_97) (fun _ _ => ⟨rfl, e63, (by decide : 2 + 0 ≤ _), (by decide : 8 + 0 ≤ _)⟩)
    dsimp only [Pt.U, Pt.locs, Pt.cells, Pt.slots] at X65 l65 y65 z65 st65 hQ65
    subst l65 y65 z65
    obtain ⟨rfl, N65q, e65⟩ := hQ65
    have N65 := Fr.app N63 N65q
    have go67 : Go p.tables e below T65 (mkF m 125 #[.val (.int p1), .val (.int p2), .val (.ref (pk4 wB wD wF wS p2)), .val (.int (1 : Int32)), .val (.ref wD), .val (.int (1 : Int32)), .val (.int (1 : Int32))] [(.int (1 : Int32))]) s₁ (entryFrame m #[(.int p1), (.int p2)] maxLocals) := by
      intro t k
      refine go66 t ?_
      show Steps _ _ _ (T63.setTop (mkF m 97 #[.val (.int p1), .val (.int p2), .val (.ref (pk4 wB wD wF wS p2)), .val (.int (1 : Int32)), .val (.ref wD), .val (.int (1 : Int32)), .unset] [(.ref wD)])) _
      refine st65.trans ?_
      show Steps _ _ _ (T65.setTop (mkF m 100 #[.val (.int p1), .val (.int p2), .val (.ref (pk4 wB wD wF wS p2)), .val (.int (1 : Int32)), .val (.ref wD), .val (.int (1 : Int32)), .unset] [(.int (2 : Int32))])) _
      refine XS.iloadN X65.here hx rfl (hb hby at_100) rfl ?_
      show Steps _ _ _ (T65.setTop (mkF m 101 #[.val (.int p1), .val (.int p2), .val (.ref (pk4 wB wD wF wS p2)), .val (.int (1 : Int32)), .val (.ref wD), .val (.int (1 : Int32)), .unset] [(.int p1), (.int (2 : Int32))])) _
      refine XS.icmpNo X65.here hx rfl (hb hby at_101) rfl (teq hk.symm).2 ?_
      show Steps _ _ _ (T65.setTop (mkF m 104 #[.val (.int p1), .val (.int p2), .val (.ref (pk4 wB wD wF wS p2)), .val (.int (1 : Int32)), .val (.ref wD), .val (.int (1 : Int32)), .unset] [])) _
      refine XS.iconst X65.here hx rfl (hb hby at_104) ?_
      show Steps _ _ _ (T65.setTop (mkF m 105 #[.val (.int p1), .val (.int p2), .val (.ref (pk4 wB wD wF wS p2)), .val (.int (1 : Int32)), .val (.ref wD), .val (.int (1 : Int32)), .unset] [(.int (1 : Int32))])) _
      refine XS.goto X65.here hx rfl (pc0 := 105) (pc' := 109) rfl (hb hby at_105) (by decide) (by decide) ?_
      show Steps _ _ _ (T65.setTop (mkF m 109 #[.val (.int p1), .val (.int p2), .val (.ref (pk4 wB wD wF wS p2)), .val (.int (1 : Int32)), .val (.ref wD), .val (.int (1 : Int32)), .unset] [(.int (1 : Int32))])) _
      refine XS.istore X65.here hx rfl (hb hby at_109) rfl (l' := #[.val (.int p1), .val (.int p2), .val (.ref (pk4 wB wD wF wS p2)), .val (.int (1 : Int32)), .val (.ref wD), .val (.int (1 : Int32)), .val (.int (1 : Int32))]) rfl ?_
      show Steps _ _ _ (T65.setTop (mkF m 111 #[.val (.int p1), .val (.int p2), .val (.ref (pk4 wB wD wF wS p2)), .val (.int (1 : Int32)), .val (.ref wD), .val (.int (1 : Int32)), .val (.int (1 : Int32))] [])) _
      refine XS.iloadN X65.here hx rfl (hb hby at_111) rfl ?_
      show Steps _ _ _ (T65.setTop (mkF m 112 #[.val (.int p1), .val (.int p2), .val (.ref (pk4 wB wD wF wS p2)), .val (.int (1 : Int32)), .val (.ref wD), .val (.int (1 : Int32)), .val (.int (1 : Int32))] [(.int (1 : Int32))])) _
      refine XS.ifNo X65.here hx rfl (hb hby at_112) rfl ((if0 _ _).trans (feq (by decide)).1) ?_
      show Steps _ _ _ (T65.setTop (mkF m 115 #[.val (.int p1), .val (.int p2), .val (.ref (pk4 wB wD wF wS p2)), .val (.int (1 : Int32)), .val (.ref wD), .val (.int (1 : Int32)), .val (.int (1 : Int32))] [])) _
      refine XS.iload X65.here hx rfl (hb hby at_115) rfl ?_
      show Steps _ _ _ (T65.setTop (mkF m 117 #[.val (.int p1), .val (.int p2), .val (.ref (pk4 wB wD wF wS p2)), .val (.int (1 : Int32)), .val (.ref wD), .val (.int (1 : Int32)), .val (.int (1 : Int32))] [(.int (1 : Int32))])) _
      refine XS.ifNo X65.here hx rfl (hb hby at_117) rfl ((if0 _ _).trans (feq (by decide)).1) ?_
      show Steps _ _ _ (T65.setTop (mkF m 120 #[.val (.int p1), .val (.int p2), .val (.ref (pk4 wB wD wF wS p2)), .val (.int (1 : Int32)), .val (.ref wD), .val (.int (1 : Int32)), .val (.int (1 : Int32))] [])) _
      refine XS.iconst X65.here hx rfl (hb hby at_120) ?_
      show Steps _ _ _ (T65.setTop (mkF m 121 #[.val (.int p1), .val (.int p2), .val (.ref (pk4 wB wD wF wS p2)), .val (.int (1 : Int32)), .val (.ref wD), .val (.int (1 : Int32)), .val (.int (1 : Int32))] [(.int (1 : Int32))])) _
      refine XS.goto X65.here hx rfl (pc0 := 121) (pc' := 125) rfl (hb hby at_121) (by decide) (by decide) ?_
      exact k
    obtain ⟨fs, hr, hrun, hended, hW, hsame⟩ := X65.leave (v := some (.int (1 : Int32))) (fun h => by rw [Bd.returns] at h; cases h)
    refine ⟨_, _, go67 _ ?_, hrun, hended, _, _, rfl, ?_, ⟨_, rfl⟩, hW, hsame.mono (by decide) (by decide)⟩
    · exact retN X65 hx (t := .boolean) Bd.returns (by simp) (hb hby at_125) hr
    · show QL (.int 1) h0 n0 _ T65.heap _
      rw [e65]
      exact ⟨rfl, N65⟩
  · skip
    have f68 : Fld Z T5.heap wB "com/example/sketcher/sketcher/io/SketchFamily" "code" "I" (.int (1 : Int32)) := (F_wB.keep K5 nin0)
    have f69 : Fld Z T5.heap wD "com/example/sketcher/sketcher/io/SketchFamily" "code" "I" (.int (2 : Int32)) := (F_wD.keep K5 nin0)
    have f70 : Fld Z T5.heap wF "com/example/sketcher/sketcher/io/SketchFamily" "code" "I" (.int (3 : Int32)) := (F_wF.keep K5 nin0)
    have f71 : Fld Z T5.heap wS "com/example/sketcher/sketcher/io/SketchFamily" "code" "I" (.int (4 : Int32)) := (F_wS.keep K5 nin0)
    have f72 : Exa Z T5.heap wB "com/example/sketcher/sketcher/io/SketchFamily" := (E_wB.keep K5)
    have f73 : Exa Z T5.heap wD "com/example/sketcher/sketcher/io/SketchFamily" := (E_wD.keep K5)
    have f74 : Exa Z T5.heap wF "com/example/sketcher/sketcher/io/SketchFamily" := (E_wF.keep K5)
    have f75 : Exa Z T5.heap wS "com/example/sketcher/sketcher/io/SketchFamily" := (E_wS.keep K5)
    have f76 : Keep h0 T5.heap [] := ((Keep.refl h0 []).trans K5 all0)
    have f77 : n0 ≤ T5.heap.size := (Nat.le_trans Z0 K5.1)
    obtain ⟨_, _, ⟨T78, L78, k78, n78⟩, -, X78, ⟨Lc78, hQ78, l78, y78, z78⟩, st78⟩ := Jvm.LawKit.callS X5 hx (y := (⟨"com/example/sketcher/sketcher/io/SketchFamily", "ofCode", "(I)Lcom/example/sketcher/sketcher/io/SketchFamily;"⟩ : MethodName)) hown (mvT hZ (wk hw 14 rfl)) (mvT hZ (wk hw 15 rfl)) (mvT hZ (wk hw 5 rfl)) (mvT hZ (wk hw 16 rfl)) (by decide) (backOf (W := 0) (rm3 l Z a0 hw [] p1 wB wD wF wS wV cl T5.heap n0 f77 f68 f69 f70 f71 (S_V.ext (own_ext0 f76)) (Ar.ext (own_ext0 f76)) (E_V.ext (own_ext0 f76)) FC hsz hlen hin hat0 hat1 hat2 hat3) hZ (wk hw 16 rfl) (wk hw 5 rfl) (by decide) (by decide)) (g := (mkF m 23 #[.val (.int p1), .val (.int p2), .val (.ref (pk4 wB wD wF wS p2)), .val (.int (1 : Int32)), .unset, .unset, .unset] [(.int p1)])) rfl (by rw [hml]; rfl) (argsL := [(.int p1)]) (rest := []) (lenOf pd_1 rfl) rfl (by show 2 * 0 + _ ≤ _; exact Nat.le_of_eq rfl) (hb hby at_23) (fun _ _ => ⟨rfl, rfl, (by decide : 1 + 1 ≤ _), (by decide : 4 + 4 ≤ _)⟩)
    dsimp only [Pt.U, Pt.locs, Pt.cells, Pt.slots] at X78 l78 y78 z78 st78 hQ78
    subst l78 y78 z78
    obtain ⟨hv78, N78q, K78⟩ := hQ78
    rw [hk, own_ofc3] at hv78
    subst hv78
    have N78 := Fr.app N5 N78q
    have go80 : Go p.tables e below T78 (mkF m 29 #[.val (.int p1), .val (.int p2), .val (.ref (pk4 wB wD wF wS p2)), .val (.int (1 : Int32)), .val (.ref wF), .unset, .unset] [(.int p1)]) s₁ (entryFrame m #[(.int p1), (.int p2)] maxLocals) := by
      intro t k
      refine go7 t ?_
      show Steps _ _ _ (T5.setTop (mkF m 23 #[.val (.int p1), .val (.int p2), .val (.ref (pk4 wB wD wF wS p2)), .val (.int (1 : Int32)), .unset, .unset, .unset] [(.int p1)])) _
      refine st78 _ ?_
      show Steps _ _ _ (T78.setTop (mkF m 26 #[.val (.int p1), .val (.int p2), .val (.ref (pk4 wB wD wF wS p2)), .val (.int (1 : Int32)), .unset, .unset, .unset] [(.ref wF)])) _
      refine XS.astore X78.here hx rfl (hb hby at_26) rfl rfl (l' := #[.val (.int p1), .val (.int p2), .val (.ref (pk4 wB wD wF wS p2)), .val (.int (1 : Int32)), .val (.ref wF), .unset, .unset]) rfl ?_
      show Steps _ _ _ (T78.setTop (mkF m 28 #[.val (.int p1), .val (.int p2), .val (.ref (pk4 wB wD wF wS p2)), .val (.int (1 : Int32)), .val (.ref wF), .unset, .unset] [])) _
      refine XS.iloadN X78.here hx rfl (hb hby at_28) rfl ?_
      exact k
    have f79 : Keep h0 T78.heap [] := (f76.trans K78 all0)
    obtain ⟨T81, X81, e81, st81⟩ := getS2 X78 hx hZ hown (host := "") (Or.inl (wk hw 35 rfl)) Via.refl rfl (S_wB.ext (own_ext0 f79)) (g := (mkF m 29 #[.val (.int p1), .val (.int p2), .val (.ref (pk4 wB wD wF wS p2)), .val (.int (1 : Int32)), .val (.ref wF), .unset, .unset] [(.int p1)])) rfl (hb hby at_29)
    have go83 : Go p.tables e below T81 (mkF m 32 #[.val (.int p1), .val (.int p2), .val (.ref (pk4 wB wD wF wS p2)), .val (.int (1 : Int32)), .val (.ref wF), .unset, .unset] [(.ref wB), (.int p1)]) s₁ (entryFrame m #[(.int p1), (.int p2)] maxLocals) := by
      intro t k
      refine go80 t ?_
      show Steps _ _ _ (T78.setTop (mkF m 29 #[.val (.int p1), .val (.int p2), .val (.ref (pk4 wB wD wF wS p2)), .val (.int (1 : Int32)), .val (.ref wF), .unset, .unset] [(.int p1)])) _
      refine st81 _ ?_
      exact k
    have f82 : Fld Z T78.heap wB "com/example/sketcher/sketcher/io/SketchFamily" "code" "I" (.int (1 : Int32)) := (f68.keep K78 nin0)
    have f84 : Fld Z T78.heap wD "com/example/sketcher/sketcher/io/SketchFamily" "code" "I" (.int (2 : Int32)) := (f69.keep K78 nin0)
    have f85 : Fld Z T78.heap wF "com/example/sketcher/sketcher/io/SketchFamily" "code" "I" (.int (3 : Int32)) := (f70.keep K78 nin0)
    have f86 : Fld Z T78.heap wS "com/example/sketcher/sketcher/io/SketchFamily" "code" "I" (.int (4 : Int32)) := (f71.keep K78 nin0)
    have f87 : Exa Z T78.heap wB "com/example/sketcher/sketcher/io/SketchFamily" := (f72.keep K78)
    have f88 : Exa Z T78.heap wD "com/example/sketcher/sketcher/io/SketchFamily" := (f73.keep K78)
    have f89 : Exa Z T78.heap wF "com/example/sketcher/sketcher/io/SketchFamily" := (f74.keep K78)
    have f90 : Exa Z T78.heap wS "com/example/sketcher/sketcher/io/SketchFamily" := (f75.keep K78)
    have f91 : n0 ≤ T78.heap.size := (Nat.le_trans f77 K78.1)
    obtain ⟨cq92, kq92, q92a, q92b, q92c⟩ := isOf hZ e81 f87
    obtain ⟨_, _, ⟨T92, L92, k92, n92⟩, -, X92, ⟨Lc92, hQ92, l92, y92, z92⟩, st92⟩ := X81.virtualBack hx (y := (⟨"com/example/sketcher/sketcher/io/SketchFamily", "code", "()I"⟩ : MethodName)) (z := (⟨"com/example/sketcher/sketcher/io/SketchFamily", "code", "()I"⟩ : MethodName)) hown (mvT hZ (wk hw 7 rfl)) (mvT hZ (wk hw 8 rfl)) (notFace_of_selects (args := #[]) (mvT hZ (wk hw 10 rfl))) (mvT hZ (wk hw 10 rfl)) (mvT hZ (wk hw 9 rfl)) (by decide) (backOf (W := 1) (rm2 l Z a0 hw [] wB (1 : Int32) T78.heap n0 f91 f82) hZ (wk hw 11 rfl) (wk hw 5 rfl) (by decide) (by decide)) q92a q92c (g := (mkF m 32 #[.val (.int p1), .val (.int p2), .val (.ref (pk4 wB wD wF wS p2)), .val (.int (1 : Int32)), .val (.ref wF), .unset, .unset] [(.ref wB), (.int p1)])) rfl (by rw [hml]; rfl) (Steps.refl _) (argsL := []) (rest := [(.int p1)]) (lenOf pd_2 rfl) rfl (by show 2 * 0 + _ ≤ _; exact Nat.le_of_eq rfl) (hb hby at_32) (fun _ _ => ⟨rfl, e81, (by decide : 2 + 0 ≤ _), (by decide : 8 + 0 ≤ _)⟩)
    dsimp only [Pt.U, Pt.locs, Pt.cells, Pt.slots] at X92 l92 y92 z92 st92 hQ92
    subst l92 y92 z92
    obtain ⟨rfl, N92q, e92⟩ := hQ92
    have N92 := Fr.app N78 N92q
    have go93 : Go p.tables e below T92 (mkF m 39 #[.val (.int p1), .val (.int p2), .val (.ref (pk4 wB wD wF wS p2)), .val (.int (1 : Int32)), .val (.ref wF), .unset, .unset] [(.int p1)]) s₁ (entryFrame m #[(.int p1), (.int p2)] maxLocals) := by
      intro t k
      refine go83 t ?_
      show Steps _ _ _ (T81.setTop (mkF m 32 #[.val (.int p1), .val (.int p2), .val (.ref (pk4 wB wD wF wS p2)), .val (.int (1 : Int32)), .val (.ref wF), .unset, .unset] [(.ref wB), (.int p1)])) _
      refine st92.trans ?_
      show Steps _ _ _ (T92.setTop (mkF m 35 #[.val (.int p1), .val (.int p2), .val (.ref (pk4 wB wD wF wS p2)), .val (.int (1 : Int32)), .val (.ref wF), .unset, .unset] [(.int (1 : Int32)), (.int p1)])) _
      refine XS.icmpNo X92.here hx rfl (hb hby at_35) rfl (feq (by rw [hk]; decide)).1 ?_
      show Steps _ _ _ (T92.setTop (mkF m 38 #[.val (.int p1), .val (.int p2), .val (.ref (pk4 wB wD wF wS p2)), .val (.int (1 : Int32)), .val (.ref wF), .unset, .unset] [])) _
      refine XS.iloadN X92.here hx rfl (hb hby at_38) rfl ?_
      exact k
    obtain ⟨T94, X94, e94, st94⟩ := getS2 X92 hx hZ hown (host := "") (Or.inl (wk hw 36 rfl)) Via.refl e92 (S_wD.ext (own_ext0 f79)) (g := (mkF m 39 #[.val (.int p1), .val (.int p2), .val (.ref (pk4 wB wD wF wS p2)), .val (.int (1 : Int32)), .val (.ref wF), .unset, .unset] [(.int p1)])) rfl (hb hby at_39)
    have go96 : Go p.tables e below T94 (mkF m 42 #[.val (.int p1), .val (.int p2), .val (.ref (pk4 wB wD wF wS p2)), .val (.int (1 : Int32)), .val (.ref wF), .unset, .unset] [(.ref wD), (.int p1)]) s₁ (entryFrame m #[(.int p1), (.int p2)] maxLocals) := by
      intro t k
      refine go93 t ?_
      show Steps _ _ _ (T92.setTop (mkF m 39 #[.val (.int p1), .val (.int p2), .val (.ref (pk4 wB wD wF wS p2)), .val (.int (1 : Int32)), .val (.ref wF), .unset, .unset] [(.int p1)])) _
      refine st94 _ ?_
      exact k
    obtain ⟨cq95, kq95, q95a, q95b, q95c⟩ := isOf hZ e94 f88
    obtain ⟨_, _, ⟨T95, L95, k95, n95⟩, -, X95, ⟨Lc95, hQ95, l95, y95, z95⟩, st95⟩ := X94.virtualBack hx (y := (⟨"com/example/sketcher/sketcher/io/SketchFamily", "code", "()I"⟩ : MethodName)) (z := (⟨"com/example/sketcher/sketcher/io/SketchFamily", "code", "()I"⟩ : MethodName)) hown (mvT hZ (wk hw 7 rfl)) (mvT hZ (wk hw 8 rfl)) (notFace_of_selects (args := #[]) (mvT hZ (wk hw 10 rfl))) (mvT hZ (wk hw 10 rfl)) (mvT hZ (wk hw 9 rfl)) (by decide) (backOf (W := 1) (rm2 l Z a0 hw [] wD (2 : Int32) T78.heap n0 f91 f84) hZ (wk hw 11 rfl) (wk hw 5 rfl) (by decide) (by decide)) q95a q95c (g := (mkF m 42 #[.val (.int p1), .val (.int p2), .val (.ref (pk4 wB wD wF wS p2)), .val (.int (1 : Int32)), .val (.ref wF), .unset, .unset] [(.ref wD), (.int p1)])) rfl (by rw [hml]; rfl) (Steps.refl _) (argsL := []) (rest := [(.int p1)]) (lenOf pd_2 rfl) rfl (by show 2 * 0 + _ ≤ _; exact Nat.le_of_eq rfl) (hb hby at_42) (fun _ _ => ⟨rfl, e94, (by decide : 2 + 0 ≤ _), (by decide : 8 + 0 ≤ _)⟩)
    dsimp only [Pt.U, Pt.locs, Pt.cells, Pt.slots] at X95 l95 y95 z95 st95 hQ95
    subst l95 y95 z95
    obtain ⟨rfl, N95q, e95⟩ := hQ95
    have N95 := Fr.app N92 N95q
    have go97 : Go p.tables e below T95 (mkF m 49 #[.val (.int p1), .val (.int p2), .val (.ref (pk4 wB wD wF wS p2)), .val (.int (1 : Int32)), .val (.ref wF), .unset, .unset] [(.int p1)]) s₁ (entryFrame m #[(.int p1), (.int p2)] maxLocals) := by
      intro t k
      refine go96 t ?_
      show Steps _ _ _ (T94.setTop (mkF m 42 #[.val (.int p1), .val (.int p2), .val (.ref (pk4 wB wD wF wS p2)), .val (.int (1 : Int32)), .val (.ref wF), .unset, .unset] [(.ref wD), (.int p1)])) _
      refine st95.trans ?_
      show Steps _ _ _ (T95.setTop (mkF m 45 #[.val (.int p1), .val (.int p2), .val (.ref (pk4 wB wD wF wS p2)), .val (.int (1 : Int32)), .val (.ref wF), .unset, .unset] [(.int (2 : Int32)), (.int p1)])) _
      refine XS.icmpNo X95.here hx rfl (hb hby at_45) rfl (feq (by rw [hk]; decide)).1 ?_
      show Steps _ _ _ (T95.setTop (mkF m 48 #[.val (.int p1), .val (.int p2), .val (.ref (pk4 wB wD wF wS p2)), .val (.int (1 : Int32)), .val (.ref wF), .unset, .unset] [])) _
      refine XS.iloadN X95.here hx rfl (hb hby at_48) rfl ?_
      exact k
    obtain ⟨T98, X98, e98, st98⟩ := getS2 X95 hx hZ hown (host := "") (Or.inl (wk hw 37 rfl)) Via.refl e95 (S_wF.ext (own_ext0 f79)) (g := (mkF m 49 #[.val (.int p1), .val (.int p2), .val (.ref (pk4 wB wD wF wS p2)), .val (.int (1 : Int32)), .val (.ref wF), .unset, .unset] [(.int p1)])) rfl (hb hby at_49)
    have go100 : Go p.tables e below T98 (mkF m 52 #[.val (.int p1), .val (.int p2), .val (.ref (pk4 wB wD wF wS p2)), .val (.int (1 : Int32)), .val (.ref wF), .unset, .unset] [(.ref wF), (.int p1)]) s₁ (entryFrame m #[(.int p1), (.int p2)] maxLocals) := by
      intro t k
      refine go97 t ?_
      show Steps _ _ _ (T95.setTop (mkF m 49 #[.val (.int p1), .val (.int p2), .val (.ref (pk4 wB wD wF wS p2)), .val (.int (1 : Int32)), .val (.ref wF), .unset, .unset] [(.int p1)])) _
      refine st98 _ ?_
      exact k
    obtain ⟨cq99, kq99, q99a, q99b, q99c⟩ := isOf hZ e98 f89
    obtain ⟨_, _, ⟨T99, L99, k99, n99⟩, -, X99, ⟨Lc99, hQ99, l99, y99, z99⟩, st99⟩ := X98.virtualBack hx (y := (⟨"com/example/sketcher/sketcher/io/SketchFamily", "code", "()I"⟩ : MethodName)) (z := (⟨"com/example/sketcher/sketcher/io/SketchFamily", "code", "()I"⟩ : MethodName)) hown (mvT hZ (wk hw 7 rfl)) (mvT hZ (wk hw 8 rfl)) (notFace_of_selects (args := #[]) (mvT hZ (wk hw 10 rfl))) (mvT hZ (wk hw 10 rfl)) (mvT hZ (wk hw 9 rfl)) (by decide) (backOf (W := 1) (rm2 l Z a0 hw [] wF (3 : Int32) T78.heap n0 f91 f85) hZ (wk hw 11 rfl) (wk hw 5 rfl) (by decide) (by decide)) q99a q99c (g := (mkF m 52 #[.val (.int p1), .val (.int p2), .val (.ref (pk4 wB wD wF wS p2)), .val (.int (1 : Int32)), .val (.ref wF), .unset, .unset] [(.ref wF), (.int p1)])) rfl (by rw [hml]; rfl) (Steps.refl _) (argsL := []) (rest := [(.int p1)]) (lenOf pd_2 rfl) rfl (by show 2 * 0 + _ ≤ _; exact Nat.le_of_eq rfl) (hb hby at_52) (fun _ _ => ⟨rfl, e98, (by decide : 2 + 0 ≤ _), (by decide : 8 + 0 ≤ _)⟩)
    dsimp only [Pt.U, Pt.locs, Pt.cells, Pt.slots] at X99 l99 y99 z99 st99 hQ99
    subst l99 y99 z99
    obtain ⟨rfl, N99q, e99⟩ := hQ99
    have N99 := Fr.app N95 N99q
    have go102 : Go p.tables e below T99 (mkF m 97 #[.val (.int p1), .val (.int p2), .val (.ref (pk4 wB wD wF wS p2)), .val (.int (1 : Int32)), .val (.ref wF), .val (.int (1 : Int32)), .unset] [(.ref wF)]) s₁ (entryFrame m #[(.int p1), (.int p2)] maxLocals) := by
      intro t k
      refine go100 t ?_
      show Steps _ _ _ (T98.setTop (mkF m 52 #[.val (.int p1), .val (.int p2), .val (.ref (pk4 wB wD wF wS p2)), .val (.int (1 : Int32)), .val (.ref wF), .unset, .unset] [(.ref wF), (.int p1)])) _
      refine st99.trans ?_
      show Steps _ _ _ (T99.setTop (mkF m 55 #[.val (.int p1), .val (.int p2), .val (.ref (pk4 wB wD wF wS p2)), .val (.int (1 : Int32)), .val (.ref wF), .unset, .unset] [(.int (3 : Int32)), (.int p1)])) _
      refine XS.icmpYes X99.here hx rfl (pc0 := 55) (pc' := 68) rfl (hb hby at_55) rfl (teq hk).1 (by decide) (by decide) ?_
      show Steps _ _ _ (T99.setTop (mkF m 68 #[.val (.int p1), .val (.int p2), .val (.ref (pk4 wB wD wF wS p2)), .val (.int (1 : Int32)), .val (.ref wF), .unset, .unset] [])) _
      refine XS.iconst X99.here hx rfl (hb hby at_68) ?_
      show Steps _ _ _ (T99.setTop (mkF m 69 #[.val (.int p1), .val (.int p2), .val (.ref (pk4 wB wD wF wS p2)), .val (.int (1 : Int32)), .val (.ref wF), .unset, .unset] [(.int (1 : Int32))])) _
      refine XS.goto X99.here hx rfl (pc0 := 69) (pc' := 73) rfl (hb hby at_69) (by decide) (by decide) ?_
      show Steps _ _ _ (T99.setTop (mkF m 73 #[.val (.int p1), .val (.int p2), .val (.ref (pk4 wB wD wF wS p2)), .val (.int (1 : Int32)), .val (.ref wF), .unset, .unset] [(.int (1 : Int32))])) _
      refine XS.istore X99.here hx rfl (hb hby at_73) rfl (l' := #[.val (.int p1), .val (.int p2), .val (.ref (pk4 wB wD wF wS p2)), .val (.int (1 : Int32)), .val (.ref wF), .val (.int (1 : Int32)), .unset]) rfl ?_
      show Steps _ _ _ (T99.setTop (mkF m 75 #[.val (.int p1), .val (.int p2), .val (.ref (pk4 wB wD wF wS p2)), .val (.int (1 : Int32)), .val (.ref wF), .val (.int (1 : Int32)), .unset] [])) _
      refine XS.aload X99.here hx rfl (hb hby at_75) rfl rfl ?_
      show Steps _ _ _ (T99.setTop (mkF m 77 #[.val (.int p1), .val (.int p2), .val (.ref (pk4 wB wD wF wS p2)), .val (.int (1 : Int32)), .val (.ref wF), .val (.int (1 : Int32)), .unset] [(.ref wF)])) _
      refine XS.ifnonnullYes X99.here hx rfl (pc0 := 77) (pc' := 95) rfl (hb hby at_77) rfl (by decide) (by decide) ?_
      show Steps _ _ _ (T99.setTop (mkF m 95 #[.val (.int p1), .val (.int p2), .val (.ref (pk4 wB wD wF wS p2)), .val (.int (1 : Int32)), .val (.ref wF), .val (.int (1 : Int32)), .unset] [])) _
      refine XS.aload X99.here hx rfl (hb hby at_95) rfl rfl ?_
      exact k
    obtain ⟨cq101, kq101, q101a, q101b, q101c⟩ := isOf hZ e99 f89
    obtain ⟨_, _, ⟨T101, L101, k101, n101⟩, -, X101, ⟨Lc101, hQ101, l101, y101, z101⟩, st101⟩ := X99.virtualBack hx (y := (⟨"com/example/sketcher/sketcher/io/SketchFamily", "code", "()I"⟩ : MethodName)) (z := (⟨"com/example/sketcher/sketcher/io/SketchFamily", "code", "()I"⟩ : MethodName)) hown (mvT hZ (wk hw 7 rfl)) (mvT hZ (wk hw 8 rfl)) (notFace_of_selects (args := #[]) (mvT hZ (wk hw 10 rfl))) (mvT hZ (wk hw 10 rfl)) (mvT hZ (wk hw 9 rfl)) (by decide) (backOf (W := 0) (rm2 l Z a0 hw [] wF (3 : Int32) T78.heap n0 f91 f85) hZ (wk hw 11 rfl) (wk hw 5 rfl) (by decide) (by decide)) q101a q101c (g := (mkF m 97 #[.val (.int p1), .val (.int p2), .val (.ref (pk4 wB wD wF wS p2)), .val (.int (1 : Int32)), .val (.ref wF), .val (.int (1 : Int32)), .unset] [(.ref wF)])) rfl (by rw [hml]; rfl) (Steps.refl _) (argsL := []) (rest := []) (lenOf pd_2 rfl) rfl (by show 2 * 0 + _ ≤ _; exact Nat.le_of_eq rfl) (hb hby at_97) (fun _ _ => ⟨rfl, e99, (by decide : 2 + 0 ≤ _), (by decide : 8 + 0 ≤ _)⟩)
    dsimp only [Pt.U, Pt.locs, Pt.cells, Pt.slots] at X101 l101 y101 z101 st101 hQ101
    subst l101 y101 z101
    obtain ⟨rfl, N101q, e101⟩ := hQ101
    have N101 := Fr.app N99 N101q
    have go103 : Go p.tables e below T101 (mkF m 125 #[.val (.int p1), .val (.int p2), .val (.ref (pk4 wB wD wF wS p2)), .val (.int (1 : Int32)), .val (.ref wF), .val (.int (1 : Int32)), .val (.int (1 : Int32))] [(.int (1 : Int32))]) s₁ (entryFrame m #[(.int p1), (.int p2)] maxLocals) := by
      intro t k
      refine go102 t ?_
      show Steps _ _ _ (T99.setTop (mkF m 97 #[.val (.int p1), .val (.int p2), .val (.ref (pk4 wB wD wF wS p2)), .val (.int (1 : Int32)), .val (.ref wF), .val (.int (1 : Int32)), .unset] [(.ref wF)])) _
      refine st101.trans ?_
      show Steps _ _ _ (T101.setTop (mkF m 100 #[.val (.int p1), .val (.int p2), .val (.ref (pk4 wB wD wF wS p2)), .val (.int (1 : Int32)), .val (.ref wF), .val (.int (1 : Int32)), .unset] [(.int (3 : Int32))])) _
      refine XS.iloadN X101.here hx rfl (hb hby at_100) rfl ?_
      show Steps _ _ _ (T101.setTop (mkF m 101 #[.val (.int p1), .val (.int p2), .val (.ref (pk4 wB wD wF wS p2)), .val (.int (1 : Int32)), .val (.ref wF), .val (.int (1 : Int32)), .unset] [(.int p1), (.int (3 : Int32))])) _
      refine XS.icmpNo X101.here hx rfl (hb hby at_101) rfl (teq hk.symm).2 ?_
      show Steps _ _ _ (T101.setTop (mkF m 104 #[.val (.int p1), .val (.int p2), .val (.ref (pk4 wB wD wF wS p2)), .val (.int (1 : Int32)), .val (.ref wF), .val (.int (1 : Int32)), .unset] [])) _
      refine XS.iconst X101.here hx rfl (hb hby at_104) ?_
      show Steps _ _ _ (T101.setTop (mkF m 105 #[.val (.int p1), .val (.int p2), .val (.ref (pk4 wB wD wF wS p2)), .val (.int (1 : Int32)), .val (.ref wF), .val (.int (1 : Int32)), .unset] [(.int (1 : Int32))])) _
      refine XS.goto X101.here hx rfl (pc0 := 105) (pc' := 109) rfl (hb hby at_105) (by decide) (by decide) ?_
      show Steps _ _ _ (T101.setTop (mkF m 109 #[.val (.int p1), .val (.int p2), .val (.ref (pk4 wB wD wF wS p2)), .val (.int (1 : Int32)), .val (.ref wF), .val (.int (1 : Int32)), .unset] [(.int (1 : Int32))])) _
      refine XS.istore X101.here hx rfl (hb hby at_109) rfl (l' := #[.val (.int p1), .val (.int p2), .val (.ref (pk4 wB wD wF wS p2)), .val (.int (1 : Int32)), .val (.ref wF), .val (.int (1 : Int32)), .val (.int (1 : Int32))]) rfl ?_
      show Steps _ _ _ (T101.setTop (mkF m 111 #[.val (.int p1), .val (.int p2), .val (.ref (pk4 wB wD wF wS p2)), .val (.int (1 : Int32)), .val (.ref wF), .val (.int (1 : Int32)), .val (.int (1 : Int32))] [])) _
      refine XS.iloadN X101.here hx rfl (hb hby at_111) rfl ?_
      show Steps _ _ _ (T101.setTop (mkF m 112 #[.val (.int p1), .val (.int p2), .val (.ref (pk4 wB wD wF wS p2)), .val (.int (1 : Int32)), .val (.ref wF), .val (.int (1 : Int32)), .val (.int (1 : Int32))] [(.int (1 : Int32))])) _
      refine XS.ifNo X101.here hx rfl (hb hby at_112) rfl ((if0 _ _).trans (feq (by decide)).1) ?_
      show Steps _ _ _ (T101.setTop (mkF m 115 #[.val (.int p1), .val (.int p2), .val (.ref (pk4 wB wD wF wS p2)), .val (.int (1 : Int32)), .val (.ref wF), .val (.int (1 : Int32)), .val (.int (1 : Int32))] [])) _
      refine XS.iload X101.here hx rfl (hb hby at_115) rfl ?_
      show Steps _ _ _ (T101.setTop (mkF m 117 #[.val (.int p1), .val (.int p2), .val (.ref (pk4 wB wD wF wS p2)), .val (.int (1 : Int32)), .val (.ref wF), .val (.int (1 : Int32)), .val (.int (1 : Int32))] [(.int (1 : Int32))])) _
      refine XS.ifNo X101.here hx rfl (hb hby at_117) rfl ((if0 _ _).trans (feq (by decide)).1) ?_
      show Steps _ _ _ (T101.setTop (mkF m 120 #[.val (.int p1), .val (.int p2), .val (.ref (pk4 wB wD wF wS p2)), .val (.int (1 : Int32)), .val (.ref wF), .val (.int (1 : Int32)), .val (.int (1 : Int32))] [])) _
      refine XS.iconst X101.here hx rfl (hb hby at_120) ?_
      show Steps _ _ _ (T101.setTop (mkF m 121 #[.val (.int p1), .val (.int p2), .val (.ref (pk4 wB wD wF wS p2)), .val (.int (1 : Int32)), .val (.ref wF), .val (.int (1 : Int32)), .val (.int (1 : Int32))] [(.int (1 : Int32))])) _
      refine XS.goto X101.here hx rfl (pc0 := 121) (pc' := 125) rfl (hb hby at_121) (by decide) (by decide) ?_
      exact k
    obtain ⟨fs, hr, hrun, hended, hW, hsame⟩ := X101.leave (v := some (.int (1 : Int32))) (fun h => by rw [Bd.returns] at h; cases h)
    refine ⟨_, _, go103 _ ?_, hrun, hended, _, _, rfl, ?_, ⟨_, rfl⟩, hW, hsame.mono (by decide) (by decide)⟩
    · exact retN X101 hx (t := .boolean) Bd.returns (by simp) (hb hby at_125) hr
    · show QL (.int 1) h0 n0 _ T101.heap _
      rw [e101]
      exact ⟨rfl, N101⟩
  · skip
    have f104 : Fld Z T5.heap wB "com/example/sketcher/sketcher/io/SketchFamily" "code" "I" (.int (1 : Int32)) := (F_wB.keep K5 nin0)
    have f105 : Fld Z T5.heap wD "com/example/sketcher/sketcher/io/SketchFamily" "code" "I" (.int (2 : Int32)) := (F_wD.keep K5 nin0)
    have f106 : Fld Z T5.heap wF "com/example/sketcher/sketcher/io/SketchFamily" "code" "I" (.int (3 : Int32)) := (F_wF.keep K5 nin0)
    have f107 : Fld Z T5.heap wS "com/example/sketcher/sketcher/io/SketchFamily" "code" "I" (.int (4 : Int32)) := (F_wS.keep K5 nin0)
    have f108 : Exa Z T5.heap wB "com/example/sketcher/sketcher/io/SketchFamily" := (E_wB.keep K5)
    have f109 : Exa Z T5.heap wD "com/example/sketcher/sketcher/io/SketchFamily" := (E_wD.keep K5)
    have f110 : Exa Z T5.heap wF "com/example/sketcher/sketcher/io/SketchFamily" := (E_wF.keep K5)
    have f111 : Exa Z T5.heap wS "com/example/sketcher/sketcher/io/SketchFamily" := (E_wS.keep K5)
    have f112 : Keep h0 T5.heap [] := ((Keep.refl h0 []).trans K5 all0)
    have f113 : n0 ≤ T5.heap.size := (Nat.le_trans Z0 K5.1)
    obtain ⟨_, _, ⟨T114, L114, k114, n114⟩, -, X114, ⟨Lc114, hQ114, l114, y114, z114⟩, st114⟩ := Jvm.LawKit.callS X5 hx (y := (⟨"com/example/sketcher/sketcher/io/SketchFamily", "ofCode", "(I)Lcom/example/sketcher/sketcher/io/SketchFamily;"⟩ : MethodName)) hown (mvT hZ (wk hw 14 rfl)) (mvT hZ (wk hw 15 rfl)) (mvT hZ (wk hw 5 rfl)) (mvT hZ (wk hw 16 rfl)) (by decide) (backOf (W := 0) (rm3 l Z a0 hw [] p1 wB wD wF wS wV cl T5.heap n0 f113 f104 f105 f106 f107 (S_V.ext (own_ext0 f112)) (Ar.ext (own_ext0 f112)) (E_V.ext (own_ext0 f112)) FC hsz hlen hin hat0 hat1 hat2 hat3) hZ (wk hw 16 rfl) (wk hw 5 rfl) (by decide) (by decide)) (g := (mkF m 23 #[.val (.int p1), .val (.int p2), .val (.ref (pk4 wB wD wF wS p2)), .val (.int (1 : Int32)), .unset, .unset, .unset] [(.int p1)])) rfl (by rw [hml]; rfl) (argsL := [(.int p1)]) (rest := []) (lenOf pd_1 rfl) rfl (by show 2 * 0 + _ ≤ _; exact Nat.le_of_eq rfl) (hb hby at_23) (fun _ _ => ⟨rfl, rfl, (by decide : 1 + 1 ≤ _), (by decide : 4 + 4 ≤ _)⟩)
    dsimp only [Pt.U, Pt.locs, Pt.cells, Pt.slots] at X114 l114 y114 z114 st114 hQ114
    subst l114 y114 z114
    obtain ⟨hv114, N114q, K114⟩ := hQ114
    rw [hk, own_ofc4] at hv114
    subst hv114
    have N114 := Fr.app N5 N114q
    have go116 : Go p.tables e below T114 (mkF m 29 #[.val (.int p1), .val (.int p2), .val (.ref (pk4 wB wD wF wS p2)), .val (.int (1 : Int32)), .val (.ref wS), .unset, .unset] [(.int p1)]) s₁ (entryFrame m #[(.int p1), (.int p2)] maxLocals) := by
      intro t k
      refine go7 t ?_
      show Steps _ _ _ (T5.setTop (mkF m 23 #[.val (.int p1), .val (.int p2), .val (.ref (pk4 wB wD wF wS p2)), .val (.int (1 : Int32)), .unset, .unset, .unset] [(.int p1)])) _
      refine st114 _ ?_
      show Steps _ _ _ (T114.setTop (mkF m 26 #[.val (.int p1), .val (.int p2), .val (.ref (pk4 wB wD wF wS p2)), .val (.int (1 : Int32)), .unset, .unset, .unset] [(.ref wS)])) _
      refine XS.astore X114.here hx rfl (hb hby at_26) rfl rfl (l' := #[.val (.int p1), .val (.int p2), .val (.ref (pk4 wB wD wF wS p2)), .val (.int (1 : Int32)), .val (.ref wS), .unset, .unset]) rfl ?_
      show Steps _ _ _ (T114.setTop (mkF m 28 #[.val (.int p1), .val (.int p2), .val (.ref (pk4 wB wD wF wS p2)), .val (.int (1 : Int32)), .val (.ref wS), .unset, .unset] [])) _
      refine XS.iloadN X114.here hx rfl (hb hby at_28) rfl ?_
      exact k
    have f115 : Keep h0 T114.heap [] := (f112.trans K114 all0)
    obtain ⟨T117, X117, e117, st117⟩ := getS2 X114 hx hZ hown (host := "") (Or.inl (wk hw 35 rfl)) Via.refl rfl (S_wB.ext (own_ext0 f115)) (g := (mkF m 29 #[.val (.int p1), .val (.int p2), .val (.ref (pk4 wB wD wF wS p2)), .val (.int (1 : Int32)), .val (.ref wS), .unset, .unset] [(.int p1)])) rfl (hb hby at_29)
    have go119 : Go p.tables e below T117 (mkF m 32 #[.val (.int p1), .val (.int p2), .val (.ref (pk4 wB wD wF wS p2)), .val (.int (1 : Int32)), .val (.ref wS), .unset, .unset] [(.ref wB), (.int p1)]) s₁ (entryFrame m #[(.int p1), (.int p2)] maxLocals) := by
      intro t k
      refine go116 t ?_
      show Steps _ _ _ (T114.setTop (mkF m 29 #[.val (.int p1), .val (.int p2), .val (.ref (pk4 wB wD wF wS p2)), .val (.int (1 : Int32)), .val (.ref wS), .unset, .unset] [(.int p1)])) _
      refine st117 _ ?_
      exact k
    have f118 : Fld Z T114.heap wB "com/example/sketcher/sketcher/io/SketchFamily" "code" "I" (.int (1 : Int32)) := (f104.keep K114 nin0)
    have f120 : Fld Z T114.heap wD "com/example/sketcher/sketcher/io/SketchFamily" "code" "I" (.int (2 : Int32)) := (f105.keep K114 nin0)
    have f121 : Fld Z T114.heap wF "com/example/sketcher/sketcher/io/SketchFamily" "code" "I" (.int (3 : Int32)) := (f106.keep K114 nin0)
    have f122 : Fld Z T114.heap wS "com/example/sketcher/sketcher/io/SketchFamily" "code" "I" (.int (4 : Int32)) := (f107.keep K114 nin0)
    have f123 : Exa Z T114.heap wB "com/example/sketcher/sketcher/io/SketchFamily" := (f108.keep K114)
    have f124 : Exa Z T114.heap wD "com/example/sketcher/sketcher/io/SketchFamily" := (f109.keep K114)
    have f125 : Exa Z T114.heap wF "com/example/sketcher/sketcher/io/SketchFamily" := (f110.keep K114)
    have f126 : Exa Z T114.heap wS "com/example/sketcher/sketcher/io/SketchFamily" := (f111.keep K114)
    have f127 : n0 ≤ T114.heap.size := (Nat.le_trans f113 K114.1)
    obtain ⟨cq128, kq128, q128a, q128b, q128c⟩ := isOf hZ e117 f123
    obtain ⟨_, _, ⟨T128, L128, k128, n128⟩, -, X128, ⟨Lc128, hQ128, l128, y128, z128⟩, st128⟩ := X117.virtualBack hx (y := (⟨"com/example/sketcher/sketcher/io/SketchFamily", "code", "()I"⟩ : MethodName)) (z := (⟨"com/example/sketcher/sketcher/io/SketchFamily", "code", "()I"⟩ : MethodName)) hown (mvT hZ (wk hw 7 rfl)) (mvT hZ (wk hw 8 rfl)) (notFace_of_selects (args := #[]) (mvT hZ (wk hw 10 rfl))) (mvT hZ (wk hw 10 rfl)) (mvT hZ (wk hw 9 rfl)) (by decide) (backOf (W := 1) (rm2 l Z a0 hw [] wB (1 : Int32) T114.heap n0 f127 f118) hZ (wk hw 11 rfl) (wk hw 5 rfl) (by decide) (by decide)) q128a q128c (g := (mkF m 32 #[.val (.int p1), .val (.int p2), .val (.ref (pk4 wB wD wF wS p2)), .val (.int (1 : Int32)), .val (.ref wS), .unset, .unset] [(.ref wB), (.int p1)])) rfl (by rw [hml]; rfl) (Steps.refl _) (argsL := []) (rest := [(.int p1)]) (lenOf pd_2 rfl) rfl (by show 2 * 0 + _ ≤ _; exact Nat.le_of_eq rfl) (hb hby at_32) (fun _ _ => ⟨rfl, e117, (by decide : 2 + 0 ≤ _), (by decide : 8 + 0 ≤ _)⟩)
    dsimp only [Pt.U, Pt.locs, Pt.cells, Pt.slots] at X128 l128 y128 z128 st128 hQ128
    subst l128 y128 z128
    obtain ⟨rfl, N128q, e128⟩ := hQ128
    have N128 := Fr.app N114 N128q
    have go129 : Go p.tables e below T128 (mkF m 39 #[.val (.int p1), .val (.int p2), .val (.ref (pk4 wB wD wF wS p2)), .val (.int (1 : Int32)), .val (.ref wS), .unset, .unset] [(.int p1)]) s₁ (entryFrame m #[(.int p1), (.int p2)] maxLocals) := by
      intro t k
      refine go119 t ?_
      show Steps _ _ _ (T117.setTop (mkF m 32 #[.val (.int p1), .val (.int p2), .val (.ref (pk4 wB wD wF wS p2)), .val (.int (1 : Int32)), .val (.ref wS), .unset, .unset] [(.ref wB), (.int p1)])) _
      refine st128.trans ?_
      show Steps _ _ _ (T128.setTop (mkF m 35 #[.val (.int p1), .val (.int p2), .val (.ref (pk4 wB wD wF wS p2)), .val (.int (1 : Int32)), .val (.ref wS), .unset, .unset] [(.int (1 : Int32)), (.int p1)])) _
      refine XS.icmpNo X128.here hx rfl (hb hby at_35) rfl (feq (by rw [hk]; decide)).1 ?_
      show Steps _ _ _ (T128.setTop (mkF m 38 #[.val (.int p1), .val (.int p2), .val (.ref (pk4 wB wD wF wS p2)), .val (.int (1 : Int32)), .val (.ref wS), .unset, .unset] [])) _
      refine XS.iloadN X128.here hx rfl (hb hby at_38) rfl ?_
      exact k
    obtain ⟨T130, X130, e130, st130⟩ := getS2 X128 hx hZ hown (host := "") (Or.inl (wk hw 36 rfl)) Via.refl e128 (S_wD.ext (own_ext0 f115)) (g := (mkF m 39 #[.val (.int p1), .val (.int p2), .val (.ref (pk4 wB wD wF wS p2)), .val (.int (1 : Int32)), .val (.ref wS), .unset, .unset] [(.int p1)])) rfl (hb hby at_39)
    have go132 : Go p.tables e below T130 (mkF m 42 #[.val (.int p1), .val (.int p2), .val (.ref (pk4 wB wD wF wS p2)), .val (.int (1 : Int32)), .val (.ref wS), .unset, .unset] [(.ref wD), (.int p1)]) s₁ (entryFrame m #[(.int p1), (.int p2)] maxLocals) := by
      intro t k
      refine go129 t ?_
      show Steps _ _ _ (T128.setTop (mkF m 39 #[.val (.int p1), .val (.int p2), .val (.ref (pk4 wB wD wF wS p2)), .val (.int (1 : Int32)), .val (.ref wS), .unset, .unset] [(.int p1)])) _
      refine st130 _ ?_
      exact k
    obtain ⟨cq131, kq131, q131a, q131b, q131c⟩ := isOf hZ e130 f124
    obtain ⟨_, _, ⟨T131, L131, k131, n131⟩, -, X131, ⟨Lc131, hQ131, l131, y131, z131⟩, st131⟩ := X130.virtualBack hx (y := (⟨"com/example/sketcher/sketcher/io/SketchFamily", "code", "()I"⟩ : MethodName)) (z := (⟨"com/example/sketcher/sketcher/io/SketchFamily", "code", "()I"⟩ : MethodName)) hown (mvT hZ (wk hw 7 rfl)) (mvT hZ (wk hw 8 rfl)) (notFace_of_selects (args := #[]) (mvT hZ (wk hw 10 rfl))) (mvT hZ (wk hw 10 rfl)) (mvT hZ (wk hw 9 rfl)) (by decide) (backOf (W := 1) (rm2 l Z a0 hw [] wD (2 : Int32) T114.heap n0 f127 f120) hZ (wk hw 11 rfl) (wk hw 5 rfl) (by decide) (by decide)) q131a q131c (g := (mkF m 42 #[.val (.int p1), .val (.int p2), .val (.ref (pk4 wB wD wF wS p2)), .val (.int (1 : Int32)), .val (.ref wS), .unset, .unset] [(.ref wD), (.int p1)])) rfl (by rw [hml]; rfl) (Steps.refl _) (argsL := []) (rest := [(.int p1)]) (lenOf pd_2 rfl) rfl (by show 2 * 0 + _ ≤ _; exact Nat.le_of_eq rfl) (hb hby at_42) (fun _ _ => ⟨rfl, e130, (by decide : 2 + 0 ≤ _), (by decide : 8 + 0 ≤ _)⟩)
    dsimp only [Pt.U, Pt.locs, Pt.cells, Pt.slots] at X131 l131 y131 z131 st131 hQ131
    subst l131 y131 z131
    obtain ⟨rfl, N131q, e131⟩ := hQ131
    have N131 := Fr.app N128 N131q
    have go133 : Go p.tables e below T131 (mkF m 49 #[.val (.int p1), .val (.int p2), .val (.ref (pk4 wB wD wF wS p2)), .val (.int (1 : Int32)), .val (.ref wS), .unset, .unset] [(.int p1)]) s₁ (entryFrame m #[(.int p1), (.int p2)] maxLocals) := by
      intro t k
      refine go132 t ?_
      show Steps _ _ _ (T130.setTop (mkF m 42 #[.val (.int p1), .val (.int p2), .val (.ref (pk4 wB wD wF wS p2)), .val (.int (1 : Int32)), .val (.ref wS), .unset, .unset] [(.ref wD), (.int p1)])) _
      refine st131.trans ?_
      show Steps _ _ _ (T131.setTop (mkF m 45 #[.val (.int p1), .val (.int p2), .val (.ref (pk4 wB wD wF wS p2)), .val (.int (1 : Int32)), .val (.ref wS), .unset, .unset] [(.int (2 : Int32)), (.int p1)])) _
      refine XS.icmpNo X131.here hx rfl (hb hby at_45) rfl (feq (by rw [hk]; decide)).1 ?_
      show Steps _ _ _ (T131.setTop (mkF m 48 #[.val (.int p1), .val (.int p2), .val (.ref (pk4 wB wD wF wS p2)), .val (.int (1 : Int32)), .val (.ref wS), .unset, .unset] [])) _
      refine XS.iloadN X131.here hx rfl (hb hby at_48) rfl ?_
      exact k
    obtain ⟨T134, X134, e134, st134⟩ := getS2 X131 hx hZ hown (host := "") (Or.inl (wk hw 37 rfl)) Via.refl e131 (S_wF.ext (own_ext0 f115)) (g := (mkF m 49 #[.val (.int p1), .val (.int p2), .val (.ref (pk4 wB wD wF wS p2)), .val (.int (1 : Int32)), .val (.ref wS), .unset, .unset] [(.int p1)])) rfl (hb hby at_49)
    have go136 : Go p.tables e below T134 (mkF m 52 #[.val (.int p1), .val (.int p2), .val (.ref (pk4 wB wD wF wS p2)), .val (.int (1 : Int32)), .val (.ref wS), .unset, .unset] [(.ref wF), (.int p1)]) s₁ (entryFrame m #[(.int p1), (.int p2)] maxLocals) := by
      intro t k
      refine go133 t ?_
      show Steps _ _ _ (T131.setTop (mkF m 49 #[.val (.int p1), .val (.int p2), .val (.ref (pk4 wB wD wF wS p2)), .val (.int (1 : Int32)), .val (.ref wS), .unset, .unset] [(.int p1)])) _
      refine st134 _ ?_
      exact k
    obtain ⟨cq135, kq135, q135a, q135b, q135c⟩ := isOf hZ e134 f125
    obtain ⟨_, _, ⟨T135, L135, k135, n135⟩, -, X135, ⟨Lc135, hQ135, l135, y135, z135⟩, st135⟩ := X134.virtualBack hx (y := (⟨"com/example/sketcher/sketcher/io/SketchFamily", "code", "()I"⟩ : MethodName)) (z := (⟨"com/example/sketcher/sketcher/io/SketchFamily", "code", "()I"⟩ : MethodName)) hown (mvT hZ (wk hw 7 rfl)) (mvT hZ (wk hw 8 rfl)) (notFace_of_selects (args := #[]) (mvT hZ (wk hw 10 rfl))) (mvT hZ (wk hw 10 rfl)) (mvT hZ (wk hw 9 rfl)) (by decide) (backOf (W := 1) (rm2 l Z a0 hw [] wF (3 : Int32) T114.heap n0 f127 f121) hZ (wk hw 11 rfl) (wk hw 5 rfl) (by decide) (by decide)) q135a q135c (g := (mkF m 52 #[.val (.int p1), .val (.int p2), .val (.ref (pk4 wB wD wF wS p2)), .val (.int (1 : Int32)), .val (.ref wS), .unset, .unset] [(.ref wF), (.int p1)])) rfl (by rw [hml]; rfl) (Steps.refl _) (argsL := []) (rest := [(.int p1)]) (lenOf pd_2 rfl) rfl (by show 2 * 0 + _ ≤ _; exact Nat.le_of_eq rfl) (hb hby at_52) (fun _ _ => ⟨rfl, e134, (by decide : 2 + 0 ≤ _), (by decide : 8 + 0 ≤ _)⟩)
    dsimp only [Pt.U, Pt.locs, Pt.cells, Pt.slots] at X135 l135 y135 z135 st135 hQ135
    subst l135 y135 z135
    obtain ⟨rfl, N135q, e135⟩ := hQ135
    have N135 := Fr.app N131 N135q
    have go137 : Go p.tables e below T135 (mkF m 59 #[.val (.int p1), .val (.int p2), .val (.ref (pk4 wB wD wF wS p2)), .val (.int (1 : Int32)), .val (.ref wS), .unset, .unset] [(.int p1)]) s₁ (entryFrame m #[(.int p1), (.int p2)] maxLocals) := by
      intro t k
      refine go136 t ?_
      show Steps _ _ _ (T134.setTop (mkF m 52 #[.val (.int p1), .val (.int p2), .val (.ref (pk4 wB wD wF wS p2)), .val (.int (1 : Int32)), .val (.ref wS), .unset, .unset] [(.ref wF), (.int p1)])) _
      refine st135.trans ?_
      show Steps _ _ _ (T135.setTop (mkF m 55 #[.val (.int p1), .val (.int p2), .val (.ref (pk4 wB wD wF wS p2)), .val (.int (1 : Int32)), .val (.ref wS), .unset, .unset] [(.int (3 : Int32)), (.int p1)])) _
      refine XS.icmpNo X135.here hx rfl (hb hby at_55) rfl (feq (by rw [hk]; decide)).1 ?_
      show Steps _ _ _ (T135.setTop (mkF m 58 #[.val (.int p1), .val (.int p2), .val (.ref (pk4 wB wD wF wS p2)), .val (.int (1 : Int32)), .val (.ref wS), .unset, .unset] [])) _
      refine XS.iloadN X135.here hx rfl (hb hby at_58) rfl ?_
      exact k
    obtain ⟨T138, X138, e138, st138⟩ := getS2 X135 hx hZ hown (host := "") (Or.inl (wk hw 4 rfl)) Via.refl e135 (S_wS.ext (own_ext0 f115)) (g := (mkF m 59 #[.val (.int p1), .val (.int p2), .val (.ref (pk4 wB wD wF wS p2)), .val (.int (1 : Int32)), .val (.ref wS), .unset, .unset] [(.int p1)])) rfl (hb hby at_59)
    have go140 : Go p.tables e below T138 (mkF m 62 #[.val (.int p1), .val (.int p2), .val (.ref (pk4 wB wD wF wS p2)), .val (.int (1 : Int32)), .val (.ref wS), .unset, .unset] [(.ref wS), (.int p1)]) s₁ (entryFrame m #[(.int p1), (.int p2)] maxLocals) := by
      intro t k
      refine go137 t ?_
      show Steps _ _ _ (T135.setTop (mkF m 59 #[.val (.int p1), .val (.int p2), .val (.ref (pk4 wB wD wF wS p2)), .val (.int (1 : Int32)), .val (.ref wS), .unset, .unset] [(.int p1)])) _
      refine st138 _ ?_
      exact k
    obtain ⟨cq139, kq139, q139a, q139b, q139c⟩ := isOf hZ e138 f126
    obtain ⟨_, _, ⟨T139, L139, k139, n139⟩, -, X139, ⟨Lc139, hQ139, l139, y139, z139⟩, st139⟩ := X138.virtualBack hx (y := (⟨"com/example/sketcher/sketcher/io/SketchFamily", "code", "()I"⟩ : MethodName)) (z := (⟨"com/example/sketcher/sketcher/io/SketchFamily", "code", "()I"⟩ : MethodName)) hown (mvT hZ (wk hw 7 rfl)) (mvT hZ (wk hw 8 rfl)) (notFace_of_selects (args := #[]) (mvT hZ (wk hw 10 rfl))) (mvT hZ (wk hw 10 rfl)) (mvT hZ (wk hw 9 rfl)) (by decide) (backOf (W := 1) (rm2 l Z a0 hw [] wS (4 : Int32) T114.heap n0 f127 f122) hZ (wk hw 11 rfl) (wk hw 5 rfl) (by decide) (by decide)) q139a q139c (g := (mkF m 62 #[.val (.int p1), .val (.int p2), .val (.ref (pk4 wB wD wF wS p2)), .val (.int (1 : Int32)), .val (.ref wS), .unset, .unset] [(.ref wS), (.int p1)])) rfl (by rw [hml]; rfl) (Steps.refl _) (argsL := []) (rest := [(.int p1)]) (lenOf pd_2 rfl) rfl (by show 2 * 0 + _ ≤ _; exact Nat.le_of_eq rfl) (hb hby at_62) (fun _ _ => ⟨rfl, e138, (by decide : 2 + 0 ≤ _), (by decide : 8 + 0 ≤ _)⟩)
    dsimp only [Pt.U, Pt.locs, Pt.cells, Pt.slots] at X139 l139 y139 z139 st139 hQ139
    subst l139 y139 z139
    obtain ⟨rfl, N139q, e139⟩ := hQ139
    have N139 := Fr.app N135 N139q
    have go142 : Go p.tables e below T139 (mkF m 97 #[.val (.int p1), .val (.int p2), .val (.ref (pk4 wB wD wF wS p2)), .val (.int (1 : Int32)), .val (.ref wS), .val (.int (1 : Int32)), .unset] [(.ref wS)]) s₁ (entryFrame m #[(.int p1), (.int p2)] maxLocals) := by
      intro t k
      refine go140 t ?_
      show Steps _ _ _ (T138.setTop (mkF m 62 #[.val (.int p1), .val (.int p2), .val (.ref (pk4 wB wD wF wS p2)), .val (.int (1 : Int32)), .val (.ref wS), .unset, .unset] [(.ref wS), (.int p1)])) _
      refine st139.trans ?_
      show Steps _ _ _ (T139.setTop (mkF m 65 #[.val (.int p1), .val (.int p2), .val (.ref (pk4 wB wD wF wS p2)), .val (.int (1 : Int32)), .val (.ref wS), .unset, .unset] [(.int (4 : Int32)), (.int p1)])) _
      refine XS.icmpNo X139.here hx rfl (hb hby at_65) rfl (teq hk).2 ?_
      show Steps _ _ _ (T139.setTop (mkF m 68 #[.val (.int p1), .val (.int p2), .val (.ref (pk4 wB wD wF wS p2)), .val (.int (1 : Int32)), .val (.ref wS), .unset, .unset] [])) _
      refine XS.iconst X139.here hx rfl (hb hby at_68) ?_
      show Steps _ _ _ (T139.setTop (mkF m 69 #[.val (.int p1), .val (.int p2), .val (.ref (pk4 wB wD wF wS p2)), .val (.int (1 : Int32)), .val (.ref wS), .unset, .unset] [(.int (1 : Int32))])) _
      refine XS.goto X139.here hx rfl (pc0 := 69) (pc' := 73) rfl (hb hby at_69) (by decide) (by decide) ?_
      show Steps _ _ _ (T139.setTop (mkF m 73 #[.val (.int p1), .val (.int p2), .val (.ref (pk4 wB wD wF wS p2)), .val (.int (1 : Int32)), .val (.ref wS), .unset, .unset] [(.int (1 : Int32))])) _
      refine XS.istore X139.here hx rfl (hb hby at_73) rfl (l' := #[.val (.int p1), .val (.int p2), .val (.ref (pk4 wB wD wF wS p2)), .val (.int (1 : Int32)), .val (.ref wS), .val (.int (1 : Int32)), .unset]) rfl ?_
      show Steps _ _ _ (T139.setTop (mkF m 75 #[.val (.int p1), .val (.int p2), .val (.ref (pk4 wB wD wF wS p2)), .val (.int (1 : Int32)), .val (.ref wS), .val (.int (1 : Int32)), .unset] [])) _
      refine XS.aload X139.here hx rfl (hb hby at_75) rfl rfl ?_
      show Steps _ _ _ (T139.setTop (mkF m 77 #[.val (.int p1), .val (.int p2), .val (.ref (pk4 wB wD wF wS p2)), .val (.int (1 : Int32)), .val (.ref wS), .val (.int (1 : Int32)), .unset] [(.ref wS)])) _
      refine XS.ifnonnullYes X139.here hx rfl (pc0 := 77) (pc' := 95) rfl (hb hby at_77) rfl (by decide) (by decide) ?_
      show Steps _ _ _ (T139.setTop (mkF m 95 #[.val (.int p1), .val (.int p2), .val (.ref (pk4 wB wD wF wS p2)), .val (.int (1 : Int32)), .val (.ref wS), .val (.int (1 : Int32)), .unset] [])) _
      refine XS.aload X139.here hx rfl (hb hby at_95) rfl rfl ?_
      exact k
    obtain ⟨cq141, kq141, q141a, q141b, q141c⟩ := isOf hZ e139 f126
    obtain ⟨_, _, ⟨T141, L141, k141, n141⟩, -, X141, ⟨Lc141, hQ141, l141, y141, z141⟩, st141⟩ := X139.virtualBack hx (y := (⟨"com/example/sketcher/sketcher/io/SketchFamily", "code", "()I"⟩ : MethodName)) (z := (⟨"com/example/sketcher/sketcher/io/SketchFamily", "code", "()I"⟩ : MethodName)) hown (mvT hZ (wk hw 7 rfl)) (mvT hZ (wk hw 8 rfl)) (notFace_of_selects (args := #[]) (mvT hZ (wk hw 10 rfl))) (mvT hZ (wk hw 10 rfl)) (mvT hZ (wk hw 9 rfl)) (by decide) (backOf (W := 0) (rm2 l Z a0 hw [] wS (4 : Int32) T114.heap n0 f127 f122) hZ (wk hw 11 rfl) (wk hw 5 rfl) (by decide) (by decide)) q141a q141c (g := (mkF m 97 #[.val (.int p1), .val (.int p2), .val (.ref (pk4 wB wD wF wS p2)), .val (.int (1 : Int32)), .val (.ref wS), .val (.int (1 : Int32)), .unset] [(.ref wS)])) rfl (by rw [hml]; rfl) (Steps.refl _) (argsL := []) (rest := []) (lenOf pd_2 rfl) rfl (by show 2 * 0 + _ ≤ _; exact Nat.le_of_eq rfl) (hb hby at_97) (fun _ _ => ⟨rfl, e139, (by decide : 2 + 0 ≤ _), (by decide : 8 + 0 ≤ _)⟩)
    dsimp only [Pt.U, Pt.locs, Pt.cells, Pt.slots] at X141 l141 y141 z141 st141 hQ141
    subst l141 y141 z141
    obtain ⟨rfl, N141q, e141⟩ := hQ141
    have N141 := Fr.app N139 N141q
    have go143 : Go p.tables e below T141 (mkF m 125 #[.val (.int p1), .val (.int p2), .val (.ref (pk4 wB wD wF wS p2)), .val (.int (1 : Int32)), .val (.ref wS), .val (.int (1 : Int32)), .val (.int (1 : Int32))] [(.int (1 : Int32))]) s₁ (entryFrame m #[(.int p1), (.int p2)] maxLocals) := by
      intro t k
      refine go142 t ?_
      show Steps _ _ _ (T139.setTop (mkF m 97 #[.val (.int p1), .val (.int p2), .val (.ref (pk4 wB wD wF wS p2)), .val (.int (1 : Int32)), .val (.ref wS), .val (.int (1 : Int32)), .unset] [(.ref wS)])) _
      refine st141.trans ?_
      show Steps _ _ _ (T141.setTop (mkF m 100 #[.val (.int p1), .val (.int p2), .val (.ref (pk4 wB wD wF wS p2)), .val (.int (1 : Int32)), .val (.ref wS), .val (.int (1 : Int32)), .unset] [(.int (4 : Int32))])) _
      refine XS.iloadN X141.here hx rfl (hb hby at_100) rfl ?_
      show Steps _ _ _ (T141.setTop (mkF m 101 #[.val (.int p1), .val (.int p2), .val (.ref (pk4 wB wD wF wS p2)), .val (.int (1 : Int32)), .val (.ref wS), .val (.int (1 : Int32)), .unset] [(.int p1), (.int (4 : Int32))])) _
      refine XS.icmpNo X141.here hx rfl (hb hby at_101) rfl (teq hk.symm).2 ?_
      show Steps _ _ _ (T141.setTop (mkF m 104 #[.val (.int p1), .val (.int p2), .val (.ref (pk4 wB wD wF wS p2)), .val (.int (1 : Int32)), .val (.ref wS), .val (.int (1 : Int32)), .unset] [])) _
      refine XS.iconst X141.here hx rfl (hb hby at_104) ?_
      show Steps _ _ _ (T141.setTop (mkF m 105 #[.val (.int p1), .val (.int p2), .val (.ref (pk4 wB wD wF wS p2)), .val (.int (1 : Int32)), .val (.ref wS), .val (.int (1 : Int32)), .unset] [(.int (1 : Int32))])) _
      refine XS.goto X141.here hx rfl (pc0 := 105) (pc' := 109) rfl (hb hby at_105) (by decide) (by decide) ?_
      show Steps _ _ _ (T141.setTop (mkF m 109 #[.val (.int p1), .val (.int p2), .val (.ref (pk4 wB wD wF wS p2)), .val (.int (1 : Int32)), .val (.ref wS), .val (.int (1 : Int32)), .unset] [(.int (1 : Int32))])) _
      refine XS.istore X141.here hx rfl (hb hby at_109) rfl (l' := #[.val (.int p1), .val (.int p2), .val (.ref (pk4 wB wD wF wS p2)), .val (.int (1 : Int32)), .val (.ref wS), .val (.int (1 : Int32)), .val (.int (1 : Int32))]) rfl ?_
      show Steps _ _ _ (T141.setTop (mkF m 111 #[.val (.int p1), .val (.int p2), .val (.ref (pk4 wB wD wF wS p2)), .val (.int (1 : Int32)), .val (.ref wS), .val (.int (1 : Int32)), .val (.int (1 : Int32))] [])) _
      refine XS.iloadN X141.here hx rfl (hb hby at_111) rfl ?_
      show Steps _ _ _ (T141.setTop (mkF m 112 #[.val (.int p1), .val (.int p2), .val (.ref (pk4 wB wD wF wS p2)), .val (.int (1 : Int32)), .val (.ref wS), .val (.int (1 : Int32)), .val (.int (1 : Int32))] [(.int (1 : Int32))])) _
      refine XS.ifNo X141.here hx rfl (hb hby at_112) rfl ((if0 _ _).trans (feq (by decide)).1) ?_
      show Steps _ _ _ (T141.setTop (mkF m 115 #[.val (.int p1), .val (.int p2), .val (.ref (pk4 wB wD wF wS p2)), .val (.int (1 : Int32)), .val (.ref wS), .val (.int (1 : Int32)), .val (.int (1 : Int32))] [])) _
      refine XS.iload X141.here hx rfl (hb hby at_115) rfl ?_
      show Steps _ _ _ (T141.setTop (mkF m 117 #[.val (.int p1), .val (.int p2), .val (.ref (pk4 wB wD wF wS p2)), .val (.int (1 : Int32)), .val (.ref wS), .val (.int (1 : Int32)), .val (.int (1 : Int32))] [(.int (1 : Int32))])) _
      refine XS.ifNo X141.here hx rfl (hb hby at_117) rfl ((if0 _ _).trans (feq (by decide)).1) ?_
      show Steps _ _ _ (T141.setTop (mkF m 120 #[.val (.int p1), .val (.int p2), .val (.ref (pk4 wB wD wF wS p2)), .val (.int (1 : Int32)), .val (.ref wS), .val (.int (1 : Int32)), .val (.int (1 : Int32))] [])) _
      refine XS.iconst X141.here hx rfl (hb hby at_120) ?_
      show Steps _ _ _ (T141.setTop (mkF m 121 #[.val (.int p1), .val (.int p2), .val (.ref (pk4 wB wD wF wS p2)), .val (.int (1 : Int32)), .val (.ref wS), .val (.int (1 : Int32)), .val (.int (1 : Int32))] [(.int (1 : Int32))])) _
      refine XS.goto X141.here hx rfl (pc0 := 121) (pc' := 125) rfl (hb hby at_121) (by decide) (by decide) ?_
      exact k
    obtain ⟨fs, hr, hrun, hended, hW, hsame⟩ := X141.leave (v := some (.int (1 : Int32))) (fun h => by rw [Bd.returns] at h; cases h)
    refine ⟨_, _, go143 _ ?_, hrun, hended, _, _, rfl, ?_, ⟨_, rfl⟩, hW, hsame.mono (by decide) (by decide)⟩
    · exact retN X141 hx (t := .boolean) Bd.returns (by simp) (hb hby at_125) hr
    · show QL (.int 1) h0 n0 _ T141.heap _
      rw [e141]
      exact ⟨rfl, N141⟩
  · skip
    have f144 : Fld Z T5.heap wB "com/example/sketcher/sketcher/io/SketchFamily" "code" "I" (.int (1 : Int32)) := (F_wB.keep K5 nin0)
    have f145 : Fld Z T5.heap wD "com/example/sketcher/sketcher/io/SketchFamily" "code" "I" (.int (2 : Int32)) := (F_wD.keep K5 nin0)
    have f146 : Fld Z T5.heap wF "com/example/sketcher/sketcher/io/SketchFamily" "code" "I" (.int (3 : Int32)) := (F_wF.keep K5 nin0)
    have f147 : Fld Z T5.heap wS "com/example/sketcher/sketcher/io/SketchFamily" "code" "I" (.int (4 : Int32)) := (F_wS.keep K5 nin0)
    have f148 : Exa Z T5.heap wB "com/example/sketcher/sketcher/io/SketchFamily" := (E_wB.keep K5)
    have f149 : Exa Z T5.heap wD "com/example/sketcher/sketcher/io/SketchFamily" := (E_wD.keep K5)
    have f150 : Exa Z T5.heap wF "com/example/sketcher/sketcher/io/SketchFamily" := (E_wF.keep K5)
    have f151 : Exa Z T5.heap wS "com/example/sketcher/sketcher/io/SketchFamily" := (E_wS.keep K5)
    have f152 : Keep h0 T5.heap [] := ((Keep.refl h0 []).trans K5 all0)
    have f153 : n0 ≤ T5.heap.size := (Nat.le_trans Z0 K5.1)
    obtain ⟨_, _, ⟨T154, L154, k154, n154⟩, -, X154, ⟨Lc154, hQ154, l154, y154, z154⟩, st154⟩ := Jvm.LawKit.callS X5 hx (y := (⟨"com/example/sketcher/sketcher/io/SketchFamily", "ofCode", "(I)Lcom/example/sketcher/sketcher/io/SketchFamily;"⟩ : MethodName)) hown (mvT hZ (wk hw 14 rfl)) (mvT hZ (wk hw 15 rfl)) (mvT hZ (wk hw 5 rfl)) (mvT hZ (wk hw 16 rfl)) (by decide) (backOf (W := 0) (rm3 l Z a0 hw [] p1 wB wD wF wS wV cl T5.heap n0 f153 f144 f145 f146 f147 (S_V.ext (own_ext0 f152)) (Ar.ext (own_ext0 f152)) (E_V.ext (own_ext0 f152)) FC hsz hlen hin hat0 hat1 hat2 hat3) hZ (wk hw 16 rfl) (wk hw 5 rfl) (by decide) (by decide)) (g := (mkF m 23 #[.val (.int p1), .val (.int p2), .val (.ref (pk4 wB wD wF wS p2)), .val (.int (1 : Int32)), .unset, .unset, .unset] [(.int p1)])) rfl (by rw [hml]; rfl) (argsL := [(.int p1)]) (rest := []) (lenOf pd_1 rfl) rfl (by show 2 * 0 + _ ≤ _; exact Nat.le_of_eq rfl) (hb hby at_23) (fun _ _ => ⟨rfl, rfl, (by decide : 1 + 1 ≤ _), (by decide : 4 + 4 ≤ _)⟩)
    dsimp only [Pt.U, Pt.locs, Pt.cells, Pt.slots] at X154 l154 y154 z154 st154 hQ154
    subst l154 y154 z154
    obtain ⟨hv154, N154q, K154⟩ := hQ154
    rw [own_ofc0 _ _ _ _ hk] at hv154
    subst hv154
    have N154 := Fr.app N5 N154q
    have go156 : Go p.tables e below T154 (mkF m 29 #[.val (.int p1), .val (.int p2), .val (.ref (pk4 wB wD wF wS p2)), .val (.int (1 : Int32)), .val .null, .unset, .unset] [(.int p1)]) s₁ (entryFrame m #[(.int p1), (.int p2)] maxLocals) := by
      intro t k
      refine go7 t ?_
      show Steps _ _ _ (T5.setTop (mkF m 23 #[.val (.int p1), .val (.int p2), .val (.ref (pk4 wB wD wF wS p2)), .val (.int (1 : Int32)), .unset, .unset, .unset] [(.int p1)])) _
      refine st154 _ ?_
      show Steps _ _ _ (T154.setTop (mkF m 26 #[.val (.int p1), .val (.int p2), .val (.ref (pk4 wB wD wF wS p2)), .val (.int (1 : Int32)), .unset, .unset, .unset] [.null])) _
      refine XS.astore X154.here hx rfl (hb hby at_26) rfl rfl (l' := #[.val (.int p1), .val (.int p2), .val (.ref (pk4 wB wD wF wS p2)), .val (.int (1 : Int32)), .val .null, .unset, .unset]) rfl ?_
      show Steps _ _ _ (T154.setTop (mkF m 28 #[.val (.int p1), .val (.int p2), .val (.ref (pk4 wB wD wF wS p2)), .val (.int (1 : Int32)), .val .null, .unset, .unset] [])) _
      refine XS.iloadN X154.here hx rfl (hb hby at_28) rfl ?_
      exact k
    have f155 : Keep h0 T154.heap [] := (f152.trans K154 all0)
    obtain ⟨T157, X157, e157, st157⟩ := getS2 X154 hx hZ hown (host := "") (Or.inl (wk hw 35 rfl)) Via.refl rfl (S_wB.ext (own_ext0 f155)) (g := (mkF m 29 #[.val (.int p1), .val (.int p2), .val (.ref (pk4 wB wD wF wS p2)), .val (.int (1 : Int32)), .val .null, .unset, .unset] [(.int p1)])) rfl (hb hby at_29)
    have go159 : Go p.tables e below T157 (mkF m 32 #[.val (.int p1), .val (.int p2), .val (.ref (pk4 wB wD wF wS p2)), .val (.int (1 : Int32)), .val .null, .unset, .unset] [(.ref wB), (.int p1)]) s₁ (entryFrame m #[(.int p1), (.int p2)] maxLocals) := by
      intro t k
      refine go156 t ?_
      show Steps _ _ _ (T154.setTop (mkF m 29 #[.val (.int p1), .val (.int p2), .val (.ref (pk4 wB wD wF wS p2)), .val (.int (1 : Int32)), .val .null, .unset, .unset] [(.int p1)])) _
      refine st157 _ ?_
      exact k
    have f158 : Fld Z T154.heap wB "com/example/sketcher/sketcher/io/SketchFamily" "code" "I" (.int (1 : Int32)) := (f144.keep K154 nin0)
    have f160 : Fld Z T154.heap wD "com/example/sketcher/sketcher/io/SketchFamily" "code" "I" (.int (2 : Int32)) := (f145.keep K154 nin0)
    have f161 : Fld Z T154.heap wF "com/example/sketcher/sketcher/io/SketchFamily" "code" "I" (.int (3 : Int32)) := (f146.keep K154 nin0)
    have f162 : Fld Z T154.heap wS "com/example/sketcher/sketcher/io/SketchFamily" "code" "I" (.int (4 : Int32)) := (f147.keep K154 nin0)
    have f163 : Exa Z T154.heap wB "com/example/sketcher/sketcher/io/SketchFamily" := (f148.keep K154)
    have f164 : Exa Z T154.heap wD "com/example/sketcher/sketcher/io/SketchFamily" := (f149.keep K154)
    have f165 : Exa Z T154.heap wF "com/example/sketcher/sketcher/io/SketchFamily" := (f150.keep K154)
    have f166 : Exa Z T154.heap wS "com/example/sketcher/sketcher/io/SketchFamily" := (f151.keep K154)
    have f167 : n0 ≤ T154.heap.size := (Nat.le_trans f153 K154.1)
    obtain ⟨cq168, kq168, q168a, q168b, q168c⟩ := isOf hZ e157 f163
    obtain ⟨_, _, ⟨T168, L168, k168, n168⟩, -, X168, ⟨Lc168, hQ168, l168, y168, z168⟩, st168⟩ := X157.virtualBack hx (y := (⟨"com/example/sketcher/sketcher/io/SketchFamily", "code", "()I"⟩ : MethodName)) (z := (⟨"com/example/sketcher/sketcher/io/SketchFamily", "code", "()I"⟩ : MethodName)) hown (mvT hZ (wk hw 7 rfl)) (mvT hZ (wk hw 8 rfl)) (notFace_of_selects (args := #[]) (mvT hZ (wk hw 10 rfl))) (mvT hZ (wk hw 10 rfl)) (mvT hZ (wk hw 9 rfl)) (by decide) (backOf (W := 1) (rm2 l Z a0 hw [] wB (1 : Int32) T154.heap n0 f167 f158) hZ (wk hw 11 rfl) (wk hw 5 rfl) (by decide) (by decide)) q168a q168c (g := (mkF m 32 #[.val (.int p1), .val (.int p2), .val (.ref (pk4 wB wD wF wS p2)), .val (.int (1 : Int32)), .val .null, .unset, .unset] [(.ref wB), (.int p1)])) rfl (by rw [hml]; rfl) (Steps.refl _) (argsL := []) (rest := [(.int p1)]) (lenOf pd_2 rfl) rfl (by show 2 * 0 + _ ≤ _; exact Nat.le_of_eq rfl) (hb hby at_32) (fun _ _ => ⟨rfl, e157, (by decide : 2 + 0 ≤ _), (by decide : 8 + 0 ≤ _)⟩)
    dsimp only [Pt.U, Pt.locs, Pt.cells, Pt.slots] at X168 l168 y168 z168 st168 hQ168
    subst l168 y168 z168
    obtain ⟨rfl, N168q, e168⟩ := hQ168
    have N168 := Fr.app N154 N168q
    have go169 : Go p.tables e below T168 (mkF m 39 #[.val (.int p1), .val (.int p2), .val (.ref (pk4 wB wD wF wS p2)), .val (.int (1 : Int32)), .val .null, .unset, .unset] [(.int p1)]) s₁ (entryFrame m #[(.int p1), (.int p2)] maxLocals) := by
      intro t k
      refine go159 t ?_
      show Steps _ _ _ (T157.setTop (mkF m 32 #[.val (.int p1), .val (.int p2), .val (.ref (pk4 wB wD wF wS p2)), .val (.int (1 : Int32)), .val .null, .unset, .unset] [(.ref wB), (.int p1)])) _
      refine st168.trans ?_
      show Steps _ _ _ (T168.setTop (mkF m 35 #[.val (.int p1), .val (.int p2), .val (.ref (pk4 wB wD wF wS p2)), .val (.int (1 : Int32)), .val .null, .unset, .unset] [(.int (1 : Int32)), (.int p1)])) _
      refine XS.icmpNo X168.here hx rfl (hb hby at_35) rfl (feq hk.1).1 ?_
      show Steps _ _ _ (T168.setTop (mkF m 38 #[.val (.int p1), .val (.int p2), .val (.ref (pk4 wB wD wF wS p2)), .val (.int (1 : Int32)), .val .null, .unset, .unset] [])) _
      refine XS.iloadN X168.here hx rfl (hb hby at_38) rfl ?_
      exact k
    obtain ⟨T170, X170, e170, st170⟩ := getS2 X168 hx hZ hown (host := "") (Or.inl (wk hw 36 rfl)) Via.refl e168 (S_wD.ext (own_ext0 f155)) (g := (mkF m 39 #[.val (.int p1), .val (.int p2), .val (.ref (pk4 wB wD wF wS p2)), .val (.int (1 : Int32)), .val .null, .unset, .unset] [(.int p1)])) rfl (hb hby at_39)
    have go172 : Go p.tables e below T170 (mkF m 42 #[.val (.int p1), .val (.int p2), .val (.ref (pk4 wB wD wF wS p2)), .val (.int (1 : Int32)), .val .null, .unset, .unset] [(.ref wD), (.int p1)]) s₁ (entryFrame m #[(.int p1), (.int p2)] maxLocals) := by
      intro t k
      refine go169 t ?_
      show Steps _ _ _ (T168.setTop (mkF m 39 #[.val (.int p1), .val (.int p2), .val (.ref (pk4 wB wD wF wS p2)), .val (.int (1 : Int32)), .val .null, .unset, .unset] [(.int p1)])) _
      refine st170 _ ?_
      exact k
    obtain ⟨cq171, kq171, q171a, q171b, q171c⟩ := isOf hZ e170 f164
    obtain ⟨_, _, ⟨T171, L171, k171, n171⟩, -, X171, ⟨Lc171, hQ171, l171, y171, z171⟩, st171⟩ := X170.virtualBack hx (y := (⟨"com/example/sketcher/sketcher/io/SketchFamily", "code", "()I"⟩ : MethodName)) (z := (⟨"com/example/sketcher/sketcher/io/SketchFamily", "code", "()I"⟩ : MethodName)) hown (mvT hZ (wk hw 7 rfl)) (mvT hZ (wk hw 8 rfl)) (notFace_of_selects (args := #[]) (mvT hZ (wk hw 10 rfl))) (mvT hZ (wk hw 10 rfl)) (mvT hZ (wk hw 9 rfl)) (by decide) (backOf (W := 1) (rm2 l Z a0 hw [] wD (2 : Int32) T154.heap n0 f167 f160) hZ (wk hw 11 rfl) (wk hw 5 rfl) (by decide) (by decide)) q171a q171c (g := (mkF m 42 #[.val (.int p1), .val (.int p2), .val (.ref (pk4 wB wD wF wS p2)), .val (.int (1 : Int32)), .val .null, .unset, .unset] [(.ref wD), (.int p1)])) rfl (by rw [hml]; rfl) (Steps.refl _) (argsL := []) (rest := [(.int p1)]) (lenOf pd_2 rfl) rfl (by show 2 * 0 + _ ≤ _; exact Nat.le_of_eq rfl) (hb hby at_42) (fun _ _ => ⟨rfl, e170, (by decide : 2 + 0 ≤ _), (by decide : 8 + 0 ≤ _)⟩)
    dsimp only [Pt.U, Pt.locs, Pt.cells, Pt.slots] at X171 l171 y171 z171 st171 hQ171
    subst l171 y171 z171
    obtain ⟨rfl, N171q, e171⟩ := hQ171
    have N171 := Fr.app N168 N171q
    have go173 : Go p.tables e below T171 (mkF m 49 #[.val (.int p1), .val (.int p2), .val (.ref (pk4 wB wD wF wS p2)), .val (.int (1 : Int32)), .val .null, .unset, .unset] [(.int p1)]) s₁ (entryFrame m #[(.int p1), (.int p2)] maxLocals) := by
      intro t k
      refine go172 t ?_
      show Steps _ _ _ (T170.setTop (mkF m 42 #[.val (.int p1), .val (.int p2), .val (.ref (pk4 wB wD wF wS p2)), .val (.int (1 : Int32)), .val .null, .unset, .unset] [(.ref wD), (.int p1)])) _
      refine st171.trans ?_
      show Steps _ _ _ (T171.setTop (mkF m 45 #[.val (.int p1), .val (.int p2), .val (.ref (pk4 wB wD wF wS p2)), .val (.int (1 : Int32)), .val .null, .unset, .unset] [(.int (2 : Int32)), (.int p1)])) _
      refine XS.icmpNo X171.here hx rfl (hb hby at_45) rfl (feq hk.2.1).1 ?_
      show Steps _ _ _ (T171.setTop (mkF m 48 #[.val (.int p1), .val (.int p2), .val (.ref (pk4 wB wD wF wS p2)), .val (.int (1 : Int32)), .val .null, .unset, .unset] [])) _
      refine XS.iloadN X171.here hx rfl (hb hby at_48) rfl ?_
      exact k
    obtain ⟨T174, X174, e174, st174⟩ := getS2 X171 hx hZ hown (host := "") (Or.inl (wk hw 37 rfl)) Via.refl e171 (S_wF.ext (own_ext0 f155)) (g := (mkF m 49 #[.val (.int p1), .val (.int p2), .val (.ref (pk4 wB wD wF wS p2)), .val (.int (1 : Int32)), .val .null, .unset, .unset] [(.int p1)])) rfl (hb hby at_49)
    have go176 : Go p.tables e below T174 (mkF m 52 #[.val (.int p1), .val (.int p2), .val (.ref (pk4 wB wD wF wS p2)), .val (.int (1 : Int32)), .val .null, .unset, .unset] [(.ref wF), (.int p1)]) s₁ (entryFrame m #[(.int p1), (.int p2)] maxLocals) := by
      intro t k
      refine go173 t ?_
      show Steps _ _ _ (T171.setTop (mkF m 49 #[.val (.int p1), .val (.int p2), .val (.ref (pk4 wB wD wF wS p2)), .val (.int (1 : Int32)), .val .null, .unset, .unset] [(.int p1)])) _
      refine st174 _ ?_
      exact k
    obtain ⟨cq175, kq175, q175a, q175b, q175c⟩ := isOf hZ e174 f165
    obtain ⟨_, _, ⟨T175, L175, k175, n175⟩, -, X175, ⟨Lc175, hQ175, l175, y175, z175⟩, st175⟩ := X174.virtualBack hx (y := (⟨"com/example/sketcher/sketcher/io/SketchFamily", "code", "()I"⟩ : MethodName)) (z := (⟨"com/example/sketcher/sketcher/io/SketchFamily", "code", "()I"⟩ : MethodName)) hown (mvT hZ (wk hw 7 rfl)) (mvT hZ (wk hw 8 rfl)) (notFace_of_selects (args := #[]) (mvT hZ (wk hw 10 rfl))) (mvT hZ (wk hw 10 rfl)) (mvT hZ (wk hw 9 rfl)) (by decide) (backOf (W := 1) (rm2 l Z a0 hw [] wF (3 : Int32) T154.heap n0 f167 f161) hZ (wk hw 11 rfl) (wk hw 5 rfl) (by decide) (by decide)) q175a q175c (g := (mkF m 52 #[.val (.int p1), .val (.int p2), .val (.ref (pk4 wB wD wF wS p2)), .val (.int (1 : Int32)), .val .null, .unset, .unset] [(.ref wF), (.int p1)])) rfl (by rw [hml]; rfl) (Steps.refl _) (argsL := []) (rest := [(.int p1)]) (lenOf pd_2 rfl) rfl (by show 2 * 0 + _ ≤ _; exact Nat.le_of_eq rfl) (hb hby at_52) (fun _ _ => ⟨rfl, e174, (by decide : 2 + 0 ≤ _), (by decide : 8 + 0 ≤ _)⟩)
    dsimp only [Pt.U, Pt.locs, Pt.cells, Pt.slots] at X175 l175 y175 z175 st175 hQ175
    subst l175 y175 z175
    obtain ⟨rfl, N175q, e175⟩ := hQ175
    have N175 := Fr.app N171 N175q
    have go177 : Go p.tables e below T175 (mkF m 59 #[.val (.int p1), .val (.int p2), .val (.ref (pk4 wB wD wF wS p2)), .val (.int (1 : Int32)), .val .null, .unset, .unset] [(.int p1)]) s₁ (entryFrame m #[(.int p1), (.int p2)] maxLocals) := by
      intro t k
      refine go176 t ?_
      show Steps _ _ _ (T174.setTop (mkF m 52 #[.val (.int p1), .val (.int p2), .val (.ref (pk4 wB wD wF wS p2)), .val (.int (1 : Int32)), .val .null, .unset, .unset] [(.ref wF), (.int p1)])) _
      refine st175.trans ?_
      show Steps _ _ _ (T175.setTop (mkF m 55 #[.val (.int p1), .val (.int p2), .val (.ref (pk4 wB wD wF wS p2)), .val (.int (1 : Int32)), .val .null, .unset, .unset] [(.int (3 : Int32)), (.int p1)])) _
      refine XS.icmpNo X175.here hx rfl (hb hby at_55) rfl (feq hk.2.2.1).1 ?_
      show Steps _ _ _ (T175.setTop (mkF m 58 #[.val (.int p1), .val (.int p2), .val (.ref (pk4 wB wD wF wS p2)), .val (.int (1 : Int32)), .val .null, .unset, .unset] [])) _
      refine XS.iloadN X175.here hx rfl (hb hby at_58) rfl ?_
      exact k
    obtain ⟨T178, X178, e178, st178⟩ := getS2 X175 hx hZ hown (host := "") (Or.inl (wk hw 4 rfl)) Via.refl e175 (S_wS.ext (own_ext0 f155)) (g := (mkF m 59 #[.val (.int p1), .val (.int p2), .val (.ref (pk4 wB wD wF wS p2)), .val (.int (1 : Int32)), .val .null, .unset, .unset] [(.int p1)])) rfl (hb hby at_59)
    have go180 : Go p.tables e below T178 (mkF m 62 #[.val (.int p1), .val (.int p2), .val (.ref (pk4 wB wD wF wS p2)), .val (.int (1 : Int32)), .val .null, .unset, .unset] [(.ref wS), (.int p1)]) s₁ (entryFrame m #[(.int p1), (.int p2)] maxLocals) := by
      intro t k
      refine go177 t ?_
      show Steps _ _ _ (T175.setTop (mkF m 59 #[.val (.int p1), .val (.int p2), .val (.ref (pk4 wB wD wF wS p2)), .val (.int (1 : Int32)), .val .null, .unset, .unset] [(.int p1)])) _
      refine st178 _ ?_
      exact k
    obtain ⟨cq179, kq179, q179a, q179b, q179c⟩ := isOf hZ e178 f166
    obtain ⟨_, _, ⟨T179, L179, k179, n179⟩, -, X179, ⟨Lc179, hQ179, l179, y179, z179⟩, st179⟩ := X178.virtualBack hx (y := (⟨"com/example/sketcher/sketcher/io/SketchFamily", "code", "()I"⟩ : MethodName)) (z := (⟨"com/example/sketcher/sketcher/io/SketchFamily", "code", "()I"⟩ : MethodName)) hown (mvT hZ (wk hw 7 rfl)) (mvT hZ (wk hw 8 rfl)) (notFace_of_selects (args := #[]) (mvT hZ (wk hw 10 rfl))) (mvT hZ (wk hw 10 rfl)) (mvT hZ (wk hw 9 rfl)) (by decide) (backOf (W := 1) (rm2 l Z a0 hw [] wS (4 : Int32) T154.heap n0 f167 f162) hZ (wk hw 11 rfl) (wk hw 5 rfl) (by decide) (by decide)) q179a q179c (g := (mkF m 62 #[.val (.int p1), .val (.int p2), .val (.ref (pk4 wB wD wF wS p2)), .val (.int (1 : Int32)), .val .null, .unset, .unset] [(.ref wS), (.int p1)])) rfl (by rw [hml]; rfl) (Steps.refl _) (argsL := []) (rest := [(.int p1)]) (lenOf pd_2 rfl) rfl (by show 2 * 0 + _ ≤ _; exact Nat.le_of_eq rfl) (hb hby at_62) (fun _ _ => ⟨rfl, e178, (by decide : 2 + 0 ≤ _), (by decide : 8 + 0 ≤ _)⟩)
    dsimp only [Pt.U, Pt.locs, Pt.cells, Pt.slots] at X179 l179 y179 z179 st179 hQ179
    subst l179 y179 z179
    obtain ⟨rfl, N179q, e179⟩ := hQ179
    have N179 := Fr.app N175 N179q
    have go181 : Go p.tables e below T179 (mkF m 125 #[.val (.int p1), .val (.int p2), .val (.ref (pk4 wB wD wF wS p2)), .val (.int (1 : Int32)), .val .null, .val (.int (0 : Int32)), .val (.int (1 : Int32))] [(.int (1 : Int32))]) s₁ (entryFrame m #[(.int p1), (.int p2)] maxLocals) := by
      intro t k
      refine go180 t ?_
      show Steps _ _ _ (T178.setTop (mkF m 62 #[.val (.int p1), .val (.int p2), .val (.ref (pk4 wB wD wF wS p2)), .val (.int (1 : Int32)), .val .null, .unset, .unset] [(.ref wS), (.int p1)])) _
      refine st179.trans ?_
      show Steps _ _ _ (T179.setTop (mkF m 65 #[.val (.int p1), .val (.int p2), .val (.ref (pk4 wB wD wF wS p2)), .val (.int (1 : Int32)), .val .null, .unset, .unset] [(.int (4 : Int32)), (.int p1)])) _
      refine XS.icmpYes X179.here hx rfl (pc0 := 65) (pc' := 72) rfl (hb hby at_65) rfl (feq hk.2.2.2).2 (by decide) (by decide) ?_
      show Steps _ _ _ (T179.setTop (mkF m 72 #[.val (.int p1), .val (.int p2), .val (.ref (pk4 wB wD wF wS p2)), .val (.int (1 : Int32)), .val .null, .unset, .unset] [])) _
      refine XS.iconst X179.here hx rfl (hb hby at_72) ?_
      show Steps _ _ _ (T179.setTop (mkF m 73 #[.val (.int p1), .val (.int p2), .val (.ref (pk4 wB wD wF wS p2)), .val (.int (1 : Int32)), .val .null, .unset, .unset] [(.int (0 : Int32))])) _
      refine XS.istore X179.here hx rfl (hb hby at_73) rfl (l' := #[.val (.int p1), .val (.int p2), .val (.ref (pk4 wB wD wF wS p2)), .val (.int (1 : Int32)), .val .null, .val (.int (0 : Int32)), .unset]) rfl ?_
      show Steps _ _ _ (T179.setTop (mkF m 75 #[.val (.int p1), .val (.int p2), .val (.ref (pk4 wB wD wF wS p2)), .val (.int (1 : Int32)), .val .null, .val (.int (0 : Int32)), .unset] [])) _
      refine XS.aload X179.here hx rfl (hb hby at_75) rfl rfl ?_
      show Steps _ _ _ (T179.setTop (mkF m 77 #[.val (.int p1), .val (.int p2), .val (.ref (pk4 wB wD wF wS p2)), .val (.int (1 : Int32)), .val .null, .val (.int (0 : Int32)), .unset] [.null])) _
      refine XS.ifnonnullNo X179.here hx rfl (hb hby at_77) rfl ?_
      show Steps _ _ _ (T179.setTop (mkF m 80 #[.val (.int p1), .val (.int p2), .val (.ref (pk4 wB wD wF wS p2)), .val (.int (1 : Int32)), .val .null, .val (.int (0 : Int32)), .unset] [])) _
      refine XS.iload X179.here hx rfl (hb hby at_80) rfl ?_
      show Steps _ _ _ (T179.setTop (mkF m 82 #[.val (.int p1), .val (.int p2), .val (.ref (pk4 wB wD wF wS p2)), .val (.int (1 : Int32)), .val .null, .val (.int (0 : Int32)), .unset] [(.int (0 : Int32))])) _
      refine XS.ifNo X179.here hx rfl (hb hby at_82) rfl ((if0 _ _).trans (teq rfl).2) ?_
      show Steps _ _ _ (T179.setTop (mkF m 85 #[.val (.int p1), .val (.int p2), .val (.ref (pk4 wB wD wF wS p2)), .val (.int (1 : Int32)), .val .null, .val (.int (0 : Int32)), .unset] [])) _
      refine XS.iconst X179.here hx rfl (hb hby at_85) ?_
      show Steps _ _ _ (T179.setTop (mkF m 86 #[.val (.int p1), .val (.int p2), .val (.ref (pk4 wB wD wF wS p2)), .val (.int (1 : Int32)), .val .null, .val (.int (0 : Int32)), .unset] [(.int (1 : Int32))])) _
      refine XS.goto X179.here hx rfl (pc0 := 86) (pc' := 90) rfl (hb hby at_86) (by decide) (by decide) ?_
      show Steps _ _ _ (T179.setTop (mkF m 90 #[.val (.int p1), .val (.int p2), .val (.ref (pk4 wB wD wF wS p2)), .val (.int (1 : Int32)), .val .null, .val (.int (0 : Int32)), .unset] [(.int (1 : Int32))])) _
      refine XS.istore X179.here hx rfl (hb hby at_90) rfl (l' := #[.val (.int p1), .val (.int p2), .val (.ref (pk4 wB wD wF wS p2)), .val (.int (1 : Int32)), .val .null, .val (.int (0 : Int32)), .val (.int (1 : Int32))]) rfl ?_
      show Steps _ _ _ (T179.setTop (mkF m 92 #[.val (.int p1), .val (.int p2), .val (.ref (pk4 wB wD wF wS p2)), .val (.int (1 : Int32)), .val .null, .val (.int (0 : Int32)), .val (.int (1 : Int32))] [])) _
      refine XS.goto X179.here hx rfl (pc0 := 92) (pc' := 111) rfl (hb hby at_92) (by decide) (by decide) ?_
      show Steps _ _ _ (T179.setTop (mkF m 111 #[.val (.int p1), .val (.int p2), .val (.ref (pk4 wB wD wF wS p2)), .val (.int (1 : Int32)), .val .null, .val (.int (0 : Int32)), .val (.int (1 : Int32))] [])) _
      refine XS.iloadN X179.here hx rfl (hb hby at_111) rfl ?_
      show Steps _ _ _ (T179.setTop (mkF m 112 #[.val (.int p1), .val (.int p2), .val (.ref (pk4 wB wD wF wS p2)), .val (.int (1 : Int32)), .val .null, .val (.int (0 : Int32)), .val (.int (1 : Int32))] [(.int (1 : Int32))])) _
      refine XS.ifNo X179.here hx rfl (hb hby at_112) rfl ((if0 _ _).trans (feq (by decide)).1) ?_
      show Steps _ _ _ (T179.setTop (mkF m 115 #[.val (.int p1), .val (.int p2), .val (.ref (pk4 wB wD wF wS p2)), .val (.int (1 : Int32)), .val .null, .val (.int (0 : Int32)), .val (.int (1 : Int32))] [])) _
      refine XS.iload X179.here hx rfl (hb hby at_115) rfl ?_
      show Steps _ _ _ (T179.setTop (mkF m 117 #[.val (.int p1), .val (.int p2), .val (.ref (pk4 wB wD wF wS p2)), .val (.int (1 : Int32)), .val .null, .val (.int (0 : Int32)), .val (.int (1 : Int32))] [(.int (1 : Int32))])) _
      refine XS.ifNo X179.here hx rfl (hb hby at_117) rfl ((if0 _ _).trans (feq (by decide)).1) ?_
      show Steps _ _ _ (T179.setTop (mkF m 120 #[.val (.int p1), .val (.int p2), .val (.ref (pk4 wB wD wF wS p2)), .val (.int (1 : Int32)), .val .null, .val (.int (0 : Int32)), .val (.int (1 : Int32))] [])) _
      refine XS.iconst X179.here hx rfl (hb hby at_120) ?_
      show Steps _ _ _ (T179.setTop (mkF m 121 #[.val (.int p1), .val (.int p2), .val (.ref (pk4 wB wD wF wS p2)), .val (.int (1 : Int32)), .val .null, .val (.int (0 : Int32)), .val (.int (1 : Int32))] [(.int (1 : Int32))])) _
      refine XS.goto X179.here hx rfl (pc0 := 121) (pc' := 125) rfl (hb hby at_121) (by decide) (by decide) ?_
      exact k
    obtain ⟨fs, hr, hrun, hended, hW, hsame⟩ := X179.leave (v := some (.int (1 : Int32))) (fun h => by rw [Bd.returns] at h; cases h)
    refine ⟨_, _, go181 _ ?_, hrun, hended, _, _, rfl, ?_, ⟨_, rfl⟩, hW, hsame.mono (by decide) (by decide)⟩
    · exact retN X179 hx (t := .boolean) Bd.returns (by simp) (hb hby at_125) hr
    · show QL (.int 1) h0 n0 _ T179.heap _
      rw [e179]
      exact ⟨rfl, N179⟩
set_option maxRecDepth 65536 in
set_option maxHeartbeats 40000000 in
theorem comes_1 {Post : Tables → Env → Array Value → State → Outcome → State → Prop} (hpost : ∀ tb e args s v u, (limb_1_1.after args s (.returned v) u = true ∧ limb_1_2.after args s (.returned v) u = true ∧ True) → FrameEnd s (.returned v) u (Jvm.fieldLocs frame_1_writes args s ++ Jvm.arrayLocs frame_1_arrays args s ++ Jvm.staticLocs frame_1_statics s) 16 128 → Post tb e args s (.returned v) u) :
    ArmFor flags0 classFile x code maxLocals ret World_1 tables_1 room_1 Calls_1 rest_1 Pre_1 Post := by
  intro l hfl _ _ p e ha hc hk s m args below hf hA hF happ hP
  obtain ⟨hcalls, hrest, hpre⟩ := hP
  obtain ⟨-, -, -, hnamed, -, -, -, hat⟩ := (Spec.applies_iff hf).mp happ
  obtain ⟨hg, hn⟩ := and_e (Cond.before_iff.mp (show (Jvm.Cond.and given_1 narrow_1).before args s = true from hpre))
  obtain ⟨gc, g0⟩ := and_e hg
  obtain ⟨ga0, g1⟩ := and_e g0
  have ga1 := g1
  obtain ⟨w0, w1, rfl⟩ : ∃ w0 w1 : Value, args = #[w0, w1] := by
    have hs : args.size = 2 := by simpa [Cond.value, given_1] using gc
    obtain ⟨L⟩ := args
    match L, hs with
    | [w0, w1], _ => exact ⟨w0, w1, rfl⟩
  have hw := fun d (hd : d ∈ tables_1) => atoms_spec (ws := Jvm.Cond.code x code maxLocals ret :: tables_1) hat d (List.mem_cons_of_mem _ hd)
  have hfit : Fit s := fun {y c} hc i hi => by
    obtain ⟨ha, rfl⟩ := Array.getElem?_eq_some_iff.mp hc
    have q := List.all_eq_true.mp ((Array.all_eq_true_iff_forall_mem.mp hF) _ (Array.getElem_mem ha)) i (List.mem_range.mpr hi)
    simpa [Array.getElem?_eq_getElem hi] using q
  obtain ⟨i0, ei0⟩ := is_v ga0
  obtain rfl : w0 = (.int i0) := Option.some.inj ei0
  obtain ⟨i1, ei1⟩ := is_v ga1
  obtain rfl : w1 = (.int i1) := Option.some.inj ei1
  obtain ⟨n1, m1⟩ := and_e hn
  obtain ⟨n2, m2⟩ := and_e m1
  obtain ⟨n3, m3⟩ := and_e m2
  obtain ⟨n4, m4⟩ := and_e m3
  obtain ⟨n5, m5⟩ := and_e m4
  obtain ⟨n6, m6⟩ := and_e m5
  obtain ⟨n7, m7⟩ := and_e m6
  obtain ⟨n8, m8⟩ := and_e m7
  obtain ⟨n9, m9⟩ := and_e m8
  obtain ⟨n10, m10⟩ := and_e m9
  obtain ⟨n11, m11⟩ := and_e m10
  obtain ⟨n12, m12⟩ := and_e m11
  obtain ⟨n13, m13⟩ := and_e m12
  obtain ⟨n14, m14⟩ := and_e m13
  have n15 := m14
  obtain ⟨wB, ewB⟩ := exa_v n6
  have EwB := Exa.start ewB n6
  have SwB := Sta.start ewB (Or.inr ⟨(wk hw 5 rfl), (wk hw 29 rfl)⟩)
  have FwB := Fld.start (own_fldI n13 ewB)
  obtain ⟨wD, ewD⟩ := exa_v n8
  have EwD := Exa.start ewD n8
  have SwD := Sta.start ewD (Or.inr ⟨(wk hw 5 rfl), (wk hw 30 rfl)⟩)
  have FwD := Fld.start (own_fldI n14 ewD)
  obtain ⟨wF, ewF⟩ := exa_v n10
  have EwF := Exa.start ewF n10
  have SwF := Sta.start ewF (Or.inr ⟨(wk hw 5 rfl), (wk hw 31 rfl)⟩)
  have FwF := Fld.start (own_fldI n15 ewF)
  obtain ⟨wS, ewS⟩ := exa_v n1
  have EwS := Exa.start ewS n1
  have SwS := Sta.start ewS (Or.inr ⟨(wk hw 5 rfl), (wk hw 6 rfl)⟩)
  have FwS := Fld.start (own_fldI n2 ewS)
  obtain ⟨wV, eV⟩ := arr_v n3
  obtain ⟨cl, Ar⟩ := Arr.start eV n3
  have hat0 : s.arrayAt? wV = some cl := Ar.fin (Vm.Alike.refl _)
  obtain ⟨hlen, h31⟩ := own_len n5 eV hat0
  have hsz : cl.slots.size = 4 := by
    have q := own_size hlen h31
    have a1 : (4 : Int32).toInt = 4 := by decide
    omega
  have hin : ∀ j : Int32, ¬ j < 0 → j < 4 → ¬ (j < 0 ∨ (cloneOf cl).slots.size ≤ j.toNatClampNeg) := fun j q1 q2 => inb_of (z := 4) (by show cl.slots.size = _; rw [hsz]; decide) ⟨q1, q2⟩
  have key := rm0 l s _ hw tables_1 i0 i1 wB wD wF wS wV cl s.heap s.heap.size (Nat.le_refl _) SwB SwD SwF SwS EwB EwD EwF EwS FwB FwD FwF FwS (Sta.start eV (Or.inl (wk hw 32 rfl))) Ar (Exa.start eV n4) (FitC.start hfit Ar) hsz hlen hin (own_elemR n7 eV (j := 0) rfl ewB Ar.1) (own_elemR n9 eV (j := 1) rfl ewD Ar.1) (own_elemR n11 eV (j := 2) rfl ewF Ar.1) (own_elemR n12 eV (j := 3) rfl ewS Ar.1) p e ha hc hk s m _ below hf ((Spec.applies_iff_loose hf).mp happ).1 ⟨rfl, State.Warmed39.refl s, rfl⟩ trivial
  obtain ⟨n, o, h1, h2, h3, _, L, rfl, ⟨rfl, N⟩, hq⟩ := key
  refine ⟨n, _, h1, h2, h3, hpost _ _ _ _ _ _ ⟨Cond.after_iff.mpr rfl, Cond.after_iff.mpr (eq_i res_at (Term.int_eval (1)) rfl), trivial⟩ ⟨hq.1, hq.2.1, (hq.2.2.sift fun y hy => Or.inr (N y hy)).mono (by decide) (by decide)⟩⟩
theorem main_1_1 : Claimed_1_1 := comes_1 fun _ _ _ _ _ _ h hF => ⟨h.1, hF⟩
theorem main_1_2 : Claimed_1_2 := comes_1 fun _ _ _ _ _ _ h hF => ⟨h.2.1, hF⟩
end Jvm.Pilot.@@N@@
namespace Jvm.Pilot.@@N@@
open Jvm Jvm.ClassFile Sem Op Lib Jvm.Free Jvm.Stand Jvm.Pilot.@@N@@.Jvm.D
/-! MADE BY PROGRAM (witnessworld.py) out of the Statement's table words and the real class files: 13 classes; the members and pool entries that the words name. The judged class is class 1, her method 2. -/
namespace start1
open Jvm.ClassFile
def u (s : String) : CpInfo := .utf8 (stringToUtf16 s)
/-- a pool by its gaps: so many unusable entries, then the entry; so many at the end -/
def gap : Nat → List CpInfo → List CpInfo
  | 0, r => r
  | n + 1, r => .unusable :: gap n r
def poolList (es : List (Nat × CpInfo)) (last : Nat) : List CpInfo := es.foldr (fun e r => gap e.1 (e.2 :: r)) (gap last [])
def pool (es : List (Nat × CpInfo)) (last : Nat) : Array CpInfo := ⟨poolList es last⟩
def fileOf (pool : Array CpInfo) (this : Nat) (attrs : Array Attribute := #[]) (ms : Array MethodInfo := #[]) (fl : Nat := 33) (sup : Nat := 0) (ifs : Array Nat := #[]) (fds : Array FieldInfo := #[]) : ClassFile where
  minorVersion := 0
  majorVersion := 65
  constantPool := pool
  accessFlags := fl
  thisClass := this
  superClass := sup
  interfaces := ifs
  fields := fds
  methods := ms
  attributes := attrs
def plain (name : String) (sup : Option ClassId) : Class where
  name := name
  kind := .ordinary
  loader := none
  accessFlags := 33
  super := sup
  interfaces := #[]
  cf := none
  fields := #[]
  methods := #[]
  instanceTypes := #[]
  staticTypes := #[]
  resolved := #[]
  callSites := []
  init := .initialized
  statics := none
  mirror := none

def pool0 : Array CpInfo := pool [(5, u "<init>"), (0, u "()V"), (1, .class_ 10), (1, u "java/lang/Object"), (85, u "clone"), (0, u "()Ljava/lang/Object;")] 26

def k0m0 : Method := { name := "<init>", desc := "()V", sig := { parameters := [], returnType := none }, accessFlags := 1, code := none }
def k0m1 : Method := { name := "clone", desc := "()Ljava/lang/Object;", sig := { parameters := [], returnType := some (.object "java/lang/Object") }, accessFlags := 260, code := none }
/-- java/lang/Object -/
def k0 : Class := { plain "java/lang/Object" none with
  accessFlags := 33
  interfaces := #[]
  cf := some (fileOf pool0 8 #[] #[{ accessFlags := 1, nameIndex := 5, descriptorIndex := 6, attributes := #[] }, { accessFlags := 260, nameIndex := 96, descriptorIndex := 97, attributes := #[] }] 33 0 #[] #[])
  fields := #[]
  methods := #[k0m0, k0m1]
  instanceTypes := #[]
  staticTypes := #[]
  resolved := Array.replicate 124 none
  statics := none }

def pool1 : Array CpInfo := pool [(2, .class_ 4), (1, u "java/lang/Object"), (0, u "<init>"), (0, u "()V"), (0, .fieldref 8 9), (0, .class_ 10), (0, .nameAndType 11 12), (0, u "com/example/sketcher/sketcher/io/SketchFamily"), (0, u "BLOOM_FILTER"), (0, u "Lcom/example/sketcher/sketcher/io/SketchFamily;"), (0, .fieldref 8 14), (0, .nameAndType 15 12), (0, u "DISTINCT_COUNT"), (0, .fieldref 8 17), (0, .nameAndType 18 12), (0, u "FREQUENCY"), (0, .fieldref 8 20), (0, .nameAndType 21 12), (0, u "SIMILARITY"), (0, .methodref 23 24), (0, .class_ 25), (0, .nameAndType 26 27), (0, u "com/example/sketcher/sketcher/io/SketchFamilyOfCodePinLaw"), (0, u "pick"), (0, u "(I)Lcom/example/sketcher/sketcher/io/SketchFamily;"), (0, .methodref 8 29), (0, .nameAndType 30 31), (0, u "code"), (0, u "()I"), (0, .methodref 8 33), (0, .nameAndType 34 27), (0, u "ofCode"), (3, u "law"), (0, u "(II)Z")] 2

def k1m0 : Method := { name := "<init>", desc := "()V", sig := { parameters := [], returnType := none }, accessFlags := 1, code := none }
def k1c1 : Code := { maxStack := 2, maxLocals := 2, code := method_2_code, exceptionTable := #[], attributes := #[] }
def k1m1 : Method := { name := "pick", desc := "(I)Lcom/example/sketcher/sketcher/io/SketchFamily;", sig := { parameters := [.int], returnType := some (.object "com/example/sketcher/sketcher/io/SketchFamily") }, accessFlags := 10, code := some k1c1 }
def k1c2 : Code := { maxStack := 2, maxLocals := 7, code := code, exceptionTable := #[], attributes := #[] }
def k1m2 : Method := { name := "law", desc := "(II)Z", sig := { parameters := [.int, .int], returnType := some .boolean }, accessFlags := 9, code := some k1c2 }
/-- com/example/sketcher/sketcher/io/SketchFamilyOfCodePinLaw -/
def k1 : Class := { plain "com/example/sketcher/sketcher/io/SketchFamilyOfCodePinLaw" (some 0) with
  accessFlags := 49
  interfaces := #[]
  cf := some (fileOf pool1 23 #[] #[{ accessFlags := 1, nameIndex := 5, descriptorIndex := 6, attributes := #[] }, { accessFlags := 10, nameIndex := 26, descriptorIndex := 27, attributes := #[] }, { accessFlags := 9, nameIndex := 38, descriptorIndex := 39, attributes := #[] }] 49 2 #[] #[])
  fields := #[]
  methods := #[k1m0, k1m1, k1m2]
  instanceTypes := #[]
  staticTypes := #[]
  resolved := Array.replicate 42 none
  statics := none }

def pool2 : Array CpInfo := pool [(1, .class_ 2), (0, u "java/lang/constant/Constable"), (0, .class_ 4), (0, u "java/lang/Object")] 6

/-- java/lang/constant/Constable -/
def k2 : Class := { plain "java/lang/constant/Constable" (some 0) with
  accessFlags := 1537
  interfaces := #[]
  cf := some (fileOf pool2 1 #[] #[] 1537 3 #[] #[])
  fields := #[]
  methods := #[]
  instanceTypes := #[]
  staticTypes := #[]
  resolved := Array.replicate 11 none
  statics := none }

def pool3 : Array CpInfo := pool [(1, .class_ 2), (0, u "java/lang/Comparable"), (0, .class_ 4), (0, u "java/lang/Object")] 7

/-- java/lang/Comparable -/
def k3 : Class := { plain "java/lang/Comparable" (some 0) with
  accessFlags := 1537
  interfaces := #[]
  cf := some (fileOf pool3 1 #[] #[] 1537 3 #[] #[])
  fields := #[]
  methods := #[]
  instanceTypes := #[]
  staticTypes := #[]
  resolved := Array.replicate 12 none
  statics := none }

def pool4 : Array CpInfo := pool [(1, .class_ 2), (0, u "java/io/Serializable"), (0, .class_ 4), (0, u "java/lang/Object")] 2

/-- java/io/Serializable -/
def k4 : Class := { plain "java/io/Serializable" (some 0) with
  accessFlags := 1537
  interfaces := #[]
  cf := some (fileOf pool4 1 #[] #[] 1537 3 #[] #[])
  fields := #[]
  methods := #[]
  instanceTypes := #[]
  staticTypes := #[]
  resolved := Array.replicate 7 none
  statics := none }

def pool5 : Array CpInfo := pool [(2, .class_ 4), (1, u "java/lang/Enum"), (0, u "name"), (0, u "Ljava/lang/String;"), (2, u "ordinal"), (0, u "I"), (1, .class_ 14), (1, u "java/lang/Object"), (4, u "hash"), (86, .class_ 108), (1, u "java/lang/Enum$EnumDesc"), (2, .class_ 112), (0, u "java/lang/constant/Constable"), (0, .class_ 114), (0, u "java/lang/Comparable"), (0, .class_ 116), (0, u "java/io/Serializable")] 87

/-- java/lang/Enum -/
def k5 : Class := { plain "java/lang/Enum" (some 0) with
  accessFlags := 1057
  interfaces := #[2, 3, 4]
  cf := some (fileOf pool5 2 #[.nestMembers #[106]] #[] 1057 12 #[111, 113, 115] #[{ accessFlags := 18, nameIndex := 5, descriptorIndex := 6, attributes := #[] }, { accessFlags := 18, nameIndex := 9, descriptorIndex := 10, attributes := #[] }, { accessFlags := 2, nameIndex := 19, descriptorIndex := 10, attributes := #[] }])
  fields := #[{ name := "name", type := (.object "java/lang/String"), accessFlags := 18, slot := 0, constantValue := 0 }, { name := "ordinal", type := .int, accessFlags := 18, slot := 1, constantValue := 0 }, { name := "hash", type := .int, accessFlags := 2, slot := 2, constantValue := 0 }]
  methods := #[]
  instanceTypes := #[(.object "java/lang/String"), .int, .int]
  staticTypes := #[]
  resolved := Array.replicate 204 none
  statics := none }

def pool6 : Array CpInfo := pool [(1, .class_ 2), (0, u "com/example/sketcher/sketcher/io/SketchFamily"), (2, u "BLOOM_FILTER"), (0, u "Lcom/example/sketcher/sketcher/io/SketchFamily;"), (2, u "DISTINCT_COUNT"), (2, u "FREQUENCY"), (2, u "SIMILARITY"), (0, .fieldref 1 17), (0, .nameAndType 18 19), (0, u "$VALUES"), (0, u "[Lcom/example/sketcher/sketcher/io/SketchFamily;"), (0, .methodref 21 22), (0, .class_ 19), (0, .nameAndType 23 24), (0, u "clone"), (0, u "()Ljava/lang/Object;"), (1, .class_ 28), (1, u "java/lang/Enum"), (6, .fieldref 1 36), (0, .nameAndType 37 38), (0, u "code"), (0, u "I"), (2, u "version"), (2, u "description"), (0, u "Ljava/lang/String;"), (0, .methodref 1 47), (0, .nameAndType 48 49), (0, u "values"), (0, u "()[Lcom/example/sketcher/sketcher/io/SketchFamily;"), (24, u "()I"), (1, u "ofCode"), (0, u "(I)Lcom/example/sketcher/sketcher/io/SketchFamily;")] 6

def k6c0 : Code := { maxStack := 1, maxLocals := 0, code := prog_26_method_1_code, exceptionTable := #[], attributes := #[] }
def k6m0 : Method := { name := "values", desc := "()[Lcom/example/sketcher/sketcher/io/SketchFamily;", sig := { parameters := [], returnType := some (.array (.object "com/example/sketcher/sketcher/io/SketchFamily")) }, accessFlags := 9, code := some k6c0 }
def k6c1 : Code := { maxStack := 1, maxLocals := 1, code := prog_26_method_4_code, exceptionTable := #[], attributes := #[] }
def k6m1 : Method := { name := "code", desc := "()I", sig := { parameters := [], returnType := some .int }, accessFlags := 1, code := some k6c1 }
def k6c2 : Code := { maxStack := 2, maxLocals := 6, code := prog_26_method_7_code, exceptionTable := #[], attributes := #[] }
def k6m2 : Method := { name := "ofCode", desc := "(I)Lcom/example/sketcher/sketcher/io/SketchFamily;", sig := { parameters := [.int], returnType := some (.object "com/example/sketcher/sketcher/io/SketchFamily") }, accessFlags := 8, code := some k6c2 }
/-- com/example/sketcher/sketcher/io/SketchFamily -/
def k6 : Class := { plain "com/example/sketcher/sketcher/io/SketchFamily" (some 5) with
  accessFlags := 16433
  interfaces := #[]
  cf := some (fileOf pool6 1 #[] #[{ accessFlags := 9, nameIndex := 48, descriptorIndex := 49, attributes := #[] }, { accessFlags := 1, nameIndex := 37, descriptorIndex := 74, attributes := #[] }, { accessFlags := 8, nameIndex := 76, descriptorIndex := 77, attributes := #[] }] 16433 26 #[] #[{ accessFlags := 16409, nameIndex := 5, descriptorIndex := 6, attributes := #[] }, { accessFlags := 16409, nameIndex := 9, descriptorIndex := 6, attributes := #[] }, { accessFlags := 16409, nameIndex := 12, descriptorIndex := 6, attributes := #[] }, { accessFlags := 16409, nameIndex := 15, descriptorIndex := 6, attributes := #[] }, { accessFlags := 18, nameIndex := 37, descriptorIndex := 38, attributes := #[] }, { accessFlags := 18, nameIndex := 41, descriptorIndex := 38, attributes := #[] }, { accessFlags := 18, nameIndex := 44, descriptorIndex := 45, attributes := #[] }, { accessFlags := 4122, nameIndex := 18, descriptorIndex := 19, attributes := #[] }])
  fields := #[{ name := "BLOOM_FILTER", type := (.object "com/example/sketcher/sketcher/io/SketchFamily"), accessFlags := 16409, slot := 0, constantValue := 0 }, { name := "DISTINCT_COUNT", type := (.object "com/example/sketcher/sketcher/io/SketchFamily"), accessFlags := 16409, slot := 1, constantValue := 0 }, { name := "FREQUENCY", type := (.object "com/example/sketcher/sketcher/io/SketchFamily"), accessFlags := 16409, slot := 2, constantValue := 0 }, { name := "SIMILARITY", type := (.object "com/example/sketcher/sketcher/io/SketchFamily"), accessFlags := 16409, slot := 3, constantValue := 0 }, { name := "code", type := .int, accessFlags := 18, slot := 3, constantValue := 0 }, { name := "version", type := .int, accessFlags := 18, slot := 4, constantValue := 0 }, { name := "description", type := (.object "java/lang/String"), accessFlags := 18, slot := 5, constantValue := 0 }, { name := "$VALUES", type := (.array (.object "com/example/sketcher/sketcher/io/SketchFamily")), accessFlags := 4122, slot := 4, constantValue := 0 }]
  methods := #[k6m0, k6m1, k6m2]
  instanceTypes := #[(.object "java/lang/String"), .int, .int, .int, .int, (.object "java/lang/String")]
  staticTypes := #[(.object "com/example/sketcher/sketcher/io/SketchFamily"), (.object "com/example/sketcher/sketcher/io/SketchFamily"), (.object "com/example/sketcher/sketcher/io/SketchFamily"), (.object "com/example/sketcher/sketcher/io/SketchFamily"), (.array (.object "com/example/sketcher/sketcher/io/SketchFamily"))]
  resolved := Array.replicate 84 none
  statics := some 0 }

def pool7 : Array CpInfo := pool [(1, .class_ 2), (0, u "java/lang/Cloneable"), (0, .class_ 4), (0, u "java/lang/Object")] 2

/-- java/lang/Cloneable -/
def k7 : Class := { plain "java/lang/Cloneable" (some 0) with
  accessFlags := 1537
  interfaces := #[]
  cf := some (fileOf pool7 1 #[] #[] 1537 3 #[] #[])
  fields := #[]
  methods := #[]
  instanceTypes := #[]
  staticTypes := #[]
  resolved := Array.replicate 7 none
  statics := none }

/-- the primitive byte -/
def k8 : Class := { plain "byte" none with kind := .primitive 'B', accessFlags := 0x411 }
/-- [B -/
def k9 : Class := { plain "[B" (some 0) with kind := .array 8 .byte, interfaces := #[7, 4], accessFlags := 1041 }

/-- the primitive int -/
def k10 : Class := { plain "int" none with kind := .primitive 'I', accessFlags := 0x411 }
/-- [I -/
def k11 : Class := { plain "[I" (some 0) with kind := .array 10 .int, interfaces := #[7, 4], accessFlags := 1041 }

/-- [Lcom/example/sketcher/sketcher/io/SketchFamily; -/
def k12 : Class := { plain "[Lcom/example/sketcher/sketcher/io/SketchFamily;" (some 0) with kind := .array 6 (.object "com/example/sketcher/sketcher/io/SketchFamily"), interfaces := #[7, 4], accessFlags := 1041 }

def heap : Heap := #[{ cls := 6, slots := #[.ref 2, .ref 3, .ref 4, .ref 5, .ref 1], vm := .statics 6 },
  { cls := 12, slots := #[.ref 2, .ref 3, .ref 4, .ref 5], vm := .none },
  { cls := 6, slots := #[.null, .int 0, .int 0, .int 1, .int 1, .null], vm := .none },
  { cls := 6, slots := #[.null, .int 1, .int 0, .int 2, .int 1, .null], vm := .none },
  { cls := 6, slots := #[.null, .int 2, .int 0, .int 3, .int 1, .null], vm := .none },
  { cls := 6, slots := #[.null, .int 3, .int 0, .int 4, .int 1, .null], vm := .none }]
def classes : Array Class := #[k0, k1, k2, k3, k4, k5, k6, k7, k8, k9, k10, k11, k12]
def interned : List (Array UInt16 × Addr) := []
def slotsUsed : Nat := 33
def theMethod : MethodId := ⟨1, 2⟩
def args0 : Array Value := #[.int 2, .int 7]
def aboutOver (below : List Frame) : State where
  vm := { classes := classes, interned := interned.toArray }
  heap := heap
  slotsUsed := slotsUsed
  threads := #[{ frames := .invoking theMethod args0 :: below }]
def below0 : List Frame := [.native { method := ⟨0, 0⟩, args := #[] }]
def about1 : State := aboutOver below0
def p0 : Program := .bare "" "" ""
def e0 : Env := launch0.env 0 0 0
theorem w_frames : about1.frames = Frame.invoking theMethod args0 :: below0 := rfl
set_option maxRecDepth 65536 in
theorem w_args : argsFit about1.vm theMethod args0 = true := by decide +kernel
set_option maxRecDepth 65536 in
theorem w_heap : heapFits about1 = true := by decide +kernel
set_option maxRecDepth 65536 in
theorem w_runnable : about1.curStatus? = some .runnable := by decide +kernel
set_option maxRecDepth 65536 in
theorem w_alone : about1.alone = true := by decide +kernel
set_option maxRecDepth 65536 in
theorem w_named : about1.methodNamed? x = some theMethod := by decide +kernel
set_option maxRecDepth 65536 in
theorem w_hears : about1.hears theMethod below0 = true := by decide +kernel
set_option maxRecDepth 65536 in
theorem w_ripe : about1.ripe theMethod args0 below0 = true := by decide +kernel
theorem w_running : about1.status = .running := rfl
set_option maxRecDepth 65536 in
theorem w_room : about1.hasRoom e0.platform room_1 = true :=
  launch0.hasRoom_least _ room_1 (by decide +kernel) (by decide +kernel) (by decide +kernel) (by decide +kernel) (by decide +kernel) (by decide +kernel)
theorem allAtoms_all (ts : List Jvm.Cond) (a : Array Jvm.Value) (st : Jvm.State) : (allAtoms ts).before a st = ts.all (fun c => c.before a st) := by
  induction ts with
  | nil => rfl
  | cons c t ih =>
    show (Jvm.Cond.and c (allAtoms t)).before a st = _
    rw [Jvm.Cond.before_and, ih, List.all_cons]
def words1 : List Jvm.Cond := Jvm.Cond.code x code maxLocals ret :: tables_1
/-- a 'code' word, met by the world's own term for the bytes: nothing is compared byte by byte -/
theorem code_word {y : MethodName} {bytes : ByteArray} {mx : Nat} {rt : Option FieldType} {a : Array Value} {s : State} {m : MethodId} {meth : Method} {c : Code} (h1 : s.methodNamed? y = some m) (h2 : s.vm.method? m = some meth) (h3 : meth.code = some c) (h4 : c.code = bytes)
    (h5 : (c.maxLocals == mx && c.exceptionTable.isEmpty && decide (c.maxStack ≤ mostOperands) && decide (meth.sig.returnType = rt) && !meth.locks && decide (parseMethodDescriptor y.desc = some meth.sig)) = true) : (Jvm.Cond.code y bytes mx rt).before a s = true := by
  simp only [Bool.and_eq_true, beq_iff_eq, Bool.not_eq_true', decide_eq_true_eq] at h5
  obtain ⟨⟨⟨⟨⟨g1, g2⟩, g3⟩, g4⟩, g5⟩, g6⟩ := h5
  simp [Cond.before, Cond.holds, Cond.value, h1, h2, h3, h4, g1, g2, g3, g4, g5, g6]
def isCode : Jvm.Cond → Bool
  | .code _ _ _ _ => true
  | _ => false
theorem all_split {L : List Jvm.Cond} {P : Jvm.Cond → Bool} (h1 : L.all (fun c => isCode c || P c) = true) (h2 : ∀ c ∈ L.filter isCode, P c = true) : L.all P = true := by
  refine List.all_eq_true.mpr fun c hc => ?_
  have h := List.all_eq_true.mp h1 c hc
  rcases Bool.eq_false_or_eq_true (isCode c) with hi | hi
  · exact h2 c (List.mem_filter.mpr ⟨hc, hi⟩)
  · simpa [hi] using h
set_option maxRecDepth 65536 in
theorem w_c0 : (Jvm.Cond.code x code maxLocals ret).before args0 about1 = true := code_word (m := ⟨1, 2⟩) (meth := k1m2) (c := k1c2) (by decide +kernel) rfl rfl rfl (by decide +kernel)
set_option maxRecDepth 65536 in
theorem w_c1 : (Jvm.Cond.code ({ cls := "com/example/sketcher/sketcher/io/SketchFamilyOfCodePinLaw", name := "pick", desc := "(I)Lcom/example/sketcher/sketcher/io/SketchFamily;" } : Jvm.MethodName) method_2_code (2 : Nat) (Option.some (Jvm.ClassFile.FieldType.object "com/example/sketcher/sketcher/io/SketchFamily"))).before args0 about1 = true := code_word (m := ⟨1, 1⟩) (meth := k1m1) (c := k1c1) (by decide +kernel) rfl rfl rfl (by decide +kernel)
set_option maxRecDepth 65536 in
theorem w_c2 : (Jvm.Cond.code ({ cls := "com/example/sketcher/sketcher/io/SketchFamily", name := "code", desc := "()I" } : Jvm.MethodName) prog_26_method_4_code (1 : Nat) (Option.some Jvm.ClassFile.FieldType.int)).before args0 about1 = true := code_word (m := ⟨6, 1⟩) (meth := k6m1) (c := k6c1) (by decide +kernel) rfl rfl rfl (by decide +kernel)
set_option maxRecDepth 65536 in
theorem w_c3 : (Jvm.Cond.code ({ cls := "com/example/sketcher/sketcher/io/SketchFamily", name := "ofCode", desc := "(I)Lcom/example/sketcher/sketcher/io/SketchFamily;" } : Jvm.MethodName) prog_26_method_7_code (6 : Nat) (Option.some (Jvm.ClassFile.FieldType.object "com/example/sketcher/sketcher/io/SketchFamily"))).before args0 about1 = true := code_word (m := ⟨6, 2⟩) (meth := k6m2) (c := k6c2) (by decide +kernel) rfl rfl rfl (by decide +kernel)
set_option maxRecDepth 65536 in
theorem w_c4 : (Jvm.Cond.code ({ cls := "com/example/sketcher/sketcher/io/SketchFamily", name := "values", desc := "()[Lcom/example/sketcher/sketcher/io/SketchFamily;" } : Jvm.MethodName) prog_26_method_1_code (0 : Nat) (Option.some (Jvm.ClassFile.FieldType.array (Jvm.ClassFile.FieldType.object "com/example/sketcher/sketcher/io/SketchFamily")))).before args0 about1 = true := code_word (m := ⟨6, 0⟩) (meth := k6m0) (c := k6c0) (by decide +kernel) rfl rfl rfl (by decide +kernel)
def codes1 : List Jvm.Cond := [Jvm.Cond.code x code maxLocals ret, Jvm.Cond.code ({ cls := "com/example/sketcher/sketcher/io/SketchFamilyOfCodePinLaw", name := "pick", desc := "(I)Lcom/example/sketcher/sketcher/io/SketchFamily;" } : Jvm.MethodName) method_2_code (2 : Nat) (Option.some (Jvm.ClassFile.FieldType.object "com/example/sketcher/sketcher/io/SketchFamily")), Jvm.Cond.code ({ cls := "com/example/sketcher/sketcher/io/SketchFamily", name := "code", desc := "()I" } : Jvm.MethodName) prog_26_method_4_code (1 : Nat) (Option.some Jvm.ClassFile.FieldType.int), Jvm.Cond.code ({ cls := "com/example/sketcher/sketcher/io/SketchFamily", name := "ofCode", desc := "(I)Lcom/example/sketcher/sketcher/io/SketchFamily;" } : Jvm.MethodName) prog_26_method_7_code (6 : Nat) (Option.some (Jvm.ClassFile.FieldType.object "com/example/sketcher/sketcher/io/SketchFamily")), Jvm.Cond.code ({ cls := "com/example/sketcher/sketcher/io/SketchFamily", name := "values", desc := "()[Lcom/example/sketcher/sketcher/io/SketchFamily;" } : Jvm.MethodName) prog_26_method_1_code (0 : Nat) (Option.some (Jvm.ClassFile.FieldType.array (Jvm.ClassFile.FieldType.object "com/example/sketcher/sketcher/io/SketchFamily")))]
set_option maxRecDepth 65536 in
theorem codes_eq : words1.filter isCode = codes1 := rfl
theorem w_codes : ∀ c ∈ words1.filter isCode, c.before args0 about1 = true := by
  rw [codes_eq]
  intro c hc
  simp only [codes1, List.mem_cons, List.not_mem_nil, or_false] at hc
  rcases hc with rfl | rfl | rfl | rfl | rfl
  · exact w_c0
  · exact w_c1
  · exact w_c2
  · exact w_c3
  · exact w_c4
set_option maxRecDepth 65536 in
theorem w_t1 : (words1.take 24).all (fun c => isCode c || c.before args0 about1) = true := by decide +kernel
set_option maxRecDepth 65536 in
theorem w_t2 : (words1.drop 24).all (fun c => isCode c || c.before args0 about1) = true := by decide +kernel
theorem w_tables : (allAtoms (Jvm.Cond.code x code maxLocals ret :: tables_1)).before args0 about1 = true := by
  rw [allAtoms_all]
  show words1.all (fun c => c.before args0 about1) = true
  refine all_split ?_ w_codes
  rw [← List.take_append_drop 24 words1, List.all_append, w_t1, w_t2]
  rfl
set_option maxRecDepth 65536 in
theorem w_case : (Jvm.Cond.and given_1 narrow_1).before args0 about1 = true := by decide +kernel
theorem w_applies : (headSpec (Jvm.Cond.code x code maxLocals ret :: tables_1) room_1).applies x e0.platform about1 = true :=
  (Spec.applies_iff w_frames).mpr ⟨w_running, w_runnable, w_alone, w_named, w_hears, w_ripe, w_room, w_tables⟩
theorem atStart : AtStart classFile x code maxLocals ret World_1 tables_1 room_1 Calls_1 rest_1 Pre_1 launch0 p0 e0 about1 theMethod args0 below0 :=
  ⟨lists_1, trivial, launch0.admits_env _ _ _, launch0.least_env, fairChoices_fair.cas, fairChoices_fair.clock, w_frames, w_args, w_heap, w_applies, trivial, trivial, w_case⟩
end start1
theorem witness_1 : WitnessClaimed_1 := ⟨start1.p0, start1.e0, start1.about1, start1.theMethod, start1.args0, start1.below0, start1.atStart⟩
end Jvm.Pilot.@@N@@
