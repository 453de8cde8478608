import JvmDerived
import JvmDerived.Pilot.@@N@@Statement
import JvmDerived.Pilot.@@N@@Code
set_option linter.unusedVariables false
set_option linter.unusedSimpArgs false
namespace Jvm.RoadKit
open Sem ClassFile Op Lib Jvm.Stand Jvm.Free Jvm.LawKit
section New
variable {p : Program} {l : Launch} {e : Env} {R : Room} {s : State} {m : MethodId} {args : Array Value} {below : List Frame} {meth : Method} {c : Code} {T : State} {locs : List Loc} {cells slots : Nat}
theorem retI (X : Stand p l e R s m args below meth c T locs cells slots) (hx : p.tables.exec = Jvm.exec) {pc : Nat} {Ls : Array Slot} {z : Int32} {rest : List Value} (hret : meth.sig.returnType = some .int) (hd : decode c.code pc = .ok (.ireturn, 1)) {fs : List Frame}
    (hl : ∀ (f : JFrame) (acts : List Action), f.method = m → f.locked = none → f.entered = [] → (doReturn e (T.setTop f) acts (some (.int z))).1 = T.setFrames fs) : Steps p.tables e below (T.setTop (mkF m pc Ls (.int z :: rest))) (T.setFrames fs) := by
  have hm' : T.vm.method? m = some meth := X.method'
  have hn : narrow .int (.int z) = .int z := rfl
  show Steps p.tables e below (T.setTop { method := m, pc := pc, locals := Ls, stack := _ :: rest, locked := none }) _
  jvm_step X.here [X.here.top, hx, hd, hm', hret, hn]
  first | (intro acts; rw [hl _ acts rfl rfl rfl]) | rw [hl _ _ rfl rfl rfl]
  exact Steps.refl _
end New
end Jvm.RoadKit
namespace Jvm.Pilot.@@N@@
open Jvm Jvm.ClassFile Sem Op Lib Jvm.Free Jvm.Stand Jvm.LawKit Jvm.RoadKit Bundle Jvm.Pilot.@@N@@.Jvm.D
theorem own_ext {h h' : Heap} (K : Keep h h' []) : Ext h h' := ⟨K.1, fun a c q => K.2.1 a c q (by simp)⟩
theorem d1_0 : decode prog_28_method_13_code 0 = .ok (.aload_n 0, 1) := by decide +kernel
theorem d1_1 : decode prog_28_method_13_code 1 = .ok (.getstatic 28, 3) := by decide +kernel
theorem d1_4 : decode prog_28_method_13_code 4 = .ok (.if_acmp .eq 10, 3) := by decide +kernel
theorem d1_14 : decode prog_28_method_13_code 14 = .ok (.iconst 1, 1) := by decide +kernel
theorem d1_15 : decode prog_28_method_13_code 15 = .ok (.goto 4, 3) := by decide +kernel
theorem d1_19 : decode prog_28_method_13_code 19 = .ok (.ireturn, 1) := by decide +kernel
theorem pn_1 : plainName "com/example/rev3/rev3/change/ElementKind" = true := by first | (simp [plainName, overriddenIn]; done) | decide +kernel
theorem ef_1 (m : MethodId) (x0 : Addr) : entryFrame m #[(.ref x0)] 1 = mkF m 0 #[.val (.ref x0)] [] := by first | (simp [entryFrame, mkF, argsToLocals, Value.category]; done) | rfl
def Q1y (Z : State) (a1 : Addr) (w2 : Addr) (h0 : Heap) (n0 : Nat) (v : Option Value) (h : Heap) (L : List Loc) : Prop := v = some (.int (1 : Int32)) ∧ Fr n0 L ∧ h = h0
set_option maxRecDepth 65536 in
set_option maxHeartbeats 40000000 in
theorem rm1y (l : Launch) (Z : State) (a0 : Array Value) (hw : ∀ d ∈ tables_1, d.before a0 Z = true) (ws : List Jvm.Cond) (a1 : Addr) (w2 : Addr) (h0 : Heap) (n0 : Nat) (Z0 : n0 ≤ h0.size) (S_ALTERNATIVES : Sta Z h0 "com/example/rev3/rev3/change/ElementKind" "ALTERNATIVES" "Lcom/example/rev3/rev3/change/ElementKind;" (.ref w2)) (ha4 : a1 = w2) :
    MetFree l (⟨"com/example/rev3/rev3/change/ElementKind", "isAlternatives", "()Z"⟩ : MethodName) (head1 (Jvm.Cond.code (⟨"com/example/rev3/rev3/change/ElementKind", "isAlternatives", "()Z"⟩ : MethodName) prog_28_method_13_code 1 (some .boolean) :: ws) ({ frames := 0, cells := 0, slots := 0, locals := 0 } : Room)) (fun a U => a = #[(.ref a1)] ∧ Z.Warmed39 U.vm ∧ U.heap = h0) (fun _ _ _ _ _ => True) (fun _ U o U' => ∃ v L, o = .returned v ∧ Q1y Z a1 w2 h0 n0 v U'.heap L ∧ FrameEnd U o U' L ({ frames := 0, cells := 0, slots := 0, locals := 0 } : Room).cells ({ frames := 0, cells := 0, slots := 0, locals := 0 } : Room).slots) := by
  refine MetFree.of_bodySF (plainFor_of_name pn_1) hisR ?_
  intro p e s m args below meth c s₁ Bd hml0 hP hK
  obtain ⟨rfl, hZ, hh⟩ := hP
  have hx := Bd.exec
  have hby := Bd.bytes
  have hml : c.maxLocals = 1 := hml0
  have hown : s.vm.findClass "com/example/rev3/rev3/change/ElementKind" = some m.cls := findClass_of_methodNamed Bd.named
  have hnm := (name_of_methodNamed Bd.named Bd.method).1
  have X0 : Stand p l e ({ frames := 0, cells := 0, slots := 0, locals := 0 } : Room) s m #[(.ref a1)] below meth c s₁ [] 0 0 := Stand.of_body Bd
  have e0 : s₁.heap = h0 := by rw [← hh, Bd.state]; rfl
  have N0 := Fr.nil n0
  have pre0 : ∀ t, Steps p.tables e below (s₁.setTop (mkF m 0 #[.val (.ref a1)] [])) t → Steps p.tables e below (s₁.setTop (entryFrame m #[(.ref a1)] 1)) t := fun t k => castTop (ef_1 m a1) k
  obtain ⟨T3, X3, e3, st3⟩ := getS2 X0 hx hZ hown (host := "") (Or.inl (hw _ (List.mem_of_getElem? (i := 40) rfl))) Via.refl e0 S_ALTERNATIVES (g := (mkF m 1 #[.val (.ref a1)] [(.ref a1)])) rfl (hb hby d1_1)
  obtain ⟨fs, hr, hrun, hended, hW, hsame⟩ := X3.leave (v := some (.int (1 : Int32))) (fun h => by rw [Bd.returns] at h; cases h)
  refine ⟨_, _, pre0 _ ?_, hrun, hended, _, _, rfl, ?_, ⟨_, rfl⟩, hW, hsame.mono (by decide) (by decide)⟩
  · show Steps p.tables e below (s₁.setTop (mkF m 0 #[.val (.ref a1)] [])) _
    refine XS.aloadN X0.here hx rfl (hb hby d1_0) rfl rfl ?_
    show Steps p.tables e below (s₁.setTop (mkF m 1 #[.val (.ref a1)] [(.ref a1)])) _
    refine st3 _ ?_
    show Steps p.tables e below (T3.setTop (mkF m 4 #[.val (.ref a1)] [(.ref w2), (.ref a1)])) _
    refine Jvm.RoadKit.acmp (g := (mkF m 4 #[.val (.ref a1)] [(.ref w2), (.ref a1)])) X3 hx rfl rfl rfl (pc0 := 4) (pc' := 14) (same := true) rfl (hb hby d1_4) rfl (decide_eq_true (congrArg Value.ref ha4)) (by decide) (by decide) ?_
    show Steps p.tables e below (T3.setTop (mkF m 14 #[.val (.ref a1)] [])) _
    refine XS.iconst X3.here hx rfl (hb hby d1_14) ?_
    show Steps p.tables e below (T3.setTop (mkF m 15 #[.val (.ref a1)] [(.int (1 : Int32))])) _
    refine XS.goto X3.here hx rfl (pc0 := 15) (pc' := 19) rfl (hb hby d1_15) (by decide) (by decide) ?_
    show Steps p.tables e below (T3.setTop (mkF m 19 #[.val (.ref a1)] [(.int (1 : Int32))])) _
    exact retN X3 hx (t := .boolean) Bd.returns (by simp) (hb hby d1_19) hr
  · show Q1y Z a1 w2 h0 n0 _ T3.heap _
    rw [e3]
    exact ⟨rfl, N0, rfl⟩
theorem d1_7 : decode prog_28_method_13_code 7 = .ok (.aload_n 0, 1) := by decide +kernel
theorem d1_8 : decode prog_28_method_13_code 8 = .ok (.getstatic 31, 3) := by decide +kernel
theorem d1_11 : decode prog_28_method_13_code 11 = .ok (.if_acmp .ne 7, 3) := by decide +kernel
def Q1x (Z : State) (a1 : Addr) (w2 : Addr) (w4 : Addr) (h0 : Heap) (n0 : Nat) (v : Option Value) (h : Heap) (L : List Loc) : Prop := v = some (.int (1 : Int32)) ∧ Fr n0 L ∧ h = h0
set_option maxRecDepth 65536 in
set_option maxHeartbeats 40000000 in
theorem rm1x (l : Launch) (Z : State) (a0 : Array Value) (hw : ∀ d ∈ tables_1, d.before a0 Z = true) (ws : List Jvm.Cond) (a1 : Addr) (w2 : Addr) (w4 : Addr) (h0 : Heap) (n0 : Nat) (Z0 : n0 ≤ h0.size) (S_ALTERNATIVES : Sta Z h0 "com/example/rev3/rev3/change/ElementKind" "ALTERNATIVES" "Lcom/example/rev3/rev3/change/ElementKind;" (.ref w2)) (S_EXCLUSIVE_ALTERNATIVES : Sta Z h0 "com/example/rev3/rev3/change/ElementKind" "EXCLUSIVE_ALTERNATIVES" "Lcom/example/rev3/rev3/change/ElementKind;" (.ref w4)) (ha4 : ¬ (a1 = w2)) (ha11 : a1 = w4) :
    MetFree l (⟨"com/example/rev3/rev3/change/ElementKind", "isAlternatives", "()Z"⟩ : MethodName) (head1 (Jvm.Cond.code (⟨"com/example/rev3/rev3/change/ElementKind", "isAlternatives", "()Z"⟩ : MethodName) prog_28_method_13_code 1 (some .boolean) :: ws) ({ frames := 0, cells := 0, slots := 0, locals := 0 } : Room)) (fun a U => a = #[(.ref a1)] ∧ Z.Warmed39 U.vm ∧ U.heap = h0) (fun _ _ _ _ _ => True) (fun _ U o U' => ∃ v L, o = .returned v ∧ Q1x Z a1 w2 w4 h0 n0 v U'.heap L ∧ FrameEnd U o U' L ({ frames := 0, cells := 0, slots := 0, locals := 0 } : Room).cells ({ frames := 0, cells := 0, slots := 0, locals := 0 } : Room).slots) := by
  refine MetFree.of_bodySF (plainFor_of_name pn_1) hisR ?_
  intro p e s m args below meth c s₁ Bd hml0 hP hK
  obtain ⟨rfl, hZ, hh⟩ := hP
  have hx := Bd.exec
  have hby := Bd.bytes
  have hml : c.maxLocals = 1 := hml0
  have hown : s.vm.findClass "com/example/rev3/rev3/change/ElementKind" = some m.cls := findClass_of_methodNamed Bd.named
  have hnm := (name_of_methodNamed Bd.named Bd.method).1
  have X0 : Stand p l e ({ frames := 0, cells := 0, slots := 0, locals := 0 } : Room) s m #[(.ref a1)] below meth c s₁ [] 0 0 := Stand.of_body Bd
  have e0 : s₁.heap = h0 := by rw [← hh, Bd.state]; rfl
  have N0 := Fr.nil n0
  have pre0 : ∀ t, Steps p.tables e below (s₁.setTop (mkF m 0 #[.val (.ref a1)] [])) t → Steps p.tables e below (s₁.setTop (entryFrame m #[(.ref a1)] 1)) t := fun t k => castTop (ef_1 m a1) k
  obtain ⟨T3, X3, e3, st3⟩ := getS2 X0 hx hZ hown (host := "") (Or.inl (hw _ (List.mem_of_getElem? (i := 40) rfl))) Via.refl e0 S_ALTERNATIVES (g := (mkF m 1 #[.val (.ref a1)] [(.ref a1)])) rfl (hb hby d1_1)
  obtain ⟨T5, X5, e5, st5⟩ := getS2 X3 hx hZ hown (host := "") (Or.inl (hw _ (List.mem_of_getElem? (i := 41) rfl))) Via.refl e3 S_EXCLUSIVE_ALTERNATIVES (g := (mkF m 8 #[.val (.ref a1)] [(.ref a1)])) rfl (hb hby d1_8)
  obtain ⟨fs, hr, hrun, hended, hW, hsame⟩ := X5.leave (v := some (.int (1 : Int32))) (fun h => by rw [Bd.returns] at h; cases h)
  refine ⟨_, _, pre0 _ ?_, hrun, hended, _, _, rfl, ?_, ⟨_, rfl⟩, hW, hsame.mono (by decide) (by decide)⟩
  · show Steps p.tables e below (s₁.setTop (mkF m 0 #[.val (.ref a1)] [])) _
    refine XS.aloadN X0.here hx rfl (hb hby d1_0) rfl rfl ?_
    show Steps p.tables e below (s₁.setTop (mkF m 1 #[.val (.ref a1)] [(.ref a1)])) _
    refine st3 _ ?_
    show Steps p.tables e below (T3.setTop (mkF m 4 #[.val (.ref a1)] [(.ref w2), (.ref a1)])) _
    refine Jvm.RoadKit.acmp (g := (mkF m 4 #[.val (.ref a1)] [(.ref w2), (.ref a1)])) X3 hx rfl rfl rfl (pc0 := 4) (pc' := 7) (same := false) rfl (hb hby d1_4) rfl (decide_eq_false fun q => ha4 (Value.ref.inj q)) (by decide) (by decide) ?_
    show Steps p.tables e below (T3.setTop (mkF m 7 #[.val (.ref a1)] [])) _
    refine XS.aloadN X3.here hx rfl (hb hby d1_7) rfl rfl ?_
    show Steps p.tables e below (T3.setTop (mkF m 8 #[.val (.ref a1)] [(.ref a1)])) _
    refine st5 _ ?_
    show Steps p.tables e below (T5.setTop (mkF m 11 #[.val (.ref a1)] [(.ref w4), (.ref a1)])) _
    refine Jvm.RoadKit.acmp (g := (mkF m 11 #[.val (.ref a1)] [(.ref w4), (.ref a1)])) X5 hx rfl rfl rfl (pc0 := 11) (pc' := 14) (same := true) rfl (hb hby d1_11) rfl (decide_eq_true (congrArg Value.ref ha11)) (by decide) (by decide) ?_
    show Steps p.tables e below (T5.setTop (mkF m 14 #[.val (.ref a1)] [])) _
    refine XS.iconst X5.here hx rfl (hb hby d1_14) ?_
    show Steps p.tables e below (T5.setTop (mkF m 15 #[.val (.ref a1)] [(.int (1 : Int32))])) _
    refine XS.goto X5.here hx rfl (pc0 := 15) (pc' := 19) rfl (hb hby d1_15) (by decide) (by decide) ?_
    show Steps p.tables e below (T5.setTop (mkF m 19 #[.val (.ref a1)] [(.int (1 : Int32))])) _
    exact retN X5 hx (t := .boolean) Bd.returns (by simp) (hb hby d1_19) hr
  · show Q1x Z a1 w2 w4 h0 n0 _ T5.heap _
    rw [e5]
    exact ⟨rfl, N0, rfl⟩
theorem d1_18 : decode prog_28_method_13_code 18 = .ok (.iconst 0, 1) := by decide +kernel
def Q1o (Z : State) (a1 : Addr) (w2 : Addr) (w4 : Addr) (h0 : Heap) (n0 : Nat) (v : Option Value) (h : Heap) (L : List Loc) : Prop := v = some (.int (0 : Int32)) ∧ Fr n0 L ∧ h = h0
set_option maxRecDepth 65536 in
set_option maxHeartbeats 40000000 in
theorem rm1o (l : Launch) (Z : State) (a0 : Array Value) (hw : ∀ d ∈ tables_1, d.before a0 Z = true) (ws : List Jvm.Cond) (a1 : Addr) (w2 : Addr) (w4 : Addr) (h0 : Heap) (n0 : Nat) (Z0 : n0 ≤ h0.size) (S_ALTERNATIVES : Sta Z h0 "com/example/rev3/rev3/change/ElementKind" "ALTERNATIVES" "Lcom/example/rev3/rev3/change/ElementKind;" (.ref w2)) (S_EXCLUSIVE_ALTERNATIVES : Sta Z h0 "com/example/rev3/rev3/change/ElementKind" "EXCLUSIVE_ALTERNATIVES" "Lcom/example/rev3/rev3/change/ElementKind;" (.ref w4)) (ha4 : ¬ (a1 = w2)) (ha11 : ¬ (a1 = w4)) :
    MetFree l (⟨"com/example/rev3/rev3/change/ElementKind", "isAlternatives", "()Z"⟩ : MethodName) (head1 (Jvm.Cond.code (⟨"com/example/rev3/rev3/change/ElementKind", "isAlternatives", "()Z"⟩ : MethodName) prog_28_method_13_code 1 (some .boolean) :: ws) ({ frames := 0, cells := 0, slots := 0, locals := 0 } : Room)) (fun a U => a = #[(.ref a1)] ∧ Z.Warmed39 U.vm ∧ U.heap = h0) (fun _ _ _ _ _ => True) (fun _ U o U' => ∃ v L, o = .returned v ∧ Q1o Z a1 w2 w4 h0 n0 v U'.heap L ∧ FrameEnd U o U' L ({ frames := 0, cells := 0, slots := 0, locals := 0 } : Room).cells ({ frames := 0, cells := 0, slots := 0, locals := 0 } : Room).slots) := by
  refine MetFree.of_bodySF (plainFor_of_name pn_1) hisR ?_
  intro p e s m args below meth c s₁ Bd hml0 hP hK
  obtain ⟨rfl, hZ, hh⟩ := hP
  have hx := Bd.exec
  have hby := Bd.bytes
  have hml : c.maxLocals = 1 := hml0
  have hown : s.vm.findClass "com/example/rev3/rev3/change/ElementKind" = some m.cls := findClass_of_methodNamed Bd.named
  have hnm := (name_of_methodNamed Bd.named Bd.method).1
  have X0 : Stand p l e ({ frames := 0, cells := 0, slots := 0, locals := 0 } : Room) s m #[(.ref a1)] below meth c s₁ [] 0 0 := Stand.of_body Bd
  have e0 : s₁.heap = h0 := by rw [← hh, Bd.state]; rfl
  have N0 := Fr.nil n0
  have pre0 : ∀ t, Steps p.tables e below (s₁.setTop (mkF m 0 #[.val (.ref a1)] [])) t → Steps p.tables e below (s₁.setTop (entryFrame m #[(.ref a1)] 1)) t := fun t k => castTop (ef_1 m a1) k
  obtain ⟨T3, X3, e3, st3⟩ := getS2 X0 hx hZ hown (host := "") (Or.inl (hw _ (List.mem_of_getElem? (i := 40) rfl))) Via.refl e0 S_ALTERNATIVES (g := (mkF m 1 #[.val (.ref a1)] [(.ref a1)])) rfl (hb hby d1_1)
  obtain ⟨T5, X5, e5, st5⟩ := getS2 X3 hx hZ hown (host := "") (Or.inl (hw _ (List.mem_of_getElem? (i := 41) rfl))) Via.refl e3 S_EXCLUSIVE_ALTERNATIVES (g := (mkF m 8 #[.val (.ref a1)] [(.ref a1)])) rfl (hb hby d1_8)
  obtain ⟨fs, hr, hrun, hended, hW, hsame⟩ := X5.leave (v := some (.int (0 : Int32))) (fun h => by rw [Bd.returns] at h; cases h)
  refine ⟨_, _, pre0 _ ?_, hrun, hended, _, _, rfl, ?_, ⟨_, rfl⟩, hW, hsame.mono (by decide) (by decide)⟩
  · show Steps p.tables e below (s₁.setTop (mkF m 0 #[.val (.ref a1)] [])) _
    refine XS.aloadN X0.here hx rfl (hb hby d1_0) rfl rfl ?_
    show Steps p.tables e below (s₁.setTop (mkF m 1 #[.val (.ref a1)] [(.ref a1)])) _
    refine st3 _ ?_
    show Steps p.tables e below (T3.setTop (mkF m 4 #[.val (.ref a1)] [(.ref w2), (.ref a1)])) _
    refine Jvm.RoadKit.acmp (g := (mkF m 4 #[.val (.ref a1)] [(.ref w2), (.ref a1)])) X3 hx rfl rfl rfl (pc0 := 4) (pc' := 7) (same := false) rfl (hb hby d1_4) rfl (decide_eq_false fun q => ha4 (Value.ref.inj q)) (by decide) (by decide) ?_
    show Steps p.tables e below (T3.setTop (mkF m 7 #[.val (.ref a1)] [])) _
    refine XS.aloadN X3.here hx rfl (hb hby d1_7) rfl rfl ?_
    show Steps p.tables e below (T3.setTop (mkF m 8 #[.val (.ref a1)] [(.ref a1)])) _
    refine st5 _ ?_
    show Steps p.tables e below (T5.setTop (mkF m 11 #[.val (.ref a1)] [(.ref w4), (.ref a1)])) _
    refine Jvm.RoadKit.acmp (g := (mkF m 11 #[.val (.ref a1)] [(.ref w4), (.ref a1)])) X5 hx rfl rfl rfl (pc0 := 11) (pc' := 18) (same := false) rfl (hb hby d1_11) rfl (decide_eq_false fun q => ha11 (Value.ref.inj q)) (by decide) (by decide) ?_
    show Steps p.tables e below (T5.setTop (mkF m 18 #[.val (.ref a1)] [])) _
    refine XS.iconst X5.here hx rfl (hb hby d1_18) ?_
    show Steps p.tables e below (T5.setTop (mkF m 19 #[.val (.ref a1)] [(.int (0 : Int32))])) _
    exact retN X5 hx (t := .boolean) Bd.returns (by simp) (hb hby d1_19) hr
  · show Q1o Z a1 w2 w4 h0 n0 _ T5.heap _
    rw [e5]
    exact ⟨rfl, N0, rfl⟩
theorem d2_0 : decode prog_28_method_7_code 0 = .ok (.aload_n 0, 1) := by decide +kernel
theorem d2_1 : decode prog_28_method_7_code 1 = .ok (.getfield 74, 3) := by decide +kernel
theorem d2_4 : decode prog_28_method_7_code 4 = .ok (.areturn, 1) := by decide +kernel
theorem pn_2 : plainName "com/example/rev3/rev3/change/ElementKind" = true := by first | (simp [plainName, overriddenIn]; done) | decide +kernel
theorem ef_2 (m : MethodId) (x0 : Addr) : entryFrame m #[(.ref x0)] 1 = mkF m 0 #[.val (.ref x0)] [] := by first | (simp [entryFrame, mkF, argsToLocals, Value.category]; done) | rfl
def Q2 (Z : State) (a1 : Addr) (w2 : Addr) (h0 : Heap) (n0 : Nat) (v : Option Value) (h : Heap) (L : List Loc) : Prop := v = some (.ref w2) ∧ Fr n0 L ∧ h = h0
set_option maxRecDepth 65536 in
set_option maxHeartbeats 40000000 in
theorem rm2 (l : Launch) (Z : State) (a0 : Array Value) (hw : ∀ d ∈ tables_1, d.before a0 Z = true) (ws : List Jvm.Cond) (a1 : Addr) (w2 : Addr) (h0 : Heap) (n0 : Nat) (Z0 : n0 ≤ h0.size) (F__added_a1 : Fld Z h0 a1 "com/example/rev3/rev3/change/ElementKind" "_added" "Lcom/example/rev3/rev3/change/ChangeKind;" (.ref w2)) :
    MetFree l (⟨"com/example/rev3/rev3/change/ElementKind", "getAdded", "()Lcom/example/rev3/rev3/change/ChangeKind;"⟩ : MethodName) (head1 (Jvm.Cond.code (⟨"com/example/rev3/rev3/change/ElementKind", "getAdded", "()Lcom/example/rev3/rev3/change/ChangeKind;"⟩ : MethodName) prog_28_method_7_code 1 (some (.object "com/example/rev3/rev3/change/ChangeKind")) :: ws) ({ frames := 0, cells := 0, slots := 0, locals := 0 } : Room)) (fun a U => a = #[(.ref a1)] ∧ Z.Warmed39 U.vm ∧ U.heap = h0) (fun _ _ _ _ _ => True) (fun _ U o U' => ∃ v L, o = .returned v ∧ Q2 Z a1 w2 h0 n0 v U'.heap L ∧ FrameEnd U o U' L ({ frames := 0, cells := 0, slots := 0, locals := 0 } : Room).cells ({ frames := 0, cells := 0, slots := 0, locals := 0 } : Room).slots) := by
  refine MetFree.of_bodySF (plainFor_of_name pn_2) hisR ?_
  intro p e s m args below meth c s₁ Bd hml0 hP hK
  obtain ⟨rfl, hZ, hh⟩ := hP
  have hx := Bd.exec
  have hby := Bd.bytes
  have hml : c.maxLocals = 1 := hml0
  have hown : s.vm.findClass "com/example/rev3/rev3/change/ElementKind" = some m.cls := findClass_of_methodNamed Bd.named
  have hnm := (name_of_methodNamed Bd.named Bd.method).1
  have X0 : Stand p l e ({ frames := 0, cells := 0, slots := 0, locals := 0 } : Room) s m #[(.ref a1)] below meth c s₁ [] 0 0 := Stand.of_body Bd
  have e0 : s₁.heap = h0 := by rw [← hh, Bd.state]; rfl
  have N0 := Fr.nil n0
  have pre0 : ∀ t, Steps p.tables e below (s₁.setTop (mkF m 0 #[.val (.ref a1)] [])) t → Steps p.tables e below (s₁.setTop (entryFrame m #[(.ref a1)] 1)) t := fun t k => castTop (ef_2 m a1) k
  obtain ⟨T3, X3, e3, st3⟩ := getF X0 hx hZ hown (host := "") (Or.inl (hw _ (List.mem_of_getElem? (i := 47) rfl))) Via.refl e0 F__added_a1 (g := (mkF m 1 #[.val (.ref a1)] [(.ref a1)])) rfl rfl (hb hby d2_1)
  obtain ⟨fs, hr, hrun, hended, hW, hsame⟩ := X3.leave (v := some (.ref w2)) (fun h => by rw [Bd.returns] at h; cases h)
  refine ⟨_, _, pre0 _ ?_, hrun, hended, _, _, rfl, ?_, ⟨_, rfl⟩, hW, hsame.mono (by decide) (by decide)⟩
  · show Steps p.tables e below (s₁.setTop (mkF m 0 #[.val (.ref a1)] [])) _
    refine XS.aloadN X0.here hx rfl (hb hby d2_0) rfl rfl ?_
    show Steps p.tables e below (s₁.setTop (mkF m 1 #[.val (.ref a1)] [(.ref a1)])) _
    refine st3 _ ?_
    show Steps p.tables e below (T3.setTop (mkF m 4 #[.val (.ref a1)] [(.ref w2)])) _
    jvm_step X3.here [X3.here.top, hx, (hb hby d2_4), X3.method', Bd.returns, Value.isRef, FieldType.isReference]
    first | (intro acts; rw [hr _ acts rfl rfl rfl]) | rw [hr _ _ rfl rfl rfl]
    exact Steps.refl _
  · show Q2 Z a1 w2 h0 n0 _ T3.heap _
    rw [e3]
    exact ⟨rfl, N0, rfl⟩
theorem d3_0 : decode prog_28_method_8_code 0 = .ok (.aload_n 0, 1) := by decide +kernel
theorem d3_1 : decode prog_28_method_8_code 1 = .ok (.getfield 78, 3) := by decide +kernel
theorem d3_4 : decode prog_28_method_8_code 4 = .ok (.areturn, 1) := by decide +kernel
theorem pn_3 : plainName "com/example/rev3/rev3/change/ElementKind" = true := by first | (simp [plainName, overriddenIn]; done) | decide +kernel
theorem ef_3 (m : MethodId) (x0 : Addr) : entryFrame m #[(.ref x0)] 1 = mkF m 0 #[.val (.ref x0)] [] := by first | (simp [entryFrame, mkF, argsToLocals, Value.category]; done) | rfl
def Q3 (Z : State) (a1 : Addr) (w2 : Addr) (h0 : Heap) (n0 : Nat) (v : Option Value) (h : Heap) (L : List Loc) : Prop := v = some (.ref w2) ∧ Fr n0 L ∧ h = h0
set_option maxRecDepth 65536 in
set_option maxHeartbeats 40000000 in
theorem rm3 (l : Launch) (Z : State) (a0 : Array Value) (hw : ∀ d ∈ tables_1, d.before a0 Z = true) (ws : List Jvm.Cond) (a1 : Addr) (w2 : Addr) (h0 : Heap) (n0 : Nat) (Z0 : n0 ≤ h0.size) (F__removed_a1 : Fld Z h0 a1 "com/example/rev3/rev3/change/ElementKind" "_removed" "Lcom/example/rev3/rev3/change/ChangeKind;" (.ref w2)) :
    MetFree l (⟨"com/example/rev3/rev3/change/ElementKind", "getRemoved", "()Lcom/example/rev3/rev3/change/ChangeKind;"⟩ : MethodName) (head1 (Jvm.Cond.code (⟨"com/example/rev3/rev3/change/ElementKind", "getRemoved", "()Lcom/example/rev3/rev3/change/ChangeKind;"⟩ : MethodName) prog_28_method_8_code 1 (some (.object "com/example/rev3/rev3/change/ChangeKind")) :: ws) ({ frames := 0, cells := 0, slots := 0, locals := 0 } : Room)) (fun a U => a = #[(.ref a1)] ∧ Z.Warmed39 U.vm ∧ U.heap = h0) (fun _ _ _ _ _ => True) (fun _ U o U' => ∃ v L, o = .returned v ∧ Q3 Z a1 w2 h0 n0 v U'.heap L ∧ FrameEnd U o U' L ({ frames := 0, cells := 0, slots := 0, locals := 0 } : Room).cells ({ frames := 0, cells := 0, slots := 0, locals := 0 } : Room).slots) := by
  refine MetFree.of_bodySF (plainFor_of_name pn_3) hisR ?_
  intro p e s m args below meth c s₁ Bd hml0 hP hK
  obtain ⟨rfl, hZ, hh⟩ := hP
  have hx := Bd.exec
  have hby := Bd.bytes
  have hml : c.maxLocals = 1 := hml0
  have hown : s.vm.findClass "com/example/rev3/rev3/change/ElementKind" = some m.cls := findClass_of_methodNamed Bd.named
  have hnm := (name_of_methodNamed Bd.named Bd.method).1
  have X0 : Stand p l e ({ frames := 0, cells := 0, slots := 0, locals := 0 } : Room) s m #[(.ref a1)] below meth c s₁ [] 0 0 := Stand.of_body Bd
  have e0 : s₁.heap = h0 := by rw [← hh, Bd.state]; rfl
  have N0 := Fr.nil n0
  have pre0 : ∀ t, Steps p.tables e below (s₁.setTop (mkF m 0 #[.val (.ref a1)] [])) t → Steps p.tables e below (s₁.setTop (entryFrame m #[(.ref a1)] 1)) t := fun t k => castTop (ef_3 m a1) k
  obtain ⟨T3, X3, e3, st3⟩ := getF X0 hx hZ hown (host := "") (Or.inl (hw _ (List.mem_of_getElem? (i := 57) rfl))) Via.refl e0 F__removed_a1 (g := (mkF m 1 #[.val (.ref a1)] [(.ref a1)])) rfl rfl (hb hby d3_1)
  obtain ⟨fs, hr, hrun, hended, hW, hsame⟩ := X3.leave (v := some (.ref w2)) (fun h => by rw [Bd.returns] at h; cases h)
  refine ⟨_, _, pre0 _ ?_, hrun, hended, _, _, rfl, ?_, ⟨_, rfl⟩, hW, hsame.mono (by decide) (by decide)⟩
  · show Steps p.tables e below (s₁.setTop (mkF m 0 #[.val (.ref a1)] [])) _
    refine XS.aloadN X0.here hx rfl (hb hby d3_0) rfl rfl ?_
    show Steps p.tables e below (s₁.setTop (mkF m 1 #[.val (.ref a1)] [(.ref a1)])) _
    refine st3 _ ?_
    show Steps p.tables e below (T3.setTop (mkF m 4 #[.val (.ref a1)] [(.ref w2)])) _
    jvm_step X3.here [X3.here.top, hx, (hb hby d3_4), X3.method', Bd.returns, Value.isRef, FieldType.isReference]
    first | (intro acts; rw [hr _ acts rfl rfl rfl]) | rw [hr _ _ rfl rfl rfl]
    exact Steps.refl _
  · show Q3 Z a1 w2 h0 n0 _ T3.heap _
    rw [e3]
    exact ⟨rfl, N0, rfl⟩
theorem pn_0 : plainName "com/example/rev3/rev3/change/ElementKindIsAlternativesPinLaw" = true := by first | (simp [plainName, overriddenIn]; done) | decide +kernel
theorem pd_0_0 : parseMethodDescriptor "()Z" = some ⟨[], some .boolean⟩ := by decide +kernel
theorem pd_0_1 : parseMethodDescriptor "()Lcom/example/rev3/rev3/change/ChangeKind;" = some ⟨[], some (.object "com/example/rev3/rev3/change/ChangeKind")⟩ := by decide +kernel
theorem ef_0 (m : MethodId) (x0 : Int32) : entryFrame m #[(.int x0)] maxLocals = mkF m 0 #[.val (.int x0), .unset, .unset, .unset, .unset, .unset] [] := by first | (simp [entryFrame, mkF, argsToLocals, Value.category, maxLocals]; done) | rfl
def Q0y (Z : State) (p1 : Int32) (w3 : Addr) (w6 : Addr) (w9 : Addr) (w12 : Addr) (w15 : Addr) (w18 : Addr) (w21 : Addr) (w24 : Addr) (w27 : Addr) (w30 : Addr) (w33 : Addr) (w36 : Addr) (w39 : Addr) (w42 : Addr) (w45 : Addr) (w48 : Addr) (w51 : Addr) (h0 : Heap) (n0 : Nat) (v : Option Value) (h : Heap) (L : List Loc) : Prop := v = some (.int (1 : Int32)) ∧ Fr n0 L
set_option maxRecDepth 65536 in
set_option maxHeartbeats 40000000 in
theorem rm0y (l : Launch) (Z : State) (a0 : Array Value) (hw : ∀ d ∈ tables_1, d.before a0 Z = true) (ws : List Jvm.Cond) (p1 : Int32) (w3 : Addr) (w6 : Addr) (w9 : Addr) (w12 : Addr) (w15 : Addr) (w18 : Addr) (w21 : Addr) (w24 : Addr) (w27 : Addr) (w30 : Addr) (w33 : Addr) (w36 : Addr) (w39 : Addr) (w42 : Addr) (w45 : Addr) (w48 : Addr) (w51 : Addr) (h0 : Heap) (n0 : Nat) (Z0 : n0 ≤ h0.size) (E_w3 : Exa Z h0 w3 "com/example/rev3/rev3/change/ElementKind") (E_w6 : Exa Z h0 w6 "com/example/rev3/rev3/change/ElementKind") (E_w9 : Exa Z h0 w9 "com/example/rev3/rev3/change/ElementKind") (E_w12 : Exa Z h0 w12 "com/example/rev3/rev3/change/ElementKind") (E_w15 : Exa Z h0 w15 "com/example/rev3/rev3/change/ElementKind") (E_w18 : Exa Z h0 w18 "com/example/rev3/rev3/change/ElementKind") (E_w21 : Exa Z h0 w21 "com/example/rev3/rev3/change/ElementKind") (E_w24 : Exa Z h0 w24 "com/example/rev3/rev3/change/ElementKind") (E_w27 : Exa Z h0 w27 "com/example/rev3/rev3/change/ElementKind") (E_w30 : Exa Z h0 w30 "com/example/rev3/rev3/change/ElementKind") (E_w33 : Exa Z h0 w33 "com/example/rev3/rev3/change/ElementKind") (E_w36 : Exa Z h0 w36 "com/example/rev3/rev3/change/ElementKind") (E_w39 : Exa Z h0 w39 "com/example/rev3/rev3/change/ElementKind") (E_w42 : Exa Z h0 w42 "com/example/rev3/rev3/change/ElementKind") (E_w45 : Exa Z h0 w45 "com/example/rev3/rev3/change/ElementKind") (hp0 : ¬ (HMod.hMod (p1 &&& (2147483647 : Int32)) (15 : Int32)) < 0) (hp5 : (HMod.hMod (p1 &&& (2147483647 : Int32)) (15 : Int32)) < 15) (hsel : ([.ref w3, .ref w6, .ref w9, .ref w12, .ref w15, .ref w18, .ref w21, .ref w24, .ref w27, .ref w30, .ref w33, .ref w36, .ref w39, .ref w42, .ref w45] : List Value).getD (HMod.hMod (p1 &&& (2147483647 : Int32)) (15 : Int32)).toNatClampNeg .null = .ref w48) (F__added : Fld Z h0 w48 "com/example/rev3/rev3/change/ElementKind" "_added" "Lcom/example/rev3/rev3/change/ChangeKind;" (.ref w51)) (F__removed : Fld Z h0 w48 "com/example/rev3/rev3/change/ElementKind" "_removed" "Lcom/example/rev3/rev3/change/ChangeKind;" (.ref w51)) (hk : w48 = w27) (S_SCHEMA : Sta Z h0 "com/example/rev3/rev3/change/ElementKind" "SCHEMA" "Lcom/example/rev3/rev3/change/ElementKind;" (.ref w3)) (S_PROPERTY : Sta Z h0 "com/example/rev3/rev3/change/ElementKind" "PROPERTY" "Lcom/example/rev3/rev3/change/ElementKind;" (.ref w6)) (S_UNDECLARED_PROPERTY : Sta Z h0 "com/example/rev3/rev3/change/ElementKind" "UNDECLARED_PROPERTY" "Lcom/example/rev3/rev3/change/ElementKind;" (.ref w9)) (S_UNDECLARED_UNCLASSIFIED_PROPERTY : Sta Z h0 "com/example/rev3/rev3/change/ElementKind" "UNDECLARED_UNCLASSIFIED_PROPERTY" "Lcom/example/rev3/rev3/change/ElementKind;" (.ref w12)) (S_ITEMS : Sta Z h0 "com/example/rev3/rev3/change/ElementKind" "ITEMS" "Lcom/example/rev3/rev3/change/ElementKind;" (.ref w15)) (S_ADDITIONAL_PROPERTIES : Sta Z h0 "com/example/rev3/rev3/change/ElementKind" "ADDITIONAL_PROPERTIES" "Lcom/example/rev3/rev3/change/ElementKind;" (.ref w18)) (S_DEFINITION : Sta Z h0 "com/example/rev3/rev3/change/ElementKind" "DEFINITION" "Lcom/example/rev3/rev3/change/ElementKind;" (.ref w21)) (S_UNCLASSIFIED : Sta Z h0 "com/example/rev3/rev3/change/ElementKind" "UNCLASSIFIED" "Lcom/example/rev3/rev3/change/ElementKind;" (.ref w24)) (S_ALTERNATIVES : Sta Z h0 "com/example/rev3/rev3/change/ElementKind" "ALTERNATIVES" "Lcom/example/rev3/rev3/change/ElementKind;" (.ref w27)) (S_EXCLUSIVE_ALTERNATIVES : Sta Z h0 "com/example/rev3/rev3/change/ElementKind" "EXCLUSIVE_ALTERNATIVES" "Lcom/example/rev3/rev3/change/ElementKind;" (.ref w30)) (S_ATTRIBUTE : Sta Z h0 "com/example/rev3/rev3/change/ElementKind" "ATTRIBUTE" "Lcom/example/rev3/rev3/change/ElementKind;" (.ref w33)) (S_METRIC : Sta Z h0 "com/example/rev3/rev3/change/ElementKind" "METRIC" "Lcom/example/rev3/rev3/change/ElementKind;" (.ref w36)) (S_SPAN : Sta Z h0 "com/example/rev3/rev3/change/ElementKind" "SPAN" "Lcom/example/rev3/rev3/change/ElementKind;" (.ref w39)) (S_EVENT : Sta Z h0 "com/example/rev3/rev3/change/ElementKind" "EVENT" "Lcom/example/rev3/rev3/change/ElementKind;" (.ref w42)) (S_ENTITY : Sta Z h0 "com/example/rev3/rev3/change/ElementKind" "ENTITY" "Lcom/example/rev3/rev3/change/ElementKind;" (.ref w45)) (E_w48 : Exa Z h0 w48 "com/example/rev3/rev3/change/ElementKind") (S_UNCLASSIFIED_CHANGE : Sta Z h0 "com/example/rev3/rev3/change/ChangeKind" "UNCLASSIFIED_CHANGE" "Lcom/example/rev3/rev3/change/ChangeKind;" (.ref w51)) (hc120 : (HMod.hMod (p1 &&& (2147483647 : Int32)) (15 : Int32)) = (8 : Int32)) (ha163 : w51 = w51) (ha173 : w51 = w51) :
    MetFree l x (head1 (Jvm.Cond.code x code maxLocals ret :: ws) room_1) (fun a U => a = #[(.int p1)] ∧ Z.Warmed39 U.vm ∧ U.heap = h0) (fun _ _ _ _ _ => True) (fun _ U o U' => ∃ v L, o = .returned v ∧ Q0y Z p1 w3 w6 w9 w12 w15 w18 w21 w24 w27 w30 w33 w36 w39 w42 w45 w48 w51 h0 n0 v U'.heap L ∧ FrameEnd U o U' L room_1.cells room_1.slots) := by
  refine MetFree.of_bodySF (plainFor_of_name pn_0) hisR ?_
  intro p e s m args below meth c s₁ Bd hml0 hP hK
  obtain ⟨rfl, hZ, hh⟩ := hP
  have hx := Bd.exec
  have hby := Bd.bytes
  have hml : c.maxLocals = 6 := hml0
  have hown : s.vm.findClass "com/example/rev3/rev3/change/ElementKindIsAlternativesPinLaw" = some m.cls := findClass_of_methodNamed Bd.named
  have hnm := (name_of_methodNamed Bd.named Bd.method).1
  have X0 : Stand p l e room_1 s m #[(.int p1)] below meth c s₁ [] 0 0 := Stand.of_body Bd
  have e0 : s₁.heap = h0 := by rw [← hh, Bd.state]; rfl
  have N0 := Fr.nil n0
  have pre0 : ∀ t, Steps p.tables e below (s₁.setTop (mkF m 0 #[.val (.int p1), .unset, .unset, .unset, .unset, .unset] [])) t → Steps p.tables e below (s₁.setTop (entryFrame m #[(.int p1)] maxLocals)) t := fun t k => castTop (ef_0 m p1) k
  obtain ⟨T2, h2, k2, X2, e2, E2, A2, O2, st2⟩ := newR X0 hx hZ hown (hw _ (List.mem_of_getElem? (i := 0) rfl)) (hw _ (List.mem_of_getElem? (i := 1) rfl)) e0 (g := (mkF m 2 #[.val (.int p1), .unset, .unset, .unset, .unset, .unset] [(.int (15 : Int32))])) rfl (hb hby at_2) rfl (by decide) (cap := 15) (by decide) (by decide) (by decide) (by decide)
  obtain ⟨b2, g2⟩ : ∃ z, z = h0.size := ⟨_, rfl⟩      -- the fresh array's address
  rw [← g2] at A2 st2
  have V_b2 : Arv Z h2 b2 k2 (.object "com/example/rev3/rev3/change/ElementKind") (15 : Int32) [.null, .null, .null, .null, .null, .null, .null, .null, .null, .null, .null, .null, .null, .null, .null] .null := (Arv.new A2 (by decide)).pad (pad_rep [] .null 15)
  have g_b2 : n0 ≤ b2 := Nat.le_trans Z0 (Nat.le_of_eq g2.symm)
  have sz_b2 : h0.size ≤ b2 := (Nat.le_trans (Keep.refl h0 []).1 (Nat.le_of_eq g2.symm))
  have K2 : Keep h0 h2 [] := (Keep.refl h0 []).ext E2
  obtain ⟨T4, X4, e4, st4⟩ := getS2 X2 hx hZ hown (host := "") (Or.inl (hw _ (List.mem_of_getElem? (i := 2) rfl))) Via.refl e2 (S_SCHEMA.ext (own_ext K2)) (g := (mkF m 7 #[.val (.int p1), .unset, .unset, .unset, .unset, .unset] [(.int (0 : Int32)), (.ref b2), (.ref b2)])) rfl (hb hby at_7)
  obtain ⟨cl_10, Ar_b2, q_b2, Sz_b2, N_b2, H_b2, G_b2⟩ := V_b2
  have hin10 : ¬ ((0 : Int32) < 0 ∨ cl_10.slots.size ≤ ((0 : Int32)).toNatClampNeg) := inb_of Sz_b2 ⟨by decide, by decide⟩
  have Sto10 := Sto.ofV Ar_b2 q_b2 O2 (Ins.self (E_w3.ext (own_ext K2)))
  obtain ⟨T5, h5, X5, e5, W5, st5⟩ := stR X4 hx hZ e4 Ar_b2 (j := (0 : Int32)) hin10 rfl Sto10 (g := (mkF m 10 #[.val (.int p1), .unset, .unset, .unset, .unset, .unset] [(.ref w3), (.int (0 : Int32)), (.ref b2), (.ref b2)])) rfl rfl (hb hby at_10)
  have N5 := Fr.snoc X5 N0 g_b2
  have K5 : Keep h0 h5 [] := K2.wr W5 (Or.inr sz_b2)
  have V_b2 := Arv.set Ar_b2 q_b2 Sz_b2 N_b2 H_b2 G_b2 rfl W5 0 rfl (Nat.le_of_ble_eq_true rfl)
  obtain ⟨T7, X7, e7, st7⟩ := getS2 X5 hx hZ hown (host := "") (Or.inl (hw _ (List.mem_of_getElem? (i := 6) rfl))) Via.refl e5 (S_PROPERTY.ext (own_ext K5)) (g := (mkF m 13 #[.val (.int p1), .unset, .unset, .unset, .unset, .unset] [(.int (1 : Int32)), (.ref b2), (.ref b2)])) rfl (hb hby at_13)
  obtain ⟨cl_16, Ar_b2, q_b2, Sz_b2, N_b2, H_b2, G_b2⟩ := V_b2
  have hin16 : ¬ ((1 : Int32) < 0 ∨ cl_16.slots.size ≤ ((1 : Int32)).toNatClampNeg) := inb_of Sz_b2 ⟨by decide, by decide⟩
  have Sto16 := Sto.ofV Ar_b2 q_b2 O2 (Ins.self (E_w6.ext (own_ext K5)))
  obtain ⟨T8, h8, X8, e8, W8, st8⟩ := stR X7 hx hZ e7 Ar_b2 (j := (1 : Int32)) hin16 rfl Sto16 (g := (mkF m 16 #[.val (.int p1), .unset, .unset, .unset, .unset, .unset] [(.ref w6), (.int (1 : Int32)), (.ref b2), (.ref b2)])) rfl rfl (hb hby at_16)
  have N8 := Fr.snoc X8 N5 g_b2
  have K8 : Keep h0 h8 [] := K5.wr W8 (Or.inr sz_b2)
  have V_b2 := Arv.set Ar_b2 q_b2 Sz_b2 N_b2 H_b2 G_b2 rfl W8 1 rfl (Nat.le_of_ble_eq_true rfl)
  obtain ⟨T10, X10, e10, st10⟩ := getS2 X8 hx hZ hown (host := "") (Or.inl (hw _ (List.mem_of_getElem? (i := 8) rfl))) Via.refl e8 (S_UNDECLARED_PROPERTY.ext (own_ext K8)) (g := (mkF m 19 #[.val (.int p1), .unset, .unset, .unset, .unset, .unset] [(.int (2 : Int32)), (.ref b2), (.ref b2)])) rfl (hb hby at_19)
  obtain ⟨cl_22, Ar_b2, q_b2, Sz_b2, N_b2, H_b2, G_b2⟩ := V_b2
  have hin22 : ¬ ((2 : Int32) < 0 ∨ cl_22.slots.size ≤ ((2 : Int32)).toNatClampNeg) := inb_of Sz_b2 ⟨by decide, by decide⟩
  have Sto22 := Sto.ofV Ar_b2 q_b2 O2 (Ins.self (E_w9.ext (own_ext K8)))
  obtain ⟨T11, h11, X11, e11, W11, st11⟩ := stR X10 hx hZ e10 Ar_b2 (j := (2 : Int32)) hin22 rfl Sto22 (g := (mkF m 22 #[.val (.int p1), .unset, .unset, .unset, .unset, .unset] [(.ref w9), (.int (2 : Int32)), (.ref b2), (.ref b2)])) rfl rfl (hb hby at_22)
  have N11 := Fr.snoc X11 N8 g_b2
  have K11 : Keep h0 h11 [] := K8.wr W11 (Or.inr sz_b2)
  have V_b2 := Arv.set Ar_b2 q_b2 Sz_b2 N_b2 H_b2 G_b2 rfl W11 2 rfl (Nat.le_of_ble_eq_true rfl)
  obtain ⟨T13, X13, e13, st13⟩ := getS2 X11 hx hZ hown (host := "") (Or.inl (hw _ (List.mem_of_getElem? (i := 10) rfl))) Via.refl e11 (S_UNDECLARED_UNCLASSIFIED_PROPERTY.ext (own_ext K11)) (g := (mkF m 25 #[.val (.int p1), .unset, .unset, .unset, .unset, .unset] [(.int (3 : Int32)), (.ref b2), (.ref b2)])) rfl (hb hby at_25)
  obtain ⟨cl_28, Ar_b2, q_b2, Sz_b2, N_b2, H_b2, G_b2⟩ := V_b2
  have hin28 : ¬ ((3 : Int32) < 0 ∨ cl_28.slots.size ≤ ((3 : Int32)).toNatClampNeg) := inb_of Sz_b2 ⟨by decide, by decide⟩
  have Sto28 := Sto.ofV Ar_b2 q_b2 O2 (Ins.self (E_w12.ext (own_ext K11)))
  obtain ⟨T14, h14, X14, e14, W14, st14⟩ := stR X13 hx hZ e13 Ar_b2 (j := (3 : Int32)) hin28 rfl Sto28 (g := (mkF m 28 #[.val (.int p1), .unset, .unset, .unset, .unset, .unset] [(.ref w12), (.int (3 : Int32)), (.ref b2), (.ref b2)])) rfl rfl (hb hby at_28)
  have N14 := Fr.snoc X14 N11 g_b2
  have K14 : Keep h0 h14 [] := K11.wr W14 (Or.inr sz_b2)
  have V_b2 := Arv.set Ar_b2 q_b2 Sz_b2 N_b2 H_b2 G_b2 rfl W14 3 rfl (Nat.le_of_ble_eq_true rfl)
  obtain ⟨T16, X16, e16, st16⟩ := getS2 X14 hx hZ hown (host := "") (Or.inl (hw _ (List.mem_of_getElem? (i := 12) rfl))) Via.refl e14 (S_ITEMS.ext (own_ext K14)) (g := (mkF m 31 #[.val (.int p1), .unset, .unset, .unset, .unset, .unset] [(.int (4 : Int32)), (.ref b2), (.ref b2)])) rfl (hb hby at_31)
  obtain ⟨cl_34, Ar_b2, q_b2, Sz_b2, N_b2, H_b2, G_b2⟩ := V_b2
  have hin34 : ¬ ((4 : Int32) < 0 ∨ cl_34.slots.size ≤ ((4 : Int32)).toNatClampNeg) := inb_of Sz_b2 ⟨by decide, by decide⟩
  have Sto34 := Sto.ofV Ar_b2 q_b2 O2 (Ins.self (E_w15.ext (own_ext K14)))
  obtain ⟨T17, h17, X17, e17, W17, st17⟩ := stR X16 hx hZ e16 Ar_b2 (j := (4 : Int32)) hin34 rfl Sto34 (g := (mkF m 34 #[.val (.int p1), .unset, .unset, .unset, .unset, .unset] [(.ref w15), (.int (4 : Int32)), (.ref b2), (.ref b2)])) rfl rfl (hb hby at_34)
  have N17 := Fr.snoc X17 N14 g_b2
  have K17 : Keep h0 h17 [] := K14.wr W17 (Or.inr sz_b2)
  have V_b2 := Arv.set Ar_b2 q_b2 Sz_b2 N_b2 H_b2 G_b2 rfl W17 4 rfl (Nat.le_of_ble_eq_true rfl)
  obtain ⟨T19, X19, e19, st19⟩ := getS2 X17 hx hZ hown (host := "") (Or.inl (hw _ (List.mem_of_getElem? (i := 14) rfl))) Via.refl e17 (S_ADDITIONAL_PROPERTIES.ext (own_ext K17)) (g := (mkF m 37 #[.val (.int p1), .unset, .unset, .unset, .unset, .unset] [(.int (5 : Int32)), (.ref b2), (.ref b2)])) rfl (hb hby at_37)
  obtain ⟨cl_40, Ar_b2, q_b2, Sz_b2, N_b2, H_b2, G_b2⟩ := V_b2
  have hin40 : ¬ ((5 : Int32) < 0 ∨ cl_40.slots.size ≤ ((5 : Int32)).toNatClampNeg) := inb_of Sz_b2 ⟨by decide, by decide⟩
  have Sto40 := Sto.ofV Ar_b2 q_b2 O2 (Ins.self (E_w18.ext (own_ext K17)))
  obtain ⟨T20, h20, X20, e20, W20, st20⟩ := stR X19 hx hZ e19 Ar_b2 (j := (5 : Int32)) hin40 rfl Sto40 (g := (mkF m 40 #[.val (.int p1), .unset, .unset, .unset, .unset, .unset] [(.ref w18), (.int (5 : Int32)), (.ref b2), (.ref b2)])) rfl rfl (hb hby at_40)
  have N20 := Fr.snoc X20 N17 g_b2
  have K20 : Keep h0 h20 [] := K17.wr W20 (Or.inr sz_b2)
  have V_b2 := Arv.set Ar_b2 q_b2 Sz_b2 N_b2 H_b2 G_b2 rfl W20 5 rfl (Nat.le_of_ble_eq_true rfl)
  obtain ⟨T22, X22, e22, st22⟩ := getS2 X20 hx hZ hown (host := "") (Or.inl (hw _ (List.mem_of_getElem? (i := 16) rfl))) Via.refl e20 (S_DEFINITION.ext (own_ext K20)) (g := (mkF m 44 #[.val (.int p1), .unset, .unset, .unset, .unset, .unset] [(.int (6 : Int32)), (.ref b2), (.ref b2)])) rfl (hb hby at_44)
  obtain ⟨cl_47, Ar_b2, q_b2, Sz_b2, N_b2, H_b2, G_b2⟩ := V_b2
  have hin47 : ¬ ((6 : Int32) < 0 ∨ cl_47.slots.size ≤ ((6 : Int32)).toNatClampNeg) := inb_of Sz_b2 ⟨by decide, by decide⟩
  have Sto47 := Sto.ofV Ar_b2 q_b2 O2 (Ins.self (E_w21.ext (own_ext K20)))
  obtain ⟨T23, h23, X23, e23, W23, st23⟩ := stR X22 hx hZ e22 Ar_b2 (j := (6 : Int32)) hin47 rfl Sto47 (g := (mkF m 47 #[.val (.int p1), .unset, .unset, .unset, .unset, .unset] [(.ref w21), (.int (6 : Int32)), (.ref b2), (.ref b2)])) rfl rfl (hb hby at_47)
  have N23 := Fr.snoc X23 N20 g_b2
  have K23 : Keep h0 h23 [] := K20.wr W23 (Or.inr sz_b2)
  have V_b2 := Arv.set Ar_b2 q_b2 Sz_b2 N_b2 H_b2 G_b2 rfl W23 6 rfl (Nat.le_of_ble_eq_true rfl)
  obtain ⟨T25, X25, e25, st25⟩ := getS2 X23 hx hZ hown (host := "") (Or.inl (hw _ (List.mem_of_getElem? (i := 18) rfl))) Via.refl e23 (S_UNCLASSIFIED.ext (own_ext K23)) (g := (mkF m 51 #[.val (.int p1), .unset, .unset, .unset, .unset, .unset] [(.int (7 : Int32)), (.ref b2), (.ref b2)])) rfl (hb hby at_51)
  obtain ⟨cl_54, Ar_b2, q_b2, Sz_b2, N_b2, H_b2, G_b2⟩ := V_b2
  have hin54 : ¬ ((7 : Int32) < 0 ∨ cl_54.slots.size ≤ ((7 : Int32)).toNatClampNeg) := inb_of Sz_b2 ⟨by decide, by decide⟩
  have Sto54 := Sto.ofV Ar_b2 q_b2 O2 (Ins.self (E_w24.ext (own_ext K23)))
  obtain ⟨T26, h26, X26, e26, W26, st26⟩ := stR X25 hx hZ e25 Ar_b2 (j := (7 : Int32)) hin54 rfl Sto54 (g := (mkF m 54 #[.val (.int p1), .unset, .unset, .unset, .unset, .unset] [(.ref w24), (.int (7 : Int32)), (.ref b2), (.ref b2)])) rfl rfl (hb hby at_54)
  have N26 := Fr.snoc X26 N23 g_b2
  have K26 : Keep h0 h26 [] := K23.wr W26 (Or.inr sz_b2)
  have V_b2 := Arv.set Ar_b2 q_b2 Sz_b2 N_b2 H_b2 G_b2 rfl W26 7 rfl (Nat.le_of_ble_eq_true rfl)
  obtain ⟨T28, X28, e28, st28⟩ := getS2 X26 hx hZ hown (host := "") (Or.inl (hw _ (List.mem_of_getElem? (i := 20) rfl))) Via.refl e26 (S_ALTERNATIVES.ext (own_ext K26)) (g := (mkF m 58 #[.val (.int p1), .unset, .unset, .unset, .unset, .unset] [(.int (8 : Int32)), (.ref b2), (.ref b2)])) rfl (hb hby at_58)
  obtain ⟨cl_61, Ar_b2, q_b2, Sz_b2, N_b2, H_b2, G_b2⟩ := V_b2
  have hin61 : ¬ ((8 : Int32) < 0 ∨ cl_61.slots.size ≤ ((8 : Int32)).toNatClampNeg) := inb_of Sz_b2 ⟨by decide, by decide⟩
  have Sto61 := Sto.ofV Ar_b2 q_b2 O2 (Ins.self (E_w27.ext (own_ext K26)))
  obtain ⟨T29, h29, X29, e29, W29, st29⟩ := stR X28 hx hZ e28 Ar_b2 (j := (8 : Int32)) hin61 rfl Sto61 (g := (mkF m 61 #[.val (.int p1), .unset, .unset, .unset, .unset, .unset] [(.ref w27), (.int (8 : Int32)), (.ref b2), (.ref b2)])) rfl rfl (hb hby at_61)
  have N29 := Fr.snoc X29 N26 g_b2
  have K29 : Keep h0 h29 [] := K26.wr W29 (Or.inr sz_b2)
  have V_b2 := Arv.set Ar_b2 q_b2 Sz_b2 N_b2 H_b2 G_b2 rfl W29 8 rfl (Nat.le_of_ble_eq_true rfl)
  obtain ⟨T31, X31, e31, st31⟩ := getS2 X29 hx hZ hown (host := "") (Or.inl (hw _ (List.mem_of_getElem? (i := 22) rfl))) Via.refl e29 (S_EXCLUSIVE_ALTERNATIVES.ext (own_ext K29)) (g := (mkF m 65 #[.val (.int p1), .unset, .unset, .unset, .unset, .unset] [(.int (9 : Int32)), (.ref b2), (.ref b2)])) rfl (hb hby at_65)
  obtain ⟨cl_68, Ar_b2, q_b2, Sz_b2, N_b2, H_b2, G_b2⟩ := V_b2
  have hin68 : ¬ ((9 : Int32) < 0 ∨ cl_68.slots.size ≤ ((9 : Int32)).toNatClampNeg) := inb_of Sz_b2 ⟨by decide, by decide⟩
  have Sto68 := Sto.ofV Ar_b2 q_b2 O2 (Ins.self (E_w30.ext (own_ext K29)))
  obtain ⟨T32, h32, X32, e32, W32, st32⟩ := stR X31 hx hZ e31 Ar_b2 (j := (9 : Int32)) hin68 rfl Sto68 (g := (mkF m 68 #[.val (.int p1), .unset, .unset, .unset, .unset, .unset] [(.ref w30), (.int (9 : Int32)), (.ref b2), (.ref b2)])) rfl rfl (hb hby at_68)
  have N32 := Fr.snoc X32 N29 g_b2
  have K32 : Keep h0 h32 [] := K29.wr W32 (Or.inr sz_b2)
  have V_b2 := Arv.set Ar_b2 q_b2 Sz_b2 N_b2 H_b2 G_b2 rfl W32 9 rfl (Nat.le_of_ble_eq_true rfl)
  obtain ⟨T34, X34, e34, st34⟩ := getS2 X32 hx hZ hown (host := "") (Or.inl (hw _ (List.mem_of_getElem? (i := 24) rfl))) Via.refl e32 (S_ATTRIBUTE.ext (own_ext K32)) (g := (mkF m 72 #[.val (.int p1), .unset, .unset, .unset, .unset, .unset] [(.int (10 : Int32)), (.ref b2), (.ref b2)])) rfl (hb hby at_72)
  obtain ⟨cl_75, Ar_b2, q_b2, Sz_b2, N_b2, H_b2, G_b2⟩ := V_b2
  have hin75 : ¬ ((10 : Int32) < 0 ∨ cl_75.slots.size ≤ ((10 : Int32)).toNatClampNeg) := inb_of Sz_b2 ⟨by decide, by decide⟩
  have Sto75 := Sto.ofV Ar_b2 q_b2 O2 (Ins.self (E_w33.ext (own_ext K32)))
  obtain ⟨T35, h35, X35, e35, W35, st35⟩ := stR X34 hx hZ e34 Ar_b2 (j := (10 : Int32)) hin75 rfl Sto75 (g := (mkF m 75 #[.val (.int p1), .unset, .unset, .unset, .unset, .unset] [(.ref w33), (.int (10 : Int32)), (.ref b2), (.ref b2)])) rfl rfl (hb hby at_75)
  have N35 := Fr.snoc X35 N32 g_b2
  have K35 : Keep h0 h35 [] := K32.wr W35 (Or.inr sz_b2)
  have V_b2 := Arv.set Ar_b2 q_b2 Sz_b2 N_b2 H_b2 G_b2 rfl W35 10 rfl (Nat.le_of_ble_eq_true rfl)
  obtain ⟨T37, X37, e37, st37⟩ := getS2 X35 hx hZ hown (host := "") (Or.inl (hw _ (List.mem_of_getElem? (i := 26) rfl))) Via.refl e35 (S_METRIC.ext (own_ext K35)) (g := (mkF m 79 #[.val (.int p1), .unset, .unset, .unset, .unset, .unset] [(.int (11 : Int32)), (.ref b2), (.ref b2)])) rfl (hb hby at_79)
  obtain ⟨cl_82, Ar_b2, q_b2, Sz_b2, N_b2, H_b2, G_b2⟩ := V_b2
  have hin82 : ¬ ((11 : Int32) < 0 ∨ cl_82.slots.size ≤ ((11 : Int32)).toNatClampNeg) := inb_of Sz_b2 ⟨by decide, by decide⟩
  have Sto82 := Sto.ofV Ar_b2 q_b2 O2 (Ins.self (E_w36.ext (own_ext K35)))
  obtain ⟨T38, h38, X38, e38, W38, st38⟩ := stR X37 hx hZ e37 Ar_b2 (j := (11 : Int32)) hin82 rfl Sto82 (g := (mkF m 82 #[.val (.int p1), .unset, .unset, .unset, .unset, .unset] [(.ref w36), (.int (11 : Int32)), (.ref b2), (.ref b2)])) rfl rfl (hb hby at_82)
  have N38 := Fr.snoc X38 N35 g_b2
  have K38 : Keep h0 h38 [] := K35.wr W38 (Or.inr sz_b2)
  have V_b2 := Arv.set Ar_b2 q_b2 Sz_b2 N_b2 H_b2 G_b2 rfl W38 11 rfl (Nat.le_of_ble_eq_true rfl)
  obtain ⟨T40, X40, e40, st40⟩ := getS2 X38 hx hZ hown (host := "") (Or.inl (hw _ (List.mem_of_getElem? (i := 28) rfl))) Via.refl e38 (S_SPAN.ext (own_ext K38)) (g := (mkF m 86 #[.val (.int p1), .unset, .unset, .unset, .unset, .unset] [(.int (12 : Int32)), (.ref b2), (.ref b2)])) rfl (hb hby at_86)
  obtain ⟨cl_89, Ar_b2, q_b2, Sz_b2, N_b2, H_b2, G_b2⟩ := V_b2
  have hin89 : ¬ ((12 : Int32) < 0 ∨ cl_89.slots.size ≤ ((12 : Int32)).toNatClampNeg) := inb_of Sz_b2 ⟨by decide, by decide⟩
  have Sto89 := Sto.ofV Ar_b2 q_b2 O2 (Ins.self (E_w39.ext (own_ext K38)))
  obtain ⟨T41, h41, X41, e41, W41, st41⟩ := stR X40 hx hZ e40 Ar_b2 (j := (12 : Int32)) hin89 rfl Sto89 (g := (mkF m 89 #[.val (.int p1), .unset, .unset, .unset, .unset, .unset] [(.ref w39), (.int (12 : Int32)), (.ref b2), (.ref b2)])) rfl rfl (hb hby at_89)
  have N41 := Fr.snoc X41 N38 g_b2
  have K41 : Keep h0 h41 [] := K38.wr W41 (Or.inr sz_b2)
  have V_b2 := Arv.set Ar_b2 q_b2 Sz_b2 N_b2 H_b2 G_b2 rfl W41 12 rfl (Nat.le_of_ble_eq_true rfl)
  obtain ⟨T43, X43, e43, st43⟩ := getS2 X41 hx hZ hown (host := "") (Or.inl (hw _ (List.mem_of_getElem? (i := 30) rfl))) Via.refl e41 (S_EVENT.ext (own_ext K41)) (g := (mkF m 93 #[.val (.int p1), .unset, .unset, .unset, .unset, .unset] [(.int (13 : Int32)), (.ref b2), (.ref b2)])) rfl (hb hby at_93)
  obtain ⟨cl_96, Ar_b2, q_b2, Sz_b2, N_b2, H_b2, G_b2⟩ := V_b2
  have hin96 : ¬ ((13 : Int32) < 0 ∨ cl_96.slots.size ≤ ((13 : Int32)).toNatClampNeg) := inb_of Sz_b2 ⟨by decide, by decide⟩
  have Sto96 := Sto.ofV Ar_b2 q_b2 O2 (Ins.self (E_w42.ext (own_ext K41)))
  obtain ⟨T44, h44, X44, e44, W44, st44⟩ := stR X43 hx hZ e43 Ar_b2 (j := (13 : Int32)) hin96 rfl Sto96 (g := (mkF m 96 #[.val (.int p1), .unset, .unset, .unset, .unset, .unset] [(.ref w42), (.int (13 : Int32)), (.ref b2), (.ref b2)])) rfl rfl (hb hby at_96)
  have N44 := Fr.snoc X44 N41 g_b2
  have K44 : Keep h0 h44 [] := K41.wr W44 (Or.inr sz_b2)
  have V_b2 := Arv.set Ar_b2 q_b2 Sz_b2 N_b2 H_b2 G_b2 rfl W44 13 rfl (Nat.le_of_ble_eq_true rfl)
  obtain ⟨T46, X46, e46, st46⟩ := getS2 X44 hx hZ hown (host := "") (Or.inl (hw _ (List.mem_of_getElem? (i := 32) rfl))) Via.refl e44 (S_ENTITY.ext (own_ext K44)) (g := (mkF m 100 #[.val (.int p1), .unset, .unset, .unset, .unset, .unset] [(.int (14 : Int32)), (.ref b2), (.ref b2)])) rfl (hb hby at_100)
  obtain ⟨cl_103, Ar_b2, q_b2, Sz_b2, N_b2, H_b2, G_b2⟩ := V_b2
  have hin103 : ¬ ((14 : Int32) < 0 ∨ cl_103.slots.size ≤ ((14 : Int32)).toNatClampNeg) := inb_of Sz_b2 ⟨by decide, by decide⟩
  have Sto103 := Sto.ofV Ar_b2 q_b2 O2 (Ins.self (E_w45.ext (own_ext K44)))
  obtain ⟨T47, h47, X47, e47, W47, st47⟩ := stR X46 hx hZ e46 Ar_b2 (j := (14 : Int32)) hin103 rfl Sto103 (g := (mkF m 103 #[.val (.int p1), .unset, .unset, .unset, .unset, .unset] [(.ref w45), (.int (14 : Int32)), (.ref b2), (.ref b2)])) rfl rfl (hb hby at_103)
  have N47 := Fr.snoc X47 N44 g_b2
  have K47 : Keep h0 h47 [] := K44.wr W47 (Or.inr sz_b2)
  have V_b2 := Arv.set Ar_b2 q_b2 Sz_b2 N_b2 H_b2 G_b2 rfl W47 14 rfl (Nat.le_of_ble_eq_true rfl)
  have Z47 : n0 ≤ h47.size := Nat.le_trans Z0 K47.1
  obtain ⟨cl_115, Ar_b2, q_b2, Sz_b2, N_b2, H_b2, G_b2⟩ := V_b2
  have hin115 : ¬ ((HMod.hMod (p1 &&& (2147483647 : Int32)) (15 : Int32)) < 0 ∨ cl_115.slots.size ≤ (HMod.hMod (p1 &&& (2147483647 : Int32)) (15 : Int32)).toNatClampNeg) := inb_of Sz_b2 ⟨hp0, hp5⟩
  have hat115 := Has.at H_b2 hin115 hsel
  obtain ⟨cq49, kq49, q49a, q49b, q49c⟩ := isOf hZ e47 (E_w48.ext (own_ext K47))
  obtain ⟨_, _, ⟨T49, L49, k49, n49⟩, -, X49, ⟨Lc49, hQ49, l49, y49, z49⟩, st49⟩ := X47.virtualBack hx (y := (⟨"com/example/rev3/rev3/change/ElementKind", "isAlternatives", "()Z"⟩ : MethodName)) (z := (⟨"com/example/rev3/rev3/change/ElementKind", "isAlternatives", "()Z"⟩ : MethodName)) hown (mvT hZ (hw _ (List.mem_of_getElem? (i := 35) rfl))) (mvT hZ (hw _ (List.mem_of_getElem? (i := 36) rfl))) (notFace_of_selects (args := #[]) (mvT hZ (hw _ (List.mem_of_getElem? (i := 38) rfl)))) (mvT hZ (hw _ (List.mem_of_getElem? (i := 38) rfl))) (mvT hZ (hw _ (List.mem_of_getElem? (i := 37) rfl))) (by decide) (backOf (W := 0) (rm1y l Z a0 hw [] w48 w27 h47 n0 Z47 (S_ALTERNATIVES.ext (own_ext K47)) hk) hZ (hw _ (List.mem_of_getElem? (i := 39) rfl)) (hw _ (List.mem_of_getElem? (i := 3) rfl)) (by decide) (by decide)) q49a q49c (g := (mkF m 137 #[.val (.int p1), .val (.ref b2), .val (.int (HMod.hMod (p1 &&& (2147483647 : Int32)) (15 : Int32))), .val (.ref w48), .val (.int (1 : Int32)), .unset] [(.ref w48)])) rfl (by rw [hml]; rfl) (Steps.refl _) (argsL := []) (rest := []) (lenOf pd_0_0 rfl) rfl (by show 2 * 0 + _ ≤ _; exact Nat.le_of_eq rfl) (hb hby at_137) (fun _ _ => ⟨rfl, e47, (Nat.le_of_ble_eq_true rfl), (Nat.le_of_ble_eq_true rfl)⟩)
  dsimp only [Pt.U, Pt.locs, Pt.cells, Pt.slots] at X49 l49 y49 z49 st49 hQ49
  subst l49 y49 z49
  obtain ⟨rfl, N49q, eq49⟩ := hQ49
  have N49 := Fr.app N47 N49q
  obtain ⟨cq50, kq50, q50a, q50b, q50c⟩ := isOf hZ eq49 (E_w48.ext (own_ext K47))
  obtain ⟨_, _, ⟨T50, L50, k50, n50⟩, -, X50, ⟨Lc50, hQ50, l50, y50, z50⟩, st50⟩ := X49.virtualBack hx (y := (⟨"com/example/rev3/rev3/change/ElementKind", "getAdded", "()Lcom/example/rev3/rev3/change/ChangeKind;"⟩ : MethodName)) (z := (⟨"com/example/rev3/rev3/change/ElementKind", "getAdded", "()Lcom/example/rev3/rev3/change/ChangeKind;"⟩ : MethodName)) hown (mvT hZ (hw _ (List.mem_of_getElem? (i := 42) rfl))) (mvT hZ (hw _ (List.mem_of_getElem? (i := 43) rfl))) (notFace_of_selects (args := #[]) (mvT hZ (hw _ (List.mem_of_getElem? (i := 45) rfl)))) (mvT hZ (hw _ (List.mem_of_getElem? (i := 45) rfl))) (mvT hZ (hw _ (List.mem_of_getElem? (i := 44) rfl))) (by decide) (backOf (W := 0) (rm2 l Z a0 hw [] w48 w51 h47 n0 Z47 (F__added.ext (own_ext K47))) hZ (hw _ (List.mem_of_getElem? (i := 46) rfl)) (hw _ (List.mem_of_getElem? (i := 3) rfl)) (by decide) (by decide)) q50a q50c (g := (mkF m 157 #[.val (.int p1), .val (.ref b2), .val (.int (HMod.hMod (p1 &&& (2147483647 : Int32)) (15 : Int32))), .val (.ref w48), .val (.int (1 : Int32)), .val (.int (1 : Int32))] [(.ref w48)])) rfl (by rw [hml]; rfl) (Steps.refl _) (argsL := []) (rest := []) (lenOf pd_0_1 rfl) rfl (by show 2 * 0 + _ ≤ _; exact Nat.le_of_eq rfl) (hb hby at_157) (fun _ _ => ⟨rfl, eq49, (Nat.le_of_ble_eq_true rfl), (Nat.le_of_ble_eq_true rfl)⟩)
  dsimp only [Pt.U, Pt.locs, Pt.cells, Pt.slots] at X50 l50 y50 z50 st50 hQ50
  subst l50 y50 z50
  obtain ⟨rfl, N50q, eq50⟩ := hQ50
  have N50 := Fr.app N49 N50q
  obtain ⟨T52, X52, e52, st52⟩ := getS2 X50 hx hZ hown (host := "") (Or.inl (hw _ (List.mem_of_getElem? (i := 51) rfl))) Via.refl eq50 (S_UNCLASSIFIED_CHANGE.ext (own_ext K47)) (g := (mkF m 160 #[.val (.int p1), .val (.ref b2), .val (.int (HMod.hMod (p1 &&& (2147483647 : Int32)) (15 : Int32))), .val (.ref w48), .val (.int (1 : Int32)), .val (.int (1 : Int32))] [(.ref w51)])) rfl (hb hby at_160)
  obtain ⟨cq53, kq53, q53a, q53b, q53c⟩ := isOf hZ e52 (E_w48.ext (own_ext K47))
  obtain ⟨_, _, ⟨T53, L53, k53, n53⟩, -, X53, ⟨Lc53, hQ53, l53, y53, z53⟩, st53⟩ := X52.virtualBack hx (y := (⟨"com/example/rev3/rev3/change/ElementKind", "getRemoved", "()Lcom/example/rev3/rev3/change/ChangeKind;"⟩ : MethodName)) (z := (⟨"com/example/rev3/rev3/change/ElementKind", "getRemoved", "()Lcom/example/rev3/rev3/change/ChangeKind;"⟩ : MethodName)) hown (mvT hZ (hw _ (List.mem_of_getElem? (i := 52) rfl))) (mvT hZ (hw _ (List.mem_of_getElem? (i := 53) rfl))) (notFace_of_selects (args := #[]) (mvT hZ (hw _ (List.mem_of_getElem? (i := 55) rfl)))) (mvT hZ (hw _ (List.mem_of_getElem? (i := 55) rfl))) (mvT hZ (hw _ (List.mem_of_getElem? (i := 54) rfl))) (by decide) (backOf (W := 0) (rm3 l Z a0 hw [] w48 w51 h47 n0 Z47 (F__removed.ext (own_ext K47))) hZ (hw _ (List.mem_of_getElem? (i := 56) rfl)) (hw _ (List.mem_of_getElem? (i := 3) rfl)) (by decide) (by decide)) q53a q53c (g := (mkF m 167 #[.val (.int p1), .val (.ref b2), .val (.int (HMod.hMod (p1 &&& (2147483647 : Int32)) (15 : Int32))), .val (.ref w48), .val (.int (1 : Int32)), .val (.int (1 : Int32))] [(.ref w48)])) rfl (by rw [hml]; rfl) (Steps.refl _) (argsL := []) (rest := []) (lenOf pd_0_1 rfl) rfl (by show 2 * 0 + _ ≤ _; exact Nat.le_of_eq rfl) (hb hby at_167) (fun _ _ => ⟨rfl, e52, (Nat.le_of_ble_eq_true rfl), (Nat.le_of_ble_eq_true rfl)⟩)
  dsimp only [Pt.U, Pt.locs, Pt.cells, Pt.slots] at X53 l53 y53 z53 st53 hQ53
  subst l53 y53 z53
  obtain ⟨rfl, N53q, eq53⟩ := hQ53
  have N53 := Fr.app N50 N53q
  obtain ⟨T54, X54, e54, st54⟩ := getS2 X53 hx hZ hown (host := "") (Or.inl (hw _ (List.mem_of_getElem? (i := 51) rfl))) Via.refl eq53 (S_UNCLASSIFIED_CHANGE.ext (own_ext K47)) (g := (mkF m 170 #[.val (.int p1), .val (.ref b2), .val (.int (HMod.hMod (p1 &&& (2147483647 : Int32)) (15 : Int32))), .val (.ref w48), .val (.int (1 : Int32)), .val (.int (1 : Int32))] [(.ref w51)])) rfl (hb hby at_170)
  obtain ⟨fs, hr, hrun, hended, hW, hsame⟩ := X54.leave (v := some (.int (1 : Int32))) (fun h => by rw [Bd.returns] at h; cases h)
  refine ⟨_, _, pre0 _ ?_, hrun, hended, _, _, rfl, ?_, ⟨_, rfl⟩, hW, hsame.mono (by decide) (by decide)⟩
  · show Steps p.tables e below (s₁.setTop (mkF m 0 #[.val (.int p1), .unset, .unset, .unset, .unset, .unset] [])) _
    refine XS.bipush X0.here hx rfl (hb hby at_0) ?_
    show Steps p.tables e below (s₁.setTop (mkF m 2 #[.val (.int p1), .unset, .unset, .unset, .unset, .unset] [(.int (15 : Int32))])) _
    refine st2 _ ?_
    show Steps p.tables e below (T2.setTop (mkF m 5 #[.val (.int p1), .unset, .unset, .unset, .unset, .unset] [(.ref b2)])) _
    refine XS.dup X2.here hx rfl (hb hby at_5) rfl rfl ?_
    show Steps p.tables e below (T2.setTop (mkF m 6 #[.val (.int p1), .unset, .unset, .unset, .unset, .unset] [(.ref b2), (.ref b2)])) _
    refine XS.iconst X2.here hx rfl (hb hby at_6) ?_
    show Steps p.tables e below (T2.setTop (mkF m 7 #[.val (.int p1), .unset, .unset, .unset, .unset, .unset] [(.int (0 : Int32)), (.ref b2), (.ref b2)])) _
    refine st4 _ ?_
    show Steps p.tables e below (T4.setTop (mkF m 10 #[.val (.int p1), .unset, .unset, .unset, .unset, .unset] [(.ref w3), (.int (0 : Int32)), (.ref b2), (.ref b2)])) _
    refine st5 _ ?_
    show Steps p.tables e below (T5.setTop (mkF m 11 #[.val (.int p1), .unset, .unset, .unset, .unset, .unset] [(.ref b2)])) _
    refine XS.dup X5.here hx rfl (hb hby at_11) rfl rfl ?_
    show Steps p.tables e below (T5.setTop (mkF m 12 #[.val (.int p1), .unset, .unset, .unset, .unset, .unset] [(.ref b2), (.ref b2)])) _
    refine XS.iconst X5.here hx rfl (hb hby at_12) ?_
    show Steps p.tables e below (T5.setTop (mkF m 13 #[.val (.int p1), .unset, .unset, .unset, .unset, .unset] [(.int (1 : Int32)), (.ref b2), (.ref b2)])) _
    refine st7 _ ?_
    show Steps p.tables e below (T7.setTop (mkF m 16 #[.val (.int p1), .unset, .unset, .unset, .unset, .unset] [(.ref w6), (.int (1 : Int32)), (.ref b2), (.ref b2)])) _
    refine st8 _ ?_
    show Steps p.tables e below (T8.setTop (mkF m 17 #[.val (.int p1), .unset, .unset, .unset, .unset, .unset] [(.ref b2)])) _
    refine XS.dup X8.here hx rfl (hb hby at_17) rfl rfl ?_
    show Steps p.tables e below (T8.setTop (mkF m 18 #[.val (.int p1), .unset, .unset, .unset, .unset, .unset] [(.ref b2), (.ref b2)])) _
    refine XS.iconst X8.here hx rfl (hb hby at_18) ?_
    show Steps p.tables e below (T8.setTop (mkF m 19 #[.val (.int p1), .unset, .unset, .unset, .unset, .unset] [(.int (2 : Int32)), (.ref b2), (.ref b2)])) _
    refine st10 _ ?_
    show Steps p.tables e below (T10.setTop (mkF m 22 #[.val (.int p1), .unset, .unset, .unset, .unset, .unset] [(.ref w9), (.int (2 : Int32)), (.ref b2), (.ref b2)])) _
    refine st11 _ ?_
    show Steps p.tables e below (T11.setTop (mkF m 23 #[.val (.int p1), .unset, .unset, .unset, .unset, .unset] [(.ref b2)])) _
    refine XS.dup X11.here hx rfl (hb hby at_23) rfl rfl ?_
    show Steps p.tables e below (T11.setTop (mkF m 24 #[.val (.int p1), .unset, .unset, .unset, .unset, .unset] [(.ref b2), (.ref b2)])) _
    refine XS.iconst X11.here hx rfl (hb hby at_24) ?_
    show Steps p.tables e below (T11.setTop (mkF m 25 #[.val (.int p1), .unset, .unset, .unset, .unset, .unset] [(.int (3 : Int32)), (.ref b2), (.ref b2)])) _
    refine st13 _ ?_
    show Steps p.tables e below (T13.setTop (mkF m 28 #[.val (.int p1), .unset, .unset, .unset, .unset, .unset] [(.ref w12), (.int (3 : Int32)), (.ref b2), (.ref b2)])) _
    refine st14 _ ?_
    show Steps p.tables e below (T14.setTop (mkF m 29 #[.val (.int p1), .unset, .unset, .unset, .unset, .unset] [(.ref b2)])) _
    refine XS.dup X14.here hx rfl (hb hby at_29) rfl rfl ?_
    show Steps p.tables e below (T14.setTop (mkF m 30 #[.val (.int p1), .unset, .unset, .unset, .unset, .unset] [(.ref b2), (.ref b2)])) _
    refine XS.iconst X14.here hx rfl (hb hby at_30) ?_
    show Steps p.tables e below (T14.setTop (mkF m 31 #[.val (.int p1), .unset, .unset, .unset, .unset, .unset] [(.int (4 : Int32)), (.ref b2), (.ref b2)])) _
    refine st16 _ ?_
    show Steps p.tables e below (T16.setTop (mkF m 34 #[.val (.int p1), .unset, .unset, .unset, .unset, .unset] [(.ref w15), (.int (4 : Int32)), (.ref b2), (.ref b2)])) _
    refine st17 _ ?_
    show Steps p.tables e below (T17.setTop (mkF m 35 #[.val (.int p1), .unset, .unset, .unset, .unset, .unset] [(.ref b2)])) _
    refine XS.dup X17.here hx rfl (hb hby at_35) rfl rfl ?_
    show Steps p.tables e below (T17.setTop (mkF m 36 #[.val (.int p1), .unset, .unset, .unset, .unset, .unset] [(.ref b2), (.ref b2)])) _
    refine XS.iconst X17.here hx rfl (hb hby at_36) ?_
    show Steps p.tables e below (T17.setTop (mkF m 37 #[.val (.int p1), .unset, .unset, .unset, .unset, .unset] [(.int (5 : Int32)), (.ref b2), (.ref b2)])) _
    refine st19 _ ?_
    show Steps p.tables e below (T19.setTop (mkF m 40 #[.val (.int p1), .unset, .unset, .unset, .unset, .unset] [(.ref w18), (.int (5 : Int32)), (.ref b2), (.ref b2)])) _
    refine st20 _ ?_
    show Steps p.tables e below (T20.setTop (mkF m 41 #[.val (.int p1), .unset, .unset, .unset, .unset, .unset] [(.ref b2)])) _
    refine XS.dup X20.here hx rfl (hb hby at_41) rfl rfl ?_
    show Steps p.tables e below (T20.setTop (mkF m 42 #[.val (.int p1), .unset, .unset, .unset, .unset, .unset] [(.ref b2), (.ref b2)])) _
    refine XS.bipush X20.here hx rfl (hb hby at_42) ?_
    show Steps p.tables e below (T20.setTop (mkF m 44 #[.val (.int p1), .unset, .unset, .unset, .unset, .unset] [(.int (6 : Int32)), (.ref b2), (.ref b2)])) _
    refine st22 _ ?_
    show Steps p.tables e below (T22.setTop (mkF m 47 #[.val (.int p1), .unset, .unset, .unset, .unset, .unset] [(.ref w21), (.int (6 : Int32)), (.ref b2), (.ref b2)])) _
    refine st23 _ ?_
    show Steps p.tables e below (T23.setTop (mkF m 48 #[.val (.int p1), .unset, .unset, .unset, .unset, .unset] [(.ref b2)])) _
    refine XS.dup X23.here hx rfl (hb hby at_48) rfl rfl ?_
    show Steps p.tables e below (T23.setTop (mkF m 49 #[.val (.int p1), .unset, .unset, .unset, .unset, .unset] [(.ref b2), (.ref b2)])) _
    refine XS.bipush X23.here hx rfl (hb hby at_49) ?_
    show Steps p.tables e below (T23.setTop (mkF m 51 #[.val (.int p1), .unset, .unset, .unset, .unset, .unset] [(.int (7 : Int32)), (.ref b2), (.ref b2)])) _
    refine st25 _ ?_
    show Steps p.tables e below (T25.setTop (mkF m 54 #[.val (.int p1), .unset, .unset, .unset, .unset, .unset] [(.ref w24), (.int (7 : Int32)), (.ref b2), (.ref b2)])) _
    refine st26 _ ?_
    show Steps p.tables e below (T26.setTop (mkF m 55 #[.val (.int p1), .unset, .unset, .unset, .unset, .unset] [(.ref b2)])) _
    refine XS.dup X26.here hx rfl (hb hby at_55) rfl rfl ?_
    show Steps p.tables e below (T26.setTop (mkF m 56 #[.val (.int p1), .unset, .unset, .unset, .unset, .unset] [(.ref b2), (.ref b2)])) _
    refine XS.bipush X26.here hx rfl (hb hby at_56) ?_
    show Steps p.tables e below (T26.setTop (mkF m 58 #[.val (.int p1), .unset, .unset, .unset, .unset, .unset] [(.int (8 : Int32)), (.ref b2), (.ref b2)])) _
    refine st28 _ ?_
    show Steps p.tables e below (T28.setTop (mkF m 61 #[.val (.int p1), .unset, .unset, .unset, .unset, .unset] [(.ref w27), (.int (8 : Int32)), (.ref b2), (.ref b2)])) _
    refine st29 _ ?_
    show Steps p.tables e below (T29.setTop (mkF m 62 #[.val (.int p1), .unset, .unset, .unset, .unset, .unset] [(.ref b2)])) _
    refine XS.dup X29.here hx rfl (hb hby at_62) rfl rfl ?_
    show Steps p.tables e below (T29.setTop (mkF m 63 #[.val (.int p1), .unset, .unset, .unset, .unset, .unset] [(.ref b2), (.ref b2)])) _
    refine XS.bipush X29.here hx rfl (hb hby at_63) ?_
    show Steps p.tables e below (T29.setTop (mkF m 65 #[.val (.int p1), .unset, .unset, .unset, .unset, .unset] [(.int (9 : Int32)), (.ref b2), (.ref b2)])) _
    refine st31 _ ?_
    show Steps p.tables e below (T31.setTop (mkF m 68 #[.val (.int p1), .unset, .unset, .unset, .unset, .unset] [(.ref w30), (.int (9 : Int32)), (.ref b2), (.ref b2)])) _
    refine st32 _ ?_
    show Steps p.tables e below (T32.setTop (mkF m 69 #[.val (.int p1), .unset, .unset, .unset, .unset, .unset] [(.ref b2)])) _
    refine XS.dup X32.here hx rfl (hb hby at_69) rfl rfl ?_
    show Steps p.tables e below (T32.setTop (mkF m 70 #[.val (.int p1), .unset, .unset, .unset, .unset, .unset] [(.ref b2), (.ref b2)])) _
    refine XS.bipush X32.here hx rfl (hb hby at_70) ?_
    show Steps p.tables e below (T32.setTop (mkF m 72 #[.val (.int p1), .unset, .unset, .unset, .unset, .unset] [(.int (10 : Int32)), (.ref b2), (.ref b2)])) _
    refine st34 _ ?_
    show Steps p.tables e below (T34.setTop (mkF m 75 #[.val (.int p1), .unset, .unset, .unset, .unset, .unset] [(.ref w33), (.int (10 : Int32)), (.ref b2), (.ref b2)])) _
    refine st35 _ ?_
    show Steps p.tables e below (T35.setTop (mkF m 76 #[.val (.int p1), .unset, .unset, .unset, .unset, .unset] [(.ref b2)])) _
    refine XS.dup X35.here hx rfl (hb hby at_76) rfl rfl ?_
    show Steps p.tables e below (T35.setTop (mkF m 77 #[.val (.int p1), .unset, .unset, .unset, .unset, .unset] [(.ref b2), (.ref b2)])) _
    refine XS.bipush X35.here hx rfl (hb hby at_77) ?_
    show Steps p.tables e below (T35.setTop (mkF m 79 #[.val (.int p1), .unset, .unset, .unset, .unset, .unset] [(.int (11 : Int32)), (.ref b2), (.ref b2)])) _
    refine st37 _ ?_
    show Steps p.tables e below (T37.setTop (mkF m 82 #[.val (.int p1), .unset, .unset, .unset, .unset, .unset] [(.ref w36), (.int (11 : Int32)), (.ref b2), (.ref b2)])) _
    refine st38 _ ?_
    show Steps p.tables e below (T38.setTop (mkF m 83 #[.val (.int p1), .unset, .unset, .unset, .unset, .unset] [(.ref b2)])) _
    refine XS.dup X38.here hx rfl (hb hby at_83) rfl rfl ?_
    show Steps p.tables e below (T38.setTop (mkF m 84 #[.val (.int p1), .unset, .unset, .unset, .unset, .unset] [(.ref b2), (.ref b2)])) _
    refine XS.bipush X38.here hx rfl (hb hby at_84) ?_
    show Steps p.tables e below (T38.setTop (mkF m 86 #[.val (.int p1), .unset, .unset, .unset, .unset, .unset] [(.int (12 : Int32)), (.ref b2), (.ref b2)])) _
    refine st40 _ ?_
    show Steps p.tables e below (T40.setTop (mkF m 89 #[.val (.int p1), .unset, .unset, .unset, .unset, .unset] [(.ref w39), (.int (12 : Int32)), (.ref b2), (.ref b2)])) _
    refine st41 _ ?_
    show Steps p.tables e below (T41.setTop (mkF m 90 #[.val (.int p1), .unset, .unset, .unset, .unset, .unset] [(.ref b2)])) _
    refine XS.dup X41.here hx rfl (hb hby at_90) rfl rfl ?_
    show Steps p.tables e below (T41.setTop (mkF m 91 #[.val (.int p1), .unset, .unset, .unset, .unset, .unset] [(.ref b2), (.ref b2)])) _
    refine XS.bipush X41.here hx rfl (hb hby at_91) ?_
    show Steps p.tables e below (T41.setTop (mkF m 93 #[.val (.int p1), .unset, .unset, .unset, .unset, .unset] [(.int (13 : Int32)), (.ref b2), (.ref b2)])) _
    refine st43 _ ?_
    show Steps p.tables e below (T43.setTop (mkF m 96 #[.val (.int p1), .unset, .unset, .unset, .unset, .unset] [(.ref w42), (.int (13 : Int32)), (.ref b2), (.ref b2)])) _
    refine st44 _ ?_
    show Steps p.tables e below (T44.setTop (mkF m 97 #[.val (.int p1), .unset, .unset, .unset, .unset, .unset] [(.ref b2)])) _
    refine XS.dup X44.here hx rfl (hb hby at_97) rfl rfl ?_
    show Steps p.tables e below (T44.setTop (mkF m 98 #[.val (.int p1), .unset, .unset, .unset, .unset, .unset] [(.ref b2), (.ref b2)])) _
    refine XS.bipush X44.here hx rfl (hb hby at_98) ?_
    show Steps p.tables e below (T44.setTop (mkF m 100 #[.val (.int p1), .unset, .unset, .unset, .unset, .unset] [(.int (14 : Int32)), (.ref b2), (.ref b2)])) _
    refine st46 _ ?_
    show Steps p.tables e below (T46.setTop (mkF m 103 #[.val (.int p1), .unset, .unset, .unset, .unset, .unset] [(.ref w45), (.int (14 : Int32)), (.ref b2), (.ref b2)])) _
    refine st47 _ ?_
    show Steps p.tables e below (T47.setTop (mkF m 104 #[.val (.int p1), .unset, .unset, .unset, .unset, .unset] [(.ref b2)])) _
    refine XS.astoreN X47.here hx rfl (hb hby at_104) rfl rfl (l' := #[.val (.int p1), .val (.ref b2), .unset, .unset, .unset, .unset]) rfl ?_
    show Steps p.tables e below (T47.setTop (mkF m 105 #[.val (.int p1), .val (.ref b2), .unset, .unset, .unset, .unset] [])) _
    refine XS.iloadN X47.here hx rfl (hb hby at_105) rfl ?_
    show Steps p.tables e below (T47.setTop (mkF m 106 #[.val (.int p1), .val (.ref b2), .unset, .unset, .unset, .unset] [(.int p1)])) _
    refine X47.ldcI hx hown (mvT hZ (hw _ (List.mem_of_getElem? (i := 34) rfl))) (g := (mkF m 106 #[.val (.int p1), .val (.ref b2), .unset, .unset, .unset, .unset] [(.int p1)])) rfl (hb hby at_106) ?_
    show Steps p.tables e below (T47.setTop (mkF m 108 #[.val (.int p1), .val (.ref b2), .unset, .unset, .unset, .unset] [(.int (2147483647 : Int32)), (.int p1)])) _
    refine XS.iand X47.here hx rfl (hb hby at_108) rfl ?_
    show Steps p.tables e below (T47.setTop (mkF m 109 #[.val (.int p1), .val (.ref b2), .unset, .unset, .unset, .unset] [(.int (p1 &&& (2147483647 : Int32)))])) _
    refine XS.bipush X47.here hx rfl (hb hby at_109) ?_
    show Steps p.tables e below (T47.setTop (mkF m 111 #[.val (.int p1), .val (.ref b2), .unset, .unset, .unset, .unset] [(.int (15 : Int32)), (.int (p1 &&& (2147483647 : Int32)))])) _
    refine iremM X47 hx (g := (mkF m 111 #[.val (.int p1), .val (.ref b2), .unset, .unset, .unset, .unset] [(.int (15 : Int32)), (.int (p1 &&& (2147483647 : Int32)))])) rfl (hb hby at_111) rfl (by decide) ?_
    show Steps p.tables e below (T47.setTop (mkF m 112 #[.val (.int p1), .val (.ref b2), .unset, .unset, .unset, .unset] [(.int (HMod.hMod (p1 &&& (2147483647 : Int32)) (15 : Int32)))])) _
    refine XS.istoreN X47.here hx rfl (hb hby at_112) rfl (l' := #[.val (.int p1), .val (.ref b2), .val (.int (HMod.hMod (p1 &&& (2147483647 : Int32)) (15 : Int32))), .unset, .unset, .unset]) rfl ?_
    show Steps p.tables e below (T47.setTop (mkF m 113 #[.val (.int p1), .val (.ref b2), .val (.int (HMod.hMod (p1 &&& (2147483647 : Int32)) (15 : Int32))), .unset, .unset, .unset] [])) _
    refine XS.aloadN X47.here hx rfl (hb hby at_113) rfl rfl ?_
    show Steps p.tables e below (T47.setTop (mkF m 114 #[.val (.int p1), .val (.ref b2), .val (.int (HMod.hMod (p1 &&& (2147483647 : Int32)) (15 : Int32))), .unset, .unset, .unset] [(.ref b2)])) _
    refine XS.iloadN X47.here hx rfl (hb hby at_114) rfl ?_
    show Steps p.tables e below (T47.setTop (mkF m 115 #[.val (.int p1), .val (.ref b2), .val (.int (HMod.hMod (p1 &&& (2147483647 : Int32)) (15 : Int32))), .unset, .unset, .unset] [(.int (HMod.hMod (p1 &&& (2147483647 : Int32)) (15 : Int32))), (.ref b2)])) _
    refine X47.aaload hx (j := (HMod.hMod (p1 &&& (2147483647 : Int32)) (15 : Int32))) (v := (.ref w48)) (by rw [e47]; exact Ar_b2.1) (State.isArrayOf_alike hZ.alike Ar_b2.2.1) rfl Ar_b2.2.2 hin115 hat115 (g := (mkF m 115 #[.val (.int p1), .val (.ref b2), .val (.int (HMod.hMod (p1 &&& (2147483647 : Int32)) (15 : Int32))), .unset, .unset, .unset] [(.int (HMod.hMod (p1 &&& (2147483647 : Int32)) (15 : Int32))), (.ref b2)])) rfl rfl (hb hby at_115) _ ?_
    show Steps p.tables e below (T47.setTop (mkF m 116 #[.val (.int p1), .val (.ref b2), .val (.int (HMod.hMod (p1 &&& (2147483647 : Int32)) (15 : Int32))), .unset, .unset, .unset] [(.ref w48)])) _
    refine XS.astoreN X47.here hx rfl (hb hby at_116) rfl rfl (l' := #[.val (.int p1), .val (.ref b2), .val (.int (HMod.hMod (p1 &&& (2147483647 : Int32)) (15 : Int32))), .val (.ref w48), .unset, .unset]) rfl ?_
    show Steps p.tables e below (T47.setTop (mkF m 117 #[.val (.int p1), .val (.ref b2), .val (.int (HMod.hMod (p1 &&& (2147483647 : Int32)) (15 : Int32))), .val (.ref w48), .unset, .unset] [])) _
    refine XS.iloadN X47.here hx rfl (hb hby at_117) rfl ?_
    show Steps p.tables e below (T47.setTop (mkF m 118 #[.val (.int p1), .val (.ref b2), .val (.int (HMod.hMod (p1 &&& (2147483647 : Int32)) (15 : Int32))), .val (.ref w48), .unset, .unset] [(.int (HMod.hMod (p1 &&& (2147483647 : Int32)) (15 : Int32)))])) _
    refine XS.bipush X47.here hx rfl (hb hby at_118) ?_
    show Steps p.tables e below (T47.setTop (mkF m 120 #[.val (.int p1), .val (.ref b2), .val (.int (HMod.hMod (p1 &&& (2147483647 : Int32)) (15 : Int32))), .val (.ref w48), .unset, .unset] [(.int (8 : Int32)), (.int (HMod.hMod (p1 &&& (2147483647 : Int32)) (15 : Int32)))])) _
    refine XS.icmpYes X47.here hx rfl (pc0 := 120) (pc' := 129) rfl (hb hby at_120) rfl (teq hc120).1 (by decide) (by decide) ?_
    show Steps p.tables e below (T47.setTop (mkF m 129 #[.val (.int p1), .val (.ref b2), .val (.int (HMod.hMod (p1 &&& (2147483647 : Int32)) (15 : Int32))), .val (.ref w48), .unset, .unset] [])) _
    refine XS.iconst X47.here hx rfl (hb hby at_129) ?_
    show Steps p.tables e below (T47.setTop (mkF m 130 #[.val (.int p1), .val (.ref b2), .val (.int (HMod.hMod (p1 &&& (2147483647 : Int32)) (15 : Int32))), .val (.ref w48), .unset, .unset] [(.int (1 : Int32))])) _
    refine XS.goto X47.here hx rfl (pc0 := 130) (pc' := 134) rfl (hb hby at_130) (by decide) (by decide) ?_
    show Steps p.tables e below (T47.setTop (mkF m 134 #[.val (.int p1), .val (.ref b2), .val (.int (HMod.hMod (p1 &&& (2147483647 : Int32)) (15 : Int32))), .val (.ref w48), .unset, .unset] [(.int (1 : Int32))])) _
    refine XS.istore X47.here hx rfl (hb hby at_134) rfl (l' := #[.val (.int p1), .val (.ref b2), .val (.int (HMod.hMod (p1 &&& (2147483647 : Int32)) (15 : Int32))), .val (.ref w48), .val (.int (1 : Int32)), .unset]) rfl ?_
    show Steps p.tables e below (T47.setTop (mkF m 136 #[.val (.int p1), .val (.ref b2), .val (.int (HMod.hMod (p1 &&& (2147483647 : Int32)) (15 : Int32))), .val (.ref w48), .val (.int (1 : Int32)), .unset] [])) _
    refine XS.aloadN X47.here hx rfl (hb hby at_136) rfl rfl ?_
    show Steps p.tables e below (T47.setTop (mkF m 137 #[.val (.int p1), .val (.ref b2), .val (.int (HMod.hMod (p1 &&& (2147483647 : Int32)) (15 : Int32))), .val (.ref w48), .val (.int (1 : Int32)), .unset] [(.ref w48)])) _
    refine st49.trans ?_
    show Steps p.tables e below (T49.setTop (mkF m 140 #[.val (.int p1), .val (.ref b2), .val (.int (HMod.hMod (p1 &&& (2147483647 : Int32)) (15 : Int32))), .val (.ref w48), .val (.int (1 : Int32)), .unset] [(.int (1 : Int32))])) _
    refine XS.istore X49.here hx rfl (hb hby at_140) rfl (l' := #[.val (.int p1), .val (.ref b2), .val (.int (HMod.hMod (p1 &&& (2147483647 : Int32)) (15 : Int32))), .val (.ref w48), .val (.int (1 : Int32)), .val (.int (1 : Int32))]) rfl ?_
    show Steps p.tables e below (T49.setTop (mkF m 142 #[.val (.int p1), .val (.ref b2), .val (.int (HMod.hMod (p1 &&& (2147483647 : Int32)) (15 : Int32))), .val (.ref w48), .val (.int (1 : Int32)), .val (.int (1 : Int32))] [])) _
    refine XS.iload X49.here hx rfl (hb hby at_142) rfl ?_
    show Steps p.tables e below (T49.setTop (mkF m 144 #[.val (.int p1), .val (.ref b2), .val (.int (HMod.hMod (p1 &&& (2147483647 : Int32)) (15 : Int32))), .val (.ref w48), .val (.int (1 : Int32)), .val (.int (1 : Int32))] [(.int (1 : Int32))])) _
    refine XS.iload X49.here hx rfl (hb hby at_144) rfl ?_
    show Steps p.tables e below (T49.setTop (mkF m 146 #[.val (.int p1), .val (.ref b2), .val (.int (HMod.hMod (p1 &&& (2147483647 : Int32)) (15 : Int32))), .val (.ref w48), .val (.int (1 : Int32)), .val (.int (1 : Int32))] [(.int (1 : Int32)), (.int (1 : Int32))])) _
    refine XS.icmpYes X49.here hx rfl (pc0 := 146) (pc' := 151) rfl (hb hby at_146) rfl (teq (by decide : (1 : Int32) = (1 : Int32))).1 (by decide) (by decide) ?_
    show Steps p.tables e below (T49.setTop (mkF m 151 #[.val (.int p1), .val (.ref b2), .val (.int (HMod.hMod (p1 &&& (2147483647 : Int32)) (15 : Int32))), .val (.ref w48), .val (.int (1 : Int32)), .val (.int (1 : Int32))] [])) _
    refine XS.iload X49.here hx rfl (hb hby at_151) rfl ?_
    show Steps p.tables e below (T49.setTop (mkF m 153 #[.val (.int p1), .val (.ref b2), .val (.int (HMod.hMod (p1 &&& (2147483647 : Int32)) (15 : Int32))), .val (.ref w48), .val (.int (1 : Int32)), .val (.int (1 : Int32))] [(.int (1 : Int32))])) _
    refine XS.ifNo X49.here hx rfl (hb hby at_153) rfl ((if0 _ _).trans (feq (by decide : ¬ ((1 : Int32) = (0 : Int32)))).1) ?_
    show Steps p.tables e below (T49.setTop (mkF m 156 #[.val (.int p1), .val (.ref b2), .val (.int (HMod.hMod (p1 &&& (2147483647 : Int32)) (15 : Int32))), .val (.ref w48), .val (.int (1 : Int32)), .val (.int (1 : Int32))] [])) _
    refine XS.aloadN X49.here hx rfl (hb hby at_156) rfl rfl ?_
    show Steps p.tables e below (T49.setTop (mkF m 157 #[.val (.int p1), .val (.ref b2), .val (.int (HMod.hMod (p1 &&& (2147483647 : Int32)) (15 : Int32))), .val (.ref w48), .val (.int (1 : Int32)), .val (.int (1 : Int32))] [(.ref w48)])) _
    refine st50.trans ?_
    show Steps p.tables e below (T50.setTop (mkF m 160 #[.val (.int p1), .val (.ref b2), .val (.int (HMod.hMod (p1 &&& (2147483647 : Int32)) (15 : Int32))), .val (.ref w48), .val (.int (1 : Int32)), .val (.int (1 : Int32))] [(.ref w51)])) _
    refine st52 _ ?_
    show Steps p.tables e below (T52.setTop (mkF m 163 #[.val (.int p1), .val (.ref b2), .val (.int (HMod.hMod (p1 &&& (2147483647 : Int32)) (15 : Int32))), .val (.ref w48), .val (.int (1 : Int32)), .val (.int (1 : Int32))] [(.ref w51), (.ref w51)])) _
    refine Jvm.RoadKit.acmp (g := (mkF m 163 #[.val (.int p1), .val (.ref b2), .val (.int (HMod.hMod (p1 &&& (2147483647 : Int32)) (15 : Int32))), .val (.ref w48), .val (.int (1 : Int32)), .val (.int (1 : Int32))] [(.ref w51), (.ref w51)])) X52 hx rfl rfl rfl (pc0 := 163) (pc' := 166) (same := true) rfl (hb hby at_163) rfl (decide_eq_true (congrArg Value.ref ha163)) (by decide) (by decide) ?_
    show Steps p.tables e below (T52.setTop (mkF m 166 #[.val (.int p1), .val (.ref b2), .val (.int (HMod.hMod (p1 &&& (2147483647 : Int32)) (15 : Int32))), .val (.ref w48), .val (.int (1 : Int32)), .val (.int (1 : Int32))] [])) _
    refine XS.aloadN X52.here hx rfl (hb hby at_166) rfl rfl ?_
    show Steps p.tables e below (T52.setTop (mkF m 167 #[.val (.int p1), .val (.ref b2), .val (.int (HMod.hMod (p1 &&& (2147483647 : Int32)) (15 : Int32))), .val (.ref w48), .val (.int (1 : Int32)), .val (.int (1 : Int32))] [(.ref w48)])) _
    refine st53.trans ?_
    show Steps p.tables e below (T53.setTop (mkF m 170 #[.val (.int p1), .val (.ref b2), .val (.int (HMod.hMod (p1 &&& (2147483647 : Int32)) (15 : Int32))), .val (.ref w48), .val (.int (1 : Int32)), .val (.int (1 : Int32))] [(.ref w51)])) _
    refine st54 _ ?_
    show Steps p.tables e below (T54.setTop (mkF m 173 #[.val (.int p1), .val (.ref b2), .val (.int (HMod.hMod (p1 &&& (2147483647 : Int32)) (15 : Int32))), .val (.ref w48), .val (.int (1 : Int32)), .val (.int (1 : Int32))] [(.ref w51), (.ref w51)])) _
    refine Jvm.RoadKit.acmp (g := (mkF m 173 #[.val (.int p1), .val (.ref b2), .val (.int (HMod.hMod (p1 &&& (2147483647 : Int32)) (15 : Int32))), .val (.ref w48), .val (.int (1 : Int32)), .val (.int (1 : Int32))] [(.ref w51), (.ref w51)])) X54 hx rfl rfl rfl (pc0 := 173) (pc' := 176) (same := true) rfl (hb hby at_173) rfl (decide_eq_true (congrArg Value.ref ha173)) (by decide) (by decide) ?_
    show Steps p.tables e below (T54.setTop (mkF m 176 #[.val (.int p1), .val (.ref b2), .val (.int (HMod.hMod (p1 &&& (2147483647 : Int32)) (15 : Int32))), .val (.ref w48), .val (.int (1 : Int32)), .val (.int (1 : Int32))] [])) _
    refine XS.iconst X54.here hx rfl (hb hby at_176) ?_
    show Steps p.tables e below (T54.setTop (mkF m 177 #[.val (.int p1), .val (.ref b2), .val (.int (HMod.hMod (p1 &&& (2147483647 : Int32)) (15 : Int32))), .val (.ref w48), .val (.int (1 : Int32)), .val (.int (1 : Int32))] [(.int (1 : Int32))])) _
    refine XS.goto X54.here hx rfl (pc0 := 177) (pc' := 181) rfl (hb hby at_177) (by decide) (by decide) ?_
    show Steps p.tables e below (T54.setTop (mkF m 181 #[.val (.int p1), .val (.ref b2), .val (.int (HMod.hMod (p1 &&& (2147483647 : Int32)) (15 : Int32))), .val (.ref w48), .val (.int (1 : Int32)), .val (.int (1 : Int32))] [(.int (1 : Int32))])) _
    exact retN X54 hx (t := .boolean) Bd.returns (by simp) (hb hby at_181) hr
  · show Q0y Z p1 w3 w6 w9 w12 w15 w18 w21 w24 w27 w30 w33 w36 w39 w42 w45 w48 w51 h0 n0 _ T54.heap _
    rw [e54]
    exact ⟨rfl, N53⟩
def Q0x (Z : State) (p1 : Int32) (w3 : Addr) (w6 : Addr) (w9 : Addr) (w12 : Addr) (w15 : Addr) (w18 : Addr) (w21 : Addr) (w24 : Addr) (w27 : Addr) (w30 : Addr) (w33 : Addr) (w36 : Addr) (w39 : Addr) (w42 : Addr) (w45 : Addr) (w48 : Addr) (w51 : Addr) (h0 : Heap) (n0 : Nat) (v : Option Value) (h : Heap) (L : List Loc) : Prop := v = some (.int (1 : Int32)) ∧ Fr n0 L
set_option maxRecDepth 65536 in
set_option maxHeartbeats 40000000 in
theorem rm0x (l : Launch) (Z : State) (a0 : Array Value) (hw : ∀ d ∈ tables_1, d.before a0 Z = true) (ws : List Jvm.Cond) (p1 : Int32) (w3 : Addr) (w6 : Addr) (w9 : Addr) (w12 : Addr) (w15 : Addr) (w18 : Addr) (w21 : Addr) (w24 : Addr) (w27 : Addr) (w30 : Addr) (w33 : Addr) (w36 : Addr) (w39 : Addr) (w42 : Addr) (w45 : Addr) (w48 : Addr) (w51 : Addr) (h0 : Heap) (n0 : Nat) (Z0 : n0 ≤ h0.size) (E_w3 : Exa Z h0 w3 "com/example/rev3/rev3/change/ElementKind") (E_w6 : Exa Z h0 w6 "com/example/rev3/rev3/change/ElementKind") (E_w9 : Exa Z h0 w9 "com/example/rev3/rev3/change/ElementKind") (E_w12 : Exa Z h0 w12 "com/example/rev3/rev3/change/ElementKind") (E_w15 : Exa Z h0 w15 "com/example/rev3/rev3/change/ElementKind") (E_w18 : Exa Z h0 w18 "com/example/rev3/rev3/change/ElementKind") (E_w21 : Exa Z h0 w21 "com/example/rev3/rev3/change/ElementKind") (E_w24 : Exa Z h0 w24 "com/example/rev3/rev3/change/ElementKind") (E_w27 : Exa Z h0 w27 "com/example/rev3/rev3/change/ElementKind") (E_w30 : Exa Z h0 w30 "com/example/rev3/rev3/change/ElementKind") (E_w33 : Exa Z h0 w33 "com/example/rev3/rev3/change/ElementKind") (E_w36 : Exa Z h0 w36 "com/example/rev3/rev3/change/ElementKind") (E_w39 : Exa Z h0 w39 "com/example/rev3/rev3/change/ElementKind") (E_w42 : Exa Z h0 w42 "com/example/rev3/rev3/change/ElementKind") (E_w45 : Exa Z h0 w45 "com/example/rev3/rev3/change/ElementKind") (hp0 : ¬ (HMod.hMod (p1 &&& (2147483647 : Int32)) (15 : Int32)) < 0) (hp5 : (HMod.hMod (p1 &&& (2147483647 : Int32)) (15 : Int32)) < 15) (hsel : ([.ref w3, .ref w6, .ref w9, .ref w12, .ref w15, .ref w18, .ref w21, .ref w24, .ref w27, .ref w30, .ref w33, .ref w36, .ref w39, .ref w42, .ref w45] : List Value).getD (HMod.hMod (p1 &&& (2147483647 : Int32)) (15 : Int32)).toNatClampNeg .null = .ref w48) (F__added : Fld Z h0 w48 "com/example/rev3/rev3/change/ElementKind" "_added" "Lcom/example/rev3/rev3/change/ChangeKind;" (.ref w51)) (F__removed : Fld Z h0 w48 "com/example/rev3/rev3/change/ElementKind" "_removed" "Lcom/example/rev3/rev3/change/ChangeKind;" (.ref w51)) (hk1 : ¬ (w48 = w27)) (hk2 : w48 = w30) (S_SCHEMA : Sta Z h0 "com/example/rev3/rev3/change/ElementKind" "SCHEMA" "Lcom/example/rev3/rev3/change/ElementKind;" (.ref w3)) (S_PROPERTY : Sta Z h0 "com/example/rev3/rev3/change/ElementKind" "PROPERTY" "Lcom/example/rev3/rev3/change/ElementKind;" (.ref w6)) (S_UNDECLARED_PROPERTY : Sta Z h0 "com/example/rev3/rev3/change/ElementKind" "UNDECLARED_PROPERTY" "Lcom/example/rev3/rev3/change/ElementKind;" (.ref w9)) (S_UNDECLARED_UNCLASSIFIED_PROPERTY : Sta Z h0 "com/example/rev3/rev3/change/ElementKind" "UNDECLARED_UNCLASSIFIED_PROPERTY" "Lcom/example/rev3/rev3/change/ElementKind;" (.ref w12)) (S_ITEMS : Sta Z h0 "com/example/rev3/rev3/change/ElementKind" "ITEMS" "Lcom/example/rev3/rev3/change/ElementKind;" (.ref w15)) (S_ADDITIONAL_PROPERTIES : Sta Z h0 "com/example/rev3/rev3/change/ElementKind" "ADDITIONAL_PROPERTIES" "Lcom/example/rev3/rev3/change/ElementKind;" (.ref w18)) (S_DEFINITION : Sta Z h0 "com/example/rev3/rev3/change/ElementKind" "DEFINITION" "Lcom/example/rev3/rev3/change/ElementKind;" (.ref w21)) (S_UNCLASSIFIED : Sta Z h0 "com/example/rev3/rev3/change/ElementKind" "UNCLASSIFIED" "Lcom/example/rev3/rev3/change/ElementKind;" (.ref w24)) (S_ALTERNATIVES : Sta Z h0 "com/example/rev3/rev3/change/ElementKind" "ALTERNATIVES" "Lcom/example/rev3/rev3/change/ElementKind;" (.ref w27)) (S_EXCLUSIVE_ALTERNATIVES : Sta Z h0 "com/example/rev3/rev3/change/ElementKind" "EXCLUSIVE_ALTERNATIVES" "Lcom/example/rev3/rev3/change/ElementKind;" (.ref w30)) (S_ATTRIBUTE : Sta Z h0 "com/example/rev3/rev3/change/ElementKind" "ATTRIBUTE" "Lcom/example/rev3/rev3/change/ElementKind;" (.ref w33)) (S_METRIC : Sta Z h0 "com/example/rev3/rev3/change/ElementKind" "METRIC" "Lcom/example/rev3/rev3/change/ElementKind;" (.ref w36)) (S_SPAN : Sta Z h0 "com/example/rev3/rev3/change/ElementKind" "SPAN" "Lcom/example/rev3/rev3/change/ElementKind;" (.ref w39)) (S_EVENT : Sta Z h0 "com/example/rev3/rev3/change/ElementKind" "EVENT" "Lcom/example/rev3/rev3/change/ElementKind;" (.ref w42)) (S_ENTITY : Sta Z h0 "com/example/rev3/rev3/change/ElementKind" "ENTITY" "Lcom/example/rev3/rev3/change/ElementKind;" (.ref w45)) (E_w48 : Exa Z h0 w48 "com/example/rev3/rev3/change/ElementKind") (S_UNCLASSIFIED_CHANGE : Sta Z h0 "com/example/rev3/rev3/change/ChangeKind" "UNCLASSIFIED_CHANGE" "Lcom/example/rev3/rev3/change/ChangeKind;" (.ref w51)) (hc120 : ¬ ((HMod.hMod (p1 &&& (2147483647 : Int32)) (15 : Int32)) = (8 : Int32))) (hc126 : (HMod.hMod (p1 &&& (2147483647 : Int32)) (15 : Int32)) = (9 : Int32)) (ha163 : w51 = w51) (ha173 : w51 = w51) :
    MetFree l x (head1 (Jvm.Cond.code x code maxLocals ret :: ws) room_1) (fun a U => a = #[(.int p1)] ∧ Z.Warmed39 U.vm ∧ U.heap = h0) (fun _ _ _ _ _ => True) (fun _ U o U' => ∃ v L, o = .returned v ∧ Q0x Z p1 w3 w6 w9 w12 w15 w18 w21 w24 w27 w30 w33 w36 w39 w42 w45 w48 w51 h0 n0 v U'.heap L ∧ FrameEnd U o U' L room_1.cells room_1.slots) := by
  refine MetFree.of_bodySF (plainFor_of_name pn_0) hisR ?_
  intro p e s m args below meth c s₁ Bd hml0 hP hK
  obtain ⟨rfl, hZ, hh⟩ := hP
  have hx := Bd.exec
  have hby := Bd.bytes
  have hml : c.maxLocals = 6 := hml0
  have hown : s.vm.findClass "com/example/rev3/rev3/change/ElementKindIsAlternativesPinLaw" = some m.cls := findClass_of_methodNamed Bd.named
  have hnm := (name_of_methodNamed Bd.named Bd.method).1
  have X0 : Stand p l e room_1 s m #[(.int p1)] below meth c s₁ [] 0 0 := Stand.of_body Bd
  have e0 : s₁.heap = h0 := by rw [← hh, Bd.state]; rfl
  have N0 := Fr.nil n0
  have pre0 : ∀ t, Steps p.tables e below (s₁.setTop (mkF m 0 #[.val (.int p1), .unset, .unset, .unset, .unset, .unset] [])) t → Steps p.tables e below (s₁.setTop (entryFrame m #[(.int p1)] maxLocals)) t := fun t k => castTop (ef_0 m p1) k
  obtain ⟨T2, h2, k2, X2, e2, E2, A2, O2, st2⟩ := newR X0 hx hZ hown (hw _ (List.mem_of_getElem? (i := 0) rfl)) (hw _ (List.mem_of_getElem? (i := 1) rfl)) e0 (g := (mkF m 2 #[.val (.int p1), .unset, .unset, .unset, .unset, .unset] [(.int (15 : Int32))])) rfl (hb hby at_2) rfl (by decide) (cap := 15) (by decide) (by decide) (by decide) (by decide)
  obtain ⟨b2, g2⟩ : ∃ z, z = h0.size := ⟨_, rfl⟩      -- the fresh array's address
  rw [← g2] at A2 st2
  have V_b2 : Arv Z h2 b2 k2 (.object "com/example/rev3/rev3/change/ElementKind") (15 : Int32) [.null, .null, .null, .null, .null, .null, .null, .null, .null, .null, .null, .null, .null, .null, .null] .null := (Arv.new A2 (by decide)).pad (pad_rep [] .null 15)
  have g_b2 : n0 ≤ b2 := Nat.le_trans Z0 (Nat.le_of_eq g2.symm)
  have sz_b2 : h0.size ≤ b2 := (Nat.le_trans (Keep.refl h0 []).1 (Nat.le_of_eq g2.symm))
  have K2 : Keep h0 h2 [] := (Keep.refl h0 []).ext E2
  obtain ⟨T4, X4, e4, st4⟩ := getS2 X2 hx hZ hown (host := "") (Or.inl (hw _ (List.mem_of_getElem? (i := 2) rfl))) Via.refl e2 (S_SCHEMA.ext (own_ext K2)) (g := (mkF m 7 #[.val (.int p1), .unset, .unset, .unset, .unset, .unset] [(.int (0 : Int32)), (.ref b2), (.ref b2)])) rfl (hb hby at_7)
  obtain ⟨cl_10, Ar_b2, q_b2, Sz_b2, N_b2, H_b2, G_b2⟩ := V_b2
  have hin10 : ¬ ((0 : Int32) < 0 ∨ cl_10.slots.size ≤ ((0 : Int32)).toNatClampNeg) := inb_of Sz_b2 ⟨by decide, by decide⟩
  have Sto10 := Sto.ofV Ar_b2 q_b2 O2 (Ins.self (E_w3.ext (own_ext K2)))
  obtain ⟨T5, h5, X5, e5, W5, st5⟩ := stR X4 hx hZ e4 Ar_b2 (j := (0 : Int32)) hin10 rfl Sto10 (g := (mkF m 10 #[.val (.int p1), .unset, .unset, .unset, .unset, .unset] [(.ref w3), (.int (0 : Int32)), (.ref b2), (.ref b2)])) rfl rfl (hb hby at_10)
  have N5 := Fr.snoc X5 N0 g_b2
  have K5 : Keep h0 h5 [] := K2.wr W5 (Or.inr sz_b2)
  have V_b2 := Arv.set Ar_b2 q_b2 Sz_b2 N_b2 H_b2 G_b2 rfl W5 0 rfl (Nat.le_of_ble_eq_true rfl)
  obtain ⟨T7, X7, e7, st7⟩ := getS2 X5 hx hZ hown (host := "") (Or.inl (hw _ (List.mem_of_getElem? (i := 6) rfl))) Via.refl e5 (S_PROPERTY.ext (own_ext K5)) (g := (mkF m 13 #[.val (.int p1), .unset, .unset, .unset, .unset, .unset] [(.int (1 : Int32)), (.ref b2), (.ref b2)])) rfl (hb hby at_13)
  obtain ⟨cl_16, Ar_b2, q_b2, Sz_b2, N_b2, H_b2, G_b2⟩ := V_b2
  have hin16 : ¬ ((1 : Int32) < 0 ∨ cl_16.slots.size ≤ ((1 : Int32)).toNatClampNeg) := inb_of Sz_b2 ⟨by decide, by decide⟩
  have Sto16 := Sto.ofV Ar_b2 q_b2 O2 (Ins.self (E_w6.ext (own_ext K5)))
  obtain ⟨T8, h8, X8, e8, W8, st8⟩ := stR X7 hx hZ e7 Ar_b2 (j := (1 : Int32)) hin16 rfl Sto16 (g := (mkF m 16 #[.val (.int p1), .unset, .unset, .unset, .unset, .unset] [(.ref w6), (.int (1 : Int32)), (.ref b2), (.ref b2)])) rfl rfl (hb hby at_16)
  have N8 := Fr.snoc X8 N5 g_b2
  have K8 : Keep h0 h8 [] := K5.wr W8 (Or.inr sz_b2)
  have V_b2 := Arv.set Ar_b2 q_b2 Sz_b2 N_b2 H_b2 G_b2 rfl W8 1 rfl (Nat.le_of_ble_eq_true rfl)
  obtain ⟨T10, X10, e10, st10⟩ := getS2 X8 hx hZ hown (host := "") (Or.inl (hw _ (List.mem_of_getElem? (i := 8) rfl))) Via.refl e8 (S_UNDECLARED_PROPERTY.ext (own_ext K8)) (g := (mkF m 19 #[.val (.int p1), .unset, .unset, .unset, .unset, .unset] [(.int (2 : Int32)), (.ref b2), (.ref b2)])) rfl (hb hby at_19)
  obtain ⟨cl_22, Ar_b2, q_b2, Sz_b2, N_b2, H_b2, G_b2⟩ := V_b2
  have hin22 : ¬ ((2 : Int32) < 0 ∨ cl_22.slots.size ≤ ((2 : Int32)).toNatClampNeg) := inb_of Sz_b2 ⟨by decide, by decide⟩
  have Sto22 := Sto.ofV Ar_b2 q_b2 O2 (Ins.self (E_w9.ext (own_ext K8)))
  obtain ⟨T11, h11, X11, e11, W11, st11⟩ := stR X10 hx hZ e10 Ar_b2 (j := (2 : Int32)) hin22 rfl Sto22 (g := (mkF m 22 #[.val (.int p1), .unset, .unset, .unset, .unset, .unset] [(.ref w9), (.int (2 : Int32)), (.ref b2), (.ref b2)])) rfl rfl (hb hby at_22)
  have N11 := Fr.snoc X11 N8 g_b2
  have K11 : Keep h0 h11 [] := K8.wr W11 (Or.inr sz_b2)
  have V_b2 := Arv.set Ar_b2 q_b2 Sz_b2 N_b2 H_b2 G_b2 rfl W11 2 rfl (Nat.le_of_ble_eq_true rfl)
  obtain ⟨T13, X13, e13, st13⟩ := getS2 X11 hx hZ hown (host := "") (Or.inl (hw _ (List.mem_of_getElem? (i := 10) rfl))) Via.refl e11 (S_UNDECLARED_UNCLASSIFIED_PROPERTY.ext (own_ext K11)) (g := (mkF m 25 #[.val (.int p1), .unset, .unset, .unset, .unset, .unset] [(.int (3 : Int32)), (.ref b2), (.ref b2)])) rfl (hb hby at_25)
  obtain ⟨cl_28, Ar_b2, q_b2, Sz_b2, N_b2, H_b2, G_b2⟩ := V_b2
  have hin28 : ¬ ((3 : Int32) < 0 ∨ cl_28.slots.size ≤ ((3 : Int32)).toNatClampNeg) := inb_of Sz_b2 ⟨by decide, by decide⟩
  have Sto28 := Sto.ofV Ar_b2 q_b2 O2 (Ins.self (E_w12.ext (own_ext K11)))
  obtain ⟨T14, h14, X14, e14, W14, st14⟩ := stR X13 hx hZ e13 Ar_b2 (j := (3 : Int32)) hin28 rfl Sto28 (g := (mkF m 28 #[.val (.int p1), .unset, .unset, .unset, .unset, .unset] [(.ref w12), (.int (3 : Int32)), (.ref b2), (.ref b2)])) rfl rfl (hb hby at_28)
  have N14 := Fr.snoc X14 N11 g_b2
  have K14 : Keep h0 h14 [] := K11.wr W14 (Or.inr sz_b2)
  have V_b2 := Arv.set Ar_b2 q_b2 Sz_b2 N_b2 H_b2 G_b2 rfl W14 3 rfl (Nat.le_of_ble_eq_true rfl)
  obtain ⟨T16, X16, e16, st16⟩ := getS2 X14 hx hZ hown (host := "") (Or.inl (hw _ (List.mem_of_getElem? (i := 12) rfl))) Via.refl e14 (S_ITEMS.ext (own_ext K14)) (g := (mkF m 31 #[.val (.int p1), .unset, .unset, .unset, .unset, .unset] [(.int (4 : Int32)), (.ref b2), (.ref b2)])) rfl (hb hby at_31)
  obtain ⟨cl_34, Ar_b2, q_b2, Sz_b2, N_b2, H_b2, G_b2⟩ := V_b2
  have hin34 : ¬ ((4 : Int32) < 0 ∨ cl_34.slots.size ≤ ((4 : Int32)).toNatClampNeg) := inb_of Sz_b2 ⟨by decide, by decide⟩
  have Sto34 := Sto.ofV Ar_b2 q_b2 O2 (Ins.self (E_w15.ext (own_ext K14)))
  obtain ⟨T17, h17, X17, e17, W17, st17⟩ := stR X16 hx hZ e16 Ar_b2 (j := (4 : Int32)) hin34 rfl Sto34 (g := (mkF m 34 #[.val (.int p1), .unset, .unset, .unset, .unset, .unset] [(.ref w15), (.int (4 : Int32)), (.ref b2), (.ref b2)])) rfl rfl (hb hby at_34)
  have N17 := Fr.snoc X17 N14 g_b2
  have K17 : Keep h0 h17 [] := K14.wr W17 (Or.inr sz_b2)
  have V_b2 := Arv.set Ar_b2 q_b2 Sz_b2 N_b2 H_b2 G_b2 rfl W17 4 rfl (Nat.le_of_ble_eq_true rfl)
  obtain ⟨T19, X19, e19, st19⟩ := getS2 X17 hx hZ hown (host := "") (Or.inl (hw _ (List.mem_of_getElem? (i := 14) rfl))) Via.refl e17 (S_ADDITIONAL_PROPERTIES.ext (own_ext K17)) (g := (mkF m 37 #[.val (.int p1), .unset, .unset, .unset, .unset, .unset] [(.int (5 : Int32)), (.ref b2), (.ref b2)])) rfl (hb hby at_37)
  obtain ⟨cl_40, Ar_b2, q_b2, Sz_b2, N_b2, H_b2, G_b2⟩ := V_b2
  have hin40 : ¬ ((5 : Int32) < 0 ∨ cl_40.slots.size ≤ ((5 : Int32)).toNatClampNeg) := inb_of Sz_b2 ⟨by decide, by decide⟩
  have Sto40 := Sto.ofV Ar_b2 q_b2 O2 (Ins.self (E_w18.ext (own_ext K17)))
  obtain ⟨T20, h20, X20, e20, W20, st20⟩ := stR X19 hx hZ e19 Ar_b2 (j := (5 : Int32)) hin40 rfl Sto40 (g := (mkF m 40 #[.val (.int p1), .unset, .unset, .unset, .unset, .unset] [(.ref w18), (.int (5 : Int32)), (.ref b2), (.ref b2)])) rfl rfl (hb hby at_40)
  have N20 := Fr.snoc X20 N17 g_b2
  have K20 : Keep h0 h20 [] := K17.wr W20 (Or.inr sz_b2)
  have V_b2 := Arv.set Ar_b2 q_b2 Sz_b2 N_b2 H_b2 G_b2 rfl W20 5 rfl (Nat.le_of_ble_eq_true rfl)
  obtain ⟨T22, X22, e22, st22⟩ := getS2 X20 hx hZ hown (host := "") (Or.inl (hw _ (List.mem_of_getElem? (i := 16) rfl))) Via.refl e20 (S_DEFINITION.ext (own_ext K20)) (g := (mkF m 44 #[.val (.int p1), .unset, .unset, .unset, .unset, .unset] [(.int (6 : Int32)), (.ref b2), (.ref b2)])) rfl (hb hby at_44)
  obtain ⟨cl_47, Ar_b2, q_b2, Sz_b2, N_b2, H_b2, G_b2⟩ := V_b2
  have hin47 : ¬ ((6 : Int32) < 0 ∨ cl_47.slots.size ≤ ((6 : Int32)).toNatClampNeg) := inb_of Sz_b2 ⟨by decide, by decide⟩
  have Sto47 := Sto.ofV Ar_b2 q_b2 O2 (Ins.self (E_w21.ext (own_ext K20)))
  obtain ⟨T23, h23, X23, e23, W23, st23⟩ := stR X22 hx hZ e22 Ar_b2 (j := (6 : Int32)) hin47 rfl Sto47 (g := (mkF m 47 #[.val (.int p1), .unset, .unset, .unset, .unset, .unset] [(.ref w21), (.int (6 : Int32)), (.ref b2), (.ref b2)])) rfl rfl (hb hby at_47)
  have N23 := Fr.snoc X23 N20 g_b2
  have K23 : Keep h0 h23 [] := K20.wr W23 (Or.inr sz_b2)
  have V_b2 := Arv.set Ar_b2 q_b2 Sz_b2 N_b2 H_b2 G_b2 rfl W23 6 rfl (Nat.le_of_ble_eq_true rfl)
  obtain ⟨T25, X25, e25, st25⟩ := getS2 X23 hx hZ hown (host := "") (Or.inl (hw _ (List.mem_of_getElem? (i := 18) rfl))) Via.refl e23 (S_UNCLASSIFIED.ext (own_ext K23)) (g := (mkF m 51 #[.val (.int p1), .unset, .unset, .unset, .unset, .unset] [(.int (7 : Int32)), (.ref b2), (.ref b2)])) rfl (hb hby at_51)
  obtain ⟨cl_54, Ar_b2, q_b2, Sz_b2, N_b2, H_b2, G_b2⟩ := V_b2
  have hin54 : ¬ ((7 : Int32) < 0 ∨ cl_54.slots.size ≤ ((7 : Int32)).toNatClampNeg) := inb_of Sz_b2 ⟨by decide, by decide⟩
  have Sto54 := Sto.ofV Ar_b2 q_b2 O2 (Ins.self (E_w24.ext (own_ext K23)))
  obtain ⟨T26, h26, X26, e26, W26, st26⟩ := stR X25 hx hZ e25 Ar_b2 (j := (7 : Int32)) hin54 rfl Sto54 (g := (mkF m 54 #[.val (.int p1), .unset, .unset, .unset, .unset, .unset] [(.ref w24), (.int (7 : Int32)), (.ref b2), (.ref b2)])) rfl rfl (hb hby at_54)
  have N26 := Fr.snoc X26 N23 g_b2
  have K26 : Keep h0 h26 [] := K23.wr W26 (Or.inr sz_b2)
  have V_b2 := Arv.set Ar_b2 q_b2 Sz_b2 N_b2 H_b2 G_b2 rfl W26 7 rfl (Nat.le_of_ble_eq_true rfl)
  obtain ⟨T28, X28, e28, st28⟩ := getS2 X26 hx hZ hown (host := "") (Or.inl (hw _ (List.mem_of_getElem? (i := 20) rfl))) Via.refl e26 (S_ALTERNATIVES.ext (own_ext K26)) (g := (mkF m 58 #[.val (.int p1), .unset, .unset, .unset, .unset, .unset] [(.int (8 : Int32)), (.ref b2), (.ref b2)])) rfl (hb hby at_58)
  obtain ⟨cl_61, Ar_b2, q_b2, Sz_b2, N_b2, H_b2, G_b2⟩ := V_b2
  have hin61 : ¬ ((8 : Int32) < 0 ∨ cl_61.slots.size ≤ ((8 : Int32)).toNatClampNeg) := inb_of Sz_b2 ⟨by decide, by decide⟩
  have Sto61 := Sto.ofV Ar_b2 q_b2 O2 (Ins.self (E_w27.ext (own_ext K26)))
  obtain ⟨T29, h29, X29, e29, W29, st29⟩ := stR X28 hx hZ e28 Ar_b2 (j := (8 : Int32)) hin61 rfl Sto61 (g := (mkF m 61 #[.val (.int p1), .unset, .unset, .unset, .unset, .unset] [(.ref w27), (.int (8 : Int32)), (.ref b2), (.ref b2)])) rfl rfl (hb hby at_61)
  have N29 := Fr.snoc X29 N26 g_b2
  have K29 : Keep h0 h29 [] := K26.wr W29 (Or.inr sz_b2)
  have V_b2 := Arv.set Ar_b2 q_b2 Sz_b2 N_b2 H_b2 G_b2 rfl W29 8 rfl (Nat.le_of_ble_eq_true rfl)
  obtain ⟨T31, X31, e31, st31⟩ := getS2 X29 hx hZ hown (host := "") (Or.inl (hw _ (List.mem_of_getElem? (i := 22) rfl))) Via.refl e29 (S_EXCLUSIVE_ALTERNATIVES.ext (own_ext K29)) (g := (mkF m 65 #[.val (.int p1), .unset, .unset, .unset, .unset, .unset] [(.int (9 : Int32)), (.ref b2), (.ref b2)])) rfl (hb hby at_65)
  obtain ⟨cl_68, Ar_b2, q_b2, Sz_b2, N_b2, H_b2, G_b2⟩ := V_b2
  have hin68 : ¬ ((9 : Int32) < 0 ∨ cl_68.slots.size ≤ ((9 : Int32)).toNatClampNeg) := inb_of Sz_b2 ⟨by decide, by decide⟩
  have Sto68 := Sto.ofV Ar_b2 q_b2 O2 (Ins.self (E_w30.ext (own_ext K29)))
  obtain ⟨T32, h32, X32, e32, W32, st32⟩ := stR X31 hx hZ e31 Ar_b2 (j := (9 : Int32)) hin68 rfl Sto68 (g := (mkF m 68 #[.val (.int p1), .unset, .unset, .unset, .unset, .unset] [(.ref w30), (.int (9 : Int32)), (.ref b2), (.ref b2)])) rfl rfl (hb hby at_68)
  have N32 := Fr.snoc X32 N29 g_b2
  have K32 : Keep h0 h32 [] := K29.wr W32 (Or.inr sz_b2)
  have V_b2 := Arv.set Ar_b2 q_b2 Sz_b2 N_b2 H_b2 G_b2 rfl W32 9 rfl (Nat.le_of_ble_eq_true rfl)
  obtain ⟨T34, X34, e34, st34⟩ := getS2 X32 hx hZ hown (host := "") (Or.inl (hw _ (List.mem_of_getElem? (i := 24) rfl))) Via.refl e32 (S_ATTRIBUTE.ext (own_ext K32)) (g := (mkF m 72 #[.val (.int p1), .unset, .unset, .unset, .unset, .unset] [(.int (10 : Int32)), (.ref b2), (.ref b2)])) rfl (hb hby at_72)
  obtain ⟨cl_75, Ar_b2, q_b2, Sz_b2, N_b2, H_b2, G_b2⟩ := V_b2
  have hin75 : ¬ ((10 : Int32) < 0 ∨ cl_75.slots.size ≤ ((10 : Int32)).toNatClampNeg) := inb_of Sz_b2 ⟨by decide, by decide⟩
  have Sto75 := Sto.ofV Ar_b2 q_b2 O2 (Ins.self (E_w33.ext (own_ext K32)))
  obtain ⟨T35, h35, X35, e35, W35, st35⟩ := stR X34 hx hZ e34 Ar_b2 (j := (10 : Int32)) hin75 rfl Sto75 (g := (mkF m 75 #[.val (.int p1), .unset, .unset, .unset, .unset, .unset] [(.ref w33), (.int (10 : Int32)), (.ref b2), (.ref b2)])) rfl rfl (hb hby at_75)
  have N35 := Fr.snoc X35 N32 g_b2
  have K35 : Keep h0 h35 [] := K32.wr W35 (Or.inr sz_b2)
  have V_b2 := Arv.set Ar_b2 q_b2 Sz_b2 N_b2 H_b2 G_b2 rfl W35 10 rfl (Nat.le_of_ble_eq_true rfl)
  obtain ⟨T37, X37, e37, st37⟩ := getS2 X35 hx hZ hown (host := "") (Or.inl (hw _ (List.mem_of_getElem? (i := 26) rfl))) Via.refl e35 (S_METRIC.ext (own_ext K35)) (g := (mkF m 79 #[.val (.int p1), .unset, .unset, .unset, .unset, .unset] [(.int (11 : Int32)), (.ref b2), (.ref b2)])) rfl (hb hby at_79)
  obtain ⟨cl_82, Ar_b2, q_b2, Sz_b2, N_b2, H_b2, G_b2⟩ := V_b2
  have hin82 : ¬ ((11 : Int32) < 0 ∨ cl_82.slots.size ≤ ((11 : Int32)).toNatClampNeg) := inb_of Sz_b2 ⟨by decide, by decide⟩
  have Sto82 := Sto.ofV Ar_b2 q_b2 O2 (Ins.self (E_w36.ext (own_ext K35)))
  obtain ⟨T38, h38, X38, e38, W38, st38⟩ := stR X37 hx hZ e37 Ar_b2 (j := (11 : Int32)) hin82 rfl Sto82 (g := (mkF m 82 #[.val (.int p1), .unset, .unset, .unset, .unset, .unset] [(.ref w36), (.int (11 : Int32)), (.ref b2), (.ref b2)])) rfl rfl (hb hby at_82)
  have N38 := Fr.snoc X38 N35 g_b2
  have K38 : Keep h0 h38 [] := K35.wr W38 (Or.inr sz_b2)
  have V_b2 := Arv.set Ar_b2 q_b2 Sz_b2 N_b2 H_b2 G_b2 rfl W38 11 rfl (Nat.le_of_ble_eq_true rfl)
  obtain ⟨T40, X40, e40, st40⟩ := getS2 X38 hx hZ hown (host := "") (Or.inl (hw _ (List.mem_of_getElem? (i := 28) rfl))) Via.refl e38 (S_SPAN.ext (own_ext K38)) (g := (mkF m 86 #[.val (.int p1), .unset, .unset, .unset, .unset, .unset] [(.int (12 : Int32)), (.ref b2), (.ref b2)])) rfl (hb hby at_86)
  obtain ⟨cl_89, Ar_b2, q_b2, Sz_b2, N_b2, H_b2, G_b2⟩ := V_b2
  have hin89 : ¬ ((12 : Int32) < 0 ∨ cl_89.slots.size ≤ ((12 : Int32)).toNatClampNeg) := inb_of Sz_b2 ⟨by decide, by decide⟩
  have Sto89 := Sto.ofV Ar_b2 q_b2 O2 (Ins.self (E_w39.ext (own_ext K38)))
  obtain ⟨T41, h41, X41, e41, W41, st41⟩ := stR X40 hx hZ e40 Ar_b2 (j := (12 : Int32)) hin89 rfl Sto89 (g := (mkF m 89 #[.val (.int p1), .unset, .unset, .unset, .unset, .unset] [(.ref w39), (.int (12 : Int32)), (.ref b2), (.ref b2)])) rfl rfl (hb hby at_89)
  have N41 := Fr.snoc X41 N38 g_b2
  have K41 : Keep h0 h41 [] := K38.wr W41 (Or.inr sz_b2)
  have V_b2 := Arv.set Ar_b2 q_b2 Sz_b2 N_b2 H_b2 G_b2 rfl W41 12 rfl (Nat.le_of_ble_eq_true rfl)
  obtain ⟨T43, X43, e43, st43⟩ := getS2 X41 hx hZ hown (host := "") (Or.inl (hw _ (List.mem_of_getElem? (i := 30) rfl))) Via.refl e41 (S_EVENT.ext (own_ext K41)) (g := (mkF m 93 #[.val (.int p1), .unset, .unset, .unset, .unset, .unset] [(.int (13 : Int32)), (.ref b2), (.ref b2)])) rfl (hb hby at_93)
  obtain ⟨cl_96, Ar_b2, q_b2, Sz_b2, N_b2, H_b2, G_b2⟩ := V_b2
  have hin96 : ¬ ((13 : Int32) < 0 ∨ cl_96.slots.size ≤ ((13 : Int32)).toNatClampNeg) := inb_of Sz_b2 ⟨by decide, by decide⟩
  have Sto96 := Sto.ofV Ar_b2 q_b2 O2 (Ins.self (E_w42.ext (own_ext K41)))
  obtain ⟨T44, h44, X44, e44, W44, st44⟩ := stR X43 hx hZ e43 Ar_b2 (j := (13 : Int32)) hin96 rfl Sto96 (g := (mkF m 96 #[.val (.int p1), .unset, .unset, .unset, .unset, .unset] [(.ref w42), (.int (13 : Int32)), (.ref b2), (.ref b2)])) rfl rfl (hb hby at_96)
  have N44 := Fr.snoc X44 N41 g_b2
  have K44 : Keep h0 h44 [] := K41.wr W44 (Or.inr sz_b2)
  have V_b2 := Arv.set Ar_b2 q_b2 Sz_b2 N_b2 H_b2 G_b2 rfl W44 13 rfl (Nat.le_of_ble_eq_true rfl)
  obtain ⟨T46, X46, e46, st46⟩ := getS2 X44 hx hZ hown (host := "") (Or.inl (hw _ (List.mem_of_getElem? (i := 32) rfl))) Via.refl e44 (S_ENTITY.ext (own_ext K44)) (g := (mkF m 100 #[.val (.int p1), .unset, .unset, .unset, .unset, .unset] [(.int (14 : Int32)), (.ref b2), (.ref b2)])) rfl (hb hby at_100)
  obtain ⟨cl_103, Ar_b2, q_b2, Sz_b2, N_b2, H_b2, G_b2⟩ := V_b2
  have hin103 : ¬ ((14 : Int32) < 0 ∨ cl_103.slots.size ≤ ((14 : Int32)).toNatClampNeg) := inb_of Sz_b2 ⟨by decide, by decide⟩
  have Sto103 := Sto.ofV Ar_b2 q_b2 O2 (Ins.self (E_w45.ext (own_ext K44)))
  obtain ⟨T47, h47, X47, e47, W47, st47⟩ := stR X46 hx hZ e46 Ar_b2 (j := (14 : Int32)) hin103 rfl Sto103 (g := (mkF m 103 #[.val (.int p1), .unset, .unset, .unset, .unset, .unset] [(.ref w45), (.int (14 : Int32)), (.ref b2), (.ref b2)])) rfl rfl (hb hby at_103)
  have N47 := Fr.snoc X47 N44 g_b2
  have K47 : Keep h0 h47 [] := K44.wr W47 (Or.inr sz_b2)
  have V_b2 := Arv.set Ar_b2 q_b2 Sz_b2 N_b2 H_b2 G_b2 rfl W47 14 rfl (Nat.le_of_ble_eq_true rfl)
  have Z47 : n0 ≤ h47.size := Nat.le_trans Z0 K47.1
  obtain ⟨cl_115, Ar_b2, q_b2, Sz_b2, N_b2, H_b2, G_b2⟩ := V_b2
  have hin115 : ¬ ((HMod.hMod (p1 &&& (2147483647 : Int32)) (15 : Int32)) < 0 ∨ cl_115.slots.size ≤ (HMod.hMod (p1 &&& (2147483647 : Int32)) (15 : Int32)).toNatClampNeg) := inb_of Sz_b2 ⟨hp0, hp5⟩
  have hat115 := Has.at H_b2 hin115 hsel
  obtain ⟨cq49, kq49, q49a, q49b, q49c⟩ := isOf hZ e47 (E_w48.ext (own_ext K47))
  obtain ⟨_, _, ⟨T49, L49, k49, n49⟩, -, X49, ⟨Lc49, hQ49, l49, y49, z49⟩, st49⟩ := X47.virtualBack hx (y := (⟨"com/example/rev3/rev3/change/ElementKind", "isAlternatives", "()Z"⟩ : MethodName)) (z := (⟨"com/example/rev3/rev3/change/ElementKind", "isAlternatives", "()Z"⟩ : MethodName)) hown (mvT hZ (hw _ (List.mem_of_getElem? (i := 35) rfl))) (mvT hZ (hw _ (List.mem_of_getElem? (i := 36) rfl))) (notFace_of_selects (args := #[]) (mvT hZ (hw _ (List.mem_of_getElem? (i := 38) rfl)))) (mvT hZ (hw _ (List.mem_of_getElem? (i := 38) rfl))) (mvT hZ (hw _ (List.mem_of_getElem? (i := 37) rfl))) (by decide) (backOf (W := 0) (rm1x l Z a0 hw [] w48 w27 w30 h47 n0 Z47 (S_ALTERNATIVES.ext (own_ext K47)) (S_EXCLUSIVE_ALTERNATIVES.ext (own_ext K47)) hk1 hk2) hZ (hw _ (List.mem_of_getElem? (i := 39) rfl)) (hw _ (List.mem_of_getElem? (i := 3) rfl)) (by decide) (by decide)) q49a q49c (g := (mkF m 137 #[.val (.int p1), .val (.ref b2), .val (.int (HMod.hMod (p1 &&& (2147483647 : Int32)) (15 : Int32))), .val (.ref w48), .val (.int (1 : Int32)), .unset] [(.ref w48)])) rfl (by rw [hml]; rfl) (Steps.refl _) (argsL := []) (rest := []) (lenOf pd_0_0 rfl) rfl (by show 2 * 0 + _ ≤ _; exact Nat.le_of_eq rfl) (hb hby at_137) (fun _ _ => ⟨rfl, e47, (Nat.le_of_ble_eq_true rfl), (Nat.le_of_ble_eq_true rfl)⟩)
  dsimp only [Pt.U, Pt.locs, Pt.cells, Pt.slots] at X49 l49 y49 z49 st49 hQ49
  subst l49 y49 z49
  obtain ⟨rfl, N49q, eq49⟩ := hQ49
  have N49 := Fr.app N47 N49q
  obtain ⟨cq50, kq50, q50a, q50b, q50c⟩ := isOf hZ eq49 (E_w48.ext (own_ext K47))
  obtain ⟨_, _, ⟨T50, L50, k50, n50⟩, -, X50, ⟨Lc50, hQ50, l50, y50, z50⟩, st50⟩ := X49.virtualBack hx (y := (⟨"com/example/rev3/rev3/change/ElementKind", "getAdded", "()Lcom/example/rev3/rev3/change/ChangeKind;"⟩ : MethodName)) (z := (⟨"com/example/rev3/rev3/change/ElementKind", "getAdded", "()Lcom/example/rev3/rev3/change/ChangeKind;"⟩ : MethodName)) hown (mvT hZ (hw _ (List.mem_of_getElem? (i := 42) rfl))) (mvT hZ (hw _ (List.mem_of_getElem? (i := 43) rfl))) (notFace_of_selects (args := #[]) (mvT hZ (hw _ (List.mem_of_getElem? (i := 45) rfl)))) (mvT hZ (hw _ (List.mem_of_getElem? (i := 45) rfl))) (mvT hZ (hw _ (List.mem_of_getElem? (i := 44) rfl))) (by decide) (backOf (W := 0) (rm2 l Z a0 hw [] w48 w51 h47 n0 Z47 (F__added.ext (own_ext K47))) hZ (hw _ (List.mem_of_getElem? (i := 46) rfl)) (hw _ (List.mem_of_getElem? (i := 3) rfl)) (by decide) (by decide)) q50a q50c (g := (mkF m 157 #[.val (.int p1), .val (.ref b2), .val (.int (HMod.hMod (p1 &&& (2147483647 : Int32)) (15 : Int32))), .val (.ref w48), .val (.int (1 : Int32)), .val (.int (1 : Int32))] [(.ref w48)])) rfl (by rw [hml]; rfl) (Steps.refl _) (argsL := []) (rest := []) (lenOf pd_0_1 rfl) rfl (by show 2 * 0 + _ ≤ _; exact Nat.le_of_eq rfl) (hb hby at_157) (fun _ _ => ⟨rfl, eq49, (Nat.le_of_ble_eq_true rfl), (Nat.le_of_ble_eq_true rfl)⟩)
  dsimp only [Pt.U, Pt.locs, Pt.cells, Pt.slots] at X50 l50 y50 z50 st50 hQ50
  subst l50 y50 z50
  obtain ⟨rfl, N50q, eq50⟩ := hQ50
  have N50 := Fr.app N49 N50q
  obtain ⟨T52, X52, e52, st52⟩ := getS2 X50 hx hZ hown (host := "") (Or.inl (hw _ (List.mem_of_getElem? (i := 51) rfl))) Via.refl eq50 (S_UNCLASSIFIED_CHANGE.ext (own_ext K47)) (g := (mkF m 160 #[.val (.int p1), .val (.ref b2), .val (.int (HMod.hMod (p1 &&& (2147483647 : Int32)) (15 : Int32))), .val (.ref w48), .val (.int (1 : Int32)), .val (.int (1 : Int32))] [(.ref w51)])) rfl (hb hby at_160)
  obtain ⟨cq53, kq53, q53a, q53b, q53c⟩ := isOf hZ e52 (E_w48.ext (own_ext K47))
  obtain ⟨_, _, ⟨T53, L53, k53, n53⟩, -, X53, ⟨Lc53, hQ53, l53, y53, z53⟩, st53⟩ := X52.virtualBack hx (y := (⟨"com/example/rev3/rev3/change/ElementKind", "getRemoved", "()Lcom/example/rev3/rev3/change/ChangeKind;"⟩ : MethodName)) (z := (⟨"com/example/rev3/rev3/change/ElementKind", "getRemoved", "()Lcom/example/rev3/rev3/change/ChangeKind;"⟩ : MethodName)) hown (mvT hZ (hw _ (List.mem_of_getElem? (i := 52) rfl))) (mvT hZ (hw _ (List.mem_of_getElem? (i := 53) rfl))) (notFace_of_selects (args := #[]) (mvT hZ (hw _ (List.mem_of_getElem? (i := 55) rfl)))) (mvT hZ (hw _ (List.mem_of_getElem? (i := 55) rfl))) (mvT hZ (hw _ (List.mem_of_getElem? (i := 54) rfl))) (by decide) (backOf (W := 0) (rm3 l Z a0 hw [] w48 w51 h47 n0 Z47 (F__removed.ext (own_ext K47))) hZ (hw _ (List.mem_of_getElem? (i := 56) rfl)) (hw _ (List.mem_of_getElem? (i := 3) rfl)) (by decide) (by decide)) q53a q53c (g := (mkF m 167 #[.val (.int p1), .val (.ref b2), .val (.int (HMod.hMod (p1 &&& (2147483647 : Int32)) (15 : Int32))), .val (.ref w48), .val (.int (1 : Int32)), .val (.int (1 : Int32))] [(.ref w48)])) rfl (by rw [hml]; rfl) (Steps.refl _) (argsL := []) (rest := []) (lenOf pd_0_1 rfl) rfl (by show 2 * 0 + _ ≤ _; exact Nat.le_of_eq rfl) (hb hby at_167) (fun _ _ => ⟨rfl, e52, (Nat.le_of_ble_eq_true rfl), (Nat.le_of_ble_eq_true rfl)⟩)
  dsimp only [Pt.U, Pt.locs, Pt.cells, Pt.slots] at X53 l53 y53 z53 st53 hQ53
  subst l53 y53 z53
  obtain ⟨rfl, N53q, eq53⟩ := hQ53
  have N53 := Fr.app N50 N53q
  obtain ⟨T54, X54, e54, st54⟩ := getS2 X53 hx hZ hown (host := "") (Or.inl (hw _ (List.mem_of_getElem? (i := 51) rfl))) Via.refl eq53 (S_UNCLASSIFIED_CHANGE.ext (own_ext K47)) (g := (mkF m 170 #[.val (.int p1), .val (.ref b2), .val (.int (HMod.hMod (p1 &&& (2147483647 : Int32)) (15 : Int32))), .val (.ref w48), .val (.int (1 : Int32)), .val (.int (1 : Int32))] [(.ref w51)])) rfl (hb hby at_170)
  obtain ⟨fs, hr, hrun, hended, hW, hsame⟩ := X54.leave (v := some (.int (1 : Int32))) (fun h => by rw [Bd.returns] at h; cases h)
  refine ⟨_, _, pre0 _ ?_, hrun, hended, _, _, rfl, ?_, ⟨_, rfl⟩, hW, hsame.mono (by decide) (by decide)⟩
  · show Steps p.tables e below (s₁.setTop (mkF m 0 #[.val (.int p1), .unset, .unset, .unset, .unset, .unset] [])) _
    refine XS.bipush X0.here hx rfl (hb hby at_0) ?_
    show Steps p.tables e below (s₁.setTop (mkF m 2 #[.val (.int p1), .unset, .unset, .unset, .unset, .unset] [(.int (15 : Int32))])) _
    refine st2 _ ?_
    show Steps p.tables e below (T2.setTop (mkF m 5 #[.val (.int p1), .unset, .unset, .unset, .unset, .unset] [(.ref b2)])) _
    refine XS.dup X2.here hx rfl (hb hby at_5) rfl rfl ?_
    show Steps p.tables e below (T2.setTop (mkF m 6 #[.val (.int p1), .unset, .unset, .unset, .unset, .unset] [(.ref b2), (.ref b2)])) _
    refine XS.iconst X2.here hx rfl (hb hby at_6) ?_
    show Steps p.tables e below (T2.setTop (mkF m 7 #[.val (.int p1), .unset, .unset, .unset, .unset, .unset] [(.int (0 : Int32)), (.ref b2), (.ref b2)])) _
    refine st4 _ ?_
    show Steps p.tables e below (T4.setTop (mkF m 10 #[.val (.int p1), .unset, .unset, .unset, .unset, .unset] [(.ref w3), (.int (0 : Int32)), (.ref b2), (.ref b2)])) _
    refine st5 _ ?_
    show Steps p.tables e below (T5.setTop (mkF m 11 #[.val (.int p1), .unset, .unset, .unset, .unset, .unset] [(.ref b2)])) _
    refine XS.dup X5.here hx rfl (hb hby at_11) rfl rfl ?_
    show Steps p.tables e below (T5.setTop (mkF m 12 #[.val (.int p1), .unset, .unset, .unset, .unset, .unset] [(.ref b2), (.ref b2)])) _
    refine XS.iconst X5.here hx rfl (hb hby at_12) ?_
    show Steps p.tables e below (T5.setTop (mkF m 13 #[.val (.int p1), .unset, .unset, .unset, .unset, .unset] [(.int (1 : Int32)), (.ref b2), (.ref b2)])) _
    refine st7 _ ?_
    show Steps p.tables e below (T7.setTop (mkF m 16 #[.val (.int p1), .unset, .unset, .unset, .unset, .unset] [(.ref w6), (.int (1 : Int32)), (.ref b2), (.ref b2)])) _
    refine st8 _ ?_
    show Steps p.tables e below (T8.setTop (mkF m 17 #[.val (.int p1), .unset, .unset, .unset, .unset, .unset] [(.ref b2)])) _
    refine XS.dup X8.here hx rfl (hb hby at_17) rfl rfl ?_
    show Steps p.tables e below (T8.setTop (mkF m 18 #[.val (.int p1), .unset, .unset, .unset, .unset, .unset] [(.ref b2), (.ref b2)])) _
    refine XS.iconst X8.here hx rfl (hb hby at_18) ?_
    show Steps p.tables e below (T8.setTop (mkF m 19 #[.val (.int p1), .unset, .unset, .unset, .unset, .unset] [(.int (2 : Int32)), (.ref b2), (.ref b2)])) _
    refine st10 _ ?_
    show Steps p.tables e below (T10.setTop (mkF m 22 #[.val (.int p1), .unset, .unset, .unset, .unset, .unset] [(.ref w9), (.int (2 : Int32)), (.ref b2), (.ref b2)])) _
    refine st11 _ ?_
    show Steps p.tables e below (T11.setTop (mkF m 23 #[.val (.int p1), .unset, .unset, .unset, .unset, .unset] [(.ref b2)])) _
    refine XS.dup X11.here hx rfl (hb hby at_23) rfl rfl ?_
    show Steps p.tables e below (T11.setTop (mkF m 24 #[.val (.int p1), .unset, .unset, .unset, .unset, .unset] [(.ref b2), (.ref b2)])) _
    refine XS.iconst X11.here hx rfl (hb hby at_24) ?_
    show Steps p.tables e below (T11.setTop (mkF m 25 #[.val (.int p1), .unset, .unset, .unset, .unset, .unset] [(.int (3 : Int32)), (.ref b2), (.ref b2)])) _
    refine st13 _ ?_
    show Steps p.tables e below (T13.setTop (mkF m 28 #[.val (.int p1), .unset, .unset, .unset, .unset, .unset] [(.ref w12), (.int (3 : Int32)), (.ref b2), (.ref b2)])) _
    refine st14 _ ?_
    show Steps p.tables e below (T14.setTop (mkF m 29 #[.val (.int p1), .unset, .unset, .unset, .unset, .unset] [(.ref b2)])) _
    refine XS.dup X14.here hx rfl (hb hby at_29) rfl rfl ?_
    show Steps p.tables e below (T14.setTop (mkF m 30 #[.val (.int p1), .unset, .unset, .unset, .unset, .unset] [(.ref b2), (.ref b2)])) _
    refine XS.iconst X14.here hx rfl (hb hby at_30) ?_
    show Steps p.tables e below (T14.setTop (mkF m 31 #[.val (.int p1), .unset, .unset, .unset, .unset, .unset] [(.int (4 : Int32)), (.ref b2), (.ref b2)])) _
    refine st16 _ ?_
    show Steps p.tables e below (T16.setTop (mkF m 34 #[.val (.int p1), .unset, .unset, .unset, .unset, .unset] [(.ref w15), (.int (4 : Int32)), (.ref b2), (.ref b2)])) _
    refine st17 _ ?_
    show Steps p.tables e below (T17.setTop (mkF m 35 #[.val (.int p1), .unset, .unset, .unset, .unset, .unset] [(.ref b2)])) _
    refine XS.dup X17.here hx rfl (hb hby at_35) rfl rfl ?_
    show Steps p.tables e below (T17.setTop (mkF m 36 #[.val (.int p1), .unset, .unset, .unset, .unset, .unset] [(.ref b2), (.ref b2)])) _
    refine XS.iconst X17.here hx rfl (hb hby at_36) ?_
    show Steps p.tables e below (T17.setTop (mkF m 37 #[.val (.int p1), .unset, .unset, .unset, .unset, .unset] [(.int (5 : Int32)), (.ref b2), (.ref b2)])) _
    refine st19 _ ?_
    show Steps p.tables e below (T19.setTop (mkF m 40 #[.val (.int p1), .unset, .unset, .unset, .unset, .unset] [(.ref w18), (.int (5 : Int32)), (.ref b2), (.ref b2)])) _
    refine st20 _ ?_
    show Steps p.tables e below (T20.setTop (mkF m 41 #[.val (.int p1), .unset, .unset, .unset, .unset, .unset] [(.ref b2)])) _
    refine XS.dup X20.here hx rfl (hb hby at_41) rfl rfl ?_
    show Steps p.tables e below (T20.setTop (mkF m 42 #[.val (.int p1), .unset, .unset, .unset, .unset, .unset] [(.ref b2), (.ref b2)])) _
    refine XS.bipush X20.here hx rfl (hb hby at_42) ?_
    show Steps p.tables e below (T20.setTop (mkF m 44 #[.val (.int p1), .unset, .unset, .unset, .unset, .unset] [(.int (6 : Int32)), (.ref b2), (.ref b2)])) _
    refine st22 _ ?_
    show Steps p.tables e below (T22.setTop (mkF m 47 #[.val (.int p1), .unset, .unset, .unset, .unset, .unset] [(.ref w21), (.int (6 : Int32)), (.ref b2), (.ref b2)])) _
    refine st23 _ ?_
    show Steps p.tables e below (T23.setTop (mkF m 48 #[.val (.int p1), .unset, .unset, .unset, .unset, .unset] [(.ref b2)])) _
    refine XS.dup X23.here hx rfl (hb hby at_48) rfl rfl ?_
    show Steps p.tables e below (T23.setTop (mkF m 49 #[.val (.int p1), .unset, .unset, .unset, .unset, .unset] [(.ref b2), (.ref b2)])) _
    refine XS.bipush X23.here hx rfl (hb hby at_49) ?_
    show Steps p.tables e below (T23.setTop (mkF m 51 #[.val (.int p1), .unset, .unset, .unset, .unset, .unset] [(.int (7 : Int32)), (.ref b2), (.ref b2)])) _
    refine st25 _ ?_
    show Steps p.tables e below (T25.setTop (mkF m 54 #[.val (.int p1), .unset, .unset, .unset, .unset, .unset] [(.ref w24), (.int (7 : Int32)), (.ref b2), (.ref b2)])) _
    refine st26 _ ?_
    show Steps p.tables e below (T26.setTop (mkF m 55 #[.val (.int p1), .unset, .unset, .unset, .unset, .unset] [(.ref b2)])) _
    refine XS.dup X26.here hx rfl (hb hby at_55) rfl rfl ?_
    show Steps p.tables e below (T26.setTop (mkF m 56 #[.val (.int p1), .unset, .unset, .unset, .unset, .unset] [(.ref b2), (.ref b2)])) _
    refine XS.bipush X26.here hx rfl (hb hby at_56) ?_
    show Steps p.tables e below (T26.setTop (mkF m 58 #[.val (.int p1), .unset, .unset, .unset, .unset, .unset] [(.int (8 : Int32)), (.ref b2), (.ref b2)])) _
    refine st28 _ ?_
    show Steps p.tables e below (T28.setTop (mkF m 61 #[.val (.int p1), .unset, .unset, .unset, .unset, .unset] [(.ref w27), (.int (8 : Int32)), (.ref b2), (.ref b2)])) _
    refine st29 _ ?_
    show Steps p.tables e below (T29.setTop (mkF m 62 #[.val (.int p1), .unset, .unset, .unset, .unset, .unset] [(.ref b2)])) _
    refine XS.dup X29.here hx rfl (hb hby at_62) rfl rfl ?_
    show Steps p.tables e below (T29.setTop (mkF m 63 #[.val (.int p1), .unset, .unset, .unset, .unset, .unset] [(.ref b2), (.ref b2)])) _
    refine XS.bipush X29.here hx rfl (hb hby at_63) ?_
    show Steps p.tables e below (T29.setTop (mkF m 65 #[.val (.int p1), .unset, .unset, .unset, .unset, .unset] [(.int (9 : Int32)), (.ref b2), (.ref b2)])) _
    refine st31 _ ?_
    show Steps p.tables e below (T31.setTop (mkF m 68 #[.val (.int p1), .unset, .unset, .unset, .unset, .unset] [(.ref w30), (.int (9 : Int32)), (.ref b2), (.ref b2)])) _
    refine st32 _ ?_
    show Steps p.tables e below (T32.setTop (mkF m 69 #[.val (.int p1), .unset, .unset, .unset, .unset, .unset] [(.ref b2)])) _
    refine XS.dup X32.here hx rfl (hb hby at_69) rfl rfl ?_
    show Steps p.tables e below (T32.setTop (mkF m 70 #[.val (.int p1), .unset, .unset, .unset, .unset, .unset] [(.ref b2), (.ref b2)])) _
    refine XS.bipush X32.here hx rfl (hb hby at_70) ?_
    show Steps p.tables e below (T32.setTop (mkF m 72 #[.val (.int p1), .unset, .unset, .unset, .unset, .unset] [(.int (10 : Int32)), (.ref b2), (.ref b2)])) _
    refine st34 _ ?_
    show Steps p.tables e below (T34.setTop (mkF m 75 #[.val (.int p1), .unset, .unset, .unset, .unset, .unset] [(.ref w33), (.int (10 : Int32)), (.ref b2), (.ref b2)])) _
    refine st35 _ ?_
    show Steps p.tables e below (T35.setTop (mkF m 76 #[.val (.int p1), .unset, .unset, .unset, .unset, .unset] [(.ref b2)])) _
    refine XS.dup X35.here hx rfl (hb hby at_76) rfl rfl ?_
    show Steps p.tables e below (T35.setTop (mkF m 77 #[.val (.int p1), .unset, .unset, .unset, .unset, .unset] [(.ref b2), (.ref b2)])) _
    refine XS.bipush X35.here hx rfl (hb hby at_77) ?_
    show Steps p.tables e below (T35.setTop (mkF m 79 #[.val (.int p1), .unset, .unset, .unset, .unset, .unset] [(.int (11 : Int32)), (.ref b2), (.ref b2)])) _
    refine st37 _ ?_
    show Steps p.tables e below (T37.setTop (mkF m 82 #[.val (.int p1), .unset, .unset, .unset, .unset, .unset] [(.ref w36), (.int (11 : Int32)), (.ref b2), (.ref b2)])) _
    refine st38 _ ?_
    show Steps p.tables e below (T38.setTop (mkF m 83 #[.val (.int p1), .unset, .unset, .unset, .unset, .unset] [(.ref b2)])) _
    refine XS.dup X38.here hx rfl (hb hby at_83) rfl rfl ?_
    show Steps p.tables e below (T38.setTop (mkF m 84 #[.val (.int p1), .unset, .unset, .unset, .unset, .unset] [(.ref b2), (.ref b2)])) _
    refine XS.bipush X38.here hx rfl (hb hby at_84) ?_
    show Steps p.tables e below (T38.setTop (mkF m 86 #[.val (.int p1), .unset, .unset, .unset, .unset, .unset] [(.int (12 : Int32)), (.ref b2), (.ref b2)])) _
    refine st40 _ ?_
    show Steps p.tables e below (T40.setTop (mkF m 89 #[.val (.int p1), .unset, .unset, .unset, .unset, .unset] [(.ref w39), (.int (12 : Int32)), (.ref b2), (.ref b2)])) _
    refine st41 _ ?_
    show Steps p.tables e below (T41.setTop (mkF m 90 #[.val (.int p1), .unset, .unset, .unset, .unset, .unset] [(.ref b2)])) _
    refine XS.dup X41.here hx rfl (hb hby at_90) rfl rfl ?_
    show Steps p.tables e below (T41.setTop (mkF m 91 #[.val (.int p1), .unset, .unset, .unset, .unset, .unset] [(.ref b2), (.ref b2)])) _
    refine XS.bipush X41.here hx rfl (hb hby at_91) ?_
    show Steps p.tables e below (T41.setTop (mkF m 93 #[.val (.int p1), .unset, .unset, .unset, .unset, .unset] [(.int (13 : Int32)), (.ref b2), (.ref b2)])) _
    refine st43 _ ?_
    show Steps p.tables e below (T43.setTop (mkF m 96 #[.val (.int p1), .unset, .unset, .unset, .unset, .unset] [(.ref w42), (.int (13 : Int32)), (.ref b2), (.ref b2)])) _
    refine st44 _ ?_
    show Steps p.tables e below (T44.setTop (mkF m 97 #[.val (.int p1), .unset, .unset, .unset, .unset, .unset] [(.ref b2)])) _
    refine XS.dup X44.here hx rfl (hb hby at_97) rfl rfl ?_
    show Steps p.tables e below (T44.setTop (mkF m 98 #[.val (.int p1), .unset, .unset, .unset, .unset, .unset] [(.ref b2), (.ref b2)])) _
    refine XS.bipush X44.here hx rfl (hb hby at_98) ?_
    show Steps p.tables e below (T44.setTop (mkF m 100 #[.val (.int p1), .unset, .unset, .unset, .unset, .unset] [(.int (14 : Int32)), (.ref b2), (.ref b2)])) _
    refine st46 _ ?_
    show Steps p.tables e below (T46.setTop (mkF m 103 #[.val (.int p1), .unset, .unset, .unset, .unset, .unset] [(.ref w45), (.int (14 : Int32)), (.ref b2), (.ref b2)])) _
    refine st47 _ ?_
    show Steps p.tables e below (T47.setTop (mkF m 104 #[.val (.int p1), .unset, .unset, .unset, .unset, .unset] [(.ref b2)])) _
    refine XS.astoreN X47.here hx rfl (hb hby at_104) rfl rfl (l' := #[.val (.int p1), .val (.ref b2), .unset, .unset, .unset, .unset]) rfl ?_
    show Steps p.tables e below (T47.setTop (mkF m 105 #[.val (.int p1), .val (.ref b2), .unset, .unset, .unset, .unset] [])) _
    refine XS.iloadN X47.here hx rfl (hb hby at_105) rfl ?_
    show Steps p.tables e below (T47.setTop (mkF m 106 #[.val (.int p1), .val (.ref b2), .unset, .unset, .unset, .unset] [(.int p1)])) _
    refine X47.ldcI hx hown (mvT hZ (hw _ (List.mem_of_getElem? (i := 34) rfl))) (g := (mkF m 106 #[.val (.int p1), .val (.ref b2), .unset, .unset, .unset, .unset] [(.int p1)])) rfl (hb hby at_106) ?_
    show Steps p.tables e below (T47.setTop (mkF m 108 #[.val (.int p1), .val (.ref b2), .unset, .unset, .unset, .unset] [(.int (2147483647 : Int32)), (.int p1)])) _
    refine XS.iand X47.here hx rfl (hb hby at_108) rfl ?_
    show Steps p.tables e below (T47.setTop (mkF m 109 #[.val (.int p1), .val (.ref b2), .unset, .unset, .unset, .unset] [(.int (p1 &&& (2147483647 : Int32)))])) _
    refine XS.bipush X47.here hx rfl (hb hby at_109) ?_
    show Steps p.tables e below (T47.setTop (mkF m 111 #[.val (.int p1), .val (.ref b2), .unset, .unset, .unset, .unset] [(.int (15 : Int32)), (.int (p1 &&& (2147483647 : Int32)))])) _
    refine iremM X47 hx (g := (mkF m 111 #[.val (.int p1), .val (.ref b2), .unset, .unset, .unset, .unset] [(.int (15 : Int32)), (.int (p1 &&& (2147483647 : Int32)))])) rfl (hb hby at_111) rfl (by decide) ?_
    show Steps p.tables e below (T47.setTop (mkF m 112 #[.val (.int p1), .val (.ref b2), .unset, .unset, .unset, .unset] [(.int (HMod.hMod (p1 &&& (2147483647 : Int32)) (15 : Int32)))])) _
    refine XS.istoreN X47.here hx rfl (hb hby at_112) rfl (l' := #[.val (.int p1), .val (.ref b2), .val (.int (HMod.hMod (p1 &&& (2147483647 : Int32)) (15 : Int32))), .unset, .unset, .unset]) rfl ?_
    show Steps p.tables e below (T47.setTop (mkF m 113 #[.val (.int p1), .val (.ref b2), .val (.int (HMod.hMod (p1 &&& (2147483647 : Int32)) (15 : Int32))), .unset, .unset, .unset] [])) _
    refine XS.aloadN X47.here hx rfl (hb hby at_113) rfl rfl ?_
    show Steps p.tables e below (T47.setTop (mkF m 114 #[.val (.int p1), .val (.ref b2), .val (.int (HMod.hMod (p1 &&& (2147483647 : Int32)) (15 : Int32))), .unset, .unset, .unset] [(.ref b2)])) _
    refine XS.iloadN X47.here hx rfl (hb hby at_114) rfl ?_
    show Steps p.tables e below (T47.setTop (mkF m 115 #[.val (.int p1), .val (.ref b2), .val (.int (HMod.hMod (p1 &&& (2147483647 : Int32)) (15 : Int32))), .unset, .unset, .unset] [(.int (HMod.hMod (p1 &&& (2147483647 : Int32)) (15 : Int32))), (.ref b2)])) _
    refine X47.aaload hx (j := (HMod.hMod (p1 &&& (2147483647 : Int32)) (15 : Int32))) (v := (.ref w48)) (by rw [e47]; exact Ar_b2.1) (State.isArrayOf_alike hZ.alike Ar_b2.2.1) rfl Ar_b2.2.2 hin115 hat115 (g := (mkF m 115 #[.val (.int p1), .val (.ref b2), .val (.int (HMod.hMod (p1 &&& (2147483647 : Int32)) (15 : Int32))), .unset, .unset, .unset] [(.int (HMod.hMod (p1 &&& (2147483647 : Int32)) (15 : Int32))), (.ref b2)])) rfl rfl (hb hby at_115) _ ?_
    show Steps p.tables e below (T47.setTop (mkF m 116 #[.val (.int p1), .val (.ref b2), .val (.int (HMod.hMod (p1 &&& (2147483647 : Int32)) (15 : Int32))), .unset, .unset, .unset] [(.ref w48)])) _
    refine XS.astoreN X47.here hx rfl (hb hby at_116) rfl rfl (l' := #[.val (.int p1), .val (.ref b2), .val (.int (HMod.hMod (p1 &&& (2147483647 : Int32)) (15 : Int32))), .val (.ref w48), .unset, .unset]) rfl ?_
    show Steps p.tables e below (T47.setTop (mkF m 117 #[.val (.int p1), .val (.ref b2), .val (.int (HMod.hMod (p1 &&& (2147483647 : Int32)) (15 : Int32))), .val (.ref w48), .unset, .unset] [])) _
    refine XS.iloadN X47.here hx rfl (hb hby at_117) rfl ?_
    show Steps p.tables e below (T47.setTop (mkF m 118 #[.val (.int p1), .val (.ref b2), .val (.int (HMod.hMod (p1 &&& (2147483647 : Int32)) (15 : Int32))), .val (.ref w48), .unset, .unset] [(.int (HMod.hMod (p1 &&& (2147483647 : Int32)) (15 : Int32)))])) _
    refine XS.bipush X47.here hx rfl (hb hby at_118) ?_
    show Steps p.tables e below (T47.setTop (mkF m 120 #[.val (.int p1), .val (.ref b2), .val (.int (HMod.hMod (p1 &&& (2147483647 : Int32)) (15 : Int32))), .val (.ref w48), .unset, .unset] [(.int (8 : Int32)), (.int (HMod.hMod (p1 &&& (2147483647 : Int32)) (15 : Int32)))])) _
    refine XS.icmpNo X47.here hx rfl (hb hby at_120) rfl (feq hc120).1 ?_
    show Steps p.tables e below (T47.setTop (mkF m 123 #[.val (.int p1), .val (.ref b2), .val (.int (HMod.hMod (p1 &&& (2147483647 : Int32)) (15 : Int32))), .val (.ref w48), .unset, .unset] [])) _
    refine XS.iloadN X47.here hx rfl (hb hby at_123) rfl ?_
    show Steps p.tables e below (T47.setTop (mkF m 124 #[.val (.int p1), .val (.ref b2), .val (.int (HMod.hMod (p1 &&& (2147483647 : Int32)) (15 : Int32))), .val (.ref w48), .unset, .unset] [(.int (HMod.hMod (p1 &&& (2147483647 : Int32)) (15 : Int32)))])) _
    refine XS.bipush X47.here hx rfl (hb hby at_124) ?_
    show Steps p.tables e below (T47.setTop (mkF m 126 #[.val (.int p1), .val (.ref b2), .val (.int (HMod.hMod (p1 &&& (2147483647 : Int32)) (15 : Int32))), .val (.ref w48), .unset, .unset] [(.int (9 : Int32)), (.int (HMod.hMod (p1 &&& (2147483647 : Int32)) (15 : Int32)))])) _
    refine XS.icmpNo X47.here hx rfl (hb hby at_126) rfl (teq hc126).2 ?_
    show Steps p.tables e below (T47.setTop (mkF m 129 #[.val (.int p1), .val (.ref b2), .val (.int (HMod.hMod (p1 &&& (2147483647 : Int32)) (15 : Int32))), .val (.ref w48), .unset, .unset] [])) _
    refine XS.iconst X47.here hx rfl (hb hby at_129) ?_
    show Steps p.tables e below (T47.setTop (mkF m 130 #[.val (.int p1), .val (.ref b2), .val (.int (HMod.hMod (p1 &&& (2147483647 : Int32)) (15 : Int32))), .val (.ref w48), .unset, .unset] [(.int (1 : Int32))])) _
    refine XS.goto X47.here hx rfl (pc0 := 130) (pc' := 134) rfl (hb hby at_130) (by decide) (by decide) ?_
    show Steps p.tables e below (T47.setTop (mkF m 134 #[.val (.int p1), .val (.ref b2), .val (.int (HMod.hMod (p1 &&& (2147483647 : Int32)) (15 : Int32))), .val (.ref w48), .unset, .unset] [(.int (1 : Int32))])) _
    refine XS.istore X47.here hx rfl (hb hby at_134) rfl (l' := #[.val (.int p1), .val (.ref b2), .val (.int (HMod.hMod (p1 &&& (2147483647 : Int32)) (15 : Int32))), .val (.ref w48), .val (.int (1 : Int32)), .unset]) rfl ?_
    show Steps p.tables e below (T47.setTop (mkF m 136 #[.val (.int p1), .val (.ref b2), .val (.int (HMod.hMod (p1 &&& (2147483647 : Int32)) (15 : Int32))), .val (.ref w48), .val (.int (1 : Int32)), .unset] [])) _
    refine XS.aloadN X47.here hx rfl (hb hby at_136) rfl rfl ?_
    show Steps p.tables e below (T47.setTop (mkF m 137 #[.val (.int p1), .val (.ref b2), .val (.int (HMod.hMod (p1 &&& (2147483647 : Int32)) (15 : Int32))), .val (.ref w48), .val (.int (1 : Int32)), .unset] [(.ref w48)])) _
    refine st49.trans ?_
    show Steps p.tables e below (T49.setTop (mkF m 140 #[.val (.int p1), .val (.ref b2), .val (.int (HMod.hMod (p1 &&& (2147483647 : Int32)) (15 : Int32))), .val (.ref w48), .val (.int (1 : Int32)), .unset] [(.int (1 : Int32))])) _
    refine XS.istore X49.here hx rfl (hb hby at_140) rfl (l' := #[.val (.int p1), .val (.ref b2), .val (.int (HMod.hMod (p1 &&& (2147483647 : Int32)) (15 : Int32))), .val (.ref w48), .val (.int (1 : Int32)), .val (.int (1 : Int32))]) rfl ?_
    show Steps p.tables e below (T49.setTop (mkF m 142 #[.val (.int p1), .val (.ref b2), .val (.int (HMod.hMod (p1 &&& (2147483647 : Int32)) (15 : Int32))), .val (.ref w48), .val (.int (1 : Int32)), .val (.int (1 : Int32))] [])) _
    refine XS.iload X49.here hx rfl (hb hby at_142) rfl ?_
    show Steps p.tables e below (T49.setTop (mkF m 144 #[.val (.int p1), .val (.ref b2), .val (.int (HMod.hMod (p1 &&& (2147483647 : Int32)) (15 : Int32))), .val (.ref w48), .val (.int (1 : Int32)), .val (.int (1 : Int32))] [(.int (1 : Int32))])) _
    refine XS.iload X49.here hx rfl (hb hby at_144) rfl ?_
    show Steps p.tables e below (T49.setTop (mkF m 146 #[.val (.int p1), .val (.ref b2), .val (.int (HMod.hMod (p1 &&& (2147483647 : Int32)) (15 : Int32))), .val (.ref w48), .val (.int (1 : Int32)), .val (.int (1 : Int32))] [(.int (1 : Int32)), (.int (1 : Int32))])) _
    refine XS.icmpYes X49.here hx rfl (pc0 := 146) (pc' := 151) rfl (hb hby at_146) rfl (teq (by decide : (1 : Int32) = (1 : Int32))).1 (by decide) (by decide) ?_
    show Steps p.tables e below (T49.setTop (mkF m 151 #[.val (.int p1), .val (.ref b2), .val (.int (HMod.hMod (p1 &&& (2147483647 : Int32)) (15 : Int32))), .val (.ref w48), .val (.int (1 : Int32)), .val (.int (1 : Int32))] [])) _
    refine XS.iload X49.here hx rfl (hb hby at_151) rfl ?_
    show Steps p.tables e below (T49.setTop (mkF m 153 #[.val (.int p1), .val (.ref b2), .val (.int (HMod.hMod (p1 &&& (2147483647 : Int32)) (15 : Int32))), .val (.ref w48), .val (.int (1 : Int32)), .val (.int (1 : Int32))] [(.int (1 : Int32))])) _
    refine XS.ifNo X49.here hx rfl (hb hby at_153) rfl ((if0 _ _).trans (feq (by decide : ¬ ((1 : Int32) = (0 : Int32)))).1) ?_
    show Steps p.tables e below (T49.setTop (mkF m 156 #[.val (.int p1), .val (.ref b2), .val (.int (HMod.hMod (p1 &&& (2147483647 : Int32)) (15 : Int32))), .val (.ref w48), .val (.int (1 : Int32)), .val (.int (1 : Int32))] [])) _
    refine XS.aloadN X49.here hx rfl (hb hby at_156) rfl rfl ?_
    show Steps p.tables e below (T49.setTop (mkF m 157 #[.val (.int p1), .val (.ref b2), .val (.int (HMod.hMod (p1 &&& (2147483647 : Int32)) (15 : Int32))), .val (.ref w48), .val (.int (1 : Int32)), .val (.int (1 : Int32))] [(.ref w48)])) _
    refine st50.trans ?_
    show Steps p.tables e below (T50.setTop (mkF m 160 #[.val (.int p1), .val (.ref b2), .val (.int (HMod.hMod (p1 &&& (2147483647 : Int32)) (15 : Int32))), .val (.ref w48), .val (.int (1 : Int32)), .val (.int (1 : Int32))] [(.ref w51)])) _
    refine st52 _ ?_
    show Steps p.tables e below (T52.setTop (mkF m 163 #[.val (.int p1), .val (.ref b2), .val (.int (HMod.hMod (p1 &&& (2147483647 : Int32)) (15 : Int32))), .val (.ref w48), .val (.int (1 : Int32)), .val (.int (1 : Int32))] [(.ref w51), (.ref w51)])) _
    refine Jvm.RoadKit.acmp (g := (mkF m 163 #[.val (.int p1), .val (.ref b2), .val (.int (HMod.hMod (p1 &&& (2147483647 : Int32)) (15 : Int32))), .val (.ref w48), .val (.int (1 : Int32)), .val (.int (1 : Int32))] [(.ref w51), (.ref w51)])) X52 hx rfl rfl rfl (pc0 := 163) (pc' := 166) (same := true) rfl (hb hby at_163) rfl (decide_eq_true (congrArg Value.ref ha163)) (by decide) (by decide) ?_
    show Steps p.tables e below (T52.setTop (mkF m 166 #[.val (.int p1), .val (.ref b2), .val (.int (HMod.hMod (p1 &&& (2147483647 : Int32)) (15 : Int32))), .val (.ref w48), .val (.int (1 : Int32)), .val (.int (1 : Int32))] [])) _
    refine XS.aloadN X52.here hx rfl (hb hby at_166) rfl rfl ?_
    show Steps p.tables e below (T52.setTop (mkF m 167 #[.val (.int p1), .val (.ref b2), .val (.int (HMod.hMod (p1 &&& (2147483647 : Int32)) (15 : Int32))), .val (.ref w48), .val (.int (1 : Int32)), .val (.int (1 : Int32))] [(.ref w48)])) _
    refine st53.trans ?_
    show Steps p.tables e below (T53.setTop (mkF m 170 #[.val (.int p1), .val (.ref b2), .val (.int (HMod.hMod (p1 &&& (2147483647 : Int32)) (15 : Int32))), .val (.ref w48), .val (.int (1 : Int32)), .val (.int (1 : Int32))] [(.ref w51)])) _
    refine st54 _ ?_
    show Steps p.tables e below (T54.setTop (mkF m 173 #[.val (.int p1), .val (.ref b2), .val (.int (HMod.hMod (p1 &&& (2147483647 : Int32)) (15 : Int32))), .val (.ref w48), .val (.int (1 : Int32)), .val (.int (1 : Int32))] [(.ref w51), (.ref w51)])) _
    refine Jvm.RoadKit.acmp (g := (mkF m 173 #[.val (.int p1), .val (.ref b2), .val (.int (HMod.hMod (p1 &&& (2147483647 : Int32)) (15 : Int32))), .val (.ref w48), .val (.int (1 : Int32)), .val (.int (1 : Int32))] [(.ref w51), (.ref w51)])) X54 hx rfl rfl rfl (pc0 := 173) (pc' := 176) (same := true) rfl (hb hby at_173) rfl (decide_eq_true (congrArg Value.ref ha173)) (by decide) (by decide) ?_
    show Steps p.tables e below (T54.setTop (mkF m 176 #[.val (.int p1), .val (.ref b2), .val (.int (HMod.hMod (p1 &&& (2147483647 : Int32)) (15 : Int32))), .val (.ref w48), .val (.int (1 : Int32)), .val (.int (1 : Int32))] [])) _
    refine XS.iconst X54.here hx rfl (hb hby at_176) ?_
    show Steps p.tables e below (T54.setTop (mkF m 177 #[.val (.int p1), .val (.ref b2), .val (.int (HMod.hMod (p1 &&& (2147483647 : Int32)) (15 : Int32))), .val (.ref w48), .val (.int (1 : Int32)), .val (.int (1 : Int32))] [(.int (1 : Int32))])) _
    refine XS.goto X54.here hx rfl (pc0 := 177) (pc' := 181) rfl (hb hby at_177) (by decide) (by decide) ?_
    show Steps p.tables e below (T54.setTop (mkF m 181 #[.val (.int p1), .val (.ref b2), .val (.int (HMod.hMod (p1 &&& (2147483647 : Int32)) (15 : Int32))), .val (.ref w48), .val (.int (1 : Int32)), .val (.int (1 : Int32))] [(.int (1 : Int32))])) _
    exact retN X54 hx (t := .boolean) Bd.returns (by simp) (hb hby at_181) hr
  · show Q0x Z p1 w3 w6 w9 w12 w15 w18 w21 w24 w27 w30 w33 w36 w39 w42 w45 w48 w51 h0 n0 _ T54.heap _
    rw [e54]
    exact ⟨rfl, N53⟩
def Q0o (Z : State) (p1 : Int32) (w3 : Addr) (w6 : Addr) (w9 : Addr) (w12 : Addr) (w15 : Addr) (w18 : Addr) (w21 : Addr) (w24 : Addr) (w27 : Addr) (w30 : Addr) (w33 : Addr) (w36 : Addr) (w39 : Addr) (w42 : Addr) (w45 : Addr) (w48 : Addr) (h0 : Heap) (n0 : Nat) (v : Option Value) (h : Heap) (L : List Loc) : Prop := v = some (.int (1 : Int32)) ∧ Fr n0 L
set_option maxRecDepth 65536 in
set_option maxHeartbeats 40000000 in
theorem rm0o (l : Launch) (Z : State) (a0 : Array Value) (hw : ∀ d ∈ tables_1, d.before a0 Z = true) (ws : List Jvm.Cond) (p1 : Int32) (w3 : Addr) (w6 : Addr) (w9 : Addr) (w12 : Addr) (w15 : Addr) (w18 : Addr) (w21 : Addr) (w24 : Addr) (w27 : Addr) (w30 : Addr) (w33 : Addr) (w36 : Addr) (w39 : Addr) (w42 : Addr) (w45 : Addr) (w48 : Addr) (h0 : Heap) (n0 : Nat) (Z0 : n0 ≤ h0.size) (E_w3 : Exa Z h0 w3 "com/example/rev3/rev3/change/ElementKind") (E_w6 : Exa Z h0 w6 "com/example/rev3/rev3/change/ElementKind") (E_w9 : Exa Z h0 w9 "com/example/rev3/rev3/change/ElementKind") (E_w12 : Exa Z h0 w12 "com/example/rev3/rev3/change/ElementKind") (E_w15 : Exa Z h0 w15 "com/example/rev3/rev3/change/ElementKind") (E_w18 : Exa Z h0 w18 "com/example/rev3/rev3/change/ElementKind") (E_w21 : Exa Z h0 w21 "com/example/rev3/rev3/change/ElementKind") (E_w24 : Exa Z h0 w24 "com/example/rev3/rev3/change/ElementKind") (E_w27 : Exa Z h0 w27 "com/example/rev3/rev3/change/ElementKind") (E_w30 : Exa Z h0 w30 "com/example/rev3/rev3/change/ElementKind") (E_w33 : Exa Z h0 w33 "com/example/rev3/rev3/change/ElementKind") (E_w36 : Exa Z h0 w36 "com/example/rev3/rev3/change/ElementKind") (E_w39 : Exa Z h0 w39 "com/example/rev3/rev3/change/ElementKind") (E_w42 : Exa Z h0 w42 "com/example/rev3/rev3/change/ElementKind") (E_w45 : Exa Z h0 w45 "com/example/rev3/rev3/change/ElementKind") (hp0 : ¬ (HMod.hMod (p1 &&& (2147483647 : Int32)) (15 : Int32)) < 0) (hp5 : (HMod.hMod (p1 &&& (2147483647 : Int32)) (15 : Int32)) < 15) (hsel : ([.ref w3, .ref w6, .ref w9, .ref w12, .ref w15, .ref w18, .ref w21, .ref w24, .ref w27, .ref w30, .ref w33, .ref w36, .ref w39, .ref w42, .ref w45] : List Value).getD (HMod.hMod (p1 &&& (2147483647 : Int32)) (15 : Int32)).toNatClampNeg .null = .ref w48) (hk1 : ¬ (w48 = w27)) (hk2 : ¬ (w48 = w30)) (S_SCHEMA : Sta Z h0 "com/example/rev3/rev3/change/ElementKind" "SCHEMA" "Lcom/example/rev3/rev3/change/ElementKind;" (.ref w3)) (S_PROPERTY : Sta Z h0 "com/example/rev3/rev3/change/ElementKind" "PROPERTY" "Lcom/example/rev3/rev3/change/ElementKind;" (.ref w6)) (S_UNDECLARED_PROPERTY : Sta Z h0 "com/example/rev3/rev3/change/ElementKind" "UNDECLARED_PROPERTY" "Lcom/example/rev3/rev3/change/ElementKind;" (.ref w9)) (S_UNDECLARED_UNCLASSIFIED_PROPERTY : Sta Z h0 "com/example/rev3/rev3/change/ElementKind" "UNDECLARED_UNCLASSIFIED_PROPERTY" "Lcom/example/rev3/rev3/change/ElementKind;" (.ref w12)) (S_ITEMS : Sta Z h0 "com/example/rev3/rev3/change/ElementKind" "ITEMS" "Lcom/example/rev3/rev3/change/ElementKind;" (.ref w15)) (S_ADDITIONAL_PROPERTIES : Sta Z h0 "com/example/rev3/rev3/change/ElementKind" "ADDITIONAL_PROPERTIES" "Lcom/example/rev3/rev3/change/ElementKind;" (.ref w18)) (S_DEFINITION : Sta Z h0 "com/example/rev3/rev3/change/ElementKind" "DEFINITION" "Lcom/example/rev3/rev3/change/ElementKind;" (.ref w21)) (S_UNCLASSIFIED : Sta Z h0 "com/example/rev3/rev3/change/ElementKind" "UNCLASSIFIED" "Lcom/example/rev3/rev3/change/ElementKind;" (.ref w24)) (S_ALTERNATIVES : Sta Z h0 "com/example/rev3/rev3/change/ElementKind" "ALTERNATIVES" "Lcom/example/rev3/rev3/change/ElementKind;" (.ref w27)) (S_EXCLUSIVE_ALTERNATIVES : Sta Z h0 "com/example/rev3/rev3/change/ElementKind" "EXCLUSIVE_ALTERNATIVES" "Lcom/example/rev3/rev3/change/ElementKind;" (.ref w30)) (S_ATTRIBUTE : Sta Z h0 "com/example/rev3/rev3/change/ElementKind" "ATTRIBUTE" "Lcom/example/rev3/rev3/change/ElementKind;" (.ref w33)) (S_METRIC : Sta Z h0 "com/example/rev3/rev3/change/ElementKind" "METRIC" "Lcom/example/rev3/rev3/change/ElementKind;" (.ref w36)) (S_SPAN : Sta Z h0 "com/example/rev3/rev3/change/ElementKind" "SPAN" "Lcom/example/rev3/rev3/change/ElementKind;" (.ref w39)) (S_EVENT : Sta Z h0 "com/example/rev3/rev3/change/ElementKind" "EVENT" "Lcom/example/rev3/rev3/change/ElementKind;" (.ref w42)) (S_ENTITY : Sta Z h0 "com/example/rev3/rev3/change/ElementKind" "ENTITY" "Lcom/example/rev3/rev3/change/ElementKind;" (.ref w45)) (E_w48 : Exa Z h0 w48 "com/example/rev3/rev3/change/ElementKind") (hc120 : ¬ ((HMod.hMod (p1 &&& (2147483647 : Int32)) (15 : Int32)) = (8 : Int32))) (hc126 : ¬ ((HMod.hMod (p1 &&& (2147483647 : Int32)) (15 : Int32)) = (9 : Int32))) :
    MetFree l x (head1 (Jvm.Cond.code x code maxLocals ret :: ws) room_1) (fun a U => a = #[(.int p1)] ∧ Z.Warmed39 U.vm ∧ U.heap = h0) (fun _ _ _ _ _ => True) (fun _ U o U' => ∃ v L, o = .returned v ∧ Q0o Z p1 w3 w6 w9 w12 w15 w18 w21 w24 w27 w30 w33 w36 w39 w42 w45 w48 h0 n0 v U'.heap L ∧ FrameEnd U o U' L room_1.cells room_1.slots) := by
  refine MetFree.of_bodySF (plainFor_of_name pn_0) hisR ?_
  intro p e s m args below meth c s₁ Bd hml0 hP hK
  obtain ⟨rfl, hZ, hh⟩ := hP
  have hx := Bd.exec
  have hby := Bd.bytes
  have hml : c.maxLocals = 6 := hml0
  have hown : s.vm.findClass "com/example/rev3/rev3/change/ElementKindIsAlternativesPinLaw" = some m.cls := findClass_of_methodNamed Bd.named
  have hnm := (name_of_methodNamed Bd.named Bd.method).1
  have X0 : Stand p l e room_1 s m #[(.int p1)] below meth c s₁ [] 0 0 := Stand.of_body Bd
  have e0 : s₁.heap = h0 := by rw [← hh, Bd.state]; rfl
  have N0 := Fr.nil n0
  have pre0 : ∀ t, Steps p.tables e below (s₁.setTop (mkF m 0 #[.val (.int p1), .unset, .unset, .unset, .unset, .unset] [])) t → Steps p.tables e below (s₁.setTop (entryFrame m #[(.int p1)] maxLocals)) t := fun t k => castTop (ef_0 m p1) k
  obtain ⟨T2, h2, k2, X2, e2, E2, A2, O2, st2⟩ := newR X0 hx hZ hown (hw _ (List.mem_of_getElem? (i := 0) rfl)) (hw _ (List.mem_of_getElem? (i := 1) rfl)) e0 (g := (mkF m 2 #[.val (.int p1), .unset, .unset, .unset, .unset, .unset] [(.int (15 : Int32))])) rfl (hb hby at_2) rfl (by decide) (cap := 15) (by decide) (by decide) (by decide) (by decide)
  obtain ⟨b2, g2⟩ : ∃ z, z = h0.size := ⟨_, rfl⟩      -- the fresh array's address
  rw [← g2] at A2 st2
  have V_b2 : Arv Z h2 b2 k2 (.object "com/example/rev3/rev3/change/ElementKind") (15 : Int32) [.null, .null, .null, .null, .null, .null, .null, .null, .null, .null, .null, .null, .null, .null, .null] .null := (Arv.new A2 (by decide)).pad (pad_rep [] .null 15)
  have g_b2 : n0 ≤ b2 := Nat.le_trans Z0 (Nat.le_of_eq g2.symm)
  have sz_b2 : h0.size ≤ b2 := (Nat.le_trans (Keep.refl h0 []).1 (Nat.le_of_eq g2.symm))
  have K2 : Keep h0 h2 [] := (Keep.refl h0 []).ext E2
  obtain ⟨T4, X4, e4, st4⟩ := getS2 X2 hx hZ hown (host := "") (Or.inl (hw _ (List.mem_of_getElem? (i := 2) rfl))) Via.refl e2 (S_SCHEMA.ext (own_ext K2)) (g := (mkF m 7 #[.val (.int p1), .unset, .unset, .unset, .unset, .unset] [(.int (0 : Int32)), (.ref b2), (.ref b2)])) rfl (hb hby at_7)
  obtain ⟨cl_10, Ar_b2, q_b2, Sz_b2, N_b2, H_b2, G_b2⟩ := V_b2
  have hin10 : ¬ ((0 : Int32) < 0 ∨ cl_10.slots.size ≤ ((0 : Int32)).toNatClampNeg) := inb_of Sz_b2 ⟨by decide, by decide⟩
  have Sto10 := Sto.ofV Ar_b2 q_b2 O2 (Ins.self (E_w3.ext (own_ext K2)))
  obtain ⟨T5, h5, X5, e5, W5, st5⟩ := stR X4 hx hZ e4 Ar_b2 (j := (0 : Int32)) hin10 rfl Sto10 (g := (mkF m 10 #[.val (.int p1), .unset, .unset, .unset, .unset, .unset] [(.ref w3), (.int (0 : Int32)), (.ref b2), (.ref b2)])) rfl rfl (hb hby at_10)
  have N5 := Fr.snoc X5 N0 g_b2
  have K5 : Keep h0 h5 [] := K2.wr W5 (Or.inr sz_b2)
  have V_b2 := Arv.set Ar_b2 q_b2 Sz_b2 N_b2 H_b2 G_b2 rfl W5 0 rfl (Nat.le_of_ble_eq_true rfl)
  obtain ⟨T7, X7, e7, st7⟩ := getS2 X5 hx hZ hown (host := "") (Or.inl (hw _ (List.mem_of_getElem? (i := 6) rfl))) Via.refl e5 (S_PROPERTY.ext (own_ext K5)) (g := (mkF m 13 #[.val (.int p1), .unset, .unset, .unset, .unset, .unset] [(.int (1 : Int32)), (.ref b2), (.ref b2)])) rfl (hb hby at_13)
  obtain ⟨cl_16, Ar_b2, q_b2, Sz_b2, N_b2, H_b2, G_b2⟩ := V_b2
  have hin16 : ¬ ((1 : Int32) < 0 ∨ cl_16.slots.size ≤ ((1 : Int32)).toNatClampNeg) := inb_of Sz_b2 ⟨by decide, by decide⟩
  have Sto16 := Sto.ofV Ar_b2 q_b2 O2 (Ins.self (E_w6.ext (own_ext K5)))
  obtain ⟨T8, h8, X8, e8, W8, st8⟩ := stR X7 hx hZ e7 Ar_b2 (j := (1 : Int32)) hin16 rfl Sto16 (g := (mkF m 16 #[.val (.int p1), .unset, .unset, .unset, .unset, .unset] [(.ref w6), (.int (1 : Int32)), (.ref b2), (.ref b2)])) rfl rfl (hb hby at_16)
  have N8 := Fr.snoc X8 N5 g_b2
  have K8 : Keep h0 h8 [] := K5.wr W8 (Or.inr sz_b2)
  have V_b2 := Arv.set Ar_b2 q_b2 Sz_b2 N_b2 H_b2 G_b2 rfl W8 1 rfl (Nat.le_of_ble_eq_true rfl)
  obtain ⟨T10, X10, e10, st10⟩ := getS2 X8 hx hZ hown (host := "") (Or.inl (hw _ (List.mem_of_getElem? (i := 8) rfl))) Via.refl e8 (S_UNDECLARED_PROPERTY.ext (own_ext K8)) (g := (mkF m 19 #[.val (.int p1), .unset, .unset, .unset, .unset, .unset] [(.int (2 : Int32)), (.ref b2), (.ref b2)])) rfl (hb hby at_19)
  obtain ⟨cl_22, Ar_b2, q_b2, Sz_b2, N_b2, H_b2, G_b2⟩ := V_b2
  have hin22 : ¬ ((2 : Int32) < 0 ∨ cl_22.slots.size ≤ ((2 : Int32)).toNatClampNeg) := inb_of Sz_b2 ⟨by decide, by decide⟩
  have Sto22 := Sto.ofV Ar_b2 q_b2 O2 (Ins.self (E_w9.ext (own_ext K8)))
  obtain ⟨T11, h11, X11, e11, W11, st11⟩ := stR X10 hx hZ e10 Ar_b2 (j := (2 : Int32)) hin22 rfl Sto22 (g := (mkF m 22 #[.val (.int p1), .unset, .unset, .unset, .unset, .unset] [(.ref w9), (.int (2 : Int32)), (.ref b2), (.ref b2)])) rfl rfl (hb hby at_22)
  have N11 := Fr.snoc X11 N8 g_b2
  have K11 : Keep h0 h11 [] := K8.wr W11 (Or.inr sz_b2)
  have V_b2 := Arv.set Ar_b2 q_b2 Sz_b2 N_b2 H_b2 G_b2 rfl W11 2 rfl (Nat.le_of_ble_eq_true rfl)
  obtain ⟨T13, X13, e13, st13⟩ := getS2 X11 hx hZ hown (host := "") (Or.inl (hw _ (List.mem_of_getElem? (i := 10) rfl))) Via.refl e11 (S_UNDECLARED_UNCLASSIFIED_PROPERTY.ext (own_ext K11)) (g := (mkF m 25 #[.val (.int p1), .unset, .unset, .unset, .unset, .unset] [(.int (3 : Int32)), (.ref b2), (.ref b2)])) rfl (hb hby at_25)
  obtain ⟨cl_28, Ar_b2, q_b2, Sz_b2, N_b2, H_b2, G_b2⟩ := V_b2
  have hin28 : ¬ ((3 : Int32) < 0 ∨ cl_28.slots.size ≤ ((3 : Int32)).toNatClampNeg) := inb_of Sz_b2 ⟨by decide, by decide⟩
  have Sto28 := Sto.ofV Ar_b2 q_b2 O2 (Ins.self (E_w12.ext (own_ext K11)))
  obtain ⟨T14, h14, X14, e14, W14, st14⟩ := stR X13 hx hZ e13 Ar_b2 (j := (3 : Int32)) hin28 rfl Sto28 (g := (mkF m 28 #[.val (.int p1), .unset, .unset, .unset, .unset, .unset] [(.ref w12), (.int (3 : Int32)), (.ref b2), (.ref b2)])) rfl rfl (hb hby at_28)
  have N14 := Fr.snoc X14 N11 g_b2
  have K14 : Keep h0 h14 [] := K11.wr W14 (Or.inr sz_b2)
  have V_b2 := Arv.set Ar_b2 q_b2 Sz_b2 N_b2 H_b2 G_b2 rfl W14 3 rfl (Nat.le_of_ble_eq_true rfl)
  obtain ⟨T16, X16, e16, st16⟩ := getS2 X14 hx hZ hown (host := "") (Or.inl (hw _ (List.mem_of_getElem? (i := 12) rfl))) Via.refl e14 (S_ITEMS.ext (own_ext K14)) (g := (mkF m 31 #[.val (.int p1), .unset, .unset, .unset, .unset, .unset] [(.int (4 : Int32)), (.ref b2), (.ref b2)])) rfl (hb hby at_31)
  obtain ⟨cl_34, Ar_b2, q_b2, Sz_b2, N_b2, H_b2, G_b2⟩ := V_b2
  have hin34 : ¬ ((4 : Int32) < 0 ∨ cl_34.slots.size ≤ ((4 : Int32)).toNatClampNeg) := inb_of Sz_b2 ⟨by decide, by decide⟩
  have Sto34 := Sto.ofV Ar_b2 q_b2 O2 (Ins.self (E_w15.ext (own_ext K14)))
  obtain ⟨T17, h17, X17, e17, W17, st17⟩ := stR X16 hx hZ e16 Ar_b2 (j := (4 : Int32)) hin34 rfl Sto34 (g := (mkF m 34 #[.val (.int p1), .unset, .unset, .unset, .unset, .unset] [(.ref w15), (.int (4 : Int32)), (.ref b2), (.ref b2)])) rfl rfl (hb hby at_34)
  have N17 := Fr.snoc X17 N14 g_b2
  have K17 : Keep h0 h17 [] := K14.wr W17 (Or.inr sz_b2)
  have V_b2 := Arv.set Ar_b2 q_b2 Sz_b2 N_b2 H_b2 G_b2 rfl W17 4 rfl (Nat.le_of_ble_eq_true rfl)
  obtain ⟨T19, X19, e19, st19⟩ := getS2 X17 hx hZ hown (host := "") (Or.inl (hw _ (List.mem_of_getElem? (i := 14) rfl))) Via.refl e17 (S_ADDITIONAL_PROPERTIES.ext (own_ext K17)) (g := (mkF m 37 #[.val (.int p1), .unset, .unset, .unset, .unset, .unset] [(.int (5 : Int32)), (.ref b2), (.ref b2)])) rfl (hb hby at_37)
  obtain ⟨cl_40, Ar_b2, q_b2, Sz_b2, N_b2, H_b2, G_b2⟩ := V_b2
  have hin40 : ¬ ((5 : Int32) < 0 ∨ cl_40.slots.size ≤ ((5 : Int32)).toNatClampNeg) := inb_of Sz_b2 ⟨by decide, by decide⟩
  have Sto40 := Sto.ofV Ar_b2 q_b2 O2 (Ins.self (E_w18.ext (own_ext K17)))
  obtain ⟨T20, h20, X20, e20, W20, st20⟩ := stR X19 hx hZ e19 Ar_b2 (j := (5 : Int32)) hin40 rfl Sto40 (g := (mkF m 40 #[.val (.int p1), .unset, .unset, .unset, .unset, .unset] [(.ref w18), (.int (5 : Int32)), (.ref b2), (.ref b2)])) rfl rfl (hb hby at_40)
  have N20 := Fr.snoc X20 N17 g_b2
  have K20 : Keep h0 h20 [] := K17.wr W20 (Or.inr sz_b2)
  have V_b2 := Arv.set Ar_b2 q_b2 Sz_b2 N_b2 H_b2 G_b2 rfl W20 5 rfl (Nat.le_of_ble_eq_true rfl)
  obtain ⟨T22, X22, e22, st22⟩ := getS2 X20 hx hZ hown (host := "") (Or.inl (hw _ (List.mem_of_getElem? (i := 16) rfl))) Via.refl e20 (S_DEFINITION.ext (own_ext K20)) (g := (mkF m 44 #[.val (.int p1), .unset, .unset, .unset, .unset, .unset] [(.int (6 : Int32)), (.ref b2), (.ref b2)])) rfl (hb hby at_44)
  obtain ⟨cl_47, Ar_b2, q_b2, Sz_b2, N_b2, H_b2, G_b2⟩ := V_b2
  have hin47 : ¬ ((6 : Int32) < 0 ∨ cl_47.slots.size ≤ ((6 : Int32)).toNatClampNeg) := inb_of Sz_b2 ⟨by decide, by decide⟩
  have Sto47 := Sto.ofV Ar_b2 q_b2 O2 (Ins.self (E_w21.ext (own_ext K20)))
  obtain ⟨T23, h23, X23, e23, W23, st23⟩ := stR X22 hx hZ e22 Ar_b2 (j := (6 : Int32)) hin47 rfl Sto47 (g := (mkF m 47 #[.val (.int p1), .unset, .unset, .unset, .unset, .unset] [(.ref w21), (.int (6 : Int32)), (.ref b2), (.ref b2)])) rfl rfl (hb hby at_47)
  have N23 := Fr.snoc X23 N20 g_b2
  have K23 : Keep h0 h23 [] := K20.wr W23 (Or.inr sz_b2)
  have V_b2 := Arv.set Ar_b2 q_b2 Sz_b2 N_b2 H_b2 G_b2 rfl W23 6 rfl (Nat.le_of_ble_eq_true rfl)
  obtain ⟨T25, X25, e25, st25⟩ := getS2 X23 hx hZ hown (host := "") (Or.inl (hw _ (List.mem_of_getElem? (i := 18) rfl))) Via.refl e23 (S_UNCLASSIFIED.ext (own_ext K23)) (g := (mkF m 51 #[.val (.int p1), .unset, .unset, .unset, .unset, .unset] [(.int (7 : Int32)), (.ref b2), (.ref b2)])) rfl (hb hby at_51)
  obtain ⟨cl_54, Ar_b2, q_b2, Sz_b2, N_b2, H_b2, G_b2⟩ := V_b2
  have hin54 : ¬ ((7 : Int32) < 0 ∨ cl_54.slots.size ≤ ((7 : Int32)).toNatClampNeg) := inb_of Sz_b2 ⟨by decide, by decide⟩
  have Sto54 := Sto.ofV Ar_b2 q_b2 O2 (Ins.self (E_w24.ext (own_ext K23)))
  obtain ⟨T26, h26, X26, e26, W26, st26⟩ := stR X25 hx hZ e25 Ar_b2 (j := (7 : Int32)) hin54 rfl Sto54 (g := (mkF m 54 #[.val (.int p1), .unset, .unset, .unset, .unset, .unset] [(.ref w24), (.int (7 : Int32)), (.ref b2), (.ref b2)])) rfl rfl (hb hby at_54)
  have N26 := Fr.snoc X26 N23 g_b2
  have K26 : Keep h0 h26 [] := K23.wr W26 (Or.inr sz_b2)
  have V_b2 := Arv.set Ar_b2 q_b2 Sz_b2 N_b2 H_b2 G_b2 rfl W26 7 rfl (Nat.le_of_ble_eq_true rfl)
  obtain ⟨T28, X28, e28, st28⟩ := getS2 X26 hx hZ hown (host := "") (Or.inl (hw _ (List.mem_of_getElem? (i := 20) rfl))) Via.refl e26 (S_ALTERNATIVES.ext (own_ext K26)) (g := (mkF m 58 #[.val (.int p1), .unset, .unset, .unset, .unset, .unset] [(.int (8 : Int32)), (.ref b2), (.ref b2)])) rfl (hb hby at_58)
  obtain ⟨cl_61, Ar_b2, q_b2, Sz_b2, N_b2, H_b2, G_b2⟩ := V_b2
  have hin61 : ¬ ((8 : Int32) < 0 ∨ cl_61.slots.size ≤ ((8 : Int32)).toNatClampNeg) := inb_of Sz_b2 ⟨by decide, by decide⟩
  have Sto61 := Sto.ofV Ar_b2 q_b2 O2 (Ins.self (E_w27.ext (own_ext K26)))
  obtain ⟨T29, h29, X29, e29, W29, st29⟩ := stR X28 hx hZ e28 Ar_b2 (j := (8 : Int32)) hin61 rfl Sto61 (g := (mkF m 61 #[.val (.int p1), .unset, .unset, .unset, .unset, .unset] [(.ref w27), (.int (8 : Int32)), (.ref b2), (.ref b2)])) rfl rfl (hb hby at_61)
  have N29 := Fr.snoc X29 N26 g_b2
  have K29 : Keep h0 h29 [] := K26.wr W29 (Or.inr sz_b2)
  have V_b2 := Arv.set Ar_b2 q_b2 Sz_b2 N_b2 H_b2 G_b2 rfl W29 8 rfl (Nat.le_of_ble_eq_true rfl)
  obtain ⟨T31, X31, e31, st31⟩ := getS2 X29 hx hZ hown (host := "") (Or.inl (hw _ (List.mem_of_getElem? (i := 22) rfl))) Via.refl e29 (S_EXCLUSIVE_ALTERNATIVES.ext (own_ext K29)) (g := (mkF m 65 #[.val (.int p1), .unset, .unset, .unset, .unset, .unset] [(.int (9 : Int32)), (.ref b2), (.ref b2)])) rfl (hb hby at_65)
  obtain ⟨cl_68, Ar_b2, q_b2, Sz_b2, N_b2, H_b2, G_b2⟩ := V_b2
  have hin68 : ¬ ((9 : Int32) < 0 ∨ cl_68.slots.size ≤ ((9 : Int32)).toNatClampNeg) := inb_of Sz_b2 ⟨by decide, by decide⟩
  have Sto68 := Sto.ofV Ar_b2 q_b2 O2 (Ins.self (E_w30.ext (own_ext K29)))
  obtain ⟨T32, h32, X32, e32, W32, st32⟩ := stR X31 hx hZ e31 Ar_b2 (j := (9 : Int32)) hin68 rfl Sto68 (g := (mkF m 68 #[.val (.int p1), .unset, .unset, .unset, .unset, .unset] [(.ref w30), (.int (9 : Int32)), (.ref b2), (.ref b2)])) rfl rfl (hb hby at_68)
  have N32 := Fr.snoc X32 N29 g_b2
  have K32 : Keep h0 h32 [] := K29.wr W32 (Or.inr sz_b2)
  have V_b2 := Arv.set Ar_b2 q_b2 Sz_b2 N_b2 H_b2 G_b2 rfl W32 9 rfl (Nat.le_of_ble_eq_true rfl)
  obtain ⟨T34, X34, e34, st34⟩ := getS2 X32 hx hZ hown (host := "") (Or.inl (hw _ (List.mem_of_getElem? (i := 24) rfl))) Via.refl e32 (S_ATTRIBUTE.ext (own_ext K32)) (g := (mkF m 72 #[.val (.int p1), .unset, .unset, .unset, .unset, .unset] [(.int (10 : Int32)), (.ref b2), (.ref b2)])) rfl (hb hby at_72)
  obtain ⟨cl_75, Ar_b2, q_b2, Sz_b2, N_b2, H_b2, G_b2⟩ := V_b2
  have hin75 : ¬ ((10 : Int32) < 0 ∨ cl_75.slots.size ≤ ((10 : Int32)).toNatClampNeg) := inb_of Sz_b2 ⟨by decide, by decide⟩
  have Sto75 := Sto.ofV Ar_b2 q_b2 O2 (Ins.self (E_w33.ext (own_ext K32)))
  obtain ⟨T35, h35, X35, e35, W35, st35⟩ := stR X34 hx hZ e34 Ar_b2 (j := (10 : Int32)) hin75 rfl Sto75 (g := (mkF m 75 #[.val (.int p1), .unset, .unset, .unset, .unset, .unset] [(.ref w33), (.int (10 : Int32)), (.ref b2), (.ref b2)])) rfl rfl (hb hby at_75)
  have N35 := Fr.snoc X35 N32 g_b2
  have K35 : Keep h0 h35 [] := K32.wr W35 (Or.inr sz_b2)
  have V_b2 := Arv.set Ar_b2 q_b2 Sz_b2 N_b2 H_b2 G_b2 rfl W35 10 rfl (Nat.le_of_ble_eq_true rfl)
  obtain ⟨T37, X37, e37, st37⟩ := getS2 X35 hx hZ hown (host := "") (Or.inl (hw _ (List.mem_of_getElem? (i := 26) rfl))) Via.refl e35 (S_METRIC.ext (own_ext K35)) (g := (mkF m 79 #[.val (.int p1), .unset, .unset, .unset, .unset, .unset] [(.int (11 : Int32)), (.ref b2), (.ref b2)])) rfl (hb hby at_79)
  obtain ⟨cl_82, Ar_b2, q_b2, Sz_b2, N_b2, H_b2, G_b2⟩ := V_b2
  have hin82 : ¬ ((11 : Int32) < 0 ∨ cl_82.slots.size ≤ ((11 : Int32)).toNatClampNeg) := inb_of Sz_b2 ⟨by decide, by decide⟩
  have Sto82 := Sto.ofV Ar_b2 q_b2 O2 (Ins.self (E_w36.ext (own_ext K35)))
  obtain ⟨T38, h38, X38, e38, W38, st38⟩ := stR X37 hx hZ e37 Ar_b2 (j := (11 : Int32)) hin82 rfl Sto82 (g := (mkF m 82 #[.val (.int p1), .unset, .unset, .unset, .unset, .unset] [(.ref w36), (.int (11 : Int32)), (.ref b2), (.ref b2)])) rfl rfl (hb hby at_82)
  have N38 := Fr.snoc X38 N35 g_b2
  have K38 : Keep h0 h38 [] := K35.wr W38 (Or.inr sz_b2)
  have V_b2 := Arv.set Ar_b2 q_b2 Sz_b2 N_b2 H_b2 G_b2 rfl W38 11 rfl (Nat.le_of_ble_eq_true rfl)
  obtain ⟨T40, X40, e40, st40⟩ := getS2 X38 hx hZ hown (host := "") (Or.inl (hw _ (List.mem_of_getElem? (i := 28) rfl))) Via.refl e38 (S_SPAN.ext (own_ext K38)) (g := (mkF m 86 #[.val (.int p1), .unset, .unset, .unset, .unset, .unset] [(.int (12 : Int32)), (.ref b2), (.ref b2)])) rfl (hb hby at_86)
  obtain ⟨cl_89, Ar_b2, q_b2, Sz_b2, N_b2, H_b2, G_b2⟩ := V_b2
  have hin89 : ¬ ((12 : Int32) < 0 ∨ cl_89.slots.size ≤ ((12 : Int32)).toNatClampNeg) := inb_of Sz_b2 ⟨by decide, by decide⟩
  have Sto89 := Sto.ofV Ar_b2 q_b2 O2 (Ins.self (E_w39.ext (own_ext K38)))
  obtain ⟨T41, h41, X41, e41, W41, st41⟩ := stR X40 hx hZ e40 Ar_b2 (j := (12 : Int32)) hin89 rfl Sto89 (g := (mkF m 89 #[.val (.int p1), .unset, .unset, .unset, .unset, .unset] [(.ref w39), (.int (12 : Int32)), (.ref b2), (.ref b2)])) rfl rfl (hb hby at_89)
  have N41 := Fr.snoc X41 N38 g_b2
  have K41 : Keep h0 h41 [] := K38.wr W41 (Or.inr sz_b2)
  have V_b2 := Arv.set Ar_b2 q_b2 Sz_b2 N_b2 H_b2 G_b2 rfl W41 12 rfl (Nat.le_of_ble_eq_true rfl)
  obtain ⟨T43, X43, e43, st43⟩ := getS2 X41 hx hZ hown (host := "") (Or.inl (hw _ (List.mem_of_getElem? (i := 30) rfl))) Via.refl e41 (S_EVENT.ext (own_ext K41)) (g := (mkF m 93 #[.val (.int p1), .unset, .unset, .unset, .unset, .unset] [(.int (13 : Int32)), (.ref b2), (.ref b2)])) rfl (hb hby at_93)
  obtain ⟨cl_96, Ar_b2, q_b2, Sz_b2, N_b2, H_b2, G_b2⟩ := V_b2
  have hin96 : ¬ ((13 : Int32) < 0 ∨ cl_96.slots.size ≤ ((13 : Int32)).toNatClampNeg) := inb_of Sz_b2 ⟨by decide, by decide⟩
  have Sto96 := Sto.ofV Ar_b2 q_b2 O2 (Ins.self (E_w42.ext (own_ext K41)))
  obtain ⟨T44, h44, X44, e44, W44, st44⟩ := stR X43 hx hZ e43 Ar_b2 (j := (13 : Int32)) hin96 rfl Sto96 (g := (mkF m 96 #[.val (.int p1), .unset, .unset, .unset, .unset, .unset] [(.ref w42), (.int (13 : Int32)), (.ref b2), (.ref b2)])) rfl rfl (hb hby at_96)
  have N44 := Fr.snoc X44 N41 g_b2
  have K44 : Keep h0 h44 [] := K41.wr W44 (Or.inr sz_b2)
  have V_b2 := Arv.set Ar_b2 q_b2 Sz_b2 N_b2 H_b2 G_b2 rfl W44 13 rfl (Nat.le_of_ble_eq_true rfl)
  obtain ⟨T46, X46, e46, st46⟩ := getS2 X44 hx hZ hown (host := "") (Or.inl (hw _ (List.mem_of_getElem? (i := 32) rfl))) Via.refl e44 (S_ENTITY.ext (own_ext K44)) (g := (mkF m 100 #[.val (.int p1), .unset, .unset, .unset, .unset, .unset] [(.int (14 : Int32)), (.ref b2), (.ref b2)])) rfl (hb hby at_100)
  obtain ⟨cl_103, Ar_b2, q_b2, Sz_b2, N_b2, H_b2, G_b2⟩ := V_b2
  have hin103 : ¬ ((14 : Int32) < 0 ∨ cl_103.slots.size ≤ ((14 : Int32)).toNatClampNeg) := inb_of Sz_b2 ⟨by decide, by decide⟩
  have Sto103 := Sto.ofV Ar_b2 q_b2 O2 (Ins.self (E_w45.ext (own_ext K44)))
  obtain ⟨T47, h47, X47, e47, W47, st47⟩ := stR X46 hx hZ e46 Ar_b2 (j := (14 : Int32)) hin103 rfl Sto103 (g := (mkF m 103 #[.val (.int p1), .unset, .unset, .unset, .unset, .unset] [(.ref w45), (.int (14 : Int32)), (.ref b2), (.ref b2)])) rfl rfl (hb hby at_103)
  have N47 := Fr.snoc X47 N44 g_b2
  have K47 : Keep h0 h47 [] := K44.wr W47 (Or.inr sz_b2)
  have V_b2 := Arv.set Ar_b2 q_b2 Sz_b2 N_b2 H_b2 G_b2 rfl W47 14 rfl (Nat.le_of_ble_eq_true rfl)
  have Z47 : n0 ≤ h47.size := Nat.le_trans Z0 K47.1
  obtain ⟨cl_115, Ar_b2, q_b2, Sz_b2, N_b2, H_b2, G_b2⟩ := V_b2
  have hin115 : ¬ ((HMod.hMod (p1 &&& (2147483647 : Int32)) (15 : Int32)) < 0 ∨ cl_115.slots.size ≤ (HMod.hMod (p1 &&& (2147483647 : Int32)) (15 : Int32)).toNatClampNeg) := inb_of Sz_b2 ⟨hp0, hp5⟩
  have hat115 := Has.at H_b2 hin115 hsel
  obtain ⟨cq49, kq49, q49a, q49b, q49c⟩ := isOf hZ e47 (E_w48.ext (own_ext K47))
  obtain ⟨_, _, ⟨T49, L49, k49, n49⟩, -, X49, ⟨Lc49, hQ49, l49, y49, z49⟩, st49⟩ := X47.virtualBack hx (y := (⟨"com/example/rev3/rev3/change/ElementKind", "isAlternatives", "()Z"⟩ : MethodName)) (z := (⟨"com/example/rev3/rev3/change/ElementKind", "isAlternatives", "()Z"⟩ : MethodName)) hown (mvT hZ (hw _ (List.mem_of_getElem? (i := 35) rfl))) (mvT hZ (hw _ (List.mem_of_getElem? (i := 36) rfl))) (notFace_of_selects (args := #[]) (mvT hZ (hw _ (List.mem_of_getElem? (i := 38) rfl)))) (mvT hZ (hw _ (List.mem_of_getElem? (i := 38) rfl))) (mvT hZ (hw _ (List.mem_of_getElem? (i := 37) rfl))) (by decide) (backOf (W := 0) (rm1o l Z a0 hw [] w48 w27 w30 h47 n0 Z47 (S_ALTERNATIVES.ext (own_ext K47)) (S_EXCLUSIVE_ALTERNATIVES.ext (own_ext K47)) hk1 hk2) hZ (hw _ (List.mem_of_getElem? (i := 39) rfl)) (hw _ (List.mem_of_getElem? (i := 3) rfl)) (by decide) (by decide)) q49a q49c (g := (mkF m 137 #[.val (.int p1), .val (.ref b2), .val (.int (HMod.hMod (p1 &&& (2147483647 : Int32)) (15 : Int32))), .val (.ref w48), .val (.int (0 : Int32)), .unset] [(.ref w48)])) rfl (by rw [hml]; rfl) (Steps.refl _) (argsL := []) (rest := []) (lenOf pd_0_0 rfl) rfl (by show 2 * 0 + _ ≤ _; exact Nat.le_of_eq rfl) (hb hby at_137) (fun _ _ => ⟨rfl, e47, (Nat.le_of_ble_eq_true rfl), (Nat.le_of_ble_eq_true rfl)⟩)
  dsimp only [Pt.U, Pt.locs, Pt.cells, Pt.slots] at X49 l49 y49 z49 st49 hQ49
  subst l49 y49 z49
  obtain ⟨rfl, N49q, eq49⟩ := hQ49
  have N49 := Fr.app N47 N49q
  obtain ⟨fs, hr, hrun, hended, hW, hsame⟩ := X49.leave (v := some (.int (1 : Int32))) (fun h => by rw [Bd.returns] at h; cases h)
  refine ⟨_, _, pre0 _ ?_, hrun, hended, _, _, rfl, ?_, ⟨_, rfl⟩, hW, hsame.mono (by decide) (by decide)⟩
  · show Steps p.tables e below (s₁.setTop (mkF m 0 #[.val (.int p1), .unset, .unset, .unset, .unset, .unset] [])) _
    refine XS.bipush X0.here hx rfl (hb hby at_0) ?_
    show Steps p.tables e below (s₁.setTop (mkF m 2 #[.val (.int p1), .unset, .unset, .unset, .unset, .unset] [(.int (15 : Int32))])) _
    refine st2 _ ?_
    show Steps p.tables e below (T2.setTop (mkF m 5 #[.val (.int p1), .unset, .unset, .unset, .unset, .unset] [(.ref b2)])) _
    refine XS.dup X2.here hx rfl (hb hby at_5) rfl rfl ?_
    show Steps p.tables e below (T2.setTop (mkF m 6 #[.val (.int p1), .unset, .unset, .unset, .unset, .unset] [(.ref b2), (.ref b2)])) _
    refine XS.iconst X2.here hx rfl (hb hby at_6) ?_
    show Steps p.tables e below (T2.setTop (mkF m 7 #[.val (.int p1), .unset, .unset, .unset, .unset, .unset] [(.int (0 : Int32)), (.ref b2), (.ref b2)])) _
    refine st4 _ ?_
    show Steps p.tables e below (T4.setTop (mkF m 10 #[.val (.int p1), .unset, .unset, .unset, .unset, .unset] [(.ref w3), (.int (0 : Int32)), (.ref b2), (.ref b2)])) _
    refine st5 _ ?_
    show Steps p.tables e below (T5.setTop (mkF m 11 #[.val (.int p1), .unset, .unset, .unset, .unset, .unset] [(.ref b2)])) _
    refine XS.dup X5.here hx rfl (hb hby at_11) rfl rfl ?_
    show Steps p.tables e below (T5.setTop (mkF m 12 #[.val (.int p1), .unset, .unset, .unset, .unset, .unset] [(.ref b2), (.ref b2)])) _
    refine XS.iconst X5.here hx rfl (hb hby at_12) ?_
    show Steps p.tables e below (T5.setTop (mkF m 13 #[.val (.int p1), .unset, .unset, .unset, .unset, .unset] [(.int (1 : Int32)), (.ref b2), (.ref b2)])) _
    refine st7 _ ?_
    show Steps p.tables e below (T7.setTop (mkF m 16 #[.val (.int p1), .unset, .unset, .unset, .unset, .unset] [(.ref w6), (.int (1 : Int32)), (.ref b2), (.ref b2)])) _
    refine st8 _ ?_
    show Steps p.tables e below (T8.setTop (mkF m 17 #[.val (.int p1), .unset, .unset, .unset, .unset, .unset] [(.ref b2)])) _
    refine XS.dup X8.here hx rfl (hb hby at_17) rfl rfl ?_
    show Steps p.tables e below (T8.setTop (mkF m 18 #[.val (.int p1), .unset, .unset, .unset, .unset, .unset] [(.ref b2), (.ref b2)])) _
    refine XS.iconst X8.here hx rfl (hb hby at_18) ?_
    show Steps p.tables e below (T8.setTop (mkF m 19 #[.val (.int p1), .unset, .unset, .unset, .unset, .unset] [(.int (2 : Int32)), (.ref b2), (.ref b2)])) _
    refine st10 _ ?_
    show Steps p.tables e below (T10.setTop (mkF m 22 #[.val (.int p1), .unset, .unset, .unset, .unset, .unset] [(.ref w9), (.int (2 : Int32)), (.ref b2), (.ref b2)])) _
    refine st11 _ ?_
    show Steps p.tables e below (T11.setTop (mkF m 23 #[.val (.int p1), .unset, .unset, .unset, .unset, .unset] [(.ref b2)])) _
    refine XS.dup X11.here hx rfl (hb hby at_23) rfl rfl ?_
    show Steps p.tables e below (T11.setTop (mkF m 24 #[.val (.int p1), .unset, .unset, .unset, .unset, .unset] [(.ref b2), (.ref b2)])) _
    refine XS.iconst X11.here hx rfl (hb hby at_24) ?_
    show Steps p.tables e below (T11.setTop (mkF m 25 #[.val (.int p1), .unset, .unset, .unset, .unset, .unset] [(.int (3 : Int32)), (.ref b2), (.ref b2)])) _
    refine st13 _ ?_
    show Steps p.tables e below (T13.setTop (mkF m 28 #[.val (.int p1), .unset, .unset, .unset, .unset, .unset] [(.ref w12), (.int (3 : Int32)), (.ref b2), (.ref b2)])) _
    refine st14 _ ?_
    show Steps p.tables e below (T14.setTop (mkF m 29 #[.val (.int p1), .unset, .unset, .unset, .unset, .unset] [(.ref b2)])) _
    refine XS.dup X14.here hx rfl (hb hby at_29) rfl rfl ?_
    show Steps p.tables e below (T14.setTop (mkF m 30 #[.val (.int p1), .unset, .unset, .unset, .unset, .unset] [(.ref b2), (.ref b2)])) _
    refine XS.iconst X14.here hx rfl (hb hby at_30) ?_
    show Steps p.tables e below (T14.setTop (mkF m 31 #[.val (.int p1), .unset, .unset, .unset, .unset, .unset] [(.int (4 : Int32)), (.ref b2), (.ref b2)])) _
    refine st16 _ ?_
    show Steps p.tables e below (T16.setTop (mkF m 34 #[.val (.int p1), .unset, .unset, .unset, .unset, .unset] [(.ref w15), (.int (4 : Int32)), (.ref b2), (.ref b2)])) _
    refine st17 _ ?_
    show Steps p.tables e below (T17.setTop (mkF m 35 #[.val (.int p1), .unset, .unset, .unset, .unset, .unset] [(.ref b2)])) _
    refine XS.dup X17.here hx rfl (hb hby at_35) rfl rfl ?_
    show Steps p.tables e below (T17.setTop (mkF m 36 #[.val (.int p1), .unset, .unset, .unset, .unset, .unset] [(.ref b2), (.ref b2)])) _
    refine XS.iconst X17.here hx rfl (hb hby at_36) ?_
    show Steps p.tables e below (T17.setTop (mkF m 37 #[.val (.int p1), .unset, .unset, .unset, .unset, .unset] [(.int (5 : Int32)), (.ref b2), (.ref b2)])) _
    refine st19 _ ?_
    show Steps p.tables e below (T19.setTop (mkF m 40 #[.val (.int p1), .unset, .unset, .unset, .unset, .unset] [(.ref w18), (.int (5 : Int32)), (.ref b2), (.ref b2)])) _
    refine st20 _ ?_
    show Steps p.tables e below (T20.setTop (mkF m 41 #[.val (.int p1), .unset, .unset, .unset, .unset, .unset] [(.ref b2)])) _
    refine XS.dup X20.here hx rfl (hb hby at_41) rfl rfl ?_
    show Steps p.tables e below (T20.setTop (mkF m 42 #[.val (.int p1), .unset, .unset, .unset, .unset, .unset] [(.ref b2), (.ref b2)])) _
    refine XS.bipush X20.here hx rfl (hb hby at_42) ?_
    show Steps p.tables e below (T20.setTop (mkF m 44 #[.val (.int p1), .unset, .unset, .unset, .unset, .unset] [(.int (6 : Int32)), (.ref b2), (.ref b2)])) _
    refine st22 _ ?_
    show Steps p.tables e below (T22.setTop (mkF m 47 #[.val (.int p1), .unset, .unset, .unset, .unset, .unset] [(.ref w21), (.int (6 : Int32)), (.ref b2), (.ref b2)])) _
    refine st23 _ ?_
    show Steps p.tables e below (T23.setTop (mkF m 48 #[.val (.int p1), .unset, .unset, .unset, .unset, .unset] [(.ref b2)])) _
    refine XS.dup X23.here hx rfl (hb hby at_48) rfl rfl ?_
    show Steps p.tables e below (T23.setTop (mkF m 49 #[.val (.int p1), .unset, .unset, .unset, .unset, .unset] [(.ref b2), (.ref b2)])) _
    refine XS.bipush X23.here hx rfl (hb hby at_49) ?_
    show Steps p.tables e below (T23.setTop (mkF m 51 #[.val (.int p1), .unset, .unset, .unset, .unset, .unset] [(.int (7 : Int32)), (.ref b2), (.ref b2)])) _
    refine st25 _ ?_
    show Steps p.tables e below (T25.setTop (mkF m 54 #[.val (.int p1), .unset, .unset, .unset, .unset, .unset] [(.ref w24), (.int (7 : Int32)), (.ref b2), (.ref b2)])) _
    refine st26 _ ?_
    show Steps p.tables e below (T26.setTop (mkF m 55 #[.val (.int p1), .unset, .unset, .unset, .unset, .unset] [(.ref b2)])) _
    refine XS.dup X26.here hx rfl (hb hby at_55) rfl rfl ?_
    show Steps p.tables e below (T26.setTop (mkF m 56 #[.val (.int p1), .unset, .unset, .unset, .unset, .unset] [(.ref b2), (.ref b2)])) _
    refine XS.bipush X26.here hx rfl (hb hby at_56) ?_
    show Steps p.tables e below (T26.setTop (mkF m 58 #[.val (.int p1), .unset, .unset, .unset, .unset, .unset] [(.int (8 : Int32)), (.ref b2), (.ref b2)])) _
    refine st28 _ ?_
    show Steps p.tables e below (T28.setTop (mkF m 61 #[.val (.int p1), .unset, .unset, .unset, .unset, .unset] [(.ref w27), (.int (8 : Int32)), (.ref b2), (.ref b2)])) _
    refine st29 _ ?_
    show Steps p.tables e below (T29.setTop (mkF m 62 #[.val (.int p1), .unset, .unset, .unset, .unset, .unset] [(.ref b2)])) _
    refine XS.dup X29.here hx rfl (hb hby at_62) rfl rfl ?_
    show Steps p.tables e below (T29.setTop (mkF m 63 #[.val (.int p1), .unset, .unset, .unset, .unset, .unset] [(.ref b2), (.ref b2)])) _
    refine XS.bipush X29.here hx rfl (hb hby at_63) ?_
    show Steps p.tables e below (T29.setTop (mkF m 65 #[.val (.int p1), .unset, .unset, .unset, .unset, .unset] [(.int (9 : Int32)), (.ref b2), (.ref b2)])) _
    refine st31 _ ?_
    show Steps p.tables e below (T31.setTop (mkF m 68 #[.val (.int p1), .unset, .unset, .unset, .unset, .unset] [(.ref w30), (.int (9 : Int32)), (.ref b2), (.ref b2)])) _
    refine st32 _ ?_
    show Steps p.tables e below (T32.setTop (mkF m 69 #[.val (.int p1), .unset, .unset, .unset, .unset, .unset] [(.ref b2)])) _
    refine XS.dup X32.here hx rfl (hb hby at_69) rfl rfl ?_
    show Steps p.tables e below (T32.setTop (mkF m 70 #[.val (.int p1), .unset, .unset, .unset, .unset, .unset] [(.ref b2), (.ref b2)])) _
    refine XS.bipush X32.here hx rfl (hb hby at_70) ?_
    show Steps p.tables e below (T32.setTop (mkF m 72 #[.val (.int p1), .unset, .unset, .unset, .unset, .unset] [(.int (10 : Int32)), (.ref b2), (.ref b2)])) _
    refine st34 _ ?_
    show Steps p.tables e below (T34.setTop (mkF m 75 #[.val (.int p1), .unset, .unset, .unset, .unset, .unset] [(.ref w33), (.int (10 : Int32)), (.ref b2), (.ref b2)])) _
    refine st35 _ ?_
    show Steps p.tables e below (T35.setTop (mkF m 76 #[.val (.int p1), .unset, .unset, .unset, .unset, .unset] [(.ref b2)])) _
    refine XS.dup X35.here hx rfl (hb hby at_76) rfl rfl ?_
    show Steps p.tables e below (T35.setTop (mkF m 77 #[.val (.int p1), .unset, .unset, .unset, .unset, .unset] [(.ref b2), (.ref b2)])) _
    refine XS.bipush X35.here hx rfl (hb hby at_77) ?_
    show Steps p.tables e below (T35.setTop (mkF m 79 #[.val (.int p1), .unset, .unset, .unset, .unset, .unset] [(.int (11 : Int32)), (.ref b2), (.ref b2)])) _
    refine st37 _ ?_
    show Steps p.tables e below (T37.setTop (mkF m 82 #[.val (.int p1), .unset, .unset, .unset, .unset, .unset] [(.ref w36), (.int (11 : Int32)), (.ref b2), (.ref b2)])) _
    refine st38 _ ?_
    show Steps p.tables e below (T38.setTop (mkF m 83 #[.val (.int p1), .unset, .unset, .unset, .unset, .unset] [(.ref b2)])) _
    refine XS.dup X38.here hx rfl (hb hby at_83) rfl rfl ?_
    show Steps p.tables e below (T38.setTop (mkF m 84 #[.val (.int p1), .unset, .unset, .unset, .unset, .unset] [(.ref b2), (.ref b2)])) _
    refine XS.bipush X38.here hx rfl (hb hby at_84) ?_
    show Steps p.tables e below (T38.setTop (mkF m 86 #[.val (.int p1), .unset, .unset, .unset, .unset, .unset] [(.int (12 : Int32)), (.ref b2), (.ref b2)])) _
    refine st40 _ ?_
    show Steps p.tables e below (T40.setTop (mkF m 89 #[.val (.int p1), .unset, .unset, .unset, .unset, .unset] [(.ref w39), (.int (12 : Int32)), (.ref b2), (.ref b2)])) _
    refine st41 _ ?_
    show Steps p.tables e below (T41.setTop (mkF m 90 #[.val (.int p1), .unset, .unset, .unset, .unset, .unset] [(.ref b2)])) _
    refine XS.dup X41.here hx rfl (hb hby at_90) rfl rfl ?_
    show Steps p.tables e below (T41.setTop (mkF m 91 #[.val (.int p1), .unset, .unset, .unset, .unset, .unset] [(.ref b2), (.ref b2)])) _
    refine XS.bipush X41.here hx rfl (hb hby at_91) ?_
    show Steps p.tables e below (T41.setTop (mkF m 93 #[.val (.int p1), .unset, .unset, .unset, .unset, .unset] [(.int (13 : Int32)), (.ref b2), (.ref b2)])) _
    refine st43 _ ?_
    show Steps p.tables e below (T43.setTop (mkF m 96 #[.val (.int p1), .unset, .unset, .unset, .unset, .unset] [(.ref w42), (.int (13 : Int32)), (.ref b2), (.ref b2)])) _
    refine st44 _ ?_
    show Steps p.tables e below (T44.setTop (mkF m 97 #[.val (.int p1), .unset, .unset, .unset, .unset, .unset] [(.ref b2)])) _
    refine XS.dup X44.here hx rfl (hb hby at_97) rfl rfl ?_
    show Steps p.tables e below (T44.setTop (mkF m 98 #[.val (.int p1), .unset, .unset, .unset, .unset, .unset] [(.ref b2), (.ref b2)])) _
    refine XS.bipush X44.here hx rfl (hb hby at_98) ?_
    show Steps p.tables e below (T44.setTop (mkF m 100 #[.val (.int p1), .unset, .unset, .unset, .unset, .unset] [(.int (14 : Int32)), (.ref b2), (.ref b2)])) _
    refine st46 _ ?_
    show Steps p.tables e below (T46.setTop (mkF m 103 #[.val (.int p1), .unset, .unset, .unset, .unset, .unset] [(.ref w45), (.int (14 : Int32)), (.ref b2), (.ref b2)])) _
    refine st47 _ ?_
    show Steps p.tables e below (T47.setTop (mkF m 104 #[.val (.int p1), .unset, .unset, .unset, .unset, .unset] [(.ref b2)])) _
    refine XS.astoreN X47.here hx rfl (hb hby at_104) rfl rfl (l' := #[.val (.int p1), .val (.ref b2), .unset, .unset, .unset, .unset]) rfl ?_
    show Steps p.tables e below (T47.setTop (mkF m 105 #[.val (.int p1), .val (.ref b2), .unset, .unset, .unset, .unset] [])) _
    refine XS.iloadN X47.here hx rfl (hb hby at_105) rfl ?_
    show Steps p.tables e below (T47.setTop (mkF m 106 #[.val (.int p1), .val (.ref b2), .unset, .unset, .unset, .unset] [(.int p1)])) _
    refine X47.ldcI hx hown (mvT hZ (hw _ (List.mem_of_getElem? (i := 34) rfl))) (g := (mkF m 106 #[.val (.int p1), .val (.ref b2), .unset, .unset, .unset, .unset] [(.int p1)])) rfl (hb hby at_106) ?_
    show Steps p.tables e below (T47.setTop (mkF m 108 #[.val (.int p1), .val (.ref b2), .unset, .unset, .unset, .unset] [(.int (2147483647 : Int32)), (.int p1)])) _
    refine XS.iand X47.here hx rfl (hb hby at_108) rfl ?_
    show Steps p.tables e below (T47.setTop (mkF m 109 #[.val (.int p1), .val (.ref b2), .unset, .unset, .unset, .unset] [(.int (p1 &&& (2147483647 : Int32)))])) _
    refine XS.bipush X47.here hx rfl (hb hby at_109) ?_
    show Steps p.tables e below (T47.setTop (mkF m 111 #[.val (.int p1), .val (.ref b2), .unset, .unset, .unset, .unset] [(.int (15 : Int32)), (.int (p1 &&& (2147483647 : Int32)))])) _
    refine iremM X47 hx (g := (mkF m 111 #[.val (.int p1), .val (.ref b2), .unset, .unset, .unset, .unset] [(.int (15 : Int32)), (.int (p1 &&& (2147483647 : Int32)))])) rfl (hb hby at_111) rfl (by decide) ?_
    show Steps p.tables e below (T47.setTop (mkF m 112 #[.val (.int p1), .val (.ref b2), .unset, .unset, .unset, .unset] [(.int (HMod.hMod (p1 &&& (2147483647 : Int32)) (15 : Int32)))])) _
    refine XS.istoreN X47.here hx rfl (hb hby at_112) rfl (l' := #[.val (.int p1), .val (.ref b2), .val (.int (HMod.hMod (p1 &&& (2147483647 : Int32)) (15 : Int32))), .unset, .unset, .unset]) rfl ?_
    show Steps p.tables e below (T47.setTop (mkF m 113 #[.val (.int p1), .val (.ref b2), .val (.int (HMod.hMod (p1 &&& (2147483647 : Int32)) (15 : Int32))), .unset, .unset, .unset] [])) _
    refine XS.aloadN X47.here hx rfl (hb hby at_113) rfl rfl ?_
    show Steps p.tables e below (T47.setTop (mkF m 114 #[.val (.int p1), .val (.ref b2), .val (.int (HMod.hMod (p1 &&& (2147483647 : Int32)) (15 : Int32))), .unset, .unset, .unset] [(.ref b2)])) _
    refine XS.iloadN X47.here hx rfl (hb hby at_114) rfl ?_
    show Steps p.tables e below (T47.setTop (mkF m 115 #[.val (.int p1), .val (.ref b2), .val (.int (HMod.hMod (p1 &&& (2147483647 : Int32)) (15 : Int32))), .unset, .unset, .unset] [(.int (HMod.hMod (p1 &&& (2147483647 : Int32)) (15 : Int32))), (.ref b2)])) _
    refine X47.aaload hx (j := (HMod.hMod (p1 &&& (2147483647 : Int32)) (15 : Int32))) (v := (.ref w48)) (by rw [e47]; exact Ar_b2.1) (State.isArrayOf_alike hZ.alike Ar_b2.2.1) rfl Ar_b2.2.2 hin115 hat115 (g := (mkF m 115 #[.val (.int p1), .val (.ref b2), .val (.int (HMod.hMod (p1 &&& (2147483647 : Int32)) (15 : Int32))), .unset, .unset, .unset] [(.int (HMod.hMod (p1 &&& (2147483647 : Int32)) (15 : Int32))), (.ref b2)])) rfl rfl (hb hby at_115) _ ?_
    show Steps p.tables e below (T47.setTop (mkF m 116 #[.val (.int p1), .val (.ref b2), .val (.int (HMod.hMod (p1 &&& (2147483647 : Int32)) (15 : Int32))), .unset, .unset, .unset] [(.ref w48)])) _
    refine XS.astoreN X47.here hx rfl (hb hby at_116) rfl rfl (l' := #[.val (.int p1), .val (.ref b2), .val (.int (HMod.hMod (p1 &&& (2147483647 : Int32)) (15 : Int32))), .val (.ref w48), .unset, .unset]) rfl ?_
    show Steps p.tables e below (T47.setTop (mkF m 117 #[.val (.int p1), .val (.ref b2), .val (.int (HMod.hMod (p1 &&& (2147483647 : Int32)) (15 : Int32))), .val (.ref w48), .unset, .unset] [])) _
    refine XS.iloadN X47.here hx rfl (hb hby at_117) rfl ?_
    show Steps p.tables e below (T47.setTop (mkF m 118 #[.val (.int p1), .val (.ref b2), .val (.int (HMod.hMod (p1 &&& (2147483647 : Int32)) (15 : Int32))), .val (.ref w48), .unset, .unset] [(.int (HMod.hMod (p1 &&& (2147483647 : Int32)) (15 : Int32)))])) _
    refine XS.bipush X47.here hx rfl (hb hby at_118) ?_
    show Steps p.tables e below (T47.setTop (mkF m 120 #[.val (.int p1), .val (.ref b2), .val (.int (HMod.hMod (p1 &&& (2147483647 : Int32)) (15 : Int32))), .val (.ref w48), .unset, .unset] [(.int (8 : Int32)), (.int (HMod.hMod (p1 &&& (2147483647 : Int32)) (15 : Int32)))])) _
    refine XS.icmpNo X47.here hx rfl (hb hby at_120) rfl (feq hc120).1 ?_
    show Steps p.tables e below (T47.setTop (mkF m 123 #[.val (.int p1), .val (.ref b2), .val (.int (HMod.hMod (p1 &&& (2147483647 : Int32)) (15 : Int32))), .val (.ref w48), .unset, .unset] [])) _
    refine XS.iloadN X47.here hx rfl (hb hby at_123) rfl ?_
    show Steps p.tables e below (T47.setTop (mkF m 124 #[.val (.int p1), .val (.ref b2), .val (.int (HMod.hMod (p1 &&& (2147483647 : Int32)) (15 : Int32))), .val (.ref w48), .unset, .unset] [(.int (HMod.hMod (p1 &&& (2147483647 : Int32)) (15 : Int32)))])) _
    refine XS.bipush X47.here hx rfl (hb hby at_124) ?_
    show Steps p.tables e below (T47.setTop (mkF m 126 #[.val (.int p1), .val (.ref b2), .val (.int (HMod.hMod (p1 &&& (2147483647 : Int32)) (15 : Int32))), .val (.ref w48), .unset, .unset] [(.int (9 : Int32)), (.int (HMod.hMod (p1 &&& (2147483647 : Int32)) (15 : Int32)))])) _
    refine XS.icmpYes X47.here hx rfl (pc0 := 126) (pc' := 133) rfl (hb hby at_126) rfl (feq hc126).2 (by decide) (by decide) ?_
    show Steps p.tables e below (T47.setTop (mkF m 133 #[.val (.int p1), .val (.ref b2), .val (.int (HMod.hMod (p1 &&& (2147483647 : Int32)) (15 : Int32))), .val (.ref w48), .unset, .unset] [])) _
    refine XS.iconst X47.here hx rfl (hb hby at_133) ?_
    show Steps p.tables e below (T47.setTop (mkF m 134 #[.val (.int p1), .val (.ref b2), .val (.int (HMod.hMod (p1 &&& (2147483647 : Int32)) (15 : Int32))), .val (.ref w48), .unset, .unset] [(.int (0 : Int32))])) _
    refine XS.istore X47.here hx rfl (hb hby at_134) rfl (l' := #[.val (.int p1), .val (.ref b2), .val (.int (HMod.hMod (p1 &&& (2147483647 : Int32)) (15 : Int32))), .val (.ref w48), .val (.int (0 : Int32)), .unset]) rfl ?_
    show Steps p.tables e below (T47.setTop (mkF m 136 #[.val (.int p1), .val (.ref b2), .val (.int (HMod.hMod (p1 &&& (2147483647 : Int32)) (15 : Int32))), .val (.ref w48), .val (.int (0 : Int32)), .unset] [])) _
    refine XS.aloadN X47.here hx rfl (hb hby at_136) rfl rfl ?_
    show Steps p.tables e below (T47.setTop (mkF m 137 #[.val (.int p1), .val (.ref b2), .val (.int (HMod.hMod (p1 &&& (2147483647 : Int32)) (15 : Int32))), .val (.ref w48), .val (.int (0 : Int32)), .unset] [(.ref w48)])) _
    refine st49.trans ?_
    show Steps p.tables e below (T49.setTop (mkF m 140 #[.val (.int p1), .val (.ref b2), .val (.int (HMod.hMod (p1 &&& (2147483647 : Int32)) (15 : Int32))), .val (.ref w48), .val (.int (0 : Int32)), .unset] [(.int (0 : Int32))])) _
    refine XS.istore X49.here hx rfl (hb hby at_140) rfl (l' := #[.val (.int p1), .val (.ref b2), .val (.int (HMod.hMod (p1 &&& (2147483647 : Int32)) (15 : Int32))), .val (.ref w48), .val (.int (0 : Int32)), .val (.int (0 : Int32))]) rfl ?_
    show Steps p.tables e below (T49.setTop (mkF m 142 #[.val (.int p1), .val (.ref b2), .val (.int (HMod.hMod (p1 &&& (2147483647 : Int32)) (15 : Int32))), .val (.ref w48), .val (.int (0 : Int32)), .val (.int (0 : Int32))] [])) _
    refine XS.iload X49.here hx rfl (hb hby at_142) rfl ?_
    show Steps p.tables e below (T49.setTop (mkF m 144 #[.val (.int p1), .val (.ref b2), .val (.int (HMod.hMod (p1 &&& (2147483647 : Int32)) (15 : Int32))), .val (.ref w48), .val (.int (0 : Int32)), .val (.int (0 : Int32))] [(.int (0 : Int32))])) _
    refine XS.iload X49.here hx rfl (hb hby at_144) rfl ?_
    show Steps p.tables e below (T49.setTop (mkF m 146 #[.val (.int p1), .val (.ref b2), .val (.int (HMod.hMod (p1 &&& (2147483647 : Int32)) (15 : Int32))), .val (.ref w48), .val (.int (0 : Int32)), .val (.int (0 : Int32))] [(.int (0 : Int32)), (.int (0 : Int32))])) _
    refine XS.icmpYes X49.here hx rfl (pc0 := 146) (pc' := 151) rfl (hb hby at_146) rfl (teq (by decide : (0 : Int32) = (0 : Int32))).1 (by decide) (by decide) ?_
    show Steps p.tables e below (T49.setTop (mkF m 151 #[.val (.int p1), .val (.ref b2), .val (.int (HMod.hMod (p1 &&& (2147483647 : Int32)) (15 : Int32))), .val (.ref w48), .val (.int (0 : Int32)), .val (.int (0 : Int32))] [])) _
    refine XS.iload X49.here hx rfl (hb hby at_151) rfl ?_
    show Steps p.tables e below (T49.setTop (mkF m 153 #[.val (.int p1), .val (.ref b2), .val (.int (HMod.hMod (p1 &&& (2147483647 : Int32)) (15 : Int32))), .val (.ref w48), .val (.int (0 : Int32)), .val (.int (0 : Int32))] [(.int (0 : Int32))])) _
    refine XS.ifYes X49.here hx rfl (pc0 := 153) (pc' := 182) rfl (hb hby at_153) rfl ((if0 _ _).trans (teq (by decide : (0 : Int32) = (0 : Int32))).1) (by decide) (by decide) ?_
    show Steps p.tables e below (T49.setTop (mkF m 182 #[.val (.int p1), .val (.ref b2), .val (.int (HMod.hMod (p1 &&& (2147483647 : Int32)) (15 : Int32))), .val (.ref w48), .val (.int (0 : Int32)), .val (.int (0 : Int32))] [])) _
    refine XS.iconst X49.here hx rfl (hb hby at_182) ?_
    show Steps p.tables e below (T49.setTop (mkF m 183 #[.val (.int p1), .val (.ref b2), .val (.int (HMod.hMod (p1 &&& (2147483647 : Int32)) (15 : Int32))), .val (.ref w48), .val (.int (0 : Int32)), .val (.int (0 : Int32))] [(.int (1 : Int32))])) _
    exact retN X49 hx (t := .boolean) Bd.returns (by simp) (hb hby at_183) hr
  · show Q0o Z p1 w3 w6 w9 w12 w15 w18 w21 w24 w27 w30 w33 w36 w39 w42 w45 w48 h0 n0 _ T49.heap _
    exact ⟨rfl, N49⟩
theorem own_fld {args : Array Value} {Z : State} {t : Jvm.Term} {a : Addr} {C n d : String} {z : Int32} (ht : t.eval args Z none [] Z = some (.ref a)) (h : (Jvm.Cond.eq (Jvm.Term.field t C n d) (Jvm.Term.int z)).value args Z none Z [] = some true) : Fld Z Z.heap a C n d (.int z) := by
  obtain ⟨u, v, e1, e2, k1, k2⟩ := cmp_v (Or.inl h)
  have ev : v = .int z := (Option.some.inj (e2.symm.trans (Term.int_eval z)))
  subst ev
  obtain ⟨u', rfl⟩ := k2
  have hu : u' = z := by simpa [Jvm.Cond.value, e1, e2] using h
  subst hu
  exact Fld.start ((fld_at (C := C) (n := n) (dd := d) ht).symm.trans e1)
theorem own_fldR {args : Array Value} {Z : State} {t t' : Jvm.Term} {a b : Addr} {C n d : String} (ht : t.eval args Z none [] Z = some (.ref a)) (ht' : t'.eval args Z none [] Z = some (.ref b)) (h : (Jvm.Cond.eq (Jvm.Term.field t C n d) t').value args Z none Z [] = some true) : Fld Z Z.heap a C n d (.ref b) := by
  obtain ⟨u, v, e1, e2, k1, k2⟩ := cmp_v (Or.inl h)
  have ev : v = .ref b := Option.some.inj (e2.symm.trans ht')
  subst ev
  have hu : u.isRef = true := k2.2
  have he : u = .ref b := gotT (eq_R e1 e2 hu rfl) h
  subst he
  exact Fld.start ((fld_at (C := C) (n := n) (dd := d) ht).symm.trans e1)
theorem own_mod (x : Int32) {m : Int32} (hm : 0 < m.toInt) : ¬ ((HMod.hMod (x &&& (2147483647 : Int32)) m) < 0) ∧ (HMod.hMod (x &&& (2147483647 : Int32)) m) < m := by
  have h := (c_and x (2147483647 : Int32) (by decide)).1
  have e0 : (0 : Int32).toInt = 0 := rfl
  rw [Int32.lt_iff_toInt_lt, Int32.lt_iff_toInt_lt, Int32.toInt_mod, e0]
  generalize (x &&& (2147483647 : Int32)).toInt = a at *
  generalize m.toInt = b at *
  rw [Int.tmod_eq_emod_of_nonneg h]
  have h1 := Int.emod_nonneg a (b := b) (by omega)
  have h2 := Int.emod_lt_of_pos a hm
  omega
theorem own_fifteen {y : Int32} (h0 : ¬ y < 0) (h1 : y < 15) : y = 0 ∨ y = 1 ∨ y = 2 ∨ y = 3 ∨ y = 4 ∨ y = 5 ∨ y = 6 ∨ y = 7 ∨ y = 8 ∨ y = 9 ∨ y = 10 ∨ y = 11 ∨ y = 12 ∨ y = 13 ∨ y = 14 := by
  rw [Int32.lt_iff_toInt_lt] at h0 h1
  have e0 : (0 : Int32).toInt = 0 := rfl
  have e1 : (1 : Int32).toInt = 1 := rfl
  have e2 : (2 : Int32).toInt = 2 := rfl
  have e3 : (3 : Int32).toInt = 3 := rfl
  have e4 : (4 : Int32).toInt = 4 := rfl
  have e5 : (5 : Int32).toInt = 5 := rfl
  have e6 : (6 : Int32).toInt = 6 := rfl
  have e7 : (7 : Int32).toInt = 7 := rfl
  have e8 : (8 : Int32).toInt = 8 := rfl
  have e9 : (9 : Int32).toInt = 9 := rfl
  have e10 : (10 : Int32).toInt = 10 := rfl
  have e11 : (11 : Int32).toInt = 11 := rfl
  have e12 : (12 : Int32).toInt = 12 := rfl
  have e13 : (13 : Int32).toInt = 13 := rfl
  have e14 : (14 : Int32).toInt = 14 := rfl
  have e15 : (15 : Int32).toInt = 15 := rfl
  simp only [← Int32.toInt_inj, e0, e1, e2, e3, e4, e5, e6, e7, e8, e9, e10, e11, e12, e13, e14]
  omega
set_option maxRecDepth 65536 in
set_option maxHeartbeats 40000000 in
theorem comes_1 {Post : Tables → Env → Array Value → State → Outcome → State → Prop} (hpost : ∀ tb e args s v u, (limb_1_1.after args s (.returned v) u = true ∧ limb_1_2.after args s (.returned v) u = true ∧ True) → FrameEnd s (.returned v) u (Jvm.fieldLocs frame_1_writes args s ++ Jvm.arrayLocs frame_1_arrays args s ++ Jvm.staticLocs frame_1_statics s) 16 128 → Post tb e args s (.returned v) u) :
    ArmFor flags0 classFile x code maxLocals ret World_1 tables_1 room_1 Calls_1 rest_1 Pre_1 Post := by
  intro l hfl _ _ p e ha hc hk s m args below hf hA hF happ hP
  obtain ⟨hcalls, hrest, hpre⟩ := hP
  obtain ⟨-, -, -, hnamed, -, -, -, hat⟩ := (Spec.applies_iff hf).mp happ
  obtain ⟨hg, hn⟩ := and_e (Cond.before_iff.mp (show (Jvm.Cond.and given_1 narrow_1).before args s = true from hpre))
  obtain ⟨g50, g51⟩ := and_e hg
  obtain ⟨w0, rfl⟩ : ∃ w0 : Value, args = #[w0] := by
    have hs : args.size = 1 := by simpa [Cond.value, given_1] using g50
    obtain ⟨L⟩ := args
    match L, hs with
    | [w0], _ => exact ⟨w0, rfl⟩
  have hw := fun d (hd : d ∈ tables_1) => atoms_spec (ws := Jvm.Cond.code x code maxLocals ret :: tables_1) hat d (List.mem_cons_of_mem _ hd)
  have hfit : Fit s := fun {y c} hc i hi => by
    obtain ⟨ha, rfl⟩ := Array.getElem?_eq_some_iff.mp hc
    have q := List.all_eq_true.mp ((Array.all_eq_true_iff_forall_mem.mp hF) _ (Array.getElem_mem ha)) i (List.mem_range.mpr hi)
    simpa [Array.getElem?_eq_getElem hi] using q
  obtain ⟨i0, ei0⟩ := is_v g51
  obtain rfl : w0 = (.int i0) := Option.some.inj ei0
  obtain ⟨n0, hn⟩ := and_e hn
  obtain ⟨n1, hn⟩ := and_e hn
  obtain ⟨n2, hn⟩ := and_e hn
  obtain ⟨n3, hn⟩ := and_e hn
  obtain ⟨n4, hn⟩ := and_e hn
  obtain ⟨n5, hn⟩ := and_e hn
  obtain ⟨n6, hn⟩ := and_e hn
  obtain ⟨n7, hn⟩ := and_e hn
  obtain ⟨n8, hn⟩ := and_e hn
  obtain ⟨n9, hn⟩ := and_e hn
  obtain ⟨n10, hn⟩ := and_e hn
  obtain ⟨n11, hn⟩ := and_e hn
  obtain ⟨n12, hn⟩ := and_e hn
  obtain ⟨n13, hn⟩ := and_e hn
  obtain ⟨n14, hn⟩ := and_e hn
  obtain ⟨n15, hn⟩ := and_e hn
  obtain ⟨n16, hn⟩ := and_e hn
  obtain ⟨n17, hn⟩ := and_e hn
  obtain ⟨n18, hn⟩ := and_e hn
  obtain ⟨n19, hn⟩ := and_e hn
  obtain ⟨n20, hn⟩ := and_e hn
  obtain ⟨n21, hn⟩ := and_e hn
  obtain ⟨n22, hn⟩ := and_e hn
  obtain ⟨n23, hn⟩ := and_e hn
  obtain ⟨n24, hn⟩ := and_e hn
  obtain ⟨n25, hn⟩ := and_e hn
  obtain ⟨n26, hn⟩ := and_e hn
  obtain ⟨n27, hn⟩ := and_e hn
  obtain ⟨n28, hn⟩ := and_e hn
  obtain ⟨n29, hn⟩ := and_e hn
  obtain ⟨n30, hn⟩ := and_e hn
  obtain ⟨n31, hn⟩ := and_e hn
  obtain ⟨n32, hn⟩ := and_e hn
  obtain ⟨n33, hn⟩ := and_e hn
  obtain ⟨n34, hn⟩ := and_e hn
  obtain ⟨n35, hn⟩ := and_e hn
  obtain ⟨n36, hn⟩ := and_e hn
  obtain ⟨n37, hn⟩ := and_e hn
  obtain ⟨n38, hn⟩ := and_e hn
  obtain ⟨n39, hn⟩ := and_e hn
  obtain ⟨n40, hn⟩ := and_e hn
  obtain ⟨n41, hn⟩ := and_e hn
  obtain ⟨n42, hn⟩ := and_e hn
  obtain ⟨n43, hn⟩ := and_e hn
  obtain ⟨n44, hn⟩ := and_e hn
  obtain ⟨n45, hn⟩ := and_e hn
  obtain ⟨n46, hn⟩ := and_e hn
  obtain ⟨n47, hn⟩ := and_e hn
  obtain ⟨n48, hn⟩ := and_e hn
  obtain ⟨n49, hn⟩ := and_e hn
  obtain ⟨n50, hn⟩ := and_e hn
  obtain ⟨n51, hn⟩ := and_e hn
  obtain ⟨n52, hn⟩ := and_e hn
  obtain ⟨n53, hn⟩ := and_e hn
  obtain ⟨n54, hn⟩ := and_e hn
  obtain ⟨n55, hn⟩ := and_e hn
  obtain ⟨n56, hn⟩ := and_e hn
  obtain ⟨n57, hn⟩ := and_e hn
  obtain ⟨n58, hn⟩ := and_e hn
  obtain ⟨n59, hn⟩ := and_e hn
  obtain ⟨n60, hn⟩ := and_e hn
  obtain ⟨n61, hn⟩ := and_e hn
  obtain ⟨n62, hn⟩ := and_e hn
  obtain ⟨n63, hn⟩ := and_e hn
  obtain ⟨n64, hn⟩ := and_e hn
  obtain ⟨n65, hn⟩ := and_e hn
  obtain ⟨n66, hn⟩ := and_e hn
  obtain ⟨n67, hn⟩ := and_e hn
  obtain ⟨n68, hn⟩ := and_e hn
  obtain ⟨n69, hn⟩ := and_e hn
  obtain ⟨n70, hn⟩ := and_e hn
  obtain ⟨n71, hn⟩ := and_e hn
  obtain ⟨n72, hn⟩ := and_e hn
  obtain ⟨n73, hn⟩ := and_e hn
  obtain ⟨n74, hn⟩ := and_e hn
  obtain ⟨n75, n76⟩ := and_e hn
  obtain ⟨a_SCHEMA, e_SCHEMA⟩ := exa_v n0
  have E_SCHEMA := Exa.start e_SCHEMA n0
  have S_SCHEMA := Sta.start e_SCHEMA (Or.inr ⟨(hw _ (List.mem_of_getElem? (i := 3) rfl)), (hw _ (List.mem_of_getElem? (i := 4) rfl))⟩)
  obtain ⟨a_PROPERTY, e_PROPERTY⟩ := exa_v n1
  have E_PROPERTY := Exa.start e_PROPERTY n1
  have S_PROPERTY := Sta.start e_PROPERTY (Or.inr ⟨(hw _ (List.mem_of_getElem? (i := 3) rfl)), (hw _ (List.mem_of_getElem? (i := 7) rfl))⟩)
  obtain ⟨a_UNDECLARED_PROPERTY, e_UNDECLARED_PROPERTY⟩ := exa_v n2
  have E_UNDECLARED_PROPERTY := Exa.start e_UNDECLARED_PROPERTY n2
  have S_UNDECLARED_PROPERTY := Sta.start e_UNDECLARED_PROPERTY (Or.inr ⟨(hw _ (List.mem_of_getElem? (i := 3) rfl)), (hw _ (List.mem_of_getElem? (i := 9) rfl))⟩)
  obtain ⟨a_UNDECLARED_UNCLASSIFIED_PROPERTY, e_UNDECLARED_UNCLASSIFIED_PROPERTY⟩ := exa_v n3
  have E_UNDECLARED_UNCLASSIFIED_PROPERTY := Exa.start e_UNDECLARED_UNCLASSIFIED_PROPERTY n3
  have S_UNDECLARED_UNCLASSIFIED_PROPERTY := Sta.start e_UNDECLARED_UNCLASSIFIED_PROPERTY (Or.inr ⟨(hw _ (List.mem_of_getElem? (i := 3) rfl)), (hw _ (List.mem_of_getElem? (i := 11) rfl))⟩)
  obtain ⟨a_ITEMS, e_ITEMS⟩ := exa_v n4
  have E_ITEMS := Exa.start e_ITEMS n4
  have S_ITEMS := Sta.start e_ITEMS (Or.inr ⟨(hw _ (List.mem_of_getElem? (i := 3) rfl)), (hw _ (List.mem_of_getElem? (i := 13) rfl))⟩)
  obtain ⟨a_ADDITIONAL_PROPERTIES, e_ADDITIONAL_PROPERTIES⟩ := exa_v n5
  have E_ADDITIONAL_PROPERTIES := Exa.start e_ADDITIONAL_PROPERTIES n5
  have S_ADDITIONAL_PROPERTIES := Sta.start e_ADDITIONAL_PROPERTIES (Or.inr ⟨(hw _ (List.mem_of_getElem? (i := 3) rfl)), (hw _ (List.mem_of_getElem? (i := 15) rfl))⟩)
  obtain ⟨a_DEFINITION, e_DEFINITION⟩ := exa_v n6
  have E_DEFINITION := Exa.start e_DEFINITION n6
  have S_DEFINITION := Sta.start e_DEFINITION (Or.inr ⟨(hw _ (List.mem_of_getElem? (i := 3) rfl)), (hw _ (List.mem_of_getElem? (i := 17) rfl))⟩)
  obtain ⟨a_UNCLASSIFIED, e_UNCLASSIFIED⟩ := exa_v n7
  have E_UNCLASSIFIED := Exa.start e_UNCLASSIFIED n7
  have S_UNCLASSIFIED := Sta.start e_UNCLASSIFIED (Or.inr ⟨(hw _ (List.mem_of_getElem? (i := 3) rfl)), (hw _ (List.mem_of_getElem? (i := 19) rfl))⟩)
  obtain ⟨a_ALTERNATIVES, e_ALTERNATIVES⟩ := exa_v n8
  have E_ALTERNATIVES := Exa.start e_ALTERNATIVES n8
  have S_ALTERNATIVES := Sta.start e_ALTERNATIVES (Or.inr ⟨(hw _ (List.mem_of_getElem? (i := 3) rfl)), (hw _ (List.mem_of_getElem? (i := 21) rfl))⟩)
  obtain ⟨a_EXCLUSIVE_ALTERNATIVES, e_EXCLUSIVE_ALTERNATIVES⟩ := exa_v n9
  have E_EXCLUSIVE_ALTERNATIVES := Exa.start e_EXCLUSIVE_ALTERNATIVES n9
  have S_EXCLUSIVE_ALTERNATIVES := Sta.start e_EXCLUSIVE_ALTERNATIVES (Or.inr ⟨(hw _ (List.mem_of_getElem? (i := 3) rfl)), (hw _ (List.mem_of_getElem? (i := 23) rfl))⟩)
  obtain ⟨a_ATTRIBUTE, e_ATTRIBUTE⟩ := exa_v n10
  have E_ATTRIBUTE := Exa.start e_ATTRIBUTE n10
  have S_ATTRIBUTE := Sta.start e_ATTRIBUTE (Or.inr ⟨(hw _ (List.mem_of_getElem? (i := 3) rfl)), (hw _ (List.mem_of_getElem? (i := 25) rfl))⟩)
  obtain ⟨a_METRIC, e_METRIC⟩ := exa_v n11
  have E_METRIC := Exa.start e_METRIC n11
  have S_METRIC := Sta.start e_METRIC (Or.inr ⟨(hw _ (List.mem_of_getElem? (i := 3) rfl)), (hw _ (List.mem_of_getElem? (i := 27) rfl))⟩)
  obtain ⟨a_SPAN, e_SPAN⟩ := exa_v n12
  have E_SPAN := Exa.start e_SPAN n12
  have S_SPAN := Sta.start e_SPAN (Or.inr ⟨(hw _ (List.mem_of_getElem? (i := 3) rfl)), (hw _ (List.mem_of_getElem? (i := 29) rfl))⟩)
  obtain ⟨a_EVENT, e_EVENT⟩ := exa_v n13
  have E_EVENT := Exa.start e_EVENT n13
  have S_EVENT := Sta.start e_EVENT (Or.inr ⟨(hw _ (List.mem_of_getElem? (i := 3) rfl)), (hw _ (List.mem_of_getElem? (i := 31) rfl))⟩)
  obtain ⟨a_ENTITY, e_ENTITY⟩ := exa_v n14
  have E_ENTITY := Exa.start e_ENTITY n14
  have S_ENTITY := Sta.start e_ENTITY (Or.inr ⟨(hw _ (List.mem_of_getElem? (i := 3) rfl)), (hw _ (List.mem_of_getElem? (i := 33) rfl))⟩)
  have O_SCHEMA_ordinal := own_fld e_SCHEMA n15
  have O_ALTERNATIVES_ordinal := own_fld e_ALTERNATIVES n16
  have O_EXCLUSIVE_ALTERNATIVES_ordinal := own_fld e_EXCLUSIVE_ALTERNATIVES n17
  have O_UNDECLARED_UNCLASSIFIED_PROPERTY_ordinal := own_fld e_UNDECLARED_UNCLASSIFIED_PROPERTY n18
  have O_ADDITIONAL_PROPERTIES_ordinal := own_fld e_ADDITIONAL_PROPERTIES n19
  have O_EVENT_ordinal := own_fld e_EVENT n20
  have O_DEFINITION_ordinal := own_fld e_DEFINITION n21
  have O_ENTITY_ordinal := own_fld e_ENTITY n22
  have O_UNCLASSIFIED_ordinal := own_fld e_UNCLASSIFIED n23
  have O_UNDECLARED_PROPERTY_ordinal := own_fld e_UNDECLARED_PROPERTY n24
  have O_METRIC_ordinal := own_fld e_METRIC n25
  have O_ATTRIBUTE_ordinal := own_fld e_ATTRIBUTE n26
  obtain ⟨a_UNCLASSIFIED_CHANGE, e_UNCLASSIFIED_CHANGE⟩ := exa_v n27
  have E_UNCLASSIFIED_CHANGE := Exa.start e_UNCLASSIFIED_CHANGE n27
  have S_UNCLASSIFIED_CHANGE := Sta.start e_UNCLASSIFIED_CHANGE (Or.inr ⟨(hw _ (List.mem_of_getElem? (i := 49) rfl)), (hw _ (List.mem_of_getElem? (i := 50) rfl))⟩)
  have O_ALTERNATIVES__added := own_fldR e_ALTERNATIVES e_UNCLASSIFIED_CHANGE n28
  have O_ALTERNATIVES__removed := own_fldR e_ALTERNATIVES e_UNCLASSIFIED_CHANGE n29
  have O_PROPERTY_ordinal := own_fld e_PROPERTY n30
  have O_SPAN_ordinal := own_fld e_SPAN n31
  have O_ITEMS_ordinal := own_fld e_ITEMS n32
  have O_EXCLUSIVE_ALTERNATIVES__added := own_fldR e_EXCLUSIVE_ALTERNATIVES e_UNCLASSIFIED_CHANGE n33
  have O_EXCLUSIVE_ALTERNATIVES__removed := own_fldR e_EXCLUSIVE_ALTERNATIVES e_UNCLASSIFIED_CHANGE n34
  obtain ⟨a_SCHEMA_ADDED, e_SCHEMA_ADDED⟩ := exa_v n35
  have E_SCHEMA_ADDED := Exa.start e_SCHEMA_ADDED n35
  have S_SCHEMA_ADDED := Sta.start e_SCHEMA_ADDED (Or.inr ⟨(hw _ (List.mem_of_getElem? (i := 49) rfl)), (hw _ (List.mem_of_getElem? (i := 59) rfl))⟩)
  have O_SCHEMA__added := own_fldR e_SCHEMA e_SCHEMA_ADDED n36
  obtain ⟨a_SCHEMA_REMOVED, e_SCHEMA_REMOVED⟩ := exa_v n37
  have E_SCHEMA_REMOVED := Exa.start e_SCHEMA_REMOVED n37
  have S_SCHEMA_REMOVED := Sta.start e_SCHEMA_REMOVED (Or.inr ⟨(hw _ (List.mem_of_getElem? (i := 49) rfl)), (hw _ (List.mem_of_getElem? (i := 60) rfl))⟩)
  have O_SCHEMA__removed := own_fldR e_SCHEMA e_SCHEMA_REMOVED n38
  obtain ⟨a_PROPERTY_ADDED, e_PROPERTY_ADDED⟩ := exa_v n39
  have E_PROPERTY_ADDED := Exa.start e_PROPERTY_ADDED n39
  have S_PROPERTY_ADDED := Sta.start e_PROPERTY_ADDED (Or.inr ⟨(hw _ (List.mem_of_getElem? (i := 49) rfl)), (hw _ (List.mem_of_getElem? (i := 61) rfl))⟩)
  have O_PROPERTY__added := own_fldR e_PROPERTY e_PROPERTY_ADDED n40
  obtain ⟨a_PROPERTY_REMOVED, e_PROPERTY_REMOVED⟩ := exa_v n41
  have E_PROPERTY_REMOVED := Exa.start e_PROPERTY_REMOVED n41
  have S_PROPERTY_REMOVED := Sta.start e_PROPERTY_REMOVED (Or.inr ⟨(hw _ (List.mem_of_getElem? (i := 49) rfl)), (hw _ (List.mem_of_getElem? (i := 62) rfl))⟩)
  have O_PROPERTY__removed := own_fldR e_PROPERTY e_PROPERTY_REMOVED n42
  obtain ⟨a_PROPERTIES_CLOSED, e_PROPERTIES_CLOSED⟩ := exa_v n49
  have E_PROPERTIES_CLOSED := Exa.start e_PROPERTIES_CLOSED n49
  have S_PROPERTIES_CLOSED := Sta.start e_PROPERTIES_CLOSED (Or.inr ⟨(hw _ (List.mem_of_getElem? (i := 49) rfl)), (hw _ (List.mem_of_getElem? (i := 63) rfl))⟩)
  have O_ADDITIONAL_PROPERTIES__added := own_fldR e_ADDITIONAL_PROPERTIES e_PROPERTIES_CLOSED n50
  obtain ⟨a_PROPERTIES_OPENED, e_PROPERTIES_OPENED⟩ := exa_v n51
  have E_PROPERTIES_OPENED := Exa.start e_PROPERTIES_OPENED n51
  have S_PROPERTIES_OPENED := Sta.start e_PROPERTIES_OPENED (Or.inr ⟨(hw _ (List.mem_of_getElem? (i := 49) rfl)), (hw _ (List.mem_of_getElem? (i := 64) rfl))⟩)
  have O_ADDITIONAL_PROPERTIES__removed := own_fldR e_ADDITIONAL_PROPERTIES e_PROPERTIES_OPENED n52
  have O_UNCLASSIFIED__added := own_fldR e_UNCLASSIFIED e_UNCLASSIFIED_CHANGE n55
  have O_UNCLASSIFIED__removed := own_fldR e_UNCLASSIFIED e_UNCLASSIFIED_CHANGE n56
  obtain ⟨a_ATTRIBUTE_ADDED, e_ATTRIBUTE_ADDED⟩ := exa_v n57
  have E_ATTRIBUTE_ADDED := Exa.start e_ATTRIBUTE_ADDED n57
  have S_ATTRIBUTE_ADDED := Sta.start e_ATTRIBUTE_ADDED (Or.inr ⟨(hw _ (List.mem_of_getElem? (i := 49) rfl)), (hw _ (List.mem_of_getElem? (i := 65) rfl))⟩)
  have O_ATTRIBUTE__added := own_fldR e_ATTRIBUTE e_ATTRIBUTE_ADDED n58
  obtain ⟨a_ATTRIBUTE_REMOVED, e_ATTRIBUTE_REMOVED⟩ := exa_v n59
  have E_ATTRIBUTE_REMOVED := Exa.start e_ATTRIBUTE_REMOVED n59
  have S_ATTRIBUTE_REMOVED := Sta.start e_ATTRIBUTE_REMOVED (Or.inr ⟨(hw _ (List.mem_of_getElem? (i := 49) rfl)), (hw _ (List.mem_of_getElem? (i := 66) rfl))⟩)
  have O_ATTRIBUTE__removed := own_fldR e_ATTRIBUTE e_ATTRIBUTE_REMOVED n60
  obtain ⟨a_METRIC_ADDED, e_METRIC_ADDED⟩ := exa_v n61
  have E_METRIC_ADDED := Exa.start e_METRIC_ADDED n61
  have S_METRIC_ADDED := Sta.start e_METRIC_ADDED (Or.inr ⟨(hw _ (List.mem_of_getElem? (i := 49) rfl)), (hw _ (List.mem_of_getElem? (i := 67) rfl))⟩)
  have O_METRIC__added := own_fldR e_METRIC e_METRIC_ADDED n62
  obtain ⟨a_METRIC_REMOVED, e_METRIC_REMOVED⟩ := exa_v n63
  have E_METRIC_REMOVED := Exa.start e_METRIC_REMOVED n63
  have S_METRIC_REMOVED := Sta.start e_METRIC_REMOVED (Or.inr ⟨(hw _ (List.mem_of_getElem? (i := 49) rfl)), (hw _ (List.mem_of_getElem? (i := 68) rfl))⟩)
  have O_METRIC__removed := own_fldR e_METRIC e_METRIC_REMOVED n64
  obtain ⟨a_SPAN_ADDED, e_SPAN_ADDED⟩ := exa_v n65
  have E_SPAN_ADDED := Exa.start e_SPAN_ADDED n65
  have S_SPAN_ADDED := Sta.start e_SPAN_ADDED (Or.inr ⟨(hw _ (List.mem_of_getElem? (i := 49) rfl)), (hw _ (List.mem_of_getElem? (i := 69) rfl))⟩)
  have O_SPAN__added := own_fldR e_SPAN e_SPAN_ADDED n66
  obtain ⟨a_SPAN_REMOVED, e_SPAN_REMOVED⟩ := exa_v n67
  have E_SPAN_REMOVED := Exa.start e_SPAN_REMOVED n67
  have S_SPAN_REMOVED := Sta.start e_SPAN_REMOVED (Or.inr ⟨(hw _ (List.mem_of_getElem? (i := 49) rfl)), (hw _ (List.mem_of_getElem? (i := 70) rfl))⟩)
  have O_SPAN__removed := own_fldR e_SPAN e_SPAN_REMOVED n68
  obtain ⟨a_EVENT_ADDED, e_EVENT_ADDED⟩ := exa_v n69
  have E_EVENT_ADDED := Exa.start e_EVENT_ADDED n69
  have S_EVENT_ADDED := Sta.start e_EVENT_ADDED (Or.inr ⟨(hw _ (List.mem_of_getElem? (i := 49) rfl)), (hw _ (List.mem_of_getElem? (i := 71) rfl))⟩)
  have O_EVENT__added := own_fldR e_EVENT e_EVENT_ADDED n70
  obtain ⟨a_EVENT_REMOVED, e_EVENT_REMOVED⟩ := exa_v n71
  have E_EVENT_REMOVED := Exa.start e_EVENT_REMOVED n71
  have S_EVENT_REMOVED := Sta.start e_EVENT_REMOVED (Or.inr ⟨(hw _ (List.mem_of_getElem? (i := 49) rfl)), (hw _ (List.mem_of_getElem? (i := 72) rfl))⟩)
  have O_EVENT__removed := own_fldR e_EVENT e_EVENT_REMOVED n72
  obtain ⟨a_ENTITY_ADDED, e_ENTITY_ADDED⟩ := exa_v n73
  have E_ENTITY_ADDED := Exa.start e_ENTITY_ADDED n73
  have S_ENTITY_ADDED := Sta.start e_ENTITY_ADDED (Or.inr ⟨(hw _ (List.mem_of_getElem? (i := 49) rfl)), (hw _ (List.mem_of_getElem? (i := 73) rfl))⟩)
  have O_ENTITY__added := own_fldR e_ENTITY e_ENTITY_ADDED n74
  obtain ⟨a_ENTITY_REMOVED, e_ENTITY_REMOVED⟩ := exa_v n75
  have E_ENTITY_REMOVED := Exa.start e_ENTITY_REMOVED n75
  have S_ENTITY_REMOVED := Sta.start e_ENTITY_REMOVED (Or.inr ⟨(hw _ (List.mem_of_getElem? (i := 49) rfl)), (hw _ (List.mem_of_getElem? (i := 74) rfl))⟩)
  have O_ENTITY__removed := own_fldR e_ENTITY e_ENTITY_REMOVED n76
  have pk : ∀ y : Int32, ¬ y < 0 → y < 15 → ∃ (p : Addr), Exa s s.heap p "com/example/rev3/rev3/change/ElementKind" ∧ ([.ref a_SCHEMA, .ref a_PROPERTY, .ref a_UNDECLARED_PROPERTY, .ref a_UNDECLARED_UNCLASSIFIED_PROPERTY, .ref a_ITEMS, .ref a_ADDITIONAL_PROPERTIES, .ref a_DEFINITION, .ref a_UNCLASSIFIED, .ref a_ALTERNATIVES, .ref a_EXCLUSIVE_ALTERNATIVES, .ref a_ATTRIBUTE, .ref a_METRIC, .ref a_SPAN, .ref a_EVENT, .ref a_ENTITY] : List Value).getD y.toNatClampNeg .null = .ref p ∧ Fld s s.heap p "java/lang/Enum" "ordinal" "I" (.int y) := by
    intro y h0 h1
    rcases own_fifteen h0 h1 with rfl | rfl | rfl | rfl | rfl | rfl | rfl | rfl | rfl | rfl | rfl | rfl | rfl | rfl | rfl
    · exact ⟨a_SCHEMA, E_SCHEMA, rfl, O_SCHEMA_ordinal⟩
    · exact ⟨a_PROPERTY, E_PROPERTY, rfl, O_PROPERTY_ordinal⟩
    · exact ⟨a_UNDECLARED_PROPERTY, E_UNDECLARED_PROPERTY, rfl, O_UNDECLARED_PROPERTY_ordinal⟩
    · exact ⟨a_UNDECLARED_UNCLASSIFIED_PROPERTY, E_UNDECLARED_UNCLASSIFIED_PROPERTY, rfl, O_UNDECLARED_UNCLASSIFIED_PROPERTY_ordinal⟩
    · exact ⟨a_ITEMS, E_ITEMS, rfl, O_ITEMS_ordinal⟩
    · exact ⟨a_ADDITIONAL_PROPERTIES, E_ADDITIONAL_PROPERTIES, rfl, O_ADDITIONAL_PROPERTIES_ordinal⟩
    · exact ⟨a_DEFINITION, E_DEFINITION, rfl, O_DEFINITION_ordinal⟩
    · exact ⟨a_UNCLASSIFIED, E_UNCLASSIFIED, rfl, O_UNCLASSIFIED_ordinal⟩
    · exact ⟨a_ALTERNATIVES, E_ALTERNATIVES, rfl, O_ALTERNATIVES_ordinal⟩
    · exact ⟨a_EXCLUSIVE_ALTERNATIVES, E_EXCLUSIVE_ALTERNATIVES, rfl, O_EXCLUSIVE_ALTERNATIVES_ordinal⟩
    · exact ⟨a_ATTRIBUTE, E_ATTRIBUTE, rfl, O_ATTRIBUTE_ordinal⟩
    · exact ⟨a_METRIC, E_METRIC, rfl, O_METRIC_ordinal⟩
    · exact ⟨a_SPAN, E_SPAN, rfl, O_SPAN_ordinal⟩
    · exact ⟨a_EVENT, E_EVENT, rfl, O_EVENT_ordinal⟩
    · exact ⟨a_ENTITY, E_ENTITY, rfl, O_ENTITY_ordinal⟩
  obtain ⟨m0, m15⟩ := own_mod i0 (m := 15) (by decide)
  obtain ⟨kk, E_kk, v1, O_kk⟩ := pk (HMod.hMod (i0 &&& (2147483647 : Int32)) (15 : Int32)) m0 m15
  by_cases h8 : (HMod.hMod (i0 &&& (2147483647 : Int32)) (15 : Int32)) = (8 : Int32)
  · have hka : kk = a_ALTERNATIVES := by
      have v2 := v1
      rw [h8] at v2
      exact (Value.ref.inj v2).symm
    obtain ⟨n, o, h1, h2, h3, _, L, rfl, ⟨rfl, N⟩, hq⟩ := rm0y l s _ hw tables_1 i0 a_SCHEMA a_PROPERTY a_UNDECLARED_PROPERTY a_UNDECLARED_UNCLASSIFIED_PROPERTY a_ITEMS a_ADDITIONAL_PROPERTIES a_DEFINITION a_UNCLASSIFIED a_ALTERNATIVES a_EXCLUSIVE_ALTERNATIVES a_ATTRIBUTE a_METRIC a_SPAN a_EVENT a_ENTITY kk a_UNCLASSIFIED_CHANGE s.heap s.heap.size (Nat.le_refl _) E_SCHEMA E_PROPERTY E_UNDECLARED_PROPERTY E_UNDECLARED_UNCLASSIFIED_PROPERTY E_ITEMS E_ADDITIONAL_PROPERTIES E_DEFINITION E_UNCLASSIFIED E_ALTERNATIVES E_EXCLUSIVE_ALTERNATIVES E_ATTRIBUTE E_METRIC E_SPAN E_EVENT E_ENTITY m0 m15 v1 (by rw [hka]; exact O_ALTERNATIVES__added) (by rw [hka]; exact O_ALTERNATIVES__removed) hka S_SCHEMA S_PROPERTY S_UNDECLARED_PROPERTY S_UNDECLARED_UNCLASSIFIED_PROPERTY S_ITEMS S_ADDITIONAL_PROPERTIES S_DEFINITION S_UNCLASSIFIED S_ALTERNATIVES S_EXCLUSIVE_ALTERNATIVES S_ATTRIBUTE S_METRIC S_SPAN S_EVENT S_ENTITY E_kk S_UNCLASSIFIED_CHANGE h8 rfl rfl p e ha hc hk s m _ below hf ((Spec.applies_iff_loose hf).mp happ).1 ⟨rfl, State.Warmed39.refl s, rfl⟩ trivial
    refine ⟨n, _, h1, h2, h3, hpost _ _ _ _ _ _ ⟨Cond.after_iff.mpr rfl, Cond.after_iff.mpr (eq_i res_at (Term.int_eval (1)) rfl), trivial⟩ ⟨hq.1, hq.2.1, (hq.2.2.sift fun y hy => Or.inr (N y hy)).mono (by decide) (by decide)⟩⟩
  · have hk1 : ¬ (kk = a_ALTERNATIVES) := Fld.ne O_kk O_ALTERNATIVES_ordinal (fun q => h8 (Value.int.inj q))
    by_cases h9 : (HMod.hMod (i0 &&& (2147483647 : Int32)) (15 : Int32)) = (9 : Int32)
    · have hka : kk = a_EXCLUSIVE_ALTERNATIVES := by
        have v2 := v1
        rw [h9] at v2
        exact (Value.ref.inj v2).symm
      obtain ⟨n, o, h1, h2, h3, _, L, rfl, ⟨rfl, N⟩, hq⟩ := rm0x l s _ hw tables_1 i0 a_SCHEMA a_PROPERTY a_UNDECLARED_PROPERTY a_UNDECLARED_UNCLASSIFIED_PROPERTY a_ITEMS a_ADDITIONAL_PROPERTIES a_DEFINITION a_UNCLASSIFIED a_ALTERNATIVES a_EXCLUSIVE_ALTERNATIVES a_ATTRIBUTE a_METRIC a_SPAN a_EVENT a_ENTITY kk a_UNCLASSIFIED_CHANGE s.heap s.heap.size (Nat.le_refl _) E_SCHEMA E_PROPERTY E_UNDECLARED_PROPERTY E_UNDECLARED_UNCLASSIFIED_PROPERTY E_ITEMS E_ADDITIONAL_PROPERTIES E_DEFINITION E_UNCLASSIFIED E_ALTERNATIVES E_EXCLUSIVE_ALTERNATIVES E_ATTRIBUTE E_METRIC E_SPAN E_EVENT E_ENTITY m0 m15 v1 (by rw [hka]; exact O_EXCLUSIVE_ALTERNATIVES__added) (by rw [hka]; exact O_EXCLUSIVE_ALTERNATIVES__removed) hk1 hka S_SCHEMA S_PROPERTY S_UNDECLARED_PROPERTY S_UNDECLARED_UNCLASSIFIED_PROPERTY S_ITEMS S_ADDITIONAL_PROPERTIES S_DEFINITION S_UNCLASSIFIED S_ALTERNATIVES S_EXCLUSIVE_ALTERNATIVES S_ATTRIBUTE S_METRIC S_SPAN S_EVENT S_ENTITY E_kk S_UNCLASSIFIED_CHANGE h8 h9 rfl rfl p e ha hc hk s m _ below hf ((Spec.applies_iff_loose hf).mp happ).1 ⟨rfl, State.Warmed39.refl s, rfl⟩ trivial
      refine ⟨n, _, h1, h2, h3, hpost _ _ _ _ _ _ ⟨Cond.after_iff.mpr rfl, Cond.after_iff.mpr (eq_i res_at (Term.int_eval (1)) rfl), trivial⟩ ⟨hq.1, hq.2.1, (hq.2.2.sift fun y hy => Or.inr (N y hy)).mono (by decide) (by decide)⟩⟩
    · have hk2 : ¬ (kk = a_EXCLUSIVE_ALTERNATIVES) := Fld.ne O_kk O_EXCLUSIVE_ALTERNATIVES_ordinal (fun q => h9 (Value.int.inj q))
      obtain ⟨n, o, h1, h2, h3, _, L, rfl, ⟨rfl, N⟩, hq⟩ := rm0o l s _ hw tables_1 i0 a_SCHEMA a_PROPERTY a_UNDECLARED_PROPERTY a_UNDECLARED_UNCLASSIFIED_PROPERTY a_ITEMS a_ADDITIONAL_PROPERTIES a_DEFINITION a_UNCLASSIFIED a_ALTERNATIVES a_EXCLUSIVE_ALTERNATIVES a_ATTRIBUTE a_METRIC a_SPAN a_EVENT a_ENTITY kk s.heap s.heap.size (Nat.le_refl _) E_SCHEMA E_PROPERTY E_UNDECLARED_PROPERTY E_UNDECLARED_UNCLASSIFIED_PROPERTY E_ITEMS E_ADDITIONAL_PROPERTIES E_DEFINITION E_UNCLASSIFIED E_ALTERNATIVES E_EXCLUSIVE_ALTERNATIVES E_ATTRIBUTE E_METRIC E_SPAN E_EVENT E_ENTITY m0 m15 v1 hk1 hk2 S_SCHEMA S_PROPERTY S_UNDECLARED_PROPERTY S_UNDECLARED_UNCLASSIFIED_PROPERTY S_ITEMS S_ADDITIONAL_PROPERTIES S_DEFINITION S_UNCLASSIFIED S_ALTERNATIVES S_EXCLUSIVE_ALTERNATIVES S_ATTRIBUTE S_METRIC S_SPAN S_EVENT S_ENTITY E_kk h8 h9  p e ha hc hk s m _ below hf ((Spec.applies_iff_loose hf).mp happ).1 ⟨rfl, State.Warmed39.refl s, rfl⟩ trivial
      refine ⟨n, _, h1, h2, h3, hpost _ _ _ _ _ _ ⟨Cond.after_iff.mpr rfl, Cond.after_iff.mpr (eq_i res_at (Term.int_eval (1)) rfl), trivial⟩ ⟨hq.1, hq.2.1, (hq.2.2.sift fun y hy => Or.inr (N y hy)).mono (by decide) (by decide)⟩⟩
theorem main_1_1 : Claimed_1_1 := comes_1 fun _ _ _ _ _ _ h hF => ⟨h.1, hF⟩
theorem main_1_2 : Claimed_1_2 := comes_1 fun _ _ _ _ _ _ h hF => ⟨h.2.1, hF⟩
end Jvm.Pilot.@@N@@
namespace Jvm.Pilot.@@N@@
open Jvm Jvm.ClassFile Sem Op Lib Jvm.Free Jvm.Stand Jvm.Pilot.@@N@@.Jvm.D
/-! MADE BY PROGRAM (witnessworld.py) out of the Statement's table words and the real class files: 14 classes; the members and pool entries that the words name. The judged class is class 1, her method 1. -/
namespace start1
open Jvm.ClassFile
def u (s : String) : CpInfo := .utf8 (stringToUtf16 s)
/-- a pool by its gaps: so many unusable entries, then the entry; so many at the end -/
def gap : Nat → List CpInfo → List CpInfo
  | 0, r => r
  | n + 1, r => .unusable :: gap n r
def poolList (es : List (Nat × CpInfo)) (last : Nat) : List CpInfo := es.foldr (fun e r => gap e.1 (e.2 :: r)) (gap last [])
def pool (es : List (Nat × CpInfo)) (last : Nat) : Array CpInfo := ⟨poolList es last⟩
def fileOf (pool : Array CpInfo) (this : Nat) (attrs : Array Attribute := #[]) (ms : Array MethodInfo := #[]) (fl : Nat := 33) (sup : Nat := 0) (ifs : Array Nat := #[]) (fds : Array FieldInfo := #[]) : ClassFile where
  minorVersion := 0
  majorVersion := 65
  constantPool := pool
  accessFlags := fl
  thisClass := this
  superClass := sup
  interfaces := ifs
  fields := fds
  methods := ms
  attributes := attrs
def plain (name : String) (sup : Option ClassId) : Class where
  name := name
  kind := .ordinary
  loader := none
  accessFlags := 33
  super := sup
  interfaces := #[]
  cf := none
  fields := #[]
  methods := #[]
  instanceTypes := #[]
  staticTypes := #[]
  resolved := #[]
  callSites := []
  init := .initialized
  statics := none
  mirror := none

def pool0 : Array CpInfo := pool [(5, u "<init>"), (0, u "()V"), (1, .class_ 10), (1, u "java/lang/Object")] 113

def k0m0 : Method := { name := "<init>", desc := "()V", sig := { parameters := [], returnType := none }, accessFlags := 1, code := none }
/-- java/lang/Object -/
def k0 : Class := { plain "java/lang/Object" none with
  accessFlags := 33
  interfaces := #[]
  cf := some (fileOf pool0 8 #[] #[{ accessFlags := 1, nameIndex := 5, descriptorIndex := 6, attributes := #[] }] 33 0 #[] #[])
  fields := #[]
  methods := #[k0m0]
  instanceTypes := #[]
  staticTypes := #[]
  resolved := Array.replicate 124 none
  statics := none }

def pool1 : Array CpInfo := pool [(2, .class_ 4), (1, u "java/lang/Object"), (0, u "<init>"), (0, u "()V"), (0, .class_ 8), (0, u "com/example/rev3/rev3/change/ElementKind"), (0, .fieldref 7 10), (0, .nameAndType 11 12), (0, u "SCHEMA"), (0, u "Lcom/example/rev3/rev3/change/ElementKind;"), (0, .fieldref 7 14), (0, .nameAndType 15 12), (0, u "PROPERTY"), (0, .fieldref 7 17), (0, .nameAndType 18 12), (0, u "UNDECLARED_PROPERTY"), (0, .fieldref 7 20), (0, .nameAndType 21 12), (0, u "UNDECLARED_UNCLASSIFIED_PROPERTY"), (0, .fieldref 7 23), (0, .nameAndType 24 12), (0, u "ITEMS"), (0, .fieldref 7 26), (0, .nameAndType 27 12), (0, u "ADDITIONAL_PROPERTIES"), (0, .fieldref 7 29), (0, .nameAndType 30 12), (0, u "DEFINITION"), (0, .fieldref 7 32), (0, .nameAndType 33 12), (0, u "UNCLASSIFIED"), (0, .fieldref 7 35), (0, .nameAndType 36 12), (0, u "ALTERNATIVES"), (0, .fieldref 7 38), (0, .nameAndType 39 12), (0, u "EXCLUSIVE_ALTERNATIVES"), (0, .fieldref 7 41), (0, .nameAndType 42 12), (0, u "ATTRIBUTE"), (0, .fieldref 7 44), (0, .nameAndType 45 12), (0, u "METRIC"), (0, .fieldref 7 47), (0, .nameAndType 48 12), (0, u "SPAN"), (0, .fieldref 7 50), (0, .nameAndType 51 12), (0, u "EVENT"), (0, .fieldref 7 53), (0, .nameAndType 54 12), (0, u "ENTITY"), (0, .integer 2147483647), (0, .methodref 7 57), (0, .nameAndType 58 59), (0, u "isAlternatives"), (0, u "()Z"), (0, .methodref 7 61), (0, .nameAndType 62 63), (0, u "getAdded"), (0, u "()Lcom/example/rev3/rev3/change/ChangeKind;"), (0, .fieldref 65 66), (0, .class_ 67), (0, .nameAndType 68 69), (0, u "com/example/rev3/rev3/change/ChangeKind"), (0, u "UNCLASSIFIED_CHANGE"), (0, u "Lcom/example/rev3/rev3/change/ChangeKind;"), (0, .methodref 7 71), (0, .nameAndType 72 63), (0, u "getRemoved"), (0, .class_ 74), (0, u "com/example/rev3/rev3/change/ElementKindIsAlternativesPinLaw"), (2, u "law"), (0, u "(I)Z")] 5

def k1m0 : Method := { name := "<init>", desc := "()V", sig := { parameters := [], returnType := none }, accessFlags := 1, code := none }
def k1c1 : Code := { maxStack := 4, maxLocals := 6, code := code, exceptionTable := #[], attributes := #[] }
def k1m1 : Method := { name := "law", desc := "(I)Z", sig := { parameters := [.int], returnType := some .boolean }, accessFlags := 9, code := some k1c1 }
/-- com/example/rev3/rev3/change/ElementKindIsAlternativesPinLaw -/
def k1 : Class := { plain "com/example/rev3/rev3/change/ElementKindIsAlternativesPinLaw" (some 0) with
  accessFlags := 49
  interfaces := #[]
  cf := some (fileOf pool1 73 #[] #[{ accessFlags := 1, nameIndex := 5, descriptorIndex := 6, attributes := #[] }, { accessFlags := 9, nameIndex := 77, descriptorIndex := 78, attributes := #[] }] 49 2 #[] #[])
  fields := #[]
  methods := #[k1m0, k1m1]
  instanceTypes := #[]
  staticTypes := #[]
  resolved := Array.replicate 84 none
  statics := none }

def pool2 : Array CpInfo := pool [(1, .class_ 2), (0, u "java/lang/constant/Constable"), (0, .class_ 4), (0, u "java/lang/Object")] 6

/-- java/lang/constant/Constable -/
def k2 : Class := { plain "java/lang/constant/Constable" (some 0) with
  accessFlags := 1537
  interfaces := #[]
  cf := some (fileOf pool2 1 #[] #[] 1537 3 #[] #[])
  fields := #[]
  methods := #[]
  instanceTypes := #[]
  staticTypes := #[]
  resolved := Array.replicate 11 none
  statics := none }

def pool3 : Array CpInfo := pool [(1, .class_ 2), (0, u "java/lang/Comparable"), (0, .class_ 4), (0, u "java/lang/Object")] 7

/-- java/lang/Comparable -/
def k3 : Class := { plain "java/lang/Comparable" (some 0) with
  accessFlags := 1537
  interfaces := #[]
  cf := some (fileOf pool3 1 #[] #[] 1537 3 #[] #[])
  fields := #[]
  methods := #[]
  instanceTypes := #[]
  staticTypes := #[]
  resolved := Array.replicate 12 none
  statics := none }

def pool4 : Array CpInfo := pool [(1, .class_ 2), (0, u "java/io/Serializable"), (0, .class_ 4), (0, u "java/lang/Object")] 2

/-- java/io/Serializable -/
def k4 : Class := { plain "java/io/Serializable" (some 0) with
  accessFlags := 1537
  interfaces := #[]
  cf := some (fileOf pool4 1 #[] #[] 1537 3 #[] #[])
  fields := #[]
  methods := #[]
  instanceTypes := #[]
  staticTypes := #[]
  resolved := Array.replicate 7 none
  statics := none }

def pool5 : Array CpInfo := pool [(2, .class_ 4), (1, u "java/lang/Enum"), (0, u "name"), (0, u "Ljava/lang/String;"), (2, u "ordinal"), (0, u "I"), (1, .class_ 14), (1, u "java/lang/Object"), (4, u "hash"), (86, .class_ 108), (1, u "java/lang/Enum$EnumDesc"), (2, .class_ 112), (0, u "java/lang/constant/Constable"), (0, .class_ 114), (0, u "java/lang/Comparable"), (0, .class_ 116), (0, u "java/io/Serializable")] 87

/-- java/lang/Enum -/
def k5 : Class := { plain "java/lang/Enum" (some 0) with
  accessFlags := 1057
  interfaces := #[2, 3, 4]
  cf := some (fileOf pool5 2 #[.nestMembers #[106]] #[] 1057 12 #[111, 113, 115] #[{ accessFlags := 18, nameIndex := 5, descriptorIndex := 6, attributes := #[] }, { accessFlags := 18, nameIndex := 9, descriptorIndex := 10, attributes := #[] }, { accessFlags := 2, nameIndex := 19, descriptorIndex := 10, attributes := #[] }])
  fields := #[{ name := "name", type := (.object "java/lang/String"), accessFlags := 18, slot := 0, constantValue := 0 }, { name := "ordinal", type := .int, accessFlags := 18, slot := 1, constantValue := 0 }, { name := "hash", type := .int, accessFlags := 2, slot := 2, constantValue := 0 }]
  methods := #[]
  instanceTypes := #[(.object "java/lang/String"), .int, .int]
  staticTypes := #[]
  resolved := Array.replicate 204 none
  statics := none }

def pool6 : Array CpInfo := pool [(1, .class_ 2), (0, u "com/example/rev3/rev3/change/ElementKind"), (2, u "SCHEMA"), (0, u "Lcom/example/rev3/rev3/change/ElementKind;"), (2, u "PROPERTY"), (2, u "UNDECLARED_PROPERTY"), (2, u "UNDECLARED_UNCLASSIFIED_PROPERTY"), (2, u "ITEMS"), (2, u "ADDITIONAL_PROPERTIES"), (2, u "DEFINITION"), (2, u "UNCLASSIFIED"), (0, .fieldref 1 29), (0, .nameAndType 30 6), (0, u "ALTERNATIVES"), (0, .fieldref 1 32), (0, .nameAndType 33 6), (0, u "EXCLUSIVE_ALTERNATIVES"), (2, u "ATTRIBUTE"), (2, u "METRIC"), (2, u "SPAN"), (2, u "EVENT"), (2, u "ENTITY"), (2, u "$VALUES"), (0, u "[Lcom/example/rev3/rev3/change/ElementKind;"), (6, .class_ 61), (1, u "java/lang/Enum"), (12, .fieldref 1 75), (0, .nameAndType 76 77), (0, u "_added"), (0, u "Lcom/example/rev3/rev3/change/ChangeKind;"), (0, .fieldref 1 79), (0, .nameAndType 80 77), (0, u "_removed"), (2, u "_renamed"), (2, u "_split"), (2, u "_locatedAtParent"), (0, u "Z"), (2, u "_referredOnly"), (2, u "_undeclared"), (100, u "getAdded"), (0, u "()Lcom/example/rev3/rev3/change/ChangeKind;"), (0, u "getRemoved"), (3, u "()Z"), (1, u "isAlternatives")] 7

def k6c0 : Code := { maxStack := 1, maxLocals := 1, code := prog_28_method_7_code, exceptionTable := #[], attributes := #[] }
def k6m0 : Method := { name := "getAdded", desc := "()Lcom/example/rev3/rev3/change/ChangeKind;", sig := { parameters := [], returnType := some (.object "com/example/rev3/rev3/change/ChangeKind") }, accessFlags := 0, code := some k6c0 }
def k6c1 : Code := { maxStack := 1, maxLocals := 1, code := prog_28_method_8_code, exceptionTable := #[], attributes := #[] }
def k6m1 : Method := { name := "getRemoved", desc := "()Lcom/example/rev3/rev3/change/ChangeKind;", sig := { parameters := [], returnType := some (.object "com/example/rev3/rev3/change/ChangeKind") }, accessFlags := 0, code := some k6c1 }
def k6c2 : Code := { maxStack := 2, maxLocals := 1, code := prog_28_method_13_code, exceptionTable := #[], attributes := #[] }
def k6m2 : Method := { name := "isAlternatives", desc := "()Z", sig := { parameters := [], returnType := some .boolean }, accessFlags := 0, code := some k6c2 }
/-- com/example/rev3/rev3/change/ElementKind -/
def k6 : Class := { plain "com/example/rev3/rev3/change/ElementKind" (some 5) with
  accessFlags := 16433
  interfaces := #[]
  cf := some (fileOf pool6 1 #[] #[{ accessFlags := 0, nameIndex := 197, descriptorIndex := 198, attributes := #[] }, { accessFlags := 0, nameIndex := 199, descriptorIndex := 198, attributes := #[] }, { accessFlags := 0, nameIndex := 205, descriptorIndex := 203, attributes := #[] }] 16433 59 #[] #[{ accessFlags := 16409, nameIndex := 5, descriptorIndex := 6, attributes := #[] }, { accessFlags := 16409, nameIndex := 9, descriptorIndex := 6, attributes := #[] }, { accessFlags := 16409, nameIndex := 12, descriptorIndex := 6, attributes := #[] }, { accessFlags := 16409, nameIndex := 15, descriptorIndex := 6, attributes := #[] }, { accessFlags := 16409, nameIndex := 18, descriptorIndex := 6, attributes := #[] }, { accessFlags := 16409, nameIndex := 21, descriptorIndex := 6, attributes := #[] }, { accessFlags := 16409, nameIndex := 24, descriptorIndex := 6, attributes := #[] }, { accessFlags := 16409, nameIndex := 27, descriptorIndex := 6, attributes := #[] }, { accessFlags := 16409, nameIndex := 30, descriptorIndex := 6, attributes := #[] }, { accessFlags := 16409, nameIndex := 33, descriptorIndex := 6, attributes := #[] }, { accessFlags := 16409, nameIndex := 36, descriptorIndex := 6, attributes := #[] }, { accessFlags := 16409, nameIndex := 39, descriptorIndex := 6, attributes := #[] }, { accessFlags := 16409, nameIndex := 42, descriptorIndex := 6, attributes := #[] }, { accessFlags := 16409, nameIndex := 45, descriptorIndex := 6, attributes := #[] }, { accessFlags := 16409, nameIndex := 48, descriptorIndex := 6, attributes := #[] }, { accessFlags := 18, nameIndex := 76, descriptorIndex := 77, attributes := #[] }, { accessFlags := 18, nameIndex := 80, descriptorIndex := 77, attributes := #[] }, { accessFlags := 18, nameIndex := 83, descriptorIndex := 77, attributes := #[] }, { accessFlags := 18, nameIndex := 86, descriptorIndex := 77, attributes := #[] }, { accessFlags := 18, nameIndex := 89, descriptorIndex := 90, attributes := #[] }, { accessFlags := 18, nameIndex := 93, descriptorIndex := 90, attributes := #[] }, { accessFlags := 18, nameIndex := 96, descriptorIndex := 90, attributes := #[] }, { accessFlags := 4122, nameIndex := 51, descriptorIndex := 52, attributes := #[] }])
  fields := #[{ name := "SCHEMA", type := (.object "com/example/rev3/rev3/change/ElementKind"), accessFlags := 16409, slot := 0, constantValue := 0 }, { name := "PROPERTY", type := (.object "com/example/rev3/rev3/change/ElementKind"), accessFlags := 16409, slot := 1, constantValue := 0 }, { name := "UNDECLARED_PROPERTY", type := (.object "com/example/rev3/rev3/change/ElementKind"), accessFlags := 16409, slot := 2, constantValue := 0 }, { name := "UNDECLARED_UNCLASSIFIED_PROPERTY", type := (.object "com/example/rev3/rev3/change/ElementKind"), accessFlags := 16409, slot := 3, constantValue := 0 }, { name := "ITEMS", type := (.object "com/example/rev3/rev3/change/ElementKind"), accessFlags := 16409, slot := 4, constantValue := 0 }, { name := "ADDITIONAL_PROPERTIES", type := (.object "com/example/rev3/rev3/change/ElementKind"), accessFlags := 16409, slot := 5, constantValue := 0 }, { name := "DEFINITION", type := (.object "com/example/rev3/rev3/change/ElementKind"), accessFlags := 16409, slot := 6, constantValue := 0 }, { name := "UNCLASSIFIED", type := (.object "com/example/rev3/rev3/change/ElementKind"), accessFlags := 16409, slot := 7, constantValue := 0 }, { name := "ALTERNATIVES", type := (.object "com/example/rev3/rev3/change/ElementKind"), accessFlags := 16409, slot := 8, constantValue := 0 }, { name := "EXCLUSIVE_ALTERNATIVES", type := (.object "com/example/rev3/rev3/change/ElementKind"), accessFlags := 16409, slot := 9, constantValue := 0 }, { name := "ATTRIBUTE", type := (.object "com/example/rev3/rev3/change/ElementKind"), accessFlags := 16409, slot := 10, constantValue := 0 }, { name := "METRIC", type := (.object "com/example/rev3/rev3/change/ElementKind"), accessFlags := 16409, slot := 11, constantValue := 0 }, { name := "SPAN", type := (.object "com/example/rev3/rev3/change/ElementKind"), accessFlags := 16409, slot := 12, constantValue := 0 }, { name := "EVENT", type := (.object "com/example/rev3/rev3/change/ElementKind"), accessFlags := 16409, slot := 13, constantValue := 0 }, { name := "ENTITY", type := (.object "com/example/rev3/rev3/change/ElementKind"), accessFlags := 16409, slot := 14, constantValue := 0 }, { name := "_added", type := (.object "com/example/rev3/rev3/change/ChangeKind"), accessFlags := 18, slot := 3, constantValue := 0 }, { name := "_removed", type := (.object "com/example/rev3/rev3/change/ChangeKind"), accessFlags := 18, slot := 4, constantValue := 0 }, { name := "_renamed", type := (.object "com/example/rev3/rev3/change/ChangeKind"), accessFlags := 18, slot := 5, constantValue := 0 }, { name := "_split", type := (.object "com/example/rev3/rev3/change/ChangeKind"), accessFlags := 18, slot := 6, constantValue := 0 }, { name := "_locatedAtParent", type := .boolean, accessFlags := 18, slot := 7, constantValue := 0 }, { name := "_referredOnly", type := .boolean, accessFlags := 18, slot := 8, constantValue := 0 }, { name := "_undeclared", type := .boolean, accessFlags := 18, slot := 9, constantValue := 0 }, { name := "$VALUES", type := (.array (.object "com/example/rev3/rev3/change/ElementKind")), accessFlags := 4122, slot := 15, constantValue := 0 }]
  methods := #[k6m0, k6m1, k6m2]
  instanceTypes := #[(.object "java/lang/String"), .int, .int, (.object "com/example/rev3/rev3/change/ChangeKind"), (.object "com/example/rev3/rev3/change/ChangeKind"), (.object "com/example/rev3/rev3/change/ChangeKind"), (.object "com/example/rev3/rev3/change/ChangeKind"), .boolean, .boolean, .boolean]
  staticTypes := #[(.object "com/example/rev3/rev3/change/ElementKind"), (.object "com/example/rev3/rev3/change/ElementKind"), (.object "com/example/rev3/rev3/change/ElementKind"), (.object "com/example/rev3/rev3/change/ElementKind"), (.object "com/example/rev3/rev3/change/ElementKind"), (.object "com/example/rev3/rev3/change/ElementKind"), (.object "com/example/rev3/rev3/change/ElementKind"), (.object "com/example/rev3/rev3/change/ElementKind"), (.object "com/example/rev3/rev3/change/ElementKind"), (.object "com/example/rev3/rev3/change/ElementKind"), (.object "com/example/rev3/rev3/change/ElementKind"), (.object "com/example/rev3/rev3/change/ElementKind"), (.object "com/example/rev3/rev3/change/ElementKind"), (.object "com/example/rev3/rev3/change/ElementKind"), (.object "com/example/rev3/rev3/change/ElementKind"), (.array (.object "com/example/rev3/rev3/change/ElementKind"))]
  resolved := Array.replicate 213 none
  statics := some 0 }

def pool7 : Array CpInfo := pool [(1, .class_ 2), (0, u "com/example/rev3/rev3/change/ChangeKind"), (2, u "SCHEMA_ADDED"), (0, u "Lcom/example/rev3/rev3/change/ChangeKind;"), (2, u "SCHEMA_REMOVED"), (2, u "PROPERTY_ADDED"), (2, u "PROPERTY_REMOVED"), (2, u "REQUIRED_ADDED"), (2, u "REQUIRED_REMOVED"), (2, u "TYPE_WIDENED"), (2, u "TYPE_NARROWED"), (2, u "TYPE_CHANGED"), (2, u "ENUM_VALUES_ADDED"), (2, u "ENUM_VALUES_REMOVED"), (2, u "CONSTRAINT_ADDED"), (2, u "CONSTRAINT_REMOVED"), (2, u "CONSTRAINT_TIGHTENED"), (2, u "CONSTRAINT_RELAXED"), (2, u "PROPERTIES_CLOSED"), (2, u "PROPERTIES_OPENED"), (2, u "ATTRIBUTE_ADDED"), (2, u "ATTRIBUTE_REMOVED"), (2, u "ATTRIBUTE_RENAMED"), (2, u "ATTRIBUTE_TYPE_CHANGED"), (2, u "ENUM_MEMBER_ADDED"), (2, u "ENUM_MEMBER_REMOVED"), (2, u "METRIC_ADDED"), (2, u "METRIC_REMOVED"), (2, u "METRIC_RENAMED"), (2, u "METRIC_SPLIT"), (2, u "METRIC_INSTRUMENT_CHANGED"), (2, u "METRIC_UNIT_CHANGED"), (2, u "SPAN_ADDED"), (2, u "SPAN_REMOVED"), (2, u "SPAN_KIND_CHANGED"), (2, u "EVENT_ADDED"), (2, u "EVENT_REMOVED"), (2, u "EVENT_RENAMED"), (2, u "EVENT_NAME_CHANGED"), (2, u "ENTITY_ADDED"), (2, u "ENTITY_REMOVED"), (2, u "ATTRIBUTE_KEY_ADDED"), (2, u "ATTRIBUTE_KEY_REMOVED"), (2, u "REQUIREMENT_LEVEL_RAISED"), (2, u "REQUIREMENT_LEVEL_LOWERED"), (2, u "SAMPLING_RELEVANT_ADDED"), (2, u "SAMPLING_RELEVANT_REMOVED"), (2, u "RENAME_UNRECORDED"), (2, u "RENAME_UNMADE"), (2, u "RENAME_DANGLING"), (2, u "STABILITY_CHANGED"), (2, u "DEPRECATED_ADDED"), (2, u "DEPRECATED_REMOVED"), (2, u "TEXT_CHANGED"), (2, u "UNCLASSIFIED_CHANGE"), (2, u "$VALUES"), (0, u "[Lcom/example/rev3/rev3/change/ChangeKind;"), (6, .class_ 172), (1, u "java/lang/Enum"), (11, u "_name"), (0, u "Ljava/lang/String;"), (2, u "_annot"), (0, u "Z")] 180

/-- com/example/rev3/rev3/change/ChangeKind -/
def k7 : Class := { plain "com/example/rev3/rev3/change/ChangeKind" (some 5) with
  accessFlags := 16433
  interfaces := #[]
  cf := some (fileOf pool7 1 #[] #[] 16433 170 #[] #[{ accessFlags := 16409, nameIndex := 5, descriptorIndex := 6, attributes := #[] }, { accessFlags := 16409, nameIndex := 9, descriptorIndex := 6, attributes := #[] }, { accessFlags := 16409, nameIndex := 12, descriptorIndex := 6, attributes := #[] }, { accessFlags := 16409, nameIndex := 15, descriptorIndex := 6, attributes := #[] }, { accessFlags := 16409, nameIndex := 18, descriptorIndex := 6, attributes := #[] }, { accessFlags := 16409, nameIndex := 21, descriptorIndex := 6, attributes := #[] }, { accessFlags := 16409, nameIndex := 24, descriptorIndex := 6, attributes := #[] }, { accessFlags := 16409, nameIndex := 27, descriptorIndex := 6, attributes := #[] }, { accessFlags := 16409, nameIndex := 30, descriptorIndex := 6, attributes := #[] }, { accessFlags := 16409, nameIndex := 33, descriptorIndex := 6, attributes := #[] }, { accessFlags := 16409, nameIndex := 36, descriptorIndex := 6, attributes := #[] }, { accessFlags := 16409, nameIndex := 39, descriptorIndex := 6, attributes := #[] }, { accessFlags := 16409, nameIndex := 42, descriptorIndex := 6, attributes := #[] }, { accessFlags := 16409, nameIndex := 45, descriptorIndex := 6, attributes := #[] }, { accessFlags := 16409, nameIndex := 48, descriptorIndex := 6, attributes := #[] }, { accessFlags := 16409, nameIndex := 51, descriptorIndex := 6, attributes := #[] }, { accessFlags := 16409, nameIndex := 54, descriptorIndex := 6, attributes := #[] }, { accessFlags := 16409, nameIndex := 57, descriptorIndex := 6, attributes := #[] }, { accessFlags := 16409, nameIndex := 60, descriptorIndex := 6, attributes := #[] }, { accessFlags := 16409, nameIndex := 63, descriptorIndex := 6, attributes := #[] }, { accessFlags := 16409, nameIndex := 66, descriptorIndex := 6, attributes := #[] }, { accessFlags := 16409, nameIndex := 69, descriptorIndex := 6, attributes := #[] }, { accessFlags := 16409, nameIndex := 72, descriptorIndex := 6, attributes := #[] }, { accessFlags := 16409, nameIndex := 75, descriptorIndex := 6, attributes := #[] }, { accessFlags := 16409, nameIndex := 78, descriptorIndex := 6, attributes := #[] }, { accessFlags := 16409, nameIndex := 81, descriptorIndex := 6, attributes := #[] }, { accessFlags := 16409, nameIndex := 84, descriptorIndex := 6, attributes := #[] }, { accessFlags := 16409, nameIndex := 87, descriptorIndex := 6, attributes := #[] }, { accessFlags := 16409, nameIndex := 90, descriptorIndex := 6, attributes := #[] }, { accessFlags := 16409, nameIndex := 93, descriptorIndex := 6, attributes := #[] }, { accessFlags := 16409, nameIndex := 96, descriptorIndex := 6, attributes := #[] }, { accessFlags := 16409, nameIndex := 99, descriptorIndex := 6, attributes := #[] }, { accessFlags := 16409, nameIndex := 102, descriptorIndex := 6, attributes := #[] }, { accessFlags := 16409, nameIndex := 105, descriptorIndex := 6, attributes := #[] }, { accessFlags := 16409, nameIndex := 108, descriptorIndex := 6, attributes := #[] }, { accessFlags := 16409, nameIndex := 111, descriptorIndex := 6, attributes := #[] }, { accessFlags := 16409, nameIndex := 114, descriptorIndex := 6, attributes := #[] }, { accessFlags := 16409, nameIndex := 117, descriptorIndex := 6, attributes := #[] }, { accessFlags := 16409, nameIndex := 120, descriptorIndex := 6, attributes := #[] }, { accessFlags := 16409, nameIndex := 123, descriptorIndex := 6, attributes := #[] }, { accessFlags := 16409, nameIndex := 126, descriptorIndex := 6, attributes := #[] }, { accessFlags := 16409, nameIndex := 129, descriptorIndex := 6, attributes := #[] }, { accessFlags := 16409, nameIndex := 132, descriptorIndex := 6, attributes := #[] }, { accessFlags := 16409, nameIndex := 135, descriptorIndex := 6, attributes := #[] }, { accessFlags := 16409, nameIndex := 138, descriptorIndex := 6, attributes := #[] }, { accessFlags := 16409, nameIndex := 141, descriptorIndex := 6, attributes := #[] }, { accessFlags := 16409, nameIndex := 144, descriptorIndex := 6, attributes := #[] }, { accessFlags := 16409, nameIndex := 147, descriptorIndex := 6, attributes := #[] }, { accessFlags := 16409, nameIndex := 150, descriptorIndex := 6, attributes := #[] }, { accessFlags := 16409, nameIndex := 153, descriptorIndex := 6, attributes := #[] }, { accessFlags := 16409, nameIndex := 156, descriptorIndex := 6, attributes := #[] }, { accessFlags := 16409, nameIndex := 159, descriptorIndex := 6, attributes := #[] }, { accessFlags := 18, nameIndex := 184, descriptorIndex := 185, attributes := #[] }, { accessFlags := 18, nameIndex := 188, descriptorIndex := 189, attributes := #[] }, { accessFlags := 4122, nameIndex := 162, descriptorIndex := 163, attributes := #[] }])
  fields := #[{ name := "SCHEMA_ADDED", type := (.object "com/example/rev3/rev3/change/ChangeKind"), accessFlags := 16409, slot := 0, constantValue := 0 }, { name := "SCHEMA_REMOVED", type := (.object "com/example/rev3/rev3/change/ChangeKind"), accessFlags := 16409, slot := 1, constantValue := 0 }, { name := "PROPERTY_ADDED", type := (.object "com/example/rev3/rev3/change/ChangeKind"), accessFlags := 16409, slot := 2, constantValue := 0 }, { name := "PROPERTY_REMOVED", type := (.object "com/example/rev3/rev3/change/ChangeKind"), accessFlags := 16409, slot := 3, constantValue := 0 }, { name := "REQUIRED_ADDED", type := (.object "com/example/rev3/rev3/change/ChangeKind"), accessFlags := 16409, slot := 4, constantValue := 0 }, { name := "REQUIRED_REMOVED", type := (.object "com/example/rev3/rev3/change/ChangeKind"), accessFlags := 16409, slot := 5, constantValue := 0 }, { name := "TYPE_WIDENED", type := (.object "com/example/rev3/rev3/change/ChangeKind"), accessFlags := 16409, slot := 6, constantValue := 0 }, { name := "TYPE_NARROWED", type := (.object "com/example/rev3/rev3/change/ChangeKind"), accessFlags := 16409, slot := 7, constantValue := 0 }, { name := "TYPE_CHANGED", type := (.object "com/example/rev3/rev3/change/ChangeKind"), accessFlags := 16409, slot := 8, constantValue := 0 }, { name := "ENUM_VALUES_ADDED", type := (.object "com/example/rev3/rev3/change/ChangeKind"), accessFlags := 16409, slot := 9, constantValue := 0 }, { name := "ENUM_VALUES_REMOVED", type := (.object "com/example/rev3/rev3/change/ChangeKind"), accessFlags := 16409, slot := 10, constantValue := 0 }, { name := "CONSTRAINT_ADDED", type := (.object "com/example/rev3/rev3/change/ChangeKind"), accessFlags := 16409, slot := 11, constantValue := 0 }, { name := "CONSTRAINT_REMOVED", type := (.object "com/example/rev3/rev3/change/ChangeKind"), accessFlags := 16409, slot := 12, constantValue := 0 }, { name := "CONSTRAINT_TIGHTENED", type := (.object "com/example/rev3/rev3/change/ChangeKind"), accessFlags := 16409, slot := 13, constantValue := 0 }, { name := "CONSTRAINT_RELAXED", type := (.object "com/example/rev3/rev3/change/ChangeKind"), accessFlags := 16409, slot := 14, constantValue := 0 }, { name := "PROPERTIES_CLOSED", type := (.object "com/example/rev3/rev3/change/ChangeKind"), accessFlags := 16409, slot := 15, constantValue := 0 }, { name := "PROPERTIES_OPENED", type := (.object "com/example/rev3/rev3/change/ChangeKind"), accessFlags := 16409, slot := 16, constantValue := 0 }, { name := "ATTRIBUTE_ADDED", type := (.object "com/example/rev3/rev3/change/ChangeKind"), accessFlags := 16409, slot := 17, constantValue := 0 }, { name := "ATTRIBUTE_REMOVED", type := (.object "com/example/rev3/rev3/change/ChangeKind"), accessFlags := 16409, slot := 18, constantValue := 0 }, { name := "ATTRIBUTE_RENAMED", type := (.object "com/example/rev3/rev3/change/ChangeKind"), accessFlags := 16409, slot := 19, constantValue := 0 }, { name := "ATTRIBUTE_TYPE_CHANGED", type := (.object "com/example/rev3/rev3/change/ChangeKind"), accessFlags := 16409, slot := 20, constantValue := 0 }, { name := "ENUM_MEMBER_ADDED", type := (.object "com/example/rev3/rev3/change/ChangeKind"), accessFlags := 16409, slot := 21, constantValue := 0 }, { name := "ENUM_MEMBER_REMOVED", type := (.object "com/example/rev3/rev3/change/ChangeKind"), accessFlags := 16409, slot := 22, constantValue := 0 }, { name := "METRIC_ADDED", type := (.object "com/example/rev3/rev3/change/ChangeKind"), accessFlags := 16409, slot := 23, constantValue := 0 }, { name := "METRIC_REMOVED", type := (.object "com/example/rev3/rev3/change/ChangeKind"), accessFlags := 16409, slot := 24, constantValue := 0 }, { name := "METRIC_RENAMED", type := (.object "com/example/rev3/rev3/change/ChangeKind"), accessFlags := 16409, slot := 25, constantValue := 0 }, { name := "METRIC_SPLIT", type := (.object "com/example/rev3/rev3/change/ChangeKind"), accessFlags := 16409, slot := 26, constantValue := 0 }, { name := "METRIC_INSTRUMENT_CHANGED", type := (.object "com/example/rev3/rev3/change/ChangeKind"), accessFlags := 16409, slot := 27, constantValue := 0 }, { name := "METRIC_UNIT_CHANGED", type := (.object "com/example/rev3/rev3/change/ChangeKind"), accessFlags := 16409, slot := 28, constantValue := 0 }, { name := "SPAN_ADDED", type := (.object "com/example/rev3/rev3/change/ChangeKind"), accessFlags := 16409, slot := 29, constantValue := 0 }, { name := "SPAN_REMOVED", type := (.object "com/example/rev3/rev3/change/ChangeKind"), accessFlags := 16409, slot := 30, constantValue := 0 }, { name := "SPAN_KIND_CHANGED", type := (.object "com/example/rev3/rev3/change/ChangeKind"), accessFlags := 16409, slot := 31, constantValue := 0 }, { name := "EVENT_ADDED", type := (.object "com/example/rev3/rev3/change/ChangeKind"), accessFlags := 16409, slot := 32, constantValue := 0 }, { name := "EVENT_REMOVED", type := (.object "com/example/rev3/rev3/change/ChangeKind"), accessFlags := 16409, slot := 33, constantValue := 0 }, { name := "EVENT_RENAMED", type := (.object "com/example/rev3/rev3/change/ChangeKind"), accessFlags := 16409, slot := 34, constantValue := 0 }, { name := "EVENT_NAME_CHANGED", type := (.object "com/example/rev3/rev3/change/ChangeKind"), accessFlags := 16409, slot := 35, constantValue := 0 }, { name := "ENTITY_ADDED", type := (.object "com/example/rev3/rev3/change/ChangeKind"), accessFlags := 16409, slot := 36, constantValue := 0 }, { name := "ENTITY_REMOVED", type := (.object "com/example/rev3/rev3/change/ChangeKind"), accessFlags := 16409, slot := 37, constantValue := 0 }, { name := "ATTRIBUTE_KEY_ADDED", type := (.object "com/example/rev3/rev3/change/ChangeKind"), accessFlags := 16409, slot := 38, constantValue := 0 }, { name := "ATTRIBUTE_KEY_REMOVED", type := (.object "com/example/rev3/rev3/change/ChangeKind"), accessFlags := 16409, slot := 39, constantValue := 0 }, { name := "REQUIREMENT_LEVEL_RAISED", type := (.object "com/example/rev3/rev3/change/ChangeKind"), accessFlags := 16409, slot := 40, constantValue := 0 }, { name := "REQUIREMENT_LEVEL_LOWERED", type := (.object "com/example/rev3/rev3/change/ChangeKind"), accessFlags := 16409, slot := 41, constantValue := 0 }, { name := "SAMPLING_RELEVANT_ADDED", type := (.object "com/example/rev3/rev3/change/ChangeKind"), accessFlags := 16409, slot := 42, constantValue := 0 }, { name := "SAMPLING_RELEVANT_REMOVED", type := (.object "com/example/rev3/rev3/change/ChangeKind"), accessFlags := 16409, slot := 43, constantValue := 0 }, { name := "RENAME_UNRECORDED", type := (.object "com/example/rev3/rev3/change/ChangeKind"), accessFlags := 16409, slot := 44, constantValue := 0 }, { name := "RENAME_UNMADE", type := (.object "com/example/rev3/rev3/change/ChangeKind"), accessFlags := 16409, slot := 45, constantValue := 0 }, { name := "RENAME_DANGLING", type := (.object "com/example/rev3/rev3/change/ChangeKind"), accessFlags := 16409, slot := 46, constantValue := 0 }, { name := "STABILITY_CHANGED", type := (.object "com/example/rev3/rev3/change/ChangeKind"), accessFlags := 16409, slot := 47, constantValue := 0 }, { name := "DEPRECATED_ADDED", type := (.object "com/example/rev3/rev3/change/ChangeKind"), accessFlags := 16409, slot := 48, constantValue := 0 }, { name := "DEPRECATED_REMOVED", type := (.object "com/example/rev3/rev3/change/ChangeKind"), accessFlags := 16409, slot := 49, constantValue := 0 }, { name := "TEXT_CHANGED", type := (.object "com/example/rev3/rev3/change/ChangeKind"), accessFlags := 16409, slot := 50, constantValue := 0 }, { name := "UNCLASSIFIED_CHANGE", type := (.object "com/example/rev3/rev3/change/ChangeKind"), accessFlags := 16409, slot := 51, constantValue := 0 }, { name := "_name", type := (.object "java/lang/String"), accessFlags := 18, slot := 3, constantValue := 0 }, { name := "_annot", type := .boolean, accessFlags := 18, slot := 4, constantValue := 0 }, { name := "$VALUES", type := (.array (.object "com/example/rev3/rev3/change/ChangeKind")), accessFlags := 4122, slot := 52, constantValue := 0 }]
  methods := #[]
  instanceTypes := #[(.object "java/lang/String"), .int, .int, (.object "java/lang/String"), .boolean]
  staticTypes := #[(.object "com/example/rev3/rev3/change/ChangeKind"), (.object "com/example/rev3/rev3/change/ChangeKind"), (.object "com/example/rev3/rev3/change/ChangeKind"), (.object "com/example/rev3/rev3/change/ChangeKind"), (.object "com/example/rev3/rev3/change/ChangeKind"), (.object "com/example/rev3/rev3/change/ChangeKind"), (.object "com/example/rev3/rev3/change/ChangeKind"), (.object "com/example/rev3/rev3/change/ChangeKind"), (.object "com/example/rev3/rev3/change/ChangeKind"), (.object "com/example/rev3/rev3/change/ChangeKind"), (.object "com/example/rev3/rev3/change/ChangeKind"), (.object "com/example/rev3/rev3/change/ChangeKind"), (.object "com/example/rev3/rev3/change/ChangeKind"), (.object "com/example/rev3/rev3/change/ChangeKind"), (.object "com/example/rev3/rev3/change/ChangeKind"), (.object "com/example/rev3/rev3/change/ChangeKind"), (.object "com/example/rev3/rev3/change/ChangeKind"), (.object "com/example/rev3/rev3/change/ChangeKind"), (.object "com/example/rev3/rev3/change/ChangeKind"), (.object "com/example/rev3/rev3/change/ChangeKind"), (.object "com/example/rev3/rev3/change/ChangeKind"), (.object "com/example/rev3/rev3/change/ChangeKind"), (.object "com/example/rev3/rev3/change/ChangeKind"), (.object "com/example/rev3/rev3/change/ChangeKind"), (.object "com/example/rev3/rev3/change/ChangeKind"), (.object "com/example/rev3/rev3/change/ChangeKind"), (.object "com/example/rev3/rev3/change/ChangeKind"), (.object "com/example/rev3/rev3/change/ChangeKind"), (.object "com/example/rev3/rev3/change/ChangeKind"), (.object "com/example/rev3/rev3/change/ChangeKind"), (.object "com/example/rev3/rev3/change/ChangeKind"), (.object "com/example/rev3/rev3/change/ChangeKind"), (.object "com/example/rev3/rev3/change/ChangeKind"), (.object "com/example/rev3/rev3/change/ChangeKind"), (.object "com/example/rev3/rev3/change/ChangeKind"), (.object "com/example/rev3/rev3/change/ChangeKind"), (.object "com/example/rev3/rev3/change/ChangeKind"), (.object "com/example/rev3/rev3/change/ChangeKind"), (.object "com/example/rev3/rev3/change/ChangeKind"), (.object "com/example/rev3/rev3/change/ChangeKind"), (.object "com/example/rev3/rev3/change/ChangeKind"), (.object "com/example/rev3/rev3/change/ChangeKind"), (.object "com/example/rev3/rev3/change/ChangeKind"), (.object "com/example/rev3/rev3/change/ChangeKind"), (.object "com/example/rev3/rev3/change/ChangeKind"), (.object "com/example/rev3/rev3/change/ChangeKind"), (.object "com/example/rev3/rev3/change/ChangeKind"), (.object "com/example/rev3/rev3/change/ChangeKind"), (.object "com/example/rev3/rev3/change/ChangeKind"), (.object "com/example/rev3/rev3/change/ChangeKind"), (.object "com/example/rev3/rev3/change/ChangeKind"), (.object "com/example/rev3/rev3/change/ChangeKind"), (.array (.object "com/example/rev3/rev3/change/ChangeKind"))]
  resolved := Array.replicate 370 none
  statics := some 1 }

def pool8 : Array CpInfo := pool [(1, u "java/lang/Cloneable"), (0, .class_ 1), (0, u "java/lang/Object"), (0, .class_ 3)] 3

/-- java/lang/Cloneable -/
def k8 : Class := { plain "java/lang/Cloneable" (some 0) with
  accessFlags := 1537
  interfaces := #[]
  cf := some (fileOf pool8 2 #[] #[] 1537 4 #[] #[])
  fields := #[]
  methods := #[]
  instanceTypes := #[]
  staticTypes := #[]
  resolved := Array.replicate 8 none
  statics := none }

/-- the primitive byte -/
def k9 : Class := { plain "byte" none with kind := .primitive 'B', accessFlags := 0x411 }
/-- [B -/
def k10 : Class := { plain "[B" (some 0) with kind := .array 9 .byte, interfaces := #[8, 4], accessFlags := 1041 }

/-- the primitive int -/
def k11 : Class := { plain "int" none with kind := .primitive 'I', accessFlags := 0x411 }
/-- [I -/
def k12 : Class := { plain "[I" (some 0) with kind := .array 11 .int, interfaces := #[8, 4], accessFlags := 1041 }

/-- [Lcom/example/rev3/rev3/change/ElementKind; -/
def k13 : Class := { plain "[Lcom/example/rev3/rev3/change/ElementKind;" (some 0) with kind := .array 6 (.object "com/example/rev3/rev3/change/ElementKind"), interfaces := #[8, 4], accessFlags := 1041 }

def heap : Heap := #[{ cls := 6, slots := #[.ref 2, .ref 3, .ref 4, .ref 5, .ref 6, .ref 7, .ref 8, .ref 9, .ref 10, .ref 11, .ref 12, .ref 13, .ref 14, .ref 15, .ref 16, .null], vm := .statics 6 },
  { cls := 7, slots := #[.ref 18, .ref 19, .ref 20, .ref 21, .null, .null, .null, .null, .null, .null, .null, .null, .null, .null, .null, .ref 22, .ref 23, .ref 24, .ref 25, .null, .null, .null, .null, .ref 26, .ref 27, .null, .null, .null, .null, .ref 28, .ref 29, .null, .ref 30, .ref 31, .null, .null, .ref 32, .ref 33, .null, .null, .null, .null, .null, .null, .null, .null, .null, .null, .null, .null, .null, .ref 17, .null], vm := .statics 7 },
  { cls := 6, slots := #[.null, .int 0, .int 0, .ref 18, .ref 19, .null, .null, .int 0, .int 0, .int 0], vm := .none },
  { cls := 6, slots := #[.null, .int 1, .int 0, .ref 20, .ref 21, .null, .null, .int 0, .int 0, .int 0], vm := .none },
  { cls := 6, slots := #[.null, .int 2, .int 0, .null, .null, .null, .null, .int 0, .int 0, .int 0], vm := .none },
  { cls := 6, slots := #[.null, .int 3, .int 0, .null, .null, .null, .null, .int 0, .int 0, .int 0], vm := .none },
  { cls := 6, slots := #[.null, .int 4, .int 0, .null, .null, .null, .null, .int 0, .int 0, .int 0], vm := .none },
  { cls := 6, slots := #[.null, .int 5, .int 0, .ref 22, .ref 23, .null, .null, .int 0, .int 0, .int 0], vm := .none },
  { cls := 6, slots := #[.null, .int 6, .int 0, .null, .null, .null, .null, .int 0, .int 0, .int 0], vm := .none },
  { cls := 6, slots := #[.null, .int 7, .int 0, .ref 17, .ref 17, .null, .null, .int 0, .int 0, .int 0], vm := .none },
  { cls := 6, slots := #[.null, .int 8, .int 0, .ref 17, .ref 17, .null, .null, .int 0, .int 0, .int 0], vm := .none },
  { cls := 6, slots := #[.null, .int 9, .int 0, .ref 17, .ref 17, .null, .null, .int 0, .int 0, .int 0], vm := .none },
  { cls := 6, slots := #[.null, .int 10, .int 0, .ref 24, .ref 25, .null, .null, .int 0, .int 0, .int 0], vm := .none },
  { cls := 6, slots := #[.null, .int 11, .int 0, .ref 26, .ref 27, .null, .null, .int 0, .int 0, .int 0], vm := .none },
  { cls := 6, slots := #[.null, .int 12, .int 0, .ref 28, .ref 29, .null, .null, .int 0, .int 0, .int 0], vm := .none },
  { cls := 6, slots := #[.null, .int 13, .int 0, .ref 30, .ref 31, .null, .null, .int 0, .int 0, .int 0], vm := .none },
  { cls := 6, slots := #[.null, .int 14, .int 0, .ref 32, .ref 33, .null, .null, .int 0, .int 0, .int 0], vm := .none },
  { cls := 7, slots := #[.null, .int 0, .int 0, .null, .int 0], vm := .none },
  { cls := 7, slots := #[.null, .int 0, .int 0, .null, .int 0], vm := .none },
  { cls := 7, slots := #[.null, .int 0, .int 0, .null, .int 0], vm := .none },
  { cls := 7, slots := #[.null, .int 0, .int 0, .null, .int 0], vm := .none },
  { cls := 7, slots := #[.null, .int 0, .int 0, .null, .int 0], vm := .none },
  { cls := 7, slots := #[.null, .int 0, .int 0, .null, .int 0], vm := .none },
  { cls := 7, slots := #[.null, .int 0, .int 0, .null, .int 0], vm := .none },
  { cls := 7, slots := #[.null, .int 0, .int 0, .null, .int 0], vm := .none },
  { cls := 7, slots := #[.null, .int 0, .int 0, .null, .int 0], vm := .none },
  { cls := 7, slots := #[.null, .int 0, .int 0, .null, .int 0], vm := .none },
  { cls := 7, slots := #[.null, .int 0, .int 0, .null, .int 0], vm := .none },
  { cls := 7, slots := #[.null, .int 0, .int 0, .null, .int 0], vm := .none },
  { cls := 7, slots := #[.null, .int 0, .int 0, .null, .int 0], vm := .none },
  { cls := 7, slots := #[.null, .int 0, .int 0, .null, .int 0], vm := .none },
  { cls := 7, slots := #[.null, .int 0, .int 0, .null, .int 0], vm := .none },
  { cls := 7, slots := #[.null, .int 0, .int 0, .null, .int 0], vm := .none },
  { cls := 7, slots := #[.null, .int 0, .int 0, .null, .int 0], vm := .none }]
def classes : Array Class := #[k0, k1, k2, k3, k4, k5, k6, k7, k8, k9, k10, k11, k12, k13]
def interned : List (Array UInt16 × Addr) := []
def slotsUsed : Nat := 304
def theMethod : MethodId := ⟨1, 1⟩
def args0 : Array Value := #[.int 5]
def aboutOver (below : List Frame) : State where
  vm := { classes := classes, interned := interned.toArray }
  heap := heap
  slotsUsed := slotsUsed
  threads := #[{ frames := .invoking theMethod args0 :: below }]
def below0 : List Frame := [.native { method := ⟨0, 0⟩, args := #[] }]
def about1 : State := aboutOver below0
def p0 : Program := .bare "" "" ""
def e0 : Env := launch0.env 0 0 0
theorem w_frames : about1.frames = Frame.invoking theMethod args0 :: below0 := rfl
set_option maxRecDepth 65536 in
theorem w_args : argsFit about1.vm theMethod args0 = true := by decide +kernel
set_option maxRecDepth 65536 in
theorem w_heap : heapFits about1 = true := by decide +kernel
set_option maxRecDepth 65536 in
theorem w_runnable : about1.curStatus? = some .runnable := by decide +kernel
set_option maxRecDepth 65536 in
theorem w_alone : about1.alone = true := by decide +kernel
set_option maxRecDepth 65536 in
theorem w_named : about1.methodNamed? x = some theMethod := by decide +kernel
set_option maxRecDepth 65536 in
theorem w_hears : about1.hears theMethod below0 = true := by decide +kernel
set_option maxRecDepth 65536 in
theorem w_ripe : about1.ripe theMethod args0 below0 = true := by decide +kernel
theorem w_running : about1.status = .running := rfl
set_option maxRecDepth 65536 in
theorem w_room : about1.hasRoom e0.platform room_1 = true :=
  launch0.hasRoom_least _ room_1 (by decide +kernel) (by decide +kernel) (by decide +kernel) (by decide +kernel) (by decide +kernel) (by decide +kernel)
theorem allAtoms_all (ts : List Jvm.Cond) (a : Array Jvm.Value) (st : Jvm.State) : (allAtoms ts).before a st = ts.all (fun c => c.before a st) := by
  induction ts with
  | nil => rfl
  | cons c t ih =>
    show (Jvm.Cond.and c (allAtoms t)).before a st = _
    rw [Jvm.Cond.before_and, ih, List.all_cons]
def words1 : List Jvm.Cond := Jvm.Cond.code x code maxLocals ret :: tables_1
/-- a 'code' word, met by the world's own term for the bytes: nothing is compared byte by byte -/
theorem code_word {y : MethodName} {bytes : ByteArray} {mx : Nat} {rt : Option FieldType} {a : Array Value} {s : State} {m : MethodId} {meth : Method} {c : Code} (h1 : s.methodNamed? y = some m) (h2 : s.vm.method? m = some meth) (h3 : meth.code = some c) (h4 : c.code = bytes)
    (h5 : (c.maxLocals == mx && c.exceptionTable.isEmpty && decide (c.maxStack ≤ mostOperands) && decide (meth.sig.returnType = rt) && !meth.locks && decide (parseMethodDescriptor y.desc = some meth.sig)) = true) : (Jvm.Cond.code y bytes mx rt).before a s = true := by
  simp only [Bool.and_eq_true, beq_iff_eq, Bool.not_eq_true', decide_eq_true_eq] at h5
  obtain ⟨⟨⟨⟨⟨g1, g2⟩, g3⟩, g4⟩, g5⟩, g6⟩ := h5
  simp [Cond.before, Cond.holds, Cond.value, h1, h2, h3, h4, g1, g2, g3, g4, g5, g6]
def isCode : Jvm.Cond → Bool
  | .code _ _ _ _ => true
  | _ => false
theorem all_split {L : List Jvm.Cond} {P : Jvm.Cond → Bool} (h1 : L.all (fun c => isCode c || P c) = true) (h2 : ∀ c ∈ L.filter isCode, P c = true) : L.all P = true := by
  refine List.all_eq_true.mpr fun c hc => ?_
  have h := List.all_eq_true.mp h1 c hc
  rcases Bool.eq_false_or_eq_true (isCode c) with hi | hi
  · exact h2 c (List.mem_filter.mpr ⟨hc, hi⟩)
  · simpa [hi] using h
set_option maxRecDepth 65536 in
theorem w_c0 : (Jvm.Cond.code x code maxLocals ret).before args0 about1 = true := code_word (m := ⟨1, 1⟩) (meth := k1m1) (c := k1c1) (by decide +kernel) rfl rfl rfl (by decide +kernel)
set_option maxRecDepth 65536 in
theorem w_c1 : (Jvm.Cond.code ({ cls := "com/example/rev3/rev3/change/ElementKind", name := "isAlternatives", desc := "()Z" } : Jvm.MethodName) prog_28_method_13_code (1 : Nat) (Option.some Jvm.ClassFile.FieldType.boolean)).before args0 about1 = true := code_word (m := ⟨6, 2⟩) (meth := k6m2) (c := k6c2) (by decide +kernel) rfl rfl rfl (by decide +kernel)
set_option maxRecDepth 65536 in
theorem w_c2 : (Jvm.Cond.code ({ cls := "com/example/rev3/rev3/change/ElementKind", name := "getAdded", desc := "()Lcom/example/rev3/rev3/change/ChangeKind;" } : Jvm.MethodName) prog_28_method_7_code (1 : Nat) (Option.some (Jvm.ClassFile.FieldType.object "com/example/rev3/rev3/change/ChangeKind"))).before args0 about1 = true := code_word (m := ⟨6, 0⟩) (meth := k6m0) (c := k6c0) (by decide +kernel) rfl rfl rfl (by decide +kernel)
set_option maxRecDepth 65536 in
theorem w_c3 : (Jvm.Cond.code ({ cls := "com/example/rev3/rev3/change/ElementKind", name := "getRemoved", desc := "()Lcom/example/rev3/rev3/change/ChangeKind;" } : Jvm.MethodName) prog_28_method_8_code (1 : Nat) (Option.some (Jvm.ClassFile.FieldType.object "com/example/rev3/rev3/change/ChangeKind"))).before args0 about1 = true := code_word (m := ⟨6, 1⟩) (meth := k6m1) (c := k6c1) (by decide +kernel) rfl rfl rfl (by decide +kernel)
def codes1 : List Jvm.Cond := [Jvm.Cond.code x code maxLocals ret, Jvm.Cond.code ({ cls := "com/example/rev3/rev3/change/ElementKind", name := "isAlternatives", desc := "()Z" } : Jvm.MethodName) prog_28_method_13_code (1 : Nat) (Option.some Jvm.ClassFile.FieldType.boolean), Jvm.Cond.code ({ cls := "com/example/rev3/rev3/change/ElementKind", name := "getAdded", desc := "()Lcom/example/rev3/rev3/change/ChangeKind;" } : Jvm.MethodName) prog_28_method_7_code (1 : Nat) (Option.some (Jvm.ClassFile.FieldType.object "com/example/rev3/rev3/change/ChangeKind")), Jvm.Cond.code ({ cls := "com/example/rev3/rev3/change/ElementKind", name := "getRemoved", desc := "()Lcom/example/rev3/rev3/change/ChangeKind;" } : Jvm.MethodName) prog_28_method_8_code (1 : Nat) (Option.some (Jvm.ClassFile.FieldType.object "com/example/rev3/rev3/change/ChangeKind"))]
set_option maxRecDepth 65536 in
theorem codes_eq : words1.filter isCode = codes1 := rfl
theorem w_codes : ∀ c ∈ words1.filter isCode, c.before args0 about1 = true := by
  rw [codes_eq]
  intro c hc
  simp only [codes1, List.mem_cons, List.not_mem_nil, or_false] at hc
  rcases hc with rfl | rfl | rfl | rfl
  · exact w_c0
  · exact w_c1
  · exact w_c2
  · exact w_c3
set_option maxRecDepth 65536 in
theorem w_t1 : (words1.take 24).all (fun c => isCode c || c.before args0 about1) = true := by decide +kernel
set_option maxRecDepth 65536 in
theorem w_t2 : ((words1.drop 24).take 24).all (fun c => isCode c || c.before args0 about1) = true := by decide +kernel
set_option maxRecDepth 65536 in
theorem w_t3 : (((words1.drop 24).drop 24).take 24).all (fun c => isCode c || c.before args0 about1) = true := by decide +kernel
set_option maxRecDepth 65536 in
theorem w_t4 : (((words1.drop 24).drop 24).drop 24).all (fun c => isCode c || c.before args0 about1) = true := by decide +kernel
theorem w_tables : (allAtoms (Jvm.Cond.code x code maxLocals ret :: tables_1)).before args0 about1 = true := by
  rw [allAtoms_all]
  show words1.all (fun c => c.before args0 about1) = true
  refine all_split ?_ w_codes
  rw [← List.take_append_drop 24 words1, List.all_append, w_t1, ← List.take_append_drop 24 (words1.drop 24), List.all_append, w_t2, ← List.take_append_drop 24 ((words1.drop 24).drop 24), List.all_append, w_t3, w_t4]
  rfl
set_option maxRecDepth 65536 in
theorem w_case : (Jvm.Cond.and given_1 narrow_1).before args0 about1 = true := by decide +kernel
theorem w_applies : (headSpec (Jvm.Cond.code x code maxLocals ret :: tables_1) room_1).applies x e0.platform about1 = true :=
  (Spec.applies_iff w_frames).mpr ⟨w_running, w_runnable, w_alone, w_named, w_hears, w_ripe, w_room, w_tables⟩
theorem atStart : AtStart classFile x code maxLocals ret World_1 tables_1 room_1 Calls_1 rest_1 Pre_1 launch0 p0 e0 about1 theMethod args0 below0 :=
  ⟨lists_1, trivial, launch0.admits_env _ _ _, launch0.least_env, fairChoices_fair.cas, fairChoices_fair.clock, w_frames, w_args, w_heap, w_applies, trivial, trivial, w_case⟩
end start1
theorem witness_1 : WitnessClaimed_1 := ⟨start1.p0, start1.e0, start1.about1, start1.theMethod, start1.args0, start1.below0, start1.atStart⟩
end Jvm.Pilot.@@N@@
