import JvmDerived
import JvmDerived.Pilot.@@N@@Statement
import JvmDerived.Pilot.@@N@@Code
set_option linter.unusedVariables false
set_option linter.unusedSimpArgs false
namespace Jvm.RoadKit
open Sem ClassFile Op Lib Jvm.Stand Jvm.Free Jvm.LawKit
section New
variable {p : Program} {l : Launch} {e : Env} {R : Room} {s : State} {m : MethodId} {args : Array Value} {below : List Frame} {meth : Method} {c : Code} {T : State} {locs : List Loc} {cells slots : Nat}
theorem retI (X : Stand p l e R s m args below meth c T locs cells slots) (hx : p.tables.exec = Jvm.exec) {pc : Nat} {Ls : Array Slot} {z : Int32} {rest : List Value} (hret : meth.sig.returnType = some .int) (hd : decode c.code pc = .ok (.ireturn, 1)) {fs : List Frame}
    (hl : ∀ (f : JFrame) (acts : List Action), f.method = m → f.locked = none → f.entered = [] → (doReturn e (T.setTop f) acts (some (.int z))).1 = T.setFrames fs) : Steps p.tables e below (T.setTop (mkF m pc Ls (.int z :: rest))) (T.setFrames fs) := by
  have hm' : T.vm.method? m = some meth := X.method'
  have hn : narrow .int (.int z) = .int z := rfl
  show Steps p.tables e below (T.setTop { method := m, pc := pc, locals := Ls, stack := _ :: rest, locked := none }) _
  jvm_step X.here [X.here.top, hx, hd, hm', hret, hn]
  first | (intro acts; rw [hl _ acts rfl rfl rfl]) | rw [hl _ _ rfl rfl rfl]
  exact Steps.refl _
end New
end Jvm.RoadKit
namespace Jvm.Pilot.@@N@@
open Jvm Jvm.ClassFile Sem Op Lib Jvm.Free Jvm.Stand Jvm.LawKit Jvm.RoadKit Bundle Jvm.Pilot.@@N@@.Jvm.D
theorem own_ext {h h' : Heap} (K : Keep h h' []) : Ext h h' := ⟨K.1, fun a c q => K.2.1 a c q (by simp)⟩
theorem d1_0 : decode method_2_code 0 = .ok (.iconst 5, 1) := by decide +kernel
theorem d1_1 : decode method_2_code 1 = .ok (.anewarray 7, 3) := by decide +kernel
theorem d1_4 : decode method_2_code 4 = .ok (.dup, 1) := by decide +kernel
theorem d1_5 : decode method_2_code 5 = .ok (.iconst 0, 1) := by decide +kernel
theorem d1_6 : decode method_2_code 6 = .ok (.getstatic 9, 3) := by decide +kernel
theorem d1_9 : decode method_2_code 9 = .ok (.aastore, 1) := by decide +kernel
theorem d1_10 : decode method_2_code 10 = .ok (.dup, 1) := by decide +kernel
theorem d1_11 : decode method_2_code 11 = .ok (.iconst 1, 1) := by decide +kernel
theorem d1_12 : decode method_2_code 12 = .ok (.getstatic 13, 3) := by decide +kernel
theorem d1_15 : decode method_2_code 15 = .ok (.aastore, 1) := by decide +kernel
theorem d1_16 : decode method_2_code 16 = .ok (.dup, 1) := by decide +kernel
theorem d1_17 : decode method_2_code 17 = .ok (.iconst 2, 1) := by decide +kernel
theorem d1_18 : decode method_2_code 18 = .ok (.getstatic 16, 3) := by decide +kernel
theorem d1_21 : decode method_2_code 21 = .ok (.aastore, 1) := by decide +kernel
theorem d1_22 : decode method_2_code 22 = .ok (.dup, 1) := by decide +kernel
theorem d1_23 : decode method_2_code 23 = .ok (.iconst 3, 1) := by decide +kernel
theorem d1_24 : decode method_2_code 24 = .ok (.getstatic 19, 3) := by decide +kernel
theorem d1_27 : decode method_2_code 27 = .ok (.aastore, 1) := by decide +kernel
theorem d1_28 : decode method_2_code 28 = .ok (.dup, 1) := by decide +kernel
theorem d1_29 : decode method_2_code 29 = .ok (.iconst 4, 1) := by decide +kernel
theorem d1_30 : decode method_2_code 30 = .ok (.getstatic 22, 3) := by decide +kernel
theorem d1_33 : decode method_2_code 33 = .ok (.aastore, 1) := by decide +kernel
theorem d1_34 : decode method_2_code 34 = .ok (.astore_n 1, 1) := by decide +kernel
theorem d1_35 : decode method_2_code 35 = .ok (.aload_n 1, 1) := by decide +kernel
theorem d1_36 : decode method_2_code 36 = .ok (.iload_n 0, 1) := by decide +kernel
theorem d1_37 : decode method_2_code 37 = .ok (.aaload, 1) := by decide +kernel
theorem d1_38 : decode method_2_code 38 = .ok (.areturn, 1) := by decide +kernel
theorem pn_1 : plainName "com/example/nereus/nereus/DomainIncludesPinLaw" = true := by first | (simp [plainName, overriddenIn]; done) | decide +kernel
theorem ef_1 (m : MethodId) (x0 : Int32) : entryFrame m #[(.int x0)] 2 = mkF m 0 #[.val (.int x0), .unset] [] := by first | (simp [entryFrame, mkF, argsToLocals, Value.category]; done) | rfl
def Q1 (Z : State) (p1 : Int32) (w3 : Addr) (w6 : Addr) (w9 : Addr) (w12 : Addr) (w15 : Addr) (w18 : Addr) (h0 : Heap) (n0 : Nat) (v : Option Value) (h : Heap) (L : List Loc) : Prop := v = some (.ref w18) ∧ Fr n0 L ∧ Ext h0 h
set_option maxRecDepth 65536 in
set_option maxHeartbeats 40000000 in
theorem rm1 (l : Launch) (Z : State) (a0 : Array Value) (hw : ∀ d ∈ tables_1, d.before a0 Z = true) (ws : List Jvm.Cond) (p1 : Int32) (w3 : Addr) (w6 : Addr) (w9 : Addr) (w12 : Addr) (w15 : Addr) (w18 : Addr) (h0 : Heap) (n0 : Nat) (Z0 : n0 ≤ h0.size) (S_STRING : Sta Z h0 "com/example/nereus/nereus/Domain" "STRING" "Lcom/example/nereus/nereus/Domain;" (.ref w3)) (S_INTEGER : Sta Z h0 "com/example/nereus/nereus/Domain" "INTEGER" "Lcom/example/nereus/nereus/Domain;" (.ref w6)) (S_DECIMAL : Sta Z h0 "com/example/nereus/nereus/Domain" "DECIMAL" "Lcom/example/nereus/nereus/Domain;" (.ref w9)) (S_BOOLEAN : Sta Z h0 "com/example/nereus/nereus/Domain" "BOOLEAN" "Lcom/example/nereus/nereus/Domain;" (.ref w12)) (S_DATETIME : Sta Z h0 "com/example/nereus/nereus/Domain" "DATETIME" "Lcom/example/nereus/nereus/Domain;" (.ref w15)) (E_w3 : Exa Z h0 w3 "com/example/nereus/nereus/Domain$1") (E_w6 : Exa Z h0 w6 "com/example/nereus/nereus/Domain$2") (E_w9 : Exa Z h0 w9 "com/example/nereus/nereus/Domain$3") (E_w12 : Exa Z h0 w12 "com/example/nereus/nereus/Domain$4") (E_w15 : Exa Z h0 w15 "com/example/nereus/nereus/Domain$5") (hp0 : ¬ p1 < 0) (hp5 : p1 < 5) (hsel : ([.ref w3, .ref w6, .ref w9, .ref w12, .ref w15] : List Value).getD p1.toNatClampNeg .null = .ref w18) :
    MetFree l (⟨"com/example/nereus/nereus/DomainIncludesPinLaw", "pick", "(I)Lcom/example/nereus/nereus/Domain;"⟩ : MethodName) (head1 (Jvm.Cond.code (⟨"com/example/nereus/nereus/DomainIncludesPinLaw", "pick", "(I)Lcom/example/nereus/nereus/Domain;"⟩ : MethodName) method_2_code 2 (some (.object "com/example/nereus/nereus/Domain")) :: ws) ({ frames := 0, cells := 1, slots := 5, locals := 0 } : Room)) (fun a U => a = #[(.int p1)] ∧ Z.Warmed39 U.vm ∧ U.heap = h0) (fun _ _ _ _ _ => True) (fun _ U o U' => ∃ v L, o = .returned v ∧ Q1 Z p1 w3 w6 w9 w12 w15 w18 h0 n0 v U'.heap L ∧ FrameEnd U o U' L ({ frames := 0, cells := 1, slots := 5, locals := 0 } : Room).cells ({ frames := 0, cells := 1, slots := 5, locals := 0 } : Room).slots) := by
  refine MetFree.of_bodySF (plainFor_of_name pn_1) hisR ?_
  intro p e s m args below meth c s₁ Bd hml0 hP hK
  obtain ⟨rfl, hZ, hh⟩ := hP
  have hx := Bd.exec
  have hby := Bd.bytes
  have hml : c.maxLocals = 2 := hml0
  have hown : s.vm.findClass "com/example/nereus/nereus/DomainIncludesPinLaw" = some m.cls := findClass_of_methodNamed Bd.named
  have hnm := (name_of_methodNamed Bd.named Bd.method).1
  have X0 : Stand p l e ({ frames := 0, cells := 1, slots := 5, locals := 0 } : Room) s m #[(.int p1)] below meth c s₁ [] 0 0 := Stand.of_body Bd
  have e0 : s₁.heap = h0 := by rw [← hh, Bd.state]; rfl
  have N0 := Fr.nil n0
  have pre0 : ∀ t, Steps p.tables e below (s₁.setTop (mkF m 0 #[.val (.int p1), .unset] [])) t → Steps p.tables e below (s₁.setTop (entryFrame m #[(.int p1)] 2)) t := fun t k => castTop (ef_1 m p1) k
  obtain ⟨T2, h2, k2, X2, e2, E2, A2, O2, st2⟩ := newR X0 hx hZ hown (hw _ (List.mem_of_getElem? (i := 5) rfl)) (hw _ (List.mem_of_getElem? (i := 6) rfl)) e0 (g := (mkF m 1 #[.val (.int p1), .unset] [(.int (5 : Int32))])) rfl (hb hby d1_1) rfl (by decide) (cap := 5) (by decide) (by decide) (by decide) (by decide)
  obtain ⟨b2, g2⟩ : ∃ z, z = h0.size := ⟨_, rfl⟩      -- the fresh array's address
  rw [← g2] at A2 st2
  have V_b2 : Arv Z h2 b2 k2 (.object "com/example/nereus/nereus/Domain") (5 : Int32) [.null, .null, .null, .null, .null] .null := (Arv.new A2 (by decide)).pad (pad_rep [] .null 5)
  have g_b2 : n0 ≤ b2 := Nat.le_trans Z0 (Nat.le_of_eq g2.symm)
  have sz_b2 : h0.size ≤ b2 := (Nat.le_trans (Keep.refl h0 []).1 (Nat.le_of_eq g2.symm))
  have K2 : Keep h0 h2 [] := (Keep.refl h0 []).ext E2
  obtain ⟨T4, X4, e4, st4⟩ := getS2 X2 hx hZ hown (host := "") (Or.inl (hw _ (List.mem_of_getElem? (i := 7) rfl))) Via.refl e2 (S_STRING.ext (own_ext K2)) (g := (mkF m 6 #[.val (.int p1), .unset] [(.int (0 : Int32)), (.ref b2), (.ref b2)])) rfl (hb hby d1_6)
  obtain ⟨cl_9, Ar_b2, q_b2, Sz_b2, N_b2, H_b2, G_b2⟩ := V_b2
  have hin9 : ¬ ((0 : Int32) < 0 ∨ cl_9.slots.size ≤ ((0 : Int32)).toNatClampNeg) := inb_of Sz_b2 ⟨by decide, by decide⟩
  have Sto9 := Sto.ofV Ar_b2 q_b2 O2 (Ins.of_exa (E_w3.ext (own_ext K2)) (hw _ (List.mem_of_getElem? (i := 10) rfl)))
  obtain ⟨T5, h5, X5, e5, W5, st5⟩ := stR X4 hx hZ e4 Ar_b2 (j := (0 : Int32)) hin9 rfl Sto9 (g := (mkF m 9 #[.val (.int p1), .unset] [(.ref w3), (.int (0 : Int32)), (.ref b2), (.ref b2)])) rfl rfl (hb hby d1_9)
  have N5 := Fr.snoc X5 N0 g_b2
  have K5 : Keep h0 h5 [] := K2.wr W5 (Or.inr sz_b2)
  have V_b2 := Arv.set Ar_b2 q_b2 Sz_b2 N_b2 H_b2 G_b2 rfl W5 0 rfl (Nat.le_of_ble_eq_true rfl)
  obtain ⟨T7, X7, e7, st7⟩ := getS2 X5 hx hZ hown (host := "") (Or.inl (hw _ (List.mem_of_getElem? (i := 11) rfl))) Via.refl e5 (S_INTEGER.ext (own_ext K5)) (g := (mkF m 12 #[.val (.int p1), .unset] [(.int (1 : Int32)), (.ref b2), (.ref b2)])) rfl (hb hby d1_12)
  obtain ⟨cl_15, Ar_b2, q_b2, Sz_b2, N_b2, H_b2, G_b2⟩ := V_b2
  have hin15 : ¬ ((1 : Int32) < 0 ∨ cl_15.slots.size ≤ ((1 : Int32)).toNatClampNeg) := inb_of Sz_b2 ⟨by decide, by decide⟩
  have Sto15 := Sto.ofV Ar_b2 q_b2 O2 (Ins.of_exa (E_w6.ext (own_ext K5)) (hw _ (List.mem_of_getElem? (i := 13) rfl)))
  obtain ⟨T8, h8, X8, e8, W8, st8⟩ := stR X7 hx hZ e7 Ar_b2 (j := (1 : Int32)) hin15 rfl Sto15 (g := (mkF m 15 #[.val (.int p1), .unset] [(.ref w6), (.int (1 : Int32)), (.ref b2), (.ref b2)])) rfl rfl (hb hby d1_15)
  have N8 := Fr.snoc X8 N5 g_b2
  have K8 : Keep h0 h8 [] := K5.wr W8 (Or.inr sz_b2)
  have V_b2 := Arv.set Ar_b2 q_b2 Sz_b2 N_b2 H_b2 G_b2 rfl W8 1 rfl (Nat.le_of_ble_eq_true rfl)
  obtain ⟨T10, X10, e10, st10⟩ := getS2 X8 hx hZ hown (host := "") (Or.inl (hw _ (List.mem_of_getElem? (i := 14) rfl))) Via.refl e8 (S_DECIMAL.ext (own_ext K8)) (g := (mkF m 18 #[.val (.int p1), .unset] [(.int (2 : Int32)), (.ref b2), (.ref b2)])) rfl (hb hby d1_18)
  obtain ⟨cl_21, Ar_b2, q_b2, Sz_b2, N_b2, H_b2, G_b2⟩ := V_b2
  have hin21 : ¬ ((2 : Int32) < 0 ∨ cl_21.slots.size ≤ ((2 : Int32)).toNatClampNeg) := inb_of Sz_b2 ⟨by decide, by decide⟩
  have Sto21 := Sto.ofV Ar_b2 q_b2 O2 (Ins.of_exa (E_w9.ext (own_ext K8)) (hw _ (List.mem_of_getElem? (i := 16) rfl)))
  obtain ⟨T11, h11, X11, e11, W11, st11⟩ := stR X10 hx hZ e10 Ar_b2 (j := (2 : Int32)) hin21 rfl Sto21 (g := (mkF m 21 #[.val (.int p1), .unset] [(.ref w9), (.int (2 : Int32)), (.ref b2), (.ref b2)])) rfl rfl (hb hby d1_21)
  have N11 := Fr.snoc X11 N8 g_b2
  have K11 : Keep h0 h11 [] := K8.wr W11 (Or.inr sz_b2)
  have V_b2 := Arv.set Ar_b2 q_b2 Sz_b2 N_b2 H_b2 G_b2 rfl W11 2 rfl (Nat.le_of_ble_eq_true rfl)
  obtain ⟨T13, X13, e13, st13⟩ := getS2 X11 hx hZ hown (host := "") (Or.inl (hw _ (List.mem_of_getElem? (i := 17) rfl))) Via.refl e11 (S_BOOLEAN.ext (own_ext K11)) (g := (mkF m 24 #[.val (.int p1), .unset] [(.int (3 : Int32)), (.ref b2), (.ref b2)])) rfl (hb hby d1_24)
  obtain ⟨cl_27, Ar_b2, q_b2, Sz_b2, N_b2, H_b2, G_b2⟩ := V_b2
  have hin27 : ¬ ((3 : Int32) < 0 ∨ cl_27.slots.size ≤ ((3 : Int32)).toNatClampNeg) := inb_of Sz_b2 ⟨by decide, by decide⟩
  have Sto27 := Sto.ofV Ar_b2 q_b2 O2 (Ins.of_exa (E_w12.ext (own_ext K11)) (hw _ (List.mem_of_getElem? (i := 19) rfl)))
  obtain ⟨T14, h14, X14, e14, W14, st14⟩ := stR X13 hx hZ e13 Ar_b2 (j := (3 : Int32)) hin27 rfl Sto27 (g := (mkF m 27 #[.val (.int p1), .unset] [(.ref w12), (.int (3 : Int32)), (.ref b2), (.ref b2)])) rfl rfl (hb hby d1_27)
  have N14 := Fr.snoc X14 N11 g_b2
  have K14 : Keep h0 h14 [] := K11.wr W14 (Or.inr sz_b2)
  have V_b2 := Arv.set Ar_b2 q_b2 Sz_b2 N_b2 H_b2 G_b2 rfl W14 3 rfl (Nat.le_of_ble_eq_true rfl)
  obtain ⟨T16, X16, e16, st16⟩ := getS2 X14 hx hZ hown (host := "") (Or.inl (hw _ (List.mem_of_getElem? (i := 20) rfl))) Via.refl e14 (S_DATETIME.ext (own_ext K14)) (g := (mkF m 30 #[.val (.int p1), .unset] [(.int (4 : Int32)), (.ref b2), (.ref b2)])) rfl (hb hby d1_30)
  obtain ⟨cl_33, Ar_b2, q_b2, Sz_b2, N_b2, H_b2, G_b2⟩ := V_b2
  have hin33 : ¬ ((4 : Int32) < 0 ∨ cl_33.slots.size ≤ ((4 : Int32)).toNatClampNeg) := inb_of Sz_b2 ⟨by decide, by decide⟩
  have Sto33 := Sto.ofV Ar_b2 q_b2 O2 (Ins.of_exa (E_w15.ext (own_ext K14)) (hw _ (List.mem_of_getElem? (i := 22) rfl)))
  obtain ⟨T17, h17, X17, e17, W17, st17⟩ := stR X16 hx hZ e16 Ar_b2 (j := (4 : Int32)) hin33 rfl Sto33 (g := (mkF m 33 #[.val (.int p1), .unset] [(.ref w15), (.int (4 : Int32)), (.ref b2), (.ref b2)])) rfl rfl (hb hby d1_33)
  have N17 := Fr.snoc X17 N14 g_b2
  have K17 : Keep h0 h17 [] := K14.wr W17 (Or.inr sz_b2)
  have V_b2 := Arv.set Ar_b2 q_b2 Sz_b2 N_b2 H_b2 G_b2 rfl W17 4 rfl (Nat.le_of_ble_eq_true rfl)
  obtain ⟨cl_37, Ar_b2, q_b2, Sz_b2, N_b2, H_b2, G_b2⟩ := V_b2
  have hin37 : ¬ (p1 < 0 ∨ cl_37.slots.size ≤ p1.toNatClampNeg) := inb_of Sz_b2 ⟨hp0, hp5⟩
  have hat37 := Has.at H_b2 hin37 hsel
  obtain ⟨fs, hr, hrun, hended, hW, hsame⟩ := X17.leave (v := some (.ref w18)) (fun h => by rw [Bd.returns] at h; cases h)
  refine ⟨_, _, pre0 _ ?_, hrun, hended, _, _, rfl, ?_, ⟨_, rfl⟩, hW, hsame.mono (by decide) (by decide)⟩
  · show Steps p.tables e below (s₁.setTop (mkF m 0 #[.val (.int p1), .unset] [])) _
    refine XS.iconst X0.here hx rfl (hb hby d1_0) ?_
    show Steps p.tables e below (s₁.setTop (mkF m 1 #[.val (.int p1), .unset] [(.int (5 : Int32))])) _
    refine st2 _ ?_
    show Steps p.tables e below (T2.setTop (mkF m 4 #[.val (.int p1), .unset] [(.ref b2)])) _
    refine XS.dup X2.here hx rfl (hb hby d1_4) rfl rfl ?_
    show Steps p.tables e below (T2.setTop (mkF m 5 #[.val (.int p1), .unset] [(.ref b2), (.ref b2)])) _
    refine XS.iconst X2.here hx rfl (hb hby d1_5) ?_
    show Steps p.tables e below (T2.setTop (mkF m 6 #[.val (.int p1), .unset] [(.int (0 : Int32)), (.ref b2), (.ref b2)])) _
    refine st4 _ ?_
    show Steps p.tables e below (T4.setTop (mkF m 9 #[.val (.int p1), .unset] [(.ref w3), (.int (0 : Int32)), (.ref b2), (.ref b2)])) _
    refine st5 _ ?_
    show Steps p.tables e below (T5.setTop (mkF m 10 #[.val (.int p1), .unset] [(.ref b2)])) _
    refine XS.dup X5.here hx rfl (hb hby d1_10) rfl rfl ?_
    show Steps p.tables e below (T5.setTop (mkF m 11 #[.val (.int p1), .unset] [(.ref b2), (.ref b2)])) _
    refine XS.iconst X5.here hx rfl (hb hby d1_11) ?_
    show Steps p.tables e below (T5.setTop (mkF m 12 #[.val (.int p1), .unset] [(.int (1 : Int32)), (.ref b2), (.ref b2)])) _
    refine st7 _ ?_
    show Steps p.tables e below (T7.setTop (mkF m 15 #[.val (.int p1), .unset] [(.ref w6), (.int (1 : Int32)), (.ref b2), (.ref b2)])) _
    refine st8 _ ?_
    show Steps p.tables e below (T8.setTop (mkF m 16 #[.val (.int p1), .unset] [(.ref b2)])) _
    refine XS.dup X8.here hx rfl (hb hby d1_16) rfl rfl ?_
    show Steps p.tables e below (T8.setTop (mkF m 17 #[.val (.int p1), .unset] [(.ref b2), (.ref b2)])) _
    refine XS.iconst X8.here hx rfl (hb hby d1_17) ?_
    show Steps p.tables e below (T8.setTop (mkF m 18 #[.val (.int p1), .unset] [(.int (2 : Int32)), (.ref b2), (.ref b2)])) _
    refine st10 _ ?_
    show Steps p.tables e below (T10.setTop (mkF m 21 #[.val (.int p1), .unset] [(.ref w9), (.int (2 : Int32)), (.ref b2), (.ref b2)])) _
    refine st11 _ ?_
    show Steps p.tables e below (T11.setTop (mkF m 22 #[.val (.int p1), .unset] [(.ref b2)])) _
    refine XS.dup X11.here hx rfl (hb hby d1_22) rfl rfl ?_
    show Steps p.tables e below (T11.setTop (mkF m 23 #[.val (.int p1), .unset] [(.ref b2), (.ref b2)])) _
    refine XS.iconst X11.here hx rfl (hb hby d1_23) ?_
    show Steps p.tables e below (T11.setTop (mkF m 24 #[.val (.int p1), .unset] [(.int (3 : Int32)), (.ref b2), (.ref b2)])) _
    refine st13 _ ?_
    show Steps p.tables e below (T13.setTop (mkF m 27 #[.val (.int p1), .unset] [(.ref w12), (.int (3 : Int32)), (.ref b2), (.ref b2)])) _
    refine st14 _ ?_
    show Steps p.tables e below (T14.setTop (mkF m 28 #[.val (.int p1), .unset] [(.ref b2)])) _
    refine XS.dup X14.here hx rfl (hb hby d1_28) rfl rfl ?_
    show Steps p.tables e below (T14.setTop (mkF m 29 #[.val (.int p1), .unset] [(.ref b2), (.ref b2)])) _
    refine XS.iconst X14.here hx rfl (hb hby d1_29) ?_
    show Steps p.tables e below (T14.setTop (mkF m 30 #[.val (.int p1), .unset] [(.int (4 : Int32)), (.ref b2), (.ref b2)])) _
    refine st16 _ ?_
    show Steps p.tables e below (T16.setTop (mkF m 33 #[.val (.int p1), .unset] [(.ref w15), (.int (4 : Int32)), (.ref b2), (.ref b2)])) _
    refine st17 _ ?_
    show Steps p.tables e below (T17.setTop (mkF m 34 #[.val (.int p1), .unset] [(.ref b2)])) _
    refine XS.astoreN X17.here hx rfl (hb hby d1_34) rfl rfl (l' := #[.val (.int p1), .val (.ref b2)]) rfl ?_
    show Steps p.tables e below (T17.setTop (mkF m 35 #[.val (.int p1), .val (.ref b2)] [])) _
    refine XS.aloadN X17.here hx rfl (hb hby d1_35) rfl rfl ?_
    show Steps p.tables e below (T17.setTop (mkF m 36 #[.val (.int p1), .val (.ref b2)] [(.ref b2)])) _
    refine XS.iloadN X17.here hx rfl (hb hby d1_36) rfl ?_
    show Steps p.tables e below (T17.setTop (mkF m 37 #[.val (.int p1), .val (.ref b2)] [(.int p1), (.ref b2)])) _
    refine X17.aaload hx (j := p1) (v := (.ref w18)) (by rw [e17]; exact Ar_b2.1) (State.isArrayOf_alike hZ.alike Ar_b2.2.1) rfl Ar_b2.2.2 hin37 hat37 (g := (mkF m 37 #[.val (.int p1), .val (.ref b2)] [(.int p1), (.ref b2)])) rfl rfl (hb hby d1_37) _ ?_
    show Steps p.tables e below (T17.setTop (mkF m 38 #[.val (.int p1), .val (.ref b2)] [(.ref w18)])) _
    jvm_step X17.here [X17.here.top, hx, (hb hby d1_38), X17.method', Bd.returns, Value.isRef, FieldType.isReference]
    first | (intro acts; rw [hr _ acts rfl rfl rfl]) | rw [hr _ _ rfl rfl rfl]
    exact Steps.refl _
  · show Q1 Z p1 w3 w6 w9 w12 w15 w18 h0 n0 _ T17.heap _
    rw [e17]
    exact ⟨rfl, N17, own_ext K17⟩
theorem d2_0 : decode prog_3_method_18_code 0 = .ok (.aload_n 0, 1) := by decide +kernel
theorem d2_1 : decode prog_3_method_18_code 1 = .ok (.aload_n 1, 1) := by decide +kernel
theorem d2_2 : decode prog_3_method_18_code 2 = .ok (.if_acmp .eq 17, 3) := by decide +kernel
theorem d2_19 : decode prog_3_method_18_code 19 = .ok (.iconst 1, 1) := by decide +kernel
theorem d2_20 : decode prog_3_method_18_code 20 = .ok (.goto 4, 3) := by decide +kernel
theorem d2_24 : decode prog_3_method_18_code 24 = .ok (.ireturn, 1) := by decide +kernel
theorem pn_2 : plainName "com/example/nereus/nereus/Domain" = true := by first | (simp [plainName, overriddenIn]; done) | decide +kernel
theorem ef_2 (m : MethodId) (x0 : Addr) (x1 : Addr) : entryFrame m #[(.ref x0), (.ref x1)] 2 = mkF m 0 #[.val (.ref x0), .val (.ref x1)] [] := by first | (simp [entryFrame, mkF, argsToLocals, Value.category]; done) | rfl
def Q2a (Z : State) (a1 : Addr) (a2 : Addr) (h0 : Heap) (n0 : Nat) (v : Option Value) (h : Heap) (L : List Loc) : Prop := v = some (.int (1 : Int32)) ∧ Fr n0 L ∧ h = h0
set_option maxRecDepth 65536 in
set_option maxHeartbeats 40000000 in
theorem rm2a (l : Launch) (Z : State) (a0 : Array Value) (hw : ∀ d ∈ tables_1, d.before a0 Z = true) (ws : List Jvm.Cond) (a1 : Addr) (a2 : Addr) (h0 : Heap) (n0 : Nat) (Z0 : n0 ≤ h0.size) (ha2 : a1 = a2) :
    MetFree l (⟨"com/example/nereus/nereus/Domain", "includes", "(Lcom/example/nereus/nereus/Domain;)Z"⟩ : MethodName) (head1 (Jvm.Cond.code (⟨"com/example/nereus/nereus/Domain", "includes", "(Lcom/example/nereus/nereus/Domain;)Z"⟩ : MethodName) prog_3_method_18_code 2 (some .boolean) :: ws) ({ frames := 0, cells := 0, slots := 0, locals := 0 } : Room)) (fun a U => a = #[(.ref a1), (.ref a2)] ∧ Z.Warmed39 U.vm ∧ U.heap = h0) (fun _ _ _ _ _ => True) (fun _ U o U' => ∃ v L, o = .returned v ∧ Q2a Z a1 a2 h0 n0 v U'.heap L ∧ FrameEnd U o U' L ({ frames := 0, cells := 0, slots := 0, locals := 0 } : Room).cells ({ frames := 0, cells := 0, slots := 0, locals := 0 } : Room).slots) := by
  refine MetFree.of_bodySF (plainFor_of_name pn_2) hisR ?_
  intro p e s m args below meth c s₁ Bd hml0 hP hK
  obtain ⟨rfl, hZ, hh⟩ := hP
  have hx := Bd.exec
  have hby := Bd.bytes
  have hml : c.maxLocals = 2 := hml0
  have hown : s.vm.findClass "com/example/nereus/nereus/Domain" = some m.cls := findClass_of_methodNamed Bd.named
  have hnm := (name_of_methodNamed Bd.named Bd.method).1
  have X0 : Stand p l e ({ frames := 0, cells := 0, slots := 0, locals := 0 } : Room) s m #[(.ref a1), (.ref a2)] below meth c s₁ [] 0 0 := Stand.of_body Bd
  have e0 : s₁.heap = h0 := by rw [← hh, Bd.state]; rfl
  have N0 := Fr.nil n0
  have pre0 : ∀ t, Steps p.tables e below (s₁.setTop (mkF m 0 #[.val (.ref a1), .val (.ref a2)] [])) t → Steps p.tables e below (s₁.setTop (entryFrame m #[(.ref a1), (.ref a2)] 2)) t := fun t k => castTop (ef_2 m a1 a2) k

  obtain ⟨fs, hr, hrun, hended, hW, hsame⟩ := X0.leave (v := some (.int (1 : Int32))) (fun h => by rw [Bd.returns] at h; cases h)
  refine ⟨_, _, pre0 _ ?_, hrun, hended, _, _, rfl, ?_, ⟨_, rfl⟩, hW, hsame.mono (by decide) (by decide)⟩
  · show Steps p.tables e below (s₁.setTop (mkF m 0 #[.val (.ref a1), .val (.ref a2)] [])) _
    refine XS.aloadN X0.here hx rfl (hb hby d2_0) rfl rfl ?_
    show Steps p.tables e below (s₁.setTop (mkF m 1 #[.val (.ref a1), .val (.ref a2)] [(.ref a1)])) _
    refine XS.aloadN X0.here hx rfl (hb hby d2_1) rfl rfl ?_
    show Steps p.tables e below (s₁.setTop (mkF m 2 #[.val (.ref a1), .val (.ref a2)] [(.ref a2), (.ref a1)])) _
    refine Jvm.RoadKit.acmp (g := (mkF m 2 #[.val (.ref a1), .val (.ref a2)] [(.ref a2), (.ref a1)])) X0 hx rfl rfl rfl (pc0 := 2) (pc' := 19) (same := true) rfl (hb hby d2_2) rfl (decide_eq_true (congrArg Value.ref ha2)) (by decide) (by decide) ?_
    show Steps p.tables e below (s₁.setTop (mkF m 19 #[.val (.ref a1), .val (.ref a2)] [])) _
    refine XS.iconst X0.here hx rfl (hb hby d2_19) ?_
    show Steps p.tables e below (s₁.setTop (mkF m 20 #[.val (.ref a1), .val (.ref a2)] [(.int (1 : Int32))])) _
    refine XS.goto X0.here hx rfl (pc0 := 20) (pc' := 24) rfl (hb hby d2_20) (by decide) (by decide) ?_
    show Steps p.tables e below (s₁.setTop (mkF m 24 #[.val (.ref a1), .val (.ref a2)] [(.int (1 : Int32))])) _
    exact retN X0 hx (t := .boolean) Bd.returns (by simp) (hb hby d2_24) hr
  · show Q2a Z a1 a2 h0 n0 _ s₁.heap _
    rw [e0]
    exact ⟨rfl, N0, rfl⟩
theorem d2_5 : decode prog_3_method_18_code 5 = .ok (.aload_n 0, 1) := by decide +kernel
theorem d2_6 : decode prog_3_method_18_code 6 = .ok (.getstatic 10, 3) := by decide +kernel
theorem d2_9 : decode prog_3_method_18_code 9 = .ok (.if_acmp .ne 14, 3) := by decide +kernel
theorem d2_23 : decode prog_3_method_18_code 23 = .ok (.iconst 0, 1) := by decide +kernel
def Q2b (Z : State) (a1 : Addr) (a2 : Addr) (w3 : Addr) (h0 : Heap) (n0 : Nat) (v : Option Value) (h : Heap) (L : List Loc) : Prop := v = some (.int (0 : Int32)) ∧ Fr n0 L ∧ h = h0
set_option maxRecDepth 65536 in
set_option maxHeartbeats 40000000 in
theorem rm2b (l : Launch) (Z : State) (a0 : Array Value) (hw : ∀ d ∈ tables_1, d.before a0 Z = true) (ws : List Jvm.Cond) (a1 : Addr) (a2 : Addr) (w3 : Addr) (h0 : Heap) (n0 : Nat) (Z0 : n0 ≤ h0.size) (S_DECIMAL : Sta Z h0 "com/example/nereus/nereus/Domain" "DECIMAL" "Lcom/example/nereus/nereus/Domain;" (.ref w3)) (ha2 : ¬ (a1 = a2)) (ha9 : ¬ (a1 = w3)) :
    MetFree l (⟨"com/example/nereus/nereus/Domain", "includes", "(Lcom/example/nereus/nereus/Domain;)Z"⟩ : MethodName) (head1 (Jvm.Cond.code (⟨"com/example/nereus/nereus/Domain", "includes", "(Lcom/example/nereus/nereus/Domain;)Z"⟩ : MethodName) prog_3_method_18_code 2 (some .boolean) :: ws) ({ frames := 0, cells := 0, slots := 0, locals := 0 } : Room)) (fun a U => a = #[(.ref a1), (.ref a2)] ∧ Z.Warmed39 U.vm ∧ U.heap = h0) (fun _ _ _ _ _ => True) (fun _ U o U' => ∃ v L, o = .returned v ∧ Q2b Z a1 a2 w3 h0 n0 v U'.heap L ∧ FrameEnd U o U' L ({ frames := 0, cells := 0, slots := 0, locals := 0 } : Room).cells ({ frames := 0, cells := 0, slots := 0, locals := 0 } : Room).slots) := by
  refine MetFree.of_bodySF (plainFor_of_name pn_2) hisR ?_
  intro p e s m args below meth c s₁ Bd hml0 hP hK
  obtain ⟨rfl, hZ, hh⟩ := hP
  have hx := Bd.exec
  have hby := Bd.bytes
  have hml : c.maxLocals = 2 := hml0
  have hown : s.vm.findClass "com/example/nereus/nereus/Domain" = some m.cls := findClass_of_methodNamed Bd.named
  have hnm := (name_of_methodNamed Bd.named Bd.method).1
  have X0 : Stand p l e ({ frames := 0, cells := 0, slots := 0, locals := 0 } : Room) s m #[(.ref a1), (.ref a2)] below meth c s₁ [] 0 0 := Stand.of_body Bd
  have e0 : s₁.heap = h0 := by rw [← hh, Bd.state]; rfl
  have N0 := Fr.nil n0
  have pre0 : ∀ t, Steps p.tables e below (s₁.setTop (mkF m 0 #[.val (.ref a1), .val (.ref a2)] [])) t → Steps p.tables e below (s₁.setTop (entryFrame m #[(.ref a1), (.ref a2)] 2)) t := fun t k => castTop (ef_2 m a1 a2) k
  obtain ⟨T4, X4, e4, st4⟩ := getS2 X0 hx hZ hown (host := "") (Or.inl (hw _ (List.mem_of_getElem? (i := 28) rfl))) Via.refl e0 S_DECIMAL (g := (mkF m 6 #[.val (.ref a1), .val (.ref a2)] [(.ref a1)])) rfl (hb hby d2_6)
  obtain ⟨fs, hr, hrun, hended, hW, hsame⟩ := X4.leave (v := some (.int (0 : Int32))) (fun h => by rw [Bd.returns] at h; cases h)
  refine ⟨_, _, pre0 _ ?_, hrun, hended, _, _, rfl, ?_, ⟨_, rfl⟩, hW, hsame.mono (by decide) (by decide)⟩
  · show Steps p.tables e below (s₁.setTop (mkF m 0 #[.val (.ref a1), .val (.ref a2)] [])) _
    refine XS.aloadN X0.here hx rfl (hb hby d2_0) rfl rfl ?_
    show Steps p.tables e below (s₁.setTop (mkF m 1 #[.val (.ref a1), .val (.ref a2)] [(.ref a1)])) _
    refine XS.aloadN X0.here hx rfl (hb hby d2_1) rfl rfl ?_
    show Steps p.tables e below (s₁.setTop (mkF m 2 #[.val (.ref a1), .val (.ref a2)] [(.ref a2), (.ref a1)])) _
    refine Jvm.RoadKit.acmp (g := (mkF m 2 #[.val (.ref a1), .val (.ref a2)] [(.ref a2), (.ref a1)])) X0 hx rfl rfl rfl (pc0 := 2) (pc' := 5) (same := false) rfl (hb hby d2_2) rfl (decide_eq_false fun q => ha2 (Value.ref.inj q)) (by decide) (by decide) ?_
    show Steps p.tables e below (s₁.setTop (mkF m 5 #[.val (.ref a1), .val (.ref a2)] [])) _
    refine XS.aloadN X0.here hx rfl (hb hby d2_5) rfl rfl ?_
    show Steps p.tables e below (s₁.setTop (mkF m 6 #[.val (.ref a1), .val (.ref a2)] [(.ref a1)])) _
    refine st4 _ ?_
    show Steps p.tables e below (T4.setTop (mkF m 9 #[.val (.ref a1), .val (.ref a2)] [(.ref w3), (.ref a1)])) _
    refine Jvm.RoadKit.acmp (g := (mkF m 9 #[.val (.ref a1), .val (.ref a2)] [(.ref w3), (.ref a1)])) X4 hx rfl rfl rfl (pc0 := 9) (pc' := 23) (same := false) rfl (hb hby d2_9) rfl (decide_eq_false fun q => ha9 (Value.ref.inj q)) (by decide) (by decide) ?_
    show Steps p.tables e below (T4.setTop (mkF m 23 #[.val (.ref a1), .val (.ref a2)] [])) _
    refine XS.iconst X4.here hx rfl (hb hby d2_23) ?_
    show Steps p.tables e below (T4.setTop (mkF m 24 #[.val (.ref a1), .val (.ref a2)] [(.int (0 : Int32))])) _
    exact retN X4 hx (t := .boolean) Bd.returns (by simp) (hb hby d2_24) hr
  · show Q2b Z a1 a2 w3 h0 n0 _ T4.heap _
    rw [e4]
    exact ⟨rfl, N0, rfl⟩
theorem d2_12 : decode prog_3_method_18_code 12 = .ok (.aload_n 1, 1) := by decide +kernel
theorem d2_13 : decode prog_3_method_18_code 13 = .ok (.getstatic 7, 3) := by decide +kernel
theorem d2_16 : decode prog_3_method_18_code 16 = .ok (.if_acmp .ne 7, 3) := by decide +kernel
def Q2c (Z : State) (a1 : Addr) (a2 : Addr) (w3 : Addr) (w5 : Addr) (h0 : Heap) (n0 : Nat) (v : Option Value) (h : Heap) (L : List Loc) : Prop := v = some (.int (0 : Int32)) ∧ Fr n0 L ∧ h = h0
set_option maxRecDepth 65536 in
set_option maxHeartbeats 40000000 in
theorem rm2c (l : Launch) (Z : State) (a0 : Array Value) (hw : ∀ d ∈ tables_1, d.before a0 Z = true) (ws : List Jvm.Cond) (a1 : Addr) (a2 : Addr) (w3 : Addr) (w5 : Addr) (h0 : Heap) (n0 : Nat) (Z0 : n0 ≤ h0.size) (S_DECIMAL : Sta Z h0 "com/example/nereus/nereus/Domain" "DECIMAL" "Lcom/example/nereus/nereus/Domain;" (.ref w3)) (S_INTEGER : Sta Z h0 "com/example/nereus/nereus/Domain" "INTEGER" "Lcom/example/nereus/nereus/Domain;" (.ref w5)) (ha2 : ¬ (a1 = a2)) (ha9 : a1 = w3) (ha16 : ¬ (a2 = w5)) :
    MetFree l (⟨"com/example/nereus/nereus/Domain", "includes", "(Lcom/example/nereus/nereus/Domain;)Z"⟩ : MethodName) (head1 (Jvm.Cond.code (⟨"com/example/nereus/nereus/Domain", "includes", "(Lcom/example/nereus/nereus/Domain;)Z"⟩ : MethodName) prog_3_method_18_code 2 (some .boolean) :: ws) ({ frames := 0, cells := 0, slots := 0, locals := 0 } : Room)) (fun a U => a = #[(.ref a1), (.ref a2)] ∧ Z.Warmed39 U.vm ∧ U.heap = h0) (fun _ _ _ _ _ => True) (fun _ U o U' => ∃ v L, o = .returned v ∧ Q2c Z a1 a2 w3 w5 h0 n0 v U'.heap L ∧ FrameEnd U o U' L ({ frames := 0, cells := 0, slots := 0, locals := 0 } : Room).cells ({ frames := 0, cells := 0, slots := 0, locals := 0 } : Room).slots) := by
  refine MetFree.of_bodySF (plainFor_of_name pn_2) hisR ?_
  intro p e s m args below meth c s₁ Bd hml0 hP hK
  obtain ⟨rfl, hZ, hh⟩ := hP
  have hx := Bd.exec
  have hby := Bd.bytes
  have hml : c.maxLocals = 2 := hml0
  have hown : s.vm.findClass "com/example/nereus/nereus/Domain" = some m.cls := findClass_of_methodNamed Bd.named
  have hnm := (name_of_methodNamed Bd.named Bd.method).1
  have X0 : Stand p l e ({ frames := 0, cells := 0, slots := 0, locals := 0 } : Room) s m #[(.ref a1), (.ref a2)] below meth c s₁ [] 0 0 := Stand.of_body Bd
  have e0 : s₁.heap = h0 := by rw [← hh, Bd.state]; rfl
  have N0 := Fr.nil n0
  have pre0 : ∀ t, Steps p.tables e below (s₁.setTop (mkF m 0 #[.val (.ref a1), .val (.ref a2)] [])) t → Steps p.tables e below (s₁.setTop (entryFrame m #[(.ref a1), (.ref a2)] 2)) t := fun t k => castTop (ef_2 m a1 a2) k
  obtain ⟨T4, X4, e4, st4⟩ := getS2 X0 hx hZ hown (host := "") (Or.inl (hw _ (List.mem_of_getElem? (i := 28) rfl))) Via.refl e0 S_DECIMAL (g := (mkF m 6 #[.val (.ref a1), .val (.ref a2)] [(.ref a1)])) rfl (hb hby d2_6)
  obtain ⟨T6, X6, e6, st6⟩ := getS2 X4 hx hZ hown (host := "") (Or.inl (hw _ (List.mem_of_getElem? (i := 32) rfl))) Via.refl e4 S_INTEGER (g := (mkF m 13 #[.val (.ref a1), .val (.ref a2)] [(.ref a2)])) rfl (hb hby d2_13)
  obtain ⟨fs, hr, hrun, hended, hW, hsame⟩ := X6.leave (v := some (.int (0 : Int32))) (fun h => by rw [Bd.returns] at h; cases h)
  refine ⟨_, _, pre0 _ ?_, hrun, hended, _, _, rfl, ?_, ⟨_, rfl⟩, hW, hsame.mono (by decide) (by decide)⟩
  · show Steps p.tables e below (s₁.setTop (mkF m 0 #[.val (.ref a1), .val (.ref a2)] [])) _
    refine XS.aloadN X0.here hx rfl (hb hby d2_0) rfl rfl ?_
    show Steps p.tables e below (s₁.setTop (mkF m 1 #[.val (.ref a1), .val (.ref a2)] [(.ref a1)])) _
    refine XS.aloadN X0.here hx rfl (hb hby d2_1) rfl rfl ?_
    show Steps p.tables e below (s₁.setTop (mkF m 2 #[.val (.ref a1), .val (.ref a2)] [(.ref a2), (.ref a1)])) _
    refine Jvm.RoadKit.acmp (g := (mkF m 2 #[.val (.ref a1), .val (.ref a2)] [(.ref a2), (.ref a1)])) X0 hx rfl rfl rfl (pc0 := 2) (pc' := 5) (same := false) rfl (hb hby d2_2) rfl (decide_eq_false fun q => ha2 (Value.ref.inj q)) (by decide) (by decide) ?_
    show Steps p.tables e below (s₁.setTop (mkF m 5 #[.val (.ref a1), .val (.ref a2)] [])) _
    refine XS.aloadN X0.here hx rfl (hb hby d2_5) rfl rfl ?_
    show Steps p.tables e below (s₁.setTop (mkF m 6 #[.val (.ref a1), .val (.ref a2)] [(.ref a1)])) _
    refine st4 _ ?_
    show Steps p.tables e below (T4.setTop (mkF m 9 #[.val (.ref a1), .val (.ref a2)] [(.ref w3), (.ref a1)])) _
    refine Jvm.RoadKit.acmp (g := (mkF m 9 #[.val (.ref a1), .val (.ref a2)] [(.ref w3), (.ref a1)])) X4 hx rfl rfl rfl (pc0 := 9) (pc' := 12) (same := true) rfl (hb hby d2_9) rfl (decide_eq_true (congrArg Value.ref ha9)) (by decide) (by decide) ?_
    show Steps p.tables e below (T4.setTop (mkF m 12 #[.val (.ref a1), .val (.ref a2)] [])) _
    refine XS.aloadN X4.here hx rfl (hb hby d2_12) rfl rfl ?_
    show Steps p.tables e below (T4.setTop (mkF m 13 #[.val (.ref a1), .val (.ref a2)] [(.ref a2)])) _
    refine st6 _ ?_
    show Steps p.tables e below (T6.setTop (mkF m 16 #[.val (.ref a1), .val (.ref a2)] [(.ref w5), (.ref a2)])) _
    refine Jvm.RoadKit.acmp (g := (mkF m 16 #[.val (.ref a1), .val (.ref a2)] [(.ref w5), (.ref a2)])) X6 hx rfl rfl rfl (pc0 := 16) (pc' := 23) (same := false) rfl (hb hby d2_16) rfl (decide_eq_false fun q => ha16 (Value.ref.inj q)) (by decide) (by decide) ?_
    show Steps p.tables e below (T6.setTop (mkF m 23 #[.val (.ref a1), .val (.ref a2)] [])) _
    refine XS.iconst X6.here hx rfl (hb hby d2_23) ?_
    show Steps p.tables e below (T6.setTop (mkF m 24 #[.val (.ref a1), .val (.ref a2)] [(.int (0 : Int32))])) _
    exact retN X6 hx (t := .boolean) Bd.returns (by simp) (hb hby d2_24) hr
  · show Q2c Z a1 a2 w3 w5 h0 n0 _ T6.heap _
    rw [e6]
    exact ⟨rfl, N0, rfl⟩
def Q2d (Z : State) (a1 : Addr) (a2 : Addr) (w3 : Addr) (w5 : Addr) (h0 : Heap) (n0 : Nat) (v : Option Value) (h : Heap) (L : List Loc) : Prop := v = some (.int (1 : Int32)) ∧ Fr n0 L ∧ h = h0
set_option maxRecDepth 65536 in
set_option maxHeartbeats 40000000 in
theorem rm2d (l : Launch) (Z : State) (a0 : Array Value) (hw : ∀ d ∈ tables_1, d.before a0 Z = true) (ws : List Jvm.Cond) (a1 : Addr) (a2 : Addr) (w3 : Addr) (w5 : Addr) (h0 : Heap) (n0 : Nat) (Z0 : n0 ≤ h0.size) (S_DECIMAL : Sta Z h0 "com/example/nereus/nereus/Domain" "DECIMAL" "Lcom/example/nereus/nereus/Domain;" (.ref w3)) (S_INTEGER : Sta Z h0 "com/example/nereus/nereus/Domain" "INTEGER" "Lcom/example/nereus/nereus/Domain;" (.ref w5)) (ha2 : ¬ (a1 = a2)) (ha9 : a1 = w3) (ha16 : a2 = w5) :
    MetFree l (⟨"com/example/nereus/nereus/Domain", "includes", "(Lcom/example/nereus/nereus/Domain;)Z"⟩ : MethodName) (head1 (Jvm.Cond.code (⟨"com/example/nereus/nereus/Domain", "includes", "(Lcom/example/nereus/nereus/Domain;)Z"⟩ : MethodName) prog_3_method_18_code 2 (some .boolean) :: ws) ({ frames := 0, cells := 0, slots := 0, locals := 0 } : Room)) (fun a U => a = #[(.ref a1), (.ref a2)] ∧ Z.Warmed39 U.vm ∧ U.heap = h0) (fun _ _ _ _ _ => True) (fun _ U o U' => ∃ v L, o = .returned v ∧ Q2d Z a1 a2 w3 w5 h0 n0 v U'.heap L ∧ FrameEnd U o U' L ({ frames := 0, cells := 0, slots := 0, locals := 0 } : Room).cells ({ frames := 0, cells := 0, slots := 0, locals := 0 } : Room).slots) := by
  refine MetFree.of_bodySF (plainFor_of_name pn_2) hisR ?_
  intro p e s m args below meth c s₁ Bd hml0 hP hK
  obtain ⟨rfl, hZ, hh⟩ := hP
  have hx := Bd.exec
  have hby := Bd.bytes
  have hml : c.maxLocals = 2 := hml0
  have hown : s.vm.findClass "com/example/nereus/nereus/Domain" = some m.cls := findClass_of_methodNamed Bd.named
  have hnm := (name_of_methodNamed Bd.named Bd.method).1
  have X0 : Stand p l e ({ frames := 0, cells := 0, slots := 0, locals := 0 } : Room) s m #[(.ref a1), (.ref a2)] below meth c s₁ [] 0 0 := Stand.of_body Bd
  have e0 : s₁.heap = h0 := by rw [← hh, Bd.state]; rfl
  have N0 := Fr.nil n0
  have pre0 : ∀ t, Steps p.tables e below (s₁.setTop (mkF m 0 #[.val (.ref a1), .val (.ref a2)] [])) t → Steps p.tables e below (s₁.setTop (entryFrame m #[(.ref a1), (.ref a2)] 2)) t := fun t k => castTop (ef_2 m a1 a2) k
  obtain ⟨T4, X4, e4, st4⟩ := getS2 X0 hx hZ hown (host := "") (Or.inl (hw _ (List.mem_of_getElem? (i := 28) rfl))) Via.refl e0 S_DECIMAL (g := (mkF m 6 #[.val (.ref a1), .val (.ref a2)] [(.ref a1)])) rfl (hb hby d2_6)
  obtain ⟨T6, X6, e6, st6⟩ := getS2 X4 hx hZ hown (host := "") (Or.inl (hw _ (List.mem_of_getElem? (i := 32) rfl))) Via.refl e4 S_INTEGER (g := (mkF m 13 #[.val (.ref a1), .val (.ref a2)] [(.ref a2)])) rfl (hb hby d2_13)
  obtain ⟨fs, hr, hrun, hended, hW, hsame⟩ := X6.leave (v := some (.int (1 : Int32))) (fun h => by rw [Bd.returns] at h; cases h)
  refine ⟨_, _, pre0 _ ?_, hrun, hended, _, _, rfl, ?_, ⟨_, rfl⟩, hW, hsame.mono (by decide) (by decide)⟩
  · show Steps p.tables e below (s₁.setTop (mkF m 0 #[.val (.ref a1), .val (.ref a2)] [])) _
    refine XS.aloadN X0.here hx rfl (hb hby d2_0) rfl rfl ?_
    show Steps p.tables e below (s₁.setTop (mkF m 1 #[.val (.ref a1), .val (.ref a2)] [(.ref a1)])) _
    refine XS.aloadN X0.here hx rfl (hb hby d2_1) rfl rfl ?_
    show Steps p.tables e below (s₁.setTop (mkF m 2 #[.val (.ref a1), .val (.ref a2)] [(.ref a2), (.ref a1)])) _
    refine Jvm.RoadKit.acmp (g := (mkF m 2 #[.val (.ref a1), .val (.ref a2)] [(.ref a2), (.ref a1)])) X0 hx rfl rfl rfl (pc0 := 2) (pc' := 5) (same := false) rfl (hb hby d2_2) rfl (decide_eq_false fun q => ha2 (Value.ref.inj q)) (by decide) (by decide) ?_
    show Steps p.tables e below (s₁.setTop (mkF m 5 #[.val (.ref a1), .val (.ref a2)] [])) _
    refine XS.aloadN X0.here hx rfl (hb hby d2_5) rfl rfl ?_
    show Steps p.tables e below (s₁.setTop (mkF m 6 #[.val (.ref a1), .val (.ref a2)] [(.ref a1)])) _
    refine st4 _ ?_
    show Steps p.tables e below (T4.setTop (mkF m 9 #[.val (.ref a1), .val (.ref a2)] [(.ref w3), (.ref a1)])) _
    refine Jvm.RoadKit.acmp (g := (mkF m 9 #[.val (.ref a1), .val (.ref a2)] [(.ref w3), (.ref a1)])) X4 hx rfl rfl rfl (pc0 := 9) (pc' := 12) (same := true) rfl (hb hby d2_9) rfl (decide_eq_true (congrArg Value.ref ha9)) (by decide) (by decide) ?_
    show Steps p.tables e below (T4.setTop (mkF m 12 #[.val (.ref a1), .val (.ref a2)] [])) _
    refine XS.aloadN X4.here hx rfl (hb hby d2_12) rfl rfl ?_
    show Steps p.tables e below (T4.setTop (mkF m 13 #[.val (.ref a1), .val (.ref a2)] [(.ref a2)])) _
    refine st6 _ ?_
    show Steps p.tables e below (T6.setTop (mkF m 16 #[.val (.ref a1), .val (.ref a2)] [(.ref w5), (.ref a2)])) _
    refine Jvm.RoadKit.acmp (g := (mkF m 16 #[.val (.ref a1), .val (.ref a2)] [(.ref w5), (.ref a2)])) X6 hx rfl rfl rfl (pc0 := 16) (pc' := 19) (same := true) rfl (hb hby d2_16) rfl (decide_eq_true (congrArg Value.ref ha16)) (by decide) (by decide) ?_
    show Steps p.tables e below (T6.setTop (mkF m 19 #[.val (.ref a1), .val (.ref a2)] [])) _
    refine XS.iconst X6.here hx rfl (hb hby d2_19) ?_
    show Steps p.tables e below (T6.setTop (mkF m 20 #[.val (.ref a1), .val (.ref a2)] [(.int (1 : Int32))])) _
    refine XS.goto X6.here hx rfl (pc0 := 20) (pc' := 24) rfl (hb hby d2_20) (by decide) (by decide) ?_
    show Steps p.tables e below (T6.setTop (mkF m 24 #[.val (.ref a1), .val (.ref a2)] [(.int (1 : Int32))])) _
    exact retN X6 hx (t := .boolean) Bd.returns (by simp) (hb hby d2_24) hr
  · show Q2d Z a1 a2 w3 w5 h0 n0 _ T6.heap _
    rw [e6]
    exact ⟨rfl, N0, rfl⟩
def Q2g (b : Int32) (h0 : Heap) (n0 : Nat) (v : Option Value) (h : Heap) (L : List Loc) : Prop := v = some (.int b) ∧ Fr n0 L ∧ h = h0
theorem rm2g (l : Launch) (Z : State) (a0 : Array Value) (hw : ∀ d ∈ tables_1, d.before a0 Z = true) (ws : List Jvm.Cond) (a1 : Addr) (a2 : Addr) (wD : Addr) (wI : Addr) (b : Int32) (h0 : Heap) (n0 : Nat) (Z0 : n0 ≤ h0.size) (S_DECIMAL : Sta Z h0 "com/example/nereus/nereus/Domain" "DECIMAL" "Lcom/example/nereus/nereus/Domain;" (.ref wD)) (S_INTEGER : Sta Z h0 "com/example/nereus/nereus/Domain" "INTEGER" "Lcom/example/nereus/nereus/Domain;" (.ref wI)) (hb1 : (a1 = a2 ∨ (a1 = wD ∧ a2 = wI)) → b = 1) (hb0 : ¬ (a1 = a2 ∨ (a1 = wD ∧ a2 = wI)) → b = 0) :
    MetFree l (⟨"com/example/nereus/nereus/Domain", "includes", "(Lcom/example/nereus/nereus/Domain;)Z"⟩ : MethodName) (head1 (Jvm.Cond.code (⟨"com/example/nereus/nereus/Domain", "includes", "(Lcom/example/nereus/nereus/Domain;)Z"⟩ : MethodName) prog_3_method_18_code 2 (some .boolean) :: ws) ({ frames := 0, cells := 0, slots := 0, locals := 0 } : Room)) (fun a U => a = #[(.ref a1), (.ref a2)] ∧ Z.Warmed39 U.vm ∧ U.heap = h0) (fun _ _ _ _ _ => True) (fun _ U o U' => ∃ v L, o = .returned v ∧ Q2g b h0 n0 v U'.heap L ∧ FrameEnd U o U' L ({ frames := 0, cells := 0, slots := 0, locals := 0 } : Room).cells ({ frames := 0, cells := 0, slots := 0, locals := 0 } : Room).slots) := by
  by_cases h1 : a1 = a2
  · obtain rfl := hb1 (Or.inl h1)
    exact rm2a l Z a0 hw ws a1 a2 h0 n0 Z0 h1
  · by_cases h2 : a1 = wD
    · by_cases h3 : a2 = wI
      · obtain rfl := hb1 (Or.inr ⟨h2, h3⟩)
        exact rm2d l Z a0 hw ws a1 a2 wD wI h0 n0 Z0 S_DECIMAL S_INTEGER h1 h2 h3
      · obtain rfl := hb0 (fun q => q.elim h1 (fun q => h3 q.2))
        exact rm2c l Z a0 hw ws a1 a2 wD wI h0 n0 Z0 S_DECIMAL S_INTEGER h1 h2 h3
    · obtain rfl := hb0 (fun q => q.elim h1 (fun q => h2 q.1))
      exact rm2b l Z a0 hw ws a1 a2 wD h0 n0 Z0 S_DECIMAL h1 h2
theorem pn_0 : plainName "com/example/nereus/nereus/DomainIncludesPinLaw" = true := by first | (simp [plainName, overriddenIn]; done) | decide +kernel
theorem pd_0_0 : parseMethodDescriptor "(I)Lcom/example/nereus/nereus/Domain;" = some ⟨[.int], some (.object "com/example/nereus/nereus/Domain")⟩ := by decide +kernel
theorem pd_0_1 : parseMethodDescriptor "(Lcom/example/nereus/nereus/Domain;)Z" = some ⟨[(.object "com/example/nereus/nereus/Domain")], some .boolean⟩ := by decide +kernel
theorem ef_0 (m : MethodId) (x0 : Int32) (x1 : Int32) (x2 : Int32) : entryFrame m #[(.int x0), (.int x1), (.int x2)] maxLocals = mkF m 0 #[.val (.int x0), .val (.int x1), .val (.int x2), .unset, .unset, .unset, .unset, .unset, .unset, .unset, .unset, .unset, .unset, .unset, .unset] [] := by first | (simp [entryFrame, mkF, argsToLocals, Value.category, maxLocals]; done) | rfl
def Q0A1 (Z : State) (p1 : Int32) (p2 : Int32) (p3 : Int32) (h0 : Heap) (n0 : Nat) (v : Option Value) (h : Heap) (L : List Loc) : Prop := v = some (.int (1 : Int32)) ∧ Fr n0 L
set_option maxRecDepth 65536 in
set_option maxHeartbeats 40000000 in
theorem rm0A1 (l : Launch) (Z : State) (a0 : Array Value) (hw : ∀ d ∈ tables_1, d.before a0 Z = true) (ws : List Jvm.Cond) (p1 : Int32) (p2 : Int32) (p3 : Int32) (u1 : Addr) (u2 : Addr) (u3 : Addr) (u4 : Addr) (u5 : Addr) (pp : Addr) (qq : Addr) (rr : Addr) (Cp : String) (Cq : String) (bpq : Int32) (bqp : Int32) (bqr : Int32) (bpr : Int32) (bpp : Int32) (h0 : Heap) (n0 : Nat) (Z0 : n0 ≤ h0.size) (S_STRING : Sta Z h0 "com/example/nereus/nereus/Domain" "STRING" "Lcom/example/nereus/nereus/Domain;" (.ref u1)) (S_INTEGER : Sta Z h0 "com/example/nereus/nereus/Domain" "INTEGER" "Lcom/example/nereus/nereus/Domain;" (.ref u2)) (S_DECIMAL : Sta Z h0 "com/example/nereus/nereus/Domain" "DECIMAL" "Lcom/example/nereus/nereus/Domain;" (.ref u3)) (S_BOOLEAN : Sta Z h0 "com/example/nereus/nereus/Domain" "BOOLEAN" "Lcom/example/nereus/nereus/Domain;" (.ref u4)) (S_DATETIME : Sta Z h0 "com/example/nereus/nereus/Domain" "DATETIME" "Lcom/example/nereus/nereus/Domain;" (.ref u5)) (E_u1 : Exa Z h0 u1 "com/example/nereus/nereus/Domain$1") (E_u2 : Exa Z h0 u2 "com/example/nereus/nereus/Domain$2") (E_u3 : Exa Z h0 u3 "com/example/nereus/nereus/Domain$3") (E_u4 : Exa Z h0 u4 "com/example/nereus/nereus/Domain$4") (E_u5 : Exa Z h0 u5 "com/example/nereus/nereus/Domain$5") (E_pp : Exa Z h0 pp Cp) (E_qq : Exa Z h0 qq Cq) (sel_p : (Jvm.Cond.selects Cp (⟨"com/example/nereus/nereus/Domain", "includes", "(Lcom/example/nereus/nereus/Domain;)Z"⟩ : MethodName) (⟨"com/example/nereus/nereus/Domain", "includes", "(Lcom/example/nereus/nereus/Domain;)Z"⟩ : MethodName)).before a0 Z = true) (sel_q : (Jvm.Cond.selects Cq (⟨"com/example/nereus/nereus/Domain", "includes", "(Lcom/example/nereus/nereus/Domain;)Z"⟩ : MethodName) (⟨"com/example/nereus/nereus/Domain", "includes", "(Lcom/example/nereus/nereus/Domain;)Z"⟩ : MethodName)).before a0 Z = true) (n1 : ¬ (HMod.hMod (p1 &&& (2147483647 : Int32)) (5 : Int32)) < 0) (m1 : (HMod.hMod (p1 &&& (2147483647 : Int32)) (5 : Int32)) < 5) (v1 : ([.ref u1, .ref u2, .ref u3, .ref u4, .ref u5] : List Value).getD (HMod.hMod (p1 &&& (2147483647 : Int32)) (5 : Int32)).toNatClampNeg .null = .ref pp) (n2 : ¬ (HMod.hMod (p2 &&& (2147483647 : Int32)) (5 : Int32)) < 0) (m2 : (HMod.hMod (p2 &&& (2147483647 : Int32)) (5 : Int32)) < 5) (v2 : ([.ref u1, .ref u2, .ref u3, .ref u4, .ref u5] : List Value).getD (HMod.hMod (p2 &&& (2147483647 : Int32)) (5 : Int32)).toNatClampNeg .null = .ref qq) (n3 : ¬ (HMod.hMod (p3 &&& (2147483647 : Int32)) (5 : Int32)) < 0) (m3 : (HMod.hMod (p3 &&& (2147483647 : Int32)) (5 : Int32)) < 5) (v3 : ([.ref u1, .ref u2, .ref u3, .ref u4, .ref u5] : List Value).getD (HMod.hMod (p3 &&& (2147483647 : Int32)) (5 : Int32)).toNatClampNeg .null = .ref rr) (t_bpq : (pp = qq ∨ (pp = u3 ∧ qq = u2)) → bpq = 1) (f_bpq : ¬ (pp = qq ∨ (pp = u3 ∧ qq = u2)) → bpq = 0) (t_bqp : (qq = pp ∨ (qq = u3 ∧ pp = u2)) → bqp = 1) (f_bqp : ¬ (qq = pp ∨ (qq = u3 ∧ pp = u2)) → bqp = 0) (t_bqr : (qq = rr ∨ (qq = u3 ∧ rr = u2)) → bqr = 1) (f_bqr : ¬ (qq = rr ∨ (qq = u3 ∧ rr = u2)) → bqr = 0) (t_bpr : (pp = rr ∨ (pp = u3 ∧ rr = u2)) → bpr = 1) (f_bpr : ¬ (pp = rr ∨ (pp = u3 ∧ rr = u2)) → bpr = 0) (t_bpp : (pp = pp ∨ (pp = u3 ∧ pp = u2)) → bpp = 1) (f_bpp : ¬ (pp = pp ∨ (pp = u3 ∧ pp = u2)) → bpp = 0) (hx1 : bpq = (1 : Int32)) (hx2 : ¬ (bpp = (0 : Int32))) (hx3 : ¬ (bpq = (0 : Int32))) (hx4 : ¬ (bqp = (0 : Int32))) (hx5 : ¬ (bpq = (0 : Int32))) (hx6 : bqr = (0 : Int32)) (hc91 : (HMod.hMod (p1 &&& (2147483647 : Int32)) (5 : Int32)) = (HMod.hMod (p2 &&& (2147483647 : Int32)) (5 : Int32))) (ha142 : pp = qq) :
    MetFree l x (head1 (Jvm.Cond.code x code maxLocals ret :: ws) room_1) (fun a U => a = #[(.int p1), (.int p2), (.int p3)] ∧ Z.Warmed39 U.vm ∧ U.heap = h0) (fun _ _ _ _ _ => True) (fun _ U o U' => ∃ v L, o = .returned v ∧ Q0A1 Z p1 p2 p3 h0 n0 v U'.heap L ∧ FrameEnd U o U' L room_1.cells room_1.slots) := by
  refine MetFree.of_bodySF (plainFor_of_name pn_0) hisR ?_
  intro p e s m args below meth c s₁ Bd hml0 hP hK
  obtain ⟨rfl, hZ, hh⟩ := hP
  have hx := Bd.exec
  have hby := Bd.bytes
  have hml : c.maxLocals = 15 := hml0
  have hown : s.vm.findClass "com/example/nereus/nereus/DomainIncludesPinLaw" = some m.cls := findClass_of_methodNamed Bd.named
  have hnm := (name_of_methodNamed Bd.named Bd.method).1
  have X0 : Stand p l e room_1 s m #[(.int p1), (.int p2), (.int p3)] below meth c s₁ [] 0 0 := Stand.of_body Bd
  have e0 : s₁.heap = h0 := by rw [← hh, Bd.state]; rfl
  have N0 := Fr.nil n0
  have pre0 : ∀ t, Steps p.tables e below (s₁.setTop (mkF m 0 #[.val (.int p1), .val (.int p2), .val (.int p3), .unset, .unset, .unset, .unset, .unset, .unset, .unset, .unset, .unset, .unset, .unset, .unset] [])) t → Steps p.tables e below (s₁.setTop (entryFrame m #[(.int p1), (.int p2), (.int p3)] maxLocals)) t := fun t k => castTop (ef_0 m p1 p2 p3) k
  obtain ⟨_, _, ⟨T4, L4, k4, n4⟩, -, X4, ⟨Lc4, hQ4, l4, y4, z4⟩, st4⟩ := Jvm.LawKit.callS X0 hx (y := (⟨"com/example/nereus/nereus/DomainIncludesPinLaw", "pick", "(I)Lcom/example/nereus/nereus/Domain;"⟩ : MethodName)) hown (mvT hZ (hw _ (List.mem_of_getElem? (i := 1) rfl))) (mvT hZ (hw _ (List.mem_of_getElem? (i := 2) rfl))) (mvT hZ (hw _ (List.mem_of_getElem? (i := 3) rfl))) (mvT hZ (hw _ (List.mem_of_getElem? (i := 4) rfl))) (by decide) (backOf (W := 0) (rm1 l Z a0 hw [] (HMod.hMod (p1 &&& (2147483647 : Int32)) (5 : Int32)) u1 u2 u3 u4 u5 pp h0 n0 Z0 S_STRING S_INTEGER S_DECIMAL S_BOOLEAN S_DATETIME E_u1 E_u2 E_u3 E_u4 E_u5 n1 m1 v1) hZ (hw _ (List.mem_of_getElem? (i := 4) rfl)) (hw _ (List.mem_of_getElem? (i := 3) rfl)) (by decide) (by decide)) (g := (mkF m 24 #[.val (.int p1), .val (.int p2), .val (.int p3), .val (.int (HMod.hMod (p1 &&& (2147483647 : Int32)) (5 : Int32))), .val (.int (HMod.hMod (p2 &&& (2147483647 : Int32)) (5 : Int32))), .val (.int (HMod.hMod (p3 &&& (2147483647 : Int32)) (5 : Int32))), .unset, .unset, .unset, .unset, .unset, .unset, .unset, .unset, .unset] [(.int (HMod.hMod (p1 &&& (2147483647 : Int32)) (5 : Int32)))])) rfl (by rw [hml]; rfl) (argsL := [(.int (HMod.hMod (p1 &&& (2147483647 : Int32)) (5 : Int32)))]) (rest := []) (lenOf pd_0_0 rfl) rfl (by show 2 * 0 + _ ≤ _; exact Nat.le_of_eq rfl) (hb hby at_24) (fun _ _ => ⟨rfl, e0, (Nat.le_of_ble_eq_true rfl), (Nat.le_of_ble_eq_true rfl)⟩)
  dsimp only [Pt.U, Pt.locs, Pt.cells, Pt.slots] at X4 l4 y4 z4 st4 hQ4
  subst l4 y4 z4
  obtain ⟨rfl, N4q, X4x⟩ := hQ4
  replace S_STRING := S_STRING.ext X4x
  replace S_INTEGER := S_INTEGER.ext X4x
  replace S_DECIMAL := S_DECIMAL.ext X4x
  replace S_BOOLEAN := S_BOOLEAN.ext X4x
  replace S_DATETIME := S_DATETIME.ext X4x
  replace E_u1 := E_u1.ext X4x
  replace E_u2 := E_u2.ext X4x
  replace E_u3 := E_u3.ext X4x
  replace E_u4 := E_u4.ext X4x
  replace E_u5 := E_u5.ext X4x
  replace E_pp := E_pp.ext X4x
  replace E_qq := E_qq.ext X4x
  replace Z0 := Nat.le_trans Z0 X4x.1
  have N4 := Fr.app N0 N4q
  obtain ⟨_, _, ⟨T5, L5, k5, n5⟩, -, X5, ⟨Lc5, hQ5, l5, y5, z5⟩, st5⟩ := Jvm.LawKit.callS X4 hx (y := (⟨"com/example/nereus/nereus/DomainIncludesPinLaw", "pick", "(I)Lcom/example/nereus/nereus/Domain;"⟩ : MethodName)) hown (mvT hZ (hw _ (List.mem_of_getElem? (i := 1) rfl))) (mvT hZ (hw _ (List.mem_of_getElem? (i := 2) rfl))) (mvT hZ (hw _ (List.mem_of_getElem? (i := 3) rfl))) (mvT hZ (hw _ (List.mem_of_getElem? (i := 4) rfl))) (by decide) (backOf (W := 0) (rm1 l Z a0 hw [] (HMod.hMod (p2 &&& (2147483647 : Int32)) (5 : Int32)) u1 u2 u3 u4 u5 qq T4.heap n0 Z0 S_STRING S_INTEGER S_DECIMAL S_BOOLEAN S_DATETIME E_u1 E_u2 E_u3 E_u4 E_u5 n2 m2 v2) hZ (hw _ (List.mem_of_getElem? (i := 4) rfl)) (hw _ (List.mem_of_getElem? (i := 3) rfl)) (by decide) (by decide)) (g := (mkF m 31 #[.val (.int p1), .val (.int p2), .val (.int p3), .val (.int (HMod.hMod (p1 &&& (2147483647 : Int32)) (5 : Int32))), .val (.int (HMod.hMod (p2 &&& (2147483647 : Int32)) (5 : Int32))), .val (.int (HMod.hMod (p3 &&& (2147483647 : Int32)) (5 : Int32))), .val (.ref pp), .unset, .unset, .unset, .unset, .unset, .unset, .unset, .unset] [(.int (HMod.hMod (p2 &&& (2147483647 : Int32)) (5 : Int32)))])) rfl (by rw [hml]; rfl) (argsL := [(.int (HMod.hMod (p2 &&& (2147483647 : Int32)) (5 : Int32)))]) (rest := []) (lenOf pd_0_0 rfl) rfl (by show 2 * 0 + _ ≤ _; exact Nat.le_of_eq rfl) (hb hby at_31) (fun _ _ => ⟨rfl, rfl, (Nat.le_of_ble_eq_true rfl), (Nat.le_of_ble_eq_true rfl)⟩)
  dsimp only [Pt.U, Pt.locs, Pt.cells, Pt.slots] at X5 l5 y5 z5 st5 hQ5
  subst l5 y5 z5
  obtain ⟨rfl, N5q, X5x⟩ := hQ5
  replace S_STRING := S_STRING.ext X5x
  replace S_INTEGER := S_INTEGER.ext X5x
  replace S_DECIMAL := S_DECIMAL.ext X5x
  replace S_BOOLEAN := S_BOOLEAN.ext X5x
  replace S_DATETIME := S_DATETIME.ext X5x
  replace E_u1 := E_u1.ext X5x
  replace E_u2 := E_u2.ext X5x
  replace E_u3 := E_u3.ext X5x
  replace E_u4 := E_u4.ext X5x
  replace E_u5 := E_u5.ext X5x
  replace E_pp := E_pp.ext X5x
  replace E_qq := E_qq.ext X5x
  replace Z0 := Nat.le_trans Z0 X5x.1
  have N5 := Fr.app N4 N5q
  obtain ⟨_, _, ⟨T6, L6, k6, n6⟩, -, X6, ⟨Lc6, hQ6, l6, y6, z6⟩, st6⟩ := Jvm.LawKit.callS X5 hx (y := (⟨"com/example/nereus/nereus/DomainIncludesPinLaw", "pick", "(I)Lcom/example/nereus/nereus/Domain;"⟩ : MethodName)) hown (mvT hZ (hw _ (List.mem_of_getElem? (i := 1) rfl))) (mvT hZ (hw _ (List.mem_of_getElem? (i := 2) rfl))) (mvT hZ (hw _ (List.mem_of_getElem? (i := 3) rfl))) (mvT hZ (hw _ (List.mem_of_getElem? (i := 4) rfl))) (by decide) (backOf (W := 0) (rm1 l Z a0 hw [] (HMod.hMod (p3 &&& (2147483647 : Int32)) (5 : Int32)) u1 u2 u3 u4 u5 rr T5.heap n0 Z0 S_STRING S_INTEGER S_DECIMAL S_BOOLEAN S_DATETIME E_u1 E_u2 E_u3 E_u4 E_u5 n3 m3 v3) hZ (hw _ (List.mem_of_getElem? (i := 4) rfl)) (hw _ (List.mem_of_getElem? (i := 3) rfl)) (by decide) (by decide)) (g := (mkF m 38 #[.val (.int p1), .val (.int p2), .val (.int p3), .val (.int (HMod.hMod (p1 &&& (2147483647 : Int32)) (5 : Int32))), .val (.int (HMod.hMod (p2 &&& (2147483647 : Int32)) (5 : Int32))), .val (.int (HMod.hMod (p3 &&& (2147483647 : Int32)) (5 : Int32))), .val (.ref pp), .val (.ref qq), .unset, .unset, .unset, .unset, .unset, .unset, .unset] [(.int (HMod.hMod (p3 &&& (2147483647 : Int32)) (5 : Int32)))])) rfl (by rw [hml]; rfl) (argsL := [(.int (HMod.hMod (p3 &&& (2147483647 : Int32)) (5 : Int32)))]) (rest := []) (lenOf pd_0_0 rfl) rfl (by show 2 * 0 + _ ≤ _; exact Nat.le_of_eq rfl) (hb hby at_38) (fun _ _ => ⟨rfl, rfl, (Nat.le_of_ble_eq_true rfl), (Nat.le_of_ble_eq_true rfl)⟩)
  dsimp only [Pt.U, Pt.locs, Pt.cells, Pt.slots] at X6 l6 y6 z6 st6 hQ6
  subst l6 y6 z6
  obtain ⟨rfl, N6q, X6x⟩ := hQ6
  replace S_STRING := S_STRING.ext X6x
  replace S_INTEGER := S_INTEGER.ext X6x
  replace S_DECIMAL := S_DECIMAL.ext X6x
  replace S_BOOLEAN := S_BOOLEAN.ext X6x
  replace S_DATETIME := S_DATETIME.ext X6x
  replace E_u1 := E_u1.ext X6x
  replace E_u2 := E_u2.ext X6x
  replace E_u3 := E_u3.ext X6x
  replace E_u4 := E_u4.ext X6x
  replace E_u5 := E_u5.ext X6x
  replace E_pp := E_pp.ext X6x
  replace E_qq := E_qq.ext X6x
  replace Z0 := Nat.le_trans Z0 X6x.1
  have N6 := Fr.app N5 N6q
  obtain ⟨cq7, kq7, q7a, q7b, q7c⟩ := isOf hZ rfl E_pp
  obtain ⟨_, _, ⟨T7, L7, k7, n7⟩, -, X7, ⟨Lc7, hQ7, l7, y7, z7⟩, st7⟩ := X6.virtualBack hx (y := (⟨"com/example/nereus/nereus/Domain", "includes", "(Lcom/example/nereus/nereus/Domain;)Z"⟩ : MethodName)) (z := (⟨"com/example/nereus/nereus/Domain", "includes", "(Lcom/example/nereus/nereus/Domain;)Z"⟩ : MethodName)) hown (mvT hZ (hw _ (List.mem_of_getElem? (i := 23) rfl))) (mvT hZ (hw _ (List.mem_of_getElem? (i := 24) rfl))) (notFace_of_selects (args := #[]) (mvT hZ sel_p)) (mvT hZ sel_p) (mvT hZ (hw _ (List.mem_of_getElem? (i := 25) rfl))) (by decide) (backOf (W := 0) (rm2g l Z a0 hw [] pp qq u3 u2 bpq T6.heap n0 Z0 S_DECIMAL S_INTEGER t_bpq f_bpq) hZ (hw _ (List.mem_of_getElem? (i := 27) rfl)) (hw _ (List.mem_of_getElem? (i := 8) rfl)) (by decide) (by decide)) q7a q7c (g := (mkF m 47 #[.val (.int p1), .val (.int p2), .val (.int p3), .val (.int (HMod.hMod (p1 &&& (2147483647 : Int32)) (5 : Int32))), .val (.int (HMod.hMod (p2 &&& (2147483647 : Int32)) (5 : Int32))), .val (.int (HMod.hMod (p3 &&& (2147483647 : Int32)) (5 : Int32))), .val (.ref pp), .val (.ref qq), .val (.ref rr), .unset, .unset, .unset, .unset, .unset, .unset] [(.ref qq), (.ref pp)])) rfl (by rw [hml]; rfl) (Steps.refl _) (argsL := [(.ref qq)]) (rest := []) (lenOf pd_0_1 rfl) rfl (by show 2 * 0 + _ ≤ _; exact Nat.le_of_eq rfl) (hb hby at_47) (fun _ _ => ⟨rfl, rfl, (Nat.le_of_ble_eq_true rfl), (Nat.le_of_ble_eq_true rfl)⟩)
  dsimp only [Pt.U, Pt.locs, Pt.cells, Pt.slots] at X7 l7 y7 z7 st7 hQ7
  subst l7 y7 z7
  obtain ⟨rfl, N7q, eq7⟩ := hQ7
  have N7 := Fr.app N6 N7q
  obtain ⟨cq8, kq8, q8a, q8b, q8c⟩ := isOf hZ eq7 E_qq
  obtain ⟨_, _, ⟨T8, L8, k8, n8⟩, -, X8, ⟨Lc8, hQ8, l8, y8, z8⟩, st8⟩ := X7.virtualBack hx (y := (⟨"com/example/nereus/nereus/Domain", "includes", "(Lcom/example/nereus/nereus/Domain;)Z"⟩ : MethodName)) (z := (⟨"com/example/nereus/nereus/Domain", "includes", "(Lcom/example/nereus/nereus/Domain;)Z"⟩ : MethodName)) hown (mvT hZ (hw _ (List.mem_of_getElem? (i := 23) rfl))) (mvT hZ (hw _ (List.mem_of_getElem? (i := 24) rfl))) (notFace_of_selects (args := #[]) (mvT hZ sel_q)) (mvT hZ sel_q) (mvT hZ (hw _ (List.mem_of_getElem? (i := 25) rfl))) (by decide) (backOf (W := 0) (rm2g l Z a0 hw [] qq pp u3 u2 bqp T6.heap n0 Z0 S_DECIMAL S_INTEGER t_bqp f_bqp) hZ (hw _ (List.mem_of_getElem? (i := 27) rfl)) (hw _ (List.mem_of_getElem? (i := 8) rfl)) (by decide) (by decide)) q8a q8c (g := (mkF m 56 #[.val (.int p1), .val (.int p2), .val (.int p3), .val (.int (HMod.hMod (p1 &&& (2147483647 : Int32)) (5 : Int32))), .val (.int (HMod.hMod (p2 &&& (2147483647 : Int32)) (5 : Int32))), .val (.int (HMod.hMod (p3 &&& (2147483647 : Int32)) (5 : Int32))), .val (.ref pp), .val (.ref qq), .val (.ref rr), .val (.int bpq), .unset, .unset, .unset, .unset, .unset] [(.ref pp), (.ref qq)])) rfl (by rw [hml]; rfl) (Steps.refl _) (argsL := [(.ref pp)]) (rest := []) (lenOf pd_0_1 rfl) rfl (by show 2 * 0 + _ ≤ _; exact Nat.le_of_eq rfl) (hb hby at_56) (fun _ _ => ⟨rfl, eq7, (Nat.le_of_ble_eq_true rfl), (Nat.le_of_ble_eq_true rfl)⟩)
  dsimp only [Pt.U, Pt.locs, Pt.cells, Pt.slots] at X8 l8 y8 z8 st8 hQ8
  subst l8 y8 z8
  obtain ⟨rfl, N8q, eq8⟩ := hQ8
  have N8 := Fr.app N7 N8q
  obtain ⟨cq9, kq9, q9a, q9b, q9c⟩ := isOf hZ eq8 E_qq
  obtain ⟨_, _, ⟨T9, L9, k9, n9⟩, -, X9, ⟨Lc9, hQ9, l9, y9, z9⟩, st9⟩ := X8.virtualBack hx (y := (⟨"com/example/nereus/nereus/Domain", "includes", "(Lcom/example/nereus/nereus/Domain;)Z"⟩ : MethodName)) (z := (⟨"com/example/nereus/nereus/Domain", "includes", "(Lcom/example/nereus/nereus/Domain;)Z"⟩ : MethodName)) hown (mvT hZ (hw _ (List.mem_of_getElem? (i := 23) rfl))) (mvT hZ (hw _ (List.mem_of_getElem? (i := 24) rfl))) (notFace_of_selects (args := #[]) (mvT hZ sel_q)) (mvT hZ sel_q) (mvT hZ (hw _ (List.mem_of_getElem? (i := 25) rfl))) (by decide) (backOf (W := 0) (rm2g l Z a0 hw [] qq rr u3 u2 bqr T6.heap n0 Z0 S_DECIMAL S_INTEGER t_bqr f_bqr) hZ (hw _ (List.mem_of_getElem? (i := 27) rfl)) (hw _ (List.mem_of_getElem? (i := 8) rfl)) (by decide) (by decide)) q9a q9c (g := (mkF m 65 #[.val (.int p1), .val (.int p2), .val (.int p3), .val (.int (HMod.hMod (p1 &&& (2147483647 : Int32)) (5 : Int32))), .val (.int (HMod.hMod (p2 &&& (2147483647 : Int32)) (5 : Int32))), .val (.int (HMod.hMod (p3 &&& (2147483647 : Int32)) (5 : Int32))), .val (.ref pp), .val (.ref qq), .val (.ref rr), .val (.int bpq), .val (.int bqp), .unset, .unset, .unset, .unset] [(.ref rr), (.ref qq)])) rfl (by rw [hml]; rfl) (Steps.refl _) (argsL := [(.ref rr)]) (rest := []) (lenOf pd_0_1 rfl) rfl (by show 2 * 0 + _ ≤ _; exact Nat.le_of_eq rfl) (hb hby at_65) (fun _ _ => ⟨rfl, eq8, (Nat.le_of_ble_eq_true rfl), (Nat.le_of_ble_eq_true rfl)⟩)
  dsimp only [Pt.U, Pt.locs, Pt.cells, Pt.slots] at X9 l9 y9 z9 st9 hQ9
  subst l9 y9 z9
  obtain ⟨rfl, N9q, eq9⟩ := hQ9
  have N9 := Fr.app N8 N9q
  obtain ⟨cq10, kq10, q10a, q10b, q10c⟩ := isOf hZ eq9 E_pp
  obtain ⟨_, _, ⟨T10, L10, k10, n10⟩, -, X10, ⟨Lc10, hQ10, l10, y10, z10⟩, st10⟩ := X9.virtualBack hx (y := (⟨"com/example/nereus/nereus/Domain", "includes", "(Lcom/example/nereus/nereus/Domain;)Z"⟩ : MethodName)) (z := (⟨"com/example/nereus/nereus/Domain", "includes", "(Lcom/example/nereus/nereus/Domain;)Z"⟩ : MethodName)) hown (mvT hZ (hw _ (List.mem_of_getElem? (i := 23) rfl))) (mvT hZ (hw _ (List.mem_of_getElem? (i := 24) rfl))) (notFace_of_selects (args := #[]) (mvT hZ sel_p)) (mvT hZ sel_p) (mvT hZ (hw _ (List.mem_of_getElem? (i := 25) rfl))) (by decide) (backOf (W := 0) (rm2g l Z a0 hw [] pp rr u3 u2 bpr T6.heap n0 Z0 S_DECIMAL S_INTEGER t_bpr f_bpr) hZ (hw _ (List.mem_of_getElem? (i := 27) rfl)) (hw _ (List.mem_of_getElem? (i := 8) rfl)) (by decide) (by decide)) q10a q10c (g := (mkF m 74 #[.val (.int p1), .val (.int p2), .val (.int p3), .val (.int (HMod.hMod (p1 &&& (2147483647 : Int32)) (5 : Int32))), .val (.int (HMod.hMod (p2 &&& (2147483647 : Int32)) (5 : Int32))), .val (.int (HMod.hMod (p3 &&& (2147483647 : Int32)) (5 : Int32))), .val (.ref pp), .val (.ref qq), .val (.ref rr), .val (.int bpq), .val (.int bqp), .val (.int bqr), .unset, .unset, .unset] [(.ref rr), (.ref pp)])) rfl (by rw [hml]; rfl) (Steps.refl _) (argsL := [(.ref rr)]) (rest := []) (lenOf pd_0_1 rfl) rfl (by show 2 * 0 + _ ≤ _; exact Nat.le_of_eq rfl) (hb hby at_74) (fun _ _ => ⟨rfl, eq9, (Nat.le_of_ble_eq_true rfl), (Nat.le_of_ble_eq_true rfl)⟩)
  dsimp only [Pt.U, Pt.locs, Pt.cells, Pt.slots] at X10 l10 y10 z10 st10 hQ10
  subst l10 y10 z10
  obtain ⟨rfl, N10q, eq10⟩ := hQ10
  have N10 := Fr.app N9 N10q
  obtain ⟨cq11, kq11, q11a, q11b, q11c⟩ := isOf hZ eq10 E_pp
  obtain ⟨_, _, ⟨T11, L11, k11, n11⟩, -, X11, ⟨Lc11, hQ11, l11, y11, z11⟩, st11⟩ := X10.virtualBack hx (y := (⟨"com/example/nereus/nereus/Domain", "includes", "(Lcom/example/nereus/nereus/Domain;)Z"⟩ : MethodName)) (z := (⟨"com/example/nereus/nereus/Domain", "includes", "(Lcom/example/nereus/nereus/Domain;)Z"⟩ : MethodName)) hown (mvT hZ (hw _ (List.mem_of_getElem? (i := 23) rfl))) (mvT hZ (hw _ (List.mem_of_getElem? (i := 24) rfl))) (notFace_of_selects (args := #[]) (mvT hZ sel_p)) (mvT hZ sel_p) (mvT hZ (hw _ (List.mem_of_getElem? (i := 25) rfl))) (by decide) (backOf (W := 0) (rm2g l Z a0 hw [] pp pp u3 u2 bpp T6.heap n0 Z0 S_DECIMAL S_INTEGER t_bpp f_bpp) hZ (hw _ (List.mem_of_getElem? (i := 27) rfl)) (hw _ (List.mem_of_getElem? (i := 8) rfl)) (by decide) (by decide)) q11a q11c (g := (mkF m 83 #[.val (.int p1), .val (.int p2), .val (.int p3), .val (.int (HMod.hMod (p1 &&& (2147483647 : Int32)) (5 : Int32))), .val (.int (HMod.hMod (p2 &&& (2147483647 : Int32)) (5 : Int32))), .val (.int (HMod.hMod (p3 &&& (2147483647 : Int32)) (5 : Int32))), .val (.ref pp), .val (.ref qq), .val (.ref rr), .val (.int bpq), .val (.int bqp), .val (.int bqr), .val (.int bpr), .unset, .unset] [(.ref pp), (.ref pp)])) rfl (by rw [hml]; rfl) (Steps.refl _) (argsL := [(.ref pp)]) (rest := []) (lenOf pd_0_1 rfl) rfl (by show 2 * 0 + _ ≤ _; exact Nat.le_of_eq rfl) (hb hby at_83) (fun _ _ => ⟨rfl, eq10, (Nat.le_of_ble_eq_true rfl), (Nat.le_of_ble_eq_true rfl)⟩)
  dsimp only [Pt.U, Pt.locs, Pt.cells, Pt.slots] at X11 l11 y11 z11 st11 hQ11
  subst l11 y11 z11
  obtain ⟨rfl, N11q, eq11⟩ := hQ11
  have N11 := Fr.app N10 N11q
  obtain ⟨fs, hr, hrun, hended, hW, hsame⟩ := X11.leave (v := some (.int (1 : Int32))) (fun h => by rw [Bd.returns] at h; cases h)
  refine ⟨_, _, pre0 _ ?_, hrun, hended, _, _, rfl, ?_, ⟨_, rfl⟩, hW, hsame.mono (by decide) (by decide)⟩
  · show Steps p.tables e below (s₁.setTop (mkF m 0 #[.val (.int p1), .val (.int p2), .val (.int p3), .unset, .unset, .unset, .unset, .unset, .unset, .unset, .unset, .unset, .unset, .unset, .unset] [])) _
    refine XS.iloadN X0.here hx rfl (hb hby at_0) rfl ?_
    show Steps p.tables e below (s₁.setTop (mkF m 1 #[.val (.int p1), .val (.int p2), .val (.int p3), .unset, .unset, .unset, .unset, .unset, .unset, .unset, .unset, .unset, .unset, .unset, .unset] [(.int p1)])) _
    refine X0.ldcI hx hown (mvT hZ (hw _ (List.mem_of_getElem? (i := 0) rfl))) (g := (mkF m 1 #[.val (.int p1), .val (.int p2), .val (.int p3), .unset, .unset, .unset, .unset, .unset, .unset, .unset, .unset, .unset, .unset, .unset, .unset] [(.int p1)])) rfl (hb hby at_1) ?_
    show Steps p.tables e below (s₁.setTop (mkF m 3 #[.val (.int p1), .val (.int p2), .val (.int p3), .unset, .unset, .unset, .unset, .unset, .unset, .unset, .unset, .unset, .unset, .unset, .unset] [(.int (2147483647 : Int32)), (.int p1)])) _
    refine XS.iand X0.here hx rfl (hb hby at_3) rfl ?_
    show Steps p.tables e below (s₁.setTop (mkF m 4 #[.val (.int p1), .val (.int p2), .val (.int p3), .unset, .unset, .unset, .unset, .unset, .unset, .unset, .unset, .unset, .unset, .unset, .unset] [(.int (p1 &&& (2147483647 : Int32)))])) _
    refine XS.iconst X0.here hx rfl (hb hby at_4) ?_
    show Steps p.tables e below (s₁.setTop (mkF m 5 #[.val (.int p1), .val (.int p2), .val (.int p3), .unset, .unset, .unset, .unset, .unset, .unset, .unset, .unset, .unset, .unset, .unset, .unset] [(.int (5 : Int32)), (.int (p1 &&& (2147483647 : Int32)))])) _
    refine iremM X0 hx (g := (mkF m 5 #[.val (.int p1), .val (.int p2), .val (.int p3), .unset, .unset, .unset, .unset, .unset, .unset, .unset, .unset, .unset, .unset, .unset, .unset] [(.int (5 : Int32)), (.int (p1 &&& (2147483647 : Int32)))])) rfl (hb hby at_5) rfl (by decide) ?_
    show Steps p.tables e below (s₁.setTop (mkF m 6 #[.val (.int p1), .val (.int p2), .val (.int p3), .unset, .unset, .unset, .unset, .unset, .unset, .unset, .unset, .unset, .unset, .unset, .unset] [(.int (HMod.hMod (p1 &&& (2147483647 : Int32)) (5 : Int32)))])) _
    refine XS.istoreN X0.here hx rfl (hb hby at_6) rfl (l' := #[.val (.int p1), .val (.int p2), .val (.int p3), .val (.int (HMod.hMod (p1 &&& (2147483647 : Int32)) (5 : Int32))), .unset, .unset, .unset, .unset, .unset, .unset, .unset, .unset, .unset, .unset, .unset]) rfl ?_
    show Steps p.tables e below (s₁.setTop (mkF m 7 #[.val (.int p1), .val (.int p2), .val (.int p3), .val (.int (HMod.hMod (p1 &&& (2147483647 : Int32)) (5 : Int32))), .unset, .unset, .unset, .unset, .unset, .unset, .unset, .unset, .unset, .unset, .unset] [])) _
    refine XS.iloadN X0.here hx rfl (hb hby at_7) rfl ?_
    show Steps p.tables e below (s₁.setTop (mkF m 8 #[.val (.int p1), .val (.int p2), .val (.int p3), .val (.int (HMod.hMod (p1 &&& (2147483647 : Int32)) (5 : Int32))), .unset, .unset, .unset, .unset, .unset, .unset, .unset, .unset, .unset, .unset, .unset] [(.int p2)])) _
    refine X0.ldcI hx hown (mvT hZ (hw _ (List.mem_of_getElem? (i := 0) rfl))) (g := (mkF m 8 #[.val (.int p1), .val (.int p2), .val (.int p3), .val (.int (HMod.hMod (p1 &&& (2147483647 : Int32)) (5 : Int32))), .unset, .unset, .unset, .unset, .unset, .unset, .unset, .unset, .unset, .unset, .unset] [(.int p2)])) rfl (hb hby at_8) ?_
    show Steps p.tables e below (s₁.setTop (mkF m 10 #[.val (.int p1), .val (.int p2), .val (.int p3), .val (.int (HMod.hMod (p1 &&& (2147483647 : Int32)) (5 : Int32))), .unset, .unset, .unset, .unset, .unset, .unset, .unset, .unset, .unset, .unset, .unset] [(.int (2147483647 : Int32)), (.int p2)])) _
    refine XS.iand X0.here hx rfl (hb hby at_10) rfl ?_
    show Steps p.tables e below (s₁.setTop (mkF m 11 #[.val (.int p1), .val (.int p2), .val (.int p3), .val (.int (HMod.hMod (p1 &&& (2147483647 : Int32)) (5 : Int32))), .unset, .unset, .unset, .unset, .unset, .unset, .unset, .unset, .unset, .unset, .unset] [(.int (p2 &&& (2147483647 : Int32)))])) _
    refine XS.iconst X0.here hx rfl (hb hby at_11) ?_
    show Steps p.tables e below (s₁.setTop (mkF m 12 #[.val (.int p1), .val (.int p2), .val (.int p3), .val (.int (HMod.hMod (p1 &&& (2147483647 : Int32)) (5 : Int32))), .unset, .unset, .unset, .unset, .unset, .unset, .unset, .unset, .unset, .unset, .unset] [(.int (5 : Int32)), (.int (p2 &&& (2147483647 : Int32)))])) _
    refine iremM X0 hx (g := (mkF m 12 #[.val (.int p1), .val (.int p2), .val (.int p3), .val (.int (HMod.hMod (p1 &&& (2147483647 : Int32)) (5 : Int32))), .unset, .unset, .unset, .unset, .unset, .unset, .unset, .unset, .unset, .unset, .unset] [(.int (5 : Int32)), (.int (p2 &&& (2147483647 : Int32)))])) rfl (hb hby at_12) rfl (by decide) ?_
    show Steps p.tables e below (s₁.setTop (mkF m 13 #[.val (.int p1), .val (.int p2), .val (.int p3), .val (.int (HMod.hMod (p1 &&& (2147483647 : Int32)) (5 : Int32))), .unset, .unset, .unset, .unset, .unset, .unset, .unset, .unset, .unset, .unset, .unset] [(.int (HMod.hMod (p2 &&& (2147483647 : Int32)) (5 : Int32)))])) _
    refine XS.istore X0.here hx rfl (hb hby at_13) rfl (l' := #[.val (.int p1), .val (.int p2), .val (.int p3), .val (.int (HMod.hMod (p1 &&& (2147483647 : Int32)) (5 : Int32))), .val (.int (HMod.hMod (p2 &&& (2147483647 : Int32)) (5 : Int32))), .unset, .unset, .unset, .unset, .unset, .unset, .unset, .unset, .unset, .unset]) rfl ?_
    show Steps p.tables e below (s₁.setTop (mkF m 15 #[.val (.int p1), .val (.int p2), .val (.int p3), .val (.int (HMod.hMod (p1 &&& (2147483647 : Int32)) (5 : Int32))), .val (.int (HMod.hMod (p2 &&& (2147483647 : Int32)) (5 : Int32))), .unset, .unset, .unset, .unset, .unset, .unset, .unset, .unset, .unset, .unset] [])) _
    refine XS.iloadN X0.here hx rfl (hb hby at_15) rfl ?_
    show Steps p.tables e below (s₁.setTop (mkF m 16 #[.val (.int p1), .val (.int p2), .val (.int p3), .val (.int (HMod.hMod (p1 &&& (2147483647 : Int32)) (5 : Int32))), .val (.int (HMod.hMod (p2 &&& (2147483647 : Int32)) (5 : Int32))), .unset, .unset, .unset, .unset, .unset, .unset, .unset, .unset, .unset, .unset] [(.int p3)])) _
    refine X0.ldcI hx hown (mvT hZ (hw _ (List.mem_of_getElem? (i := 0) rfl))) (g := (mkF m 16 #[.val (.int p1), .val (.int p2), .val (.int p3), .val (.int (HMod.hMod (p1 &&& (2147483647 : Int32)) (5 : Int32))), .val (.int (HMod.hMod (p2 &&& (2147483647 : Int32)) (5 : Int32))), .unset, .unset, .unset, .unset, .unset, .unset, .unset, .unset, .unset, .unset] [(.int p3)])) rfl (hb hby at_16) ?_
    show Steps p.tables e below (s₁.setTop (mkF m 18 #[.val (.int p1), .val (.int p2), .val (.int p3), .val (.int (HMod.hMod (p1 &&& (2147483647 : Int32)) (5 : Int32))), .val (.int (HMod.hMod (p2 &&& (2147483647 : Int32)) (5 : Int32))), .unset, .unset, .unset, .unset, .unset, .unset, .unset, .unset, .unset, .unset] [(.int (2147483647 : Int32)), (.int p3)])) _
    refine XS.iand X0.here hx rfl (hb hby at_18) rfl ?_
    show Steps p.tables e below (s₁.setTop (mkF m 19 #[.val (.int p1), .val (.int p2), .val (.int p3), .val (.int (HMod.hMod (p1 &&& (2147483647 : Int32)) (5 : Int32))), .val (.int (HMod.hMod (p2 &&& (2147483647 : Int32)) (5 : Int32))), .unset, .unset, .unset, .unset, .unset, .unset, .unset, .unset, .unset, .unset] [(.int (p3 &&& (2147483647 : Int32)))])) _
    refine XS.iconst X0.here hx rfl (hb hby at_19) ?_
    show Steps p.tables e below (s₁.setTop (mkF m 20 #[.val (.int p1), .val (.int p2), .val (.int p3), .val (.int (HMod.hMod (p1 &&& (2147483647 : Int32)) (5 : Int32))), .val (.int (HMod.hMod (p2 &&& (2147483647 : Int32)) (5 : Int32))), .unset, .unset, .unset, .unset, .unset, .unset, .unset, .unset, .unset, .unset] [(.int (5 : Int32)), (.int (p3 &&& (2147483647 : Int32)))])) _
    refine iremM X0 hx (g := (mkF m 20 #[.val (.int p1), .val (.int p2), .val (.int p3), .val (.int (HMod.hMod (p1 &&& (2147483647 : Int32)) (5 : Int32))), .val (.int (HMod.hMod (p2 &&& (2147483647 : Int32)) (5 : Int32))), .unset, .unset, .unset, .unset, .unset, .unset, .unset, .unset, .unset, .unset] [(.int (5 : Int32)), (.int (p3 &&& (2147483647 : Int32)))])) rfl (hb hby at_20) rfl (by decide) ?_
    show Steps p.tables e below (s₁.setTop (mkF m 21 #[.val (.int p1), .val (.int p2), .val (.int p3), .val (.int (HMod.hMod (p1 &&& (2147483647 : Int32)) (5 : Int32))), .val (.int (HMod.hMod (p2 &&& (2147483647 : Int32)) (5 : Int32))), .unset, .unset, .unset, .unset, .unset, .unset, .unset, .unset, .unset, .unset] [(.int (HMod.hMod (p3 &&& (2147483647 : Int32)) (5 : Int32)))])) _
    refine XS.istore X0.here hx rfl (hb hby at_21) rfl (l' := #[.val (.int p1), .val (.int p2), .val (.int p3), .val (.int (HMod.hMod (p1 &&& (2147483647 : Int32)) (5 : Int32))), .val (.int (HMod.hMod (p2 &&& (2147483647 : Int32)) (5 : Int32))), .val (.int (HMod.hMod (p3 &&& (2147483647 : Int32)) (5 : Int32))), .unset, .unset, .unset, .unset, .unset, .unset, .unset, .unset, .unset]) rfl ?_
    show Steps p.tables e below (s₁.setTop (mkF m 23 #[.val (.int p1), .val (.int p2), .val (.int p3), .val (.int (HMod.hMod (p1 &&& (2147483647 : Int32)) (5 : Int32))), .val (.int (HMod.hMod (p2 &&& (2147483647 : Int32)) (5 : Int32))), .val (.int (HMod.hMod (p3 &&& (2147483647 : Int32)) (5 : Int32))), .unset, .unset, .unset, .unset, .unset, .unset, .unset, .unset, .unset] [])) _
    refine XS.iloadN X0.here hx rfl (hb hby at_23) rfl ?_
    show Steps p.tables e below (s₁.setTop (mkF m 24 #[.val (.int p1), .val (.int p2), .val (.int p3), .val (.int (HMod.hMod (p1 &&& (2147483647 : Int32)) (5 : Int32))), .val (.int (HMod.hMod (p2 &&& (2147483647 : Int32)) (5 : Int32))), .val (.int (HMod.hMod (p3 &&& (2147483647 : Int32)) (5 : Int32))), .unset, .unset, .unset, .unset, .unset, .unset, .unset, .unset, .unset] [(.int (HMod.hMod (p1 &&& (2147483647 : Int32)) (5 : Int32)))])) _
    refine st4 _ ?_
    show Steps p.tables e below (T4.setTop (mkF m 27 #[.val (.int p1), .val (.int p2), .val (.int p3), .val (.int (HMod.hMod (p1 &&& (2147483647 : Int32)) (5 : Int32))), .val (.int (HMod.hMod (p2 &&& (2147483647 : Int32)) (5 : Int32))), .val (.int (HMod.hMod (p3 &&& (2147483647 : Int32)) (5 : Int32))), .unset, .unset, .unset, .unset, .unset, .unset, .unset, .unset, .unset] [(.ref pp)])) _
    refine XS.astore X4.here hx rfl (hb hby at_27) rfl rfl (l' := #[.val (.int p1), .val (.int p2), .val (.int p3), .val (.int (HMod.hMod (p1 &&& (2147483647 : Int32)) (5 : Int32))), .val (.int (HMod.hMod (p2 &&& (2147483647 : Int32)) (5 : Int32))), .val (.int (HMod.hMod (p3 &&& (2147483647 : Int32)) (5 : Int32))), .val (.ref pp), .unset, .unset, .unset, .unset, .unset, .unset, .unset, .unset]) rfl ?_
    show Steps p.tables e below (T4.setTop (mkF m 29 #[.val (.int p1), .val (.int p2), .val (.int p3), .val (.int (HMod.hMod (p1 &&& (2147483647 : Int32)) (5 : Int32))), .val (.int (HMod.hMod (p2 &&& (2147483647 : Int32)) (5 : Int32))), .val (.int (HMod.hMod (p3 &&& (2147483647 : Int32)) (5 : Int32))), .val (.ref pp), .unset, .unset, .unset, .unset, .unset, .unset, .unset, .unset] [])) _
    refine XS.iload X4.here hx rfl (hb hby at_29) rfl ?_
    show Steps p.tables e below (T4.setTop (mkF m 31 #[.val (.int p1), .val (.int p2), .val (.int p3), .val (.int (HMod.hMod (p1 &&& (2147483647 : Int32)) (5 : Int32))), .val (.int (HMod.hMod (p2 &&& (2147483647 : Int32)) (5 : Int32))), .val (.int (HMod.hMod (p3 &&& (2147483647 : Int32)) (5 : Int32))), .val (.ref pp), .unset, .unset, .unset, .unset, .unset, .unset, .unset, .unset] [(.int (HMod.hMod (p2 &&& (2147483647 : Int32)) (5 : Int32)))])) _
    refine st5 _ ?_
    show Steps p.tables e below (T5.setTop (mkF m 34 #[.val (.int p1), .val (.int p2), .val (.int p3), .val (.int (HMod.hMod (p1 &&& (2147483647 : Int32)) (5 : Int32))), .val (.int (HMod.hMod (p2 &&& (2147483647 : Int32)) (5 : Int32))), .val (.int (HMod.hMod (p3 &&& (2147483647 : Int32)) (5 : Int32))), .val (.ref pp), .unset, .unset, .unset, .unset, .unset, .unset, .unset, .unset] [(.ref qq)])) _
    refine XS.astore X5.here hx rfl (hb hby at_34) rfl rfl (l' := #[.val (.int p1), .val (.int p2), .val (.int p3), .val (.int (HMod.hMod (p1 &&& (2147483647 : Int32)) (5 : Int32))), .val (.int (HMod.hMod (p2 &&& (2147483647 : Int32)) (5 : Int32))), .val (.int (HMod.hMod (p3 &&& (2147483647 : Int32)) (5 : Int32))), .val (.ref pp), .val (.ref qq), .unset, .unset, .unset, .unset, .unset, .unset, .unset]) rfl ?_
    show Steps p.tables e below (T5.setTop (mkF m 36 #[.val (.int p1), .val (.int p2), .val (.int p3), .val (.int (HMod.hMod (p1 &&& (2147483647 : Int32)) (5 : Int32))), .val (.int (HMod.hMod (p2 &&& (2147483647 : Int32)) (5 : Int32))), .val (.int (HMod.hMod (p3 &&& (2147483647 : Int32)) (5 : Int32))), .val (.ref pp), .val (.ref qq), .unset, .unset, .unset, .unset, .unset, .unset, .unset] [])) _
    refine XS.iload X5.here hx rfl (hb hby at_36) rfl ?_
    show Steps p.tables e below (T5.setTop (mkF m 38 #[.val (.int p1), .val (.int p2), .val (.int p3), .val (.int (HMod.hMod (p1 &&& (2147483647 : Int32)) (5 : Int32))), .val (.int (HMod.hMod (p2 &&& (2147483647 : Int32)) (5 : Int32))), .val (.int (HMod.hMod (p3 &&& (2147483647 : Int32)) (5 : Int32))), .val (.ref pp), .val (.ref qq), .unset, .unset, .unset, .unset, .unset, .unset, .unset] [(.int (HMod.hMod (p3 &&& (2147483647 : Int32)) (5 : Int32)))])) _
    refine st6 _ ?_
    show Steps p.tables e below (T6.setTop (mkF m 41 #[.val (.int p1), .val (.int p2), .val (.int p3), .val (.int (HMod.hMod (p1 &&& (2147483647 : Int32)) (5 : Int32))), .val (.int (HMod.hMod (p2 &&& (2147483647 : Int32)) (5 : Int32))), .val (.int (HMod.hMod (p3 &&& (2147483647 : Int32)) (5 : Int32))), .val (.ref pp), .val (.ref qq), .unset, .unset, .unset, .unset, .unset, .unset, .unset] [(.ref rr)])) _
    refine XS.astore X6.here hx rfl (hb hby at_41) rfl rfl (l' := #[.val (.int p1), .val (.int p2), .val (.int p3), .val (.int (HMod.hMod (p1 &&& (2147483647 : Int32)) (5 : Int32))), .val (.int (HMod.hMod (p2 &&& (2147483647 : Int32)) (5 : Int32))), .val (.int (HMod.hMod (p3 &&& (2147483647 : Int32)) (5 : Int32))), .val (.ref pp), .val (.ref qq), .val (.ref rr), .unset, .unset, .unset, .unset, .unset, .unset]) rfl ?_
    show Steps p.tables e below (T6.setTop (mkF m 43 #[.val (.int p1), .val (.int p2), .val (.int p3), .val (.int (HMod.hMod (p1 &&& (2147483647 : Int32)) (5 : Int32))), .val (.int (HMod.hMod (p2 &&& (2147483647 : Int32)) (5 : Int32))), .val (.int (HMod.hMod (p3 &&& (2147483647 : Int32)) (5 : Int32))), .val (.ref pp), .val (.ref qq), .val (.ref rr), .unset, .unset, .unset, .unset, .unset, .unset] [])) _
    refine XS.aload X6.here hx rfl (hb hby at_43) rfl rfl ?_
    show Steps p.tables e below (T6.setTop (mkF m 45 #[.val (.int p1), .val (.int p2), .val (.int p3), .val (.int (HMod.hMod (p1 &&& (2147483647 : Int32)) (5 : Int32))), .val (.int (HMod.hMod (p2 &&& (2147483647 : Int32)) (5 : Int32))), .val (.int (HMod.hMod (p3 &&& (2147483647 : Int32)) (5 : Int32))), .val (.ref pp), .val (.ref qq), .val (.ref rr), .unset, .unset, .unset, .unset, .unset, .unset] [(.ref pp)])) _
    refine XS.aload X6.here hx rfl (hb hby at_45) rfl rfl ?_
    show Steps p.tables e below (T6.setTop (mkF m 47 #[.val (.int p1), .val (.int p2), .val (.int p3), .val (.int (HMod.hMod (p1 &&& (2147483647 : Int32)) (5 : Int32))), .val (.int (HMod.hMod (p2 &&& (2147483647 : Int32)) (5 : Int32))), .val (.int (HMod.hMod (p3 &&& (2147483647 : Int32)) (5 : Int32))), .val (.ref pp), .val (.ref qq), .val (.ref rr), .unset, .unset, .unset, .unset, .unset, .unset] [(.ref qq), (.ref pp)])) _
    refine st7.trans ?_
    show Steps p.tables e below (T7.setTop (mkF m 50 #[.val (.int p1), .val (.int p2), .val (.int p3), .val (.int (HMod.hMod (p1 &&& (2147483647 : Int32)) (5 : Int32))), .val (.int (HMod.hMod (p2 &&& (2147483647 : Int32)) (5 : Int32))), .val (.int (HMod.hMod (p3 &&& (2147483647 : Int32)) (5 : Int32))), .val (.ref pp), .val (.ref qq), .val (.ref rr), .unset, .unset, .unset, .unset, .unset, .unset] [(.int bpq)])) _
    refine XS.istore X7.here hx rfl (hb hby at_50) rfl (l' := #[.val (.int p1), .val (.int p2), .val (.int p3), .val (.int (HMod.hMod (p1 &&& (2147483647 : Int32)) (5 : Int32))), .val (.int (HMod.hMod (p2 &&& (2147483647 : Int32)) (5 : Int32))), .val (.int (HMod.hMod (p3 &&& (2147483647 : Int32)) (5 : Int32))), .val (.ref pp), .val (.ref qq), .val (.ref rr), .val (.int bpq), .unset, .unset, .unset, .unset, .unset]) rfl ?_
    show Steps p.tables e below (T7.setTop (mkF m 52 #[.val (.int p1), .val (.int p2), .val (.int p3), .val (.int (HMod.hMod (p1 &&& (2147483647 : Int32)) (5 : Int32))), .val (.int (HMod.hMod (p2 &&& (2147483647 : Int32)) (5 : Int32))), .val (.int (HMod.hMod (p3 &&& (2147483647 : Int32)) (5 : Int32))), .val (.ref pp), .val (.ref qq), .val (.ref rr), .val (.int bpq), .unset, .unset, .unset, .unset, .unset] [])) _
    refine XS.aload X7.here hx rfl (hb hby at_52) rfl rfl ?_
    show Steps p.tables e below (T7.setTop (mkF m 54 #[.val (.int p1), .val (.int p2), .val (.int p3), .val (.int (HMod.hMod (p1 &&& (2147483647 : Int32)) (5 : Int32))), .val (.int (HMod.hMod (p2 &&& (2147483647 : Int32)) (5 : Int32))), .val (.int (HMod.hMod (p3 &&& (2147483647 : Int32)) (5 : Int32))), .val (.ref pp), .val (.ref qq), .val (.ref rr), .val (.int bpq), .unset, .unset, .unset, .unset, .unset] [(.ref qq)])) _
    refine XS.aload X7.here hx rfl (hb hby at_54) rfl rfl ?_
    show Steps p.tables e below (T7.setTop (mkF m 56 #[.val (.int p1), .val (.int p2), .val (.int p3), .val (.int (HMod.hMod (p1 &&& (2147483647 : Int32)) (5 : Int32))), .val (.int (HMod.hMod (p2 &&& (2147483647 : Int32)) (5 : Int32))), .val (.int (HMod.hMod (p3 &&& (2147483647 : Int32)) (5 : Int32))), .val (.ref pp), .val (.ref qq), .val (.ref rr), .val (.int bpq), .unset, .unset, .unset, .unset, .unset] [(.ref pp), (.ref qq)])) _
    refine st8.trans ?_
    show Steps p.tables e below (T8.setTop (mkF m 59 #[.val (.int p1), .val (.int p2), .val (.int p3), .val (.int (HMod.hMod (p1 &&& (2147483647 : Int32)) (5 : Int32))), .val (.int (HMod.hMod (p2 &&& (2147483647 : Int32)) (5 : Int32))), .val (.int (HMod.hMod (p3 &&& (2147483647 : Int32)) (5 : Int32))), .val (.ref pp), .val (.ref qq), .val (.ref rr), .val (.int bpq), .unset, .unset, .unset, .unset, .unset] [(.int bqp)])) _
    refine XS.istore X8.here hx rfl (hb hby at_59) rfl (l' := #[.val (.int p1), .val (.int p2), .val (.int p3), .val (.int (HMod.hMod (p1 &&& (2147483647 : Int32)) (5 : Int32))), .val (.int (HMod.hMod (p2 &&& (2147483647 : Int32)) (5 : Int32))), .val (.int (HMod.hMod (p3 &&& (2147483647 : Int32)) (5 : Int32))), .val (.ref pp), .val (.ref qq), .val (.ref rr), .val (.int bpq), .val (.int bqp), .unset, .unset, .unset, .unset]) rfl ?_
    show Steps p.tables e below (T8.setTop (mkF m 61 #[.val (.int p1), .val (.int p2), .val (.int p3), .val (.int (HMod.hMod (p1 &&& (2147483647 : Int32)) (5 : Int32))), .val (.int (HMod.hMod (p2 &&& (2147483647 : Int32)) (5 : Int32))), .val (.int (HMod.hMod (p3 &&& (2147483647 : Int32)) (5 : Int32))), .val (.ref pp), .val (.ref qq), .val (.ref rr), .val (.int bpq), .val (.int bqp), .unset, .unset, .unset, .unset] [])) _
    refine XS.aload X8.here hx rfl (hb hby at_61) rfl rfl ?_
    show Steps p.tables e below (T8.setTop (mkF m 63 #[.val (.int p1), .val (.int p2), .val (.int p3), .val (.int (HMod.hMod (p1 &&& (2147483647 : Int32)) (5 : Int32))), .val (.int (HMod.hMod (p2 &&& (2147483647 : Int32)) (5 : Int32))), .val (.int (HMod.hMod (p3 &&& (2147483647 : Int32)) (5 : Int32))), .val (.ref pp), .val (.ref qq), .val (.ref rr), .val (.int bpq), .val (.int bqp), .unset, .unset, .unset, .unset] [(.ref qq)])) _
    refine XS.aload X8.here hx rfl (hb hby at_63) rfl rfl ?_
    show Steps p.tables e below (T8.setTop (mkF m 65 #[.val (.int p1), .val (.int p2), .val (.int p3), .val (.int (HMod.hMod (p1 &&& (2147483647 : Int32)) (5 : Int32))), .val (.int (HMod.hMod (p2 &&& (2147483647 : Int32)) (5 : Int32))), .val (.int (HMod.hMod (p3 &&& (2147483647 : Int32)) (5 : Int32))), .val (.ref pp), .val (.ref qq), .val (.ref rr), .val (.int bpq), .val (.int bqp), .unset, .unset, .unset, .unset] [(.ref rr), (.ref qq)])) _
    refine st9.trans ?_
    show Steps p.tables e below (T9.setTop (mkF m 68 #[.val (.int p1), .val (.int p2), .val (.int p3), .val (.int (HMod.hMod (p1 &&& (2147483647 : Int32)) (5 : Int32))), .val (.int (HMod.hMod (p2 &&& (2147483647 : Int32)) (5 : Int32))), .val (.int (HMod.hMod (p3 &&& (2147483647 : Int32)) (5 : Int32))), .val (.ref pp), .val (.ref qq), .val (.ref rr), .val (.int bpq), .val (.int bqp), .unset, .unset, .unset, .unset] [(.int bqr)])) _
    refine XS.istore X9.here hx rfl (hb hby at_68) rfl (l' := #[.val (.int p1), .val (.int p2), .val (.int p3), .val (.int (HMod.hMod (p1 &&& (2147483647 : Int32)) (5 : Int32))), .val (.int (HMod.hMod (p2 &&& (2147483647 : Int32)) (5 : Int32))), .val (.int (HMod.hMod (p3 &&& (2147483647 : Int32)) (5 : Int32))), .val (.ref pp), .val (.ref qq), .val (.ref rr), .val (.int bpq), .val (.int bqp), .val (.int bqr), .unset, .unset, .unset]) rfl ?_
    show Steps p.tables e below (T9.setTop (mkF m 70 #[.val (.int p1), .val (.int p2), .val (.int p3), .val (.int (HMod.hMod (p1 &&& (2147483647 : Int32)) (5 : Int32))), .val (.int (HMod.hMod (p2 &&& (2147483647 : Int32)) (5 : Int32))), .val (.int (HMod.hMod (p3 &&& (2147483647 : Int32)) (5 : Int32))), .val (.ref pp), .val (.ref qq), .val (.ref rr), .val (.int bpq), .val (.int bqp), .val (.int bqr), .unset, .unset, .unset] [])) _
    refine XS.aload X9.here hx rfl (hb hby at_70) rfl rfl ?_
    show Steps p.tables e below (T9.setTop (mkF m 72 #[.val (.int p1), .val (.int p2), .val (.int p3), .val (.int (HMod.hMod (p1 &&& (2147483647 : Int32)) (5 : Int32))), .val (.int (HMod.hMod (p2 &&& (2147483647 : Int32)) (5 : Int32))), .val (.int (HMod.hMod (p3 &&& (2147483647 : Int32)) (5 : Int32))), .val (.ref pp), .val (.ref qq), .val (.ref rr), .val (.int bpq), .val (.int bqp), .val (.int bqr), .unset, .unset, .unset] [(.ref pp)])) _
    refine XS.aload X9.here hx rfl (hb hby at_72) rfl rfl ?_
    show Steps p.tables e below (T9.setTop (mkF m 74 #[.val (.int p1), .val (.int p2), .val (.int p3), .val (.int (HMod.hMod (p1 &&& (2147483647 : Int32)) (5 : Int32))), .val (.int (HMod.hMod (p2 &&& (2147483647 : Int32)) (5 : Int32))), .val (.int (HMod.hMod (p3 &&& (2147483647 : Int32)) (5 : Int32))), .val (.ref pp), .val (.ref qq), .val (.ref rr), .val (.int bpq), .val (.int bqp), .val (.int bqr), .unset, .unset, .unset] [(.ref rr), (.ref pp)])) _
    refine st10.trans ?_
    show Steps p.tables e below (T10.setTop (mkF m 77 #[.val (.int p1), .val (.int p2), .val (.int p3), .val (.int (HMod.hMod (p1 &&& (2147483647 : Int32)) (5 : Int32))), .val (.int (HMod.hMod (p2 &&& (2147483647 : Int32)) (5 : Int32))), .val (.int (HMod.hMod (p3 &&& (2147483647 : Int32)) (5 : Int32))), .val (.ref pp), .val (.ref qq), .val (.ref rr), .val (.int bpq), .val (.int bqp), .val (.int bqr), .unset, .unset, .unset] [(.int bpr)])) _
    refine XS.istore X10.here hx rfl (hb hby at_77) rfl (l' := #[.val (.int p1), .val (.int p2), .val (.int p3), .val (.int (HMod.hMod (p1 &&& (2147483647 : Int32)) (5 : Int32))), .val (.int (HMod.hMod (p2 &&& (2147483647 : Int32)) (5 : Int32))), .val (.int (HMod.hMod (p3 &&& (2147483647 : Int32)) (5 : Int32))), .val (.ref pp), .val (.ref qq), .val (.ref rr), .val (.int bpq), .val (.int bqp), .val (.int bqr), .val (.int bpr), .unset, .unset]) rfl ?_
    show Steps p.tables e below (T10.setTop (mkF m 79 #[.val (.int p1), .val (.int p2), .val (.int p3), .val (.int (HMod.hMod (p1 &&& (2147483647 : Int32)) (5 : Int32))), .val (.int (HMod.hMod (p2 &&& (2147483647 : Int32)) (5 : Int32))), .val (.int (HMod.hMod (p3 &&& (2147483647 : Int32)) (5 : Int32))), .val (.ref pp), .val (.ref qq), .val (.ref rr), .val (.int bpq), .val (.int bqp), .val (.int bqr), .val (.int bpr), .unset, .unset] [])) _
    refine XS.aload X10.here hx rfl (hb hby at_79) rfl rfl ?_
    show Steps p.tables e below (T10.setTop (mkF m 81 #[.val (.int p1), .val (.int p2), .val (.int p3), .val (.int (HMod.hMod (p1 &&& (2147483647 : Int32)) (5 : Int32))), .val (.int (HMod.hMod (p2 &&& (2147483647 : Int32)) (5 : Int32))), .val (.int (HMod.hMod (p3 &&& (2147483647 : Int32)) (5 : Int32))), .val (.ref pp), .val (.ref qq), .val (.ref rr), .val (.int bpq), .val (.int bqp), .val (.int bqr), .val (.int bpr), .unset, .unset] [(.ref pp)])) _
    refine XS.aload X10.here hx rfl (hb hby at_81) rfl rfl ?_
    show Steps p.tables e below (T10.setTop (mkF m 83 #[.val (.int p1), .val (.int p2), .val (.int p3), .val (.int (HMod.hMod (p1 &&& (2147483647 : Int32)) (5 : Int32))), .val (.int (HMod.hMod (p2 &&& (2147483647 : Int32)) (5 : Int32))), .val (.int (HMod.hMod (p3 &&& (2147483647 : Int32)) (5 : Int32))), .val (.ref pp), .val (.ref qq), .val (.ref rr), .val (.int bpq), .val (.int bqp), .val (.int bqr), .val (.int bpr), .unset, .unset] [(.ref pp), (.ref pp)])) _
    refine st11.trans ?_
    show Steps p.tables e below (T11.setTop (mkF m 86 #[.val (.int p1), .val (.int p2), .val (.int p3), .val (.int (HMod.hMod (p1 &&& (2147483647 : Int32)) (5 : Int32))), .val (.int (HMod.hMod (p2 &&& (2147483647 : Int32)) (5 : Int32))), .val (.int (HMod.hMod (p3 &&& (2147483647 : Int32)) (5 : Int32))), .val (.ref pp), .val (.ref qq), .val (.ref rr), .val (.int bpq), .val (.int bqp), .val (.int bqr), .val (.int bpr), .unset, .unset] [(.int bpp)])) _
    refine XS.istore X11.here hx rfl (hb hby at_86) rfl (l' := #[.val (.int p1), .val (.int p2), .val (.int p3), .val (.int (HMod.hMod (p1 &&& (2147483647 : Int32)) (5 : Int32))), .val (.int (HMod.hMod (p2 &&& (2147483647 : Int32)) (5 : Int32))), .val (.int (HMod.hMod (p3 &&& (2147483647 : Int32)) (5 : Int32))), .val (.ref pp), .val (.ref qq), .val (.ref rr), .val (.int bpq), .val (.int bqp), .val (.int bqr), .val (.int bpr), .val (.int bpp), .unset]) rfl ?_
    show Steps p.tables e below (T11.setTop (mkF m 88 #[.val (.int p1), .val (.int p2), .val (.int p3), .val (.int (HMod.hMod (p1 &&& (2147483647 : Int32)) (5 : Int32))), .val (.int (HMod.hMod (p2 &&& (2147483647 : Int32)) (5 : Int32))), .val (.int (HMod.hMod (p3 &&& (2147483647 : Int32)) (5 : Int32))), .val (.ref pp), .val (.ref qq), .val (.ref rr), .val (.int bpq), .val (.int bqp), .val (.int bqr), .val (.int bpr), .val (.int bpp), .unset] [])) _
    refine XS.iloadN X11.here hx rfl (hb hby at_88) rfl ?_
    show Steps p.tables e below (T11.setTop (mkF m 89 #[.val (.int p1), .val (.int p2), .val (.int p3), .val (.int (HMod.hMod (p1 &&& (2147483647 : Int32)) (5 : Int32))), .val (.int (HMod.hMod (p2 &&& (2147483647 : Int32)) (5 : Int32))), .val (.int (HMod.hMod (p3 &&& (2147483647 : Int32)) (5 : Int32))), .val (.ref pp), .val (.ref qq), .val (.ref rr), .val (.int bpq), .val (.int bqp), .val (.int bqr), .val (.int bpr), .val (.int bpp), .unset] [(.int (HMod.hMod (p1 &&& (2147483647 : Int32)) (5 : Int32)))])) _
    refine XS.iload X11.here hx rfl (hb hby at_89) rfl ?_
    show Steps p.tables e below (T11.setTop (mkF m 91 #[.val (.int p1), .val (.int p2), .val (.int p3), .val (.int (HMod.hMod (p1 &&& (2147483647 : Int32)) (5 : Int32))), .val (.int (HMod.hMod (p2 &&& (2147483647 : Int32)) (5 : Int32))), .val (.int (HMod.hMod (p3 &&& (2147483647 : Int32)) (5 : Int32))), .val (.ref pp), .val (.ref qq), .val (.ref rr), .val (.int bpq), .val (.int bqp), .val (.int bqr), .val (.int bpr), .val (.int bpp), .unset] [(.int (HMod.hMod (p2 &&& (2147483647 : Int32)) (5 : Int32))), (.int (HMod.hMod (p1 &&& (2147483647 : Int32)) (5 : Int32)))])) _
    refine XS.icmpYes X11.here hx rfl (pc0 := 91) (pc' := 105) rfl (hb hby at_91) rfl (teq hc91).1 (by decide) (by decide) ?_
    show Steps p.tables e below (T11.setTop (mkF m 105 #[.val (.int p1), .val (.int p2), .val (.int p3), .val (.int (HMod.hMod (p1 &&& (2147483647 : Int32)) (5 : Int32))), .val (.int (HMod.hMod (p2 &&& (2147483647 : Int32)) (5 : Int32))), .val (.int (HMod.hMod (p3 &&& (2147483647 : Int32)) (5 : Int32))), .val (.ref pp), .val (.ref qq), .val (.ref rr), .val (.int bpq), .val (.int bqp), .val (.int bqr), .val (.int bpr), .val (.int bpp), .unset] [])) _
    refine XS.iconst X11.here hx rfl (hb hby at_105) ?_
    show Steps p.tables e below (T11.setTop (mkF m 106 #[.val (.int p1), .val (.int p2), .val (.int p3), .val (.int (HMod.hMod (p1 &&& (2147483647 : Int32)) (5 : Int32))), .val (.int (HMod.hMod (p2 &&& (2147483647 : Int32)) (5 : Int32))), .val (.int (HMod.hMod (p3 &&& (2147483647 : Int32)) (5 : Int32))), .val (.ref pp), .val (.ref qq), .val (.ref rr), .val (.int bpq), .val (.int bqp), .val (.int bqr), .val (.int bpr), .val (.int bpp), .unset] [(.int (1 : Int32))])) _
    refine XS.goto X11.here hx rfl (pc0 := 106) (pc' := 110) rfl (hb hby at_106) (by decide) (by decide) ?_
    show Steps p.tables e below (T11.setTop (mkF m 110 #[.val (.int p1), .val (.int p2), .val (.int p3), .val (.int (HMod.hMod (p1 &&& (2147483647 : Int32)) (5 : Int32))), .val (.int (HMod.hMod (p2 &&& (2147483647 : Int32)) (5 : Int32))), .val (.int (HMod.hMod (p3 &&& (2147483647 : Int32)) (5 : Int32))), .val (.ref pp), .val (.ref qq), .val (.ref rr), .val (.int bpq), .val (.int bqp), .val (.int bqr), .val (.int bpr), .val (.int bpp), .unset] [(.int (1 : Int32))])) _
    refine XS.istore X11.here hx rfl (hb hby at_110) rfl (l' := #[.val (.int p1), .val (.int p2), .val (.int p3), .val (.int (HMod.hMod (p1 &&& (2147483647 : Int32)) (5 : Int32))), .val (.int (HMod.hMod (p2 &&& (2147483647 : Int32)) (5 : Int32))), .val (.int (HMod.hMod (p3 &&& (2147483647 : Int32)) (5 : Int32))), .val (.ref pp), .val (.ref qq), .val (.ref rr), .val (.int bpq), .val (.int bqp), .val (.int bqr), .val (.int bpr), .val (.int bpp), .val (.int (1 : Int32))]) rfl ?_
    show Steps p.tables e below (T11.setTop (mkF m 112 #[.val (.int p1), .val (.int p2), .val (.int p3), .val (.int (HMod.hMod (p1 &&& (2147483647 : Int32)) (5 : Int32))), .val (.int (HMod.hMod (p2 &&& (2147483647 : Int32)) (5 : Int32))), .val (.int (HMod.hMod (p3 &&& (2147483647 : Int32)) (5 : Int32))), .val (.ref pp), .val (.ref qq), .val (.ref rr), .val (.int bpq), .val (.int bqp), .val (.int bqr), .val (.int bpr), .val (.int bpp), .val (.int (1 : Int32))] [])) _
    refine XS.iload X11.here hx rfl (hb hby at_112) rfl ?_
    show Steps p.tables e below (T11.setTop (mkF m 114 #[.val (.int p1), .val (.int p2), .val (.int p3), .val (.int (HMod.hMod (p1 &&& (2147483647 : Int32)) (5 : Int32))), .val (.int (HMod.hMod (p2 &&& (2147483647 : Int32)) (5 : Int32))), .val (.int (HMod.hMod (p3 &&& (2147483647 : Int32)) (5 : Int32))), .val (.ref pp), .val (.ref qq), .val (.ref rr), .val (.int bpq), .val (.int bqp), .val (.int bqr), .val (.int bpr), .val (.int bpp), .val (.int (1 : Int32))] [(.int bpq)])) _
    refine XS.iload X11.here hx rfl (hb hby at_114) rfl ?_
    show Steps p.tables e below (T11.setTop (mkF m 116 #[.val (.int p1), .val (.int p2), .val (.int p3), .val (.int (HMod.hMod (p1 &&& (2147483647 : Int32)) (5 : Int32))), .val (.int (HMod.hMod (p2 &&& (2147483647 : Int32)) (5 : Int32))), .val (.int (HMod.hMod (p3 &&& (2147483647 : Int32)) (5 : Int32))), .val (.ref pp), .val (.ref qq), .val (.ref rr), .val (.int bpq), .val (.int bqp), .val (.int bqr), .val (.int bpr), .val (.int bpp), .val (.int (1 : Int32))] [(.int (1 : Int32)), (.int bpq)])) _
    refine XS.icmpYes X11.here hx rfl (pc0 := 116) (pc' := 121) rfl (hb hby at_116) rfl (teq hx1).1 (by decide) (by decide) ?_
    show Steps p.tables e below (T11.setTop (mkF m 121 #[.val (.int p1), .val (.int p2), .val (.int p3), .val (.int (HMod.hMod (p1 &&& (2147483647 : Int32)) (5 : Int32))), .val (.int (HMod.hMod (p2 &&& (2147483647 : Int32)) (5 : Int32))), .val (.int (HMod.hMod (p3 &&& (2147483647 : Int32)) (5 : Int32))), .val (.ref pp), .val (.ref qq), .val (.ref rr), .val (.int bpq), .val (.int bqp), .val (.int bqr), .val (.int bpr), .val (.int bpp), .val (.int (1 : Int32))] [])) _
    refine XS.iload X11.here hx rfl (hb hby at_121) rfl ?_
    show Steps p.tables e below (T11.setTop (mkF m 123 #[.val (.int p1), .val (.int p2), .val (.int p3), .val (.int (HMod.hMod (p1 &&& (2147483647 : Int32)) (5 : Int32))), .val (.int (HMod.hMod (p2 &&& (2147483647 : Int32)) (5 : Int32))), .val (.int (HMod.hMod (p3 &&& (2147483647 : Int32)) (5 : Int32))), .val (.ref pp), .val (.ref qq), .val (.ref rr), .val (.int bpq), .val (.int bqp), .val (.int bqr), .val (.int bpr), .val (.int bpp), .val (.int (1 : Int32))] [(.int bpp)])) _
    refine XS.ifYes X11.here hx rfl (pc0 := 123) (pc' := 128) rfl (hb hby at_123) rfl ((if0 _ _).trans (feq hx2).2) (by decide) (by decide) ?_
    show Steps p.tables e below (T11.setTop (mkF m 128 #[.val (.int p1), .val (.int p2), .val (.int p3), .val (.int (HMod.hMod (p1 &&& (2147483647 : Int32)) (5 : Int32))), .val (.int (HMod.hMod (p2 &&& (2147483647 : Int32)) (5 : Int32))), .val (.int (HMod.hMod (p3 &&& (2147483647 : Int32)) (5 : Int32))), .val (.ref pp), .val (.ref qq), .val (.ref rr), .val (.int bpq), .val (.int bqp), .val (.int bqr), .val (.int bpr), .val (.int bpp), .val (.int (1 : Int32))] [])) _
    refine XS.iload X11.here hx rfl (hb hby at_128) rfl ?_
    show Steps p.tables e below (T11.setTop (mkF m 130 #[.val (.int p1), .val (.int p2), .val (.int p3), .val (.int (HMod.hMod (p1 &&& (2147483647 : Int32)) (5 : Int32))), .val (.int (HMod.hMod (p2 &&& (2147483647 : Int32)) (5 : Int32))), .val (.int (HMod.hMod (p3 &&& (2147483647 : Int32)) (5 : Int32))), .val (.ref pp), .val (.ref qq), .val (.ref rr), .val (.int bpq), .val (.int bqp), .val (.int bqr), .val (.int bpr), .val (.int bpp), .val (.int (1 : Int32))] [(.int bpq)])) _
    refine XS.ifNo X11.here hx rfl (hb hby at_130) rfl ((if0 _ _).trans (feq hx3).1) ?_
    show Steps p.tables e below (T11.setTop (mkF m 133 #[.val (.int p1), .val (.int p2), .val (.int p3), .val (.int (HMod.hMod (p1 &&& (2147483647 : Int32)) (5 : Int32))), .val (.int (HMod.hMod (p2 &&& (2147483647 : Int32)) (5 : Int32))), .val (.int (HMod.hMod (p3 &&& (2147483647 : Int32)) (5 : Int32))), .val (.ref pp), .val (.ref qq), .val (.ref rr), .val (.int bpq), .val (.int bqp), .val (.int bqr), .val (.int bpr), .val (.int bpp), .val (.int (1 : Int32))] [])) _
    refine XS.iload X11.here hx rfl (hb hby at_133) rfl ?_
    show Steps p.tables e below (T11.setTop (mkF m 135 #[.val (.int p1), .val (.int p2), .val (.int p3), .val (.int (HMod.hMod (p1 &&& (2147483647 : Int32)) (5 : Int32))), .val (.int (HMod.hMod (p2 &&& (2147483647 : Int32)) (5 : Int32))), .val (.int (HMod.hMod (p3 &&& (2147483647 : Int32)) (5 : Int32))), .val (.ref pp), .val (.ref qq), .val (.ref rr), .val (.int bpq), .val (.int bqp), .val (.int bqr), .val (.int bpr), .val (.int bpp), .val (.int (1 : Int32))] [(.int bqp)])) _
    refine XS.ifNo X11.here hx rfl (hb hby at_135) rfl ((if0 _ _).trans (feq hx4).1) ?_
    show Steps p.tables e below (T11.setTop (mkF m 138 #[.val (.int p1), .val (.int p2), .val (.int p3), .val (.int (HMod.hMod (p1 &&& (2147483647 : Int32)) (5 : Int32))), .val (.int (HMod.hMod (p2 &&& (2147483647 : Int32)) (5 : Int32))), .val (.int (HMod.hMod (p3 &&& (2147483647 : Int32)) (5 : Int32))), .val (.ref pp), .val (.ref qq), .val (.ref rr), .val (.int bpq), .val (.int bqp), .val (.int bqr), .val (.int bpr), .val (.int bpp), .val (.int (1 : Int32))] [])) _
    refine XS.aload X11.here hx rfl (hb hby at_138) rfl rfl ?_
    show Steps p.tables e below (T11.setTop (mkF m 140 #[.val (.int p1), .val (.int p2), .val (.int p3), .val (.int (HMod.hMod (p1 &&& (2147483647 : Int32)) (5 : Int32))), .val (.int (HMod.hMod (p2 &&& (2147483647 : Int32)) (5 : Int32))), .val (.int (HMod.hMod (p3 &&& (2147483647 : Int32)) (5 : Int32))), .val (.ref pp), .val (.ref qq), .val (.ref rr), .val (.int bpq), .val (.int bqp), .val (.int bqr), .val (.int bpr), .val (.int bpp), .val (.int (1 : Int32))] [(.ref pp)])) _
    refine XS.aload X11.here hx rfl (hb hby at_140) rfl rfl ?_
    show Steps p.tables e below (T11.setTop (mkF m 142 #[.val (.int p1), .val (.int p2), .val (.int p3), .val (.int (HMod.hMod (p1 &&& (2147483647 : Int32)) (5 : Int32))), .val (.int (HMod.hMod (p2 &&& (2147483647 : Int32)) (5 : Int32))), .val (.int (HMod.hMod (p3 &&& (2147483647 : Int32)) (5 : Int32))), .val (.ref pp), .val (.ref qq), .val (.ref rr), .val (.int bpq), .val (.int bqp), .val (.int bqr), .val (.int bpr), .val (.int bpp), .val (.int (1 : Int32))] [(.ref qq), (.ref pp)])) _
    refine Jvm.RoadKit.acmp (g := (mkF m 142 #[.val (.int p1), .val (.int p2), .val (.int p3), .val (.int (HMod.hMod (p1 &&& (2147483647 : Int32)) (5 : Int32))), .val (.int (HMod.hMod (p2 &&& (2147483647 : Int32)) (5 : Int32))), .val (.int (HMod.hMod (p3 &&& (2147483647 : Int32)) (5 : Int32))), .val (.ref pp), .val (.ref qq), .val (.ref rr), .val (.int bpq), .val (.int bqp), .val (.int bqr), .val (.int bpr), .val (.int bpp), .val (.int (1 : Int32))] [(.ref qq), (.ref pp)])) X11 hx rfl rfl rfl (pc0 := 142) (pc' := 147) (same := true) rfl (hb hby at_142) rfl (decide_eq_true (congrArg Value.ref ha142)) (by decide) (by decide) ?_
    show Steps p.tables e below (T11.setTop (mkF m 147 #[.val (.int p1), .val (.int p2), .val (.int p3), .val (.int (HMod.hMod (p1 &&& (2147483647 : Int32)) (5 : Int32))), .val (.int (HMod.hMod (p2 &&& (2147483647 : Int32)) (5 : Int32))), .val (.int (HMod.hMod (p3 &&& (2147483647 : Int32)) (5 : Int32))), .val (.ref pp), .val (.ref qq), .val (.ref rr), .val (.int bpq), .val (.int bqp), .val (.int bqr), .val (.int bpr), .val (.int bpp), .val (.int (1 : Int32))] [])) _
    refine XS.iload X11.here hx rfl (hb hby at_147) rfl ?_
    show Steps p.tables e below (T11.setTop (mkF m 149 #[.val (.int p1), .val (.int p2), .val (.int p3), .val (.int (HMod.hMod (p1 &&& (2147483647 : Int32)) (5 : Int32))), .val (.int (HMod.hMod (p2 &&& (2147483647 : Int32)) (5 : Int32))), .val (.int (HMod.hMod (p3 &&& (2147483647 : Int32)) (5 : Int32))), .val (.ref pp), .val (.ref qq), .val (.ref rr), .val (.int bpq), .val (.int bqp), .val (.int bqr), .val (.int bpr), .val (.int bpp), .val (.int (1 : Int32))] [(.int bpq)])) _
    refine XS.ifNo X11.here hx rfl (hb hby at_149) rfl ((if0 _ _).trans (feq hx5).1) ?_
    show Steps p.tables e below (T11.setTop (mkF m 152 #[.val (.int p1), .val (.int p2), .val (.int p3), .val (.int (HMod.hMod (p1 &&& (2147483647 : Int32)) (5 : Int32))), .val (.int (HMod.hMod (p2 &&& (2147483647 : Int32)) (5 : Int32))), .val (.int (HMod.hMod (p3 &&& (2147483647 : Int32)) (5 : Int32))), .val (.ref pp), .val (.ref qq), .val (.ref rr), .val (.int bpq), .val (.int bqp), .val (.int bqr), .val (.int bpr), .val (.int bpp), .val (.int (1 : Int32))] [])) _
    refine XS.iload X11.here hx rfl (hb hby at_152) rfl ?_
    show Steps p.tables e below (T11.setTop (mkF m 154 #[.val (.int p1), .val (.int p2), .val (.int p3), .val (.int (HMod.hMod (p1 &&& (2147483647 : Int32)) (5 : Int32))), .val (.int (HMod.hMod (p2 &&& (2147483647 : Int32)) (5 : Int32))), .val (.int (HMod.hMod (p3 &&& (2147483647 : Int32)) (5 : Int32))), .val (.ref pp), .val (.ref qq), .val (.ref rr), .val (.int bpq), .val (.int bqp), .val (.int bqr), .val (.int bpr), .val (.int bpp), .val (.int (1 : Int32))] [(.int bqr)])) _
    refine XS.ifYes X11.here hx rfl (pc0 := 154) (pc' := 164) rfl (hb hby at_154) rfl ((if0 _ _).trans (teq hx6).1) (by decide) (by decide) ?_
    show Steps p.tables e below (T11.setTop (mkF m 164 #[.val (.int p1), .val (.int p2), .val (.int p3), .val (.int (HMod.hMod (p1 &&& (2147483647 : Int32)) (5 : Int32))), .val (.int (HMod.hMod (p2 &&& (2147483647 : Int32)) (5 : Int32))), .val (.int (HMod.hMod (p3 &&& (2147483647 : Int32)) (5 : Int32))), .val (.ref pp), .val (.ref qq), .val (.ref rr), .val (.int bpq), .val (.int bqp), .val (.int bqr), .val (.int bpr), .val (.int bpp), .val (.int (1 : Int32))] [])) _
    refine XS.iconst X11.here hx rfl (hb hby at_164) ?_
    show Steps p.tables e below (T11.setTop (mkF m 165 #[.val (.int p1), .val (.int p2), .val (.int p3), .val (.int (HMod.hMod (p1 &&& (2147483647 : Int32)) (5 : Int32))), .val (.int (HMod.hMod (p2 &&& (2147483647 : Int32)) (5 : Int32))), .val (.int (HMod.hMod (p3 &&& (2147483647 : Int32)) (5 : Int32))), .val (.ref pp), .val (.ref qq), .val (.ref rr), .val (.int bpq), .val (.int bqp), .val (.int bqr), .val (.int bpr), .val (.int bpp), .val (.int (1 : Int32))] [(.int (1 : Int32))])) _
    exact retN X11 hx (t := .boolean) Bd.returns (by simp) (hb hby at_165) hr
  · show Q0A1 Z p1 p2 p3 h0 n0 _ T11.heap _
    exact ⟨rfl, N11⟩
def Q0A2 (Z : State) (p1 : Int32) (p2 : Int32) (p3 : Int32) (h0 : Heap) (n0 : Nat) (v : Option Value) (h : Heap) (L : List Loc) : Prop := v = some (.int (1 : Int32)) ∧ Fr n0 L
set_option maxRecDepth 65536 in
set_option maxHeartbeats 40000000 in
theorem rm0A2 (l : Launch) (Z : State) (a0 : Array Value) (hw : ∀ d ∈ tables_1, d.before a0 Z = true) (ws : List Jvm.Cond) (p1 : Int32) (p2 : Int32) (p3 : Int32) (u1 : Addr) (u2 : Addr) (u3 : Addr) (u4 : Addr) (u5 : Addr) (pp : Addr) (qq : Addr) (rr : Addr) (Cp : String) (Cq : String) (bpq : Int32) (bqp : Int32) (bqr : Int32) (bpr : Int32) (bpp : Int32) (h0 : Heap) (n0 : Nat) (Z0 : n0 ≤ h0.size) (S_STRING : Sta Z h0 "com/example/nereus/nereus/Domain" "STRING" "Lcom/example/nereus/nereus/Domain;" (.ref u1)) (S_INTEGER : Sta Z h0 "com/example/nereus/nereus/Domain" "INTEGER" "Lcom/example/nereus/nereus/Domain;" (.ref u2)) (S_DECIMAL : Sta Z h0 "com/example/nereus/nereus/Domain" "DECIMAL" "Lcom/example/nereus/nereus/Domain;" (.ref u3)) (S_BOOLEAN : Sta Z h0 "com/example/nereus/nereus/Domain" "BOOLEAN" "Lcom/example/nereus/nereus/Domain;" (.ref u4)) (S_DATETIME : Sta Z h0 "com/example/nereus/nereus/Domain" "DATETIME" "Lcom/example/nereus/nereus/Domain;" (.ref u5)) (E_u1 : Exa Z h0 u1 "com/example/nereus/nereus/Domain$1") (E_u2 : Exa Z h0 u2 "com/example/nereus/nereus/Domain$2") (E_u3 : Exa Z h0 u3 "com/example/nereus/nereus/Domain$3") (E_u4 : Exa Z h0 u4 "com/example/nereus/nereus/Domain$4") (E_u5 : Exa Z h0 u5 "com/example/nereus/nereus/Domain$5") (E_pp : Exa Z h0 pp Cp) (E_qq : Exa Z h0 qq Cq) (sel_p : (Jvm.Cond.selects Cp (⟨"com/example/nereus/nereus/Domain", "includes", "(Lcom/example/nereus/nereus/Domain;)Z"⟩ : MethodName) (⟨"com/example/nereus/nereus/Domain", "includes", "(Lcom/example/nereus/nereus/Domain;)Z"⟩ : MethodName)).before a0 Z = true) (sel_q : (Jvm.Cond.selects Cq (⟨"com/example/nereus/nereus/Domain", "includes", "(Lcom/example/nereus/nereus/Domain;)Z"⟩ : MethodName) (⟨"com/example/nereus/nereus/Domain", "includes", "(Lcom/example/nereus/nereus/Domain;)Z"⟩ : MethodName)).before a0 Z = true) (n1 : ¬ (HMod.hMod (p1 &&& (2147483647 : Int32)) (5 : Int32)) < 0) (m1 : (HMod.hMod (p1 &&& (2147483647 : Int32)) (5 : Int32)) < 5) (v1 : ([.ref u1, .ref u2, .ref u3, .ref u4, .ref u5] : List Value).getD (HMod.hMod (p1 &&& (2147483647 : Int32)) (5 : Int32)).toNatClampNeg .null = .ref pp) (n2 : ¬ (HMod.hMod (p2 &&& (2147483647 : Int32)) (5 : Int32)) < 0) (m2 : (HMod.hMod (p2 &&& (2147483647 : Int32)) (5 : Int32)) < 5) (v2 : ([.ref u1, .ref u2, .ref u3, .ref u4, .ref u5] : List Value).getD (HMod.hMod (p2 &&& (2147483647 : Int32)) (5 : Int32)).toNatClampNeg .null = .ref qq) (n3 : ¬ (HMod.hMod (p3 &&& (2147483647 : Int32)) (5 : Int32)) < 0) (m3 : (HMod.hMod (p3 &&& (2147483647 : Int32)) (5 : Int32)) < 5) (v3 : ([.ref u1, .ref u2, .ref u3, .ref u4, .ref u5] : List Value).getD (HMod.hMod (p3 &&& (2147483647 : Int32)) (5 : Int32)).toNatClampNeg .null = .ref rr) (t_bpq : (pp = qq ∨ (pp = u3 ∧ qq = u2)) → bpq = 1) (f_bpq : ¬ (pp = qq ∨ (pp = u3 ∧ qq = u2)) → bpq = 0) (t_bqp : (qq = pp ∨ (qq = u3 ∧ pp = u2)) → bqp = 1) (f_bqp : ¬ (qq = pp ∨ (qq = u3 ∧ pp = u2)) → bqp = 0) (t_bqr : (qq = rr ∨ (qq = u3 ∧ rr = u2)) → bqr = 1) (f_bqr : ¬ (qq = rr ∨ (qq = u3 ∧ rr = u2)) → bqr = 0) (t_bpr : (pp = rr ∨ (pp = u3 ∧ rr = u2)) → bpr = 1) (f_bpr : ¬ (pp = rr ∨ (pp = u3 ∧ rr = u2)) → bpr = 0) (t_bpp : (pp = pp ∨ (pp = u3 ∧ pp = u2)) → bpp = 1) (f_bpp : ¬ (pp = pp ∨ (pp = u3 ∧ pp = u2)) → bpp = 0) (hx1 : bpq = (1 : Int32)) (hx2 : ¬ (bpp = (0 : Int32))) (hx3 : ¬ (bpq = (0 : Int32))) (hx4 : ¬ (bqp = (0 : Int32))) (hx5 : ¬ (bpq = (0 : Int32))) (hx6 : ¬ (bqr = (0 : Int32))) (hx7 : ¬ (bpr = (0 : Int32))) (hc91 : (HMod.hMod (p1 &&& (2147483647 : Int32)) (5 : Int32)) = (HMod.hMod (p2 &&& (2147483647 : Int32)) (5 : Int32))) (ha142 : pp = qq) :
    MetFree l x (head1 (Jvm.Cond.code x code maxLocals ret :: ws) room_1) (fun a U => a = #[(.int p1), (.int p2), (.int p3)] ∧ Z.Warmed39 U.vm ∧ U.heap = h0) (fun _ _ _ _ _ => True) (fun _ U o U' => ∃ v L, o = .returned v ∧ Q0A2 Z p1 p2 p3 h0 n0 v U'.heap L ∧ FrameEnd U o U' L room_1.cells room_1.slots) := by
  refine MetFree.of_bodySF (plainFor_of_name pn_0) hisR ?_
  intro p e s m args below meth c s₁ Bd hml0 hP hK
  obtain ⟨rfl, hZ, hh⟩ := hP
  have hx := Bd.exec
  have hby := Bd.bytes
  have hml : c.maxLocals = 15 := hml0
  have hown : s.vm.findClass "com/example/nereus/nereus/DomainIncludesPinLaw" = some m.cls := findClass_of_methodNamed Bd.named
  have hnm := (name_of_methodNamed Bd.named Bd.method).1
  have X0 : Stand p l e room_1 s m #[(.int p1), (.int p2), (.int p3)] below meth c s₁ [] 0 0 := Stand.of_body Bd
  have e0 : s₁.heap = h0 := by rw [← hh, Bd.state]; rfl
  have N0 := Fr.nil n0
  have pre0 : ∀ t, Steps p.tables e below (s₁.setTop (mkF m 0 #[.val (.int p1), .val (.int p2), .val (.int p3), .unset, .unset, .unset, .unset, .unset, .unset, .unset, .unset, .unset, .unset, .unset, .unset] [])) t → Steps p.tables e below (s₁.setTop (entryFrame m #[(.int p1), (.int p2), (.int p3)] maxLocals)) t := fun t k => castTop (ef_0 m p1 p2 p3) k
  obtain ⟨_, _, ⟨T4, L4, k4, n4⟩, -, X4, ⟨Lc4, hQ4, l4, y4, z4⟩, st4⟩ := Jvm.LawKit.callS X0 hx (y := (⟨"com/example/nereus/nereus/DomainIncludesPinLaw", "pick", "(I)Lcom/example/nereus/nereus/Domain;"⟩ : MethodName)) hown (mvT hZ (hw _ (List.mem_of_getElem? (i := 1) rfl))) (mvT hZ (hw _ (List.mem_of_getElem? (i := 2) rfl))) (mvT hZ (hw _ (List.mem_of_getElem? (i := 3) rfl))) (mvT hZ (hw _ (List.mem_of_getElem? (i := 4) rfl))) (by decide) (backOf (W := 0) (rm1 l Z a0 hw [] (HMod.hMod (p1 &&& (2147483647 : Int32)) (5 : Int32)) u1 u2 u3 u4 u5 pp h0 n0 Z0 S_STRING S_INTEGER S_DECIMAL S_BOOLEAN S_DATETIME E_u1 E_u2 E_u3 E_u4 E_u5 n1 m1 v1) hZ (hw _ (List.mem_of_getElem? (i := 4) rfl)) (hw _ (List.mem_of_getElem? (i := 3) rfl)) (by decide) (by decide)) (g := (mkF m 24 #[.val (.int p1), .val (.int p2), .val (.int p3), .val (.int (HMod.hMod (p1 &&& (2147483647 : Int32)) (5 : Int32))), .val (.int (HMod.hMod (p2 &&& (2147483647 : Int32)) (5 : Int32))), .val (.int (HMod.hMod (p3 &&& (2147483647 : Int32)) (5 : Int32))), .unset, .unset, .unset, .unset, .unset, .unset, .unset, .unset, .unset] [(.int (HMod.hMod (p1 &&& (2147483647 : Int32)) (5 : Int32)))])) rfl (by rw [hml]; rfl) (argsL := [(.int (HMod.hMod (p1 &&& (2147483647 : Int32)) (5 : Int32)))]) (rest := []) (lenOf pd_0_0 rfl) rfl (by show 2 * 0 + _ ≤ _; exact Nat.le_of_eq rfl) (hb hby at_24) (fun _ _ => ⟨rfl, e0, (Nat.le_of_ble_eq_true rfl), (Nat.le_of_ble_eq_true rfl)⟩)
  dsimp only [Pt.U, Pt.locs, Pt.cells, Pt.slots] at X4 l4 y4 z4 st4 hQ4
  subst l4 y4 z4
  obtain ⟨rfl, N4q, X4x⟩ := hQ4
  replace S_STRING := S_STRING.ext X4x
  replace S_INTEGER := S_INTEGER.ext X4x
  replace S_DECIMAL := S_DECIMAL.ext X4x
  replace S_BOOLEAN := S_BOOLEAN.ext X4x
  replace S_DATETIME := S_DATETIME.ext X4x
  replace E_u1 := E_u1.ext X4x
  replace E_u2 := E_u2.ext X4x
  replace E_u3 := E_u3.ext X4x
  replace E_u4 := E_u4.ext X4x
  replace E_u5 := E_u5.ext X4x
  replace E_pp := E_pp.ext X4x
  replace E_qq := E_qq.ext X4x
  replace Z0 := Nat.le_trans Z0 X4x.1
  have N4 := Fr.app N0 N4q
  obtain ⟨_, _, ⟨T5, L5, k5, n5⟩, -, X5, ⟨Lc5, hQ5, l5, y5, z5⟩, st5⟩ := Jvm.LawKit.callS X4 hx (y := (⟨"com/example/nereus/nereus/DomainIncludesPinLaw", "pick", "(I)Lcom/example/nereus/nereus/Domain;"⟩ : MethodName)) hown (mvT hZ (hw _ (List.mem_of_getElem? (i := 1) rfl))) (mvT hZ (hw _ (List.mem_of_getElem? (i := 2) rfl))) (mvT hZ (hw _ (List.mem_of_getElem? (i := 3) rfl))) (mvT hZ (hw _ (List.mem_of_getElem? (i := 4) rfl))) (by decide) (backOf (W := 0) (rm1 l Z a0 hw [] (HMod.hMod (p2 &&& (2147483647 : Int32)) (5 : Int32)) u1 u2 u3 u4 u5 qq T4.heap n0 Z0 S_STRING S_INTEGER S_DECIMAL S_BOOLEAN S_DATETIME E_u1 E_u2 E_u3 E_u4 E_u5 n2 m2 v2) hZ (hw _ (List.mem_of_getElem? (i := 4) rfl)) (hw _ (List.mem_of_getElem? (i := 3) rfl)) (by decide) (by decide)) (g := (mkF m 31 #[.val (.int p1), .val (.int p2), .val (.int p3), .val (.int (HMod.hMod (p1 &&& (2147483647 : Int32)) (5 : Int32))), .val (.int (HMod.hMod (p2 &&& (2147483647 : Int32)) (5 : Int32))), .val (.int (HMod.hMod (p3 &&& (2147483647 : Int32)) (5 : Int32))), .val (.ref pp), .unset, .unset, .unset, .unset, .unset, .unset, .unset, .unset] [(.int (HMod.hMod (p2 &&& (2147483647 : Int32)) (5 : Int32)))])) rfl (by rw [hml]; rfl) (argsL := [(.int (HMod.hMod (p2 &&& (2147483647 : Int32)) (5 : Int32)))]) (rest := []) (lenOf pd_0_0 rfl) rfl (by show 2 * 0 + _ ≤ _; exact Nat.le_of_eq rfl) (hb hby at_31) (fun _ _ => ⟨rfl, rfl, (Nat.le_of_ble_eq_true rfl), (Nat.le_of_ble_eq_true rfl)⟩)
  dsimp only [Pt.U, Pt.locs, Pt.cells, Pt.slots] at X5 l5 y5 z5 st5 hQ5
  subst l5 y5 z5
  obtain ⟨rfl, N5q, X5x⟩ := hQ5
  replace S_STRING := S_STRING.ext X5x
  replace S_INTEGER := S_INTEGER.ext X5x
  replace S_DECIMAL := S_DECIMAL.ext X5x
  replace S_BOOLEAN := S_BOOLEAN.ext X5x
  replace S_DATETIME := S_DATETIME.ext X5x
  replace E_u1 := E_u1.ext X5x
  replace E_u2 := E_u2.ext X5x
  replace E_u3 := E_u3.ext X5x
  replace E_u4 := E_u4.ext X5x
  replace E_u5 := E_u5.ext X5x
  replace E_pp := E_pp.ext X5x
  replace E_qq := E_qq.ext X5x
  replace Z0 := Nat.le_trans Z0 X5x.1
  have N5 := Fr.app N4 N5q
  obtain ⟨_, _, ⟨T6, L6, k6, n6⟩, -, X6, ⟨Lc6, hQ6, l6, y6, z6⟩, st6⟩ := Jvm.LawKit.callS X5 hx (y := (⟨"com/example/nereus/nereus/DomainIncludesPinLaw", "pick", "(I)Lcom/example/nereus/nereus/Domain;"⟩ : MethodName)) hown (mvT hZ (hw _ (List.mem_of_getElem? (i := 1) rfl))) (mvT hZ (hw _ (List.mem_of_getElem? (i := 2) rfl))) (mvT hZ (hw _ (List.mem_of_getElem? (i := 3) rfl))) (mvT hZ (hw _ (List.mem_of_getElem? (i := 4) rfl))) (by decide) (backOf (W := 0) (rm1 l Z a0 hw [] (HMod.hMod (p3 &&& (2147483647 : Int32)) (5 : Int32)) u1 u2 u3 u4 u5 rr T5.heap n0 Z0 S_STRING S_INTEGER S_DECIMAL S_BOOLEAN S_DATETIME E_u1 E_u2 E_u3 E_u4 E_u5 n3 m3 v3) hZ (hw _ (List.mem_of_getElem? (i := 4) rfl)) (hw _ (List.mem_of_getElem? (i := 3) rfl)) (by decide) (by decide)) (g := (mkF m 38 #[.val (.int p1), .val (.int p2), .val (.int p3), .val (.int (HMod.hMod (p1 &&& (2147483647 : Int32)) (5 : Int32))), .val (.int (HMod.hMod (p2 &&& (2147483647 : Int32)) (5 : Int32))), .val (.int (HMod.hMod (p3 &&& (2147483647 : Int32)) (5 : Int32))), .val (.ref pp), .val (.ref qq), .unset, .unset, .unset, .unset, .unset, .unset, .unset] [(.int (HMod.hMod (p3 &&& (2147483647 : Int32)) (5 : Int32)))])) rfl (by rw [hml]; rfl) (argsL := [(.int (HMod.hMod (p3 &&& (2147483647 : Int32)) (5 : Int32)))]) (rest := []) (lenOf pd_0_0 rfl) rfl (by show 2 * 0 + _ ≤ _; exact Nat.le_of_eq rfl) (hb hby at_38) (fun _ _ => ⟨rfl, rfl, (Nat.le_of_ble_eq_true rfl), (Nat.le_of_ble_eq_true rfl)⟩)
  dsimp only [Pt.U, Pt.locs, Pt.cells, Pt.slots] at X6 l6 y6 z6 st6 hQ6
  subst l6 y6 z6
  obtain ⟨rfl, N6q, X6x⟩ := hQ6
  replace S_STRING := S_STRING.ext X6x
  replace S_INTEGER := S_INTEGER.ext X6x
  replace S_DECIMAL := S_DECIMAL.ext X6x
  replace S_BOOLEAN := S_BOOLEAN.ext X6x
  replace S_DATETIME := S_DATETIME.ext X6x
  replace E_u1 := E_u1.ext X6x
  replace E_u2 := E_u2.ext X6x
  replace E_u3 := E_u3.ext X6x
  replace E_u4 := E_u4.ext X6x
  replace E_u5 := E_u5.ext X6x
  replace E_pp := E_pp.ext X6x
  replace E_qq := E_qq.ext X6x
  replace Z0 := Nat.le_trans Z0 X6x.1
  have N6 := Fr.app N5 N6q
  obtain ⟨cq7, kq7, q7a, q7b, q7c⟩ := isOf hZ rfl E_pp
  obtain ⟨_, _, ⟨T7, L7, k7, n7⟩, -, X7, ⟨Lc7, hQ7, l7, y7, z7⟩, st7⟩ := X6.virtualBack hx (y := (⟨"com/example/nereus/nereus/Domain", "includes", "(Lcom/example/nereus/nereus/Domain;)Z"⟩ : MethodName)) (z := (⟨"com/example/nereus/nereus/Domain", "includes", "(Lcom/example/nereus/nereus/Domain;)Z"⟩ : MethodName)) hown (mvT hZ (hw _ (List.mem_of_getElem? (i := 23) rfl))) (mvT hZ (hw _ (List.mem_of_getElem? (i := 24) rfl))) (notFace_of_selects (args := #[]) (mvT hZ sel_p)) (mvT hZ sel_p) (mvT hZ (hw _ (List.mem_of_getElem? (i := 25) rfl))) (by decide) (backOf (W := 0) (rm2g l Z a0 hw [] pp qq u3 u2 bpq T6.heap n0 Z0 S_DECIMAL S_INTEGER t_bpq f_bpq) hZ (hw _ (List.mem_of_getElem? (i := 27) rfl)) (hw _ (List.mem_of_getElem? (i := 8) rfl)) (by decide) (by decide)) q7a q7c (g := (mkF m 47 #[.val (.int p1), .val (.int p2), .val (.int p3), .val (.int (HMod.hMod (p1 &&& (2147483647 : Int32)) (5 : Int32))), .val (.int (HMod.hMod (p2 &&& (2147483647 : Int32)) (5 : Int32))), .val (.int (HMod.hMod (p3 &&& (2147483647 : Int32)) (5 : Int32))), .val (.ref pp), .val (.ref qq), .val (.ref rr), .unset, .unset, .unset, .unset, .unset, .unset] [(.ref qq), (.ref pp)])) rfl (by rw [hml]; rfl) (Steps.refl _) (argsL := [(.ref qq)]) (rest := []) (lenOf pd_0_1 rfl) rfl (by show 2 * 0 + _ ≤ _; exact Nat.le_of_eq rfl) (hb hby at_47) (fun _ _ => ⟨rfl, rfl, (Nat.le_of_ble_eq_true rfl), (Nat.le_of_ble_eq_true rfl)⟩)
  dsimp only [Pt.U, Pt.locs, Pt.cells, Pt.slots] at X7 l7 y7 z7 st7 hQ7
  subst l7 y7 z7
  obtain ⟨rfl, N7q, eq7⟩ := hQ7
  have N7 := Fr.app N6 N7q
  obtain ⟨cq8, kq8, q8a, q8b, q8c⟩ := isOf hZ eq7 E_qq
  obtain ⟨_, _, ⟨T8, L8, k8, n8⟩, -, X8, ⟨Lc8, hQ8, l8, y8, z8⟩, st8⟩ := X7.virtualBack hx (y := (⟨"com/example/nereus/nereus/Domain", "includes", "(Lcom/example/nereus/nereus/Domain;)Z"⟩ : MethodName)) (z := (⟨"com/example/nereus/nereus/Domain", "includes", "(Lcom/example/nereus/nereus/Domain;)Z"⟩ : MethodName)) hown (mvT hZ (hw _ (List.mem_of_getElem? (i := 23) rfl))) (mvT hZ (hw _ (List.mem_of_getElem? (i := 24) rfl))) (notFace_of_selects (args := #[]) (mvT hZ sel_q)) (mvT hZ sel_q) (mvT hZ (hw _ (List.mem_of_getElem? (i := 25) rfl))) (by decide) (backOf (W := 0) (rm2g l Z a0 hw [] qq pp u3 u2 bqp T6.heap n0 Z0 S_DECIMAL S_INTEGER t_bqp f_bqp) hZ (hw _ (List.mem_of_getElem? (i := 27) rfl)) (hw _ (List.mem_of_getElem? (i := 8) rfl)) (by decide) (by decide)) q8a q8c (g := (mkF m 56 #[.val (.int p1), .val (.int p2), .val (.int p3), .val (.int (HMod.hMod (p1 &&& (2147483647 : Int32)) (5 : Int32))), .val (.int (HMod.hMod (p2 &&& (2147483647 : Int32)) (5 : Int32))), .val (.int (HMod.hMod (p3 &&& (2147483647 : Int32)) (5 : Int32))), .val (.ref pp), .val (.ref qq), .val (.ref rr), .val (.int bpq), .unset, .unset, .unset, .unset, .unset] [(.ref pp), (.ref qq)])) rfl (by rw [hml]; rfl) (Steps.refl _) (argsL := [(.ref pp)]) (rest := []) (lenOf pd_0_1 rfl) rfl (by show 2 * 0 + _ ≤ _; exact Nat.le_of_eq rfl) (hb hby at_56) (fun _ _ => ⟨rfl, eq7, (Nat.le_of_ble_eq_true rfl), (Nat.le_of_ble_eq_true rfl)⟩)
  dsimp only [Pt.U, Pt.locs, Pt.cells, Pt.slots] at X8 l8 y8 z8 st8 hQ8
  subst l8 y8 z8
  obtain ⟨rfl, N8q, eq8⟩ := hQ8
  have N8 := Fr.app N7 N8q
  obtain ⟨cq9, kq9, q9a, q9b, q9c⟩ := isOf hZ eq8 E_qq
  obtain ⟨_, _, ⟨T9, L9, k9, n9⟩, -, X9, ⟨Lc9, hQ9, l9, y9, z9⟩, st9⟩ := X8.virtualBack hx (y := (⟨"com/example/nereus/nereus/Domain", "includes", "(Lcom/example/nereus/nereus/Domain;)Z"⟩ : MethodName)) (z := (⟨"com/example/nereus/nereus/Domain", "includes", "(Lcom/example/nereus/nereus/Domain;)Z"⟩ : MethodName)) hown (mvT hZ (hw _ (List.mem_of_getElem? (i := 23) rfl))) (mvT hZ (hw _ (List.mem_of_getElem? (i := 24) rfl))) (notFace_of_selects (args := #[]) (mvT hZ sel_q)) (mvT hZ sel_q) (mvT hZ (hw _ (List.mem_of_getElem? (i := 25) rfl))) (by decide) (backOf (W := 0) (rm2g l Z a0 hw [] qq rr u3 u2 bqr T6.heap n0 Z0 S_DECIMAL S_INTEGER t_bqr f_bqr) hZ (hw _ (List.mem_of_getElem? (i := 27) rfl)) (hw _ (List.mem_of_getElem? (i := 8) rfl)) (by decide) (by decide)) q9a q9c (g := (mkF m 65 #[.val (.int p1), .val (.int p2), .val (.int p3), .val (.int (HMod.hMod (p1 &&& (2147483647 : Int32)) (5 : Int32))), .val (.int (HMod.hMod (p2 &&& (2147483647 : Int32)) (5 : Int32))), .val (.int (HMod.hMod (p3 &&& (2147483647 : Int32)) (5 : Int32))), .val (.ref pp), .val (.ref qq), .val (.ref rr), .val (.int bpq), .val (.int bqp), .unset, .unset, .unset, .unset] [(.ref rr), (.ref qq)])) rfl (by rw [hml]; rfl) (Steps.refl _) (argsL := [(.ref rr)]) (rest := []) (lenOf pd_0_1 rfl) rfl (by show 2 * 0 + _ ≤ _; exact Nat.le_of_eq rfl) (hb hby at_65) (fun _ _ => ⟨rfl, eq8, (Nat.le_of_ble_eq_true rfl), (Nat.le_of_ble_eq_true rfl)⟩)
  dsimp only [Pt.U, Pt.locs, Pt.cells, Pt.slots] at X9 l9 y9 z9 st9 hQ9
  subst l9 y9 z9
  obtain ⟨rfl, N9q, eq9⟩ := hQ9
  have N9 := Fr.app N8 N9q
  obtain ⟨cq10, kq10, q10a, q10b, q10c⟩ := isOf hZ eq9 E_pp
  obtain ⟨_, _, ⟨T10, L10, k10, n10⟩, -, X10, ⟨Lc10, hQ10, l10, y10, z10⟩, st10⟩ := X9.virtualBack hx (y := (⟨"com/example/nereus/nereus/Domain", "includes", "(Lcom/example/nereus/nereus/Domain;)Z"⟩ : MethodName)) (z := (⟨"com/example/nereus/nereus/Domain", "includes", "(Lcom/example/nereus/nereus/Domain;)Z"⟩ : MethodName)) hown (mvT hZ (hw _ (List.mem_of_getElem? (i := 23) rfl))) (mvT hZ (hw _ (List.mem_of_getElem? (i := 24) rfl))) (notFace_of_selects (args := #[]) (mvT hZ sel_p)) (mvT hZ sel_p) (mvT hZ (hw _ (List.mem_of_getElem? (i := 25) rfl))) (by decide) (backOf (W := 0) (rm2g l Z a0 hw [] pp rr u3 u2 bpr T6.heap n0 Z0 S_DECIMAL S_INTEGER t_bpr f_bpr) hZ (hw _ (List.mem_of_getElem? (i := 27) rfl)) (hw _ (List.mem_of_getElem? (i := 8) rfl)) (by decide) (by decide)) q10a q10c (g := (mkF m 74 #[.val (.int p1), .val (.int p2), .val (.int p3), .val (.int (HMod.hMod (p1 &&& (2147483647 : Int32)) (5 : Int32))), .val (.int (HMod.hMod (p2 &&& (2147483647 : Int32)) (5 : Int32))), .val (.int (HMod.hMod (p3 &&& (2147483647 : Int32)) (5 : Int32))), .val (.ref pp), .val (.ref qq), .val (.ref rr), .val (.int bpq), .val (.int bqp), .val (.int bqr), .unset, .unset, .unset] [(.ref rr), (.ref pp)])) rfl (by rw [hml]; rfl) (Steps.refl _) (argsL := [(.ref rr)]) (rest := []) (lenOf pd_0_1 rfl) rfl (by show 2 * 0 + _ ≤ _; exact Nat.le_of_eq rfl) (hb hby at_74) (fun _ _ => ⟨rfl, eq9, (Nat.le_of_ble_eq_true rfl), (Nat.le_of_ble_eq_true rfl)⟩)
  dsimp only [Pt.U, Pt.locs, Pt.cells, Pt.slots] at X10 l10 y10 z10 st10 hQ10
  subst l10 y10 z10
  obtain ⟨rfl, N10q, eq10⟩ := hQ10
  have N10 := Fr.app N9 N10q
  obtain ⟨cq11, kq11, q11a, q11b, q11c⟩ := isOf hZ eq10 E_pp
  obtain ⟨_, _, ⟨T11, L11, k11, n11⟩, -, X11, ⟨Lc11, hQ11, l11, y11, z11⟩, st11⟩ := X10.virtualBack hx (y := (⟨"com/example/nereus/nereus/Domain", "includes", "(Lcom/example/nereus/nereus/Domain;)Z"⟩ : MethodName)) (z := (⟨"com/example/nereus/nereus/Domain", "includes", "(Lcom/example/nereus/nereus/Domain;)Z"⟩ : MethodName)) hown (mvT hZ (hw _ (List.mem_of_getElem? (i := 23) rfl))) (mvT hZ (hw _ (List.mem_of_getElem? (i := 24) rfl))) (notFace_of_selects (args := #[]) (mvT hZ sel_p)) (mvT hZ sel_p) (mvT hZ (hw _ (List.mem_of_getElem? (i := 25) rfl))) (by decide) (backOf (W := 0) (rm2g l Z a0 hw [] pp pp u3 u2 bpp T6.heap n0 Z0 S_DECIMAL S_INTEGER t_bpp f_bpp) hZ (hw _ (List.mem_of_getElem? (i := 27) rfl)) (hw _ (List.mem_of_getElem? (i := 8) rfl)) (by decide) (by decide)) q11a q11c (g := (mkF m 83 #[.val (.int p1), .val (.int p2), .val (.int p3), .val (.int (HMod.hMod (p1 &&& (2147483647 : Int32)) (5 : Int32))), .val (.int (HMod.hMod (p2 &&& (2147483647 : Int32)) (5 : Int32))), .val (.int (HMod.hMod (p3 &&& (2147483647 : Int32)) (5 : Int32))), .val (.ref pp), .val (.ref qq), .val (.ref rr), .val (.int bpq), .val (.int bqp), .val (.int bqr), .val (.int bpr), .unset, .unset] [(.ref pp), (.ref pp)])) rfl (by rw [hml]; rfl) (Steps.refl _) (argsL := [(.ref pp)]) (rest := []) (lenOf pd_0_1 rfl) rfl (by show 2 * 0 + _ ≤ _; exact Nat.le_of_eq rfl) (hb hby at_83) (fun _ _ => ⟨rfl, eq10, (Nat.le_of_ble_eq_true rfl), (Nat.le_of_ble_eq_true rfl)⟩)
  dsimp only [Pt.U, Pt.locs, Pt.cells, Pt.slots] at X11 l11 y11 z11 st11 hQ11
  subst l11 y11 z11
  obtain ⟨rfl, N11q, eq11⟩ := hQ11
  have N11 := Fr.app N10 N11q
  obtain ⟨fs, hr, hrun, hended, hW, hsame⟩ := X11.leave (v := some (.int (1 : Int32))) (fun h => by rw [Bd.returns] at h; cases h)
  refine ⟨_, _, pre0 _ ?_, hrun, hended, _, _, rfl, ?_, ⟨_, rfl⟩, hW, hsame.mono (by decide) (by decide)⟩
  · show Steps p.tables e below (s₁.setTop (mkF m 0 #[.val (.int p1), .val (.int p2), .val (.int p3), .unset, .unset, .unset, .unset, .unset, .unset, .unset, .unset, .unset, .unset, .unset, .unset] [])) _
    refine XS.iloadN X0.here hx rfl (hb hby at_0) rfl ?_
    show Steps p.tables e below (s₁.setTop (mkF m 1 #[.val (.int p1), .val (.int p2), .val (.int p3), .unset, .unset, .unset, .unset, .unset, .unset, .unset, .unset, .unset, .unset, .unset, .unset] [(.int p1)])) _
    refine X0.ldcI hx hown (mvT hZ (hw _ (List.mem_of_getElem? (i := 0) rfl))) (g := (mkF m 1 #[.val (.int p1), .val (.int p2), .val (.int p3), .unset, .unset, .unset, .unset, .unset, .unset, .unset, .unset, .unset, .unset, .unset, .unset] [(.int p1)])) rfl (hb hby at_1) ?_
    show Steps p.tables e below (s₁.setTop (mkF m 3 #[.val (.int p1), .val (.int p2), .val (.int p3), .unset, .unset, .unset, .unset, .unset, .unset, .unset, .unset, .unset, .unset, .unset, .unset] [(.int (2147483647 : Int32)), (.int p1)])) _
    refine XS.iand X0.here hx rfl (hb hby at_3) rfl ?_
    show Steps p.tables e below (s₁.setTop (mkF m 4 #[.val (.int p1), .val (.int p2), .val (.int p3), .unset, .unset, .unset, .unset, .unset, .unset, .unset, .unset, .unset, .unset, .unset, .unset] [(.int (p1 &&& (2147483647 : Int32)))])) _
    refine XS.iconst X0.here hx rfl (hb hby at_4) ?_
    show Steps p.tables e below (s₁.setTop (mkF m 5 #[.val (.int p1), .val (.int p2), .val (.int p3), .unset, .unset, .unset, .unset, .unset, .unset, .unset, .unset, .unset, .unset, .unset, .unset] [(.int (5 : Int32)), (.int (p1 &&& (2147483647 : Int32)))])) _
    refine iremM X0 hx (g := (mkF m 5 #[.val (.int p1), .val (.int p2), .val (.int p3), .unset, .unset, .unset, .unset, .unset, .unset, .unset, .unset, .unset, .unset, .unset, .unset] [(.int (5 : Int32)), (.int (p1 &&& (2147483647 : Int32)))])) rfl (hb hby at_5) rfl (by decide) ?_
    show Steps p.tables e below (s₁.setTop (mkF m 6 #[.val (.int p1), .val (.int p2), .val (.int p3), .unset, .unset, .unset, .unset, .unset, .unset, .unset, .unset, .unset, .unset, .unset, .unset] [(.int (HMod.hMod (p1 &&& (2147483647 : Int32)) (5 : Int32)))])) _
    refine XS.istoreN X0.here hx rfl (hb hby at_6) rfl (l' := #[.val (.int p1), .val (.int p2), .val (.int p3), .val (.int (HMod.hMod (p1 &&& (2147483647 : Int32)) (5 : Int32))), .unset, .unset, .unset, .unset, .unset, .unset, .unset, .unset, .unset, .unset, .unset]) rfl ?_
    show Steps p.tables e below (s₁.setTop (mkF m 7 #[.val (.int p1), .val (.int p2), .val (.int p3), .val (.int (HMod.hMod (p1 &&& (2147483647 : Int32)) (5 : Int32))), .unset, .unset, .unset, .unset, .unset, .unset, .unset, .unset, .unset, .unset, .unset] [])) _
    refine XS.iloadN X0.here hx rfl (hb hby at_7) rfl ?_
    show Steps p.tables e below (s₁.setTop (mkF m 8 #[.val (.int p1), .val (.int p2), .val (.int p3), .val (.int (HMod.hMod (p1 &&& (2147483647 : Int32)) (5 : Int32))), .unset, .unset, .unset, .unset, .unset, .unset, .unset, .unset, .unset, .unset, .unset] [(.int p2)])) _
    refine X0.ldcI hx hown (mvT hZ (hw _ (List.mem_of_getElem? (i := 0) rfl))) (g := (mkF m 8 #[.val (.int p1), .val (.int p2), .val (.int p3), .val (.int (HMod.hMod (p1 &&& (2147483647 : Int32)) (5 : Int32))), .unset, .unset, .unset, .unset, .unset, .unset, .unset, .unset, .unset, .unset, .unset] [(.int p2)])) rfl (hb hby at_8) ?_
    show Steps p.tables e below (s₁.setTop (mkF m 10 #[.val (.int p1), .val (.int p2), .val (.int p3), .val (.int (HMod.hMod (p1 &&& (2147483647 : Int32)) (5 : Int32))), .unset, .unset, .unset, .unset, .unset, .unset, .unset, .unset, .unset, .unset, .unset] [(.int (2147483647 : Int32)), (.int p2)])) _
    refine XS.iand X0.here hx rfl (hb hby at_10) rfl ?_
    show Steps p.tables e below (s₁.setTop (mkF m 11 #[.val (.int p1), .val (.int p2), .val (.int p3), .val (.int (HMod.hMod (p1 &&& (2147483647 : Int32)) (5 : Int32))), .unset, .unset, .unset, .unset, .unset, .unset, .unset, .unset, .unset, .unset, .unset] [(.int (p2 &&& (2147483647 : Int32)))])) _
    refine XS.iconst X0.here hx rfl (hb hby at_11) ?_
    show Steps p.tables e below (s₁.setTop (mkF m 12 #[.val (.int p1), .val (.int p2), .val (.int p3), .val (.int (HMod.hMod (p1 &&& (2147483647 : Int32)) (5 : Int32))), .unset, .unset, .unset, .unset, .unset, .unset, .unset, .unset, .unset, .unset, .unset] [(.int (5 : Int32)), (.int (p2 &&& (2147483647 : Int32)))])) _
    refine iremM X0 hx (g := (mkF m 12 #[.val (.int p1), .val (.int p2), .val (.int p3), .val (.int (HMod.hMod (p1 &&& (2147483647 : Int32)) (5 : Int32))), .unset, .unset, .unset, .unset, .unset, .unset, .unset, .unset, .unset, .unset, .unset] [(.int (5 : Int32)), (.int (p2 &&& (2147483647 : Int32)))])) rfl (hb hby at_12) rfl (by decide) ?_
    show Steps p.tables e below (s₁.setTop (mkF m 13 #[.val (.int p1), .val (.int p2), .val (.int p3), .val (.int (HMod.hMod (p1 &&& (2147483647 : Int32)) (5 : Int32))), .unset, .unset, .unset, .unset, .unset, .unset, .unset, .unset, .unset, .unset, .unset] [(.int (HMod.hMod (p2 &&& (2147483647 : Int32)) (5 : Int32)))])) _
    refine XS.istore X0.here hx rfl (hb hby at_13) rfl (l' := #[.val (.int p1), .val (.int p2), .val (.int p3), .val (.int (HMod.hMod (p1 &&& (2147483647 : Int32)) (5 : Int32))), .val (.int (HMod.hMod (p2 &&& (2147483647 : Int32)) (5 : Int32))), .unset, .unset, .unset, .unset, .unset, .unset, .unset, .unset, .unset, .unset]) rfl ?_
    show Steps p.tables e below (s₁.setTop (mkF m 15 #[.val (.int p1), .val (.int p2), .val (.int p3), .val (.int (HMod.hMod (p1 &&& (2147483647 : Int32)) (5 : Int32))), .val (.int (HMod.hMod (p2 &&& (2147483647 : Int32)) (5 : Int32))), .unset, .unset, .unset, .unset, .unset, .unset, .unset, .unset, .unset, .unset] [])) _
    refine XS.iloadN X0.here hx rfl (hb hby at_15) rfl ?_
    show Steps p.tables e below (s₁.setTop (mkF m 16 #[.val (.int p1), .val (.int p2), .val (.int p3), .val (.int (HMod.hMod (p1 &&& (2147483647 : Int32)) (5 : Int32))), .val (.int (HMod.hMod (p2 &&& (2147483647 : Int32)) (5 : Int32))), .unset, .unset, .unset, .unset, .unset, .unset, .unset, .unset, .unset, .unset] [(.int p3)])) _
    refine X0.ldcI hx hown (mvT hZ (hw _ (List.mem_of_getElem? (i := 0) rfl))) (g := (mkF m 16 #[.val (.int p1), .val (.int p2), .val (.int p3), .val (.int (HMod.hMod (p1 &&& (2147483647 : Int32)) (5 : Int32))), .val (.int (HMod.hMod (p2 &&& (2147483647 : Int32)) (5 : Int32))), .unset, .unset, .unset, .unset, .unset, .unset, .unset, .unset, .unset, .unset] [(.int p3)])) rfl (hb hby at_16) ?_
    show Steps p.tables e below (s₁.setTop (mkF m 18 #[.val (.int p1), .val (.int p2), .val (.int p3), .val (.int (HMod.hMod (p1 &&& (2147483647 : Int32)) (5 : Int32))), .val (.int (HMod.hMod (p2 &&& (2147483647 : Int32)) (5 : Int32))), .unset, .unset, .unset, .unset, .unset, .unset, .unset, .unset, .unset, .unset] [(.int (2147483647 : Int32)), (.int p3)])) _
    refine XS.iand X0.here hx rfl (hb hby at_18) rfl ?_
    show Steps p.tables e below (s₁.setTop (mkF m 19 #[.val (.int p1), .val (.int p2), .val (.int p3), .val (.int (HMod.hMod (p1 &&& (2147483647 : Int32)) (5 : Int32))), .val (.int (HMod.hMod (p2 &&& (2147483647 : Int32)) (5 : Int32))), .unset, .unset, .unset, .unset, .unset, .unset, .unset, .unset, .unset, .unset] [(.int (p3 &&& (2147483647 : Int32)))])) _
    refine XS.iconst X0.here hx rfl (hb hby at_19) ?_
    show Steps p.tables e below (s₁.setTop (mkF m 20 #[.val (.int p1), .val (.int p2), .val (.int p3), .val (.int (HMod.hMod (p1 &&& (2147483647 : Int32)) (5 : Int32))), .val (.int (HMod.hMod (p2 &&& (2147483647 : Int32)) (5 : Int32))), .unset, .unset, .unset, .unset, .unset, .unset, .unset, .unset, .unset, .unset] [(.int (5 : Int32)), (.int (p3 &&& (2147483647 : Int32)))])) _
    refine iremM X0 hx (g := (mkF m 20 #[.val (.int p1), .val (.int p2), .val (.int p3), .val (.int (HMod.hMod (p1 &&& (2147483647 : Int32)) (5 : Int32))), .val (.int (HMod.hMod (p2 &&& (2147483647 : Int32)) (5 : Int32))), .unset, .unset, .unset, .unset, .unset, .unset, .unset, .unset, .unset, .unset] [(.int (5 : Int32)), (.int (p3 &&& (2147483647 : Int32)))])) rfl (hb hby at_20) rfl (by decide) ?_
    show Steps p.tables e below (s₁.setTop (mkF m 21 #[.val (.int p1), .val (.int p2), .val (.int p3), .val (.int (HMod.hMod (p1 &&& (2147483647 : Int32)) (5 : Int32))), .val (.int (HMod.hMod (p2 &&& (2147483647 : Int32)) (5 : Int32))), .unset, .unset, .unset, .unset, .unset, .unset, .unset, .unset, .unset, .unset] [(.int (HMod.hMod (p3 &&& (2147483647 : Int32)) (5 : Int32)))])) _
    refine XS.istore X0.here hx rfl (hb hby at_21) rfl (l' := #[.val (.int p1), .val (.int p2), .val (.int p3), .val (.int (HMod.hMod (p1 &&& (2147483647 : Int32)) (5 : Int32))), .val (.int (HMod.hMod (p2 &&& (2147483647 : Int32)) (5 : Int32))), .val (.int (HMod.hMod (p3 &&& (2147483647 : Int32)) (5 : Int32))), .unset, .unset, .unset, .unset, .unset, .unset, .unset, .unset, .unset]) rfl ?_
    show Steps p.tables e below (s₁.setTop (mkF m 23 #[.val (.int p1), .val (.int p2), .val (.int p3), .val (.int (HMod.hMod (p1 &&& (2147483647 : Int32)) (5 : Int32))), .val (.int (HMod.hMod (p2 &&& (2147483647 : Int32)) (5 : Int32))), .val (.int (HMod.hMod (p3 &&& (2147483647 : Int32)) (5 : Int32))), .unset, .unset, .unset, .unset, .unset, .unset, .unset, .unset, .unset] [])) _
    refine XS.iloadN X0.here hx rfl (hb hby at_23) rfl ?_
    show Steps p.tables e below (s₁.setTop (mkF m 24 #[.val (.int p1), .val (.int p2), .val (.int p3), .val (.int (HMod.hMod (p1 &&& (2147483647 : Int32)) (5 : Int32))), .val (.int (HMod.hMod (p2 &&& (2147483647 : Int32)) (5 : Int32))), .val (.int (HMod.hMod (p3 &&& (2147483647 : Int32)) (5 : Int32))), .unset, .unset, .unset, .unset, .unset, .unset, .unset, .unset, .unset] [(.int (HMod.hMod (p1 &&& (2147483647 : Int32)) (5 : Int32)))])) _
    refine st4 _ ?_
    show Steps p.tables e below (T4.setTop (mkF m 27 #[.val (.int p1), .val (.int p2), .val (.int p3), .val (.int (HMod.hMod (p1 &&& (2147483647 : Int32)) (5 : Int32))), .val (.int (HMod.hMod (p2 &&& (2147483647 : Int32)) (5 : Int32))), .val (.int (HMod.hMod (p3 &&& (2147483647 : Int32)) (5 : Int32))), .unset, .unset, .unset, .unset, .unset, .unset, .unset, .unset, .unset] [(.ref pp)])) _
    refine XS.astore X4.here hx rfl (hb hby at_27) rfl rfl (l' := #[.val (.int p1), .val (.int p2), .val (.int p3), .val (.int (HMod.hMod (p1 &&& (2147483647 : Int32)) (5 : Int32))), .val (.int (HMod.hMod (p2 &&& (2147483647 : Int32)) (5 : Int32))), .val (.int (HMod.hMod (p3 &&& (2147483647 : Int32)) (5 : Int32))), .val (.ref pp), .unset, .unset, .unset, .unset, .unset, .unset, .unset, .unset]) rfl ?_
    show Steps p.tables e below (T4.setTop (mkF m 29 #[.val (.int p1), .val (.int p2), .val (.int p3), .val (.int (HMod.hMod (p1 &&& (2147483647 : Int32)) (5 : Int32))), .val (.int (HMod.hMod (p2 &&& (2147483647 : Int32)) (5 : Int32))), .val (.int (HMod.hMod (p3 &&& (2147483647 : Int32)) (5 : Int32))), .val (.ref pp), .unset, .unset, .unset, .unset, .unset, .unset, .unset, .unset] [])) _
    refine XS.iload X4.here hx rfl (hb hby at_29) rfl ?_
    show Steps p.tables e below (T4.setTop (mkF m 31 #[.val (.int p1), .val (.int p2), .val (.int p3), .val (.int (HMod.hMod (p1 &&& (2147483647 : Int32)) (5 : Int32))), .val (.int (HMod.hMod (p2 &&& (2147483647 : Int32)) (5 : Int32))), .val (.int (HMod.hMod (p3 &&& (2147483647 : Int32)) (5 : Int32))), .val (.ref pp), .unset, .unset, .unset, .unset, .unset, .unset, .unset, .unset] [(.int (HMod.hMod (p2 &&& (2147483647 : Int32)) (5 : Int32)))])) _
    refine st5 _ ?_
    show Steps p.tables e below (T5.setTop (mkF m 34 #[.val (.int p1), .val (.int p2), .val (.int p3), .val (.int (HMod.hMod (p1 &&& (2147483647 : Int32)) (5 : Int32))), .val (.int (HMod.hMod (p2 &&& (2147483647 : Int32)) (5 : Int32))), .val (.int (HMod.hMod (p3 &&& (2147483647 : Int32)) (5 : Int32))), .val (.ref pp), .unset, .unset, .unset, .unset, .unset, .unset, .unset, .unset] [(.ref qq)])) _
    refine XS.astore X5.here hx rfl (hb hby at_34) rfl rfl (l' := #[.val (.int p1), .val (.int p2), .val (.int p3), .val (.int (HMod.hMod (p1 &&& (2147483647 : Int32)) (5 : Int32))), .val (.int (HMod.hMod (p2 &&& (2147483647 : Int32)) (5 : Int32))), .val (.int (HMod.hMod (p3 &&& (2147483647 : Int32)) (5 : Int32))), .val (.ref pp), .val (.ref qq), .unset, .unset, .unset, .unset, .unset, .unset, .unset]) rfl ?_
    show Steps p.tables e below (T5.setTop (mkF m 36 #[.val (.int p1), .val (.int p2), .val (.int p3), .val (.int (HMod.hMod (p1 &&& (2147483647 : Int32)) (5 : Int32))), .val (.int (HMod.hMod (p2 &&& (2147483647 : Int32)) (5 : Int32))), .val (.int (HMod.hMod (p3 &&& (2147483647 : Int32)) (5 : Int32))), .val (.ref pp), .val (.ref qq), .unset, .unset, .unset, .unset, .unset, .unset, .unset] [])) _
    refine XS.iload X5.here hx rfl (hb hby at_36) rfl ?_
    show Steps p.tables e below (T5.setTop (mkF m 38 #[.val (.int p1), .val (.int p2), .val (.int p3), .val (.int (HMod.hMod (p1 &&& (2147483647 : Int32)) (5 : Int32))), .val (.int (HMod.hMod (p2 &&& (2147483647 : Int32)) (5 : Int32))), .val (.int (HMod.hMod (p3 &&& (2147483647 : Int32)) (5 : Int32))), .val (.ref pp), .val (.ref qq), .unset, .unset, .unset, .unset, .unset, .unset, .unset] [(.int (HMod.hMod (p3 &&& (2147483647 : Int32)) (5 : Int32)))])) _
    refine st6 _ ?_
    show Steps p.tables e below (T6.setTop (mkF m 41 #[.val (.int p1), .val (.int p2), .val (.int p3), .val (.int (HMod.hMod (p1 &&& (2147483647 : Int32)) (5 : Int32))), .val (.int (HMod.hMod (p2 &&& (2147483647 : Int32)) (5 : Int32))), .val (.int (HMod.hMod (p3 &&& (2147483647 : Int32)) (5 : Int32))), .val (.ref pp), .val (.ref qq), .unset, .unset, .unset, .unset, .unset, .unset, .unset] [(.ref rr)])) _
    refine XS.astore X6.here hx rfl (hb hby at_41) rfl rfl (l' := #[.val (.int p1), .val (.int p2), .val (.int p3), .val (.int (HMod.hMod (p1 &&& (2147483647 : Int32)) (5 : Int32))), .val (.int (HMod.hMod (p2 &&& (2147483647 : Int32)) (5 : Int32))), .val (.int (HMod.hMod (p3 &&& (2147483647 : Int32)) (5 : Int32))), .val (.ref pp), .val (.ref qq), .val (.ref rr), .unset, .unset, .unset, .unset, .unset, .unset]) rfl ?_
    show Steps p.tables e below (T6.setTop (mkF m 43 #[.val (.int p1), .val (.int p2), .val (.int p3), .val (.int (HMod.hMod (p1 &&& (2147483647 : Int32)) (5 : Int32))), .val (.int (HMod.hMod (p2 &&& (2147483647 : Int32)) (5 : Int32))), .val (.int (HMod.hMod (p3 &&& (2147483647 : Int32)) (5 : Int32))), .val (.ref pp), .val (.ref qq), .val (.ref rr), .unset, .unset, .unset, .unset, .unset, .unset] [])) _
    refine XS.aload X6.here hx rfl (hb hby at_43) rfl rfl ?_
    show Steps p.tables e below (T6.setTop (mkF m 45 #[.val (.int p1), .val (.int p2), .val (.int p3), .val (.int (HMod.hMod (p1 &&& (2147483647 : Int32)) (5 : Int32))), .val (.int (HMod.hMod (p2 &&& (2147483647 : Int32)) (5 : Int32))), .val (.int (HMod.hMod (p3 &&& (2147483647 : Int32)) (5 : Int32))), .val (.ref pp), .val (.ref qq), .val (.ref rr), .unset, .unset, .unset, .unset, .unset, .unset] [(.ref pp)])) _
    refine XS.aload X6.here hx rfl (hb hby at_45) rfl rfl ?_
    show Steps p.tables e below (T6.setTop (mkF m 47 #[.val (.int p1), .val (.int p2), .val (.int p3), .val (.int (HMod.hMod (p1 &&& (2147483647 : Int32)) (5 : Int32))), .val (.int (HMod.hMod (p2 &&& (2147483647 : Int32)) (5 : Int32))), .val (.int (HMod.hMod (p3 &&& (2147483647 : Int32)) (5 : Int32))), .val (.ref pp), .val (.ref qq), .val (.ref rr), .unset, .unset, .unset, .unset, .unset, .unset] [(.ref qq), (.ref pp)])) _
    refine st7.trans ?_
    show Steps p.tables e below (T7.setTop (mkF m 50 #[.val (.int p1), .val (.int p2), .val (.int p3), .val (.int (HMod.hMod (p1 &&& (2147483647 : Int32)) (5 : Int32))), .val (.int (HMod.hMod (p2 &&& (2147483647 : Int32)) (5 : Int32))), .val (.int (HMod.hMod (p3 &&& (2147483647 : Int32)) (5 : Int32))), .val (.ref pp), .val (.ref qq), .val (.ref rr), .unset, .unset, .unset, .unset, .unset, .unset] [(.int bpq)])) _
    refine XS.istore X7.here hx rfl (hb hby at_50) rfl (l' := #[.val (.int p1), .val (.int p2), .val (.int p3), .val (.int (HMod.hMod (p1 &&& (2147483647 : Int32)) (5 : Int32))), .val (.int (HMod.hMod (p2 &&& (2147483647 : Int32)) (5 : Int32))), .val (.int (HMod.hMod (p3 &&& (2147483647 : Int32)) (5 : Int32))), .val (.ref pp), .val (.ref qq), .val (.ref rr), .val (.int bpq), .unset, .unset, .unset, .unset, .unset]) rfl ?_
    show Steps p.tables e below (T7.setTop (mkF m 52 #[.val (.int p1), .val (.int p2), .val (.int p3), .val (.int (HMod.hMod (p1 &&& (2147483647 : Int32)) (5 : Int32))), .val (.int (HMod.hMod (p2 &&& (2147483647 : Int32)) (5 : Int32))), .val (.int (HMod.hMod (p3 &&& (2147483647 : Int32)) (5 : Int32))), .val (.ref pp), .val (.ref qq), .val (.ref rr), .val (.int bpq), .unset, .unset, .unset, .unset, .unset] [])) _
    refine XS.aload X7.here hx rfl (hb hby at_52) rfl rfl ?_
    show Steps p.tables e below (T7.setTop (mkF m 54 #[.val (.int p1), .val (.int p2), .val (.int p3), .val (.int (HMod.hMod (p1 &&& (2147483647 : Int32)) (5 : Int32))), .val (.int (HMod.hMod (p2 &&& (2147483647 : Int32)) (5 : Int32))), .val (.int (HMod.hMod (p3 &&& (2147483647 : Int32)) (5 : Int32))), .val (.ref pp), .val (.ref qq), .val (.ref rr), .val (.int bpq), .unset, .unset, .unset, .unset, .unset] [(.ref qq)])) _
    refine XS.aload X7.here hx rfl (hb hby at_54) rfl rfl ?_
    show Steps p.tables e below (T7.setTop (mkF m 56 #[.val (.int p1), .val (.int p2), .val (.int p3), .val (.int (HMod.hMod (p1 &&& (2147483647 : Int32)) (5 : Int32))), .val (.int (HMod.hMod (p2 &&& (2147483647 : Int32)) (5 : Int32))), .val (.int (HMod.hMod (p3 &&& (2147483647 : Int32)) (5 : Int32))), .val (.ref pp), .val (.ref qq), .val (.ref rr), .val (.int bpq), .unset, .unset, .unset, .unset, .unset] [(.ref pp), (.ref qq)])) _
    refine st8.trans ?_
    show Steps p.tables e below (T8.setTop (mkF m 59 #[.val (.int p1), .val (.int p2), .val (.int p3), .val (.int (HMod.hMod (p1 &&& (2147483647 : Int32)) (5 : Int32))), .val (.int (HMod.hMod (p2 &&& (2147483647 : Int32)) (5 : Int32))), .val (.int (HMod.hMod (p3 &&& (2147483647 : Int32)) (5 : Int32))), .val (.ref pp), .val (.ref qq), .val (.ref rr), .val (.int bpq), .unset, .unset, .unset, .unset, .unset] [(.int bqp)])) _
    refine XS.istore X8.here hx rfl (hb hby at_59) rfl (l' := #[.val (.int p1), .val (.int p2), .val (.int p3), .val (.int (HMod.hMod (p1 &&& (2147483647 : Int32)) (5 : Int32))), .val (.int (HMod.hMod (p2 &&& (2147483647 : Int32)) (5 : Int32))), .val (.int (HMod.hMod (p3 &&& (2147483647 : Int32)) (5 : Int32))), .val (.ref pp), .val (.ref qq), .val (.ref rr), .val (.int bpq), .val (.int bqp), .unset, .unset, .unset, .unset]) rfl ?_
    show Steps p.tables e below (T8.setTop (mkF m 61 #[.val (.int p1), .val (.int p2), .val (.int p3), .val (.int (HMod.hMod (p1 &&& (2147483647 : Int32)) (5 : Int32))), .val (.int (HMod.hMod (p2 &&& (2147483647 : Int32)) (5 : Int32))), .val (.int (HMod.hMod (p3 &&& (2147483647 : Int32)) (5 : Int32))), .val (.ref pp), .val (.ref qq), .val (.ref rr), .val (.int bpq), .val (.int bqp), .unset, .unset, .unset, .unset] [])) _
    refine XS.aload X8.here hx rfl (hb hby at_61) rfl rfl ?_
    show Steps p.tables e below (T8.setTop (mkF m 63 #[.val (.int p1), .val (.int p2), .val (.int p3), .val (.int (HMod.hMod (p1 &&& (2147483647 : Int32)) (5 : Int32))), .val (.int (HMod.hMod (p2 &&& (2147483647 : Int32)) (5 : Int32))), .val (.int (HMod.hMod (p3 &&& (2147483647 : Int32)) (5 : Int32))), .val (.ref pp), .val (.ref qq), .val (.ref rr), .val (.int bpq), .val (.int bqp), .unset, .unset, .unset, .unset] [(.ref qq)])) _
    refine XS.aload X8.here hx rfl (hb hby at_63) rfl rfl ?_
    show Steps p.tables e below (T8.setTop (mkF m 65 #[.val (.int p1), .val (.int p2), .val (.int p3), .val (.int (HMod.hMod (p1 &&& (2147483647 : Int32)) (5 : Int32))), .val (.int (HMod.hMod (p2 &&& (2147483647 : Int32)) (5 : Int32))), .val (.int (HMod.hMod (p3 &&& (2147483647 : Int32)) (5 : Int32))), .val (.ref pp), .val (.ref qq), .val (.ref rr), .val (.int bpq), .val (.int bqp), .unset, .unset, .unset, .unset] [(.ref rr), (.ref qq)])) _
    refine st9.trans ?_
    show Steps p.tables e below (T9.setTop (mkF m 68 #[.val (.int p1), .val (.int p2), .val (.int p3), .val (.int (HMod.hMod (p1 &&& (2147483647 : Int32)) (5 : Int32))), .val (.int (HMod.hMod (p2 &&& (2147483647 : Int32)) (5 : Int32))), .val (.int (HMod.hMod (p3 &&& (2147483647 : Int32)) (5 : Int32))), .val (.ref pp), .val (.ref qq), .val (.ref rr), .val (.int bpq), .val (.int bqp), .unset, .unset, .unset, .unset] [(.int bqr)])) _
    refine XS.istore X9.here hx rfl (hb hby at_68) rfl (l' := #[.val (.int p1), .val (.int p2), .val (.int p3), .val (.int (HMod.hMod (p1 &&& (2147483647 : Int32)) (5 : Int32))), .val (.int (HMod.hMod (p2 &&& (2147483647 : Int32)) (5 : Int32))), .val (.int (HMod.hMod (p3 &&& (2147483647 : Int32)) (5 : Int32))), .val (.ref pp), .val (.ref qq), .val (.ref rr), .val (.int bpq), .val (.int bqp), .val (.int bqr), .unset, .unset, .unset]) rfl ?_
    show Steps p.tables e below (T9.setTop (mkF m 70 #[.val (.int p1), .val (.int p2), .val (.int p3), .val (.int (HMod.hMod (p1 &&& (2147483647 : Int32)) (5 : Int32))), .val (.int (HMod.hMod (p2 &&& (2147483647 : Int32)) (5 : Int32))), .val (.int (HMod.hMod (p3 &&& (2147483647 : Int32)) (5 : Int32))), .val (.ref pp), .val (.ref qq), .val (.ref rr), .val (.int bpq), .val (.int bqp), .val (.int bqr), .unset, .unset, .unset] [])) _
    refine XS.aload X9.here hx rfl (hb hby at_70) rfl rfl ?_
    show Steps p.tables e below (T9.setTop (mkF m 72 #[.val (.int p1), .val (.int p2), .val (.int p3), .val (.int (HMod.hMod (p1 &&& (2147483647 : Int32)) (5 : Int32))), .val (.int (HMod.hMod (p2 &&& (2147483647 : Int32)) (5 : Int32))), .val (.int (HMod.hMod (p3 &&& (2147483647 : Int32)) (5 : Int32))), .val (.ref pp), .val (.ref qq), .val (.ref rr), .val (.int bpq), .val (.int bqp), .val (.int bqr), .unset, .unset, .unset] [(.ref pp)])) _
    refine XS.aload X9.here hx rfl (hb hby at_72) rfl rfl ?_
    show Steps p.tables e below (T9.setTop (mkF m 74 #[.val (.int p1), .val (.int p2), .val (.int p3), .val (.int (HMod.hMod (p1 &&& (2147483647 : Int32)) (5 : Int32))), .val (.int (HMod.hMod (p2 &&& (2147483647 : Int32)) (5 : Int32))), .val (.int (HMod.hMod (p3 &&& (2147483647 : Int32)) (5 : Int32))), .val (.ref pp), .val (.ref qq), .val (.ref rr), .val (.int bpq), .val (.int bqp), .val (.int bqr), .unset, .unset, .unset] [(.ref rr), (.ref pp)])) _
    refine st10.trans ?_
    show Steps p.tables e below (T10.setTop (mkF m 77 #[.val (.int p1), .val (.int p2), .val (.int p3), .val (.int (HMod.hMod (p1 &&& (2147483647 : Int32)) (5 : Int32))), .val (.int (HMod.hMod (p2 &&& (2147483647 : Int32)) (5 : Int32))), .val (.int (HMod.hMod (p3 &&& (2147483647 : Int32)) (5 : Int32))), .val (.ref pp), .val (.ref qq), .val (.ref rr), .val (.int bpq), .val (.int bqp), .val (.int bqr), .unset, .unset, .unset] [(.int bpr)])) _
    refine XS.istore X10.here hx rfl (hb hby at_77) rfl (l' := #[.val (.int p1), .val (.int p2), .val (.int p3), .val (.int (HMod.hMod (p1 &&& (2147483647 : Int32)) (5 : Int32))), .val (.int (HMod.hMod (p2 &&& (2147483647 : Int32)) (5 : Int32))), .val (.int (HMod.hMod (p3 &&& (2147483647 : Int32)) (5 : Int32))), .val (.ref pp), .val (.ref qq), .val (.ref rr), .val (.int bpq), .val (.int bqp), .val (.int bqr), .val (.int bpr), .unset, .unset]) rfl ?_
    show Steps p.tables e below (T10.setTop (mkF m 79 #[.val (.int p1), .val (.int p2), .val (.int p3), .val (.int (HMod.hMod (p1 &&& (2147483647 : Int32)) (5 : Int32))), .val (.int (HMod.hMod (p2 &&& (2147483647 : Int32)) (5 : Int32))), .val (.int (HMod.hMod (p3 &&& (2147483647 : Int32)) (5 : Int32))), .val (.ref pp), .val (.ref qq), .val (.ref rr), .val (.int bpq), .val (.int bqp), .val (.int bqr), .val (.int bpr), .unset, .unset] [])) _
    refine XS.aload X10.here hx rfl (hb hby at_79) rfl rfl ?_
    show Steps p.tables e below (T10.setTop (mkF m 81 #[.val (.int p1), .val (.int p2), .val (.int p3), .val (.int (HMod.hMod (p1 &&& (2147483647 : Int32)) (5 : Int32))), .val (.int (HMod.hMod (p2 &&& (2147483647 : Int32)) (5 : Int32))), .val (.int (HMod.hMod (p3 &&& (2147483647 : Int32)) (5 : Int32))), .val (.ref pp), .val (.ref qq), .val (.ref rr), .val (.int bpq), .val (.int bqp), .val (.int bqr), .val (.int bpr), .unset, .unset] [(.ref pp)])) _
    refine XS.aload X10.here hx rfl (hb hby at_81) rfl rfl ?_
    show Steps p.tables e below (T10.setTop (mkF m 83 #[.val (.int p1), .val (.int p2), .val (.int p3), .val (.int (HMod.hMod (p1 &&& (2147483647 : Int32)) (5 : Int32))), .val (.int (HMod.hMod (p2 &&& (2147483647 : Int32)) (5 : Int32))), .val (.int (HMod.hMod (p3 &&& (2147483647 : Int32)) (5 : Int32))), .val (.ref pp), .val (.ref qq), .val (.ref rr), .val (.int bpq), .val (.int bqp), .val (.int bqr), .val (.int bpr), .unset, .unset] [(.ref pp), (.ref pp)])) _
    refine st11.trans ?_
    show Steps p.tables e below (T11.setTop (mkF m 86 #[.val (.int p1), .val (.int p2), .val (.int p3), .val (.int (HMod.hMod (p1 &&& (2147483647 : Int32)) (5 : Int32))), .val (.int (HMod.hMod (p2 &&& (2147483647 : Int32)) (5 : Int32))), .val (.int (HMod.hMod (p3 &&& (2147483647 : Int32)) (5 : Int32))), .val (.ref pp), .val (.ref qq), .val (.ref rr), .val (.int bpq), .val (.int bqp), .val (.int bqr), .val (.int bpr), .unset, .unset] [(.int bpp)])) _
    refine XS.istore X11.here hx rfl (hb hby at_86) rfl (l' := #[.val (.int p1), .val (.int p2), .val (.int p3), .val (.int (HMod.hMod (p1 &&& (2147483647 : Int32)) (5 : Int32))), .val (.int (HMod.hMod (p2 &&& (2147483647 : Int32)) (5 : Int32))), .val (.int (HMod.hMod (p3 &&& (2147483647 : Int32)) (5 : Int32))), .val (.ref pp), .val (.ref qq), .val (.ref rr), .val (.int bpq), .val (.int bqp), .val (.int bqr), .val (.int bpr), .val (.int bpp), .unset]) rfl ?_
    show Steps p.tables e below (T11.setTop (mkF m 88 #[.val (.int p1), .val (.int p2), .val (.int p3), .val (.int (HMod.hMod (p1 &&& (2147483647 : Int32)) (5 : Int32))), .val (.int (HMod.hMod (p2 &&& (2147483647 : Int32)) (5 : Int32))), .val (.int (HMod.hMod (p3 &&& (2147483647 : Int32)) (5 : Int32))), .val (.ref pp), .val (.ref qq), .val (.ref rr), .val (.int bpq), .val (.int bqp), .val (.int bqr), .val (.int bpr), .val (.int bpp), .unset] [])) _
    refine XS.iloadN X11.here hx rfl (hb hby at_88) rfl ?_
    show Steps p.tables e below (T11.setTop (mkF m 89 #[.val (.int p1), .val (.int p2), .val (.int p3), .val (.int (HMod.hMod (p1 &&& (2147483647 : Int32)) (5 : Int32))), .val (.int (HMod.hMod (p2 &&& (2147483647 : Int32)) (5 : Int32))), .val (.int (HMod.hMod (p3 &&& (2147483647 : Int32)) (5 : Int32))), .val (.ref pp), .val (.ref qq), .val (.ref rr), .val (.int bpq), .val (.int bqp), .val (.int bqr), .val (.int bpr), .val (.int bpp), .unset] [(.int (HMod.hMod (p1 &&& (2147483647 : Int32)) (5 : Int32)))])) _
    refine XS.iload X11.here hx rfl (hb hby at_89) rfl ?_
    show Steps p.tables e below (T11.setTop (mkF m 91 #[.val (.int p1), .val (.int p2), .val (.int p3), .val (.int (HMod.hMod (p1 &&& (2147483647 : Int32)) (5 : Int32))), .val (.int (HMod.hMod (p2 &&& (2147483647 : Int32)) (5 : Int32))), .val (.int (HMod.hMod (p3 &&& (2147483647 : Int32)) (5 : Int32))), .val (.ref pp), .val (.ref qq), .val (.ref rr), .val (.int bpq), .val (.int bqp), .val (.int bqr), .val (.int bpr), .val (.int bpp), .unset] [(.int (HMod.hMod (p2 &&& (2147483647 : Int32)) (5 : Int32))), (.int (HMod.hMod (p1 &&& (2147483647 : Int32)) (5 : Int32)))])) _
    refine XS.icmpYes X11.here hx rfl (pc0 := 91) (pc' := 105) rfl (hb hby at_91) rfl (teq hc91).1 (by decide) (by decide) ?_
    show Steps p.tables e below (T11.setTop (mkF m 105 #[.val (.int p1), .val (.int p2), .val (.int p3), .val (.int (HMod.hMod (p1 &&& (2147483647 : Int32)) (5 : Int32))), .val (.int (HMod.hMod (p2 &&& (2147483647 : Int32)) (5 : Int32))), .val (.int (HMod.hMod (p3 &&& (2147483647 : Int32)) (5 : Int32))), .val (.ref pp), .val (.ref qq), .val (.ref rr), .val (.int bpq), .val (.int bqp), .val (.int bqr), .val (.int bpr), .val (.int bpp), .unset] [])) _
    refine XS.iconst X11.here hx rfl (hb hby at_105) ?_
    show Steps p.tables e below (T11.setTop (mkF m 106 #[.val (.int p1), .val (.int p2), .val (.int p3), .val (.int (HMod.hMod (p1 &&& (2147483647 : Int32)) (5 : Int32))), .val (.int (HMod.hMod (p2 &&& (2147483647 : Int32)) (5 : Int32))), .val (.int (HMod.hMod (p3 &&& (2147483647 : Int32)) (5 : Int32))), .val (.ref pp), .val (.ref qq), .val (.ref rr), .val (.int bpq), .val (.int bqp), .val (.int bqr), .val (.int bpr), .val (.int bpp), .unset] [(.int (1 : Int32))])) _
    refine XS.goto X11.here hx rfl (pc0 := 106) (pc' := 110) rfl (hb hby at_106) (by decide) (by decide) ?_
    show Steps p.tables e below (T11.setTop (mkF m 110 #[.val (.int p1), .val (.int p2), .val (.int p3), .val (.int (HMod.hMod (p1 &&& (2147483647 : Int32)) (5 : Int32))), .val (.int (HMod.hMod (p2 &&& (2147483647 : Int32)) (5 : Int32))), .val (.int (HMod.hMod (p3 &&& (2147483647 : Int32)) (5 : Int32))), .val (.ref pp), .val (.ref qq), .val (.ref rr), .val (.int bpq), .val (.int bqp), .val (.int bqr), .val (.int bpr), .val (.int bpp), .unset] [(.int (1 : Int32))])) _
    refine XS.istore X11.here hx rfl (hb hby at_110) rfl (l' := #[.val (.int p1), .val (.int p2), .val (.int p3), .val (.int (HMod.hMod (p1 &&& (2147483647 : Int32)) (5 : Int32))), .val (.int (HMod.hMod (p2 &&& (2147483647 : Int32)) (5 : Int32))), .val (.int (HMod.hMod (p3 &&& (2147483647 : Int32)) (5 : Int32))), .val (.ref pp), .val (.ref qq), .val (.ref rr), .val (.int bpq), .val (.int bqp), .val (.int bqr), .val (.int bpr), .val (.int bpp), .val (.int (1 : Int32))]) rfl ?_
    show Steps p.tables e below (T11.setTop (mkF m 112 #[.val (.int p1), .val (.int p2), .val (.int p3), .val (.int (HMod.hMod (p1 &&& (2147483647 : Int32)) (5 : Int32))), .val (.int (HMod.hMod (p2 &&& (2147483647 : Int32)) (5 : Int32))), .val (.int (HMod.hMod (p3 &&& (2147483647 : Int32)) (5 : Int32))), .val (.ref pp), .val (.ref qq), .val (.ref rr), .val (.int bpq), .val (.int bqp), .val (.int bqr), .val (.int bpr), .val (.int bpp), .val (.int (1 : Int32))] [])) _
    refine XS.iload X11.here hx rfl (hb hby at_112) rfl ?_
    show Steps p.tables e below (T11.setTop (mkF m 114 #[.val (.int p1), .val (.int p2), .val (.int p3), .val (.int (HMod.hMod (p1 &&& (2147483647 : Int32)) (5 : Int32))), .val (.int (HMod.hMod (p2 &&& (2147483647 : Int32)) (5 : Int32))), .val (.int (HMod.hMod (p3 &&& (2147483647 : Int32)) (5 : Int32))), .val (.ref pp), .val (.ref qq), .val (.ref rr), .val (.int bpq), .val (.int bqp), .val (.int bqr), .val (.int bpr), .val (.int bpp), .val (.int (1 : Int32))] [(.int bpq)])) _
    refine XS.iload X11.here hx rfl (hb hby at_114) rfl ?_
    show Steps p.tables e below (T11.setTop (mkF m 116 #[.val (.int p1), .val (.int p2), .val (.int p3), .val (.int (HMod.hMod (p1 &&& (2147483647 : Int32)) (5 : Int32))), .val (.int (HMod.hMod (p2 &&& (2147483647 : Int32)) (5 : Int32))), .val (.int (HMod.hMod (p3 &&& (2147483647 : Int32)) (5 : Int32))), .val (.ref pp), .val (.ref qq), .val (.ref rr), .val (.int bpq), .val (.int bqp), .val (.int bqr), .val (.int bpr), .val (.int bpp), .val (.int (1 : Int32))] [(.int (1 : Int32)), (.int bpq)])) _
    refine XS.icmpYes X11.here hx rfl (pc0 := 116) (pc' := 121) rfl (hb hby at_116) rfl (teq hx1).1 (by decide) (by decide) ?_
    show Steps p.tables e below (T11.setTop (mkF m 121 #[.val (.int p1), .val (.int p2), .val (.int p3), .val (.int (HMod.hMod (p1 &&& (2147483647 : Int32)) (5 : Int32))), .val (.int (HMod.hMod (p2 &&& (2147483647 : Int32)) (5 : Int32))), .val (.int (HMod.hMod (p3 &&& (2147483647 : Int32)) (5 : Int32))), .val (.ref pp), .val (.ref qq), .val (.ref rr), .val (.int bpq), .val (.int bqp), .val (.int bqr), .val (.int bpr), .val (.int bpp), .val (.int (1 : Int32))] [])) _
    refine XS.iload X11.here hx rfl (hb hby at_121) rfl ?_
    show Steps p.tables e below (T11.setTop (mkF m 123 #[.val (.int p1), .val (.int p2), .val (.int p3), .val (.int (HMod.hMod (p1 &&& (2147483647 : Int32)) (5 : Int32))), .val (.int (HMod.hMod (p2 &&& (2147483647 : Int32)) (5 : Int32))), .val (.int (HMod.hMod (p3 &&& (2147483647 : Int32)) (5 : Int32))), .val (.ref pp), .val (.ref qq), .val (.ref rr), .val (.int bpq), .val (.int bqp), .val (.int bqr), .val (.int bpr), .val (.int bpp), .val (.int (1 : Int32))] [(.int bpp)])) _
    refine XS.ifYes X11.here hx rfl (pc0 := 123) (pc' := 128) rfl (hb hby at_123) rfl ((if0 _ _).trans (feq hx2).2) (by decide) (by decide) ?_
    show Steps p.tables e below (T11.setTop (mkF m 128 #[.val (.int p1), .val (.int p2), .val (.int p3), .val (.int (HMod.hMod (p1 &&& (2147483647 : Int32)) (5 : Int32))), .val (.int (HMod.hMod (p2 &&& (2147483647 : Int32)) (5 : Int32))), .val (.int (HMod.hMod (p3 &&& (2147483647 : Int32)) (5 : Int32))), .val (.ref pp), .val (.ref qq), .val (.ref rr), .val (.int bpq), .val (.int bqp), .val (.int bqr), .val (.int bpr), .val (.int bpp), .val (.int (1 : Int32))] [])) _
    refine XS.iload X11.here hx rfl (hb hby at_128) rfl ?_
    show Steps p.tables e below (T11.setTop (mkF m 130 #[.val (.int p1), .val (.int p2), .val (.int p3), .val (.int (HMod.hMod (p1 &&& (2147483647 : Int32)) (5 : Int32))), .val (.int (HMod.hMod (p2 &&& (2147483647 : Int32)) (5 : Int32))), .val (.int (HMod.hMod (p3 &&& (2147483647 : Int32)) (5 : Int32))), .val (.ref pp), .val (.ref qq), .val (.ref rr), .val (.int bpq), .val (.int bqp), .val (.int bqr), .val (.int bpr), .val (.int bpp), .val (.int (1 : Int32))] [(.int bpq)])) _
    refine XS.ifNo X11.here hx rfl (hb hby at_130) rfl ((if0 _ _).trans (feq hx3).1) ?_
    show Steps p.tables e below (T11.setTop (mkF m 133 #[.val (.int p1), .val (.int p2), .val (.int p3), .val (.int (HMod.hMod (p1 &&& (2147483647 : Int32)) (5 : Int32))), .val (.int (HMod.hMod (p2 &&& (2147483647 : Int32)) (5 : Int32))), .val (.int (HMod.hMod (p3 &&& (2147483647 : Int32)) (5 : Int32))), .val (.ref pp), .val (.ref qq), .val (.ref rr), .val (.int bpq), .val (.int bqp), .val (.int bqr), .val (.int bpr), .val (.int bpp), .val (.int (1 : Int32))] [])) _
    refine XS.iload X11.here hx rfl (hb hby at_133) rfl ?_
    show Steps p.tables e below (T11.setTop (mkF m 135 #[.val (.int p1), .val (.int p2), .val (.int p3), .val (.int (HMod.hMod (p1 &&& (2147483647 : Int32)) (5 : Int32))), .val (.int (HMod.hMod (p2 &&& (2147483647 : Int32)) (5 : Int32))), .val (.int (HMod.hMod (p3 &&& (2147483647 : Int32)) (5 : Int32))), .val (.ref pp), .val (.ref qq), .val (.ref rr), .val (.int bpq), .val (.int bqp), .val (.int bqr), .val (.int bpr), .val (.int bpp), .val (.int (1 : Int32))] [(.int bqp)])) _
    refine XS.ifNo X11.here hx rfl (hb hby at_135) rfl ((if0 _ _).trans (feq hx4).1) ?_
    show Steps p.tables e below (T11.setTop (mkF m 138 #[.val (.int p1), .val (.int p2), .val (.int p3), .val (.int (HMod.hMod (p1 &&& (2147483647 : Int32)) (5 : Int32))), .val (.int (HMod.hMod (p2 &&& (2147483647 : Int32)) (5 : Int32))), .val (.int (HMod.hMod (p3 &&& (2147483647 : Int32)) (5 : Int32))), .val (.ref pp), .val (.ref qq), .val (.ref rr), .val (.int bpq), .val (.int bqp), .val (.int bqr), .val (.int bpr), .val (.int bpp), .val (.int (1 : Int32))] [])) _
    refine XS.aload X11.here hx rfl (hb hby at_138) rfl rfl ?_
    show Steps p.tables e below (T11.setTop (mkF m 140 #[.val (.int p1), .val (.int p2), .val (.int p3), .val (.int (HMod.hMod (p1 &&& (2147483647 : Int32)) (5 : Int32))), .val (.int (HMod.hMod (p2 &&& (2147483647 : Int32)) (5 : Int32))), .val (.int (HMod.hMod (p3 &&& (2147483647 : Int32)) (5 : Int32))), .val (.ref pp), .val (.ref qq), .val (.ref rr), .val (.int bpq), .val (.int bqp), .val (.int bqr), .val (.int bpr), .val (.int bpp), .val (.int (1 : Int32))] [(.ref pp)])) _
    refine XS.aload X11.here hx rfl (hb hby at_140) rfl rfl ?_
    show Steps p.tables e below (T11.setTop (mkF m 142 #[.val (.int p1), .val (.int p2), .val (.int p3), .val (.int (HMod.hMod (p1 &&& (2147483647 : Int32)) (5 : Int32))), .val (.int (HMod.hMod (p2 &&& (2147483647 : Int32)) (5 : Int32))), .val (.int (HMod.hMod (p3 &&& (2147483647 : Int32)) (5 : Int32))), .val (.ref pp), .val (.ref qq), .val (.ref rr), .val (.int bpq), .val (.int bqp), .val (.int bqr), .val (.int bpr), .val (.int bpp), .val (.int (1 : Int32))] [(.ref qq), (.ref pp)])) _
    refine Jvm.RoadKit.acmp (g := (mkF m 142 #[.val (.int p1), .val (.int p2), .val (.int p3), .val (.int (HMod.hMod (p1 &&& (2147483647 : Int32)) (5 : Int32))), .val (.int (HMod.hMod (p2 &&& (2147483647 : Int32)) (5 : Int32))), .val (.int (HMod.hMod (p3 &&& (2147483647 : Int32)) (5 : Int32))), .val (.ref pp), .val (.ref qq), .val (.ref rr), .val (.int bpq), .val (.int bqp), .val (.int bqr), .val (.int bpr), .val (.int bpp), .val (.int (1 : Int32))] [(.ref qq), (.ref pp)])) X11 hx rfl rfl rfl (pc0 := 142) (pc' := 147) (same := true) rfl (hb hby at_142) rfl (decide_eq_true (congrArg Value.ref ha142)) (by decide) (by decide) ?_
    show Steps p.tables e below (T11.setTop (mkF m 147 #[.val (.int p1), .val (.int p2), .val (.int p3), .val (.int (HMod.hMod (p1 &&& (2147483647 : Int32)) (5 : Int32))), .val (.int (HMod.hMod (p2 &&& (2147483647 : Int32)) (5 : Int32))), .val (.int (HMod.hMod (p3 &&& (2147483647 : Int32)) (5 : Int32))), .val (.ref pp), .val (.ref qq), .val (.ref rr), .val (.int bpq), .val (.int bqp), .val (.int bqr), .val (.int bpr), .val (.int bpp), .val (.int (1 : Int32))] [])) _
    refine XS.iload X11.here hx rfl (hb hby at_147) rfl ?_
    show Steps p.tables e below (T11.setTop (mkF m 149 #[.val (.int p1), .val (.int p2), .val (.int p3), .val (.int (HMod.hMod (p1 &&& (2147483647 : Int32)) (5 : Int32))), .val (.int (HMod.hMod (p2 &&& (2147483647 : Int32)) (5 : Int32))), .val (.int (HMod.hMod (p3 &&& (2147483647 : Int32)) (5 : Int32))), .val (.ref pp), .val (.ref qq), .val (.ref rr), .val (.int bpq), .val (.int bqp), .val (.int bqr), .val (.int bpr), .val (.int bpp), .val (.int (1 : Int32))] [(.int bpq)])) _
    refine XS.ifNo X11.here hx rfl (hb hby at_149) rfl ((if0 _ _).trans (feq hx5).1) ?_
    show Steps p.tables e below (T11.setTop (mkF m 152 #[.val (.int p1), .val (.int p2), .val (.int p3), .val (.int (HMod.hMod (p1 &&& (2147483647 : Int32)) (5 : Int32))), .val (.int (HMod.hMod (p2 &&& (2147483647 : Int32)) (5 : Int32))), .val (.int (HMod.hMod (p3 &&& (2147483647 : Int32)) (5 : Int32))), .val (.ref pp), .val (.ref qq), .val (.ref rr), .val (.int bpq), .val (.int bqp), .val (.int bqr), .val (.int bpr), .val (.int bpp), .val (.int (1 : Int32))] [])) _
    refine XS.iload X11.here hx rfl (hb hby at_152) rfl ?_
    show Steps p.tables e below (T11.setTop (mkF m 154 #[.val (.int p1), .val (.int p2), .val (.int p3), .val (.int (HMod.hMod (p1 &&& (2147483647 : Int32)) (5 : Int32))), .val (.int (HMod.hMod (p2 &&& (2147483647 : Int32)) (5 : Int32))), .val (.int (HMod.hMod (p3 &&& (2147483647 : Int32)) (5 : Int32))), .val (.ref pp), .val (.ref qq), .val (.ref rr), .val (.int bpq), .val (.int bqp), .val (.int bqr), .val (.int bpr), .val (.int bpp), .val (.int (1 : Int32))] [(.int bqr)])) _
    refine XS.ifNo X11.here hx rfl (hb hby at_154) rfl ((if0 _ _).trans (feq hx6).1) ?_
    show Steps p.tables e below (T11.setTop (mkF m 157 #[.val (.int p1), .val (.int p2), .val (.int p3), .val (.int (HMod.hMod (p1 &&& (2147483647 : Int32)) (5 : Int32))), .val (.int (HMod.hMod (p2 &&& (2147483647 : Int32)) (5 : Int32))), .val (.int (HMod.hMod (p3 &&& (2147483647 : Int32)) (5 : Int32))), .val (.ref pp), .val (.ref qq), .val (.ref rr), .val (.int bpq), .val (.int bqp), .val (.int bqr), .val (.int bpr), .val (.int bpp), .val (.int (1 : Int32))] [])) _
    refine XS.iload X11.here hx rfl (hb hby at_157) rfl ?_
    show Steps p.tables e below (T11.setTop (mkF m 159 #[.val (.int p1), .val (.int p2), .val (.int p3), .val (.int (HMod.hMod (p1 &&& (2147483647 : Int32)) (5 : Int32))), .val (.int (HMod.hMod (p2 &&& (2147483647 : Int32)) (5 : Int32))), .val (.int (HMod.hMod (p3 &&& (2147483647 : Int32)) (5 : Int32))), .val (.ref pp), .val (.ref qq), .val (.ref rr), .val (.int bpq), .val (.int bqp), .val (.int bqr), .val (.int bpr), .val (.int bpp), .val (.int (1 : Int32))] [(.int bpr)])) _
    refine XS.ifYes X11.here hx rfl (pc0 := 159) (pc' := 164) rfl (hb hby at_159) rfl ((if0 _ _).trans (feq hx7).2) (by decide) (by decide) ?_
    show Steps p.tables e below (T11.setTop (mkF m 164 #[.val (.int p1), .val (.int p2), .val (.int p3), .val (.int (HMod.hMod (p1 &&& (2147483647 : Int32)) (5 : Int32))), .val (.int (HMod.hMod (p2 &&& (2147483647 : Int32)) (5 : Int32))), .val (.int (HMod.hMod (p3 &&& (2147483647 : Int32)) (5 : Int32))), .val (.ref pp), .val (.ref qq), .val (.ref rr), .val (.int bpq), .val (.int bqp), .val (.int bqr), .val (.int bpr), .val (.int bpp), .val (.int (1 : Int32))] [])) _
    refine XS.iconst X11.here hx rfl (hb hby at_164) ?_
    show Steps p.tables e below (T11.setTop (mkF m 165 #[.val (.int p1), .val (.int p2), .val (.int p3), .val (.int (HMod.hMod (p1 &&& (2147483647 : Int32)) (5 : Int32))), .val (.int (HMod.hMod (p2 &&& (2147483647 : Int32)) (5 : Int32))), .val (.int (HMod.hMod (p3 &&& (2147483647 : Int32)) (5 : Int32))), .val (.ref pp), .val (.ref qq), .val (.ref rr), .val (.int bpq), .val (.int bqp), .val (.int bqr), .val (.int bpr), .val (.int bpp), .val (.int (1 : Int32))] [(.int (1 : Int32))])) _
    exact retN X11 hx (t := .boolean) Bd.returns (by simp) (hb hby at_165) hr
  · show Q0A2 Z p1 p2 p3 h0 n0 _ T11.heap _
    exact ⟨rfl, N11⟩
def Q0B (Z : State) (p1 : Int32) (p2 : Int32) (p3 : Int32) (h0 : Heap) (n0 : Nat) (v : Option Value) (h : Heap) (L : List Loc) : Prop := v = some (.int (1 : Int32)) ∧ Fr n0 L
set_option maxRecDepth 65536 in
set_option maxHeartbeats 40000000 in
theorem rm0B (l : Launch) (Z : State) (a0 : Array Value) (hw : ∀ d ∈ tables_1, d.before a0 Z = true) (ws : List Jvm.Cond) (p1 : Int32) (p2 : Int32) (p3 : Int32) (u1 : Addr) (u2 : Addr) (u3 : Addr) (u4 : Addr) (u5 : Addr) (pp : Addr) (qq : Addr) (rr : Addr) (Cp : String) (Cq : String) (bpq : Int32) (bqp : Int32) (bqr : Int32) (bpr : Int32) (bpp : Int32) (h0 : Heap) (n0 : Nat) (Z0 : n0 ≤ h0.size) (S_STRING : Sta Z h0 "com/example/nereus/nereus/Domain" "STRING" "Lcom/example/nereus/nereus/Domain;" (.ref u1)) (S_INTEGER : Sta Z h0 "com/example/nereus/nereus/Domain" "INTEGER" "Lcom/example/nereus/nereus/Domain;" (.ref u2)) (S_DECIMAL : Sta Z h0 "com/example/nereus/nereus/Domain" "DECIMAL" "Lcom/example/nereus/nereus/Domain;" (.ref u3)) (S_BOOLEAN : Sta Z h0 "com/example/nereus/nereus/Domain" "BOOLEAN" "Lcom/example/nereus/nereus/Domain;" (.ref u4)) (S_DATETIME : Sta Z h0 "com/example/nereus/nereus/Domain" "DATETIME" "Lcom/example/nereus/nereus/Domain;" (.ref u5)) (E_u1 : Exa Z h0 u1 "com/example/nereus/nereus/Domain$1") (E_u2 : Exa Z h0 u2 "com/example/nereus/nereus/Domain$2") (E_u3 : Exa Z h0 u3 "com/example/nereus/nereus/Domain$3") (E_u4 : Exa Z h0 u4 "com/example/nereus/nereus/Domain$4") (E_u5 : Exa Z h0 u5 "com/example/nereus/nereus/Domain$5") (E_pp : Exa Z h0 pp Cp) (E_qq : Exa Z h0 qq Cq) (sel_p : (Jvm.Cond.selects Cp (⟨"com/example/nereus/nereus/Domain", "includes", "(Lcom/example/nereus/nereus/Domain;)Z"⟩ : MethodName) (⟨"com/example/nereus/nereus/Domain", "includes", "(Lcom/example/nereus/nereus/Domain;)Z"⟩ : MethodName)).before a0 Z = true) (sel_q : (Jvm.Cond.selects Cq (⟨"com/example/nereus/nereus/Domain", "includes", "(Lcom/example/nereus/nereus/Domain;)Z"⟩ : MethodName) (⟨"com/example/nereus/nereus/Domain", "includes", "(Lcom/example/nereus/nereus/Domain;)Z"⟩ : MethodName)).before a0 Z = true) (n1 : ¬ (HMod.hMod (p1 &&& (2147483647 : Int32)) (5 : Int32)) < 0) (m1 : (HMod.hMod (p1 &&& (2147483647 : Int32)) (5 : Int32)) < 5) (v1 : ([.ref u1, .ref u2, .ref u3, .ref u4, .ref u5] : List Value).getD (HMod.hMod (p1 &&& (2147483647 : Int32)) (5 : Int32)).toNatClampNeg .null = .ref pp) (n2 : ¬ (HMod.hMod (p2 &&& (2147483647 : Int32)) (5 : Int32)) < 0) (m2 : (HMod.hMod (p2 &&& (2147483647 : Int32)) (5 : Int32)) < 5) (v2 : ([.ref u1, .ref u2, .ref u3, .ref u4, .ref u5] : List Value).getD (HMod.hMod (p2 &&& (2147483647 : Int32)) (5 : Int32)).toNatClampNeg .null = .ref qq) (n3 : ¬ (HMod.hMod (p3 &&& (2147483647 : Int32)) (5 : Int32)) < 0) (m3 : (HMod.hMod (p3 &&& (2147483647 : Int32)) (5 : Int32)) < 5) (v3 : ([.ref u1, .ref u2, .ref u3, .ref u4, .ref u5] : List Value).getD (HMod.hMod (p3 &&& (2147483647 : Int32)) (5 : Int32)).toNatClampNeg .null = .ref rr) (t_bpq : (pp = qq ∨ (pp = u3 ∧ qq = u2)) → bpq = 1) (f_bpq : ¬ (pp = qq ∨ (pp = u3 ∧ qq = u2)) → bpq = 0) (t_bqp : (qq = pp ∨ (qq = u3 ∧ pp = u2)) → bqp = 1) (f_bqp : ¬ (qq = pp ∨ (qq = u3 ∧ pp = u2)) → bqp = 0) (t_bqr : (qq = rr ∨ (qq = u3 ∧ rr = u2)) → bqr = 1) (f_bqr : ¬ (qq = rr ∨ (qq = u3 ∧ rr = u2)) → bqr = 0) (t_bpr : (pp = rr ∨ (pp = u3 ∧ rr = u2)) → bpr = 1) (f_bpr : ¬ (pp = rr ∨ (pp = u3 ∧ rr = u2)) → bpr = 0) (t_bpp : (pp = pp ∨ (pp = u3 ∧ pp = u2)) → bpp = 1) (f_bpp : ¬ (pp = pp ∨ (pp = u3 ∧ pp = u2)) → bpp = 0) (hx1 : bpq = (0 : Int32)) (hx2 : ¬ (bpp = (0 : Int32))) (hx3 : bpq = (0 : Int32)) (hx4 : bpq = (0 : Int32)) (hc91 : ¬ ((HMod.hMod (p1 &&& (2147483647 : Int32)) (5 : Int32)) = (HMod.hMod (p2 &&& (2147483647 : Int32)) (5 : Int32)))) (hc96 : ¬ ((HMod.hMod (p1 &&& (2147483647 : Int32)) (5 : Int32)) = (2 : Int32))) :
    MetFree l x (head1 (Jvm.Cond.code x code maxLocals ret :: ws) room_1) (fun a U => a = #[(.int p1), (.int p2), (.int p3)] ∧ Z.Warmed39 U.vm ∧ U.heap = h0) (fun _ _ _ _ _ => True) (fun _ U o U' => ∃ v L, o = .returned v ∧ Q0B Z p1 p2 p3 h0 n0 v U'.heap L ∧ FrameEnd U o U' L room_1.cells room_1.slots) := by
  refine MetFree.of_bodySF (plainFor_of_name pn_0) hisR ?_
  intro p e s m args below meth c s₁ Bd hml0 hP hK
  obtain ⟨rfl, hZ, hh⟩ := hP
  have hx := Bd.exec
  have hby := Bd.bytes
  have hml : c.maxLocals = 15 := hml0
  have hown : s.vm.findClass "com/example/nereus/nereus/DomainIncludesPinLaw" = some m.cls := findClass_of_methodNamed Bd.named
  have hnm := (name_of_methodNamed Bd.named Bd.method).1
  have X0 : Stand p l e room_1 s m #[(.int p1), (.int p2), (.int p3)] below meth c s₁ [] 0 0 := Stand.of_body Bd
  have e0 : s₁.heap = h0 := by rw [← hh, Bd.state]; rfl
  have N0 := Fr.nil n0
  have pre0 : ∀ t, Steps p.tables e below (s₁.setTop (mkF m 0 #[.val (.int p1), .val (.int p2), .val (.int p3), .unset, .unset, .unset, .unset, .unset, .unset, .unset, .unset, .unset, .unset, .unset, .unset] [])) t → Steps p.tables e below (s₁.setTop (entryFrame m #[(.int p1), (.int p2), (.int p3)] maxLocals)) t := fun t k => castTop (ef_0 m p1 p2 p3) k
  obtain ⟨_, _, ⟨T4, L4, k4, n4⟩, -, X4, ⟨Lc4, hQ4, l4, y4, z4⟩, st4⟩ := Jvm.LawKit.callS X0 hx (y := (⟨"com/example/nereus/nereus/DomainIncludesPinLaw", "pick", "(I)Lcom/example/nereus/nereus/Domain;"⟩ : MethodName)) hown (mvT hZ (hw _ (List.mem_of_getElem? (i := 1) rfl))) (mvT hZ (hw _ (List.mem_of_getElem? (i := 2) rfl))) (mvT hZ (hw _ (List.mem_of_getElem? (i := 3) rfl))) (mvT hZ (hw _ (List.mem_of_getElem? (i := 4) rfl))) (by decide) (backOf (W := 0) (rm1 l Z a0 hw [] (HMod.hMod (p1 &&& (2147483647 : Int32)) (5 : Int32)) u1 u2 u3 u4 u5 pp h0 n0 Z0 S_STRING S_INTEGER S_DECIMAL S_BOOLEAN S_DATETIME E_u1 E_u2 E_u3 E_u4 E_u5 n1 m1 v1) hZ (hw _ (List.mem_of_getElem? (i := 4) rfl)) (hw _ (List.mem_of_getElem? (i := 3) rfl)) (by decide) (by decide)) (g := (mkF m 24 #[.val (.int p1), .val (.int p2), .val (.int p3), .val (.int (HMod.hMod (p1 &&& (2147483647 : Int32)) (5 : Int32))), .val (.int (HMod.hMod (p2 &&& (2147483647 : Int32)) (5 : Int32))), .val (.int (HMod.hMod (p3 &&& (2147483647 : Int32)) (5 : Int32))), .unset, .unset, .unset, .unset, .unset, .unset, .unset, .unset, .unset] [(.int (HMod.hMod (p1 &&& (2147483647 : Int32)) (5 : Int32)))])) rfl (by rw [hml]; rfl) (argsL := [(.int (HMod.hMod (p1 &&& (2147483647 : Int32)) (5 : Int32)))]) (rest := []) (lenOf pd_0_0 rfl) rfl (by show 2 * 0 + _ ≤ _; exact Nat.le_of_eq rfl) (hb hby at_24) (fun _ _ => ⟨rfl, e0, (Nat.le_of_ble_eq_true rfl), (Nat.le_of_ble_eq_true rfl)⟩)
  dsimp only [Pt.U, Pt.locs, Pt.cells, Pt.slots] at X4 l4 y4 z4 st4 hQ4
  subst l4 y4 z4
  obtain ⟨rfl, N4q, X4x⟩ := hQ4
  replace S_STRING := S_STRING.ext X4x
  replace S_INTEGER := S_INTEGER.ext X4x
  replace S_DECIMAL := S_DECIMAL.ext X4x
  replace S_BOOLEAN := S_BOOLEAN.ext X4x
  replace S_DATETIME := S_DATETIME.ext X4x
  replace E_u1 := E_u1.ext X4x
  replace E_u2 := E_u2.ext X4x
  replace E_u3 := E_u3.ext X4x
  replace E_u4 := E_u4.ext X4x
  replace E_u5 := E_u5.ext X4x
  replace E_pp := E_pp.ext X4x
  replace E_qq := E_qq.ext X4x
  replace Z0 := Nat.le_trans Z0 X4x.1
  have N4 := Fr.app N0 N4q
  obtain ⟨_, _, ⟨T5, L5, k5, n5⟩, -, X5, ⟨Lc5, hQ5, l5, y5, z5⟩, st5⟩ := Jvm.LawKit.callS X4 hx (y := (⟨"com/example/nereus/nereus/DomainIncludesPinLaw", "pick", "(I)Lcom/example/nereus/nereus/Domain;"⟩ : MethodName)) hown (mvT hZ (hw _ (List.mem_of_getElem? (i := 1) rfl))) (mvT hZ (hw _ (List.mem_of_getElem? (i := 2) rfl))) (mvT hZ (hw _ (List.mem_of_getElem? (i := 3) rfl))) (mvT hZ (hw _ (List.mem_of_getElem? (i := 4) rfl))) (by decide) (backOf (W := 0) (rm1 l Z a0 hw [] (HMod.hMod (p2 &&& (2147483647 : Int32)) (5 : Int32)) u1 u2 u3 u4 u5 qq T4.heap n0 Z0 S_STRING S_INTEGER S_DECIMAL S_BOOLEAN S_DATETIME E_u1 E_u2 E_u3 E_u4 E_u5 n2 m2 v2) hZ (hw _ (List.mem_of_getElem? (i := 4) rfl)) (hw _ (List.mem_of_getElem? (i := 3) rfl)) (by decide) (by decide)) (g := (mkF m 31 #[.val (.int p1), .val (.int p2), .val (.int p3), .val (.int (HMod.hMod (p1 &&& (2147483647 : Int32)) (5 : Int32))), .val (.int (HMod.hMod (p2 &&& (2147483647 : Int32)) (5 : Int32))), .val (.int (HMod.hMod (p3 &&& (2147483647 : Int32)) (5 : Int32))), .val (.ref pp), .unset, .unset, .unset, .unset, .unset, .unset, .unset, .unset] [(.int (HMod.hMod (p2 &&& (2147483647 : Int32)) (5 : Int32)))])) rfl (by rw [hml]; rfl) (argsL := [(.int (HMod.hMod (p2 &&& (2147483647 : Int32)) (5 : Int32)))]) (rest := []) (lenOf pd_0_0 rfl) rfl (by show 2 * 0 + _ ≤ _; exact Nat.le_of_eq rfl) (hb hby at_31) (fun _ _ => ⟨rfl, rfl, (Nat.le_of_ble_eq_true rfl), (Nat.le_of_ble_eq_true rfl)⟩)
  dsimp only [Pt.U, Pt.locs, Pt.cells, Pt.slots] at X5 l5 y5 z5 st5 hQ5
  subst l5 y5 z5
  obtain ⟨rfl, N5q, X5x⟩ := hQ5
  replace S_STRING := S_STRING.ext X5x
  replace S_INTEGER := S_INTEGER.ext X5x
  replace S_DECIMAL := S_DECIMAL.ext X5x
  replace S_BOOLEAN := S_BOOLEAN.ext X5x
  replace S_DATETIME := S_DATETIME.ext X5x
  replace E_u1 := E_u1.ext X5x
  replace E_u2 := E_u2.ext X5x
  replace E_u3 := E_u3.ext X5x
  replace E_u4 := E_u4.ext X5x
  replace E_u5 := E_u5.ext X5x
  replace E_pp := E_pp.ext X5x
  replace E_qq := E_qq.ext X5x
  replace Z0 := Nat.le_trans Z0 X5x.1
  have N5 := Fr.app N4 N5q
  obtain ⟨_, _, ⟨T6, L6, k6, n6⟩, -, X6, ⟨Lc6, hQ6, l6, y6, z6⟩, st6⟩ := Jvm.LawKit.callS X5 hx (y := (⟨"com/example/nereus/nereus/DomainIncludesPinLaw", "pick", "(I)Lcom/example/nereus/nereus/Domain;"⟩ : MethodName)) hown (mvT hZ (hw _ (List.mem_of_getElem? (i := 1) rfl))) (mvT hZ (hw _ (List.mem_of_getElem? (i := 2) rfl))) (mvT hZ (hw _ (List.mem_of_getElem? (i := 3) rfl))) (mvT hZ (hw _ (List.mem_of_getElem? (i := 4) rfl))) (by decide) (backOf (W := 0) (rm1 l Z a0 hw [] (HMod.hMod (p3 &&& (2147483647 : Int32)) (5 : Int32)) u1 u2 u3 u4 u5 rr T5.heap n0 Z0 S_STRING S_INTEGER S_DECIMAL S_BOOLEAN S_DATETIME E_u1 E_u2 E_u3 E_u4 E_u5 n3 m3 v3) hZ (hw _ (List.mem_of_getElem? (i := 4) rfl)) (hw _ (List.mem_of_getElem? (i := 3) rfl)) (by decide) (by decide)) (g := (mkF m 38 #[.val (.int p1), .val (.int p2), .val (.int p3), .val (.int (HMod.hMod (p1 &&& (2147483647 : Int32)) (5 : Int32))), .val (.int (HMod.hMod (p2 &&& (2147483647 : Int32)) (5 : Int32))), .val (.int (HMod.hMod (p3 &&& (2147483647 : Int32)) (5 : Int32))), .val (.ref pp), .val (.ref qq), .unset, .unset, .unset, .unset, .unset, .unset, .unset] [(.int (HMod.hMod (p3 &&& (2147483647 : Int32)) (5 : Int32)))])) rfl (by rw [hml]; rfl) (argsL := [(.int (HMod.hMod (p3 &&& (2147483647 : Int32)) (5 : Int32)))]) (rest := []) (lenOf pd_0_0 rfl) rfl (by show 2 * 0 + _ ≤ _; exact Nat.le_of_eq rfl) (hb hby at_38) (fun _ _ => ⟨rfl, rfl, (Nat.le_of_ble_eq_true rfl), (Nat.le_of_ble_eq_true rfl)⟩)
  dsimp only [Pt.U, Pt.locs, Pt.cells, Pt.slots] at X6 l6 y6 z6 st6 hQ6
  subst l6 y6 z6
  obtain ⟨rfl, N6q, X6x⟩ := hQ6
  replace S_STRING := S_STRING.ext X6x
  replace S_INTEGER := S_INTEGER.ext X6x
  replace S_DECIMAL := S_DECIMAL.ext X6x
  replace S_BOOLEAN := S_BOOLEAN.ext X6x
  replace S_DATETIME := S_DATETIME.ext X6x
  replace E_u1 := E_u1.ext X6x
  replace E_u2 := E_u2.ext X6x
  replace E_u3 := E_u3.ext X6x
  replace E_u4 := E_u4.ext X6x
  replace E_u5 := E_u5.ext X6x
  replace E_pp := E_pp.ext X6x
  replace E_qq := E_qq.ext X6x
  replace Z0 := Nat.le_trans Z0 X6x.1
  have N6 := Fr.app N5 N6q
  obtain ⟨cq7, kq7, q7a, q7b, q7c⟩ := isOf hZ rfl E_pp
  obtain ⟨_, _, ⟨T7, L7, k7, n7⟩, -, X7, ⟨Lc7, hQ7, l7, y7, z7⟩, st7⟩ := X6.virtualBack hx (y := (⟨"com/example/nereus/nereus/Domain", "includes", "(Lcom/example/nereus/nereus/Domain;)Z"⟩ : MethodName)) (z := (⟨"com/example/nereus/nereus/Domain", "includes", "(Lcom/example/nereus/nereus/Domain;)Z"⟩ : MethodName)) hown (mvT hZ (hw _ (List.mem_of_getElem? (i := 23) rfl))) (mvT hZ (hw _ (List.mem_of_getElem? (i := 24) rfl))) (notFace_of_selects (args := #[]) (mvT hZ sel_p)) (mvT hZ sel_p) (mvT hZ (hw _ (List.mem_of_getElem? (i := 25) rfl))) (by decide) (backOf (W := 0) (rm2g l Z a0 hw [] pp qq u3 u2 bpq T6.heap n0 Z0 S_DECIMAL S_INTEGER t_bpq f_bpq) hZ (hw _ (List.mem_of_getElem? (i := 27) rfl)) (hw _ (List.mem_of_getElem? (i := 8) rfl)) (by decide) (by decide)) q7a q7c (g := (mkF m 47 #[.val (.int p1), .val (.int p2), .val (.int p3), .val (.int (HMod.hMod (p1 &&& (2147483647 : Int32)) (5 : Int32))), .val (.int (HMod.hMod (p2 &&& (2147483647 : Int32)) (5 : Int32))), .val (.int (HMod.hMod (p3 &&& (2147483647 : Int32)) (5 : Int32))), .val (.ref pp), .val (.ref qq), .val (.ref rr), .unset, .unset, .unset, .unset, .unset, .unset] [(.ref qq), (.ref pp)])) rfl (by rw [hml]; rfl) (Steps.refl _) (argsL := [(.ref qq)]) (rest := []) (lenOf pd_0_1 rfl) rfl (by show 2 * 0 + _ ≤ _; exact Nat.le_of_eq rfl) (hb hby at_47) (fun _ _ => ⟨rfl, rfl, (Nat.le_of_ble_eq_true rfl), (Nat.le_of_ble_eq_true rfl)⟩)
  dsimp only [Pt.U, Pt.locs, Pt.cells, Pt.slots] at X7 l7 y7 z7 st7 hQ7
  subst l7 y7 z7
  obtain ⟨rfl, N7q, eq7⟩ := hQ7
  have N7 := Fr.app N6 N7q
  obtain ⟨cq8, kq8, q8a, q8b, q8c⟩ := isOf hZ eq7 E_qq
  obtain ⟨_, _, ⟨T8, L8, k8, n8⟩, -, X8, ⟨Lc8, hQ8, l8, y8, z8⟩, st8⟩ := X7.virtualBack hx (y := (⟨"com/example/nereus/nereus/Domain", "includes", "(Lcom/example/nereus/nereus/Domain;)Z"⟩ : MethodName)) (z := (⟨"com/example/nereus/nereus/Domain", "includes", "(Lcom/example/nereus/nereus/Domain;)Z"⟩ : MethodName)) hown (mvT hZ (hw _ (List.mem_of_getElem? (i := 23) rfl))) (mvT hZ (hw _ (List.mem_of_getElem? (i := 24) rfl))) (notFace_of_selects (args := #[]) (mvT hZ sel_q)) (mvT hZ sel_q) (mvT hZ (hw _ (List.mem_of_getElem? (i := 25) rfl))) (by decide) (backOf (W := 0) (rm2g l Z a0 hw [] qq pp u3 u2 bqp T6.heap n0 Z0 S_DECIMAL S_INTEGER t_bqp f_bqp) hZ (hw _ (List.mem_of_getElem? (i := 27) rfl)) (hw _ (List.mem_of_getElem? (i := 8) rfl)) (by decide) (by decide)) q8a q8c (g := (mkF m 56 #[.val (.int p1), .val (.int p2), .val (.int p3), .val (.int (HMod.hMod (p1 &&& (2147483647 : Int32)) (5 : Int32))), .val (.int (HMod.hMod (p2 &&& (2147483647 : Int32)) (5 : Int32))), .val (.int (HMod.hMod (p3 &&& (2147483647 : Int32)) (5 : Int32))), .val (.ref pp), .val (.ref qq), .val (.ref rr), .val (.int bpq), .unset, .unset, .unset, .unset, .unset] [(.ref pp), (.ref qq)])) rfl (by rw [hml]; rfl) (Steps.refl _) (argsL := [(.ref pp)]) (rest := []) (lenOf pd_0_1 rfl) rfl (by show 2 * 0 + _ ≤ _; exact Nat.le_of_eq rfl) (hb hby at_56) (fun _ _ => ⟨rfl, eq7, (Nat.le_of_ble_eq_true rfl), (Nat.le_of_ble_eq_true rfl)⟩)
  dsimp only [Pt.U, Pt.locs, Pt.cells, Pt.slots] at X8 l8 y8 z8 st8 hQ8
  subst l8 y8 z8
  obtain ⟨rfl, N8q, eq8⟩ := hQ8
  have N8 := Fr.app N7 N8q
  obtain ⟨cq9, kq9, q9a, q9b, q9c⟩ := isOf hZ eq8 E_qq
  obtain ⟨_, _, ⟨T9, L9, k9, n9⟩, -, X9, ⟨Lc9, hQ9, l9, y9, z9⟩, st9⟩ := X8.virtualBack hx (y := (⟨"com/example/nereus/nereus/Domain", "includes", "(Lcom/example/nereus/nereus/Domain;)Z"⟩ : MethodName)) (z := (⟨"com/example/nereus/nereus/Domain", "includes", "(Lcom/example/nereus/nereus/Domain;)Z"⟩ : MethodName)) hown (mvT hZ (hw _ (List.mem_of_getElem? (i := 23) rfl))) (mvT hZ (hw _ (List.mem_of_getElem? (i := 24) rfl))) (notFace_of_selects (args := #[]) (mvT hZ sel_q)) (mvT hZ sel_q) (mvT hZ (hw _ (List.mem_of_getElem? (i := 25) rfl))) (by decide) (backOf (W := 0) (rm2g l Z a0 hw [] qq rr u3 u2 bqr T6.heap n0 Z0 S_DECIMAL S_INTEGER t_bqr f_bqr) hZ (hw _ (List.mem_of_getElem? (i := 27) rfl)) (hw _ (List.mem_of_getElem? (i := 8) rfl)) (by decide) (by decide)) q9a q9c (g := (mkF m 65 #[.val (.int p1), .val (.int p2), .val (.int p3), .val (.int (HMod.hMod (p1 &&& (2147483647 : Int32)) (5 : Int32))), .val (.int (HMod.hMod (p2 &&& (2147483647 : Int32)) (5 : Int32))), .val (.int (HMod.hMod (p3 &&& (2147483647 : Int32)) (5 : Int32))), .val (.ref pp), .val (.ref qq), .val (.ref rr), .val (.int bpq), .val (.int bqp), .unset, .unset, .unset, .unset] [(.ref rr), (.ref qq)])) rfl (by rw [hml]; rfl) (Steps.refl _) (argsL := [(.ref rr)]) (rest := []) (lenOf pd_0_1 rfl) rfl (by show 2 * 0 + _ ≤ _; exact Nat.le_of_eq rfl) (hb hby at_65) (fun _ _ => ⟨rfl, eq8, (Nat.le_of_ble_eq_true rfl), (Nat.le_of_ble_eq_true rfl)⟩)
  dsimp only [Pt.U, Pt.locs, Pt.cells, Pt.slots] at X9 l9 y9 z9 st9 hQ9
  subst l9 y9 z9
  obtain ⟨rfl, N9q, eq9⟩ := hQ9
  have N9 := Fr.app N8 N9q
  obtain ⟨cq10, kq10, q10a, q10b, q10c⟩ := isOf hZ eq9 E_pp
  obtain ⟨_, _, ⟨T10, L10, k10, n10⟩, -, X10, ⟨Lc10, hQ10, l10, y10, z10⟩, st10⟩ := X9.virtualBack hx (y := (⟨"com/example/nereus/nereus/Domain", "includes", "(Lcom/example/nereus/nereus/Domain;)Z"⟩ : MethodName)) (z := (⟨"com/example/nereus/nereus/Domain", "includes", "(Lcom/example/nereus/nereus/Domain;)Z"⟩ : MethodName)) hown (mvT hZ (hw _ (List.mem_of_getElem? (i := 23) rfl))) (mvT hZ (hw _ (List.mem_of_getElem? (i := 24) rfl))) (notFace_of_selects (args := #[]) (mvT hZ sel_p)) (mvT hZ sel_p) (mvT hZ (hw _ (List.mem_of_getElem? (i := 25) rfl))) (by decide) (backOf (W := 0) (rm2g l Z a0 hw [] pp rr u3 u2 bpr T6.heap n0 Z0 S_DECIMAL S_INTEGER t_bpr f_bpr) hZ (hw _ (List.mem_of_getElem? (i := 27) rfl)) (hw _ (List.mem_of_getElem? (i := 8) rfl)) (by decide) (by decide)) q10a q10c (g := (mkF m 74 #[.val (.int p1), .val (.int p2), .val (.int p3), .val (.int (HMod.hMod (p1 &&& (2147483647 : Int32)) (5 : Int32))), .val (.int (HMod.hMod (p2 &&& (2147483647 : Int32)) (5 : Int32))), .val (.int (HMod.hMod (p3 &&& (2147483647 : Int32)) (5 : Int32))), .val (.ref pp), .val (.ref qq), .val (.ref rr), .val (.int bpq), .val (.int bqp), .val (.int bqr), .unset, .unset, .unset] [(.ref rr), (.ref pp)])) rfl (by rw [hml]; rfl) (Steps.refl _) (argsL := [(.ref rr)]) (rest := []) (lenOf pd_0_1 rfl) rfl (by show 2 * 0 + _ ≤ _; exact Nat.le_of_eq rfl) (hb hby at_74) (fun _ _ => ⟨rfl, eq9, (Nat.le_of_ble_eq_true rfl), (Nat.le_of_ble_eq_true rfl)⟩)
  dsimp only [Pt.U, Pt.locs, Pt.cells, Pt.slots] at X10 l10 y10 z10 st10 hQ10
  subst l10 y10 z10
  obtain ⟨rfl, N10q, eq10⟩ := hQ10
  have N10 := Fr.app N9 N10q
  obtain ⟨cq11, kq11, q11a, q11b, q11c⟩ := isOf hZ eq10 E_pp
  obtain ⟨_, _, ⟨T11, L11, k11, n11⟩, -, X11, ⟨Lc11, hQ11, l11, y11, z11⟩, st11⟩ := X10.virtualBack hx (y := (⟨"com/example/nereus/nereus/Domain", "includes", "(Lcom/example/nereus/nereus/Domain;)Z"⟩ : MethodName)) (z := (⟨"com/example/nereus/nereus/Domain", "includes", "(Lcom/example/nereus/nereus/Domain;)Z"⟩ : MethodName)) hown (mvT hZ (hw _ (List.mem_of_getElem? (i := 23) rfl))) (mvT hZ (hw _ (List.mem_of_getElem? (i := 24) rfl))) (notFace_of_selects (args := #[]) (mvT hZ sel_p)) (mvT hZ sel_p) (mvT hZ (hw _ (List.mem_of_getElem? (i := 25) rfl))) (by decide) (backOf (W := 0) (rm2g l Z a0 hw [] pp pp u3 u2 bpp T6.heap n0 Z0 S_DECIMAL S_INTEGER t_bpp f_bpp) hZ (hw _ (List.mem_of_getElem? (i := 27) rfl)) (hw _ (List.mem_of_getElem? (i := 8) rfl)) (by decide) (by decide)) q11a q11c (g := (mkF m 83 #[.val (.int p1), .val (.int p2), .val (.int p3), .val (.int (HMod.hMod (p1 &&& (2147483647 : Int32)) (5 : Int32))), .val (.int (HMod.hMod (p2 &&& (2147483647 : Int32)) (5 : Int32))), .val (.int (HMod.hMod (p3 &&& (2147483647 : Int32)) (5 : Int32))), .val (.ref pp), .val (.ref qq), .val (.ref rr), .val (.int bpq), .val (.int bqp), .val (.int bqr), .val (.int bpr), .unset, .unset] [(.ref pp), (.ref pp)])) rfl (by rw [hml]; rfl) (Steps.refl _) (argsL := [(.ref pp)]) (rest := []) (lenOf pd_0_1 rfl) rfl (by show 2 * 0 + _ ≤ _; exact Nat.le_of_eq rfl) (hb hby at_83) (fun _ _ => ⟨rfl, eq10, (Nat.le_of_ble_eq_true rfl), (Nat.le_of_ble_eq_true rfl)⟩)
  dsimp only [Pt.U, Pt.locs, Pt.cells, Pt.slots] at X11 l11 y11 z11 st11 hQ11
  subst l11 y11 z11
  obtain ⟨rfl, N11q, eq11⟩ := hQ11
  have N11 := Fr.app N10 N11q
  obtain ⟨fs, hr, hrun, hended, hW, hsame⟩ := X11.leave (v := some (.int (1 : Int32))) (fun h => by rw [Bd.returns] at h; cases h)
  refine ⟨_, _, pre0 _ ?_, hrun, hended, _, _, rfl, ?_, ⟨_, rfl⟩, hW, hsame.mono (by decide) (by decide)⟩
  · show Steps p.tables e below (s₁.setTop (mkF m 0 #[.val (.int p1), .val (.int p2), .val (.int p3), .unset, .unset, .unset, .unset, .unset, .unset, .unset, .unset, .unset, .unset, .unset, .unset] [])) _
    refine XS.iloadN X0.here hx rfl (hb hby at_0) rfl ?_
    show Steps p.tables e below (s₁.setTop (mkF m 1 #[.val (.int p1), .val (.int p2), .val (.int p3), .unset, .unset, .unset, .unset, .unset, .unset, .unset, .unset, .unset, .unset, .unset, .unset] [(.int p1)])) _
    refine X0.ldcI hx hown (mvT hZ (hw _ (List.mem_of_getElem? (i := 0) rfl))) (g := (mkF m 1 #[.val (.int p1), .val (.int p2), .val (.int p3), .unset, .unset, .unset, .unset, .unset, .unset, .unset, .unset, .unset, .unset, .unset, .unset] [(.int p1)])) rfl (hb hby at_1) ?_
    show Steps p.tables e below (s₁.setTop (mkF m 3 #[.val (.int p1), .val (.int p2), .val (.int p3), .unset, .unset, .unset, .unset, .unset, .unset, .unset, .unset, .unset, .unset, .unset, .unset] [(.int (2147483647 : Int32)), (.int p1)])) _
    refine XS.iand X0.here hx rfl (hb hby at_3) rfl ?_
    show Steps p.tables e below (s₁.setTop (mkF m 4 #[.val (.int p1), .val (.int p2), .val (.int p3), .unset, .unset, .unset, .unset, .unset, .unset, .unset, .unset, .unset, .unset, .unset, .unset] [(.int (p1 &&& (2147483647 : Int32)))])) _
    refine XS.iconst X0.here hx rfl (hb hby at_4) ?_
    show Steps p.tables e below (s₁.setTop (mkF m 5 #[.val (.int p1), .val (.int p2), .val (.int p3), .unset, .unset, .unset, .unset, .unset, .unset, .unset, .unset, .unset, .unset, .unset, .unset] [(.int (5 : Int32)), (.int (p1 &&& (2147483647 : Int32)))])) _
    refine iremM X0 hx (g := (mkF m 5 #[.val (.int p1), .val (.int p2), .val (.int p3), .unset, .unset, .unset, .unset, .unset, .unset, .unset, .unset, .unset, .unset, .unset, .unset] [(.int (5 : Int32)), (.int (p1 &&& (2147483647 : Int32)))])) rfl (hb hby at_5) rfl (by decide) ?_
    show Steps p.tables e below (s₁.setTop (mkF m 6 #[.val (.int p1), .val (.int p2), .val (.int p3), .unset, .unset, .unset, .unset, .unset, .unset, .unset, .unset, .unset, .unset, .unset, .unset] [(.int (HMod.hMod (p1 &&& (2147483647 : Int32)) (5 : Int32)))])) _
    refine XS.istoreN X0.here hx rfl (hb hby at_6) rfl (l' := #[.val (.int p1), .val (.int p2), .val (.int p3), .val (.int (HMod.hMod (p1 &&& (2147483647 : Int32)) (5 : Int32))), .unset, .unset, .unset, .unset, .unset, .unset, .unset, .unset, .unset, .unset, .unset]) rfl ?_
    show Steps p.tables e below (s₁.setTop (mkF m 7 #[.val (.int p1), .val (.int p2), .val (.int p3), .val (.int (HMod.hMod (p1 &&& (2147483647 : Int32)) (5 : Int32))), .unset, .unset, .unset, .unset, .unset, .unset, .unset, .unset, .unset, .unset, .unset] [])) _
    refine XS.iloadN X0.here hx rfl (hb hby at_7) rfl ?_
    show Steps p.tables e below (s₁.setTop (mkF m 8 #[.val (.int p1), .val (.int p2), .val (.int p3), .val (.int (HMod.hMod (p1 &&& (2147483647 : Int32)) (5 : Int32))), .unset, .unset, .unset, .unset, .unset, .unset, .unset, .unset, .unset, .unset, .unset] [(.int p2)])) _
    refine X0.ldcI hx hown (mvT hZ (hw _ (List.mem_of_getElem? (i := 0) rfl))) (g := (mkF m 8 #[.val (.int p1), .val (.int p2), .val (.int p3), .val (.int (HMod.hMod (p1 &&& (2147483647 : Int32)) (5 : Int32))), .unset, .unset, .unset, .unset, .unset, .unset, .unset, .unset, .unset, .unset, .unset] [(.int p2)])) rfl (hb hby at_8) ?_
    show Steps p.tables e below (s₁.setTop (mkF m 10 #[.val (.int p1), .val (.int p2), .val (.int p3), .val (.int (HMod.hMod (p1 &&& (2147483647 : Int32)) (5 : Int32))), .unset, .unset, .unset, .unset, .unset, .unset, .unset, .unset, .unset, .unset, .unset] [(.int (2147483647 : Int32)), (.int p2)])) _
    refine XS.iand X0.here hx rfl (hb hby at_10) rfl ?_
    show Steps p.tables e below (s₁.setTop (mkF m 11 #[.val (.int p1), .val (.int p2), .val (.int p3), .val (.int (HMod.hMod (p1 &&& (2147483647 : Int32)) (5 : Int32))), .unset, .unset, .unset, .unset, .unset, .unset, .unset, .unset, .unset, .unset, .unset] [(.int (p2 &&& (2147483647 : Int32)))])) _
    refine XS.iconst X0.here hx rfl (hb hby at_11) ?_
    show Steps p.tables e below (s₁.setTop (mkF m 12 #[.val (.int p1), .val (.int p2), .val (.int p3), .val (.int (HMod.hMod (p1 &&& (2147483647 : Int32)) (5 : Int32))), .unset, .unset, .unset, .unset, .unset, .unset, .unset, .unset, .unset, .unset, .unset] [(.int (5 : Int32)), (.int (p2 &&& (2147483647 : Int32)))])) _
    refine iremM X0 hx (g := (mkF m 12 #[.val (.int p1), .val (.int p2), .val (.int p3), .val (.int (HMod.hMod (p1 &&& (2147483647 : Int32)) (5 : Int32))), .unset, .unset, .unset, .unset, .unset, .unset, .unset, .unset, .unset, .unset, .unset] [(.int (5 : Int32)), (.int (p2 &&& (2147483647 : Int32)))])) rfl (hb hby at_12) rfl (by decide) ?_
    show Steps p.tables e below (s₁.setTop (mkF m 13 #[.val (.int p1), .val (.int p2), .val (.int p3), .val (.int (HMod.hMod (p1 &&& (2147483647 : Int32)) (5 : Int32))), .unset, .unset, .unset, .unset, .unset, .unset, .unset, .unset, .unset, .unset, .unset] [(.int (HMod.hMod (p2 &&& (2147483647 : Int32)) (5 : Int32)))])) _
    refine XS.istore X0.here hx rfl (hb hby at_13) rfl (l' := #[.val (.int p1), .val (.int p2), .val (.int p3), .val (.int (HMod.hMod (p1 &&& (2147483647 : Int32)) (5 : Int32))), .val (.int (HMod.hMod (p2 &&& (2147483647 : Int32)) (5 : Int32))), .unset, .unset, .unset, .unset, .unset, .unset, .unset, .unset, .unset, .unset]) rfl ?_
    show Steps p.tables e below (s₁.setTop (mkF m 15 #[.val (.int p1), .val (.int p2), .val (.int p3), .val (.int (HMod.hMod (p1 &&& (2147483647 : Int32)) (5 : Int32))), .val (.int (HMod.hMod (p2 &&& (2147483647 : Int32)) (5 : Int32))), .unset, .unset, .unset, .unset, .unset, .unset, .unset, .unset, .unset, .unset] [])) _
    refine XS.iloadN X0.here hx rfl (hb hby at_15) rfl ?_
    show Steps p.tables e below (s₁.setTop (mkF m 16 #[.val (.int p1), .val (.int p2), .val (.int p3), .val (.int (HMod.hMod (p1 &&& (2147483647 : Int32)) (5 : Int32))), .val (.int (HMod.hMod (p2 &&& (2147483647 : Int32)) (5 : Int32))), .unset, .unset, .unset, .unset, .unset, .unset, .unset, .unset, .unset, .unset] [(.int p3)])) _
    refine X0.ldcI hx hown (mvT hZ (hw _ (List.mem_of_getElem? (i := 0) rfl))) (g := (mkF m 16 #[.val (.int p1), .val (.int p2), .val (.int p3), .val (.int (HMod.hMod (p1 &&& (2147483647 : Int32)) (5 : Int32))), .val (.int (HMod.hMod (p2 &&& (2147483647 : Int32)) (5 : Int32))), .unset, .unset, .unset, .unset, .unset, .unset, .unset, .unset, .unset, .unset] [(.int p3)])) rfl (hb hby at_16) ?_
    show Steps p.tables e below (s₁.setTop (mkF m 18 #[.val (.int p1), .val (.int p2), .val (.int p3), .val (.int (HMod.hMod (p1 &&& (2147483647 : Int32)) (5 : Int32))), .val (.int (HMod.hMod (p2 &&& (2147483647 : Int32)) (5 : Int32))), .unset, .unset, .unset, .unset, .unset, .unset, .unset, .unset, .unset, .unset] [(.int (2147483647 : Int32)), (.int p3)])) _
    refine XS.iand X0.here hx rfl (hb hby at_18) rfl ?_
    show Steps p.tables e below (s₁.setTop (mkF m 19 #[.val (.int p1), .val (.int p2), .val (.int p3), .val (.int (HMod.hMod (p1 &&& (2147483647 : Int32)) (5 : Int32))), .val (.int (HMod.hMod (p2 &&& (2147483647 : Int32)) (5 : Int32))), .unset, .unset, .unset, .unset, .unset, .unset, .unset, .unset, .unset, .unset] [(.int (p3 &&& (2147483647 : Int32)))])) _
    refine XS.iconst X0.here hx rfl (hb hby at_19) ?_
    show Steps p.tables e below (s₁.setTop (mkF m 20 #[.val (.int p1), .val (.int p2), .val (.int p3), .val (.int (HMod.hMod (p1 &&& (2147483647 : Int32)) (5 : Int32))), .val (.int (HMod.hMod (p2 &&& (2147483647 : Int32)) (5 : Int32))), .unset, .unset, .unset, .unset, .unset, .unset, .unset, .unset, .unset, .unset] [(.int (5 : Int32)), (.int (p3 &&& (2147483647 : Int32)))])) _
    refine iremM X0 hx (g := (mkF m 20 #[.val (.int p1), .val (.int p2), .val (.int p3), .val (.int (HMod.hMod (p1 &&& (2147483647 : Int32)) (5 : Int32))), .val (.int (HMod.hMod (p2 &&& (2147483647 : Int32)) (5 : Int32))), .unset, .unset, .unset, .unset, .unset, .unset, .unset, .unset, .unset, .unset] [(.int (5 : Int32)), (.int (p3 &&& (2147483647 : Int32)))])) rfl (hb hby at_20) rfl (by decide) ?_
    show Steps p.tables e below (s₁.setTop (mkF m 21 #[.val (.int p1), .val (.int p2), .val (.int p3), .val (.int (HMod.hMod (p1 &&& (2147483647 : Int32)) (5 : Int32))), .val (.int (HMod.hMod (p2 &&& (2147483647 : Int32)) (5 : Int32))), .unset, .unset, .unset, .unset, .unset, .unset, .unset, .unset, .unset, .unset] [(.int (HMod.hMod (p3 &&& (2147483647 : Int32)) (5 : Int32)))])) _
    refine XS.istore X0.here hx rfl (hb hby at_21) rfl (l' := #[.val (.int p1), .val (.int p2), .val (.int p3), .val (.int (HMod.hMod (p1 &&& (2147483647 : Int32)) (5 : Int32))), .val (.int (HMod.hMod (p2 &&& (2147483647 : Int32)) (5 : Int32))), .val (.int (HMod.hMod (p3 &&& (2147483647 : Int32)) (5 : Int32))), .unset, .unset, .unset, .unset, .unset, .unset, .unset, .unset, .unset]) rfl ?_
    show Steps p.tables e below (s₁.setTop (mkF m 23 #[.val (.int p1), .val (.int p2), .val (.int p3), .val (.int (HMod.hMod (p1 &&& (2147483647 : Int32)) (5 : Int32))), .val (.int (HMod.hMod (p2 &&& (2147483647 : Int32)) (5 : Int32))), .val (.int (HMod.hMod (p3 &&& (2147483647 : Int32)) (5 : Int32))), .unset, .unset, .unset, .unset, .unset, .unset, .unset, .unset, .unset] [])) _
    refine XS.iloadN X0.here hx rfl (hb hby at_23) rfl ?_
    show Steps p.tables e below (s₁.setTop (mkF m 24 #[.val (.int p1), .val (.int p2), .val (.int p3), .val (.int (HMod.hMod (p1 &&& (2147483647 : Int32)) (5 : Int32))), .val (.int (HMod.hMod (p2 &&& (2147483647 : Int32)) (5 : Int32))), .val (.int (HMod.hMod (p3 &&& (2147483647 : Int32)) (5 : Int32))), .unset, .unset, .unset, .unset, .unset, .unset, .unset, .unset, .unset] [(.int (HMod.hMod (p1 &&& (2147483647 : Int32)) (5 : Int32)))])) _
    refine st4 _ ?_
    show Steps p.tables e below (T4.setTop (mkF m 27 #[.val (.int p1), .val (.int p2), .val (.int p3), .val (.int (HMod.hMod (p1 &&& (2147483647 : Int32)) (5 : Int32))), .val (.int (HMod.hMod (p2 &&& (2147483647 : Int32)) (5 : Int32))), .val (.int (HMod.hMod (p3 &&& (2147483647 : Int32)) (5 : Int32))), .unset, .unset, .unset, .unset, .unset, .unset, .unset, .unset, .unset] [(.ref pp)])) _
    refine XS.astore X4.here hx rfl (hb hby at_27) rfl rfl (l' := #[.val (.int p1), .val (.int p2), .val (.int p3), .val (.int (HMod.hMod (p1 &&& (2147483647 : Int32)) (5 : Int32))), .val (.int (HMod.hMod (p2 &&& (2147483647 : Int32)) (5 : Int32))), .val (.int (HMod.hMod (p3 &&& (2147483647 : Int32)) (5 : Int32))), .val (.ref pp), .unset, .unset, .unset, .unset, .unset, .unset, .unset, .unset]) rfl ?_
    show Steps p.tables e below (T4.setTop (mkF m 29 #[.val (.int p1), .val (.int p2), .val (.int p3), .val (.int (HMod.hMod (p1 &&& (2147483647 : Int32)) (5 : Int32))), .val (.int (HMod.hMod (p2 &&& (2147483647 : Int32)) (5 : Int32))), .val (.int (HMod.hMod (p3 &&& (2147483647 : Int32)) (5 : Int32))), .val (.ref pp), .unset, .unset, .unset, .unset, .unset, .unset, .unset, .unset] [])) _
    refine XS.iload X4.here hx rfl (hb hby at_29) rfl ?_
    show Steps p.tables e below (T4.setTop (mkF m 31 #[.val (.int p1), .val (.int p2), .val (.int p3), .val (.int (HMod.hMod (p1 &&& (2147483647 : Int32)) (5 : Int32))), .val (.int (HMod.hMod (p2 &&& (2147483647 : Int32)) (5 : Int32))), .val (.int (HMod.hMod (p3 &&& (2147483647 : Int32)) (5 : Int32))), .val (.ref pp), .unset, .unset, .unset, .unset, .unset, .unset, .unset, .unset] [(.int (HMod.hMod (p2 &&& (2147483647 : Int32)) (5 : Int32)))])) _
    refine st5 _ ?_
    show Steps p.tables e below (T5.setTop (mkF m 34 #[.val (.int p1), .val (.int p2), .val (.int p3), .val (.int (HMod.hMod (p1 &&& (2147483647 : Int32)) (5 : Int32))), .val (.int (HMod.hMod (p2 &&& (2147483647 : Int32)) (5 : Int32))), .val (.int (HMod.hMod (p3 &&& (2147483647 : Int32)) (5 : Int32))), .val (.ref pp), .unset, .unset, .unset, .unset, .unset, .unset, .unset, .unset] [(.ref qq)])) _
    refine XS.astore X5.here hx rfl (hb hby at_34) rfl rfl (l' := #[.val (.int p1), .val (.int p2), .val (.int p3), .val (.int (HMod.hMod (p1 &&& (2147483647 : Int32)) (5 : Int32))), .val (.int (HMod.hMod (p2 &&& (2147483647 : Int32)) (5 : Int32))), .val (.int (HMod.hMod (p3 &&& (2147483647 : Int32)) (5 : Int32))), .val (.ref pp), .val (.ref qq), .unset, .unset, .unset, .unset, .unset, .unset, .unset]) rfl ?_
    show Steps p.tables e below (T5.setTop (mkF m 36 #[.val (.int p1), .val (.int p2), .val (.int p3), .val (.int (HMod.hMod (p1 &&& (2147483647 : Int32)) (5 : Int32))), .val (.int (HMod.hMod (p2 &&& (2147483647 : Int32)) (5 : Int32))), .val (.int (HMod.hMod (p3 &&& (2147483647 : Int32)) (5 : Int32))), .val (.ref pp), .val (.ref qq), .unset, .unset, .unset, .unset, .unset, .unset, .unset] [])) _
    refine XS.iload X5.here hx rfl (hb hby at_36) rfl ?_
    show Steps p.tables e below (T5.setTop (mkF m 38 #[.val (.int p1), .val (.int p2), .val (.int p3), .val (.int (HMod.hMod (p1 &&& (2147483647 : Int32)) (5 : Int32))), .val (.int (HMod.hMod (p2 &&& (2147483647 : Int32)) (5 : Int32))), .val (.int (HMod.hMod (p3 &&& (2147483647 : Int32)) (5 : Int32))), .val (.ref pp), .val (.ref qq), .unset, .unset, .unset, .unset, .unset, .unset, .unset] [(.int (HMod.hMod (p3 &&& (2147483647 : Int32)) (5 : Int32)))])) _
    refine st6 _ ?_
    show Steps p.tables e below (T6.setTop (mkF m 41 #[.val (.int p1), .val (.int p2), .val (.int p3), .val (.int (HMod.hMod (p1 &&& (2147483647 : Int32)) (5 : Int32))), .val (.int (HMod.hMod (p2 &&& (2147483647 : Int32)) (5 : Int32))), .val (.int (HMod.hMod (p3 &&& (2147483647 : Int32)) (5 : Int32))), .val (.ref pp), .val (.ref qq), .unset, .unset, .unset, .unset, .unset, .unset, .unset] [(.ref rr)])) _
    refine XS.astore X6.here hx rfl (hb hby at_41) rfl rfl (l' := #[.val (.int p1), .val (.int p2), .val (.int p3), .val (.int (HMod.hMod (p1 &&& (2147483647 : Int32)) (5 : Int32))), .val (.int (HMod.hMod (p2 &&& (2147483647 : Int32)) (5 : Int32))), .val (.int (HMod.hMod (p3 &&& (2147483647 : Int32)) (5 : Int32))), .val (.ref pp), .val (.ref qq), .val (.ref rr), .unset, .unset, .unset, .unset, .unset, .unset]) rfl ?_
    show Steps p.tables e below (T6.setTop (mkF m 43 #[.val (.int p1), .val (.int p2), .val (.int p3), .val (.int (HMod.hMod (p1 &&& (2147483647 : Int32)) (5 : Int32))), .val (.int (HMod.hMod (p2 &&& (2147483647 : Int32)) (5 : Int32))), .val (.int (HMod.hMod (p3 &&& (2147483647 : Int32)) (5 : Int32))), .val (.ref pp), .val (.ref qq), .val (.ref rr), .unset, .unset, .unset, .unset, .unset, .unset] [])) _
    refine XS.aload X6.here hx rfl (hb hby at_43) rfl rfl ?_
    show Steps p.tables e below (T6.setTop (mkF m 45 #[.val (.int p1), .val (.int p2), .val (.int p3), .val (.int (HMod.hMod (p1 &&& (2147483647 : Int32)) (5 : Int32))), .val (.int (HMod.hMod (p2 &&& (2147483647 : Int32)) (5 : Int32))), .val (.int (HMod.hMod (p3 &&& (2147483647 : Int32)) (5 : Int32))), .val (.ref pp), .val (.ref qq), .val (.ref rr), .unset, .unset, .unset, .unset, .unset, .unset] [(.ref pp)])) _
    refine XS.aload X6.here hx rfl (hb hby at_45) rfl rfl ?_
    show Steps p.tables e below (T6.setTop (mkF m 47 #[.val (.int p1), .val (.int p2), .val (.int p3), .val (.int (HMod.hMod (p1 &&& (2147483647 : Int32)) (5 : Int32))), .val (.int (HMod.hMod (p2 &&& (2147483647 : Int32)) (5 : Int32))), .val (.int (HMod.hMod (p3 &&& (2147483647 : Int32)) (5 : Int32))), .val (.ref pp), .val (.ref qq), .val (.ref rr), .unset, .unset, .unset, .unset, .unset, .unset] [(.ref qq), (.ref pp)])) _
    refine st7.trans ?_
    show Steps p.tables e below (T7.setTop (mkF m 50 #[.val (.int p1), .val (.int p2), .val (.int p3), .val (.int (HMod.hMod (p1 &&& (2147483647 : Int32)) (5 : Int32))), .val (.int (HMod.hMod (p2 &&& (2147483647 : Int32)) (5 : Int32))), .val (.int (HMod.hMod (p3 &&& (2147483647 : Int32)) (5 : Int32))), .val (.ref pp), .val (.ref qq), .val (.ref rr), .unset, .unset, .unset, .unset, .unset, .unset] [(.int bpq)])) _
    refine XS.istore X7.here hx rfl (hb hby at_50) rfl (l' := #[.val (.int p1), .val (.int p2), .val (.int p3), .val (.int (HMod.hMod (p1 &&& (2147483647 : Int32)) (5 : Int32))), .val (.int (HMod.hMod (p2 &&& (2147483647 : Int32)) (5 : Int32))), .val (.int (HMod.hMod (p3 &&& (2147483647 : Int32)) (5 : Int32))), .val (.ref pp), .val (.ref qq), .val (.ref rr), .val (.int bpq), .unset, .unset, .unset, .unset, .unset]) rfl ?_
    show Steps p.tables e below (T7.setTop (mkF m 52 #[.val (.int p1), .val (.int p2), .val (.int p3), .val (.int (HMod.hMod (p1 &&& (2147483647 : Int32)) (5 : Int32))), .val (.int (HMod.hMod (p2 &&& (2147483647 : Int32)) (5 : Int32))), .val (.int (HMod.hMod (p3 &&& (2147483647 : Int32)) (5 : Int32))), .val (.ref pp), .val (.ref qq), .val (.ref rr), .val (.int bpq), .unset, .unset, .unset, .unset, .unset] [])) _
    refine XS.aload X7.here hx rfl (hb hby at_52) rfl rfl ?_
    show Steps p.tables e below (T7.setTop (mkF m 54 #[.val (.int p1), .val (.int p2), .val (.int p3), .val (.int (HMod.hMod (p1 &&& (2147483647 : Int32)) (5 : Int32))), .val (.int (HMod.hMod (p2 &&& (2147483647 : Int32)) (5 : Int32))), .val (.int (HMod.hMod (p3 &&& (2147483647 : Int32)) (5 : Int32))), .val (.ref pp), .val (.ref qq), .val (.ref rr), .val (.int bpq), .unset, .unset, .unset, .unset, .unset] [(.ref qq)])) _
    refine XS.aload X7.here hx rfl (hb hby at_54) rfl rfl ?_
    show Steps p.tables e below (T7.setTop (mkF m 56 #[.val (.int p1), .val (.int p2), .val (.int p3), .val (.int (HMod.hMod (p1 &&& (2147483647 : Int32)) (5 : Int32))), .val (.int (HMod.hMod (p2 &&& (2147483647 : Int32)) (5 : Int32))), .val (.int (HMod.hMod (p3 &&& (2147483647 : Int32)) (5 : Int32))), .val (.ref pp), .val (.ref qq), .val (.ref rr), .val (.int bpq), .unset, .unset, .unset, .unset, .unset] [(.ref pp), (.ref qq)])) _
    refine st8.trans ?_
    show Steps p.tables e below (T8.setTop (mkF m 59 #[.val (.int p1), .val (.int p2), .val (.int p3), .val (.int (HMod.hMod (p1 &&& (2147483647 : Int32)) (5 : Int32))), .val (.int (HMod.hMod (p2 &&& (2147483647 : Int32)) (5 : Int32))), .val (.int (HMod.hMod (p3 &&& (2147483647 : Int32)) (5 : Int32))), .val (.ref pp), .val (.ref qq), .val (.ref rr), .val (.int bpq), .unset, .unset, .unset, .unset, .unset] [(.int bqp)])) _
    refine XS.istore X8.here hx rfl (hb hby at_59) rfl (l' := #[.val (.int p1), .val (.int p2), .val (.int p3), .val (.int (HMod.hMod (p1 &&& (2147483647 : Int32)) (5 : Int32))), .val (.int (HMod.hMod (p2 &&& (2147483647 : Int32)) (5 : Int32))), .val (.int (HMod.hMod (p3 &&& (2147483647 : Int32)) (5 : Int32))), .val (.ref pp), .val (.ref qq), .val (.ref rr), .val (.int bpq), .val (.int bqp), .unset, .unset, .unset, .unset]) rfl ?_
    show Steps p.tables e below (T8.setTop (mkF m 61 #[.val (.int p1), .val (.int p2), .val (.int p3), .val (.int (HMod.hMod (p1 &&& (2147483647 : Int32)) (5 : Int32))), .val (.int (HMod.hMod (p2 &&& (2147483647 : Int32)) (5 : Int32))), .val (.int (HMod.hMod (p3 &&& (2147483647 : Int32)) (5 : Int32))), .val (.ref pp), .val (.ref qq), .val (.ref rr), .val (.int bpq), .val (.int bqp), .unset, .unset, .unset, .unset] [])) _
    refine XS.aload X8.here hx rfl (hb hby at_61) rfl rfl ?_
    show Steps p.tables e below (T8.setTop (mkF m 63 #[.val (.int p1), .val (.int p2), .val (.int p3), .val (.int (HMod.hMod (p1 &&& (2147483647 : Int32)) (5 : Int32))), .val (.int (HMod.hMod (p2 &&& (2147483647 : Int32)) (5 : Int32))), .val (.int (HMod.hMod (p3 &&& (2147483647 : Int32)) (5 : Int32))), .val (.ref pp), .val (.ref qq), .val (.ref rr), .val (.int bpq), .val (.int bqp), .unset, .unset, .unset, .unset] [(.ref qq)])) _
    refine XS.aload X8.here hx rfl (hb hby at_63) rfl rfl ?_
    show Steps p.tables e below (T8.setTop (mkF m 65 #[.val (.int p1), .val (.int p2), .val (.int p3), .val (.int (HMod.hMod (p1 &&& (2147483647 : Int32)) (5 : Int32))), .val (.int (HMod.hMod (p2 &&& (2147483647 : Int32)) (5 : Int32))), .val (.int (HMod.hMod (p3 &&& (2147483647 : Int32)) (5 : Int32))), .val (.ref pp), .val (.ref qq), .val (.ref rr), .val (.int bpq), .val (.int bqp), .unset, .unset, .unset, .unset] [(.ref rr), (.ref qq)])) _
    refine st9.trans ?_
    show Steps p.tables e below (T9.setTop (mkF m 68 #[.val (.int p1), .val (.int p2), .val (.int p3), .val (.int (HMod.hMod (p1 &&& (2147483647 : Int32)) (5 : Int32))), .val (.int (HMod.hMod (p2 &&& (2147483647 : Int32)) (5 : Int32))), .val (.int (HMod.hMod (p3 &&& (2147483647 : Int32)) (5 : Int32))), .val (.ref pp), .val (.ref qq), .val (.ref rr), .val (.int bpq), .val (.int bqp), .unset, .unset, .unset, .unset] [(.int bqr)])) _
    refine XS.istore X9.here hx rfl (hb hby at_68) rfl (l' := #[.val (.int p1), .val (.int p2), .val (.int p3), .val (.int (HMod.hMod (p1 &&& (2147483647 : Int32)) (5 : Int32))), .val (.int (HMod.hMod (p2 &&& (2147483647 : Int32)) (5 : Int32))), .val (.int (HMod.hMod (p3 &&& (2147483647 : Int32)) (5 : Int32))), .val (.ref pp), .val (.ref qq), .val (.ref rr), .val (.int bpq), .val (.int bqp), .val (.int bqr), .unset, .unset, .unset]) rfl ?_
    show Steps p.tables e below (T9.setTop (mkF m 70 #[.val (.int p1), .val (.int p2), .val (.int p3), .val (.int (HMod.hMod (p1 &&& (2147483647 : Int32)) (5 : Int32))), .val (.int (HMod.hMod (p2 &&& (2147483647 : Int32)) (5 : Int32))), .val (.int (HMod.hMod (p3 &&& (2147483647 : Int32)) (5 : Int32))), .val (.ref pp), .val (.ref qq), .val (.ref rr), .val (.int bpq), .val (.int bqp), .val (.int bqr), .unset, .unset, .unset] [])) _
    refine XS.aload X9.here hx rfl (hb hby at_70) rfl rfl ?_
    show Steps p.tables e below (T9.setTop (mkF m 72 #[.val (.int p1), .val (.int p2), .val (.int p3), .val (.int (HMod.hMod (p1 &&& (2147483647 : Int32)) (5 : Int32))), .val (.int (HMod.hMod (p2 &&& (2147483647 : Int32)) (5 : Int32))), .val (.int (HMod.hMod (p3 &&& (2147483647 : Int32)) (5 : Int32))), .val (.ref pp), .val (.ref qq), .val (.ref rr), .val (.int bpq), .val (.int bqp), .val (.int bqr), .unset, .unset, .unset] [(.ref pp)])) _
    refine XS.aload X9.here hx rfl (hb hby at_72) rfl rfl ?_
    show Steps p.tables e below (T9.setTop (mkF m 74 #[.val (.int p1), .val (.int p2), .val (.int p3), .val (.int (HMod.hMod (p1 &&& (2147483647 : Int32)) (5 : Int32))), .val (.int (HMod.hMod (p2 &&& (2147483647 : Int32)) (5 : Int32))), .val (.int (HMod.hMod (p3 &&& (2147483647 : Int32)) (5 : Int32))), .val (.ref pp), .val (.ref qq), .val (.ref rr), .val (.int bpq), .val (.int bqp), .val (.int bqr), .unset, .unset, .unset] [(.ref rr), (.ref pp)])) _
    refine st10.trans ?_
    show Steps p.tables e below (T10.setTop (mkF m 77 #[.val (.int p1), .val (.int p2), .val (.int p3), .val (.int (HMod.hMod (p1 &&& (2147483647 : Int32)) (5 : Int32))), .val (.int (HMod.hMod (p2 &&& (2147483647 : Int32)) (5 : Int32))), .val (.int (HMod.hMod (p3 &&& (2147483647 : Int32)) (5 : Int32))), .val (.ref pp), .val (.ref qq), .val (.ref rr), .val (.int bpq), .val (.int bqp), .val (.int bqr), .unset, .unset, .unset] [(.int bpr)])) _
    refine XS.istore X10.here hx rfl (hb hby at_77) rfl (l' := #[.val (.int p1), .val (.int p2), .val (.int p3), .val (.int (HMod.hMod (p1 &&& (2147483647 : Int32)) (5 : Int32))), .val (.int (HMod.hMod (p2 &&& (2147483647 : Int32)) (5 : Int32))), .val (.int (HMod.hMod (p3 &&& (2147483647 : Int32)) (5 : Int32))), .val (.ref pp), .val (.ref qq), .val (.ref rr), .val (.int bpq), .val (.int bqp), .val (.int bqr), .val (.int bpr), .unset, .unset]) rfl ?_
    show Steps p.tables e below (T10.setTop (mkF m 79 #[.val (.int p1), .val (.int p2), .val (.int p3), .val (.int (HMod.hMod (p1 &&& (2147483647 : Int32)) (5 : Int32))), .val (.int (HMod.hMod (p2 &&& (2147483647 : Int32)) (5 : Int32))), .val (.int (HMod.hMod (p3 &&& (2147483647 : Int32)) (5 : Int32))), .val (.ref pp), .val (.ref qq), .val (.ref rr), .val (.int bpq), .val (.int bqp), .val (.int bqr), .val (.int bpr), .unset, .unset] [])) _
    refine XS.aload X10.here hx rfl (hb hby at_79) rfl rfl ?_
    show Steps p.tables e below (T10.setTop (mkF m 81 #[.val (.int p1), .val (.int p2), .val (.int p3), .val (.int (HMod.hMod (p1 &&& (2147483647 : Int32)) (5 : Int32))), .val (.int (HMod.hMod (p2 &&& (2147483647 : Int32)) (5 : Int32))), .val (.int (HMod.hMod (p3 &&& (2147483647 : Int32)) (5 : Int32))), .val (.ref pp), .val (.ref qq), .val (.ref rr), .val (.int bpq), .val (.int bqp), .val (.int bqr), .val (.int bpr), .unset, .unset] [(.ref pp)])) _
    refine XS.aload X10.here hx rfl (hb hby at_81) rfl rfl ?_
    show Steps p.tables e below (T10.setTop (mkF m 83 #[.val (.int p1), .val (.int p2), .val (.int p3), .val (.int (HMod.hMod (p1 &&& (2147483647 : Int32)) (5 : Int32))), .val (.int (HMod.hMod (p2 &&& (2147483647 : Int32)) (5 : Int32))), .val (.int (HMod.hMod (p3 &&& (2147483647 : Int32)) (5 : Int32))), .val (.ref pp), .val (.ref qq), .val (.ref rr), .val (.int bpq), .val (.int bqp), .val (.int bqr), .val (.int bpr), .unset, .unset] [(.ref pp), (.ref pp)])) _
    refine st11.trans ?_
    show Steps p.tables e below (T11.setTop (mkF m 86 #[.val (.int p1), .val (.int p2), .val (.int p3), .val (.int (HMod.hMod (p1 &&& (2147483647 : Int32)) (5 : Int32))), .val (.int (HMod.hMod (p2 &&& (2147483647 : Int32)) (5 : Int32))), .val (.int (HMod.hMod (p3 &&& (2147483647 : Int32)) (5 : Int32))), .val (.ref pp), .val (.ref qq), .val (.ref rr), .val (.int bpq), .val (.int bqp), .val (.int bqr), .val (.int bpr), .unset, .unset] [(.int bpp)])) _
    refine XS.istore X11.here hx rfl (hb hby at_86) rfl (l' := #[.val (.int p1), .val (.int p2), .val (.int p3), .val (.int (HMod.hMod (p1 &&& (2147483647 : Int32)) (5 : Int32))), .val (.int (HMod.hMod (p2 &&& (2147483647 : Int32)) (5 : Int32))), .val (.int (HMod.hMod (p3 &&& (2147483647 : Int32)) (5 : Int32))), .val (.ref pp), .val (.ref qq), .val (.ref rr), .val (.int bpq), .val (.int bqp), .val (.int bqr), .val (.int bpr), .val (.int bpp), .unset]) rfl ?_
    show Steps p.tables e below (T11.setTop (mkF m 88 #[.val (.int p1), .val (.int p2), .val (.int p3), .val (.int (HMod.hMod (p1 &&& (2147483647 : Int32)) (5 : Int32))), .val (.int (HMod.hMod (p2 &&& (2147483647 : Int32)) (5 : Int32))), .val (.int (HMod.hMod (p3 &&& (2147483647 : Int32)) (5 : Int32))), .val (.ref pp), .val (.ref qq), .val (.ref rr), .val (.int bpq), .val (.int bqp), .val (.int bqr), .val (.int bpr), .val (.int bpp), .unset] [])) _
    refine XS.iloadN X11.here hx rfl (hb hby at_88) rfl ?_
    show Steps p.tables e below (T11.setTop (mkF m 89 #[.val (.int p1), .val (.int p2), .val (.int p3), .val (.int (HMod.hMod (p1 &&& (2147483647 : Int32)) (5 : Int32))), .val (.int (HMod.hMod (p2 &&& (2147483647 : Int32)) (5 : Int32))), .val (.int (HMod.hMod (p3 &&& (2147483647 : Int32)) (5 : Int32))), .val (.ref pp), .val (.ref qq), .val (.ref rr), .val (.int bpq), .val (.int bqp), .val (.int bqr), .val (.int bpr), .val (.int bpp), .unset] [(.int (HMod.hMod (p1 &&& (2147483647 : Int32)) (5 : Int32)))])) _
    refine XS.iload X11.here hx rfl (hb hby at_89) rfl ?_
    show Steps p.tables e below (T11.setTop (mkF m 91 #[.val (.int p1), .val (.int p2), .val (.int p3), .val (.int (HMod.hMod (p1 &&& (2147483647 : Int32)) (5 : Int32))), .val (.int (HMod.hMod (p2 &&& (2147483647 : Int32)) (5 : Int32))), .val (.int (HMod.hMod (p3 &&& (2147483647 : Int32)) (5 : Int32))), .val (.ref pp), .val (.ref qq), .val (.ref rr), .val (.int bpq), .val (.int bqp), .val (.int bqr), .val (.int bpr), .val (.int bpp), .unset] [(.int (HMod.hMod (p2 &&& (2147483647 : Int32)) (5 : Int32))), (.int (HMod.hMod (p1 &&& (2147483647 : Int32)) (5 : Int32)))])) _
    refine XS.icmpNo X11.here hx rfl (hb hby at_91) rfl (feq hc91).1 ?_
    show Steps p.tables e below (T11.setTop (mkF m 94 #[.val (.int p1), .val (.int p2), .val (.int p3), .val (.int (HMod.hMod (p1 &&& (2147483647 : Int32)) (5 : Int32))), .val (.int (HMod.hMod (p2 &&& (2147483647 : Int32)) (5 : Int32))), .val (.int (HMod.hMod (p3 &&& (2147483647 : Int32)) (5 : Int32))), .val (.ref pp), .val (.ref qq), .val (.ref rr), .val (.int bpq), .val (.int bqp), .val (.int bqr), .val (.int bpr), .val (.int bpp), .unset] [])) _
    refine XS.iloadN X11.here hx rfl (hb hby at_94) rfl ?_
    show Steps p.tables e below (T11.setTop (mkF m 95 #[.val (.int p1), .val (.int p2), .val (.int p3), .val (.int (HMod.hMod (p1 &&& (2147483647 : Int32)) (5 : Int32))), .val (.int (HMod.hMod (p2 &&& (2147483647 : Int32)) (5 : Int32))), .val (.int (HMod.hMod (p3 &&& (2147483647 : Int32)) (5 : Int32))), .val (.ref pp), .val (.ref qq), .val (.ref rr), .val (.int bpq), .val (.int bqp), .val (.int bqr), .val (.int bpr), .val (.int bpp), .unset] [(.int (HMod.hMod (p1 &&& (2147483647 : Int32)) (5 : Int32)))])) _
    refine XS.iconst X11.here hx rfl (hb hby at_95) ?_
    show Steps p.tables e below (T11.setTop (mkF m 96 #[.val (.int p1), .val (.int p2), .val (.int p3), .val (.int (HMod.hMod (p1 &&& (2147483647 : Int32)) (5 : Int32))), .val (.int (HMod.hMod (p2 &&& (2147483647 : Int32)) (5 : Int32))), .val (.int (HMod.hMod (p3 &&& (2147483647 : Int32)) (5 : Int32))), .val (.ref pp), .val (.ref qq), .val (.ref rr), .val (.int bpq), .val (.int bqp), .val (.int bqr), .val (.int bpr), .val (.int bpp), .unset] [(.int (2 : Int32)), (.int (HMod.hMod (p1 &&& (2147483647 : Int32)) (5 : Int32)))])) _
    refine XS.icmpYes X11.here hx rfl (pc0 := 96) (pc' := 109) rfl (hb hby at_96) rfl (feq hc96).2 (by decide) (by decide) ?_
    show Steps p.tables e below (T11.setTop (mkF m 109 #[.val (.int p1), .val (.int p2), .val (.int p3), .val (.int (HMod.hMod (p1 &&& (2147483647 : Int32)) (5 : Int32))), .val (.int (HMod.hMod (p2 &&& (2147483647 : Int32)) (5 : Int32))), .val (.int (HMod.hMod (p3 &&& (2147483647 : Int32)) (5 : Int32))), .val (.ref pp), .val (.ref qq), .val (.ref rr), .val (.int bpq), .val (.int bqp), .val (.int bqr), .val (.int bpr), .val (.int bpp), .unset] [])) _
    refine XS.iconst X11.here hx rfl (hb hby at_109) ?_
    show Steps p.tables e below (T11.setTop (mkF m 110 #[.val (.int p1), .val (.int p2), .val (.int p3), .val (.int (HMod.hMod (p1 &&& (2147483647 : Int32)) (5 : Int32))), .val (.int (HMod.hMod (p2 &&& (2147483647 : Int32)) (5 : Int32))), .val (.int (HMod.hMod (p3 &&& (2147483647 : Int32)) (5 : Int32))), .val (.ref pp), .val (.ref qq), .val (.ref rr), .val (.int bpq), .val (.int bqp), .val (.int bqr), .val (.int bpr), .val (.int bpp), .unset] [(.int (0 : Int32))])) _
    refine XS.istore X11.here hx rfl (hb hby at_110) rfl (l' := #[.val (.int p1), .val (.int p2), .val (.int p3), .val (.int (HMod.hMod (p1 &&& (2147483647 : Int32)) (5 : Int32))), .val (.int (HMod.hMod (p2 &&& (2147483647 : Int32)) (5 : Int32))), .val (.int (HMod.hMod (p3 &&& (2147483647 : Int32)) (5 : Int32))), .val (.ref pp), .val (.ref qq), .val (.ref rr), .val (.int bpq), .val (.int bqp), .val (.int bqr), .val (.int bpr), .val (.int bpp), .val (.int (0 : Int32))]) rfl ?_
    show Steps p.tables e below (T11.setTop (mkF m 112 #[.val (.int p1), .val (.int p2), .val (.int p3), .val (.int (HMod.hMod (p1 &&& (2147483647 : Int32)) (5 : Int32))), .val (.int (HMod.hMod (p2 &&& (2147483647 : Int32)) (5 : Int32))), .val (.int (HMod.hMod (p3 &&& (2147483647 : Int32)) (5 : Int32))), .val (.ref pp), .val (.ref qq), .val (.ref rr), .val (.int bpq), .val (.int bqp), .val (.int bqr), .val (.int bpr), .val (.int bpp), .val (.int (0 : Int32))] [])) _
    refine XS.iload X11.here hx rfl (hb hby at_112) rfl ?_
    show Steps p.tables e below (T11.setTop (mkF m 114 #[.val (.int p1), .val (.int p2), .val (.int p3), .val (.int (HMod.hMod (p1 &&& (2147483647 : Int32)) (5 : Int32))), .val (.int (HMod.hMod (p2 &&& (2147483647 : Int32)) (5 : Int32))), .val (.int (HMod.hMod (p3 &&& (2147483647 : Int32)) (5 : Int32))), .val (.ref pp), .val (.ref qq), .val (.ref rr), .val (.int bpq), .val (.int bqp), .val (.int bqr), .val (.int bpr), .val (.int bpp), .val (.int (0 : Int32))] [(.int bpq)])) _
    refine XS.iload X11.here hx rfl (hb hby at_114) rfl ?_
    show Steps p.tables e below (T11.setTop (mkF m 116 #[.val (.int p1), .val (.int p2), .val (.int p3), .val (.int (HMod.hMod (p1 &&& (2147483647 : Int32)) (5 : Int32))), .val (.int (HMod.hMod (p2 &&& (2147483647 : Int32)) (5 : Int32))), .val (.int (HMod.hMod (p3 &&& (2147483647 : Int32)) (5 : Int32))), .val (.ref pp), .val (.ref qq), .val (.ref rr), .val (.int bpq), .val (.int bqp), .val (.int bqr), .val (.int bpr), .val (.int bpp), .val (.int (0 : Int32))] [(.int (0 : Int32)), (.int bpq)])) _
    refine XS.icmpYes X11.here hx rfl (pc0 := 116) (pc' := 121) rfl (hb hby at_116) rfl (teq hx1).1 (by decide) (by decide) ?_
    show Steps p.tables e below (T11.setTop (mkF m 121 #[.val (.int p1), .val (.int p2), .val (.int p3), .val (.int (HMod.hMod (p1 &&& (2147483647 : Int32)) (5 : Int32))), .val (.int (HMod.hMod (p2 &&& (2147483647 : Int32)) (5 : Int32))), .val (.int (HMod.hMod (p3 &&& (2147483647 : Int32)) (5 : Int32))), .val (.ref pp), .val (.ref qq), .val (.ref rr), .val (.int bpq), .val (.int bqp), .val (.int bqr), .val (.int bpr), .val (.int bpp), .val (.int (0 : Int32))] [])) _
    refine XS.iload X11.here hx rfl (hb hby at_121) rfl ?_
    show Steps p.tables e below (T11.setTop (mkF m 123 #[.val (.int p1), .val (.int p2), .val (.int p3), .val (.int (HMod.hMod (p1 &&& (2147483647 : Int32)) (5 : Int32))), .val (.int (HMod.hMod (p2 &&& (2147483647 : Int32)) (5 : Int32))), .val (.int (HMod.hMod (p3 &&& (2147483647 : Int32)) (5 : Int32))), .val (.ref pp), .val (.ref qq), .val (.ref rr), .val (.int bpq), .val (.int bqp), .val (.int bqr), .val (.int bpr), .val (.int bpp), .val (.int (0 : Int32))] [(.int bpp)])) _
    refine XS.ifYes X11.here hx rfl (pc0 := 123) (pc' := 128) rfl (hb hby at_123) rfl ((if0 _ _).trans (feq hx2).2) (by decide) (by decide) ?_
    show Steps p.tables e below (T11.setTop (mkF m 128 #[.val (.int p1), .val (.int p2), .val (.int p3), .val (.int (HMod.hMod (p1 &&& (2147483647 : Int32)) (5 : Int32))), .val (.int (HMod.hMod (p2 &&& (2147483647 : Int32)) (5 : Int32))), .val (.int (HMod.hMod (p3 &&& (2147483647 : Int32)) (5 : Int32))), .val (.ref pp), .val (.ref qq), .val (.ref rr), .val (.int bpq), .val (.int bqp), .val (.int bqr), .val (.int bpr), .val (.int bpp), .val (.int (0 : Int32))] [])) _
    refine XS.iload X11.here hx rfl (hb hby at_128) rfl ?_
    show Steps p.tables e below (T11.setTop (mkF m 130 #[.val (.int p1), .val (.int p2), .val (.int p3), .val (.int (HMod.hMod (p1 &&& (2147483647 : Int32)) (5 : Int32))), .val (.int (HMod.hMod (p2 &&& (2147483647 : Int32)) (5 : Int32))), .val (.int (HMod.hMod (p3 &&& (2147483647 : Int32)) (5 : Int32))), .val (.ref pp), .val (.ref qq), .val (.ref rr), .val (.int bpq), .val (.int bqp), .val (.int bqr), .val (.int bpr), .val (.int bpp), .val (.int (0 : Int32))] [(.int bpq)])) _
    refine XS.ifYes X11.here hx rfl (pc0 := 130) (pc' := 147) rfl (hb hby at_130) rfl ((if0 _ _).trans (teq hx3).1) (by decide) (by decide) ?_
    show Steps p.tables e below (T11.setTop (mkF m 147 #[.val (.int p1), .val (.int p2), .val (.int p3), .val (.int (HMod.hMod (p1 &&& (2147483647 : Int32)) (5 : Int32))), .val (.int (HMod.hMod (p2 &&& (2147483647 : Int32)) (5 : Int32))), .val (.int (HMod.hMod (p3 &&& (2147483647 : Int32)) (5 : Int32))), .val (.ref pp), .val (.ref qq), .val (.ref rr), .val (.int bpq), .val (.int bqp), .val (.int bqr), .val (.int bpr), .val (.int bpp), .val (.int (0 : Int32))] [])) _
    refine XS.iload X11.here hx rfl (hb hby at_147) rfl ?_
    show Steps p.tables e below (T11.setTop (mkF m 149 #[.val (.int p1), .val (.int p2), .val (.int p3), .val (.int (HMod.hMod (p1 &&& (2147483647 : Int32)) (5 : Int32))), .val (.int (HMod.hMod (p2 &&& (2147483647 : Int32)) (5 : Int32))), .val (.int (HMod.hMod (p3 &&& (2147483647 : Int32)) (5 : Int32))), .val (.ref pp), .val (.ref qq), .val (.ref rr), .val (.int bpq), .val (.int bqp), .val (.int bqr), .val (.int bpr), .val (.int bpp), .val (.int (0 : Int32))] [(.int bpq)])) _
    refine XS.ifYes X11.here hx rfl (pc0 := 149) (pc' := 164) rfl (hb hby at_149) rfl ((if0 _ _).trans (teq hx4).1) (by decide) (by decide) ?_
    show Steps p.tables e below (T11.setTop (mkF m 164 #[.val (.int p1), .val (.int p2), .val (.int p3), .val (.int (HMod.hMod (p1 &&& (2147483647 : Int32)) (5 : Int32))), .val (.int (HMod.hMod (p2 &&& (2147483647 : Int32)) (5 : Int32))), .val (.int (HMod.hMod (p3 &&& (2147483647 : Int32)) (5 : Int32))), .val (.ref pp), .val (.ref qq), .val (.ref rr), .val (.int bpq), .val (.int bqp), .val (.int bqr), .val (.int bpr), .val (.int bpp), .val (.int (0 : Int32))] [])) _
    refine XS.iconst X11.here hx rfl (hb hby at_164) ?_
    show Steps p.tables e below (T11.setTop (mkF m 165 #[.val (.int p1), .val (.int p2), .val (.int p3), .val (.int (HMod.hMod (p1 &&& (2147483647 : Int32)) (5 : Int32))), .val (.int (HMod.hMod (p2 &&& (2147483647 : Int32)) (5 : Int32))), .val (.int (HMod.hMod (p3 &&& (2147483647 : Int32)) (5 : Int32))), .val (.ref pp), .val (.ref qq), .val (.ref rr), .val (.int bpq), .val (.int bqp), .val (.int bqr), .val (.int bpr), .val (.int bpp), .val (.int (0 : Int32))] [(.int (1 : Int32))])) _
    exact retN X11 hx (t := .boolean) Bd.returns (by simp) (hb hby at_165) hr
  · show Q0B Z p1 p2 p3 h0 n0 _ T11.heap _
    exact ⟨rfl, N11⟩
def Q0C (Z : State) (p1 : Int32) (p2 : Int32) (p3 : Int32) (h0 : Heap) (n0 : Nat) (v : Option Value) (h : Heap) (L : List Loc) : Prop := v = some (.int (1 : Int32)) ∧ Fr n0 L
set_option maxRecDepth 65536 in
set_option maxHeartbeats 40000000 in
theorem rm0C (l : Launch) (Z : State) (a0 : Array Value) (hw : ∀ d ∈ tables_1, d.before a0 Z = true) (ws : List Jvm.Cond) (p1 : Int32) (p2 : Int32) (p3 : Int32) (u1 : Addr) (u2 : Addr) (u3 : Addr) (u4 : Addr) (u5 : Addr) (pp : Addr) (qq : Addr) (rr : Addr) (Cp : String) (Cq : String) (bpq : Int32) (bqp : Int32) (bqr : Int32) (bpr : Int32) (bpp : Int32) (h0 : Heap) (n0 : Nat) (Z0 : n0 ≤ h0.size) (S_STRING : Sta Z h0 "com/example/nereus/nereus/Domain" "STRING" "Lcom/example/nereus/nereus/Domain;" (.ref u1)) (S_INTEGER : Sta Z h0 "com/example/nereus/nereus/Domain" "INTEGER" "Lcom/example/nereus/nereus/Domain;" (.ref u2)) (S_DECIMAL : Sta Z h0 "com/example/nereus/nereus/Domain" "DECIMAL" "Lcom/example/nereus/nereus/Domain;" (.ref u3)) (S_BOOLEAN : Sta Z h0 "com/example/nereus/nereus/Domain" "BOOLEAN" "Lcom/example/nereus/nereus/Domain;" (.ref u4)) (S_DATETIME : Sta Z h0 "com/example/nereus/nereus/Domain" "DATETIME" "Lcom/example/nereus/nereus/Domain;" (.ref u5)) (E_u1 : Exa Z h0 u1 "com/example/nereus/nereus/Domain$1") (E_u2 : Exa Z h0 u2 "com/example/nereus/nereus/Domain$2") (E_u3 : Exa Z h0 u3 "com/example/nereus/nereus/Domain$3") (E_u4 : Exa Z h0 u4 "com/example/nereus/nereus/Domain$4") (E_u5 : Exa Z h0 u5 "com/example/nereus/nereus/Domain$5") (E_pp : Exa Z h0 pp Cp) (E_qq : Exa Z h0 qq Cq) (sel_p : (Jvm.Cond.selects Cp (⟨"com/example/nereus/nereus/Domain", "includes", "(Lcom/example/nereus/nereus/Domain;)Z"⟩ : MethodName) (⟨"com/example/nereus/nereus/Domain", "includes", "(Lcom/example/nereus/nereus/Domain;)Z"⟩ : MethodName)).before a0 Z = true) (sel_q : (Jvm.Cond.selects Cq (⟨"com/example/nereus/nereus/Domain", "includes", "(Lcom/example/nereus/nereus/Domain;)Z"⟩ : MethodName) (⟨"com/example/nereus/nereus/Domain", "includes", "(Lcom/example/nereus/nereus/Domain;)Z"⟩ : MethodName)).before a0 Z = true) (n1 : ¬ (HMod.hMod (p1 &&& (2147483647 : Int32)) (5 : Int32)) < 0) (m1 : (HMod.hMod (p1 &&& (2147483647 : Int32)) (5 : Int32)) < 5) (v1 : ([.ref u1, .ref u2, .ref u3, .ref u4, .ref u5] : List Value).getD (HMod.hMod (p1 &&& (2147483647 : Int32)) (5 : Int32)).toNatClampNeg .null = .ref pp) (n2 : ¬ (HMod.hMod (p2 &&& (2147483647 : Int32)) (5 : Int32)) < 0) (m2 : (HMod.hMod (p2 &&& (2147483647 : Int32)) (5 : Int32)) < 5) (v2 : ([.ref u1, .ref u2, .ref u3, .ref u4, .ref u5] : List Value).getD (HMod.hMod (p2 &&& (2147483647 : Int32)) (5 : Int32)).toNatClampNeg .null = .ref qq) (n3 : ¬ (HMod.hMod (p3 &&& (2147483647 : Int32)) (5 : Int32)) < 0) (m3 : (HMod.hMod (p3 &&& (2147483647 : Int32)) (5 : Int32)) < 5) (v3 : ([.ref u1, .ref u2, .ref u3, .ref u4, .ref u5] : List Value).getD (HMod.hMod (p3 &&& (2147483647 : Int32)) (5 : Int32)).toNatClampNeg .null = .ref rr) (t_bpq : (pp = qq ∨ (pp = u3 ∧ qq = u2)) → bpq = 1) (f_bpq : ¬ (pp = qq ∨ (pp = u3 ∧ qq = u2)) → bpq = 0) (t_bqp : (qq = pp ∨ (qq = u3 ∧ pp = u2)) → bqp = 1) (f_bqp : ¬ (qq = pp ∨ (qq = u3 ∧ pp = u2)) → bqp = 0) (t_bqr : (qq = rr ∨ (qq = u3 ∧ rr = u2)) → bqr = 1) (f_bqr : ¬ (qq = rr ∨ (qq = u3 ∧ rr = u2)) → bqr = 0) (t_bpr : (pp = rr ∨ (pp = u3 ∧ rr = u2)) → bpr = 1) (f_bpr : ¬ (pp = rr ∨ (pp = u3 ∧ rr = u2)) → bpr = 0) (t_bpp : (pp = pp ∨ (pp = u3 ∧ pp = u2)) → bpp = 1) (f_bpp : ¬ (pp = pp ∨ (pp = u3 ∧ pp = u2)) → bpp = 0) (hx1 : bpq = (0 : Int32)) (hx2 : ¬ (bpp = (0 : Int32))) (hx3 : bpq = (0 : Int32)) (hx4 : bpq = (0 : Int32)) (hc91 : ¬ ((HMod.hMod (p1 &&& (2147483647 : Int32)) (5 : Int32)) = (HMod.hMod (p2 &&& (2147483647 : Int32)) (5 : Int32)))) (hc96 : (HMod.hMod (p1 &&& (2147483647 : Int32)) (5 : Int32)) = (2 : Int32)) (hc102 : ¬ ((HMod.hMod (p2 &&& (2147483647 : Int32)) (5 : Int32)) = (1 : Int32))) :
    MetFree l x (head1 (Jvm.Cond.code x code maxLocals ret :: ws) room_1) (fun a U => a = #[(.int p1), (.int p2), (.int p3)] ∧ Z.Warmed39 U.vm ∧ U.heap = h0) (fun _ _ _ _ _ => True) (fun _ U o U' => ∃ v L, o = .returned v ∧ Q0C Z p1 p2 p3 h0 n0 v U'.heap L ∧ FrameEnd U o U' L room_1.cells room_1.slots) := by
  refine MetFree.of_bodySF (plainFor_of_name pn_0) hisR ?_
  intro p e s m args below meth c s₁ Bd hml0 hP hK
  obtain ⟨rfl, hZ, hh⟩ := hP
  have hx := Bd.exec
  have hby := Bd.bytes
  have hml : c.maxLocals = 15 := hml0
  have hown : s.vm.findClass "com/example/nereus/nereus/DomainIncludesPinLaw" = some m.cls := findClass_of_methodNamed Bd.named
  have hnm := (name_of_methodNamed Bd.named Bd.method).1
  have X0 : Stand p l e room_1 s m #[(.int p1), (.int p2), (.int p3)] below meth c s₁ [] 0 0 := Stand.of_body Bd
  have e0 : s₁.heap = h0 := by rw [← hh, Bd.state]; rfl
  have N0 := Fr.nil n0
  have pre0 : ∀ t, Steps p.tables e below (s₁.setTop (mkF m 0 #[.val (.int p1), .val (.int p2), .val (.int p3), .unset, .unset, .unset, .unset, .unset, .unset, .unset, .unset, .unset, .unset, .unset, .unset] [])) t → Steps p.tables e below (s₁.setTop (entryFrame m #[(.int p1), (.int p2), (.int p3)] maxLocals)) t := fun t k => castTop (ef_0 m p1 p2 p3) k
  obtain ⟨_, _, ⟨T4, L4, k4, n4⟩, -, X4, ⟨Lc4, hQ4, l4, y4, z4⟩, st4⟩ := Jvm.LawKit.callS X0 hx (y := (⟨"com/example/nereus/nereus/DomainIncludesPinLaw", "pick", "(I)Lcom/example/nereus/nereus/Domain;"⟩ : MethodName)) hown (mvT hZ (hw _ (List.mem_of_getElem? (i := 1) rfl))) (mvT hZ (hw _ (List.mem_of_getElem? (i := 2) rfl))) (mvT hZ (hw _ (List.mem_of_getElem? (i := 3) rfl))) (mvT hZ (hw _ (List.mem_of_getElem? (i := 4) rfl))) (by decide) (backOf (W := 0) (rm1 l Z a0 hw [] (HMod.hMod (p1 &&& (2147483647 : Int32)) (5 : Int32)) u1 u2 u3 u4 u5 pp h0 n0 Z0 S_STRING S_INTEGER S_DECIMAL S_BOOLEAN S_DATETIME E_u1 E_u2 E_u3 E_u4 E_u5 n1 m1 v1) hZ (hw _ (List.mem_of_getElem? (i := 4) rfl)) (hw _ (List.mem_of_getElem? (i := 3) rfl)) (by decide) (by decide)) (g := (mkF m 24 #[.val (.int p1), .val (.int p2), .val (.int p3), .val (.int (HMod.hMod (p1 &&& (2147483647 : Int32)) (5 : Int32))), .val (.int (HMod.hMod (p2 &&& (2147483647 : Int32)) (5 : Int32))), .val (.int (HMod.hMod (p3 &&& (2147483647 : Int32)) (5 : Int32))), .unset, .unset, .unset, .unset, .unset, .unset, .unset, .unset, .unset] [(.int (HMod.hMod (p1 &&& (2147483647 : Int32)) (5 : Int32)))])) rfl (by rw [hml]; rfl) (argsL := [(.int (HMod.hMod (p1 &&& (2147483647 : Int32)) (5 : Int32)))]) (rest := []) (lenOf pd_0_0 rfl) rfl (by show 2 * 0 + _ ≤ _; exact Nat.le_of_eq rfl) (hb hby at_24) (fun _ _ => ⟨rfl, e0, (Nat.le_of_ble_eq_true rfl), (Nat.le_of_ble_eq_true rfl)⟩)
  dsimp only [Pt.U, Pt.locs, Pt.cells, Pt.slots] at X4 l4 y4 z4 st4 hQ4
  subst l4 y4 z4
  obtain ⟨rfl, N4q, X4x⟩ := hQ4
  replace S_STRING := S_STRING.ext X4x
  replace S_INTEGER := S_INTEGER.ext X4x
  replace S_DECIMAL := S_DECIMAL.ext X4x
  replace S_BOOLEAN := S_BOOLEAN.ext X4x
  replace S_DATETIME := S_DATETIME.ext X4x
  replace E_u1 := E_u1.ext X4x
  replace E_u2 := E_u2.ext X4x
  replace E_u3 := E_u3.ext X4x
  replace E_u4 := E_u4.ext X4x
  replace E_u5 := E_u5.ext X4x
  replace E_pp := E_pp.ext X4x
  replace E_qq := E_qq.ext X4x
  replace Z0 := Nat.le_trans Z0 X4x.1
  have N4 := Fr.app N0 N4q
  obtain ⟨_, _, ⟨T5, L5, k5, n5⟩, -, X5, ⟨Lc5, hQ5, l5, y5, z5⟩, st5⟩ := Jvm.LawKit.callS X4 hx (y := (⟨"com/example/nereus/nereus/DomainIncludesPinLaw", "pick", "(I)Lcom/example/nereus/nereus/Domain;"⟩ : MethodName)) hown (mvT hZ (hw _ (List.mem_of_getElem? (i := 1) rfl))) (mvT hZ (hw _ (List.mem_of_getElem? (i := 2) rfl))) (mvT hZ (hw _ (List.mem_of_getElem? (i := 3) rfl))) (mvT hZ (hw _ (List.mem_of_getElem? (i := 4) rfl))) (by decide) (backOf (W := 0) (rm1 l Z a0 hw [] (HMod.hMod (p2 &&& (2147483647 : Int32)) (5 : Int32)) u1 u2 u3 u4 u5 qq T4.heap n0 Z0 S_STRING S_INTEGER S_DECIMAL S_BOOLEAN S_DATETIME E_u1 E_u2 E_u3 E_u4 E_u5 n2 m2 v2) hZ (hw _ (List.mem_of_getElem? (i := 4) rfl)) (hw _ (List.mem_of_getElem? (i := 3) rfl)) (by decide) (by decide)) (g := (mkF m 31 #[.val (.int p1), .val (.int p2), .val (.int p3), .val (.int (HMod.hMod (p1 &&& (2147483647 : Int32)) (5 : Int32))), .val (.int (HMod.hMod (p2 &&& (2147483647 : Int32)) (5 : Int32))), .val (.int (HMod.hMod (p3 &&& (2147483647 : Int32)) (5 : Int32))), .val (.ref pp), .unset, .unset, .unset, .unset, .unset, .unset, .unset, .unset] [(.int (HMod.hMod (p2 &&& (2147483647 : Int32)) (5 : Int32)))])) rfl (by rw [hml]; rfl) (argsL := [(.int (HMod.hMod (p2 &&& (2147483647 : Int32)) (5 : Int32)))]) (rest := []) (lenOf pd_0_0 rfl) rfl (by show 2 * 0 + _ ≤ _; exact Nat.le_of_eq rfl) (hb hby at_31) (fun _ _ => ⟨rfl, rfl, (Nat.le_of_ble_eq_true rfl), (Nat.le_of_ble_eq_true rfl)⟩)
  dsimp only [Pt.U, Pt.locs, Pt.cells, Pt.slots] at X5 l5 y5 z5 st5 hQ5
  subst l5 y5 z5
  obtain ⟨rfl, N5q, X5x⟩ := hQ5
  replace S_STRING := S_STRING.ext X5x
  replace S_INTEGER := S_INTEGER.ext X5x
  replace S_DECIMAL := S_DECIMAL.ext X5x
  replace S_BOOLEAN := S_BOOLEAN.ext X5x
  replace S_DATETIME := S_DATETIME.ext X5x
  replace E_u1 := E_u1.ext X5x
  replace E_u2 := E_u2.ext X5x
  replace E_u3 := E_u3.ext X5x
  replace E_u4 := E_u4.ext X5x
  replace E_u5 := E_u5.ext X5x
  replace E_pp := E_pp.ext X5x
  replace E_qq := E_qq.ext X5x
  replace Z0 := Nat.le_trans Z0 X5x.1
  have N5 := Fr.app N4 N5q
  obtain ⟨_, _, ⟨T6, L6, k6, n6⟩, -, X6, ⟨Lc6, hQ6, l6, y6, z6⟩, st6⟩ := Jvm.LawKit.callS X5 hx (y := (⟨"com/example/nereus/nereus/DomainIncludesPinLaw", "pick", "(I)Lcom/example/nereus/nereus/Domain;"⟩ : MethodName)) hown (mvT hZ (hw _ (List.mem_of_getElem? (i := 1) rfl))) (mvT hZ (hw _ (List.mem_of_getElem? (i := 2) rfl))) (mvT hZ (hw _ (List.mem_of_getElem? (i := 3) rfl))) (mvT hZ (hw _ (List.mem_of_getElem? (i := 4) rfl))) (by decide) (backOf (W := 0) (rm1 l Z a0 hw [] (HMod.hMod (p3 &&& (2147483647 : Int32)) (5 : Int32)) u1 u2 u3 u4 u5 rr T5.heap n0 Z0 S_STRING S_INTEGER S_DECIMAL S_BOOLEAN S_DATETIME E_u1 E_u2 E_u3 E_u4 E_u5 n3 m3 v3) hZ (hw _ (List.mem_of_getElem? (i := 4) rfl)) (hw _ (List.mem_of_getElem? (i := 3) rfl)) (by decide) (by decide)) (g := (mkF m 38 #[.val (.int p1), .val (.int p2), .val (.int p3), .val (.int (HMod.hMod (p1 &&& (2147483647 : Int32)) (5 : Int32))), .val (.int (HMod.hMod (p2 &&& (2147483647 : Int32)) (5 : Int32))), .val (.int (HMod.hMod (p3 &&& (2147483647 : Int32)) (5 : Int32))), .val (.ref pp), .val (.ref qq), .unset, .unset, .unset, .unset, .unset, .unset, .unset] [(.int (HMod.hMod (p3 &&& (2147483647 : Int32)) (5 : Int32)))])) rfl (by rw [hml]; rfl) (argsL := [(.int (HMod.hMod (p3 &&& (2147483647 : Int32)) (5 : Int32)))]) (rest := []) (lenOf pd_0_0 rfl) rfl (by show 2 * 0 + _ ≤ _; exact Nat.le_of_eq rfl) (hb hby at_38) (fun _ _ => ⟨rfl, rfl, (Nat.le_of_ble_eq_true rfl), (Nat.le_of_ble_eq_true rfl)⟩)
  dsimp only [Pt.U, Pt.locs, Pt.cells, Pt.slots] at X6 l6 y6 z6 st6 hQ6
  subst l6 y6 z6
  obtain ⟨rfl, N6q, X6x⟩ := hQ6
  replace S_STRING := S_STRING.ext X6x
  replace S_INTEGER := S_INTEGER.ext X6x
  replace S_DECIMAL := S_DECIMAL.ext X6x
  replace S_BOOLEAN := S_BOOLEAN.ext X6x
  replace S_DATETIME := S_DATETIME.ext X6x
  replace E_u1 := E_u1.ext X6x
  replace E_u2 := E_u2.ext X6x
  replace E_u3 := E_u3.ext X6x
  replace E_u4 := E_u4.ext X6x
  replace E_u5 := E_u5.ext X6x
  replace E_pp := E_pp.ext X6x
  replace E_qq := E_qq.ext X6x
  replace Z0 := Nat.le_trans Z0 X6x.1
  have N6 := Fr.app N5 N6q
  obtain ⟨cq7, kq7, q7a, q7b, q7c⟩ := isOf hZ rfl E_pp
  obtain ⟨_, _, ⟨T7, L7, k7, n7⟩, -, X7, ⟨Lc7, hQ7, l7, y7, z7⟩, st7⟩ := X6.virtualBack hx (y := (⟨"com/example/nereus/nereus/Domain", "includes", "(Lcom/example/nereus/nereus/Domain;)Z"⟩ : MethodName)) (z := (⟨"com/example/nereus/nereus/Domain", "includes", "(Lcom/example/nereus/nereus/Domain;)Z"⟩ : MethodName)) hown (mvT hZ (hw _ (List.mem_of_getElem? (i := 23) rfl))) (mvT hZ (hw _ (List.mem_of_getElem? (i := 24) rfl))) (notFace_of_selects (args := #[]) (mvT hZ sel_p)) (mvT hZ sel_p) (mvT hZ (hw _ (List.mem_of_getElem? (i := 25) rfl))) (by decide) (backOf (W := 0) (rm2g l Z a0 hw [] pp qq u3 u2 bpq T6.heap n0 Z0 S_DECIMAL S_INTEGER t_bpq f_bpq) hZ (hw _ (List.mem_of_getElem? (i := 27) rfl)) (hw _ (List.mem_of_getElem? (i := 8) rfl)) (by decide) (by decide)) q7a q7c (g := (mkF m 47 #[.val (.int p1), .val (.int p2), .val (.int p3), .val (.int (HMod.hMod (p1 &&& (2147483647 : Int32)) (5 : Int32))), .val (.int (HMod.hMod (p2 &&& (2147483647 : Int32)) (5 : Int32))), .val (.int (HMod.hMod (p3 &&& (2147483647 : Int32)) (5 : Int32))), .val (.ref pp), .val (.ref qq), .val (.ref rr), .unset, .unset, .unset, .unset, .unset, .unset] [(.ref qq), (.ref pp)])) rfl (by rw [hml]; rfl) (Steps.refl _) (argsL := [(.ref qq)]) (rest := []) (lenOf pd_0_1 rfl) rfl (by show 2 * 0 + _ ≤ _; exact Nat.le_of_eq rfl) (hb hby at_47) (fun _ _ => ⟨rfl, rfl, (Nat.le_of_ble_eq_true rfl), (Nat.le_of_ble_eq_true rfl)⟩)
  dsimp only [Pt.U, Pt.locs, Pt.cells, Pt.slots] at X7 l7 y7 z7 st7 hQ7
  subst l7 y7 z7
  obtain ⟨rfl, N7q, eq7⟩ := hQ7
  have N7 := Fr.app N6 N7q
  obtain ⟨cq8, kq8, q8a, q8b, q8c⟩ := isOf hZ eq7 E_qq
  obtain ⟨_, _, ⟨T8, L8, k8, n8⟩, -, X8, ⟨Lc8, hQ8, l8, y8, z8⟩, st8⟩ := X7.virtualBack hx (y := (⟨"com/example/nereus/nereus/Domain", "includes", "(Lcom/example/nereus/nereus/Domain;)Z"⟩ : MethodName)) (z := (⟨"com/example/nereus/nereus/Domain", "includes", "(Lcom/example/nereus/nereus/Domain;)Z"⟩ : MethodName)) hown (mvT hZ (hw _ (List.mem_of_getElem? (i := 23) rfl))) (mvT hZ (hw _ (List.mem_of_getElem? (i := 24) rfl))) (notFace_of_selects (args := #[]) (mvT hZ sel_q)) (mvT hZ sel_q) (mvT hZ (hw _ (List.mem_of_getElem? (i := 25) rfl))) (by decide) (backOf (W := 0) (rm2g l Z a0 hw [] qq pp u3 u2 bqp T6.heap n0 Z0 S_DECIMAL S_INTEGER t_bqp f_bqp) hZ (hw _ (List.mem_of_getElem? (i := 27) rfl)) (hw _ (List.mem_of_getElem? (i := 8) rfl)) (by decide) (by decide)) q8a q8c (g := (mkF m 56 #[.val (.int p1), .val (.int p2), .val (.int p3), .val (.int (HMod.hMod (p1 &&& (2147483647 : Int32)) (5 : Int32))), .val (.int (HMod.hMod (p2 &&& (2147483647 : Int32)) (5 : Int32))), .val (.int (HMod.hMod (p3 &&& (2147483647 : Int32)) (5 : Int32))), .val (.ref pp), .val (.ref qq), .val (.ref rr), .val (.int bpq), .unset, .unset, .unset, .unset, .unset] [(.ref pp), (.ref qq)])) rfl (by rw [hml]; rfl) (Steps.refl _) (argsL := [(.ref pp)]) (rest := []) (lenOf pd_0_1 rfl) rfl (by show 2 * 0 + _ ≤ _; exact Nat.le_of_eq rfl) (hb hby at_56) (fun _ _ => ⟨rfl, eq7, (Nat.le_of_ble_eq_true rfl), (Nat.le_of_ble_eq_true rfl)⟩)
  dsimp only [Pt.U, Pt.locs, Pt.cells, Pt.slots] at X8 l8 y8 z8 st8 hQ8
  subst l8 y8 z8
  obtain ⟨rfl, N8q, eq8⟩ := hQ8
  have N8 := Fr.app N7 N8q
  obtain ⟨cq9, kq9, q9a, q9b, q9c⟩ := isOf hZ eq8 E_qq
  obtain ⟨_, _, ⟨T9, L9, k9, n9⟩, -, X9, ⟨Lc9, hQ9, l9, y9, z9⟩, st9⟩ := X8.virtualBack hx (y := (⟨"com/example/nereus/nereus/Domain", "includes", "(Lcom/example/nereus/nereus/Domain;)Z"⟩ : MethodName)) (z := (⟨"com/example/nereus/nereus/Domain", "includes", "(Lcom/example/nereus/nereus/Domain;)Z"⟩ : MethodName)) hown (mvT hZ (hw _ (List.mem_of_getElem? (i := 23) rfl))) (mvT hZ (hw _ (List.mem_of_getElem? (i := 24) rfl))) (notFace_of_selects (args := #[]) (mvT hZ sel_q)) (mvT hZ sel_q) (mvT hZ (hw _ (List.mem_of_getElem? (i := 25) rfl))) (by decide) (backOf (W := 0) (rm2g l Z a0 hw [] qq rr u3 u2 bqr T6.heap n0 Z0 S_DECIMAL S_INTEGER t_bqr f_bqr) hZ (hw _ (List.mem_of_getElem? (i := 27) rfl)) (hw _ (List.mem_of_getElem? (i := 8) rfl)) (by decide) (by decide)) q9a q9c (g := (mkF m 65 #[.val (.int p1), .val (.int p2), .val (.int p3), .val (.int (HMod.hMod (p1 &&& (2147483647 : Int32)) (5 : Int32))), .val (.int (HMod.hMod (p2 &&& (2147483647 : Int32)) (5 : Int32))), .val (.int (HMod.hMod (p3 &&& (2147483647 : Int32)) (5 : Int32))), .val (.ref pp), .val (.ref qq), .val (.ref rr), .val (.int bpq), .val (.int bqp), .unset, .unset, .unset, .unset] [(.ref rr), (.ref qq)])) rfl (by rw [hml]; rfl) (Steps.refl _) (argsL := [(.ref rr)]) (rest := []) (lenOf pd_0_1 rfl) rfl (by show 2 * 0 + _ ≤ _; exact Nat.le_of_eq rfl) (hb hby at_65) (fun _ _ => ⟨rfl, eq8, (Nat.le_of_ble_eq_true rfl), (Nat.le_of_ble_eq_true rfl)⟩)
  dsimp only [Pt.U, Pt.locs, Pt.cells, Pt.slots] at X9 l9 y9 z9 st9 hQ9
  subst l9 y9 z9
  obtain ⟨rfl, N9q, eq9⟩ := hQ9
  have N9 := Fr.app N8 N9q
  obtain ⟨cq10, kq10, q10a, q10b, q10c⟩ := isOf hZ eq9 E_pp
  obtain ⟨_, _, ⟨T10, L10, k10, n10⟩, -, X10, ⟨Lc10, hQ10, l10, y10, z10⟩, st10⟩ := X9.virtualBack hx (y := (⟨"com/example/nereus/nereus/Domain", "includes", "(Lcom/example/nereus/nereus/Domain;)Z"⟩ : MethodName)) (z := (⟨"com/example/nereus/nereus/Domain", "includes", "(Lcom/example/nereus/nereus/Domain;)Z"⟩ : MethodName)) hown (mvT hZ (hw _ (List.mem_of_getElem? (i := 23) rfl))) (mvT hZ (hw _ (List.mem_of_getElem? (i := 24) rfl))) (notFace_of_selects (args := #[]) (mvT hZ sel_p)) (mvT hZ sel_p) (mvT hZ (hw _ (List.mem_of_getElem? (i := 25) rfl))) (by decide) (backOf (W := 0) (rm2g l Z a0 hw [] pp rr u3 u2 bpr T6.heap n0 Z0 S_DECIMAL S_INTEGER t_bpr f_bpr) hZ (hw _ (List.mem_of_getElem? (i := 27) rfl)) (hw _ (List.mem_of_getElem? (i := 8) rfl)) (by decide) (by decide)) q10a q10c (g := (mkF m 74 #[.val (.int p1), .val (.int p2), .val (.int p3), .val (.int (HMod.hMod (p1 &&& (2147483647 : Int32)) (5 : Int32))), .val (.int (HMod.hMod (p2 &&& (2147483647 : Int32)) (5 : Int32))), .val (.int (HMod.hMod (p3 &&& (2147483647 : Int32)) (5 : Int32))), .val (.ref pp), .val (.ref qq), .val (.ref rr), .val (.int bpq), .val (.int bqp), .val (.int bqr), .unset, .unset, .unset] [(.ref rr), (.ref pp)])) rfl (by rw [hml]; rfl) (Steps.refl _) (argsL := [(.ref rr)]) (rest := []) (lenOf pd_0_1 rfl) rfl (by show 2 * 0 + _ ≤ _; exact Nat.le_of_eq rfl) (hb hby at_74) (fun _ _ => ⟨rfl, eq9, (Nat.le_of_ble_eq_true rfl), (Nat.le_of_ble_eq_true rfl)⟩)
  dsimp only [Pt.U, Pt.locs, Pt.cells, Pt.slots] at X10 l10 y10 z10 st10 hQ10
  subst l10 y10 z10
  obtain ⟨rfl, N10q, eq10⟩ := hQ10
  have N10 := Fr.app N9 N10q
  obtain ⟨cq11, kq11, q11a, q11b, q11c⟩ := isOf hZ eq10 E_pp
  obtain ⟨_, _, ⟨T11, L11, k11, n11⟩, -, X11, ⟨Lc11, hQ11, l11, y11, z11⟩, st11⟩ := X10.virtualBack hx (y := (⟨"com/example/nereus/nereus/Domain", "includes", "(Lcom/example/nereus/nereus/Domain;)Z"⟩ : MethodName)) (z := (⟨"com/example/nereus/nereus/Domain", "includes", "(Lcom/example/nereus/nereus/Domain;)Z"⟩ : MethodName)) hown (mvT hZ (hw _ (List.mem_of_getElem? (i := 23) rfl))) (mvT hZ (hw _ (List.mem_of_getElem? (i := 24) rfl))) (notFace_of_selects (args := #[]) (mvT hZ sel_p)) (mvT hZ sel_p) (mvT hZ (hw _ (List.mem_of_getElem? (i := 25) rfl))) (by decide) (backOf (W := 0) (rm2g l Z a0 hw [] pp pp u3 u2 bpp T6.heap n0 Z0 S_DECIMAL S_INTEGER t_bpp f_bpp) hZ (hw _ (List.mem_of_getElem? (i := 27) rfl)) (hw _ (List.mem_of_getElem? (i := 8) rfl)) (by decide) (by decide)) q11a q11c (g := (mkF m 83 #[.val (.int p1), .val (.int p2), .val (.int p3), .val (.int (HMod.hMod (p1 &&& (2147483647 : Int32)) (5 : Int32))), .val (.int (HMod.hMod (p2 &&& (2147483647 : Int32)) (5 : Int32))), .val (.int (HMod.hMod (p3 &&& (2147483647 : Int32)) (5 : Int32))), .val (.ref pp), .val (.ref qq), .val (.ref rr), .val (.int bpq), .val (.int bqp), .val (.int bqr), .val (.int bpr), .unset, .unset] [(.ref pp), (.ref pp)])) rfl (by rw [hml]; rfl) (Steps.refl _) (argsL := [(.ref pp)]) (rest := []) (lenOf pd_0_1 rfl) rfl (by show 2 * 0 + _ ≤ _; exact Nat.le_of_eq rfl) (hb hby at_83) (fun _ _ => ⟨rfl, eq10, (Nat.le_of_ble_eq_true rfl), (Nat.le_of_ble_eq_true rfl)⟩)
  dsimp only [Pt.U, Pt.locs, Pt.cells, Pt.slots] at X11 l11 y11 z11 st11 hQ11
  subst l11 y11 z11
  obtain ⟨rfl, N11q, eq11⟩ := hQ11
  have N11 := Fr.app N10 N11q
  obtain ⟨fs, hr, hrun, hended, hW, hsame⟩ := X11.leave (v := some (.int (1 : Int32))) (fun h => by rw [Bd.returns] at h; cases h)
  refine ⟨_, _, pre0 _ ?_, hrun, hended, _, _, rfl, ?_, ⟨_, rfl⟩, hW, hsame.mono (by decide) (by decide)⟩
  · show Steps p.tables e below (s₁.setTop (mkF m 0 #[.val (.int p1), .val (.int p2), .val (.int p3), .unset, .unset, .unset, .unset, .unset, .unset, .unset, .unset, .unset, .unset, .unset, .unset] [])) _
    refine XS.iloadN X0.here hx rfl (hb hby at_0) rfl ?_
    show Steps p.tables e below (s₁.setTop (mkF m 1 #[.val (.int p1), .val (.int p2), .val (.int p3), .unset, .unset, .unset, .unset, .unset, .unset, .unset, .unset, .unset, .unset, .unset, .unset] [(.int p1)])) _
    refine X0.ldcI hx hown (mvT hZ (hw _ (List.mem_of_getElem? (i := 0) rfl))) (g := (mkF m 1 #[.val (.int p1), .val (.int p2), .val (.int p3), .unset, .unset, .unset, .unset, .unset, .unset, .unset, .unset, .unset, .unset, .unset, .unset] [(.int p1)])) rfl (hb hby at_1) ?_
    show Steps p.tables e below (s₁.setTop (mkF m 3 #[.val (.int p1), .val (.int p2), .val (.int p3), .unset, .unset, .unset, .unset, .unset, .unset, .unset, .unset, .unset, .unset, .unset, .unset] [(.int (2147483647 : Int32)), (.int p1)])) _
    refine XS.iand X0.here hx rfl (hb hby at_3) rfl ?_
    show Steps p.tables e below (s₁.setTop (mkF m 4 #[.val (.int p1), .val (.int p2), .val (.int p3), .unset, .unset, .unset, .unset, .unset, .unset, .unset, .unset, .unset, .unset, .unset, .unset] [(.int (p1 &&& (2147483647 : Int32)))])) _
    refine XS.iconst X0.here hx rfl (hb hby at_4) ?_
    show Steps p.tables e below (s₁.setTop (mkF m 5 #[.val (.int p1), .val (.int p2), .val (.int p3), .unset, .unset, .unset, .unset, .unset, .unset, .unset, .unset, .unset, .unset, .unset, .unset] [(.int (5 : Int32)), (.int (p1 &&& (2147483647 : Int32)))])) _
    refine iremM X0 hx (g := (mkF m 5 #[.val (.int p1), .val (.int p2), .val (.int p3), .unset, .unset, .unset, .unset, .unset, .unset, .unset, .unset, .unset, .unset, .unset, .unset] [(.int (5 : Int32)), (.int (p1 &&& (2147483647 : Int32)))])) rfl (hb hby at_5) rfl (by decide) ?_
    show Steps p.tables e below (s₁.setTop (mkF m 6 #[.val (.int p1), .val (.int p2), .val (.int p3), .unset, .unset, .unset, .unset, .unset, .unset, .unset, .unset, .unset, .unset, .unset, .unset] [(.int (HMod.hMod (p1 &&& (2147483647 : Int32)) (5 : Int32)))])) _
    refine XS.istoreN X0.here hx rfl (hb hby at_6) rfl (l' := #[.val (.int p1), .val (.int p2), .val (.int p3), .val (.int (HMod.hMod (p1 &&& (2147483647 : Int32)) (5 : Int32))), .unset, .unset, .unset, .unset, .unset, .unset, .unset, .unset, .unset, .unset, .unset]) rfl ?_
    show Steps p.tables e below (s₁.setTop (mkF m 7 #[.val (.int p1), .val (.int p2), .val (.int p3), .val (.int (HMod.hMod (p1 &&& (2147483647 : Int32)) (5 : Int32))), .unset, .unset, .unset, .unset, .unset, .unset, .unset, .unset, .unset, .unset, .unset] [])) _
    refine XS.iloadN X0.here hx rfl (hb hby at_7) rfl ?_
    show Steps p.tables e below (s₁.setTop (mkF m 8 #[.val (.int p1), .val (.int p2), .val (.int p3), .val (.int (HMod.hMod (p1 &&& (2147483647 : Int32)) (5 : Int32))), .unset, .unset, .unset, .unset, .unset, .unset, .unset, .unset, .unset, .unset, .unset] [(.int p2)])) _
    refine X0.ldcI hx hown (mvT hZ (hw _ (List.mem_of_getElem? (i := 0) rfl))) (g := (mkF m 8 #[.val (.int p1), .val (.int p2), .val (.int p3), .val (.int (HMod.hMod (p1 &&& (2147483647 : Int32)) (5 : Int32))), .unset, .unset, .unset, .unset, .unset, .unset, .unset, .unset, .unset, .unset, .unset] [(.int p2)])) rfl (hb hby at_8) ?_
    show Steps p.tables e below (s₁.setTop (mkF m 10 #[.val (.int p1), .val (.int p2), .val (.int p3), .val (.int (HMod.hMod (p1 &&& (2147483647 : Int32)) (5 : Int32))), .unset, .unset, .unset, .unset, .unset, .unset, .unset, .unset, .unset, .unset, .unset] [(.int (2147483647 : Int32)), (.int p2)])) _
    refine XS.iand X0.here hx rfl (hb hby at_10) rfl ?_
    show Steps p.tables e below (s₁.setTop (mkF m 11 #[.val (.int p1), .val (.int p2), .val (.int p3), .val (.int (HMod.hMod (p1 &&& (2147483647 : Int32)) (5 : Int32))), .unset, .unset, .unset, .unset, .unset, .unset, .unset, .unset, .unset, .unset, .unset] [(.int (p2 &&& (2147483647 : Int32)))])) _
    refine XS.iconst X0.here hx rfl (hb hby at_11) ?_
    show Steps p.tables e below (s₁.setTop (mkF m 12 #[.val (.int p1), .val (.int p2), .val (.int p3), .val (.int (HMod.hMod (p1 &&& (2147483647 : Int32)) (5 : Int32))), .unset, .unset, .unset, .unset, .unset, .unset, .unset, .unset, .unset, .unset, .unset] [(.int (5 : Int32)), (.int (p2 &&& (2147483647 : Int32)))])) _
    refine iremM X0 hx (g := (mkF m 12 #[.val (.int p1), .val (.int p2), .val (.int p3), .val (.int (HMod.hMod (p1 &&& (2147483647 : Int32)) (5 : Int32))), .unset, .unset, .unset, .unset, .unset, .unset, .unset, .unset, .unset, .unset, .unset] [(.int (5 : Int32)), (.int (p2 &&& (2147483647 : Int32)))])) rfl (hb hby at_12) rfl (by decide) ?_
    show Steps p.tables e below (s₁.setTop (mkF m 13 #[.val (.int p1), .val (.int p2), .val (.int p3), .val (.int (HMod.hMod (p1 &&& (2147483647 : Int32)) (5 : Int32))), .unset, .unset, .unset, .unset, .unset, .unset, .unset, .unset, .unset, .unset, .unset] [(.int (HMod.hMod (p2 &&& (2147483647 : Int32)) (5 : Int32)))])) _
    refine XS.istore X0.here hx rfl (hb hby at_13) rfl (l' := #[.val (.int p1), .val (.int p2), .val (.int p3), .val (.int (HMod.hMod (p1 &&& (2147483647 : Int32)) (5 : Int32))), .val (.int (HMod.hMod (p2 &&& (2147483647 : Int32)) (5 : Int32))), .unset, .unset, .unset, .unset, .unset, .unset, .unset, .unset, .unset, .unset]) rfl ?_
    show Steps p.tables e below (s₁.setTop (mkF m 15 #[.val (.int p1), .val (.int p2), .val (.int p3), .val (.int (HMod.hMod (p1 &&& (2147483647 : Int32)) (5 : Int32))), .val (.int (HMod.hMod (p2 &&& (2147483647 : Int32)) (5 : Int32))), .unset, .unset, .unset, .unset, .unset, .unset, .unset, .unset, .unset, .unset] [])) _
    refine XS.iloadN X0.here hx rfl (hb hby at_15) rfl ?_
    show Steps p.tables e below (s₁.setTop (mkF m 16 #[.val (.int p1), .val (.int p2), .val (.int p3), .val (.int (HMod.hMod (p1 &&& (2147483647 : Int32)) (5 : Int32))), .val (.int (HMod.hMod (p2 &&& (2147483647 : Int32)) (5 : Int32))), .unset, .unset, .unset, .unset, .unset, .unset, .unset, .unset, .unset, .unset] [(.int p3)])) _
    refine X0.ldcI hx hown (mvT hZ (hw _ (List.mem_of_getElem? (i := 0) rfl))) (g := (mkF m 16 #[.val (.int p1), .val (.int p2), .val (.int p3), .val (.int (HMod.hMod (p1 &&& (2147483647 : Int32)) (5 : Int32))), .val (.int (HMod.hMod (p2 &&& (2147483647 : Int32)) (5 : Int32))), .unset, .unset, .unset, .unset, .unset, .unset, .unset, .unset, .unset, .unset] [(.int p3)])) rfl (hb hby at_16) ?_
    show Steps p.tables e below (s₁.setTop (mkF m 18 #[.val (.int p1), .val (.int p2), .val (.int p3), .val (.int (HMod.hMod (p1 &&& (2147483647 : Int32)) (5 : Int32))), .val (.int (HMod.hMod (p2 &&& (2147483647 : Int32)) (5 : Int32))), .unset, .unset, .unset, .unset, .unset, .unset, .unset, .unset, .unset, .unset] [(.int (2147483647 : Int32)), (.int p3)])) _
    refine XS.iand X0.here hx rfl (hb hby at_18) rfl ?_
    show Steps p.tables e below (s₁.setTop (mkF m 19 #[.val (.int p1), .val (.int p2), .val (.int p3), .val (.int (HMod.hMod (p1 &&& (2147483647 : Int32)) (5 : Int32))), .val (.int (HMod.hMod (p2 &&& (2147483647 : Int32)) (5 : Int32))), .unset, .unset, .unset, .unset, .unset, .unset, .unset, .unset, .unset, .unset] [(.int (p3 &&& (2147483647 : Int32)))])) _
    refine XS.iconst X0.here hx rfl (hb hby at_19) ?_
    show Steps p.tables e below (s₁.setTop (mkF m 20 #[.val (.int p1), .val (.int p2), .val (.int p3), .val (.int (HMod.hMod (p1 &&& (2147483647 : Int32)) (5 : Int32))), .val (.int (HMod.hMod (p2 &&& (2147483647 : Int32)) (5 : Int32))), .unset, .unset, .unset, .unset, .unset, .unset, .unset, .unset, .unset, .unset] [(.int (5 : Int32)), (.int (p3 &&& (2147483647 : Int32)))])) _
    refine iremM X0 hx (g := (mkF m 20 #[.val (.int p1), .val (.int p2), .val (.int p3), .val (.int (HMod.hMod (p1 &&& (2147483647 : Int32)) (5 : Int32))), .val (.int (HMod.hMod (p2 &&& (2147483647 : Int32)) (5 : Int32))), .unset, .unset, .unset, .unset, .unset, .unset, .unset, .unset, .unset, .unset] [(.int (5 : Int32)), (.int (p3 &&& (2147483647 : Int32)))])) rfl (hb hby at_20) rfl (by decide) ?_
    show Steps p.tables e below (s₁.setTop (mkF m 21 #[.val (.int p1), .val (.int p2), .val (.int p3), .val (.int (HMod.hMod (p1 &&& (2147483647 : Int32)) (5 : Int32))), .val (.int (HMod.hMod (p2 &&& (2147483647 : Int32)) (5 : Int32))), .unset, .unset, .unset, .unset, .unset, .unset, .unset, .unset, .unset, .unset] [(.int (HMod.hMod (p3 &&& (2147483647 : Int32)) (5 : Int32)))])) _
    refine XS.istore X0.here hx rfl (hb hby at_21) rfl (l' := #[.val (.int p1), .val (.int p2), .val (.int p3), .val (.int (HMod.hMod (p1 &&& (2147483647 : Int32)) (5 : Int32))), .val (.int (HMod.hMod (p2 &&& (2147483647 : Int32)) (5 : Int32))), .val (.int (HMod.hMod (p3 &&& (2147483647 : Int32)) (5 : Int32))), .unset, .unset, .unset, .unset, .unset, .unset, .unset, .unset, .unset]) rfl ?_
    show Steps p.tables e below (s₁.setTop (mkF m 23 #[.val (.int p1), .val (.int p2), .val (.int p3), .val (.int (HMod.hMod (p1 &&& (2147483647 : Int32)) (5 : Int32))), .val (.int (HMod.hMod (p2 &&& (2147483647 : Int32)) (5 : Int32))), .val (.int (HMod.hMod (p3 &&& (2147483647 : Int32)) (5 : Int32))), .unset, .unset, .unset, .unset, .unset, .unset, .unset, .unset, .unset] [])) _
    refine XS.iloadN X0.here hx rfl (hb hby at_23) rfl ?_
    show Steps p.tables e below (s₁.setTop (mkF m 24 #[.val (.int p1), .val (.int p2), .val (.int p3), .val (.int (HMod.hMod (p1 &&& (2147483647 : Int32)) (5 : Int32))), .val (.int (HMod.hMod (p2 &&& (2147483647 : Int32)) (5 : Int32))), .val (.int (HMod.hMod (p3 &&& (2147483647 : Int32)) (5 : Int32))), .unset, .unset, .unset, .unset, .unset, .unset, .unset, .unset, .unset] [(.int (HMod.hMod (p1 &&& (2147483647 : Int32)) (5 : Int32)))])) _
    refine st4 _ ?_
    show Steps p.tables e below (T4.setTop (mkF m 27 #[.val (.int p1), .val (.int p2), .val (.int p3), .val (.int (HMod.hMod (p1 &&& (2147483647 : Int32)) (5 : Int32))), .val (.int (HMod.hMod (p2 &&& (2147483647 : Int32)) (5 : Int32))), .val (.int (HMod.hMod (p3 &&& (2147483647 : Int32)) (5 : Int32))), .unset, .unset, .unset, .unset, .unset, .unset, .unset, .unset, .unset] [(.ref pp)])) _
    refine XS.astore X4.here hx rfl (hb hby at_27) rfl rfl (l' := #[.val (.int p1), .val (.int p2), .val (.int p3), .val (.int (HMod.hMod (p1 &&& (2147483647 : Int32)) (5 : Int32))), .val (.int (HMod.hMod (p2 &&& (2147483647 : Int32)) (5 : Int32))), .val (.int (HMod.hMod (p3 &&& (2147483647 : Int32)) (5 : Int32))), .val (.ref pp), .unset, .unset, .unset, .unset, .unset, .unset, .unset, .unset]) rfl ?_
    show Steps p.tables e below (T4.setTop (mkF m 29 #[.val (.int p1), .val (.int p2), .val (.int p3), .val (.int (HMod.hMod (p1 &&& (2147483647 : Int32)) (5 : Int32))), .val (.int (HMod.hMod (p2 &&& (2147483647 : Int32)) (5 : Int32))), .val (.int (HMod.hMod (p3 &&& (2147483647 : Int32)) (5 : Int32))), .val (.ref pp), .unset, .unset, .unset, .unset, .unset, .unset, .unset, .unset] [])) _
    refine XS.iload X4.here hx rfl (hb hby at_29) rfl ?_
    show Steps p.tables e below (T4.setTop (mkF m 31 #[.val (.int p1), .val (.int p2), .val (.int p3), .val (.int (HMod.hMod (p1 &&& (2147483647 : Int32)) (5 : Int32))), .val (.int (HMod.hMod (p2 &&& (2147483647 : Int32)) (5 : Int32))), .val (.int (HMod.hMod (p3 &&& (2147483647 : Int32)) (5 : Int32))), .val (.ref pp), .unset, .unset, .unset, .unset, .unset, .unset, .unset, .unset] [(.int (HMod.hMod (p2 &&& (2147483647 : Int32)) (5 : Int32)))])) _
    refine st5 _ ?_
    show Steps p.tables e below (T5.setTop (mkF m 34 #[.val (.int p1), .val (.int p2), .val (.int p3), .val (.int (HMod.hMod (p1 &&& (2147483647 : Int32)) (5 : Int32))), .val (.int (HMod.hMod (p2 &&& (2147483647 : Int32)) (5 : Int32))), .val (.int (HMod.hMod (p3 &&& (2147483647 : Int32)) (5 : Int32))), .val (.ref pp), .unset, .unset, .unset, .unset, .unset, .unset, .unset, .unset] [(.ref qq)])) _
    refine XS.astore X5.here hx rfl (hb hby at_34) rfl rfl (l' := #[.val (.int p1), .val (.int p2), .val (.int p3), .val (.int (HMod.hMod (p1 &&& (2147483647 : Int32)) (5 : Int32))), .val (.int (HMod.hMod (p2 &&& (2147483647 : Int32)) (5 : Int32))), .val (.int (HMod.hMod (p3 &&& (2147483647 : Int32)) (5 : Int32))), .val (.ref pp), .val (.ref qq), .unset, .unset, .unset, .unset, .unset, .unset, .unset]) rfl ?_
    show Steps p.tables e below (T5.setTop (mkF m 36 #[.val (.int p1), .val (.int p2), .val (.int p3), .val (.int (HMod.hMod (p1 &&& (2147483647 : Int32)) (5 : Int32))), .val (.int (HMod.hMod (p2 &&& (2147483647 : Int32)) (5 : Int32))), .val (.int (HMod.hMod (p3 &&& (2147483647 : Int32)) (5 : Int32))), .val (.ref pp), .val (.ref qq), .unset, .unset, .unset, .unset, .unset, .unset, .unset] [])) _
    refine XS.iload X5.here hx rfl (hb hby at_36) rfl ?_
    show Steps p.tables e below (T5.setTop (mkF m 38 #[.val (.int p1), .val (.int p2), .val (.int p3), .val (.int (HMod.hMod (p1 &&& (2147483647 : Int32)) (5 : Int32))), .val (.int (HMod.hMod (p2 &&& (2147483647 : Int32)) (5 : Int32))), .val (.int (HMod.hMod (p3 &&& (2147483647 : Int32)) (5 : Int32))), .val (.ref pp), .val (.ref qq), .unset, .unset, .unset, .unset, .unset, .unset, .unset] [(.int (HMod.hMod (p3 &&& (2147483647 : Int32)) (5 : Int32)))])) _
    refine st6 _ ?_
    show Steps p.tables e below (T6.setTop (mkF m 41 #[.val (.int p1), .val (.int p2), .val (.int p3), .val (.int (HMod.hMod (p1 &&& (2147483647 : Int32)) (5 : Int32))), .val (.int (HMod.hMod (p2 &&& (2147483647 : Int32)) (5 : Int32))), .val (.int (HMod.hMod (p3 &&& (2147483647 : Int32)) (5 : Int32))), .val (.ref pp), .val (.ref qq), .unset, .unset, .unset, .unset, .unset, .unset, .unset] [(.ref rr)])) _
    refine XS.astore X6.here hx rfl (hb hby at_41) rfl rfl (l' := #[.val (.int p1), .val (.int p2), .val (.int p3), .val (.int (HMod.hMod (p1 &&& (2147483647 : Int32)) (5 : Int32))), .val (.int (HMod.hMod (p2 &&& (2147483647 : Int32)) (5 : Int32))), .val (.int (HMod.hMod (p3 &&& (2147483647 : Int32)) (5 : Int32))), .val (.ref pp), .val (.ref qq), .val (.ref rr), .unset, .unset, .unset, .unset, .unset, .unset]) rfl ?_
    show Steps p.tables e below (T6.setTop (mkF m 43 #[.val (.int p1), .val (.int p2), .val (.int p3), .val (.int (HMod.hMod (p1 &&& (2147483647 : Int32)) (5 : Int32))), .val (.int (HMod.hMod (p2 &&& (2147483647 : Int32)) (5 : Int32))), .val (.int (HMod.hMod (p3 &&& (2147483647 : Int32)) (5 : Int32))), .val (.ref pp), .val (.ref qq), .val (.ref rr), .unset, .unset, .unset, .unset, .unset, .unset] [])) _
    refine XS.aload X6.here hx rfl (hb hby at_43) rfl rfl ?_
    show Steps p.tables e below (T6.setTop (mkF m 45 #[.val (.int p1), .val (.int p2), .val (.int p3), .val (.int (HMod.hMod (p1 &&& (2147483647 : Int32)) (5 : Int32))), .val (.int (HMod.hMod (p2 &&& (2147483647 : Int32)) (5 : Int32))), .val (.int (HMod.hMod (p3 &&& (2147483647 : Int32)) (5 : Int32))), .val (.ref pp), .val (.ref qq), .val (.ref rr), .unset, .unset, .unset, .unset, .unset, .unset] [(.ref pp)])) _
    refine XS.aload X6.here hx rfl (hb hby at_45) rfl rfl ?_
    show Steps p.tables e below (T6.setTop (mkF m 47 #[.val (.int p1), .val (.int p2), .val (.int p3), .val (.int (HMod.hMod (p1 &&& (2147483647 : Int32)) (5 : Int32))), .val (.int (HMod.hMod (p2 &&& (2147483647 : Int32)) (5 : Int32))), .val (.int (HMod.hMod (p3 &&& (2147483647 : Int32)) (5 : Int32))), .val (.ref pp), .val (.ref qq), .val (.ref rr), .unset, .unset, .unset, .unset, .unset, .unset] [(.ref qq), (.ref pp)])) _
    refine st7.trans ?_
    show Steps p.tables e below (T7.setTop (mkF m 50 #[.val (.int p1), .val (.int p2), .val (.int p3), .val (.int (HMod.hMod (p1 &&& (2147483647 : Int32)) (5 : Int32))), .val (.int (HMod.hMod (p2 &&& (2147483647 : Int32)) (5 : Int32))), .val (.int (HMod.hMod (p3 &&& (2147483647 : Int32)) (5 : Int32))), .val (.ref pp), .val (.ref qq), .val (.ref rr), .unset, .unset, .unset, .unset, .unset, .unset] [(.int bpq)])) _
    refine XS.istore X7.here hx rfl (hb hby at_50) rfl (l' := #[.val (.int p1), .val (.int p2), .val (.int p3), .val (.int (HMod.hMod (p1 &&& (2147483647 : Int32)) (5 : Int32))), .val (.int (HMod.hMod (p2 &&& (2147483647 : Int32)) (5 : Int32))), .val (.int (HMod.hMod (p3 &&& (2147483647 : Int32)) (5 : Int32))), .val (.ref pp), .val (.ref qq), .val (.ref rr), .val (.int bpq), .unset, .unset, .unset, .unset, .unset]) rfl ?_
    show Steps p.tables e below (T7.setTop (mkF m 52 #[.val (.int p1), .val (.int p2), .val (.int p3), .val (.int (HMod.hMod (p1 &&& (2147483647 : Int32)) (5 : Int32))), .val (.int (HMod.hMod (p2 &&& (2147483647 : Int32)) (5 : Int32))), .val (.int (HMod.hMod (p3 &&& (2147483647 : Int32)) (5 : Int32))), .val (.ref pp), .val (.ref qq), .val (.ref rr), .val (.int bpq), .unset, .unset, .unset, .unset, .unset] [])) _
    refine XS.aload X7.here hx rfl (hb hby at_52) rfl rfl ?_
    show Steps p.tables e below (T7.setTop (mkF m 54 #[.val (.int p1), .val (.int p2), .val (.int p3), .val (.int (HMod.hMod (p1 &&& (2147483647 : Int32)) (5 : Int32))), .val (.int (HMod.hMod (p2 &&& (2147483647 : Int32)) (5 : Int32))), .val (.int (HMod.hMod (p3 &&& (2147483647 : Int32)) (5 : Int32))), .val (.ref pp), .val (.ref qq), .val (.ref rr), .val (.int bpq), .unset, .unset, .unset, .unset, .unset] [(.ref qq)])) _
    refine XS.aload X7.here hx rfl (hb hby at_54) rfl rfl ?_
    show Steps p.tables e below (T7.setTop (mkF m 56 #[.val (.int p1), .val (.int p2), .val (.int p3), .val (.int (HMod.hMod (p1 &&& (2147483647 : Int32)) (5 : Int32))), .val (.int (HMod.hMod (p2 &&& (2147483647 : Int32)) (5 : Int32))), .val (.int (HMod.hMod (p3 &&& (2147483647 : Int32)) (5 : Int32))), .val (.ref pp), .val (.ref qq), .val (.ref rr), .val (.int bpq), .unset, .unset, .unset, .unset, .unset] [(.ref pp), (.ref qq)])) _
    refine st8.trans ?_
    show Steps p.tables e below (T8.setTop (mkF m 59 #[.val (.int p1), .val (.int p2), .val (.int p3), .val (.int (HMod.hMod (p1 &&& (2147483647 : Int32)) (5 : Int32))), .val (.int (HMod.hMod (p2 &&& (2147483647 : Int32)) (5 : Int32))), .val (.int (HMod.hMod (p3 &&& (2147483647 : Int32)) (5 : Int32))), .val (.ref pp), .val (.ref qq), .val (.ref rr), .val (.int bpq), .unset, .unset, .unset, .unset, .unset] [(.int bqp)])) _
    refine XS.istore X8.here hx rfl (hb hby at_59) rfl (l' := #[.val (.int p1), .val (.int p2), .val (.int p3), .val (.int (HMod.hMod (p1 &&& (2147483647 : Int32)) (5 : Int32))), .val (.int (HMod.hMod (p2 &&& (2147483647 : Int32)) (5 : Int32))), .val (.int (HMod.hMod (p3 &&& (2147483647 : Int32)) (5 : Int32))), .val (.ref pp), .val (.ref qq), .val (.ref rr), .val (.int bpq), .val (.int bqp), .unset, .unset, .unset, .unset]) rfl ?_
    show Steps p.tables e below (T8.setTop (mkF m 61 #[.val (.int p1), .val (.int p2), .val (.int p3), .val (.int (HMod.hMod (p1 &&& (2147483647 : Int32)) (5 : Int32))), .val (.int (HMod.hMod (p2 &&& (2147483647 : Int32)) (5 : Int32))), .val (.int (HMod.hMod (p3 &&& (2147483647 : Int32)) (5 : Int32))), .val (.ref pp), .val (.ref qq), .val (.ref rr), .val (.int bpq), .val (.int bqp), .unset, .unset, .unset, .unset] [])) _
    refine XS.aload X8.here hx rfl (hb hby at_61) rfl rfl ?_
    show Steps p.tables e below (T8.setTop (mkF m 63 #[.val (.int p1), .val (.int p2), .val (.int p3), .val (.int (HMod.hMod (p1 &&& (2147483647 : Int32)) (5 : Int32))), .val (.int (HMod.hMod (p2 &&& (2147483647 : Int32)) (5 : Int32))), .val (.int (HMod.hMod (p3 &&& (2147483647 : Int32)) (5 : Int32))), .val (.ref pp), .val (.ref qq), .val (.ref rr), .val (.int bpq), .val (.int bqp), .unset, .unset, .unset, .unset] [(.ref qq)])) _
    refine XS.aload X8.here hx rfl (hb hby at_63) rfl rfl ?_
    show Steps p.tables e below (T8.setTop (mkF m 65 #[.val (.int p1), .val (.int p2), .val (.int p3), .val (.int (HMod.hMod (p1 &&& (2147483647 : Int32)) (5 : Int32))), .val (.int (HMod.hMod (p2 &&& (2147483647 : Int32)) (5 : Int32))), .val (.int (HMod.hMod (p3 &&& (2147483647 : Int32)) (5 : Int32))), .val (.ref pp), .val (.ref qq), .val (.ref rr), .val (.int bpq), .val (.int bqp), .unset, .unset, .unset, .unset] [(.ref rr), (.ref qq)])) _
    refine st9.trans ?_
    show Steps p.tables e below (T9.setTop (mkF m 68 #[.val (.int p1), .val (.int p2), .val (.int p3), .val (.int (HMod.hMod (p1 &&& (2147483647 : Int32)) (5 : Int32))), .val (.int (HMod.hMod (p2 &&& (2147483647 : Int32)) (5 : Int32))), .val (.int (HMod.hMod (p3 &&& (2147483647 : Int32)) (5 : Int32))), .val (.ref pp), .val (.ref qq), .val (.ref rr), .val (.int bpq), .val (.int bqp), .unset, .unset, .unset, .unset] [(.int bqr)])) _
    refine XS.istore X9.here hx rfl (hb hby at_68) rfl (l' := #[.val (.int p1), .val (.int p2), .val (.int p3), .val (.int (HMod.hMod (p1 &&& (2147483647 : Int32)) (5 : Int32))), .val (.int (HMod.hMod (p2 &&& (2147483647 : Int32)) (5 : Int32))), .val (.int (HMod.hMod (p3 &&& (2147483647 : Int32)) (5 : Int32))), .val (.ref pp), .val (.ref qq), .val (.ref rr), .val (.int bpq), .val (.int bqp), .val (.int bqr), .unset, .unset, .unset]) rfl ?_
    show Steps p.tables e below (T9.setTop (mkF m 70 #[.val (.int p1), .val (.int p2), .val (.int p3), .val (.int (HMod.hMod (p1 &&& (2147483647 : Int32)) (5 : Int32))), .val (.int (HMod.hMod (p2 &&& (2147483647 : Int32)) (5 : Int32))), .val (.int (HMod.hMod (p3 &&& (2147483647 : Int32)) (5 : Int32))), .val (.ref pp), .val (.ref qq), .val (.ref rr), .val (.int bpq), .val (.int bqp), .val (.int bqr), .unset, .unset, .unset] [])) _
    refine XS.aload X9.here hx rfl (hb hby at_70) rfl rfl ?_
    show Steps p.tables e below (T9.setTop (mkF m 72 #[.val (.int p1), .val (.int p2), .val (.int p3), .val (.int (HMod.hMod (p1 &&& (2147483647 : Int32)) (5 : Int32))), .val (.int (HMod.hMod (p2 &&& (2147483647 : Int32)) (5 : Int32))), .val (.int (HMod.hMod (p3 &&& (2147483647 : Int32)) (5 : Int32))), .val (.ref pp), .val (.ref qq), .val (.ref rr), .val (.int bpq), .val (.int bqp), .val (.int bqr), .unset, .unset, .unset] [(.ref pp)])) _
    refine XS.aload X9.here hx rfl (hb hby at_72) rfl rfl ?_
    show Steps p.tables e below (T9.setTop (mkF m 74 #[.val (.int p1), .val (.int p2), .val (.int p3), .val (.int (HMod.hMod (p1 &&& (2147483647 : Int32)) (5 : Int32))), .val (.int (HMod.hMod (p2 &&& (2147483647 : Int32)) (5 : Int32))), .val (.int (HMod.hMod (p3 &&& (2147483647 : Int32)) (5 : Int32))), .val (.ref pp), .val (.ref qq), .val (.ref rr), .val (.int bpq), .val (.int bqp), .val (.int bqr), .unset, .unset, .unset] [(.ref rr), (.ref pp)])) _
    refine st10.trans ?_
    show Steps p.tables e below (T10.setTop (mkF m 77 #[.val (.int p1), .val (.int p2), .val (.int p3), .val (.int (HMod.hMod (p1 &&& (2147483647 : Int32)) (5 : Int32))), .val (.int (HMod.hMod (p2 &&& (2147483647 : Int32)) (5 : Int32))), .val (.int (HMod.hMod (p3 &&& (2147483647 : Int32)) (5 : Int32))), .val (.ref pp), .val (.ref qq), .val (.ref rr), .val (.int bpq), .val (.int bqp), .val (.int bqr), .unset, .unset, .unset] [(.int bpr)])) _
    refine XS.istore X10.here hx rfl (hb hby at_77) rfl (l' := #[.val (.int p1), .val (.int p2), .val (.int p3), .val (.int (HMod.hMod (p1 &&& (2147483647 : Int32)) (5 : Int32))), .val (.int (HMod.hMod (p2 &&& (2147483647 : Int32)) (5 : Int32))), .val (.int (HMod.hMod (p3 &&& (2147483647 : Int32)) (5 : Int32))), .val (.ref pp), .val (.ref qq), .val (.ref rr), .val (.int bpq), .val (.int bqp), .val (.int bqr), .val (.int bpr), .unset, .unset]) rfl ?_
    show Steps p.tables e below (T10.setTop (mkF m 79 #[.val (.int p1), .val (.int p2), .val (.int p3), .val (.int (HMod.hMod (p1 &&& (2147483647 : Int32)) (5 : Int32))), .val (.int (HMod.hMod (p2 &&& (2147483647 : Int32)) (5 : Int32))), .val (.int (HMod.hMod (p3 &&& (2147483647 : Int32)) (5 : Int32))), .val (.ref pp), .val (.ref qq), .val (.ref rr), .val (.int bpq), .val (.int bqp), .val (.int bqr), .val (.int bpr), .unset, .unset] [])) _
    refine XS.aload X10.here hx rfl (hb hby at_79) rfl rfl ?_
    show Steps p.tables e below (T10.setTop (mkF m 81 #[.val (.int p1), .val (.int p2), .val (.int p3), .val (.int (HMod.hMod (p1 &&& (2147483647 : Int32)) (5 : Int32))), .val (.int (HMod.hMod (p2 &&& (2147483647 : Int32)) (5 : Int32))), .val (.int (HMod.hMod (p3 &&& (2147483647 : Int32)) (5 : Int32))), .val (.ref pp), .val (.ref qq), .val (.ref rr), .val (.int bpq), .val (.int bqp), .val (.int bqr), .val (.int bpr), .unset, .unset] [(.ref pp)])) _
    refine XS.aload X10.here hx rfl (hb hby at_81) rfl rfl ?_
    show Steps p.tables e below (T10.setTop (mkF m 83 #[.val (.int p1), .val (.int p2), .val (.int p3), .val (.int (HMod.hMod (p1 &&& (2147483647 : Int32)) (5 : Int32))), .val (.int (HMod.hMod (p2 &&& (2147483647 : Int32)) (5 : Int32))), .val (.int (HMod.hMod (p3 &&& (2147483647 : Int32)) (5 : Int32))), .val (.ref pp), .val (.ref qq), .val (.ref rr), .val (.int bpq), .val (.int bqp), .val (.int bqr), .val (.int bpr), .unset, .unset] [(.ref pp), (.ref pp)])) _
    refine st11.trans ?_
    show Steps p.tables e below (T11.setTop (mkF m 86 #[.val (.int p1), .val (.int p2), .val (.int p3), .val (.int (HMod.hMod (p1 &&& (2147483647 : Int32)) (5 : Int32))), .val (.int (HMod.hMod (p2 &&& (2147483647 : Int32)) (5 : Int32))), .val (.int (HMod.hMod (p3 &&& (2147483647 : Int32)) (5 : Int32))), .val (.ref pp), .val (.ref qq), .val (.ref rr), .val (.int bpq), .val (.int bqp), .val (.int bqr), .val (.int bpr), .unset, .unset] [(.int bpp)])) _
    refine XS.istore X11.here hx rfl (hb hby at_86) rfl (l' := #[.val (.int p1), .val (.int p2), .val (.int p3), .val (.int (HMod.hMod (p1 &&& (2147483647 : Int32)) (5 : Int32))), .val (.int (HMod.hMod (p2 &&& (2147483647 : Int32)) (5 : Int32))), .val (.int (HMod.hMod (p3 &&& (2147483647 : Int32)) (5 : Int32))), .val (.ref pp), .val (.ref qq), .val (.ref rr), .val (.int bpq), .val (.int bqp), .val (.int bqr), .val (.int bpr), .val (.int bpp), .unset]) rfl ?_
    show Steps p.tables e below (T11.setTop (mkF m 88 #[.val (.int p1), .val (.int p2), .val (.int p3), .val (.int (HMod.hMod (p1 &&& (2147483647 : Int32)) (5 : Int32))), .val (.int (HMod.hMod (p2 &&& (2147483647 : Int32)) (5 : Int32))), .val (.int (HMod.hMod (p3 &&& (2147483647 : Int32)) (5 : Int32))), .val (.ref pp), .val (.ref qq), .val (.ref rr), .val (.int bpq), .val (.int bqp), .val (.int bqr), .val (.int bpr), .val (.int bpp), .unset] [])) _
    refine XS.iloadN X11.here hx rfl (hb hby at_88) rfl ?_
    show Steps p.tables e below (T11.setTop (mkF m 89 #[.val (.int p1), .val (.int p2), .val (.int p3), .val (.int (HMod.hMod (p1 &&& (2147483647 : Int32)) (5 : Int32))), .val (.int (HMod.hMod (p2 &&& (2147483647 : Int32)) (5 : Int32))), .val (.int (HMod.hMod (p3 &&& (2147483647 : Int32)) (5 : Int32))), .val (.ref pp), .val (.ref qq), .val (.ref rr), .val (.int bpq), .val (.int bqp), .val (.int bqr), .val (.int bpr), .val (.int bpp), .unset] [(.int (HMod.hMod (p1 &&& (2147483647 : Int32)) (5 : Int32)))])) _
    refine XS.iload X11.here hx rfl (hb hby at_89) rfl ?_
    show Steps p.tables e below (T11.setTop (mkF m 91 #[.val (.int p1), .val (.int p2), .val (.int p3), .val (.int (HMod.hMod (p1 &&& (2147483647 : Int32)) (5 : Int32))), .val (.int (HMod.hMod (p2 &&& (2147483647 : Int32)) (5 : Int32))), .val (.int (HMod.hMod (p3 &&& (2147483647 : Int32)) (5 : Int32))), .val (.ref pp), .val (.ref qq), .val (.ref rr), .val (.int bpq), .val (.int bqp), .val (.int bqr), .val (.int bpr), .val (.int bpp), .unset] [(.int (HMod.hMod (p2 &&& (2147483647 : Int32)) (5 : Int32))), (.int (HMod.hMod (p1 &&& (2147483647 : Int32)) (5 : Int32)))])) _
    refine XS.icmpNo X11.here hx rfl (hb hby at_91) rfl (feq hc91).1 ?_
    show Steps p.tables e below (T11.setTop (mkF m 94 #[.val (.int p1), .val (.int p2), .val (.int p3), .val (.int (HMod.hMod (p1 &&& (2147483647 : Int32)) (5 : Int32))), .val (.int (HMod.hMod (p2 &&& (2147483647 : Int32)) (5 : Int32))), .val (.int (HMod.hMod (p3 &&& (2147483647 : Int32)) (5 : Int32))), .val (.ref pp), .val (.ref qq), .val (.ref rr), .val (.int bpq), .val (.int bqp), .val (.int bqr), .val (.int bpr), .val (.int bpp), .unset] [])) _
    refine XS.iloadN X11.here hx rfl (hb hby at_94) rfl ?_
    show Steps p.tables e below (T11.setTop (mkF m 95 #[.val (.int p1), .val (.int p2), .val (.int p3), .val (.int (HMod.hMod (p1 &&& (2147483647 : Int32)) (5 : Int32))), .val (.int (HMod.hMod (p2 &&& (2147483647 : Int32)) (5 : Int32))), .val (.int (HMod.hMod (p3 &&& (2147483647 : Int32)) (5 : Int32))), .val (.ref pp), .val (.ref qq), .val (.ref rr), .val (.int bpq), .val (.int bqp), .val (.int bqr), .val (.int bpr), .val (.int bpp), .unset] [(.int (HMod.hMod (p1 &&& (2147483647 : Int32)) (5 : Int32)))])) _
    refine XS.iconst X11.here hx rfl (hb hby at_95) ?_
    show Steps p.tables e below (T11.setTop (mkF m 96 #[.val (.int p1), .val (.int p2), .val (.int p3), .val (.int (HMod.hMod (p1 &&& (2147483647 : Int32)) (5 : Int32))), .val (.int (HMod.hMod (p2 &&& (2147483647 : Int32)) (5 : Int32))), .val (.int (HMod.hMod (p3 &&& (2147483647 : Int32)) (5 : Int32))), .val (.ref pp), .val (.ref qq), .val (.ref rr), .val (.int bpq), .val (.int bqp), .val (.int bqr), .val (.int bpr), .val (.int bpp), .unset] [(.int (2 : Int32)), (.int (HMod.hMod (p1 &&& (2147483647 : Int32)) (5 : Int32)))])) _
    refine XS.icmpNo X11.here hx rfl (hb hby at_96) rfl (teq hc96).2 ?_
    show Steps p.tables e below (T11.setTop (mkF m 99 #[.val (.int p1), .val (.int p2), .val (.int p3), .val (.int (HMod.hMod (p1 &&& (2147483647 : Int32)) (5 : Int32))), .val (.int (HMod.hMod (p2 &&& (2147483647 : Int32)) (5 : Int32))), .val (.int (HMod.hMod (p3 &&& (2147483647 : Int32)) (5 : Int32))), .val (.ref pp), .val (.ref qq), .val (.ref rr), .val (.int bpq), .val (.int bqp), .val (.int bqr), .val (.int bpr), .val (.int bpp), .unset] [])) _
    refine XS.iload X11.here hx rfl (hb hby at_99) rfl ?_
    show Steps p.tables e below (T11.setTop (mkF m 101 #[.val (.int p1), .val (.int p2), .val (.int p3), .val (.int (HMod.hMod (p1 &&& (2147483647 : Int32)) (5 : Int32))), .val (.int (HMod.hMod (p2 &&& (2147483647 : Int32)) (5 : Int32))), .val (.int (HMod.hMod (p3 &&& (2147483647 : Int32)) (5 : Int32))), .val (.ref pp), .val (.ref qq), .val (.ref rr), .val (.int bpq), .val (.int bqp), .val (.int bqr), .val (.int bpr), .val (.int bpp), .unset] [(.int (HMod.hMod (p2 &&& (2147483647 : Int32)) (5 : Int32)))])) _
    refine XS.iconst X11.here hx rfl (hb hby at_101) ?_
    show Steps p.tables e below (T11.setTop (mkF m 102 #[.val (.int p1), .val (.int p2), .val (.int p3), .val (.int (HMod.hMod (p1 &&& (2147483647 : Int32)) (5 : Int32))), .val (.int (HMod.hMod (p2 &&& (2147483647 : Int32)) (5 : Int32))), .val (.int (HMod.hMod (p3 &&& (2147483647 : Int32)) (5 : Int32))), .val (.ref pp), .val (.ref qq), .val (.ref rr), .val (.int bpq), .val (.int bqp), .val (.int bqr), .val (.int bpr), .val (.int bpp), .unset] [(.int (1 : Int32)), (.int (HMod.hMod (p2 &&& (2147483647 : Int32)) (5 : Int32)))])) _
    refine XS.icmpYes X11.here hx rfl (pc0 := 102) (pc' := 109) rfl (hb hby at_102) rfl (feq hc102).2 (by decide) (by decide) ?_
    show Steps p.tables e below (T11.setTop (mkF m 109 #[.val (.int p1), .val (.int p2), .val (.int p3), .val (.int (HMod.hMod (p1 &&& (2147483647 : Int32)) (5 : Int32))), .val (.int (HMod.hMod (p2 &&& (2147483647 : Int32)) (5 : Int32))), .val (.int (HMod.hMod (p3 &&& (2147483647 : Int32)) (5 : Int32))), .val (.ref pp), .val (.ref qq), .val (.ref rr), .val (.int bpq), .val (.int bqp), .val (.int bqr), .val (.int bpr), .val (.int bpp), .unset] [])) _
    refine XS.iconst X11.here hx rfl (hb hby at_109) ?_
    show Steps p.tables e below (T11.setTop (mkF m 110 #[.val (.int p1), .val (.int p2), .val (.int p3), .val (.int (HMod.hMod (p1 &&& (2147483647 : Int32)) (5 : Int32))), .val (.int (HMod.hMod (p2 &&& (2147483647 : Int32)) (5 : Int32))), .val (.int (HMod.hMod (p3 &&& (2147483647 : Int32)) (5 : Int32))), .val (.ref pp), .val (.ref qq), .val (.ref rr), .val (.int bpq), .val (.int bqp), .val (.int bqr), .val (.int bpr), .val (.int bpp), .unset] [(.int (0 : Int32))])) _
    refine XS.istore X11.here hx rfl (hb hby at_110) rfl (l' := #[.val (.int p1), .val (.int p2), .val (.int p3), .val (.int (HMod.hMod (p1 &&& (2147483647 : Int32)) (5 : Int32))), .val (.int (HMod.hMod (p2 &&& (2147483647 : Int32)) (5 : Int32))), .val (.int (HMod.hMod (p3 &&& (2147483647 : Int32)) (5 : Int32))), .val (.ref pp), .val (.ref qq), .val (.ref rr), .val (.int bpq), .val (.int bqp), .val (.int bqr), .val (.int bpr), .val (.int bpp), .val (.int (0 : Int32))]) rfl ?_
    show Steps p.tables e below (T11.setTop (mkF m 112 #[.val (.int p1), .val (.int p2), .val (.int p3), .val (.int (HMod.hMod (p1 &&& (2147483647 : Int32)) (5 : Int32))), .val (.int (HMod.hMod (p2 &&& (2147483647 : Int32)) (5 : Int32))), .val (.int (HMod.hMod (p3 &&& (2147483647 : Int32)) (5 : Int32))), .val (.ref pp), .val (.ref qq), .val (.ref rr), .val (.int bpq), .val (.int bqp), .val (.int bqr), .val (.int bpr), .val (.int bpp), .val (.int (0 : Int32))] [])) _
    refine XS.iload X11.here hx rfl (hb hby at_112) rfl ?_
    show Steps p.tables e below (T11.setTop (mkF m 114 #[.val (.int p1), .val (.int p2), .val (.int p3), .val (.int (HMod.hMod (p1 &&& (2147483647 : Int32)) (5 : Int32))), .val (.int (HMod.hMod (p2 &&& (2147483647 : Int32)) (5 : Int32))), .val (.int (HMod.hMod (p3 &&& (2147483647 : Int32)) (5 : Int32))), .val (.ref pp), .val (.ref qq), .val (.ref rr), .val (.int bpq), .val (.int bqp), .val (.int bqr), .val (.int bpr), .val (.int bpp), .val (.int (0 : Int32))] [(.int bpq)])) _
    refine XS.iload X11.here hx rfl (hb hby at_114) rfl ?_
    show Steps p.tables e below (T11.setTop (mkF m 116 #[.val (.int p1), .val (.int p2), .val (.int p3), .val (.int (HMod.hMod (p1 &&& (2147483647 : Int32)) (5 : Int32))), .val (.int (HMod.hMod (p2 &&& (2147483647 : Int32)) (5 : Int32))), .val (.int (HMod.hMod (p3 &&& (2147483647 : Int32)) (5 : Int32))), .val (.ref pp), .val (.ref qq), .val (.ref rr), .val (.int bpq), .val (.int bqp), .val (.int bqr), .val (.int bpr), .val (.int bpp), .val (.int (0 : Int32))] [(.int (0 : Int32)), (.int bpq)])) _
    refine XS.icmpYes X11.here hx rfl (pc0 := 116) (pc' := 121) rfl (hb hby at_116) rfl (teq hx1).1 (by decide) (by decide) ?_
    show Steps p.tables e below (T11.setTop (mkF m 121 #[.val (.int p1), .val (.int p2), .val (.int p3), .val (.int (HMod.hMod (p1 &&& (2147483647 : Int32)) (5 : Int32))), .val (.int (HMod.hMod (p2 &&& (2147483647 : Int32)) (5 : Int32))), .val (.int (HMod.hMod (p3 &&& (2147483647 : Int32)) (5 : Int32))), .val (.ref pp), .val (.ref qq), .val (.ref rr), .val (.int bpq), .val (.int bqp), .val (.int bqr), .val (.int bpr), .val (.int bpp), .val (.int (0 : Int32))] [])) _
    refine XS.iload X11.here hx rfl (hb hby at_121) rfl ?_
    show Steps p.tables e below (T11.setTop (mkF m 123 #[.val (.int p1), .val (.int p2), .val (.int p3), .val (.int (HMod.hMod (p1 &&& (2147483647 : Int32)) (5 : Int32))), .val (.int (HMod.hMod (p2 &&& (2147483647 : Int32)) (5 : Int32))), .val (.int (HMod.hMod (p3 &&& (2147483647 : Int32)) (5 : Int32))), .val (.ref pp), .val (.ref qq), .val (.ref rr), .val (.int bpq), .val (.int bqp), .val (.int bqr), .val (.int bpr), .val (.int bpp), .val (.int (0 : Int32))] [(.int bpp)])) _
    refine XS.ifYes X11.here hx rfl (pc0 := 123) (pc' := 128) rfl (hb hby at_123) rfl ((if0 _ _).trans (feq hx2).2) (by decide) (by decide) ?_
    show Steps p.tables e below (T11.setTop (mkF m 128 #[.val (.int p1), .val (.int p2), .val (.int p3), .val (.int (HMod.hMod (p1 &&& (2147483647 : Int32)) (5 : Int32))), .val (.int (HMod.hMod (p2 &&& (2147483647 : Int32)) (5 : Int32))), .val (.int (HMod.hMod (p3 &&& (2147483647 : Int32)) (5 : Int32))), .val (.ref pp), .val (.ref qq), .val (.ref rr), .val (.int bpq), .val (.int bqp), .val (.int bqr), .val (.int bpr), .val (.int bpp), .val (.int (0 : Int32))] [])) _
    refine XS.iload X11.here hx rfl (hb hby at_128) rfl ?_
    show Steps p.tables e below (T11.setTop (mkF m 130 #[.val (.int p1), .val (.int p2), .val (.int p3), .val (.int (HMod.hMod (p1 &&& (2147483647 : Int32)) (5 : Int32))), .val (.int (HMod.hMod (p2 &&& (2147483647 : Int32)) (5 : Int32))), .val (.int (HMod.hMod (p3 &&& (2147483647 : Int32)) (5 : Int32))), .val (.ref pp), .val (.ref qq), .val (.ref rr), .val (.int bpq), .val (.int bqp), .val (.int bqr), .val (.int bpr), .val (.int bpp), .val (.int (0 : Int32))] [(.int bpq)])) _
    refine XS.ifYes X11.here hx rfl (pc0 := 130) (pc' := 147) rfl (hb hby at_130) rfl ((if0 _ _).trans (teq hx3).1) (by decide) (by decide) ?_
    show Steps p.tables e below (T11.setTop (mkF m 147 #[.val (.int p1), .val (.int p2), .val (.int p3), .val (.int (HMod.hMod (p1 &&& (2147483647 : Int32)) (5 : Int32))), .val (.int (HMod.hMod (p2 &&& (2147483647 : Int32)) (5 : Int32))), .val (.int (HMod.hMod (p3 &&& (2147483647 : Int32)) (5 : Int32))), .val (.ref pp), .val (.ref qq), .val (.ref rr), .val (.int bpq), .val (.int bqp), .val (.int bqr), .val (.int bpr), .val (.int bpp), .val (.int (0 : Int32))] [])) _
    refine XS.iload X11.here hx rfl (hb hby at_147) rfl ?_
    show Steps p.tables e below (T11.setTop (mkF m 149 #[.val (.int p1), .val (.int p2), .val (.int p3), .val (.int (HMod.hMod (p1 &&& (2147483647 : Int32)) (5 : Int32))), .val (.int (HMod.hMod (p2 &&& (2147483647 : Int32)) (5 : Int32))), .val (.int (HMod.hMod (p3 &&& (2147483647 : Int32)) (5 : Int32))), .val (.ref pp), .val (.ref qq), .val (.ref rr), .val (.int bpq), .val (.int bqp), .val (.int bqr), .val (.int bpr), .val (.int bpp), .val (.int (0 : Int32))] [(.int bpq)])) _
    refine XS.ifYes X11.here hx rfl (pc0 := 149) (pc' := 164) rfl (hb hby at_149) rfl ((if0 _ _).trans (teq hx4).1) (by decide) (by decide) ?_
    show Steps p.tables e below (T11.setTop (mkF m 164 #[.val (.int p1), .val (.int p2), .val (.int p3), .val (.int (HMod.hMod (p1 &&& (2147483647 : Int32)) (5 : Int32))), .val (.int (HMod.hMod (p2 &&& (2147483647 : Int32)) (5 : Int32))), .val (.int (HMod.hMod (p3 &&& (2147483647 : Int32)) (5 : Int32))), .val (.ref pp), .val (.ref qq), .val (.ref rr), .val (.int bpq), .val (.int bqp), .val (.int bqr), .val (.int bpr), .val (.int bpp), .val (.int (0 : Int32))] [])) _
    refine XS.iconst X11.here hx rfl (hb hby at_164) ?_
    show Steps p.tables e below (T11.setTop (mkF m 165 #[.val (.int p1), .val (.int p2), .val (.int p3), .val (.int (HMod.hMod (p1 &&& (2147483647 : Int32)) (5 : Int32))), .val (.int (HMod.hMod (p2 &&& (2147483647 : Int32)) (5 : Int32))), .val (.int (HMod.hMod (p3 &&& (2147483647 : Int32)) (5 : Int32))), .val (.ref pp), .val (.ref qq), .val (.ref rr), .val (.int bpq), .val (.int bqp), .val (.int bqr), .val (.int bpr), .val (.int bpp), .val (.int (0 : Int32))] [(.int (1 : Int32))])) _
    exact retN X11 hx (t := .boolean) Bd.returns (by simp) (hb hby at_165) hr
  · show Q0C Z p1 p2 p3 h0 n0 _ T11.heap _
    exact ⟨rfl, N11⟩
def Q0D1 (Z : State) (p1 : Int32) (p2 : Int32) (p3 : Int32) (h0 : Heap) (n0 : Nat) (v : Option Value) (h : Heap) (L : List Loc) : Prop := v = some (.int (1 : Int32)) ∧ Fr n0 L
set_option maxRecDepth 65536 in
set_option maxHeartbeats 40000000 in
theorem rm0D1 (l : Launch) (Z : State) (a0 : Array Value) (hw : ∀ d ∈ tables_1, d.before a0 Z = true) (ws : List Jvm.Cond) (p1 : Int32) (p2 : Int32) (p3 : Int32) (u1 : Addr) (u2 : Addr) (u3 : Addr) (u4 : Addr) (u5 : Addr) (pp : Addr) (qq : Addr) (rr : Addr) (Cp : String) (Cq : String) (bpq : Int32) (bqp : Int32) (bqr : Int32) (bpr : Int32) (bpp : Int32) (h0 : Heap) (n0 : Nat) (Z0 : n0 ≤ h0.size) (S_STRING : Sta Z h0 "com/example/nereus/nereus/Domain" "STRING" "Lcom/example/nereus/nereus/Domain;" (.ref u1)) (S_INTEGER : Sta Z h0 "com/example/nereus/nereus/Domain" "INTEGER" "Lcom/example/nereus/nereus/Domain;" (.ref u2)) (S_DECIMAL : Sta Z h0 "com/example/nereus/nereus/Domain" "DECIMAL" "Lcom/example/nereus/nereus/Domain;" (.ref u3)) (S_BOOLEAN : Sta Z h0 "com/example/nereus/nereus/Domain" "BOOLEAN" "Lcom/example/nereus/nereus/Domain;" (.ref u4)) (S_DATETIME : Sta Z h0 "com/example/nereus/nereus/Domain" "DATETIME" "Lcom/example/nereus/nereus/Domain;" (.ref u5)) (E_u1 : Exa Z h0 u1 "com/example/nereus/nereus/Domain$1") (E_u2 : Exa Z h0 u2 "com/example/nereus/nereus/Domain$2") (E_u3 : Exa Z h0 u3 "com/example/nereus/nereus/Domain$3") (E_u4 : Exa Z h0 u4 "com/example/nereus/nereus/Domain$4") (E_u5 : Exa Z h0 u5 "com/example/nereus/nereus/Domain$5") (E_pp : Exa Z h0 pp Cp) (E_qq : Exa Z h0 qq Cq) (sel_p : (Jvm.Cond.selects Cp (⟨"com/example/nereus/nereus/Domain", "includes", "(Lcom/example/nereus/nereus/Domain;)Z"⟩ : MethodName) (⟨"com/example/nereus/nereus/Domain", "includes", "(Lcom/example/nereus/nereus/Domain;)Z"⟩ : MethodName)).before a0 Z = true) (sel_q : (Jvm.Cond.selects Cq (⟨"com/example/nereus/nereus/Domain", "includes", "(Lcom/example/nereus/nereus/Domain;)Z"⟩ : MethodName) (⟨"com/example/nereus/nereus/Domain", "includes", "(Lcom/example/nereus/nereus/Domain;)Z"⟩ : MethodName)).before a0 Z = true) (n1 : ¬ (HMod.hMod (p1 &&& (2147483647 : Int32)) (5 : Int32)) < 0) (m1 : (HMod.hMod (p1 &&& (2147483647 : Int32)) (5 : Int32)) < 5) (v1 : ([.ref u1, .ref u2, .ref u3, .ref u4, .ref u5] : List Value).getD (HMod.hMod (p1 &&& (2147483647 : Int32)) (5 : Int32)).toNatClampNeg .null = .ref pp) (n2 : ¬ (HMod.hMod (p2 &&& (2147483647 : Int32)) (5 : Int32)) < 0) (m2 : (HMod.hMod (p2 &&& (2147483647 : Int32)) (5 : Int32)) < 5) (v2 : ([.ref u1, .ref u2, .ref u3, .ref u4, .ref u5] : List Value).getD (HMod.hMod (p2 &&& (2147483647 : Int32)) (5 : Int32)).toNatClampNeg .null = .ref qq) (n3 : ¬ (HMod.hMod (p3 &&& (2147483647 : Int32)) (5 : Int32)) < 0) (m3 : (HMod.hMod (p3 &&& (2147483647 : Int32)) (5 : Int32)) < 5) (v3 : ([.ref u1, .ref u2, .ref u3, .ref u4, .ref u5] : List Value).getD (HMod.hMod (p3 &&& (2147483647 : Int32)) (5 : Int32)).toNatClampNeg .null = .ref rr) (t_bpq : (pp = qq ∨ (pp = u3 ∧ qq = u2)) → bpq = 1) (f_bpq : ¬ (pp = qq ∨ (pp = u3 ∧ qq = u2)) → bpq = 0) (t_bqp : (qq = pp ∨ (qq = u3 ∧ pp = u2)) → bqp = 1) (f_bqp : ¬ (qq = pp ∨ (qq = u3 ∧ pp = u2)) → bqp = 0) (t_bqr : (qq = rr ∨ (qq = u3 ∧ rr = u2)) → bqr = 1) (f_bqr : ¬ (qq = rr ∨ (qq = u3 ∧ rr = u2)) → bqr = 0) (t_bpr : (pp = rr ∨ (pp = u3 ∧ rr = u2)) → bpr = 1) (f_bpr : ¬ (pp = rr ∨ (pp = u3 ∧ rr = u2)) → bpr = 0) (t_bpp : (pp = pp ∨ (pp = u3 ∧ pp = u2)) → bpp = 1) (f_bpp : ¬ (pp = pp ∨ (pp = u3 ∧ pp = u2)) → bpp = 0) (hx1 : bpq = (1 : Int32)) (hx2 : ¬ (bpp = (0 : Int32))) (hx3 : ¬ (bpq = (0 : Int32))) (hx4 : bqp = (0 : Int32)) (hx5 : ¬ (bpq = (0 : Int32))) (hx6 : bqr = (0 : Int32)) (hc91 : ¬ ((HMod.hMod (p1 &&& (2147483647 : Int32)) (5 : Int32)) = (HMod.hMod (p2 &&& (2147483647 : Int32)) (5 : Int32)))) (hc96 : (HMod.hMod (p1 &&& (2147483647 : Int32)) (5 : Int32)) = (2 : Int32)) (hc102 : (HMod.hMod (p2 &&& (2147483647 : Int32)) (5 : Int32)) = (1 : Int32)) :
    MetFree l x (head1 (Jvm.Cond.code x code maxLocals ret :: ws) room_1) (fun a U => a = #[(.int p1), (.int p2), (.int p3)] ∧ Z.Warmed39 U.vm ∧ U.heap = h0) (fun _ _ _ _ _ => True) (fun _ U o U' => ∃ v L, o = .returned v ∧ Q0D1 Z p1 p2 p3 h0 n0 v U'.heap L ∧ FrameEnd U o U' L room_1.cells room_1.slots) := by
  refine MetFree.of_bodySF (plainFor_of_name pn_0) hisR ?_
  intro p e s m args below meth c s₁ Bd hml0 hP hK
  obtain ⟨rfl, hZ, hh⟩ := hP
  have hx := Bd.exec
  have hby := Bd.bytes
  have hml : c.maxLocals = 15 := hml0
  have hown : s.vm.findClass "com/example/nereus/nereus/DomainIncludesPinLaw" = some m.cls := findClass_of_methodNamed Bd.named
  have hnm := (name_of_methodNamed Bd.named Bd.method).1
  have X0 : Stand p l e room_1 s m #[(.int p1), (.int p2), (.int p3)] below meth c s₁ [] 0 0 := Stand.of_body Bd
  have e0 : s₁.heap = h0 := by rw [← hh, Bd.state]; rfl
  have N0 := Fr.nil n0
  have pre0 : ∀ t, Steps p.tables e below (s₁.setTop (mkF m 0 #[.val (.int p1), .val (.int p2), .val (.int p3), .unset, .unset, .unset, .unset, .unset, .unset, .unset, .unset, .unset, .unset, .unset, .unset] [])) t → Steps p.tables e below (s₁.setTop (entryFrame m #[(.int p1), (.int p2), (.int p3)] maxLocals)) t := fun t k => castTop (ef_0 m p1 p2 p3) k
  obtain ⟨_, _, ⟨T4, L4, k4, n4⟩, -, X4, ⟨Lc4, hQ4, l4, y4, z4⟩, st4⟩ := Jvm.LawKit.callS X0 hx (y := (⟨"com/example/nereus/nereus/DomainIncludesPinLaw", "pick", "(I)Lcom/example/nereus/nereus/Domain;"⟩ : MethodName)) hown (mvT hZ (hw _ (List.mem_of_getElem? (i := 1) rfl))) (mvT hZ (hw _ (List.mem_of_getElem? (i := 2) rfl))) (mvT hZ (hw _ (List.mem_of_getElem? (i := 3) rfl))) (mvT hZ (hw _ (List.mem_of_getElem? (i := 4) rfl))) (by decide) (backOf (W := 0) (rm1 l Z a0 hw [] (HMod.hMod (p1 &&& (2147483647 : Int32)) (5 : Int32)) u1 u2 u3 u4 u5 pp h0 n0 Z0 S_STRING S_INTEGER S_DECIMAL S_BOOLEAN S_DATETIME E_u1 E_u2 E_u3 E_u4 E_u5 n1 m1 v1) hZ (hw _ (List.mem_of_getElem? (i := 4) rfl)) (hw _ (List.mem_of_getElem? (i := 3) rfl)) (by decide) (by decide)) (g := (mkF m 24 #[.val (.int p1), .val (.int p2), .val (.int p3), .val (.int (HMod.hMod (p1 &&& (2147483647 : Int32)) (5 : Int32))), .val (.int (HMod.hMod (p2 &&& (2147483647 : Int32)) (5 : Int32))), .val (.int (HMod.hMod (p3 &&& (2147483647 : Int32)) (5 : Int32))), .unset, .unset, .unset, .unset, .unset, .unset, .unset, .unset, .unset] [(.int (HMod.hMod (p1 &&& (2147483647 : Int32)) (5 : Int32)))])) rfl (by rw [hml]; rfl) (argsL := [(.int (HMod.hMod (p1 &&& (2147483647 : Int32)) (5 : Int32)))]) (rest := []) (lenOf pd_0_0 rfl) rfl (by show 2 * 0 + _ ≤ _; exact Nat.le_of_eq rfl) (hb hby at_24) (fun _ _ => ⟨rfl, e0, (Nat.le_of_ble_eq_true rfl), (Nat.le_of_ble_eq_true rfl)⟩)
  dsimp only [Pt.U, Pt.locs, Pt.cells, Pt.slots] at X4 l4 y4 z4 st4 hQ4
  subst l4 y4 z4
  obtain ⟨rfl, N4q, X4x⟩ := hQ4
  replace S_STRING := S_STRING.ext X4x
  replace S_INTEGER := S_INTEGER.ext X4x
  replace S_DECIMAL := S_DECIMAL.ext X4x
  replace S_BOOLEAN := S_BOOLEAN.ext X4x
  replace S_DATETIME := S_DATETIME.ext X4x
  replace E_u1 := E_u1.ext X4x
  replace E_u2 := E_u2.ext X4x
  replace E_u3 := E_u3.ext X4x
  replace E_u4 := E_u4.ext X4x
  replace E_u5 := E_u5.ext X4x
  replace E_pp := E_pp.ext X4x
  replace E_qq := E_qq.ext X4x
  replace Z0 := Nat.le_trans Z0 X4x.1
  have N4 := Fr.app N0 N4q
  obtain ⟨_, _, ⟨T5, L5, k5, n5⟩, -, X5, ⟨Lc5, hQ5, l5, y5, z5⟩, st5⟩ := Jvm.LawKit.callS X4 hx (y := (⟨"com/example/nereus/nereus/DomainIncludesPinLaw", "pick", "(I)Lcom/example/nereus/nereus/Domain;"⟩ : MethodName)) hown (mvT hZ (hw _ (List.mem_of_getElem? (i := 1) rfl))) (mvT hZ (hw _ (List.mem_of_getElem? (i := 2) rfl))) (mvT hZ (hw _ (List.mem_of_getElem? (i := 3) rfl))) (mvT hZ (hw _ (List.mem_of_getElem? (i := 4) rfl))) (by decide) (backOf (W := 0) (rm1 l Z a0 hw [] (HMod.hMod (p2 &&& (2147483647 : Int32)) (5 : Int32)) u1 u2 u3 u4 u5 qq T4.heap n0 Z0 S_STRING S_INTEGER S_DECIMAL S_BOOLEAN S_DATETIME E_u1 E_u2 E_u3 E_u4 E_u5 n2 m2 v2) hZ (hw _ (List.mem_of_getElem? (i := 4) rfl)) (hw _ (List.mem_of_getElem? (i := 3) rfl)) (by decide) (by decide)) (g := (mkF m 31 #[.val (.int p1), .val (.int p2), .val (.int p3), .val (.int (HMod.hMod (p1 &&& (2147483647 : Int32)) (5 : Int32))), .val (.int (HMod.hMod (p2 &&& (2147483647 : Int32)) (5 : Int32))), .val (.int (HMod.hMod (p3 &&& (2147483647 : Int32)) (5 : Int32))), .val (.ref pp), .unset, .unset, .unset, .unset, .unset, .unset, .unset, .unset] [(.int (HMod.hMod (p2 &&& (2147483647 : Int32)) (5 : Int32)))])) rfl (by rw [hml]; rfl) (argsL := [(.int (HMod.hMod (p2 &&& (2147483647 : Int32)) (5 : Int32)))]) (rest := []) (lenOf pd_0_0 rfl) rfl (by show 2 * 0 + _ ≤ _; exact Nat.le_of_eq rfl) (hb hby at_31) (fun _ _ => ⟨rfl, rfl, (Nat.le_of_ble_eq_true rfl), (Nat.le_of_ble_eq_true rfl)⟩)
  dsimp only [Pt.U, Pt.locs, Pt.cells, Pt.slots] at X5 l5 y5 z5 st5 hQ5
  subst l5 y5 z5
  obtain ⟨rfl, N5q, X5x⟩ := hQ5
  replace S_STRING := S_STRING.ext X5x
  replace S_INTEGER := S_INTEGER.ext X5x
  replace S_DECIMAL := S_DECIMAL.ext X5x
  replace S_BOOLEAN := S_BOOLEAN.ext X5x
  replace S_DATETIME := S_DATETIME.ext X5x
  replace E_u1 := E_u1.ext X5x
  replace E_u2 := E_u2.ext X5x
  replace E_u3 := E_u3.ext X5x
  replace E_u4 := E_u4.ext X5x
  replace E_u5 := E_u5.ext X5x
  replace E_pp := E_pp.ext X5x
  replace E_qq := E_qq.ext X5x
  replace Z0 := Nat.le_trans Z0 X5x.1
  have N5 := Fr.app N4 N5q
  obtain ⟨_, _, ⟨T6, L6, k6, n6⟩, -, X6, ⟨Lc6, hQ6, l6, y6, z6⟩, st6⟩ := Jvm.LawKit.callS X5 hx (y := (⟨"com/example/nereus/nereus/DomainIncludesPinLaw", "pick", "(I)Lcom/example/nereus/nereus/Domain;"⟩ : MethodName)) hown (mvT hZ (hw _ (List.mem_of_getElem? (i := 1) rfl))) (mvT hZ (hw _ (List.mem_of_getElem? (i := 2) rfl))) (mvT hZ (hw _ (List.mem_of_getElem? (i := 3) rfl))) (mvT hZ (hw _ (List.mem_of_getElem? (i := 4) rfl))) (by decide) (backOf (W := 0) (rm1 l Z a0 hw [] (HMod.hMod (p3 &&& (2147483647 : Int32)) (5 : Int32)) u1 u2 u3 u4 u5 rr T5.heap n0 Z0 S_STRING S_INTEGER S_DECIMAL S_BOOLEAN S_DATETIME E_u1 E_u2 E_u3 E_u4 E_u5 n3 m3 v3) hZ (hw _ (List.mem_of_getElem? (i := 4) rfl)) (hw _ (List.mem_of_getElem? (i := 3) rfl)) (by decide) (by decide)) (g := (mkF m 38 #[.val (.int p1), .val (.int p2), .val (.int p3), .val (.int (HMod.hMod (p1 &&& (2147483647 : Int32)) (5 : Int32))), .val (.int (HMod.hMod (p2 &&& (2147483647 : Int32)) (5 : Int32))), .val (.int (HMod.hMod (p3 &&& (2147483647 : Int32)) (5 : Int32))), .val (.ref pp), .val (.ref qq), .unset, .unset, .unset, .unset, .unset, .unset, .unset] [(.int (HMod.hMod (p3 &&& (2147483647 : Int32)) (5 : Int32)))])) rfl (by rw [hml]; rfl) (argsL := [(.int (HMod.hMod (p3 &&& (2147483647 : Int32)) (5 : Int32)))]) (rest := []) (lenOf pd_0_0 rfl) rfl (by show 2 * 0 + _ ≤ _; exact Nat.le_of_eq rfl) (hb hby at_38) (fun _ _ => ⟨rfl, rfl, (Nat.le_of_ble_eq_true rfl), (Nat.le_of_ble_eq_true rfl)⟩)
  dsimp only [Pt.U, Pt.locs, Pt.cells, Pt.slots] at X6 l6 y6 z6 st6 hQ6
  subst l6 y6 z6
  obtain ⟨rfl, N6q, X6x⟩ := hQ6
  replace S_STRING := S_STRING.ext X6x
  replace S_INTEGER := S_INTEGER.ext X6x
  replace S_DECIMAL := S_DECIMAL.ext X6x
  replace S_BOOLEAN := S_BOOLEAN.ext X6x
  replace S_DATETIME := S_DATETIME.ext X6x
  replace E_u1 := E_u1.ext X6x
  replace E_u2 := E_u2.ext X6x
  replace E_u3 := E_u3.ext X6x
  replace E_u4 := E_u4.ext X6x
  replace E_u5 := E_u5.ext X6x
  replace E_pp := E_pp.ext X6x
  replace E_qq := E_qq.ext X6x
  replace Z0 := Nat.le_trans Z0 X6x.1
  have N6 := Fr.app N5 N6q
  obtain ⟨cq7, kq7, q7a, q7b, q7c⟩ := isOf hZ rfl E_pp
  obtain ⟨_, _, ⟨T7, L7, k7, n7⟩, -, X7, ⟨Lc7, hQ7, l7, y7, z7⟩, st7⟩ := X6.virtualBack hx (y := (⟨"com/example/nereus/nereus/Domain", "includes", "(Lcom/example/nereus/nereus/Domain;)Z"⟩ : MethodName)) (z := (⟨"com/example/nereus/nereus/Domain", "includes", "(Lcom/example/nereus/nereus/Domain;)Z"⟩ : MethodName)) hown (mvT hZ (hw _ (List.mem_of_getElem? (i := 23) rfl))) (mvT hZ (hw _ (List.mem_of_getElem? (i := 24) rfl))) (notFace_of_selects (args := #[]) (mvT hZ sel_p)) (mvT hZ sel_p) (mvT hZ (hw _ (List.mem_of_getElem? (i := 25) rfl))) (by decide) (backOf (W := 0) (rm2g l Z a0 hw [] pp qq u3 u2 bpq T6.heap n0 Z0 S_DECIMAL S_INTEGER t_bpq f_bpq) hZ (hw _ (List.mem_of_getElem? (i := 27) rfl)) (hw _ (List.mem_of_getElem? (i := 8) rfl)) (by decide) (by decide)) q7a q7c (g := (mkF m 47 #[.val (.int p1), .val (.int p2), .val (.int p3), .val (.int (HMod.hMod (p1 &&& (2147483647 : Int32)) (5 : Int32))), .val (.int (HMod.hMod (p2 &&& (2147483647 : Int32)) (5 : Int32))), .val (.int (HMod.hMod (p3 &&& (2147483647 : Int32)) (5 : Int32))), .val (.ref pp), .val (.ref qq), .val (.ref rr), .unset, .unset, .unset, .unset, .unset, .unset] [(.ref qq), (.ref pp)])) rfl (by rw [hml]; rfl) (Steps.refl _) (argsL := [(.ref qq)]) (rest := []) (lenOf pd_0_1 rfl) rfl (by show 2 * 0 + _ ≤ _; exact Nat.le_of_eq rfl) (hb hby at_47) (fun _ _ => ⟨rfl, rfl, (Nat.le_of_ble_eq_true rfl), (Nat.le_of_ble_eq_true rfl)⟩)
  dsimp only [Pt.U, Pt.locs, Pt.cells, Pt.slots] at X7 l7 y7 z7 st7 hQ7
  subst l7 y7 z7
  obtain ⟨rfl, N7q, eq7⟩ := hQ7
  have N7 := Fr.app N6 N7q
  obtain ⟨cq8, kq8, q8a, q8b, q8c⟩ := isOf hZ eq7 E_qq
  obtain ⟨_, _, ⟨T8, L8, k8, n8⟩, -, X8, ⟨Lc8, hQ8, l8, y8, z8⟩, st8⟩ := X7.virtualBack hx (y := (⟨"com/example/nereus/nereus/Domain", "includes", "(Lcom/example/nereus/nereus/Domain;)Z"⟩ : MethodName)) (z := (⟨"com/example/nereus/nereus/Domain", "includes", "(Lcom/example/nereus/nereus/Domain;)Z"⟩ : MethodName)) hown (mvT hZ (hw _ (List.mem_of_getElem? (i := 23) rfl))) (mvT hZ (hw _ (List.mem_of_getElem? (i := 24) rfl))) (notFace_of_selects (args := #[]) (mvT hZ sel_q)) (mvT hZ sel_q) (mvT hZ (hw _ (List.mem_of_getElem? (i := 25) rfl))) (by decide) (backOf (W := 0) (rm2g l Z a0 hw [] qq pp u3 u2 bqp T6.heap n0 Z0 S_DECIMAL S_INTEGER t_bqp f_bqp) hZ (hw _ (List.mem_of_getElem? (i := 27) rfl)) (hw _ (List.mem_of_getElem? (i := 8) rfl)) (by decide) (by decide)) q8a q8c (g := (mkF m 56 #[.val (.int p1), .val (.int p2), .val (.int p3), .val (.int (HMod.hMod (p1 &&& (2147483647 : Int32)) (5 : Int32))), .val (.int (HMod.hMod (p2 &&& (2147483647 : Int32)) (5 : Int32))), .val (.int (HMod.hMod (p3 &&& (2147483647 : Int32)) (5 : Int32))), .val (.ref pp), .val (.ref qq), .val (.ref rr), .val (.int bpq), .unset, .unset, .unset, .unset, .unset] [(.ref pp), (.ref qq)])) rfl (by rw [hml]; rfl) (Steps.refl _) (argsL := [(.ref pp)]) (rest := []) (lenOf pd_0_1 rfl) rfl (by show 2 * 0 + _ ≤ _; exact Nat.le_of_eq rfl) (hb hby at_56) (fun _ _ => ⟨rfl, eq7, (Nat.le_of_ble_eq_true rfl), (Nat.le_of_ble_eq_true rfl)⟩)
  dsimp only [Pt.U, Pt.locs, Pt.cells, Pt.slots] at X8 l8 y8 z8 st8 hQ8
  subst l8 y8 z8
  obtain ⟨rfl, N8q, eq8⟩ := hQ8
  have N8 := Fr.app N7 N8q
  obtain ⟨cq9, kq9, q9a, q9b, q9c⟩ := isOf hZ eq8 E_qq
  obtain ⟨_, _, ⟨T9, L9, k9, n9⟩, -, X9, ⟨Lc9, hQ9, l9, y9, z9⟩, st9⟩ := X8.virtualBack hx (y := (⟨"com/example/nereus/nereus/Domain", "includes", "(Lcom/example/nereus/nereus/Domain;)Z"⟩ : MethodName)) (z := (⟨"com/example/nereus/nereus/Domain", "includes", "(Lcom/example/nereus/nereus/Domain;)Z"⟩ : MethodName)) hown (mvT hZ (hw _ (List.mem_of_getElem? (i := 23) rfl))) (mvT hZ (hw _ (List.mem_of_getElem? (i := 24) rfl))) (notFace_of_selects (args := #[]) (mvT hZ sel_q)) (mvT hZ sel_q) (mvT hZ (hw _ (List.mem_of_getElem? (i := 25) rfl))) (by decide) (backOf (W := 0) (rm2g l Z a0 hw [] qq rr u3 u2 bqr T6.heap n0 Z0 S_DECIMAL S_INTEGER t_bqr f_bqr) hZ (hw _ (List.mem_of_getElem? (i := 27) rfl)) (hw _ (List.mem_of_getElem? (i := 8) rfl)) (by decide) (by decide)) q9a q9c (g := (mkF m 65 #[.val (.int p1), .val (.int p2), .val (.int p3), .val (.int (HMod.hMod (p1 &&& (2147483647 : Int32)) (5 : Int32))), .val (.int (HMod.hMod (p2 &&& (2147483647 : Int32)) (5 : Int32))), .val (.int (HMod.hMod (p3 &&& (2147483647 : Int32)) (5 : Int32))), .val (.ref pp), .val (.ref qq), .val (.ref rr), .val (.int bpq), .val (.int bqp), .unset, .unset, .unset, .unset] [(.ref rr), (.ref qq)])) rfl (by rw [hml]; rfl) (Steps.refl _) (argsL := [(.ref rr)]) (rest := []) (lenOf pd_0_1 rfl) rfl (by show 2 * 0 + _ ≤ _; exact Nat.le_of_eq rfl) (hb hby at_65) (fun _ _ => ⟨rfl, eq8, (Nat.le_of_ble_eq_true rfl), (Nat.le_of_ble_eq_true rfl)⟩)
  dsimp only [Pt.U, Pt.locs, Pt.cells, Pt.slots] at X9 l9 y9 z9 st9 hQ9
  subst l9 y9 z9
  obtain ⟨rfl, N9q, eq9⟩ := hQ9
  have N9 := Fr.app N8 N9q
  obtain ⟨cq10, kq10, q10a, q10b, q10c⟩ := isOf hZ eq9 E_pp
  obtain ⟨_, _, ⟨T10, L10, k10, n10⟩, -, X10, ⟨Lc10, hQ10, l10, y10, z10⟩, st10⟩ := X9.virtualBack hx (y := (⟨"com/example/nereus/nereus/Domain", "includes", "(Lcom/example/nereus/nereus/Domain;)Z"⟩ : MethodName)) (z := (⟨"com/example/nereus/nereus/Domain", "includes", "(Lcom/example/nereus/nereus/Domain;)Z"⟩ : MethodName)) hown (mvT hZ (hw _ (List.mem_of_getElem? (i := 23) rfl))) (mvT hZ (hw _ (List.mem_of_getElem? (i := 24) rfl))) (notFace_of_selects (args := #[]) (mvT hZ sel_p)) (mvT hZ sel_p) (mvT hZ (hw _ (List.mem_of_getElem? (i := 25) rfl))) (by decide) (backOf (W := 0) (rm2g l Z a0 hw [] pp rr u3 u2 bpr T6.heap n0 Z0 S_DECIMAL S_INTEGER t_bpr f_bpr) hZ (hw _ (List.mem_of_getElem? (i := 27) rfl)) (hw _ (List.mem_of_getElem? (i := 8) rfl)) (by decide) (by decide)) q10a q10c (g := (mkF m 74 #[.val (.int p1), .val (.int p2), .val (.int p3), .val (.int (HMod.hMod (p1 &&& (2147483647 : Int32)) (5 : Int32))), .val (.int (HMod.hMod (p2 &&& (2147483647 : Int32)) (5 : Int32))), .val (.int (HMod.hMod (p3 &&& (2147483647 : Int32)) (5 : Int32))), .val (.ref pp), .val (.ref qq), .val (.ref rr), .val (.int bpq), .val (.int bqp), .val (.int bqr), .unset, .unset, .unset] [(.ref rr), (.ref pp)])) rfl (by rw [hml]; rfl) (Steps.refl _) (argsL := [(.ref rr)]) (rest := []) (lenOf pd_0_1 rfl) rfl (by show 2 * 0 + _ ≤ _; exact Nat.le_of_eq rfl) (hb hby at_74) (fun _ _ => ⟨rfl, eq9, (Nat.le_of_ble_eq_true rfl), (Nat.le_of_ble_eq_true rfl)⟩)
  dsimp only [Pt.U, Pt.locs, Pt.cells, Pt.slots] at X10 l10 y10 z10 st10 hQ10
  subst l10 y10 z10
  obtain ⟨rfl, N10q, eq10⟩ := hQ10
  have N10 := Fr.app N9 N10q
  obtain ⟨cq11, kq11, q11a, q11b, q11c⟩ := isOf hZ eq10 E_pp
  obtain ⟨_, _, ⟨T11, L11, k11, n11⟩, -, X11, ⟨Lc11, hQ11, l11, y11, z11⟩, st11⟩ := X10.virtualBack hx (y := (⟨"com/example/nereus/nereus/Domain", "includes", "(Lcom/example/nereus/nereus/Domain;)Z"⟩ : MethodName)) (z := (⟨"com/example/nereus/nereus/Domain", "includes", "(Lcom/example/nereus/nereus/Domain;)Z"⟩ : MethodName)) hown (mvT hZ (hw _ (List.mem_of_getElem? (i := 23) rfl))) (mvT hZ (hw _ (List.mem_of_getElem? (i := 24) rfl))) (notFace_of_selects (args := #[]) (mvT hZ sel_p)) (mvT hZ sel_p) (mvT hZ (hw _ (List.mem_of_getElem? (i := 25) rfl))) (by decide) (backOf (W := 0) (rm2g l Z a0 hw [] pp pp u3 u2 bpp T6.heap n0 Z0 S_DECIMAL S_INTEGER t_bpp f_bpp) hZ (hw _ (List.mem_of_getElem? (i := 27) rfl)) (hw _ (List.mem_of_getElem? (i := 8) rfl)) (by decide) (by decide)) q11a q11c (g := (mkF m 83 #[.val (.int p1), .val (.int p2), .val (.int p3), .val (.int (HMod.hMod (p1 &&& (2147483647 : Int32)) (5 : Int32))), .val (.int (HMod.hMod (p2 &&& (2147483647 : Int32)) (5 : Int32))), .val (.int (HMod.hMod (p3 &&& (2147483647 : Int32)) (5 : Int32))), .val (.ref pp), .val (.ref qq), .val (.ref rr), .val (.int bpq), .val (.int bqp), .val (.int bqr), .val (.int bpr), .unset, .unset] [(.ref pp), (.ref pp)])) rfl (by rw [hml]; rfl) (Steps.refl _) (argsL := [(.ref pp)]) (rest := []) (lenOf pd_0_1 rfl) rfl (by show 2 * 0 + _ ≤ _; exact Nat.le_of_eq rfl) (hb hby at_83) (fun _ _ => ⟨rfl, eq10, (Nat.le_of_ble_eq_true rfl), (Nat.le_of_ble_eq_true rfl)⟩)
  dsimp only [Pt.U, Pt.locs, Pt.cells, Pt.slots] at X11 l11 y11 z11 st11 hQ11
  subst l11 y11 z11
  obtain ⟨rfl, N11q, eq11⟩ := hQ11
  have N11 := Fr.app N10 N11q
  obtain ⟨fs, hr, hrun, hended, hW, hsame⟩ := X11.leave (v := some (.int (1 : Int32))) (fun h => by rw [Bd.returns] at h; cases h)
  refine ⟨_, _, pre0 _ ?_, hrun, hended, _, _, rfl, ?_, ⟨_, rfl⟩, hW, hsame.mono (by decide) (by decide)⟩
  · show Steps p.tables e below (s₁.setTop (mkF m 0 #[.val (.int p1), .val (.int p2), .val (.int p3), .unset, .unset, .unset, .unset, .unset, .unset, .unset, .unset, .unset, .unset, .unset, .unset] [])) _
    refine XS.iloadN X0.here hx rfl (hb hby at_0) rfl ?_
    show Steps p.tables e below (s₁.setTop (mkF m 1 #[.val (.int p1), .val (.int p2), .val (.int p3), .unset, .unset, .unset, .unset, .unset, .unset, .unset, .unset, .unset, .unset, .unset, .unset] [(.int p1)])) _
    refine X0.ldcI hx hown (mvT hZ (hw _ (List.mem_of_getElem? (i := 0) rfl))) (g := (mkF m 1 #[.val (.int p1), .val (.int p2), .val (.int p3), .unset, .unset, .unset, .unset, .unset, .unset, .unset, .unset, .unset, .unset, .unset, .unset] [(.int p1)])) rfl (hb hby at_1) ?_
    show Steps p.tables e below (s₁.setTop (mkF m 3 #[.val (.int p1), .val (.int p2), .val (.int p3), .unset, .unset, .unset, .unset, .unset, .unset, .unset, .unset, .unset, .unset, .unset, .unset] [(.int (2147483647 : Int32)), (.int p1)])) _
    refine XS.iand X0.here hx rfl (hb hby at_3) rfl ?_
    show Steps p.tables e below (s₁.setTop (mkF m 4 #[.val (.int p1), .val (.int p2), .val (.int p3), .unset, .unset, .unset, .unset, .unset, .unset, .unset, .unset, .unset, .unset, .unset, .unset] [(.int (p1 &&& (2147483647 : Int32)))])) _
    refine XS.iconst X0.here hx rfl (hb hby at_4) ?_
    show Steps p.tables e below (s₁.setTop (mkF m 5 #[.val (.int p1), .val (.int p2), .val (.int p3), .unset, .unset, .unset, .unset, .unset, .unset, .unset, .unset, .unset, .unset, .unset, .unset] [(.int (5 : Int32)), (.int (p1 &&& (2147483647 : Int32)))])) _
    refine iremM X0 hx (g := (mkF m 5 #[.val (.int p1), .val (.int p2), .val (.int p3), .unset, .unset, .unset, .unset, .unset, .unset, .unset, .unset, .unset, .unset, .unset, .unset] [(.int (5 : Int32)), (.int (p1 &&& (2147483647 : Int32)))])) rfl (hb hby at_5) rfl (by decide) ?_
    show Steps p.tables e below (s₁.setTop (mkF m 6 #[.val (.int p1), .val (.int p2), .val (.int p3), .unset, .unset, .unset, .unset, .unset, .unset, .unset, .unset, .unset, .unset, .unset, .unset] [(.int (HMod.hMod (p1 &&& (2147483647 : Int32)) (5 : Int32)))])) _
    refine XS.istoreN X0.here hx rfl (hb hby at_6) rfl (l' := #[.val (.int p1), .val (.int p2), .val (.int p3), .val (.int (HMod.hMod (p1 &&& (2147483647 : Int32)) (5 : Int32))), .unset, .unset, .unset, .unset, .unset, .unset, .unset, .unset, .unset, .unset, .unset]) rfl ?_
    show Steps p.tables e below (s₁.setTop (mkF m 7 #[.val (.int p1), .val (.int p2), .val (.int p3), .val (.int (HMod.hMod (p1 &&& (2147483647 : Int32)) (5 : Int32))), .unset, .unset, .unset, .unset, .unset, .unset, .unset, .unset, .unset, .unset, .unset] [])) _
    refine XS.iloadN X0.here hx rfl (hb hby at_7) rfl ?_
    show Steps p.tables e below (s₁.setTop (mkF m 8 #[.val (.int p1), .val (.int p2), .val (.int p3), .val (.int (HMod.hMod (p1 &&& (2147483647 : Int32)) (5 : Int32))), .unset, .unset, .unset, .unset, .unset, .unset, .unset, .unset, .unset, .unset, .unset] [(.int p2)])) _
    refine X0.ldcI hx hown (mvT hZ (hw _ (List.mem_of_getElem? (i := 0) rfl))) (g := (mkF m 8 #[.val (.int p1), .val (.int p2), .val (.int p3), .val (.int (HMod.hMod (p1 &&& (2147483647 : Int32)) (5 : Int32))), .unset, .unset, .unset, .unset, .unset, .unset, .unset, .unset, .unset, .unset, .unset] [(.int p2)])) rfl (hb hby at_8) ?_
    show Steps p.tables e below (s₁.setTop (mkF m 10 #[.val (.int p1), .val (.int p2), .val (.int p3), .val (.int (HMod.hMod (p1 &&& (2147483647 : Int32)) (5 : Int32))), .unset, .unset, .unset, .unset, .unset, .unset, .unset, .unset, .unset, .unset, .unset] [(.int (2147483647 : Int32)), (.int p2)])) _
    refine XS.iand X0.here hx rfl (hb hby at_10) rfl ?_
    show Steps p.tables e below (s₁.setTop (mkF m 11 #[.val (.int p1), .val (.int p2), .val (.int p3), .val (.int (HMod.hMod (p1 &&& (2147483647 : Int32)) (5 : Int32))), .unset, .unset, .unset, .unset, .unset, .unset, .unset, .unset, .unset, .unset, .unset] [(.int (p2 &&& (2147483647 : Int32)))])) _
    refine XS.iconst X0.here hx rfl (hb hby at_11) ?_
    show Steps p.tables e below (s₁.setTop (mkF m 12 #[.val (.int p1), .val (.int p2), .val (.int p3), .val (.int (HMod.hMod (p1 &&& (2147483647 : Int32)) (5 : Int32))), .unset, .unset, .unset, .unset, .unset, .unset, .unset, .unset, .unset, .unset, .unset] [(.int (5 : Int32)), (.int (p2 &&& (2147483647 : Int32)))])) _
    refine iremM X0 hx (g := (mkF m 12 #[.val (.int p1), .val (.int p2), .val (.int p3), .val (.int (HMod.hMod (p1 &&& (2147483647 : Int32)) (5 : Int32))), .unset, .unset, .unset, .unset, .unset, .unset, .unset, .unset, .unset, .unset, .unset] [(.int (5 : Int32)), (.int (p2 &&& (2147483647 : Int32)))])) rfl (hb hby at_12) rfl (by decide) ?_
    show Steps p.tables e below (s₁.setTop (mkF m 13 #[.val (.int p1), .val (.int p2), .val (.int p3), .val (.int (HMod.hMod (p1 &&& (2147483647 : Int32)) (5 : Int32))), .unset, .unset, .unset, .unset, .unset, .unset, .unset, .unset, .unset, .unset, .unset] [(.int (HMod.hMod (p2 &&& (2147483647 : Int32)) (5 : Int32)))])) _
    refine XS.istore X0.here hx rfl (hb hby at_13) rfl (l' := #[.val (.int p1), .val (.int p2), .val (.int p3), .val (.int (HMod.hMod (p1 &&& (2147483647 : Int32)) (5 : Int32))), .val (.int (HMod.hMod (p2 &&& (2147483647 : Int32)) (5 : Int32))), .unset, .unset, .unset, .unset, .unset, .unset, .unset, .unset, .unset, .unset]) rfl ?_
    show Steps p.tables e below (s₁.setTop (mkF m 15 #[.val (.int p1), .val (.int p2), .val (.int p3), .val (.int (HMod.hMod (p1 &&& (2147483647 : Int32)) (5 : Int32))), .val (.int (HMod.hMod (p2 &&& (2147483647 : Int32)) (5 : Int32))), .unset, .unset, .unset, .unset, .unset, .unset, .unset, .unset, .unset, .unset] [])) _
    refine XS.iloadN X0.here hx rfl (hb hby at_15) rfl ?_
    show Steps p.tables e below (s₁.setTop (mkF m 16 #[.val (.int p1), .val (.int p2), .val (.int p3), .val (.int (HMod.hMod (p1 &&& (2147483647 : Int32)) (5 : Int32))), .val (.int (HMod.hMod (p2 &&& (2147483647 : Int32)) (5 : Int32))), .unset, .unset, .unset, .unset, .unset, .unset, .unset, .unset, .unset, .unset] [(.int p3)])) _
    refine X0.ldcI hx hown (mvT hZ (hw _ (List.mem_of_getElem? (i := 0) rfl))) (g := (mkF m 16 #[.val (.int p1), .val (.int p2), .val (.int p3), .val (.int (HMod.hMod (p1 &&& (2147483647 : Int32)) (5 : Int32))), .val (.int (HMod.hMod (p2 &&& (2147483647 : Int32)) (5 : Int32))), .unset, .unset, .unset, .unset, .unset, .unset, .unset, .unset, .unset, .unset] [(.int p3)])) rfl (hb hby at_16) ?_
    show Steps p.tables e below (s₁.setTop (mkF m 18 #[.val (.int p1), .val (.int p2), .val (.int p3), .val (.int (HMod.hMod (p1 &&& (2147483647 : Int32)) (5 : Int32))), .val (.int (HMod.hMod (p2 &&& (2147483647 : Int32)) (5 : Int32))), .unset, .unset, .unset, .unset, .unset, .unset, .unset, .unset, .unset, .unset] [(.int (2147483647 : Int32)), (.int p3)])) _
    refine XS.iand X0.here hx rfl (hb hby at_18) rfl ?_
    show Steps p.tables e below (s₁.setTop (mkF m 19 #[.val (.int p1), .val (.int p2), .val (.int p3), .val (.int (HMod.hMod (p1 &&& (2147483647 : Int32)) (5 : Int32))), .val (.int (HMod.hMod (p2 &&& (2147483647 : Int32)) (5 : Int32))), .unset, .unset, .unset, .unset, .unset, .unset, .unset, .unset, .unset, .unset] [(.int (p3 &&& (2147483647 : Int32)))])) _
    refine XS.iconst X0.here hx rfl (hb hby at_19) ?_
    show Steps p.tables e below (s₁.setTop (mkF m 20 #[.val (.int p1), .val (.int p2), .val (.int p3), .val (.int (HMod.hMod (p1 &&& (2147483647 : Int32)) (5 : Int32))), .val (.int (HMod.hMod (p2 &&& (2147483647 : Int32)) (5 : Int32))), .unset, .unset, .unset, .unset, .unset, .unset, .unset, .unset, .unset, .unset] [(.int (5 : Int32)), (.int (p3 &&& (2147483647 : Int32)))])) _
    refine iremM X0 hx (g := (mkF m 20 #[.val (.int p1), .val (.int p2), .val (.int p3), .val (.int (HMod.hMod (p1 &&& (2147483647 : Int32)) (5 : Int32))), .val (.int (HMod.hMod (p2 &&& (2147483647 : Int32)) (5 : Int32))), .unset, .unset, .unset, .unset, .unset, .unset, .unset, .unset, .unset, .unset] [(.int (5 : Int32)), (.int (p3 &&& (2147483647 : Int32)))])) rfl (hb hby at_20) rfl (by decide) ?_
    show Steps p.tables e below (s₁.setTop (mkF m 21 #[.val (.int p1), .val (.int p2), .val (.int p3), .val (.int (HMod.hMod (p1 &&& (2147483647 : Int32)) (5 : Int32))), .val (.int (HMod.hMod (p2 &&& (2147483647 : Int32)) (5 : Int32))), .unset, .unset, .unset, .unset, .unset, .unset, .unset, .unset, .unset, .unset] [(.int (HMod.hMod (p3 &&& (2147483647 : Int32)) (5 : Int32)))])) _
    refine XS.istore X0.here hx rfl (hb hby at_21) rfl (l' := #[.val (.int p1), .val (.int p2), .val (.int p3), .val (.int (HMod.hMod (p1 &&& (2147483647 : Int32)) (5 : Int32))), .val (.int (HMod.hMod (p2 &&& (2147483647 : Int32)) (5 : Int32))), .val (.int (HMod.hMod (p3 &&& (2147483647 : Int32)) (5 : Int32))), .unset, .unset, .unset, .unset, .unset, .unset, .unset, .unset, .unset]) rfl ?_
    show Steps p.tables e below (s₁.setTop (mkF m 23 #[.val (.int p1), .val (.int p2), .val (.int p3), .val (.int (HMod.hMod (p1 &&& (2147483647 : Int32)) (5 : Int32))), .val (.int (HMod.hMod (p2 &&& (2147483647 : Int32)) (5 : Int32))), .val (.int (HMod.hMod (p3 &&& (2147483647 : Int32)) (5 : Int32))), .unset, .unset, .unset, .unset, .unset, .unset, .unset, .unset, .unset] [])) _
    refine XS.iloadN X0.here hx rfl (hb hby at_23) rfl ?_
    show Steps p.tables e below (s₁.setTop (mkF m 24 #[.val (.int p1), .val (.int p2), .val (.int p3), .val (.int (HMod.hMod (p1 &&& (2147483647 : Int32)) (5 : Int32))), .val (.int (HMod.hMod (p2 &&& (2147483647 : Int32)) (5 : Int32))), .val (.int (HMod.hMod (p3 &&& (2147483647 : Int32)) (5 : Int32))), .unset, .unset, .unset, .unset, .unset, .unset, .unset, .unset, .unset] [(.int (HMod.hMod (p1 &&& (2147483647 : Int32)) (5 : Int32)))])) _
    refine st4 _ ?_
    show Steps p.tables e below (T4.setTop (mkF m 27 #[.val (.int p1), .val (.int p2), .val (.int p3), .val (.int (HMod.hMod (p1 &&& (2147483647 : Int32)) (5 : Int32))), .val (.int (HMod.hMod (p2 &&& (2147483647 : Int32)) (5 : Int32))), .val (.int (HMod.hMod (p3 &&& (2147483647 : Int32)) (5 : Int32))), .unset, .unset, .unset, .unset, .unset, .unset, .unset, .unset, .unset] [(.ref pp)])) _
    refine XS.astore X4.here hx rfl (hb hby at_27) rfl rfl (l' := #[.val (.int p1), .val (.int p2), .val (.int p3), .val (.int (HMod.hMod (p1 &&& (2147483647 : Int32)) (5 : Int32))), .val (.int (HMod.hMod (p2 &&& (2147483647 : Int32)) (5 : Int32))), .val (.int (HMod.hMod (p3 &&& (2147483647 : Int32)) (5 : Int32))), .val (.ref pp), .unset, .unset, .unset, .unset, .unset, .unset, .unset, .unset]) rfl ?_
    show Steps p.tables e below (T4.setTop (mkF m 29 #[.val (.int p1), .val (.int p2), .val (.int p3), .val (.int (HMod.hMod (p1 &&& (2147483647 : Int32)) (5 : Int32))), .val (.int (HMod.hMod (p2 &&& (2147483647 : Int32)) (5 : Int32))), .val (.int (HMod.hMod (p3 &&& (2147483647 : Int32)) (5 : Int32))), .val (.ref pp), .unset, .unset, .unset, .unset, .unset, .unset, .unset, .unset] [])) _
    refine XS.iload X4.here hx rfl (hb hby at_29) rfl ?_
    show Steps p.tables e below (T4.setTop (mkF m 31 #[.val (.int p1), .val (.int p2), .val (.int p3), .val (.int (HMod.hMod (p1 &&& (2147483647 : Int32)) (5 : Int32))), .val (.int (HMod.hMod (p2 &&& (2147483647 : Int32)) (5 : Int32))), .val (.int (HMod.hMod (p3 &&& (2147483647 : Int32)) (5 : Int32))), .val (.ref pp), .unset, .unset, .unset, .unset, .unset, .unset, .unset, .unset] [(.int (HMod.hMod (p2 &&& (2147483647 : Int32)) (5 : Int32)))])) _
    refine st5 _ ?_
    show Steps p.tables e below (T5.setTop (mkF m 34 #[.val (.int p1), .val (.int p2), .val (.int p3), .val (.int (HMod.hMod (p1 &&& (2147483647 : Int32)) (5 : Int32))), .val (.int (HMod.hMod (p2 &&& (2147483647 : Int32)) (5 : Int32))), .val (.int (HMod.hMod (p3 &&& (2147483647 : Int32)) (5 : Int32))), .val (.ref pp), .unset, .unset, .unset, .unset, .unset, .unset, .unset, .unset] [(.ref qq)])) _
    refine XS.astore X5.here hx rfl (hb hby at_34) rfl rfl (l' := #[.val (.int p1), .val (.int p2), .val (.int p3), .val (.int (HMod.hMod (p1 &&& (2147483647 : Int32)) (5 : Int32))), .val (.int (HMod.hMod (p2 &&& (2147483647 : Int32)) (5 : Int32))), .val (.int (HMod.hMod (p3 &&& (2147483647 : Int32)) (5 : Int32))), .val (.ref pp), .val (.ref qq), .unset, .unset, .unset, .unset, .unset, .unset, .unset]) rfl ?_
    show Steps p.tables e below (T5.setTop (mkF m 36 #[.val (.int p1), .val (.int p2), .val (.int p3), .val (.int (HMod.hMod (p1 &&& (2147483647 : Int32)) (5 : Int32))), .val (.int (HMod.hMod (p2 &&& (2147483647 : Int32)) (5 : Int32))), .val (.int (HMod.hMod (p3 &&& (2147483647 : Int32)) (5 : Int32))), .val (.ref pp), .val (.ref qq), .unset, .unset, .unset, .unset, .unset, .unset, .unset] [])) _
    refine XS.iload X5.here hx rfl (hb hby at_36) rfl ?_
    show Steps p.tables e below (T5.setTop (mkF m 38 #[.val (.int p1), .val (.int p2), .val (.int p3), .val (.int (HMod.hMod (p1 &&& (2147483647 : Int32)) (5 : Int32))), .val (.int (HMod.hMod (p2 &&& (2147483647 : Int32)) (5 : Int32))), .val (.int (HMod.hMod (p3 &&& (2147483647 : Int32)) (5 : Int32))), .val (.ref pp), .val (.ref qq), .unset, .unset, .unset, .unset, .unset, .unset, .unset] [(.int (HMod.hMod (p3 &&& (2147483647 : Int32)) (5 : Int32)))])) _
    refine st6 _ ?_
    show Steps p.tables e below (T6.setTop (mkF m 41 #[.val (.int p1), .val (.int p2), .val (.int p3), .val (.int (HMod.hMod (p1 &&& (2147483647 : Int32)) (5 : Int32))), .val (.int (HMod.hMod (p2 &&& (2147483647 : Int32)) (5 : Int32))), .val (.int (HMod.hMod (p3 &&& (2147483647 : Int32)) (5 : Int32))), .val (.ref pp), .val (.ref qq), .unset, .unset, .unset, .unset, .unset, .unset, .unset] [(.ref rr)])) _
    refine XS.astore X6.here hx rfl (hb hby at_41) rfl rfl (l' := #[.val (.int p1), .val (.int p2), .val (.int p3), .val (.int (HMod.hMod (p1 &&& (2147483647 : Int32)) (5 : Int32))), .val (.int (HMod.hMod (p2 &&& (2147483647 : Int32)) (5 : Int32))), .val (.int (HMod.hMod (p3 &&& (2147483647 : Int32)) (5 : Int32))), .val (.ref pp), .val (.ref qq), .val (.ref rr), .unset, .unset, .unset, .unset, .unset, .unset]) rfl ?_
    show Steps p.tables e below (T6.setTop (mkF m 43 #[.val (.int p1), .val (.int p2), .val (.int p3), .val (.int (HMod.hMod (p1 &&& (2147483647 : Int32)) (5 : Int32))), .val (.int (HMod.hMod (p2 &&& (2147483647 : Int32)) (5 : Int32))), .val (.int (HMod.hMod (p3 &&& (2147483647 : Int32)) (5 : Int32))), .val (.ref pp), .val (.ref qq), .val (.ref rr), .unset, .unset, .unset, .unset, .unset, .unset] [])) _
    refine XS.aload X6.here hx rfl (hb hby at_43) rfl rfl ?_
    show Steps p.tables e below (T6.setTop (mkF m 45 #[.val (.int p1), .val (.int p2), .val (.int p3), .val (.int (HMod.hMod (p1 &&& (2147483647 : Int32)) (5 : Int32))), .val (.int (HMod.hMod (p2 &&& (2147483647 : Int32)) (5 : Int32))), .val (.int (HMod.hMod (p3 &&& (2147483647 : Int32)) (5 : Int32))), .val (.ref pp), .val (.ref qq), .val (.ref rr), .unset, .unset, .unset, .unset, .unset, .unset] [(.ref pp)])) _
    refine XS.aload X6.here hx rfl (hb hby at_45) rfl rfl ?_
    show Steps p.tables e below (T6.setTop (mkF m 47 #[.val (.int p1), .val (.int p2), .val (.int p3), .val (.int (HMod.hMod (p1 &&& (2147483647 : Int32)) (5 : Int32))), .val (.int (HMod.hMod (p2 &&& (2147483647 : Int32)) (5 : Int32))), .val (.int (HMod.hMod (p3 &&& (2147483647 : Int32)) (5 : Int32))), .val (.ref pp), .val (.ref qq), .val (.ref rr), .unset, .unset, .unset, .unset, .unset, .unset] [(.ref qq), (.ref pp)])) _
    refine st7.trans ?_
    show Steps p.tables e below (T7.setTop (mkF m 50 #[.val (.int p1), .val (.int p2), .val (.int p3), .val (.int (HMod.hMod (p1 &&& (2147483647 : Int32)) (5 : Int32))), .val (.int (HMod.hMod (p2 &&& (2147483647 : Int32)) (5 : Int32))), .val (.int (HMod.hMod (p3 &&& (2147483647 : Int32)) (5 : Int32))), .val (.ref pp), .val (.ref qq), .val (.ref rr), .unset, .unset, .unset, .unset, .unset, .unset] [(.int bpq)])) _
    refine XS.istore X7.here hx rfl (hb hby at_50) rfl (l' := #[.val (.int p1), .val (.int p2), .val (.int p3), .val (.int (HMod.hMod (p1 &&& (2147483647 : Int32)) (5 : Int32))), .val (.int (HMod.hMod (p2 &&& (2147483647 : Int32)) (5 : Int32))), .val (.int (HMod.hMod (p3 &&& (2147483647 : Int32)) (5 : Int32))), .val (.ref pp), .val (.ref qq), .val (.ref rr), .val (.int bpq), .unset, .unset, .unset, .unset, .unset]) rfl ?_
    show Steps p.tables e below (T7.setTop (mkF m 52 #[.val (.int p1), .val (.int p2), .val (.int p3), .val (.int (HMod.hMod (p1 &&& (2147483647 : Int32)) (5 : Int32))), .val (.int (HMod.hMod (p2 &&& (2147483647 : Int32)) (5 : Int32))), .val (.int (HMod.hMod (p3 &&& (2147483647 : Int32)) (5 : Int32))), .val (.ref pp), .val (.ref qq), .val (.ref rr), .val (.int bpq), .unset, .unset, .unset, .unset, .unset] [])) _
    refine XS.aload X7.here hx rfl (hb hby at_52) rfl rfl ?_
    show Steps p.tables e below (T7.setTop (mkF m 54 #[.val (.int p1), .val (.int p2), .val (.int p3), .val (.int (HMod.hMod (p1 &&& (2147483647 : Int32)) (5 : Int32))), .val (.int (HMod.hMod (p2 &&& (2147483647 : Int32)) (5 : Int32))), .val (.int (HMod.hMod (p3 &&& (2147483647 : Int32)) (5 : Int32))), .val (.ref pp), .val (.ref qq), .val (.ref rr), .val (.int bpq), .unset, .unset, .unset, .unset, .unset] [(.ref qq)])) _
    refine XS.aload X7.here hx rfl (hb hby at_54) rfl rfl ?_
    show Steps p.tables e below (T7.setTop (mkF m 56 #[.val (.int p1), .val (.int p2), .val (.int p3), .val (.int (HMod.hMod (p1 &&& (2147483647 : Int32)) (5 : Int32))), .val (.int (HMod.hMod (p2 &&& (2147483647 : Int32)) (5 : Int32))), .val (.int (HMod.hMod (p3 &&& (2147483647 : Int32)) (5 : Int32))), .val (.ref pp), .val (.ref qq), .val (.ref rr), .val (.int bpq), .unset, .unset, .unset, .unset, .unset] [(.ref pp), (.ref qq)])) _
    refine st8.trans ?_
    show Steps p.tables e below (T8.setTop (mkF m 59 #[.val (.int p1), .val (.int p2), .val (.int p3), .val (.int (HMod.hMod (p1 &&& (2147483647 : Int32)) (5 : Int32))), .val (.int (HMod.hMod (p2 &&& (2147483647 : Int32)) (5 : Int32))), .val (.int (HMod.hMod (p3 &&& (2147483647 : Int32)) (5 : Int32))), .val (.ref pp), .val (.ref qq), .val (.ref rr), .val (.int bpq), .unset, .unset, .unset, .unset, .unset] [(.int bqp)])) _
    refine XS.istore X8.here hx rfl (hb hby at_59) rfl (l' := #[.val (.int p1), .val (.int p2), .val (.int p3), .val (.int (HMod.hMod (p1 &&& (2147483647 : Int32)) (5 : Int32))), .val (.int (HMod.hMod (p2 &&& (2147483647 : Int32)) (5 : Int32))), .val (.int (HMod.hMod (p3 &&& (2147483647 : Int32)) (5 : Int32))), .val (.ref pp), .val (.ref qq), .val (.ref rr), .val (.int bpq), .val (.int bqp), .unset, .unset, .unset, .unset]) rfl ?_
    show Steps p.tables e below (T8.setTop (mkF m 61 #[.val (.int p1), .val (.int p2), .val (.int p3), .val (.int (HMod.hMod (p1 &&& (2147483647 : Int32)) (5 : Int32))), .val (.int (HMod.hMod (p2 &&& (2147483647 : Int32)) (5 : Int32))), .val (.int (HMod.hMod (p3 &&& (2147483647 : Int32)) (5 : Int32))), .val (.ref pp), .val (.ref qq), .val (.ref rr), .val (.int bpq), .val (.int bqp), .unset, .unset, .unset, .unset] [])) _
    refine XS.aload X8.here hx rfl (hb hby at_61) rfl rfl ?_
    show Steps p.tables e below (T8.setTop (mkF m 63 #[.val (.int p1), .val (.int p2), .val (.int p3), .val (.int (HMod.hMod (p1 &&& (2147483647 : Int32)) (5 : Int32))), .val (.int (HMod.hMod (p2 &&& (2147483647 : Int32)) (5 : Int32))), .val (.int (HMod.hMod (p3 &&& (2147483647 : Int32)) (5 : Int32))), .val (.ref pp), .val (.ref qq), .val (.ref rr), .val (.int bpq), .val (.int bqp), .unset, .unset, .unset, .unset] [(.ref qq)])) _
    refine XS.aload X8.here hx rfl (hb hby at_63) rfl rfl ?_
    show Steps p.tables e below (T8.setTop (mkF m 65 #[.val (.int p1), .val (.int p2), .val (.int p3), .val (.int (HMod.hMod (p1 &&& (2147483647 : Int32)) (5 : Int32))), .val (.int (HMod.hMod (p2 &&& (2147483647 : Int32)) (5 : Int32))), .val (.int (HMod.hMod (p3 &&& (2147483647 : Int32)) (5 : Int32))), .val (.ref pp), .val (.ref qq), .val (.ref rr), .val (.int bpq), .val (.int bqp), .unset, .unset, .unset, .unset] [(.ref rr), (.ref qq)])) _
    refine st9.trans ?_
    show Steps p.tables e below (T9.setTop (mkF m 68 #[.val (.int p1), .val (.int p2), .val (.int p3), .val (.int (HMod.hMod (p1 &&& (2147483647 : Int32)) (5 : Int32))), .val (.int (HMod.hMod (p2 &&& (2147483647 : Int32)) (5 : Int32))), .val (.int (HMod.hMod (p3 &&& (2147483647 : Int32)) (5 : Int32))), .val (.ref pp), .val (.ref qq), .val (.ref rr), .val (.int bpq), .val (.int bqp), .unset, .unset, .unset, .unset] [(.int bqr)])) _
    refine XS.istore X9.here hx rfl (hb hby at_68) rfl (l' := #[.val (.int p1), .val (.int p2), .val (.int p3), .val (.int (HMod.hMod (p1 &&& (2147483647 : Int32)) (5 : Int32))), .val (.int (HMod.hMod (p2 &&& (2147483647 : Int32)) (5 : Int32))), .val (.int (HMod.hMod (p3 &&& (2147483647 : Int32)) (5 : Int32))), .val (.ref pp), .val (.ref qq), .val (.ref rr), .val (.int bpq), .val (.int bqp), .val (.int bqr), .unset, .unset, .unset]) rfl ?_
    show Steps p.tables e below (T9.setTop (mkF m 70 #[.val (.int p1), .val (.int p2), .val (.int p3), .val (.int (HMod.hMod (p1 &&& (2147483647 : Int32)) (5 : Int32))), .val (.int (HMod.hMod (p2 &&& (2147483647 : Int32)) (5 : Int32))), .val (.int (HMod.hMod (p3 &&& (2147483647 : Int32)) (5 : Int32))), .val (.ref pp), .val (.ref qq), .val (.ref rr), .val (.int bpq), .val (.int bqp), .val (.int bqr), .unset, .unset, .unset] [])) _
    refine XS.aload X9.here hx rfl (hb hby at_70) rfl rfl ?_
    show Steps p.tables e below (T9.setTop (mkF m 72 #[.val (.int p1), .val (.int p2), .val (.int p3), .val (.int (HMod.hMod (p1 &&& (2147483647 : Int32)) (5 : Int32))), .val (.int (HMod.hMod (p2 &&& (2147483647 : Int32)) (5 : Int32))), .val (.int (HMod.hMod (p3 &&& (2147483647 : Int32)) (5 : Int32))), .val (.ref pp), .val (.ref qq), .val (.ref rr), .val (.int bpq), .val (.int bqp), .val (.int bqr), .unset, .unset, .unset] [(.ref pp)])) _
    refine XS.aload X9.here hx rfl (hb hby at_72) rfl rfl ?_
    show Steps p.tables e below (T9.setTop (mkF m 74 #[.val (.int p1), .val (.int p2), .val (.int p3), .val (.int (HMod.hMod (p1 &&& (2147483647 : Int32)) (5 : Int32))), .val (.int (HMod.hMod (p2 &&& (2147483647 : Int32)) (5 : Int32))), .val (.int (HMod.hMod (p3 &&& (2147483647 : Int32)) (5 : Int32))), .val (.ref pp), .val (.ref qq), .val (.ref rr), .val (.int bpq), .val (.int bqp), .val (.int bqr), .unset, .unset, .unset] [(.ref rr), (.ref pp)])) _
    refine st10.trans ?_
    show Steps p.tables e below (T10.setTop (mkF m 77 #[.val (.int p1), .val (.int p2), .val (.int p3), .val (.int (HMod.hMod (p1 &&& (2147483647 : Int32)) (5 : Int32))), .val (.int (HMod.hMod (p2 &&& (2147483647 : Int32)) (5 : Int32))), .val (.int (HMod.hMod (p3 &&& (2147483647 : Int32)) (5 : Int32))), .val (.ref pp), .val (.ref qq), .val (.ref rr), .val (.int bpq), .val (.int bqp), .val (.int bqr), .unset, .unset, .unset] [(.int bpr)])) _
    refine XS.istore X10.here hx rfl (hb hby at_77) rfl (l' := #[.val (.int p1), .val (.int p2), .val (.int p3), .val (.int (HMod.hMod (p1 &&& (2147483647 : Int32)) (5 : Int32))), .val (.int (HMod.hMod (p2 &&& (2147483647 : Int32)) (5 : Int32))), .val (.int (HMod.hMod (p3 &&& (2147483647 : Int32)) (5 : Int32))), .val (.ref pp), .val (.ref qq), .val (.ref rr), .val (.int bpq), .val (.int bqp), .val (.int bqr), .val (.int bpr), .unset, .unset]) rfl ?_
    show Steps p.tables e below (T10.setTop (mkF m 79 #[.val (.int p1), .val (.int p2), .val (.int p3), .val (.int (HMod.hMod (p1 &&& (2147483647 : Int32)) (5 : Int32))), .val (.int (HMod.hMod (p2 &&& (2147483647 : Int32)) (5 : Int32))), .val (.int (HMod.hMod (p3 &&& (2147483647 : Int32)) (5 : Int32))), .val (.ref pp), .val (.ref qq), .val (.ref rr), .val (.int bpq), .val (.int bqp), .val (.int bqr), .val (.int bpr), .unset, .unset] [])) _
    refine XS.aload X10.here hx rfl (hb hby at_79) rfl rfl ?_
    show Steps p.tables e below (T10.setTop (mkF m 81 #[.val (.int p1), .val (.int p2), .val (.int p3), .val (.int (HMod.hMod (p1 &&& (2147483647 : Int32)) (5 : Int32))), .val (.int (HMod.hMod (p2 &&& (2147483647 : Int32)) (5 : Int32))), .val (.int (HMod.hMod (p3 &&& (2147483647 : Int32)) (5 : Int32))), .val (.ref pp), .val (.ref qq), .val (.ref rr), .val (.int bpq), .val (.int bqp), .val (.int bqr), .val (.int bpr), .unset, .unset] [(.ref pp)])) _
    refine XS.aload X10.here hx rfl (hb hby at_81) rfl rfl ?_
    show Steps p.tables e below (T10.setTop (mkF m 83 #[.val (.int p1), .val (.int p2), .val (.int p3), .val (.int (HMod.hMod (p1 &&& (2147483647 : Int32)) (5 : Int32))), .val (.int (HMod.hMod (p2 &&& (2147483647 : Int32)) (5 : Int32))), .val (.int (HMod.hMod (p3 &&& (2147483647 : Int32)) (5 : Int32))), .val (.ref pp), .val (.ref qq), .val (.ref rr), .val (.int bpq), .val (.int bqp), .val (.int bqr), .val (.int bpr), .unset, .unset] [(.ref pp), (.ref pp)])) _
    refine st11.trans ?_
    show Steps p.tables e below (T11.setTop (mkF m 86 #[.val (.int p1), .val (.int p2), .val (.int p3), .val (.int (HMod.hMod (p1 &&& (2147483647 : Int32)) (5 : Int32))), .val (.int (HMod.hMod (p2 &&& (2147483647 : Int32)) (5 : Int32))), .val (.int (HMod.hMod (p3 &&& (2147483647 : Int32)) (5 : Int32))), .val (.ref pp), .val (.ref qq), .val (.ref rr), .val (.int bpq), .val (.int bqp), .val (.int bqr), .val (.int bpr), .unset, .unset] [(.int bpp)])) _
    refine XS.istore X11.here hx rfl (hb hby at_86) rfl (l' := #[.val (.int p1), .val (.int p2), .val (.int p3), .val (.int (HMod.hMod (p1 &&& (2147483647 : Int32)) (5 : Int32))), .val (.int (HMod.hMod (p2 &&& (2147483647 : Int32)) (5 : Int32))), .val (.int (HMod.hMod (p3 &&& (2147483647 : Int32)) (5 : Int32))), .val (.ref pp), .val (.ref qq), .val (.ref rr), .val (.int bpq), .val (.int bqp), .val (.int bqr), .val (.int bpr), .val (.int bpp), .unset]) rfl ?_
    show Steps p.tables e below (T11.setTop (mkF m 88 #[.val (.int p1), .val (.int p2), .val (.int p3), .val (.int (HMod.hMod (p1 &&& (2147483647 : Int32)) (5 : Int32))), .val (.int (HMod.hMod (p2 &&& (2147483647 : Int32)) (5 : Int32))), .val (.int (HMod.hMod (p3 &&& (2147483647 : Int32)) (5 : Int32))), .val (.ref pp), .val (.ref qq), .val (.ref rr), .val (.int bpq), .val (.int bqp), .val (.int bqr), .val (.int bpr), .val (.int bpp), .unset] [])) _
    refine XS.iloadN X11.here hx rfl (hb hby at_88) rfl ?_
    show Steps p.tables e below (T11.setTop (mkF m 89 #[.val (.int p1), .val (.int p2), .val (.int p3), .val (.int (HMod.hMod (p1 &&& (2147483647 : Int32)) (5 : Int32))), .val (.int (HMod.hMod (p2 &&& (2147483647 : Int32)) (5 : Int32))), .val (.int (HMod.hMod (p3 &&& (2147483647 : Int32)) (5 : Int32))), .val (.ref pp), .val (.ref qq), .val (.ref rr), .val (.int bpq), .val (.int bqp), .val (.int bqr), .val (.int bpr), .val (.int bpp), .unset] [(.int (HMod.hMod (p1 &&& (2147483647 : Int32)) (5 : Int32)))])) _
    refine XS.iload X11.here hx rfl (hb hby at_89) rfl ?_
    show Steps p.tables e below (T11.setTop (mkF m 91 #[.val (.int p1), .val (.int p2), .val (.int p3), .val (.int (HMod.hMod (p1 &&& (2147483647 : Int32)) (5 : Int32))), .val (.int (HMod.hMod (p2 &&& (2147483647 : Int32)) (5 : Int32))), .val (.int (HMod.hMod (p3 &&& (2147483647 : Int32)) (5 : Int32))), .val (.ref pp), .val (.ref qq), .val (.ref rr), .val (.int bpq), .val (.int bqp), .val (.int bqr), .val (.int bpr), .val (.int bpp), .unset] [(.int (HMod.hMod (p2 &&& (2147483647 : Int32)) (5 : Int32))), (.int (HMod.hMod (p1 &&& (2147483647 : Int32)) (5 : Int32)))])) _
    refine XS.icmpNo X11.here hx rfl (hb hby at_91) rfl (feq hc91).1 ?_
    show Steps p.tables e below (T11.setTop (mkF m 94 #[.val (.int p1), .val (.int p2), .val (.int p3), .val (.int (HMod.hMod (p1 &&& (2147483647 : Int32)) (5 : Int32))), .val (.int (HMod.hMod (p2 &&& (2147483647 : Int32)) (5 : Int32))), .val (.int (HMod.hMod (p3 &&& (2147483647 : Int32)) (5 : Int32))), .val (.ref pp), .val (.ref qq), .val (.ref rr), .val (.int bpq), .val (.int bqp), .val (.int bqr), .val (.int bpr), .val (.int bpp), .unset] [])) _
    refine XS.iloadN X11.here hx rfl (hb hby at_94) rfl ?_
    show Steps p.tables e below (T11.setTop (mkF m 95 #[.val (.int p1), .val (.int p2), .val (.int p3), .val (.int (HMod.hMod (p1 &&& (2147483647 : Int32)) (5 : Int32))), .val (.int (HMod.hMod (p2 &&& (2147483647 : Int32)) (5 : Int32))), .val (.int (HMod.hMod (p3 &&& (2147483647 : Int32)) (5 : Int32))), .val (.ref pp), .val (.ref qq), .val (.ref rr), .val (.int bpq), .val (.int bqp), .val (.int bqr), .val (.int bpr), .val (.int bpp), .unset] [(.int (HMod.hMod (p1 &&& (2147483647 : Int32)) (5 : Int32)))])) _
    refine XS.iconst X11.here hx rfl (hb hby at_95) ?_
    show Steps p.tables e below (T11.setTop (mkF m 96 #[.val (.int p1), .val (.int p2), .val (.int p3), .val (.int (HMod.hMod (p1 &&& (2147483647 : Int32)) (5 : Int32))), .val (.int (HMod.hMod (p2 &&& (2147483647 : Int32)) (5 : Int32))), .val (.int (HMod.hMod (p3 &&& (2147483647 : Int32)) (5 : Int32))), .val (.ref pp), .val (.ref qq), .val (.ref rr), .val (.int bpq), .val (.int bqp), .val (.int bqr), .val (.int bpr), .val (.int bpp), .unset] [(.int (2 : Int32)), (.int (HMod.hMod (p1 &&& (2147483647 : Int32)) (5 : Int32)))])) _
    refine XS.icmpNo X11.here hx rfl (hb hby at_96) rfl (teq hc96).2 ?_
    show Steps p.tables e below (T11.setTop (mkF m 99 #[.val (.int p1), .val (.int p2), .val (.int p3), .val (.int (HMod.hMod (p1 &&& (2147483647 : Int32)) (5 : Int32))), .val (.int (HMod.hMod (p2 &&& (2147483647 : Int32)) (5 : Int32))), .val (.int (HMod.hMod (p3 &&& (2147483647 : Int32)) (5 : Int32))), .val (.ref pp), .val (.ref qq), .val (.ref rr), .val (.int bpq), .val (.int bqp), .val (.int bqr), .val (.int bpr), .val (.int bpp), .unset] [])) _
    refine XS.iload X11.here hx rfl (hb hby at_99) rfl ?_
    show Steps p.tables e below (T11.setTop (mkF m 101 #[.val (.int p1), .val (.int p2), .val (.int p3), .val (.int (HMod.hMod (p1 &&& (2147483647 : Int32)) (5 : Int32))), .val (.int (HMod.hMod (p2 &&& (2147483647 : Int32)) (5 : Int32))), .val (.int (HMod.hMod (p3 &&& (2147483647 : Int32)) (5 : Int32))), .val (.ref pp), .val (.ref qq), .val (.ref rr), .val (.int bpq), .val (.int bqp), .val (.int bqr), .val (.int bpr), .val (.int bpp), .unset] [(.int (HMod.hMod (p2 &&& (2147483647 : Int32)) (5 : Int32)))])) _
    refine XS.iconst X11.here hx rfl (hb hby at_101) ?_
    show Steps p.tables e below (T11.setTop (mkF m 102 #[.val (.int p1), .val (.int p2), .val (.int p3), .val (.int (HMod.hMod (p1 &&& (2147483647 : Int32)) (5 : Int32))), .val (.int (HMod.hMod (p2 &&& (2147483647 : Int32)) (5 : Int32))), .val (.int (HMod.hMod (p3 &&& (2147483647 : Int32)) (5 : Int32))), .val (.ref pp), .val (.ref qq), .val (.ref rr), .val (.int bpq), .val (.int bqp), .val (.int bqr), .val (.int bpr), .val (.int bpp), .unset] [(.int (1 : Int32)), (.int (HMod.hMod (p2 &&& (2147483647 : Int32)) (5 : Int32)))])) _
    refine XS.icmpNo X11.here hx rfl (hb hby at_102) rfl (teq hc102).2 ?_
    show Steps p.tables e below (T11.setTop (mkF m 105 #[.val (.int p1), .val (.int p2), .val (.int p3), .val (.int (HMod.hMod (p1 &&& (2147483647 : Int32)) (5 : Int32))), .val (.int (HMod.hMod (p2 &&& (2147483647 : Int32)) (5 : Int32))), .val (.int (HMod.hMod (p3 &&& (2147483647 : Int32)) (5 : Int32))), .val (.ref pp), .val (.ref qq), .val (.ref rr), .val (.int bpq), .val (.int bqp), .val (.int bqr), .val (.int bpr), .val (.int bpp), .unset] [])) _
    refine XS.iconst X11.here hx rfl (hb hby at_105) ?_
    show Steps p.tables e below (T11.setTop (mkF m 106 #[.val (.int p1), .val (.int p2), .val (.int p3), .val (.int (HMod.hMod (p1 &&& (2147483647 : Int32)) (5 : Int32))), .val (.int (HMod.hMod (p2 &&& (2147483647 : Int32)) (5 : Int32))), .val (.int (HMod.hMod (p3 &&& (2147483647 : Int32)) (5 : Int32))), .val (.ref pp), .val (.ref qq), .val (.ref rr), .val (.int bpq), .val (.int bqp), .val (.int bqr), .val (.int bpr), .val (.int bpp), .unset] [(.int (1 : Int32))])) _
    refine XS.goto X11.here hx rfl (pc0 := 106) (pc' := 110) rfl (hb hby at_106) (by decide) (by decide) ?_
    show Steps p.tables e below (T11.setTop (mkF m 110 #[.val (.int p1), .val (.int p2), .val (.int p3), .val (.int (HMod.hMod (p1 &&& (2147483647 : Int32)) (5 : Int32))), .val (.int (HMod.hMod (p2 &&& (2147483647 : Int32)) (5 : Int32))), .val (.int (HMod.hMod (p3 &&& (2147483647 : Int32)) (5 : Int32))), .val (.ref pp), .val (.ref qq), .val (.ref rr), .val (.int bpq), .val (.int bqp), .val (.int bqr), .val (.int bpr), .val (.int bpp), .unset] [(.int (1 : Int32))])) _
    refine XS.istore X11.here hx rfl (hb hby at_110) rfl (l' := #[.val (.int p1), .val (.int p2), .val (.int p3), .val (.int (HMod.hMod (p1 &&& (2147483647 : Int32)) (5 : Int32))), .val (.int (HMod.hMod (p2 &&& (2147483647 : Int32)) (5 : Int32))), .val (.int (HMod.hMod (p3 &&& (2147483647 : Int32)) (5 : Int32))), .val (.ref pp), .val (.ref qq), .val (.ref rr), .val (.int bpq), .val (.int bqp), .val (.int bqr), .val (.int bpr), .val (.int bpp), .val (.int (1 : Int32))]) rfl ?_
    show Steps p.tables e below (T11.setTop (mkF m 112 #[.val (.int p1), .val (.int p2), .val (.int p3), .val (.int (HMod.hMod (p1 &&& (2147483647 : Int32)) (5 : Int32))), .val (.int (HMod.hMod (p2 &&& (2147483647 : Int32)) (5 : Int32))), .val (.int (HMod.hMod (p3 &&& (2147483647 : Int32)) (5 : Int32))), .val (.ref pp), .val (.ref qq), .val (.ref rr), .val (.int bpq), .val (.int bqp), .val (.int bqr), .val (.int bpr), .val (.int bpp), .val (.int (1 : Int32))] [])) _
    refine XS.iload X11.here hx rfl (hb hby at_112) rfl ?_
    show Steps p.tables e below (T11.setTop (mkF m 114 #[.val (.int p1), .val (.int p2), .val (.int p3), .val (.int (HMod.hMod (p1 &&& (2147483647 : Int32)) (5 : Int32))), .val (.int (HMod.hMod (p2 &&& (2147483647 : Int32)) (5 : Int32))), .val (.int (HMod.hMod (p3 &&& (2147483647 : Int32)) (5 : Int32))), .val (.ref pp), .val (.ref qq), .val (.ref rr), .val (.int bpq), .val (.int bqp), .val (.int bqr), .val (.int bpr), .val (.int bpp), .val (.int (1 : Int32))] [(.int bpq)])) _
    refine XS.iload X11.here hx rfl (hb hby at_114) rfl ?_
    show Steps p.tables e below (T11.setTop (mkF m 116 #[.val (.int p1), .val (.int p2), .val (.int p3), .val (.int (HMod.hMod (p1 &&& (2147483647 : Int32)) (5 : Int32))), .val (.int (HMod.hMod (p2 &&& (2147483647 : Int32)) (5 : Int32))), .val (.int (HMod.hMod (p3 &&& (2147483647 : Int32)) (5 : Int32))), .val (.ref pp), .val (.ref qq), .val (.ref rr), .val (.int bpq), .val (.int bqp), .val (.int bqr), .val (.int bpr), .val (.int bpp), .val (.int (1 : Int32))] [(.int (1 : Int32)), (.int bpq)])) _
    refine XS.icmpYes X11.here hx rfl (pc0 := 116) (pc' := 121) rfl (hb hby at_116) rfl (teq hx1).1 (by decide) (by decide) ?_
    show Steps p.tables e below (T11.setTop (mkF m 121 #[.val (.int p1), .val (.int p2), .val (.int p3), .val (.int (HMod.hMod (p1 &&& (2147483647 : Int32)) (5 : Int32))), .val (.int (HMod.hMod (p2 &&& (2147483647 : Int32)) (5 : Int32))), .val (.int (HMod.hMod (p3 &&& (2147483647 : Int32)) (5 : Int32))), .val (.ref pp), .val (.ref qq), .val (.ref rr), .val (.int bpq), .val (.int bqp), .val (.int bqr), .val (.int bpr), .val (.int bpp), .val (.int (1 : Int32))] [])) _
    refine XS.iload X11.here hx rfl (hb hby at_121) rfl ?_
    show Steps p.tables e below (T11.setTop (mkF m 123 #[.val (.int p1), .val (.int p2), .val (.int p3), .val (.int (HMod.hMod (p1 &&& (2147483647 : Int32)) (5 : Int32))), .val (.int (HMod.hMod (p2 &&& (2147483647 : Int32)) (5 : Int32))), .val (.int (HMod.hMod (p3 &&& (2147483647 : Int32)) (5 : Int32))), .val (.ref pp), .val (.ref qq), .val (.ref rr), .val (.int bpq), .val (.int bqp), .val (.int bqr), .val (.int bpr), .val (.int bpp), .val (.int (1 : Int32))] [(.int bpp)])) _
    refine XS.ifYes X11.here hx rfl (pc0 := 123) (pc' := 128) rfl (hb hby at_123) rfl ((if0 _ _).trans (feq hx2).2) (by decide) (by decide) ?_
    show Steps p.tables e below (T11.setTop (mkF m 128 #[.val (.int p1), .val (.int p2), .val (.int p3), .val (.int (HMod.hMod (p1 &&& (2147483647 : Int32)) (5 : Int32))), .val (.int (HMod.hMod (p2 &&& (2147483647 : Int32)) (5 : Int32))), .val (.int (HMod.hMod (p3 &&& (2147483647 : Int32)) (5 : Int32))), .val (.ref pp), .val (.ref qq), .val (.ref rr), .val (.int bpq), .val (.int bqp), .val (.int bqr), .val (.int bpr), .val (.int bpp), .val (.int (1 : Int32))] [])) _
    refine XS.iload X11.here hx rfl (hb hby at_128) rfl ?_
    show Steps p.tables e below (T11.setTop (mkF m 130 #[.val (.int p1), .val (.int p2), .val (.int p3), .val (.int (HMod.hMod (p1 &&& (2147483647 : Int32)) (5 : Int32))), .val (.int (HMod.hMod (p2 &&& (2147483647 : Int32)) (5 : Int32))), .val (.int (HMod.hMod (p3 &&& (2147483647 : Int32)) (5 : Int32))), .val (.ref pp), .val (.ref qq), .val (.ref rr), .val (.int bpq), .val (.int bqp), .val (.int bqr), .val (.int bpr), .val (.int bpp), .val (.int (1 : Int32))] [(.int bpq)])) _
    refine XS.ifNo X11.here hx rfl (hb hby at_130) rfl ((if0 _ _).trans (feq hx3).1) ?_
    show Steps p.tables e below (T11.setTop (mkF m 133 #[.val (.int p1), .val (.int p2), .val (.int p3), .val (.int (HMod.hMod (p1 &&& (2147483647 : Int32)) (5 : Int32))), .val (.int (HMod.hMod (p2 &&& (2147483647 : Int32)) (5 : Int32))), .val (.int (HMod.hMod (p3 &&& (2147483647 : Int32)) (5 : Int32))), .val (.ref pp), .val (.ref qq), .val (.ref rr), .val (.int bpq), .val (.int bqp), .val (.int bqr), .val (.int bpr), .val (.int bpp), .val (.int (1 : Int32))] [])) _
    refine XS.iload X11.here hx rfl (hb hby at_133) rfl ?_
    show Steps p.tables e below (T11.setTop (mkF m 135 #[.val (.int p1), .val (.int p2), .val (.int p3), .val (.int (HMod.hMod (p1 &&& (2147483647 : Int32)) (5 : Int32))), .val (.int (HMod.hMod (p2 &&& (2147483647 : Int32)) (5 : Int32))), .val (.int (HMod.hMod (p3 &&& (2147483647 : Int32)) (5 : Int32))), .val (.ref pp), .val (.ref qq), .val (.ref rr), .val (.int bpq), .val (.int bqp), .val (.int bqr), .val (.int bpr), .val (.int bpp), .val (.int (1 : Int32))] [(.int bqp)])) _
    refine XS.ifYes X11.here hx rfl (pc0 := 135) (pc' := 147) rfl (hb hby at_135) rfl ((if0 _ _).trans (teq hx4).1) (by decide) (by decide) ?_
    show Steps p.tables e below (T11.setTop (mkF m 147 #[.val (.int p1), .val (.int p2), .val (.int p3), .val (.int (HMod.hMod (p1 &&& (2147483647 : Int32)) (5 : Int32))), .val (.int (HMod.hMod (p2 &&& (2147483647 : Int32)) (5 : Int32))), .val (.int (HMod.hMod (p3 &&& (2147483647 : Int32)) (5 : Int32))), .val (.ref pp), .val (.ref qq), .val (.ref rr), .val (.int bpq), .val (.int bqp), .val (.int bqr), .val (.int bpr), .val (.int bpp), .val (.int (1 : Int32))] [])) _
    refine XS.iload X11.here hx rfl (hb hby at_147) rfl ?_
    show Steps p.tables e below (T11.setTop (mkF m 149 #[.val (.int p1), .val (.int p2), .val (.int p3), .val (.int (HMod.hMod (p1 &&& (2147483647 : Int32)) (5 : Int32))), .val (.int (HMod.hMod (p2 &&& (2147483647 : Int32)) (5 : Int32))), .val (.int (HMod.hMod (p3 &&& (2147483647 : Int32)) (5 : Int32))), .val (.ref pp), .val (.ref qq), .val (.ref rr), .val (.int bpq), .val (.int bqp), .val (.int bqr), .val (.int bpr), .val (.int bpp), .val (.int (1 : Int32))] [(.int bpq)])) _
    refine XS.ifNo X11.here hx rfl (hb hby at_149) rfl ((if0 _ _).trans (feq hx5).1) ?_
    show Steps p.tables e below (T11.setTop (mkF m 152 #[.val (.int p1), .val (.int p2), .val (.int p3), .val (.int (HMod.hMod (p1 &&& (2147483647 : Int32)) (5 : Int32))), .val (.int (HMod.hMod (p2 &&& (2147483647 : Int32)) (5 : Int32))), .val (.int (HMod.hMod (p3 &&& (2147483647 : Int32)) (5 : Int32))), .val (.ref pp), .val (.ref qq), .val (.ref rr), .val (.int bpq), .val (.int bqp), .val (.int bqr), .val (.int bpr), .val (.int bpp), .val (.int (1 : Int32))] [])) _
    refine XS.iload X11.here hx rfl (hb hby at_152) rfl ?_
    show Steps p.tables e below (T11.setTop (mkF m 154 #[.val (.int p1), .val (.int p2), .val (.int p3), .val (.int (HMod.hMod (p1 &&& (2147483647 : Int32)) (5 : Int32))), .val (.int (HMod.hMod (p2 &&& (2147483647 : Int32)) (5 : Int32))), .val (.int (HMod.hMod (p3 &&& (2147483647 : Int32)) (5 : Int32))), .val (.ref pp), .val (.ref qq), .val (.ref rr), .val (.int bpq), .val (.int bqp), .val (.int bqr), .val (.int bpr), .val (.int bpp), .val (.int (1 : Int32))] [(.int bqr)])) _
    refine XS.ifYes X11.here hx rfl (pc0 := 154) (pc' := 164) rfl (hb hby at_154) rfl ((if0 _ _).trans (teq hx6).1) (by decide) (by decide) ?_
    show Steps p.tables e below (T11.setTop (mkF m 164 #[.val (.int p1), .val (.int p2), .val (.int p3), .val (.int (HMod.hMod (p1 &&& (2147483647 : Int32)) (5 : Int32))), .val (.int (HMod.hMod (p2 &&& (2147483647 : Int32)) (5 : Int32))), .val (.int (HMod.hMod (p3 &&& (2147483647 : Int32)) (5 : Int32))), .val (.ref pp), .val (.ref qq), .val (.ref rr), .val (.int bpq), .val (.int bqp), .val (.int bqr), .val (.int bpr), .val (.int bpp), .val (.int (1 : Int32))] [])) _
    refine XS.iconst X11.here hx rfl (hb hby at_164) ?_
    show Steps p.tables e below (T11.setTop (mkF m 165 #[.val (.int p1), .val (.int p2), .val (.int p3), .val (.int (HMod.hMod (p1 &&& (2147483647 : Int32)) (5 : Int32))), .val (.int (HMod.hMod (p2 &&& (2147483647 : Int32)) (5 : Int32))), .val (.int (HMod.hMod (p3 &&& (2147483647 : Int32)) (5 : Int32))), .val (.ref pp), .val (.ref qq), .val (.ref rr), .val (.int bpq), .val (.int bqp), .val (.int bqr), .val (.int bpr), .val (.int bpp), .val (.int (1 : Int32))] [(.int (1 : Int32))])) _
    exact retN X11 hx (t := .boolean) Bd.returns (by simp) (hb hby at_165) hr
  · show Q0D1 Z p1 p2 p3 h0 n0 _ T11.heap _
    exact ⟨rfl, N11⟩
def Q0D2 (Z : State) (p1 : Int32) (p2 : Int32) (p3 : Int32) (h0 : Heap) (n0 : Nat) (v : Option Value) (h : Heap) (L : List Loc) : Prop := v = some (.int (1 : Int32)) ∧ Fr n0 L
set_option maxRecDepth 65536 in
set_option maxHeartbeats 40000000 in
theorem rm0D2 (l : Launch) (Z : State) (a0 : Array Value) (hw : ∀ d ∈ tables_1, d.before a0 Z = true) (ws : List Jvm.Cond) (p1 : Int32) (p2 : Int32) (p3 : Int32) (u1 : Addr) (u2 : Addr) (u3 : Addr) (u4 : Addr) (u5 : Addr) (pp : Addr) (qq : Addr) (rr : Addr) (Cp : String) (Cq : String) (bpq : Int32) (bqp : Int32) (bqr : Int32) (bpr : Int32) (bpp : Int32) (h0 : Heap) (n0 : Nat) (Z0 : n0 ≤ h0.size) (S_STRING : Sta Z h0 "com/example/nereus/nereus/Domain" "STRING" "Lcom/example/nereus/nereus/Domain;" (.ref u1)) (S_INTEGER : Sta Z h0 "com/example/nereus/nereus/Domain" "INTEGER" "Lcom/example/nereus/nereus/Domain;" (.ref u2)) (S_DECIMAL : Sta Z h0 "com/example/nereus/nereus/Domain" "DECIMAL" "Lcom/example/nereus/nereus/Domain;" (.ref u3)) (S_BOOLEAN : Sta Z h0 "com/example/nereus/nereus/Domain" "BOOLEAN" "Lcom/example/nereus/nereus/Domain;" (.ref u4)) (S_DATETIME : Sta Z h0 "com/example/nereus/nereus/Domain" "DATETIME" "Lcom/example/nereus/nereus/Domain;" (.ref u5)) (E_u1 : Exa Z h0 u1 "com/example/nereus/nereus/Domain$1") (E_u2 : Exa Z h0 u2 "com/example/nereus/nereus/Domain$2") (E_u3 : Exa Z h0 u3 "com/example/nereus/nereus/Domain$3") (E_u4 : Exa Z h0 u4 "com/example/nereus/nereus/Domain$4") (E_u5 : Exa Z h0 u5 "com/example/nereus/nereus/Domain$5") (E_pp : Exa Z h0 pp Cp) (E_qq : Exa Z h0 qq Cq) (sel_p : (Jvm.Cond.selects Cp (⟨"com/example/nereus/nereus/Domain", "includes", "(Lcom/example/nereus/nereus/Domain;)Z"⟩ : MethodName) (⟨"com/example/nereus/nereus/Domain", "includes", "(Lcom/example/nereus/nereus/Domain;)Z"⟩ : MethodName)).before a0 Z = true) (sel_q : (Jvm.Cond.selects Cq (⟨"com/example/nereus/nereus/Domain", "includes", "(Lcom/example/nereus/nereus/Domain;)Z"⟩ : MethodName) (⟨"com/example/nereus/nereus/Domain", "includes", "(Lcom/example/nereus/nereus/Domain;)Z"⟩ : MethodName)).before a0 Z = true) (n1 : ¬ (HMod.hMod (p1 &&& (2147483647 : Int32)) (5 : Int32)) < 0) (m1 : (HMod.hMod (p1 &&& (2147483647 : Int32)) (5 : Int32)) < 5) (v1 : ([.ref u1, .ref u2, .ref u3, .ref u4, .ref u5] : List Value).getD (HMod.hMod (p1 &&& (2147483647 : Int32)) (5 : Int32)).toNatClampNeg .null = .ref pp) (n2 : ¬ (HMod.hMod (p2 &&& (2147483647 : Int32)) (5 : Int32)) < 0) (m2 : (HMod.hMod (p2 &&& (2147483647 : Int32)) (5 : Int32)) < 5) (v2 : ([.ref u1, .ref u2, .ref u3, .ref u4, .ref u5] : List Value).getD (HMod.hMod (p2 &&& (2147483647 : Int32)) (5 : Int32)).toNatClampNeg .null = .ref qq) (n3 : ¬ (HMod.hMod (p3 &&& (2147483647 : Int32)) (5 : Int32)) < 0) (m3 : (HMod.hMod (p3 &&& (2147483647 : Int32)) (5 : Int32)) < 5) (v3 : ([.ref u1, .ref u2, .ref u3, .ref u4, .ref u5] : List Value).getD (HMod.hMod (p3 &&& (2147483647 : Int32)) (5 : Int32)).toNatClampNeg .null = .ref rr) (t_bpq : (pp = qq ∨ (pp = u3 ∧ qq = u2)) → bpq = 1) (f_bpq : ¬ (pp = qq ∨ (pp = u3 ∧ qq = u2)) → bpq = 0) (t_bqp : (qq = pp ∨ (qq = u3 ∧ pp = u2)) → bqp = 1) (f_bqp : ¬ (qq = pp ∨ (qq = u3 ∧ pp = u2)) → bqp = 0) (t_bqr : (qq = rr ∨ (qq = u3 ∧ rr = u2)) → bqr = 1) (f_bqr : ¬ (qq = rr ∨ (qq = u3 ∧ rr = u2)) → bqr = 0) (t_bpr : (pp = rr ∨ (pp = u3 ∧ rr = u2)) → bpr = 1) (f_bpr : ¬ (pp = rr ∨ (pp = u3 ∧ rr = u2)) → bpr = 0) (t_bpp : (pp = pp ∨ (pp = u3 ∧ pp = u2)) → bpp = 1) (f_bpp : ¬ (pp = pp ∨ (pp = u3 ∧ pp = u2)) → bpp = 0) (hx1 : bpq = (1 : Int32)) (hx2 : ¬ (bpp = (0 : Int32))) (hx3 : ¬ (bpq = (0 : Int32))) (hx4 : bqp = (0 : Int32)) (hx5 : ¬ (bpq = (0 : Int32))) (hx6 : ¬ (bqr = (0 : Int32))) (hx7 : ¬ (bpr = (0 : Int32))) (hc91 : ¬ ((HMod.hMod (p1 &&& (2147483647 : Int32)) (5 : Int32)) = (HMod.hMod (p2 &&& (2147483647 : Int32)) (5 : Int32)))) (hc96 : (HMod.hMod (p1 &&& (2147483647 : Int32)) (5 : Int32)) = (2 : Int32)) (hc102 : (HMod.hMod (p2 &&& (2147483647 : Int32)) (5 : Int32)) = (1 : Int32)) :
    MetFree l x (head1 (Jvm.Cond.code x code maxLocals ret :: ws) room_1) (fun a U => a = #[(.int p1), (.int p2), (.int p3)] ∧ Z.Warmed39 U.vm ∧ U.heap = h0) (fun _ _ _ _ _ => True) (fun _ U o U' => ∃ v L, o = .returned v ∧ Q0D2 Z p1 p2 p3 h0 n0 v U'.heap L ∧ FrameEnd U o U' L room_1.cells room_1.slots) := by
  refine MetFree.of_bodySF (plainFor_of_name pn_0) hisR ?_
  intro p e s m args below meth c s₁ Bd hml0 hP hK
  obtain ⟨rfl, hZ, hh⟩ := hP
  have hx := Bd.exec
  have hby := Bd.bytes
  have hml : c.maxLocals = 15 := hml0
  have hown : s.vm.findClass "com/example/nereus/nereus/DomainIncludesPinLaw" = some m.cls := findClass_of_methodNamed Bd.named
  have hnm := (name_of_methodNamed Bd.named Bd.method).1
  have X0 : Stand p l e room_1 s m #[(.int p1), (.int p2), (.int p3)] below meth c s₁ [] 0 0 := Stand.of_body Bd
  have e0 : s₁.heap = h0 := by rw [← hh, Bd.state]; rfl
  have N0 := Fr.nil n0
  have pre0 : ∀ t, Steps p.tables e below (s₁.setTop (mkF m 0 #[.val (.int p1), .val (.int p2), .val (.int p3), .unset, .unset, .unset, .unset, .unset, .unset, .unset, .unset, .unset, .unset, .unset, .unset] [])) t → Steps p.tables e below (s₁.setTop (entryFrame m #[(.int p1), (.int p2), (.int p3)] maxLocals)) t := fun t k => castTop (ef_0 m p1 p2 p3) k
  obtain ⟨_, _, ⟨T4, L4, k4, n4⟩, -, X4, ⟨Lc4, hQ4, l4, y4, z4⟩, st4⟩ := Jvm.LawKit.callS X0 hx (y := (⟨"com/example/nereus/nereus/DomainIncludesPinLaw", "pick", "(I)Lcom/example/nereus/nereus/Domain;"⟩ : MethodName)) hown (mvT hZ (hw _ (List.mem_of_getElem? (i := 1) rfl))) (mvT hZ (hw _ (List.mem_of_getElem? (i := 2) rfl))) (mvT hZ (hw _ (List.mem_of_getElem? (i := 3) rfl))) (mvT hZ (hw _ (List.mem_of_getElem? (i := 4) rfl))) (by decide) (backOf (W := 0) (rm1 l Z a0 hw [] (HMod.hMod (p1 &&& (2147483647 : Int32)) (5 : Int32)) u1 u2 u3 u4 u5 pp h0 n0 Z0 S_STRING S_INTEGER S_DECIMAL S_BOOLEAN S_DATETIME E_u1 E_u2 E_u3 E_u4 E_u5 n1 m1 v1) hZ (hw _ (List.mem_of_getElem? (i := 4) rfl)) (hw _ (List.mem_of_getElem? (i := 3) rfl)) (by decide) (by decide)) (g := (mkF m 24 #[.val (.int p1), .val (.int p2), .val (.int p3), .val (.int (HMod.hMod (p1 &&& (2147483647 : Int32)) (5 : Int32))), .val (.int (HMod.hMod (p2 &&& (2147483647 : Int32)) (5 : Int32))), .val (.int (HMod.hMod (p3 &&& (2147483647 : Int32)) (5 : Int32))), .unset, .unset, .unset, .unset, .unset, .unset, .unset, .unset, .unset] [(.int (HMod.hMod (p1 &&& (2147483647 : Int32)) (5 : Int32)))])) rfl (by rw [hml]; rfl) (argsL := [(.int (HMod.hMod (p1 &&& (2147483647 : Int32)) (5 : Int32)))]) (rest := []) (lenOf pd_0_0 rfl) rfl (by show 2 * 0 + _ ≤ _; exact Nat.le_of_eq rfl) (hb hby at_24) (fun _ _ => ⟨rfl, e0, (Nat.le_of_ble_eq_true rfl), (Nat.le_of_ble_eq_true rfl)⟩)
  dsimp only [Pt.U, Pt.locs, Pt.cells, Pt.slots] at X4 l4 y4 z4 st4 hQ4
  subst l4 y4 z4
  obtain ⟨rfl, N4q, X4x⟩ := hQ4
  replace S_STRING := S_STRING.ext X4x
  replace S_INTEGER := S_INTEGER.ext X4x
  replace S_DECIMAL := S_DECIMAL.ext X4x
  replace S_BOOLEAN := S_BOOLEAN.ext X4x
  replace S_DATETIME := S_DATETIME.ext X4x
  replace E_u1 := E_u1.ext X4x
  replace E_u2 := E_u2.ext X4x
  replace E_u3 := E_u3.ext X4x
  replace E_u4 := E_u4.ext X4x
  replace E_u5 := E_u5.ext X4x
  replace E_pp := E_pp.ext X4x
  replace E_qq := E_qq.ext X4x
  replace Z0 := Nat.le_trans Z0 X4x.1
  have N4 := Fr.app N0 N4q
  obtain ⟨_, _, ⟨T5, L5, k5, n5⟩, -, X5, ⟨Lc5, hQ5, l5, y5, z5⟩, st5⟩ := Jvm.LawKit.callS X4 hx (y := (⟨"com/example/nereus/nereus/DomainIncludesPinLaw", "pick", "(I)Lcom/example/nereus/nereus/Domain;"⟩ : MethodName)) hown (mvT hZ (hw _ (List.mem_of_getElem? (i := 1) rfl))) (mvT hZ (hw _ (List.mem_of_getElem? (i := 2) rfl))) (mvT hZ (hw _ (List.mem_of_getElem? (i := 3) rfl))) (mvT hZ (hw _ (List.mem_of_getElem? (i := 4) rfl))) (by decide) (backOf (W := 0) (rm1 l Z a0 hw [] (HMod.hMod (p2 &&& (2147483647 : Int32)) (5 : Int32)) u1 u2 u3 u4 u5 qq T4.heap n0 Z0 S_STRING S_INTEGER S_DECIMAL S_BOOLEAN S_DATETIME E_u1 E_u2 E_u3 E_u4 E_u5 n2 m2 v2) hZ (hw _ (List.mem_of_getElem? (i := 4) rfl)) (hw _ (List.mem_of_getElem? (i := 3) rfl)) (by decide) (by decide)) (g := (mkF m 31 #[.val (.int p1), .val (.int p2), .val (.int p3), .val (.int (HMod.hMod (p1 &&& (2147483647 : Int32)) (5 : Int32))), .val (.int (HMod.hMod (p2 &&& (2147483647 : Int32)) (5 : Int32))), .val (.int (HMod.hMod (p3 &&& (2147483647 : Int32)) (5 : Int32))), .val (.ref pp), .unset, .unset, .unset, .unset, .unset, .unset, .unset, .unset] [(.int (HMod.hMod (p2 &&& (2147483647 : Int32)) (5 : Int32)))])) rfl (by rw [hml]; rfl) (argsL := [(.int (HMod.hMod (p2 &&& (2147483647 : Int32)) (5 : Int32)))]) (rest := []) (lenOf pd_0_0 rfl) rfl (by show 2 * 0 + _ ≤ _; exact Nat.le_of_eq rfl) (hb hby at_31) (fun _ _ => ⟨rfl, rfl, (Nat.le_of_ble_eq_true rfl), (Nat.le_of_ble_eq_true rfl)⟩)
  dsimp only [Pt.U, Pt.locs, Pt.cells, Pt.slots] at X5 l5 y5 z5 st5 hQ5
  subst l5 y5 z5
  obtain ⟨rfl, N5q, X5x⟩ := hQ5
  replace S_STRING := S_STRING.ext X5x
  replace S_INTEGER := S_INTEGER.ext X5x
  replace S_DECIMAL := S_DECIMAL.ext X5x
  replace S_BOOLEAN := S_BOOLEAN.ext X5x
  replace S_DATETIME := S_DATETIME.ext X5x
  replace E_u1 := E_u1.ext X5x
  replace E_u2 := E_u2.ext X5x
  replace E_u3 := E_u3.ext X5x
  replace E_u4 := E_u4.ext X5x
  replace E_u5 := E_u5.ext X5x
  replace E_pp := E_pp.ext X5x
  replace E_qq := E_qq.ext X5x
  replace Z0 := Nat.le_trans Z0 X5x.1
  have N5 := Fr.app N4 N5q
  obtain ⟨_, _, ⟨T6, L6, k6, n6⟩, -, X6, ⟨Lc6, hQ6, l6, y6, z6⟩, st6⟩ := Jvm.LawKit.callS X5 hx (y := (⟨"com/example/nereus/nereus/DomainIncludesPinLaw", "pick", "(I)Lcom/example/nereus/nereus/Domain;"⟩ : MethodName)) hown (mvT hZ (hw _ (List.mem_of_getElem? (i := 1) rfl))) (mvT hZ (hw _ (List.mem_of_getElem? (i := 2) rfl))) (mvT hZ (hw _ (List.mem_of_getElem? (i := 3) rfl))) (mvT hZ (hw _ (List.mem_of_getElem? (i := 4) rfl))) (by decide) (backOf (W := 0) (rm1 l Z a0 hw [] (HMod.hMod (p3 &&& (2147483647 : Int32)) (5 : Int32)) u1 u2 u3 u4 u5 rr T5.heap n0 Z0 S_STRING S_INTEGER S_DECIMAL S_BOOLEAN S_DATETIME E_u1 E_u2 E_u3 E_u4 E_u5 n3 m3 v3) hZ (hw _ (List.mem_of_getElem? (i := 4) rfl)) (hw _ (List.mem_of_getElem? (i := 3) rfl)) (by decide) (by decide)) (g := (mkF m 38 #[.val (.int p1), .val (.int p2), .val (.int p3), .val (.int (HMod.hMod (p1 &&& (2147483647 : Int32)) (5 : Int32))), .val (.int (HMod.hMod (p2 &&& (2147483647 : Int32)) (5 : Int32))), .val (.int (HMod.hMod (p3 &&& (2147483647 : Int32)) (5 : Int32))), .val (.ref pp), .val (.ref qq), .unset, .unset, .unset, .unset, .unset, .unset, .unset] [(.int (HMod.hMod (p3 &&& (2147483647 : Int32)) (5 : Int32)))])) rfl (by rw [hml]; rfl) (argsL := [(.int (HMod.hMod (p3 &&& (2147483647 : Int32)) (5 : Int32)))]) (rest := []) (lenOf pd_0_0 rfl) rfl (by show 2 * 0 + _ ≤ _; exact Nat.le_of_eq rfl) (hb hby at_38) (fun _ _ => ⟨rfl, rfl, (Nat.le_of_ble_eq_true rfl), (Nat.le_of_ble_eq_true rfl)⟩)
  dsimp only [Pt.U, Pt.locs, Pt.cells, Pt.slots] at X6 l6 y6 z6 st6 hQ6
  subst l6 y6 z6
  obtain ⟨rfl, N6q, X6x⟩ := hQ6
  replace S_STRING := S_STRING.ext X6x
  replace S_INTEGER := S_INTEGER.ext X6x
  replace S_DECIMAL := S_DECIMAL.ext X6x
  replace S_BOOLEAN := S_BOOLEAN.ext X6x
  replace S_DATETIME := S_DATETIME.ext X6x
  replace E_u1 := E_u1.ext X6x
  replace E_u2 := E_u2.ext X6x
  replace E_u3 := E_u3.ext X6x
  replace E_u4 := E_u4.ext X6x
  replace E_u5 := E_u5.ext X6x
  replace E_pp := E_pp.ext X6x
  replace E_qq := E_qq.ext X6x
  replace Z0 := Nat.le_trans Z0 X6x.1
  have N6 := Fr.app N5 N6q
  obtain ⟨cq7, kq7, q7a, q7b, q7c⟩ := isOf hZ rfl E_pp
  obtain ⟨_, _, ⟨T7, L7, k7, n7⟩, -, X7, ⟨Lc7, hQ7, l7, y7, z7⟩, st7⟩ := X6.virtualBack hx (y := (⟨"com/example/nereus/nereus/Domain", "includes", "(Lcom/example/nereus/nereus/Domain;)Z"⟩ : MethodName)) (z := (⟨"com/example/nereus/nereus/Domain", "includes", "(Lcom/example/nereus/nereus/Domain;)Z"⟩ : MethodName)) hown (mvT hZ (hw _ (List.mem_of_getElem? (i := 23) rfl))) (mvT hZ (hw _ (List.mem_of_getElem? (i := 24) rfl))) (notFace_of_selects (args := #[]) (mvT hZ sel_p)) (mvT hZ sel_p) (mvT hZ (hw _ (List.mem_of_getElem? (i := 25) rfl))) (by decide) (backOf (W := 0) (rm2g l Z a0 hw [] pp qq u3 u2 bpq T6.heap n0 Z0 S_DECIMAL S_INTEGER t_bpq f_bpq) hZ (hw _ (List.mem_of_getElem? (i := 27) rfl)) (hw _ (List.mem_of_getElem? (i := 8) rfl)) (by decide) (by decide)) q7a q7c (g := (mkF m 47 #[.val (.int p1), .val (.int p2), .val (.int p3), .val (.int (HMod.hMod (p1 &&& (2147483647 : Int32)) (5 : Int32))), .val (.int (HMod.hMod (p2 &&& (2147483647 : Int32)) (5 : Int32))), .val (.int (HMod.hMod (p3 &&& (2147483647 : Int32)) (5 : Int32))), .val (.ref pp), .val (.ref qq), .val (.ref rr), .unset, .unset, .unset, .unset, .unset, .unset] [(.ref qq), (.ref pp)])) rfl (by rw [hml]; rfl) (Steps.refl _) (argsL := [(.ref qq)]) (rest := []) (lenOf pd_0_1 rfl) rfl (by show 2 * 0 + _ ≤ _; exact Nat.le_of_eq rfl) (hb hby at_47) (fun _ _ => ⟨rfl, rfl, (Nat.le_of_ble_eq_true rfl), (Nat.le_of_ble_eq_true rfl)⟩)
  dsimp only [Pt.U, Pt.locs, Pt.cells, Pt.slots] at X7 l7 y7 z7 st7 hQ7
  subst l7 y7 z7
  obtain ⟨rfl, N7q, eq7⟩ := hQ7
  have N7 := Fr.app N6 N7q
  obtain ⟨cq8, kq8, q8a, q8b, q8c⟩ := isOf hZ eq7 E_qq
  obtain ⟨_, _, ⟨T8, L8, k8, n8⟩, -, X8, ⟨Lc8, hQ8, l8, y8, z8⟩, st8⟩ := X7.virtualBack hx (y := (⟨"com/example/nereus/nereus/Domain", "includes", "(Lcom/example/nereus/nereus/Domain;)Z"⟩ : MethodName)) (z := (⟨"com/example/nereus/nereus/Domain", "includes", "(Lcom/example/nereus/nereus/Domain;)Z"⟩ : MethodName)) hown (mvT hZ (hw _ (List.mem_of_getElem? (i := 23) rfl))) (mvT hZ (hw _ (List.mem_of_getElem? (i := 24) rfl))) (notFace_of_selects (args := #[]) (mvT hZ sel_q)) (mvT hZ sel_q) (mvT hZ (hw _ (List.mem_of_getElem? (i := 25) rfl))) (by decide) (backOf (W := 0) (rm2g l Z a0 hw [] qq pp u3 u2 bqp T6.heap n0 Z0 S_DECIMAL S_INTEGER t_bqp f_bqp) hZ (hw _ (List.mem_of_getElem? (i := 27) rfl)) (hw _ (List.mem_of_getElem? (i := 8) rfl)) (by decide) (by decide)) q8a q8c (g := (mkF m 56 #[.val (.int p1), .val (.int p2), .val (.int p3), .val (.int (HMod.hMod (p1 &&& (2147483647 : Int32)) (5 : Int32))), .val (.int (HMod.hMod (p2 &&& (2147483647 : Int32)) (5 : Int32))), .val (.int (HMod.hMod (p3 &&& (2147483647 : Int32)) (5 : Int32))), .val (.ref pp), .val (.ref qq), .val (.ref rr), .val (.int bpq), .unset, .unset, .unset, .unset, .unset] [(.ref pp), (.ref qq)])) rfl (by rw [hml]; rfl) (Steps.refl _) (argsL := [(.ref pp)]) (rest := []) (lenOf pd_0_1 rfl) rfl (by show 2 * 0 + _ ≤ _; exact Nat.le_of_eq rfl) (hb hby at_56) (fun _ _ => ⟨rfl, eq7, (Nat.le_of_ble_eq_true rfl), (Nat.le_of_ble_eq_true rfl)⟩)
  dsimp only [Pt.U, Pt.locs, Pt.cells, Pt.slots] at X8 l8 y8 z8 st8 hQ8
  subst l8 y8 z8
  obtain ⟨rfl, N8q, eq8⟩ := hQ8
  have N8 := Fr.app N7 N8q
  obtain ⟨cq9, kq9, q9a, q9b, q9c⟩ := isOf hZ eq8 E_qq
  obtain ⟨_, _, ⟨T9, L9, k9, n9⟩, -, X9, ⟨Lc9, hQ9, l9, y9, z9⟩, st9⟩ := X8.virtualBack hx (y := (⟨"com/example/nereus/nereus/Domain", "includes", "(Lcom/example/nereus/nereus/Domain;)Z"⟩ : MethodName)) (z := (⟨"com/example/nereus/nereus/Domain", "includes", "(Lcom/example/nereus/nereus/Domain;)Z"⟩ : MethodName)) hown (mvT hZ (hw _ (List.mem_of_getElem? (i := 23) rfl))) (mvT hZ (hw _ (List.mem_of_getElem? (i := 24) rfl))) (notFace_of_selects (args := #[]) (mvT hZ sel_q)) (mvT hZ sel_q) (mvT hZ (hw _ (List.mem_of_getElem? (i := 25) rfl))) (by decide) (backOf (W := 0) (rm2g l Z a0 hw [] qq rr u3 u2 bqr T6.heap n0 Z0 S_DECIMAL S_INTEGER t_bqr f_bqr) hZ (hw _ (List.mem_of_getElem? (i := 27) rfl)) (hw _ (List.mem_of_getElem? (i := 8) rfl)) (by decide) (by decide)) q9a q9c (g := (mkF m 65 #[.val (.int p1), .val (.int p2), .val (.int p3), .val (.int (HMod.hMod (p1 &&& (2147483647 : Int32)) (5 : Int32))), .val (.int (HMod.hMod (p2 &&& (2147483647 : Int32)) (5 : Int32))), .val (.int (HMod.hMod (p3 &&& (2147483647 : Int32)) (5 : Int32))), .val (.ref pp), .val (.ref qq), .val (.ref rr), .val (.int bpq), .val (.int bqp), .unset, .unset, .unset, .unset] [(.ref rr), (.ref qq)])) rfl (by rw [hml]; rfl) (Steps.refl _) (argsL := [(.ref rr)]) (rest := []) (lenOf pd_0_1 rfl) rfl (by show 2 * 0 + _ ≤ _; exact Nat.le_of_eq rfl) (hb hby at_65) (fun _ _ => ⟨rfl, eq8, (Nat.le_of_ble_eq_true rfl), (Nat.le_of_ble_eq_true rfl)⟩)
  dsimp only [Pt.U, Pt.locs, Pt.cells, Pt.slots] at X9 l9 y9 z9 st9 hQ9
  subst l9 y9 z9
  obtain ⟨rfl, N9q, eq9⟩ := hQ9
  have N9 := Fr.app N8 N9q
  obtain ⟨cq10, kq10, q10a, q10b, q10c⟩ := isOf hZ eq9 E_pp
  obtain ⟨_, _, ⟨T10, L10, k10, n10⟩, -, X10, ⟨Lc10, hQ10, l10, y10, z10⟩, st10⟩ := X9.virtualBack hx (y := (⟨"com/example/nereus/nereus/Domain", "includes", "(Lcom/example/nereus/nereus/Domain;)Z"⟩ : MethodName)) (z := (⟨"com/example/nereus/nereus/Domain", "includes", "(Lcom/example/nereus/nereus/Domain;)Z"⟩ : MethodName)) hown (mvT hZ (hw _ (List.mem_of_getElem? (i := 23) rfl))) (mvT hZ (hw _ (List.mem_of_getElem? (i := 24) rfl))) (notFace_of_selects (args := #[]) (mvT hZ sel_p)) (mvT hZ sel_p) (mvT hZ (hw _ (List.mem_of_getElem? (i := 25) rfl))) (by decide) (backOf (W := 0) (rm2g l Z a0 hw [] pp rr u3 u2 bpr T6.heap n0 Z0 S_DECIMAL S_INTEGER t_bpr f_bpr) hZ (hw _ (List.mem_of_getElem? (i := 27) rfl)) (hw _ (List.mem_of_getElem? (i := 8) rfl)) (by decide) (by decide)) q10a q10c (g := (mkF m 74 #[.val (.int p1), .val (.int p2), .val (.int p3), .val (.int (HMod.hMod (p1 &&& (2147483647 : Int32)) (5 : Int32))), .val (.int (HMod.hMod (p2 &&& (2147483647 : Int32)) (5 : Int32))), .val (.int (HMod.hMod (p3 &&& (2147483647 : Int32)) (5 : Int32))), .val (.ref pp), .val (.ref qq), .val (.ref rr), .val (.int bpq), .val (.int bqp), .val (.int bqr), .unset, .unset, .unset] [(.ref rr), (.ref pp)])) rfl (by rw [hml]; rfl) (Steps.refl _) (argsL := [(.ref rr)]) (rest := []) (lenOf pd_0_1 rfl) rfl (by show 2 * 0 + _ ≤ _; exact Nat.le_of_eq rfl) (hb hby at_74) (fun _ _ => ⟨rfl, eq9, (Nat.le_of_ble_eq_true rfl), (Nat.le_of_ble_eq_true rfl)⟩)
  dsimp only [Pt.U, Pt.locs, Pt.cells, Pt.slots] at X10 l10 y10 z10 st10 hQ10
  subst l10 y10 z10
  obtain ⟨rfl, N10q, eq10⟩ := hQ10
  have N10 := Fr.app N9 N10q
  obtain ⟨cq11, kq11, q11a, q11b, q11c⟩ := isOf hZ eq10 E_pp
  obtain ⟨_, _, ⟨T11, L11, k11, n11⟩, -, X11, ⟨Lc11, hQ11, l11, y11, z11⟩, st11⟩ := X10.virtualBack hx (y := (⟨"com/example/nereus/nereus/Domain", "includes", "(Lcom/example/nereus/nereus/Domain;)Z"⟩ : MethodName)) (z := (⟨"com/example/nereus/nereus/Domain", "includes", "(Lcom/example/nereus/nereus/Domain;)Z"⟩ : MethodName)) hown (mvT hZ (hw _ (List.mem_of_getElem? (i := 23) rfl))) (mvT hZ (hw _ (List.mem_of_getElem? (i := 24) rfl))) (notFace_of_selects (args := #[]) (mvT hZ sel_p)) (mvT hZ sel_p) (mvT hZ (hw _ (List.mem_of_getElem? (i := 25) rfl))) (by decide) (backOf (W := 0) (rm2g l Z a0 hw [] pp pp u3 u2 bpp T6.heap n0 Z0 S_DECIMAL S_INTEGER t_bpp f_bpp) hZ (hw _ (List.mem_of_getElem? (i := 27) rfl)) (hw _ (List.mem_of_getElem? (i := 8) rfl)) (by decide) (by decide)) q11a q11c (g := (mkF m 83 #[.val (.int p1), .val (.int p2), .val (.int p3), .val (.int (HMod.hMod (p1 &&& (2147483647 : Int32)) (5 : Int32))), .val (.int (HMod.hMod (p2 &&& (2147483647 : Int32)) (5 : Int32))), .val (.int (HMod.hMod (p3 &&& (2147483647 : Int32)) (5 : Int32))), .val (.ref pp), .val (.ref qq), .val (.ref rr), .val (.int bpq), .val (.int bqp), .val (.int bqr), .val (.int bpr), .unset, .unset] [(.ref pp), (.ref pp)])) rfl (by rw [hml]; rfl) (Steps.refl _) (argsL := [(.ref pp)]) (rest := []) (lenOf pd_0_1 rfl) rfl (by show 2 * 0 + _ ≤ _; exact Nat.le_of_eq rfl) (hb hby at_83) (fun _ _ => ⟨rfl, eq10, (Nat.le_of_ble_eq_true rfl), (Nat.le_of_ble_eq_true rfl)⟩)
  dsimp only [Pt.U, Pt.locs, Pt.cells, Pt.slots] at X11 l11 y11 z11 st11 hQ11
  subst l11 y11 z11
  obtain ⟨rfl, N11q, eq11⟩ := hQ11
  have N11 := Fr.app N10 N11q
  obtain ⟨fs, hr, hrun, hended, hW, hsame⟩ := X11.leave (v := some (.int (1 : Int32))) (fun h => by rw [Bd.returns] at h; cases h)
  refine ⟨_, _, pre0 _ ?_, hrun, hended, _, _, rfl, ?_, ⟨_, rfl⟩, hW, hsame.mono (by decide) (by decide)⟩
  · show Steps p.tables e below (s₁.setTop (mkF m 0 #[.val (.int p1), .val (.int p2), .val (.int p3), .unset, .unset, .unset, .unset, .unset, .unset, .unset, .unset, .unset, .unset, .unset, .unset] [])) _
    refine XS.iloadN X0.here hx rfl (hb hby at_0) rfl ?_
    show Steps p.tables e below (s₁.setTop (mkF m 1 #[.val (.int p1), .val (.int p2), .val (.int p3), .unset, .unset, .unset, .unset, .unset, .unset, .unset, .unset, .unset, .unset, .unset, .unset] [(.int p1)])) _
    refine X0.ldcI hx hown (mvT hZ (hw _ (List.mem_of_getElem? (i := 0) rfl))) (g := (mkF m 1 #[.val (.int p1), .val (.int p2), .val (.int p3), .unset, .unset, .unset, .unset, .unset, .unset, .unset, .unset, .unset, .unset, .unset, .unset] [(.int p1)])) rfl (hb hby at_1) ?_
    show Steps p.tables e below (s₁.setTop (mkF m 3 #[.val (.int p1), .val (.int p2), .val (.int p3), .unset, .unset, .unset, .unset, .unset, .unset, .unset, .unset, .unset, .unset, .unset, .unset] [(.int (2147483647 : Int32)), (.int p1)])) _
    refine XS.iand X0.here hx rfl (hb hby at_3) rfl ?_
    show Steps p.tables e below (s₁.setTop (mkF m 4 #[.val (.int p1), .val (.int p2), .val (.int p3), .unset, .unset, .unset, .unset, .unset, .unset, .unset, .unset, .unset, .unset, .unset, .unset] [(.int (p1 &&& (2147483647 : Int32)))])) _
    refine XS.iconst X0.here hx rfl (hb hby at_4) ?_
    show Steps p.tables e below (s₁.setTop (mkF m 5 #[.val (.int p1), .val (.int p2), .val (.int p3), .unset, .unset, .unset, .unset, .unset, .unset, .unset, .unset, .unset, .unset, .unset, .unset] [(.int (5 : Int32)), (.int (p1 &&& (2147483647 : Int32)))])) _
    refine iremM X0 hx (g := (mkF m 5 #[.val (.int p1), .val (.int p2), .val (.int p3), .unset, .unset, .unset, .unset, .unset, .unset, .unset, .unset, .unset, .unset, .unset, .unset] [(.int (5 : Int32)), (.int (p1 &&& (2147483647 : Int32)))])) rfl (hb hby at_5) rfl (by decide) ?_
    show Steps p.tables e below (s₁.setTop (mkF m 6 #[.val (.int p1), .val (.int p2), .val (.int p3), .unset, .unset, .unset, .unset, .unset, .unset, .unset, .unset, .unset, .unset, .unset, .unset] [(.int (HMod.hMod (p1 &&& (2147483647 : Int32)) (5 : Int32)))])) _
    refine XS.istoreN X0.here hx rfl (hb hby at_6) rfl (l' := #[.val (.int p1), .val (.int p2), .val (.int p3), .val (.int (HMod.hMod (p1 &&& (2147483647 : Int32)) (5 : Int32))), .unset, .unset, .unset, .unset, .unset, .unset, .unset, .unset, .unset, .unset, .unset]) rfl ?_
    show Steps p.tables e below (s₁.setTop (mkF m 7 #[.val (.int p1), .val (.int p2), .val (.int p3), .val (.int (HMod.hMod (p1 &&& (2147483647 : Int32)) (5 : Int32))), .unset, .unset, .unset, .unset, .unset, .unset, .unset, .unset, .unset, .unset, .unset] [])) _
    refine XS.iloadN X0.here hx rfl (hb hby at_7) rfl ?_
    show Steps p.tables e below (s₁.setTop (mkF m 8 #[.val (.int p1), .val (.int p2), .val (.int p3), .val (.int (HMod.hMod (p1 &&& (2147483647 : Int32)) (5 : Int32))), .unset, .unset, .unset, .unset, .unset, .unset, .unset, .unset, .unset, .unset, .unset] [(.int p2)])) _
    refine X0.ldcI hx hown (mvT hZ (hw _ (List.mem_of_getElem? (i := 0) rfl))) (g := (mkF m 8 #[.val (.int p1), .val (.int p2), .val (.int p3), .val (.int (HMod.hMod (p1 &&& (2147483647 : Int32)) (5 : Int32))), .unset, .unset, .unset, .unset, .unset, .unset, .unset, .unset, .unset, .unset, .unset] [(.int p2)])) rfl (hb hby at_8) ?_
    show Steps p.tables e below (s₁.setTop (mkF m 10 #[.val (.int p1), .val (.int p2), .val (.int p3), .val (.int (HMod.hMod (p1 &&& (2147483647 : Int32)) (5 : Int32))), .unset, .unset, .unset, .unset, .unset, .unset, .unset, .unset, .unset, .unset, .unset] [(.int (2147483647 : Int32)), (.int p2)])) _
    refine XS.iand X0.here hx rfl (hb hby at_10) rfl ?_
    show Steps p.tables e below (s₁.setTop (mkF m 11 #[.val (.int p1), .val (.int p2), .val (.int p3), .val (.int (HMod.hMod (p1 &&& (2147483647 : Int32)) (5 : Int32))), .unset, .unset, .unset, .unset, .unset, .unset, .unset, .unset, .unset, .unset, .unset] [(.int (p2 &&& (2147483647 : Int32)))])) _
    refine XS.iconst X0.here hx rfl (hb hby at_11) ?_
    show Steps p.tables e below (s₁.setTop (mkF m 12 #[.val (.int p1), .val (.int p2), .val (.int p3), .val (.int (HMod.hMod (p1 &&& (2147483647 : Int32)) (5 : Int32))), .unset, .unset, .unset, .unset, .unset, .unset, .unset, .unset, .unset, .unset, .unset] [(.int (5 : Int32)), (.int (p2 &&& (2147483647 : Int32)))])) _
    refine iremM X0 hx (g := (mkF m 12 #[.val (.int p1), .val (.int p2), .val (.int p3), .val (.int (HMod.hMod (p1 &&& (2147483647 : Int32)) (5 : Int32))), .unset, .unset, .unset, .unset, .unset, .unset, .unset, .unset, .unset, .unset, .unset] [(.int (5 : Int32)), (.int (p2 &&& (2147483647 : Int32)))])) rfl (hb hby at_12) rfl (by decide) ?_
    show Steps p.tables e below (s₁.setTop (mkF m 13 #[.val (.int p1), .val (.int p2), .val (.int p3), .val (.int (HMod.hMod (p1 &&& (2147483647 : Int32)) (5 : Int32))), .unset, .unset, .unset, .unset, .unset, .unset, .unset, .unset, .unset, .unset, .unset] [(.int (HMod.hMod (p2 &&& (2147483647 : Int32)) (5 : Int32)))])) _
    refine XS.istore X0.here hx rfl (hb hby at_13) rfl (l' := #[.val (.int p1), .val (.int p2), .val (.int p3), .val (.int (HMod.hMod (p1 &&& (2147483647 : Int32)) (5 : Int32))), .val (.int (HMod.hMod (p2 &&& (2147483647 : Int32)) (5 : Int32))), .unset, .unset, .unset, .unset, .unset, .unset, .unset, .unset, .unset, .unset]) rfl ?_
    show Steps p.tables e below (s₁.setTop (mkF m 15 #[.val (.int p1), .val (.int p2), .val (.int p3), .val (.int (HMod.hMod (p1 &&& (2147483647 : Int32)) (5 : Int32))), .val (.int (HMod.hMod (p2 &&& (2147483647 : Int32)) (5 : Int32))), .unset, .unset, .unset, .unset, .unset, .unset, .unset, .unset, .unset, .unset] [])) _
    refine XS.iloadN X0.here hx rfl (hb hby at_15) rfl ?_
    show Steps p.tables e below (s₁.setTop (mkF m 16 #[.val (.int p1), .val (.int p2), .val (.int p3), .val (.int (HMod.hMod (p1 &&& (2147483647 : Int32)) (5 : Int32))), .val (.int (HMod.hMod (p2 &&& (2147483647 : Int32)) (5 : Int32))), .unset, .unset, .unset, .unset, .unset, .unset, .unset, .unset, .unset, .unset] [(.int p3)])) _
    refine X0.ldcI hx hown (mvT hZ (hw _ (List.mem_of_getElem? (i := 0) rfl))) (g := (mkF m 16 #[.val (.int p1), .val (.int p2), .val (.int p3), .val (.int (HMod.hMod (p1 &&& (2147483647 : Int32)) (5 : Int32))), .val (.int (HMod.hMod (p2 &&& (2147483647 : Int32)) (5 : Int32))), .unset, .unset, .unset, .unset, .unset, .unset, .unset, .unset, .unset, .unset] [(.int p3)])) rfl (hb hby at_16) ?_
    show Steps p.tables e below (s₁.setTop (mkF m 18 #[.val (.int p1), .val (.int p2), .val (.int p3), .val (.int (HMod.hMod (p1 &&& (2147483647 : Int32)) (5 : Int32))), .val (.int (HMod.hMod (p2 &&& (2147483647 : Int32)) (5 : Int32))), .unset, .unset, .unset, .unset, .unset, .unset, .unset, .unset, .unset, .unset] [(.int (2147483647 : Int32)), (.int p3)])) _
    refine XS.iand X0.here hx rfl (hb hby at_18) rfl ?_
    show Steps p.tables e below (s₁.setTop (mkF m 19 #[.val (.int p1), .val (.int p2), .val (.int p3), .val (.int (HMod.hMod (p1 &&& (2147483647 : Int32)) (5 : Int32))), .val (.int (HMod.hMod (p2 &&& (2147483647 : Int32)) (5 : Int32))), .unset, .unset, .unset, .unset, .unset, .unset, .unset, .unset, .unset, .unset] [(.int (p3 &&& (2147483647 : Int32)))])) _
    refine XS.iconst X0.here hx rfl (hb hby at_19) ?_
    show Steps p.tables e below (s₁.setTop (mkF m 20 #[.val (.int p1), .val (.int p2), .val (.int p3), .val (.int (HMod.hMod (p1 &&& (2147483647 : Int32)) (5 : Int32))), .val (.int (HMod.hMod (p2 &&& (2147483647 : Int32)) (5 : Int32))), .unset, .unset, .unset, .unset, .unset, .unset, .unset, .unset, .unset, .unset] [(.int (5 : Int32)), (.int (p3 &&& (2147483647 : Int32)))])) _
    refine iremM X0 hx (g := (mkF m 20 #[.val (.int p1), .val (.int p2), .val (.int p3), .val (.int (HMod.hMod (p1 &&& (2147483647 : Int32)) (5 : Int32))), .val (.int (HMod.hMod (p2 &&& (2147483647 : Int32)) (5 : Int32))), .unset, .unset, .unset, .unset, .unset, .unset, .unset, .unset, .unset, .unset] [(.int (5 : Int32)), (.int (p3 &&& (2147483647 : Int32)))])) rfl (hb hby at_20) rfl (by decide) ?_
    show Steps p.tables e below (s₁.setTop (mkF m 21 #[.val (.int p1), .val (.int p2), .val (.int p3), .val (.int (HMod.hMod (p1 &&& (2147483647 : Int32)) (5 : Int32))), .val (.int (HMod.hMod (p2 &&& (2147483647 : Int32)) (5 : Int32))), .unset, .unset, .unset, .unset, .unset, .unset, .unset, .unset, .unset, .unset] [(.int (HMod.hMod (p3 &&& (2147483647 : Int32)) (5 : Int32)))])) _
    refine XS.istore X0.here hx rfl (hb hby at_21) rfl (l' := #[.val (.int p1), .val (.int p2), .val (.int p3), .val (.int (HMod.hMod (p1 &&& (2147483647 : Int32)) (5 : Int32))), .val (.int (HMod.hMod (p2 &&& (2147483647 : Int32)) (5 : Int32))), .val (.int (HMod.hMod (p3 &&& (2147483647 : Int32)) (5 : Int32))), .unset, .unset, .unset, .unset, .unset, .unset, .unset, .unset, .unset]) rfl ?_
    show Steps p.tables e below (s₁.setTop (mkF m 23 #[.val (.int p1), .val (.int p2), .val (.int p3), .val (.int (HMod.hMod (p1 &&& (2147483647 : Int32)) (5 : Int32))), .val (.int (HMod.hMod (p2 &&& (2147483647 : Int32)) (5 : Int32))), .val (.int (HMod.hMod (p3 &&& (2147483647 : Int32)) (5 : Int32))), .unset, .unset, .unset, .unset, .unset, .unset, .unset, .unset, .unset] [])) _
    refine XS.iloadN X0.here hx rfl (hb hby at_23) rfl ?_
    show Steps p.tables e below (s₁.setTop (mkF m 24 #[.val (.int p1), .val (.int p2), .val (.int p3), .val (.int (HMod.hMod (p1 &&& (2147483647 : Int32)) (5 : Int32))), .val (.int (HMod.hMod (p2 &&& (2147483647 : Int32)) (5 : Int32))), .val (.int (HMod.hMod (p3 &&& (2147483647 : Int32)) (5 : Int32))), .unset, .unset, .unset, .unset, .unset, .unset, .unset, .unset, .unset] [(.int (HMod.hMod (p1 &&& (2147483647 : Int32)) (5 : Int32)))])) _
    refine st4 _ ?_
    show Steps p.tables e below (T4.setTop (mkF m 27 #[.val (.int p1), .val (.int p2), .val (.int p3), .val (.int (HMod.hMod (p1 &&& (2147483647 : Int32)) (5 : Int32))), .val (.int (HMod.hMod (p2 &&& (2147483647 : Int32)) (5 : Int32))), .val (.int (HMod.hMod (p3 &&& (2147483647 : Int32)) (5 : Int32))), .unset, .unset, .unset, .unset, .unset, .unset, .unset, .unset, .unset] [(.ref pp)])) _
    refine XS.astore X4.here hx rfl (hb hby at_27) rfl rfl (l' := #[.val (.int p1), .val (.int p2), .val (.int p3), .val (.int (HMod.hMod (p1 &&& (2147483647 : Int32)) (5 : Int32))), .val (.int (HMod.hMod (p2 &&& (2147483647 : Int32)) (5 : Int32))), .val (.int (HMod.hMod (p3 &&& (2147483647 : Int32)) (5 : Int32))), .val (.ref pp), .unset, .unset, .unset, .unset, .unset, .unset, .unset, .unset]) rfl ?_
    show Steps p.tables e below (T4.setTop (mkF m 29 #[.val (.int p1), .val (.int p2), .val (.int p3), .val (.int (HMod.hMod (p1 &&& (2147483647 : Int32)) (5 : Int32))), .val (.int (HMod.hMod (p2 &&& (2147483647 : Int32)) (5 : Int32))), .val (.int (HMod.hMod (p3 &&& (2147483647 : Int32)) (5 : Int32))), .val (.ref pp), .unset, .unset, .unset, .unset, .unset, .unset, .unset, .unset] [])) _
    refine XS.iload X4.here hx rfl (hb hby at_29) rfl ?_
    show Steps p.tables e below (T4.setTop (mkF m 31 #[.val (.int p1), .val (.int p2), .val (.int p3), .val (.int (HMod.hMod (p1 &&& (2147483647 : Int32)) (5 : Int32))), .val (.int (HMod.hMod (p2 &&& (2147483647 : Int32)) (5 : Int32))), .val (.int (HMod.hMod (p3 &&& (2147483647 : Int32)) (5 : Int32))), .val (.ref pp), .unset, .unset, .unset, .unset, .unset, .unset, .unset, .unset] [(.int (HMod.hMod (p2 &&& (2147483647 : Int32)) (5 : Int32)))])) _
    refine st5 _ ?_
    show Steps p.tables e below (T5.setTop (mkF m 34 #[.val (.int p1), .val (.int p2), .val (.int p3), .val (.int (HMod.hMod (p1 &&& (2147483647 : Int32)) (5 : Int32))), .val (.int (HMod.hMod (p2 &&& (2147483647 : Int32)) (5 : Int32))), .val (.int (HMod.hMod (p3 &&& (2147483647 : Int32)) (5 : Int32))), .val (.ref pp), .unset, .unset, .unset, .unset, .unset, .unset, .unset, .unset] [(.ref qq)])) _
    refine XS.astore X5.here hx rfl (hb hby at_34) rfl rfl (l' := #[.val (.int p1), .val (.int p2), .val (.int p3), .val (.int (HMod.hMod (p1 &&& (2147483647 : Int32)) (5 : Int32))), .val (.int (HMod.hMod (p2 &&& (2147483647 : Int32)) (5 : Int32))), .val (.int (HMod.hMod (p3 &&& (2147483647 : Int32)) (5 : Int32))), .val (.ref pp), .val (.ref qq), .unset, .unset, .unset, .unset, .unset, .unset, .unset]) rfl ?_
    show Steps p.tables e below (T5.setTop (mkF m 36 #[.val (.int p1), .val (.int p2), .val (.int p3), .val (.int (HMod.hMod (p1 &&& (2147483647 : Int32)) (5 : Int32))), .val (.int (HMod.hMod (p2 &&& (2147483647 : Int32)) (5 : Int32))), .val (.int (HMod.hMod (p3 &&& (2147483647 : Int32)) (5 : Int32))), .val (.ref pp), .val (.ref qq), .unset, .unset, .unset, .unset, .unset, .unset, .unset] [])) _
    refine XS.iload X5.here hx rfl (hb hby at_36) rfl ?_
    show Steps p.tables e below (T5.setTop (mkF m 38 #[.val (.int p1), .val (.int p2), .val (.int p3), .val (.int (HMod.hMod (p1 &&& (2147483647 : Int32)) (5 : Int32))), .val (.int (HMod.hMod (p2 &&& (2147483647 : Int32)) (5 : Int32))), .val (.int (HMod.hMod (p3 &&& (2147483647 : Int32)) (5 : Int32))), .val (.ref pp), .val (.ref qq), .unset, .unset, .unset, .unset, .unset, .unset, .unset] [(.int (HMod.hMod (p3 &&& (2147483647 : Int32)) (5 : Int32)))])) _
    refine st6 _ ?_
    show Steps p.tables e below (T6.setTop (mkF m 41 #[.val (.int p1), .val (.int p2), .val (.int p3), .val (.int (HMod.hMod (p1 &&& (2147483647 : Int32)) (5 : Int32))), .val (.int (HMod.hMod (p2 &&& (2147483647 : Int32)) (5 : Int32))), .val (.int (HMod.hMod (p3 &&& (2147483647 : Int32)) (5 : Int32))), .val (.ref pp), .val (.ref qq), .unset, .unset, .unset, .unset, .unset, .unset, .unset] [(.ref rr)])) _
    refine XS.astore X6.here hx rfl (hb hby at_41) rfl rfl (l' := #[.val (.int p1), .val (.int p2), .val (.int p3), .val (.int (HMod.hMod (p1 &&& (2147483647 : Int32)) (5 : Int32))), .val (.int (HMod.hMod (p2 &&& (2147483647 : Int32)) (5 : Int32))), .val (.int (HMod.hMod (p3 &&& (2147483647 : Int32)) (5 : Int32))), .val (.ref pp), .val (.ref qq), .val (.ref rr), .unset, .unset, .unset, .unset, .unset, .unset]) rfl ?_
    show Steps p.tables e below (T6.setTop (mkF m 43 #[.val (.int p1), .val (.int p2), .val (.int p3), .val (.int (HMod.hMod (p1 &&& (2147483647 : Int32)) (5 : Int32))), .val (.int (HMod.hMod (p2 &&& (2147483647 : Int32)) (5 : Int32))), .val (.int (HMod.hMod (p3 &&& (2147483647 : Int32)) (5 : Int32))), .val (.ref pp), .val (.ref qq), .val (.ref rr), .unset, .unset, .unset, .unset, .unset, .unset] [])) _
    refine XS.aload X6.here hx rfl (hb hby at_43) rfl rfl ?_
    show Steps p.tables e below (T6.setTop (mkF m 45 #[.val (.int p1), .val (.int p2), .val (.int p3), .val (.int (HMod.hMod (p1 &&& (2147483647 : Int32)) (5 : Int32))), .val (.int (HMod.hMod (p2 &&& (2147483647 : Int32)) (5 : Int32))), .val (.int (HMod.hMod (p3 &&& (2147483647 : Int32)) (5 : Int32))), .val (.ref pp), .val (.ref qq), .val (.ref rr), .unset, .unset, .unset, .unset, .unset, .unset] [(.ref pp)])) _
    refine XS.aload X6.here hx rfl (hb hby at_45) rfl rfl ?_
    show Steps p.tables e below (T6.setTop (mkF m 47 #[.val (.int p1), .val (.int p2), .val (.int p3), .val (.int (HMod.hMod (p1 &&& (2147483647 : Int32)) (5 : Int32))), .val (.int (HMod.hMod (p2 &&& (2147483647 : Int32)) (5 : Int32))), .val (.int (HMod.hMod (p3 &&& (2147483647 : Int32)) (5 : Int32))), .val (.ref pp), .val (.ref qq), .val (.ref rr), .unset, .unset, .unset, .unset, .unset, .unset] [(.ref qq), (.ref pp)])) _
    refine st7.trans ?_
    show Steps p.tables e below (T7.setTop (mkF m 50 #[.val (.int p1), .val (.int p2), .val (.int p3), .val (.int (HMod.hMod (p1 &&& (2147483647 : Int32)) (5 : Int32))), .val (.int (HMod.hMod (p2 &&& (2147483647 : Int32)) (5 : Int32))), .val (.int (HMod.hMod (p3 &&& (2147483647 : Int32)) (5 : Int32))), .val (.ref pp), .val (.ref qq), .val (.ref rr), .unset, .unset, .unset, .unset, .unset, .unset] [(.int bpq)])) _
    refine XS.istore X7.here hx rfl (hb hby at_50) rfl (l' := #[.val (.int p1), .val (.int p2), .val (.int p3), .val (.int (HMod.hMod (p1 &&& (2147483647 : Int32)) (5 : Int32))), .val (.int (HMod.hMod (p2 &&& (2147483647 : Int32)) (5 : Int32))), .val (.int (HMod.hMod (p3 &&& (2147483647 : Int32)) (5 : Int32))), .val (.ref pp), .val (.ref qq), .val (.ref rr), .val (.int bpq), .unset, .unset, .unset, .unset, .unset]) rfl ?_
    show Steps p.tables e below (T7.setTop (mkF m 52 #[.val (.int p1), .val (.int p2), .val (.int p3), .val (.int (HMod.hMod (p1 &&& (2147483647 : Int32)) (5 : Int32))), .val (.int (HMod.hMod (p2 &&& (2147483647 : Int32)) (5 : Int32))), .val (.int (HMod.hMod (p3 &&& (2147483647 : Int32)) (5 : Int32))), .val (.ref pp), .val (.ref qq), .val (.ref rr), .val (.int bpq), .unset, .unset, .unset, .unset, .unset] [])) _
    refine XS.aload X7.here hx rfl (hb hby at_52) rfl rfl ?_
    show Steps p.tables e below (T7.setTop (mkF m 54 #[.val (.int p1), .val (.int p2), .val (.int p3), .val (.int (HMod.hMod (p1 &&& (2147483647 : Int32)) (5 : Int32))), .val (.int (HMod.hMod (p2 &&& (2147483647 : Int32)) (5 : Int32))), .val (.int (HMod.hMod (p3 &&& (2147483647 : Int32)) (5 : Int32))), .val (.ref pp), .val (.ref qq), .val (.ref rr), .val (.int bpq), .unset, .unset, .unset, .unset, .unset] [(.ref qq)])) _
    refine XS.aload X7.here hx rfl (hb hby at_54) rfl rfl ?_
    show Steps p.tables e below (T7.setTop (mkF m 56 #[.val (.int p1), .val (.int p2), .val (.int p3), .val (.int (HMod.hMod (p1 &&& (2147483647 : Int32)) (5 : Int32))), .val (.int (HMod.hMod (p2 &&& (2147483647 : Int32)) (5 : Int32))), .val (.int (HMod.hMod (p3 &&& (2147483647 : Int32)) (5 : Int32))), .val (.ref pp), .val (.ref qq), .val (.ref rr), .val (.int bpq), .unset, .unset, .unset, .unset, .unset] [(.ref pp), (.ref qq)])) _
    refine st8.trans ?_
    show Steps p.tables e below (T8.setTop (mkF m 59 #[.val (.int p1), .val (.int p2), .val (.int p3), .val (.int (HMod.hMod (p1 &&& (2147483647 : Int32)) (5 : Int32))), .val (.int (HMod.hMod (p2 &&& (2147483647 : Int32)) (5 : Int32))), .val (.int (HMod.hMod (p3 &&& (2147483647 : Int32)) (5 : Int32))), .val (.ref pp), .val (.ref qq), .val (.ref rr), .val (.int bpq), .unset, .unset, .unset, .unset, .unset] [(.int bqp)])) _
    refine XS.istore X8.here hx rfl (hb hby at_59) rfl (l' := #[.val (.int p1), .val (.int p2), .val (.int p3), .val (.int (HMod.hMod (p1 &&& (2147483647 : Int32)) (5 : Int32))), .val (.int (HMod.hMod (p2 &&& (2147483647 : Int32)) (5 : Int32))), .val (.int (HMod.hMod (p3 &&& (2147483647 : Int32)) (5 : Int32))), .val (.ref pp), .val (.ref qq), .val (.ref rr), .val (.int bpq), .val (.int bqp), .unset, .unset, .unset, .unset]) rfl ?_
    show Steps p.tables e below (T8.setTop (mkF m 61 #[.val (.int p1), .val (.int p2), .val (.int p3), .val (.int (HMod.hMod (p1 &&& (2147483647 : Int32)) (5 : Int32))), .val (.int (HMod.hMod (p2 &&& (2147483647 : Int32)) (5 : Int32))), .val (.int (HMod.hMod (p3 &&& (2147483647 : Int32)) (5 : Int32))), .val (.ref pp), .val (.ref qq), .val (.ref rr), .val (.int bpq), .val (.int bqp), .unset, .unset, .unset, .unset] [])) _
    refine XS.aload X8.here hx rfl (hb hby at_61) rfl rfl ?_
    show Steps p.tables e below (T8.setTop (mkF m 63 #[.val (.int p1), .val (.int p2), .val (.int p3), .val (.int (HMod.hMod (p1 &&& (2147483647 : Int32)) (5 : Int32))), .val (.int (HMod.hMod (p2 &&& (2147483647 : Int32)) (5 : Int32))), .val (.int (HMod.hMod (p3 &&& (2147483647 : Int32)) (5 : Int32))), .val (.ref pp), .val (.ref qq), .val (.ref rr), .val (.int bpq), .val (.int bqp), .unset, .unset, .unset, .unset] [(.ref qq)])) _
    refine XS.aload X8.here hx rfl (hb hby at_63) rfl rfl ?_
    show Steps p.tables e below (T8.setTop (mkF m 65 #[.val (.int p1), .val (.int p2), .val (.int p3), .val (.int (HMod.hMod (p1 &&& (2147483647 : Int32)) (5 : Int32))), .val (.int (HMod.hMod (p2 &&& (2147483647 : Int32)) (5 : Int32))), .val (.int (HMod.hMod (p3 &&& (2147483647 : Int32)) (5 : Int32))), .val (.ref pp), .val (.ref qq), .val (.ref rr), .val (.int bpq), .val (.int bqp), .unset, .unset, .unset, .unset] [(.ref rr), (.ref qq)])) _
    refine st9.trans ?_
    show Steps p.tables e below (T9.setTop (mkF m 68 #[.val (.int p1), .val (.int p2), .val (.int p3), .val (.int (HMod.hMod (p1 &&& (2147483647 : Int32)) (5 : Int32))), .val (.int (HMod.hMod (p2 &&& (2147483647 : Int32)) (5 : Int32))), .val (.int (HMod.hMod (p3 &&& (2147483647 : Int32)) (5 : Int32))), .val (.ref pp), .val (.ref qq), .val (.ref rr), .val (.int bpq), .val (.int bqp), .unset, .unset, .unset, .unset] [(.int bqr)])) _
    refine XS.istore X9.here hx rfl (hb hby at_68) rfl (l' := #[.val (.int p1), .val (.int p2), .val (.int p3), .val (.int (HMod.hMod (p1 &&& (2147483647 : Int32)) (5 : Int32))), .val (.int (HMod.hMod (p2 &&& (2147483647 : Int32)) (5 : Int32))), .val (.int (HMod.hMod (p3 &&& (2147483647 : Int32)) (5 : Int32))), .val (.ref pp), .val (.ref qq), .val (.ref rr), .val (.int bpq), .val (.int bqp), .val (.int bqr), .unset, .unset, .unset]) rfl ?_
    show Steps p.tables e below (T9.setTop (mkF m 70 #[.val (.int p1), .val (.int p2), .val (.int p3), .val (.int (HMod.hMod (p1 &&& (2147483647 : Int32)) (5 : Int32))), .val (.int (HMod.hMod (p2 &&& (2147483647 : Int32)) (5 : Int32))), .val (.int (HMod.hMod (p3 &&& (2147483647 : Int32)) (5 : Int32))), .val (.ref pp), .val (.ref qq), .val (.ref rr), .val (.int bpq), .val (.int bqp), .val (.int bqr), .unset, .unset, .unset] [])) _
    refine XS.aload X9.here hx rfl (hb hby at_70) rfl rfl ?_
    show Steps p.tables e below (T9.setTop (mkF m 72 #[.val (.int p1), .val (.int p2), .val (.int p3), .val (.int (HMod.hMod (p1 &&& (2147483647 : Int32)) (5 : Int32))), .val (.int (HMod.hMod (p2 &&& (2147483647 : Int32)) (5 : Int32))), .val (.int (HMod.hMod (p3 &&& (2147483647 : Int32)) (5 : Int32))), .val (.ref pp), .val (.ref qq), .val (.ref rr), .val (.int bpq), .val (.int bqp), .val (.int bqr), .unset, .unset, .unset] [(.ref pp)])) _
    refine XS.aload X9.here hx rfl (hb hby at_72) rfl rfl ?_
    show Steps p.tables e below (T9.setTop (mkF m 74 #[.val (.int p1), .val (.int p2), .val (.int p3), .val (.int (HMod.hMod (p1 &&& (2147483647 : Int32)) (5 : Int32))), .val (.int (HMod.hMod (p2 &&& (2147483647 : Int32)) (5 : Int32))), .val (.int (HMod.hMod (p3 &&& (2147483647 : Int32)) (5 : Int32))), .val (.ref pp), .val (.ref qq), .val (.ref rr), .val (.int bpq), .val (.int bqp), .val (.int bqr), .unset, .unset, .unset] [(.ref rr), (.ref pp)])) _
    refine st10.trans ?_
    show Steps p.tables e below (T10.setTop (mkF m 77 #[.val (.int p1), .val (.int p2), .val (.int p3), .val (.int (HMod.hMod (p1 &&& (2147483647 : Int32)) (5 : Int32))), .val (.int (HMod.hMod (p2 &&& (2147483647 : Int32)) (5 : Int32))), .val (.int (HMod.hMod (p3 &&& (2147483647 : Int32)) (5 : Int32))), .val (.ref pp), .val (.ref qq), .val (.ref rr), .val (.int bpq), .val (.int bqp), .val (.int bqr), .unset, .unset, .unset] [(.int bpr)])) _
    refine XS.istore X10.here hx rfl (hb hby at_77) rfl (l' := #[.val (.int p1), .val (.int p2), .val (.int p3), .val (.int (HMod.hMod (p1 &&& (2147483647 : Int32)) (5 : Int32))), .val (.int (HMod.hMod (p2 &&& (2147483647 : Int32)) (5 : Int32))), .val (.int (HMod.hMod (p3 &&& (2147483647 : Int32)) (5 : Int32))), .val (.ref pp), .val (.ref qq), .val (.ref rr), .val (.int bpq), .val (.int bqp), .val (.int bqr), .val (.int bpr), .unset, .unset]) rfl ?_
    show Steps p.tables e below (T10.setTop (mkF m 79 #[.val (.int p1), .val (.int p2), .val (.int p3), .val (.int (HMod.hMod (p1 &&& (2147483647 : Int32)) (5 : Int32))), .val (.int (HMod.hMod (p2 &&& (2147483647 : Int32)) (5 : Int32))), .val (.int (HMod.hMod (p3 &&& (2147483647 : Int32)) (5 : Int32))), .val (.ref pp), .val (.ref qq), .val (.ref rr), .val (.int bpq), .val (.int bqp), .val (.int bqr), .val (.int bpr), .unset, .unset] [])) _
    refine XS.aload X10.here hx rfl (hb hby at_79) rfl rfl ?_
    show Steps p.tables e below (T10.setTop (mkF m 81 #[.val (.int p1), .val (.int p2), .val (.int p3), .val (.int (HMod.hMod (p1 &&& (2147483647 : Int32)) (5 : Int32))), .val (.int (HMod.hMod (p2 &&& (2147483647 : Int32)) (5 : Int32))), .val (.int (HMod.hMod (p3 &&& (2147483647 : Int32)) (5 : Int32))), .val (.ref pp), .val (.ref qq), .val (.ref rr), .val (.int bpq), .val (.int bqp), .val (.int bqr), .val (.int bpr), .unset, .unset] [(.ref pp)])) _
    refine XS.aload X10.here hx rfl (hb hby at_81) rfl rfl ?_
    show Steps p.tables e below (T10.setTop (mkF m 83 #[.val (.int p1), .val (.int p2), .val (.int p3), .val (.int (HMod.hMod (p1 &&& (2147483647 : Int32)) (5 : Int32))), .val (.int (HMod.hMod (p2 &&& (2147483647 : Int32)) (5 : Int32))), .val (.int (HMod.hMod (p3 &&& (2147483647 : Int32)) (5 : Int32))), .val (.ref pp), .val (.ref qq), .val (.ref rr), .val (.int bpq), .val (.int bqp), .val (.int bqr), .val (.int bpr), .unset, .unset] [(.ref pp), (.ref pp)])) _
    refine st11.trans ?_
    show Steps p.tables e below (T11.setTop (mkF m 86 #[.val (.int p1), .val (.int p2), .val (.int p3), .val (.int (HMod.hMod (p1 &&& (2147483647 : Int32)) (5 : Int32))), .val (.int (HMod.hMod (p2 &&& (2147483647 : Int32)) (5 : Int32))), .val (.int (HMod.hMod (p3 &&& (2147483647 : Int32)) (5 : Int32))), .val (.ref pp), .val (.ref qq), .val (.ref rr), .val (.int bpq), .val (.int bqp), .val (.int bqr), .val (.int bpr), .unset, .unset] [(.int bpp)])) _
    refine XS.istore X11.here hx rfl (hb hby at_86) rfl (l' := #[.val (.int p1), .val (.int p2), .val (.int p3), .val (.int (HMod.hMod (p1 &&& (2147483647 : Int32)) (5 : Int32))), .val (.int (HMod.hMod (p2 &&& (2147483647 : Int32)) (5 : Int32))), .val (.int (HMod.hMod (p3 &&& (2147483647 : Int32)) (5 : Int32))), .val (.ref pp), .val (.ref qq), .val (.ref rr), .val (.int bpq), .val (.int bqp), .val (.int bqr), .val (.int bpr), .val (.int bpp), .unset]) rfl ?_
    show Steps p.tables e below (T11.setTop (mkF m 88 #[.val (.int p1), .val (.int p2), .val (.int p3), .val (.int (HMod.hMod (p1 &&& (2147483647 : Int32)) (5 : Int32))), .val (.int (HMod.hMod (p2 &&& (2147483647 : Int32)) (5 : Int32))), .val (.int (HMod.hMod (p3 &&& (2147483647 : Int32)) (5 : Int32))), .val (.ref pp), .val (.ref qq), .val (.ref rr), .val (.int bpq), .val (.int bqp), .val (.int bqr), .val (.int bpr), .val (.int bpp), .unset] [])) _
    refine XS.iloadN X11.here hx rfl (hb hby at_88) rfl ?_
    show Steps p.tables e below (T11.setTop (mkF m 89 #[.val (.int p1), .val (.int p2), .val (.int p3), .val (.int (HMod.hMod (p1 &&& (2147483647 : Int32)) (5 : Int32))), .val (.int (HMod.hMod (p2 &&& (2147483647 : Int32)) (5 : Int32))), .val (.int (HMod.hMod (p3 &&& (2147483647 : Int32)) (5 : Int32))), .val (.ref pp), .val (.ref qq), .val (.ref rr), .val (.int bpq), .val (.int bqp), .val (.int bqr), .val (.int bpr), .val (.int bpp), .unset] [(.int (HMod.hMod (p1 &&& (2147483647 : Int32)) (5 : Int32)))])) _
    refine XS.iload X11.here hx rfl (hb hby at_89) rfl ?_
    show Steps p.tables e below (T11.setTop (mkF m 91 #[.val (.int p1), .val (.int p2), .val (.int p3), .val (.int (HMod.hMod (p1 &&& (2147483647 : Int32)) (5 : Int32))), .val (.int (HMod.hMod (p2 &&& (2147483647 : Int32)) (5 : Int32))), .val (.int (HMod.hMod (p3 &&& (2147483647 : Int32)) (5 : Int32))), .val (.ref pp), .val (.ref qq), .val (.ref rr), .val (.int bpq), .val (.int bqp), .val (.int bqr), .val (.int bpr), .val (.int bpp), .unset] [(.int (HMod.hMod (p2 &&& (2147483647 : Int32)) (5 : Int32))), (.int (HMod.hMod (p1 &&& (2147483647 : Int32)) (5 : Int32)))])) _
    refine XS.icmpNo X11.here hx rfl (hb hby at_91) rfl (feq hc91).1 ?_
    show Steps p.tables e below (T11.setTop (mkF m 94 #[.val (.int p1), .val (.int p2), .val (.int p3), .val (.int (HMod.hMod (p1 &&& (2147483647 : Int32)) (5 : Int32))), .val (.int (HMod.hMod (p2 &&& (2147483647 : Int32)) (5 : Int32))), .val (.int (HMod.hMod (p3 &&& (2147483647 : Int32)) (5 : Int32))), .val (.ref pp), .val (.ref qq), .val (.ref rr), .val (.int bpq), .val (.int bqp), .val (.int bqr), .val (.int bpr), .val (.int bpp), .unset] [])) _
    refine XS.iloadN X11.here hx rfl (hb hby at_94) rfl ?_
    show Steps p.tables e below (T11.setTop (mkF m 95 #[.val (.int p1), .val (.int p2), .val (.int p3), .val (.int (HMod.hMod (p1 &&& (2147483647 : Int32)) (5 : Int32))), .val (.int (HMod.hMod (p2 &&& (2147483647 : Int32)) (5 : Int32))), .val (.int (HMod.hMod (p3 &&& (2147483647 : Int32)) (5 : Int32))), .val (.ref pp), .val (.ref qq), .val (.ref rr), .val (.int bpq), .val (.int bqp), .val (.int bqr), .val (.int bpr), .val (.int bpp), .unset] [(.int (HMod.hMod (p1 &&& (2147483647 : Int32)) (5 : Int32)))])) _
    refine XS.iconst X11.here hx rfl (hb hby at_95) ?_
    show Steps p.tables e below (T11.setTop (mkF m 96 #[.val (.int p1), .val (.int p2), .val (.int p3), .val (.int (HMod.hMod (p1 &&& (2147483647 : Int32)) (5 : Int32))), .val (.int (HMod.hMod (p2 &&& (2147483647 : Int32)) (5 : Int32))), .val (.int (HMod.hMod (p3 &&& (2147483647 : Int32)) (5 : Int32))), .val (.ref pp), .val (.ref qq), .val (.ref rr), .val (.int bpq), .val (.int bqp), .val (.int bqr), .val (.int bpr), .val (.int bpp), .unset] [(.int (2 : Int32)), (.int (HMod.hMod (p1 &&& (2147483647 : Int32)) (5 : Int32)))])) _
    refine XS.icmpNo X11.here hx rfl (hb hby at_96) rfl (teq hc96).2 ?_
    show Steps p.tables e below (T11.setTop (mkF m 99 #[.val (.int p1), .val (.int p2), .val (.int p3), .val (.int (HMod.hMod (p1 &&& (2147483647 : Int32)) (5 : Int32))), .val (.int (HMod.hMod (p2 &&& (2147483647 : Int32)) (5 : Int32))), .val (.int (HMod.hMod (p3 &&& (2147483647 : Int32)) (5 : Int32))), .val (.ref pp), .val (.ref qq), .val (.ref rr), .val (.int bpq), .val (.int bqp), .val (.int bqr), .val (.int bpr), .val (.int bpp), .unset] [])) _
    refine XS.iload X11.here hx rfl (hb hby at_99) rfl ?_
    show Steps p.tables e below (T11.setTop (mkF m 101 #[.val (.int p1), .val (.int p2), .val (.int p3), .val (.int (HMod.hMod (p1 &&& (2147483647 : Int32)) (5 : Int32))), .val (.int (HMod.hMod (p2 &&& (2147483647 : Int32)) (5 : Int32))), .val (.int (HMod.hMod (p3 &&& (2147483647 : Int32)) (5 : Int32))), .val (.ref pp), .val (.ref qq), .val (.ref rr), .val (.int bpq), .val (.int bqp), .val (.int bqr), .val (.int bpr), .val (.int bpp), .unset] [(.int (HMod.hMod (p2 &&& (2147483647 : Int32)) (5 : Int32)))])) _
    refine XS.iconst X11.here hx rfl (hb hby at_101) ?_
    show Steps p.tables e below (T11.setTop (mkF m 102 #[.val (.int p1), .val (.int p2), .val (.int p3), .val (.int (HMod.hMod (p1 &&& (2147483647 : Int32)) (5 : Int32))), .val (.int (HMod.hMod (p2 &&& (2147483647 : Int32)) (5 : Int32))), .val (.int (HMod.hMod (p3 &&& (2147483647 : Int32)) (5 : Int32))), .val (.ref pp), .val (.ref qq), .val (.ref rr), .val (.int bpq), .val (.int bqp), .val (.int bqr), .val (.int bpr), .val (.int bpp), .unset] [(.int (1 : Int32)), (.int (HMod.hMod (p2 &&& (2147483647 : Int32)) (5 : Int32)))])) _
    refine XS.icmpNo X11.here hx rfl (hb hby at_102) rfl (teq hc102).2 ?_
    show Steps p.tables e below (T11.setTop (mkF m 105 #[.val (.int p1), .val (.int p2), .val (.int p3), .val (.int (HMod.hMod (p1 &&& (2147483647 : Int32)) (5 : Int32))), .val (.int (HMod.hMod (p2 &&& (2147483647 : Int32)) (5 : Int32))), .val (.int (HMod.hMod (p3 &&& (2147483647 : Int32)) (5 : Int32))), .val (.ref pp), .val (.ref qq), .val (.ref rr), .val (.int bpq), .val (.int bqp), .val (.int bqr), .val (.int bpr), .val (.int bpp), .unset] [])) _
    refine XS.iconst X11.here hx rfl (hb hby at_105) ?_
    show Steps p.tables e below (T11.setTop (mkF m 106 #[.val (.int p1), .val (.int p2), .val (.int p3), .val (.int (HMod.hMod (p1 &&& (2147483647 : Int32)) (5 : Int32))), .val (.int (HMod.hMod (p2 &&& (2147483647 : Int32)) (5 : Int32))), .val (.int (HMod.hMod (p3 &&& (2147483647 : Int32)) (5 : Int32))), .val (.ref pp), .val (.ref qq), .val (.ref rr), .val (.int bpq), .val (.int bqp), .val (.int bqr), .val (.int bpr), .val (.int bpp), .unset] [(.int (1 : Int32))])) _
    refine XS.goto X11.here hx rfl (pc0 := 106) (pc' := 110) rfl (hb hby at_106) (by decide) (by decide) ?_
    show Steps p.tables e below (T11.setTop (mkF m 110 #[.val (.int p1), .val (.int p2), .val (.int p3), .val (.int (HMod.hMod (p1 &&& (2147483647 : Int32)) (5 : Int32))), .val (.int (HMod.hMod (p2 &&& (2147483647 : Int32)) (5 : Int32))), .val (.int (HMod.hMod (p3 &&& (2147483647 : Int32)) (5 : Int32))), .val (.ref pp), .val (.ref qq), .val (.ref rr), .val (.int bpq), .val (.int bqp), .val (.int bqr), .val (.int bpr), .val (.int bpp), .unset] [(.int (1 : Int32))])) _
    refine XS.istore X11.here hx rfl (hb hby at_110) rfl (l' := #[.val (.int p1), .val (.int p2), .val (.int p3), .val (.int (HMod.hMod (p1 &&& (2147483647 : Int32)) (5 : Int32))), .val (.int (HMod.hMod (p2 &&& (2147483647 : Int32)) (5 : Int32))), .val (.int (HMod.hMod (p3 &&& (2147483647 : Int32)) (5 : Int32))), .val (.ref pp), .val (.ref qq), .val (.ref rr), .val (.int bpq), .val (.int bqp), .val (.int bqr), .val (.int bpr), .val (.int bpp), .val (.int (1 : Int32))]) rfl ?_
    show Steps p.tables e below (T11.setTop (mkF m 112 #[.val (.int p1), .val (.int p2), .val (.int p3), .val (.int (HMod.hMod (p1 &&& (2147483647 : Int32)) (5 : Int32))), .val (.int (HMod.hMod (p2 &&& (2147483647 : Int32)) (5 : Int32))), .val (.int (HMod.hMod (p3 &&& (2147483647 : Int32)) (5 : Int32))), .val (.ref pp), .val (.ref qq), .val (.ref rr), .val (.int bpq), .val (.int bqp), .val (.int bqr), .val (.int bpr), .val (.int bpp), .val (.int (1 : Int32))] [])) _
    refine XS.iload X11.here hx rfl (hb hby at_112) rfl ?_
    show Steps p.tables e below (T11.setTop (mkF m 114 #[.val (.int p1), .val (.int p2), .val (.int p3), .val (.int (HMod.hMod (p1 &&& (2147483647 : Int32)) (5 : Int32))), .val (.int (HMod.hMod (p2 &&& (2147483647 : Int32)) (5 : Int32))), .val (.int (HMod.hMod (p3 &&& (2147483647 : Int32)) (5 : Int32))), .val (.ref pp), .val (.ref qq), .val (.ref rr), .val (.int bpq), .val (.int bqp), .val (.int bqr), .val (.int bpr), .val (.int bpp), .val (.int (1 : Int32))] [(.int bpq)])) _
    refine XS.iload X11.here hx rfl (hb hby at_114) rfl ?_
    show Steps p.tables e below (T11.setTop (mkF m 116 #[.val (.int p1), .val (.int p2), .val (.int p3), .val (.int (HMod.hMod (p1 &&& (2147483647 : Int32)) (5 : Int32))), .val (.int (HMod.hMod (p2 &&& (2147483647 : Int32)) (5 : Int32))), .val (.int (HMod.hMod (p3 &&& (2147483647 : Int32)) (5 : Int32))), .val (.ref pp), .val (.ref qq), .val (.ref rr), .val (.int bpq), .val (.int bqp), .val (.int bqr), .val (.int bpr), .val (.int bpp), .val (.int (1 : Int32))] [(.int (1 : Int32)), (.int bpq)])) _
    refine XS.icmpYes X11.here hx rfl (pc0 := 116) (pc' := 121) rfl (hb hby at_116) rfl (teq hx1).1 (by decide) (by decide) ?_
    show Steps p.tables e below (T11.setTop (mkF m 121 #[.val (.int p1), .val (.int p2), .val (.int p3), .val (.int (HMod.hMod (p1 &&& (2147483647 : Int32)) (5 : Int32))), .val (.int (HMod.hMod (p2 &&& (2147483647 : Int32)) (5 : Int32))), .val (.int (HMod.hMod (p3 &&& (2147483647 : Int32)) (5 : Int32))), .val (.ref pp), .val (.ref qq), .val (.ref rr), .val (.int bpq), .val (.int bqp), .val (.int bqr), .val (.int bpr), .val (.int bpp), .val (.int (1 : Int32))] [])) _
    refine XS.iload X11.here hx rfl (hb hby at_121) rfl ?_
    show Steps p.tables e below (T11.setTop (mkF m 123 #[.val (.int p1), .val (.int p2), .val (.int p3), .val (.int (HMod.hMod (p1 &&& (2147483647 : Int32)) (5 : Int32))), .val (.int (HMod.hMod (p2 &&& (2147483647 : Int32)) (5 : Int32))), .val (.int (HMod.hMod (p3 &&& (2147483647 : Int32)) (5 : Int32))), .val (.ref pp), .val (.ref qq), .val (.ref rr), .val (.int bpq), .val (.int bqp), .val (.int bqr), .val (.int bpr), .val (.int bpp), .val (.int (1 : Int32))] [(.int bpp)])) _
    refine XS.ifYes X11.here hx rfl (pc0 := 123) (pc' := 128) rfl (hb hby at_123) rfl ((if0 _ _).trans (feq hx2).2) (by decide) (by decide) ?_
    show Steps p.tables e below (T11.setTop (mkF m 128 #[.val (.int p1), .val (.int p2), .val (.int p3), .val (.int (HMod.hMod (p1 &&& (2147483647 : Int32)) (5 : Int32))), .val (.int (HMod.hMod (p2 &&& (2147483647 : Int32)) (5 : Int32))), .val (.int (HMod.hMod (p3 &&& (2147483647 : Int32)) (5 : Int32))), .val (.ref pp), .val (.ref qq), .val (.ref rr), .val (.int bpq), .val (.int bqp), .val (.int bqr), .val (.int bpr), .val (.int bpp), .val (.int (1 : Int32))] [])) _
    refine XS.iload X11.here hx rfl (hb hby at_128) rfl ?_
    show Steps p.tables e below (T11.setTop (mkF m 130 #[.val (.int p1), .val (.int p2), .val (.int p3), .val (.int (HMod.hMod (p1 &&& (2147483647 : Int32)) (5 : Int32))), .val (.int (HMod.hMod (p2 &&& (2147483647 : Int32)) (5 : Int32))), .val (.int (HMod.hMod (p3 &&& (2147483647 : Int32)) (5 : Int32))), .val (.ref pp), .val (.ref qq), .val (.ref rr), .val (.int bpq), .val (.int bqp), .val (.int bqr), .val (.int bpr), .val (.int bpp), .val (.int (1 : Int32))] [(.int bpq)])) _
    refine XS.ifNo X11.here hx rfl (hb hby at_130) rfl ((if0 _ _).trans (feq hx3).1) ?_
    show Steps p.tables e below (T11.setTop (mkF m 133 #[.val (.int p1), .val (.int p2), .val (.int p3), .val (.int (HMod.hMod (p1 &&& (2147483647 : Int32)) (5 : Int32))), .val (.int (HMod.hMod (p2 &&& (2147483647 : Int32)) (5 : Int32))), .val (.int (HMod.hMod (p3 &&& (2147483647 : Int32)) (5 : Int32))), .val (.ref pp), .val (.ref qq), .val (.ref rr), .val (.int bpq), .val (.int bqp), .val (.int bqr), .val (.int bpr), .val (.int bpp), .val (.int (1 : Int32))] [])) _
    refine XS.iload X11.here hx rfl (hb hby at_133) rfl ?_
    show Steps p.tables e below (T11.setTop (mkF m 135 #[.val (.int p1), .val (.int p2), .val (.int p3), .val (.int (HMod.hMod (p1 &&& (2147483647 : Int32)) (5 : Int32))), .val (.int (HMod.hMod (p2 &&& (2147483647 : Int32)) (5 : Int32))), .val (.int (HMod.hMod (p3 &&& (2147483647 : Int32)) (5 : Int32))), .val (.ref pp), .val (.ref qq), .val (.ref rr), .val (.int bpq), .val (.int bqp), .val (.int bqr), .val (.int bpr), .val (.int bpp), .val (.int (1 : Int32))] [(.int bqp)])) _
    refine XS.ifYes X11.here hx rfl (pc0 := 135) (pc' := 147) rfl (hb hby at_135) rfl ((if0 _ _).trans (teq hx4).1) (by decide) (by decide) ?_
    show Steps p.tables e below (T11.setTop (mkF m 147 #[.val (.int p1), .val (.int p2), .val (.int p3), .val (.int (HMod.hMod (p1 &&& (2147483647 : Int32)) (5 : Int32))), .val (.int (HMod.hMod (p2 &&& (2147483647 : Int32)) (5 : Int32))), .val (.int (HMod.hMod (p3 &&& (2147483647 : Int32)) (5 : Int32))), .val (.ref pp), .val (.ref qq), .val (.ref rr), .val (.int bpq), .val (.int bqp), .val (.int bqr), .val (.int bpr), .val (.int bpp), .val (.int (1 : Int32))] [])) _
    refine XS.iload X11.here hx rfl (hb hby at_147) rfl ?_
    show Steps p.tables e below (T11.setTop (mkF m 149 #[.val (.int p1), .val (.int p2), .val (.int p3), .val (.int (HMod.hMod (p1 &&& (2147483647 : Int32)) (5 : Int32))), .val (.int (HMod.hMod (p2 &&& (2147483647 : Int32)) (5 : Int32))), .val (.int (HMod.hMod (p3 &&& (2147483647 : Int32)) (5 : Int32))), .val (.ref pp), .val (.ref qq), .val (.ref rr), .val (.int bpq), .val (.int bqp), .val (.int bqr), .val (.int bpr), .val (.int bpp), .val (.int (1 : Int32))] [(.int bpq)])) _
    refine XS.ifNo X11.here hx rfl (hb hby at_149) rfl ((if0 _ _).trans (feq hx5).1) ?_
    show Steps p.tables e below (T11.setTop (mkF m 152 #[.val (.int p1), .val (.int p2), .val (.int p3), .val (.int (HMod.hMod (p1 &&& (2147483647 : Int32)) (5 : Int32))), .val (.int (HMod.hMod (p2 &&& (2147483647 : Int32)) (5 : Int32))), .val (.int (HMod.hMod (p3 &&& (2147483647 : Int32)) (5 : Int32))), .val (.ref pp), .val (.ref qq), .val (.ref rr), .val (.int bpq), .val (.int bqp), .val (.int bqr), .val (.int bpr), .val (.int bpp), .val (.int (1 : Int32))] [])) _
    refine XS.iload X11.here hx rfl (hb hby at_152) rfl ?_
    show Steps p.tables e below (T11.setTop (mkF m 154 #[.val (.int p1), .val (.int p2), .val (.int p3), .val (.int (HMod.hMod (p1 &&& (2147483647 : Int32)) (5 : Int32))), .val (.int (HMod.hMod (p2 &&& (2147483647 : Int32)) (5 : Int32))), .val (.int (HMod.hMod (p3 &&& (2147483647 : Int32)) (5 : Int32))), .val (.ref pp), .val (.ref qq), .val (.ref rr), .val (.int bpq), .val (.int bqp), .val (.int bqr), .val (.int bpr), .val (.int bpp), .val (.int (1 : Int32))] [(.int bqr)])) _
    refine XS.ifNo X11.here hx rfl (hb hby at_154) rfl ((if0 _ _).trans (feq hx6).1) ?_
    show Steps p.tables e below (T11.setTop (mkF m 157 #[.val (.int p1), .val (.int p2), .val (.int p3), .val (.int (HMod.hMod (p1 &&& (2147483647 : Int32)) (5 : Int32))), .val (.int (HMod.hMod (p2 &&& (2147483647 : Int32)) (5 : Int32))), .val (.int (HMod.hMod (p3 &&& (2147483647 : Int32)) (5 : Int32))), .val (.ref pp), .val (.ref qq), .val (.ref rr), .val (.int bpq), .val (.int bqp), .val (.int bqr), .val (.int bpr), .val (.int bpp), .val (.int (1 : Int32))] [])) _
    refine XS.iload X11.here hx rfl (hb hby at_157) rfl ?_
    show Steps p.tables e below (T11.setTop (mkF m 159 #[.val (.int p1), .val (.int p2), .val (.int p3), .val (.int (HMod.hMod (p1 &&& (2147483647 : Int32)) (5 : Int32))), .val (.int (HMod.hMod (p2 &&& (2147483647 : Int32)) (5 : Int32))), .val (.int (HMod.hMod (p3 &&& (2147483647 : Int32)) (5 : Int32))), .val (.ref pp), .val (.ref qq), .val (.ref rr), .val (.int bpq), .val (.int bqp), .val (.int bqr), .val (.int bpr), .val (.int bpp), .val (.int (1 : Int32))] [(.int bpr)])) _
    refine XS.ifYes X11.here hx rfl (pc0 := 159) (pc' := 164) rfl (hb hby at_159) rfl ((if0 _ _).trans (feq hx7).2) (by decide) (by decide) ?_
    show Steps p.tables e below (T11.setTop (mkF m 164 #[.val (.int p1), .val (.int p2), .val (.int p3), .val (.int (HMod.hMod (p1 &&& (2147483647 : Int32)) (5 : Int32))), .val (.int (HMod.hMod (p2 &&& (2147483647 : Int32)) (5 : Int32))), .val (.int (HMod.hMod (p3 &&& (2147483647 : Int32)) (5 : Int32))), .val (.ref pp), .val (.ref qq), .val (.ref rr), .val (.int bpq), .val (.int bqp), .val (.int bqr), .val (.int bpr), .val (.int bpp), .val (.int (1 : Int32))] [])) _
    refine XS.iconst X11.here hx rfl (hb hby at_164) ?_
    show Steps p.tables e below (T11.setTop (mkF m 165 #[.val (.int p1), .val (.int p2), .val (.int p3), .val (.int (HMod.hMod (p1 &&& (2147483647 : Int32)) (5 : Int32))), .val (.int (HMod.hMod (p2 &&& (2147483647 : Int32)) (5 : Int32))), .val (.int (HMod.hMod (p3 &&& (2147483647 : Int32)) (5 : Int32))), .val (.ref pp), .val (.ref qq), .val (.ref rr), .val (.int bpq), .val (.int bqp), .val (.int bqr), .val (.int bpr), .val (.int bpp), .val (.int (1 : Int32))] [(.int (1 : Int32))])) _
    exact retN X11 hx (t := .boolean) Bd.returns (by simp) (hb hby at_165) hr
  · show Q0D2 Z p1 p2 p3 h0 n0 _ T11.heap _
    exact ⟨rfl, N11⟩
theorem own_mod (x : Int32) {m : Int32} (hm : 0 < m.toInt) : ¬ ((HMod.hMod (x &&& (2147483647 : Int32)) m) < 0) ∧ (HMod.hMod (x &&& (2147483647 : Int32)) m) < m := by
  have h := (c_and x (2147483647 : Int32) (by decide)).1
  have e0 : (0 : Int32).toInt = 0 := rfl
  rw [Int32.lt_iff_toInt_lt, Int32.lt_iff_toInt_lt, Int32.toInt_mod, e0]
  generalize (x &&& (2147483647 : Int32)).toInt = a at *
  generalize m.toInt = b at *
  rw [Int.tmod_eq_emod_of_nonneg h]
  have h1 := Int.emod_nonneg a (b := b) (by omega)
  have h2 := Int.emod_lt_of_pos a hm
  omega
theorem own_five {y : Int32} (h0 : ¬ y < 0) (h1 : y < 5) : y = 0 ∨ y = 1 ∨ y = 2 ∨ y = 3 ∨ y = 4 := by
  rw [Int32.lt_iff_toInt_lt] at h0 h1
  have e0 : (0 : Int32).toInt = 0 := rfl
  have e1 : (1 : Int32).toInt = 1 := rfl
  have e2 : (2 : Int32).toInt = 2 := rfl
  have e3 : (3 : Int32).toInt = 3 := rfl
  have e4 : (4 : Int32).toInt = 4 := rfl
  have e5 : (5 : Int32).toInt = 5 := rfl
  simp only [← Int32.toInt_inj, e0, e1, e2, e3, e4]
  omega
theorem own_dom {a b c d e p q : Addr} {y z : Int32} (h1 : a ≠ b) (h2 : a ≠ c) (h3 : a ≠ d) (h4 : a ≠ e) (h5 : b ≠ c) (h6 : b ≠ d) (h7 : b ≠ e) (h8 : c ≠ d) (h9 : c ≠ e) (h10 : d ≠ e)
   (hp : (y = 0 ∧ p = a) ∨ (y = 1 ∧ p = b) ∨ (y = 2 ∧ p = c) ∨ (y = 3 ∧ p = d) ∨ (y = 4 ∧ p = e)) (hq : (z = 0 ∧ q = a) ∨ (z = 1 ∧ q = b) ∨ (z = 2 ∧ q = c) ∨ (z = 3 ∧ q = d) ∨ (z = 4 ∧ q = e)) : (p = q ↔ y = z) := by
  rcases hp with ⟨rfl, rfl⟩ | ⟨rfl, rfl⟩ | ⟨rfl, rfl⟩ | ⟨rfl, rfl⟩ | ⟨rfl, rfl⟩ <;> rcases hq with ⟨rfl, rfl⟩ | ⟨rfl, rfl⟩ | ⟨rfl, rfl⟩ | ⟨rfl, rfl⟩ | ⟨rfl, rfl⟩ <;> simp_all [eq_comm]
set_option maxRecDepth 65536 in
set_option maxHeartbeats 40000000 in
theorem comes_1 {Post : Tables → Env → Array Value → State → Outcome → State → Prop} (hpost : ∀ tb e args s v u, (limb_1_1.after args s (.returned v) u = true ∧ limb_1_2.after args s (.returned v) u = true ∧ True) → FrameEnd s (.returned v) u (Jvm.fieldLocs frame_1_writes args s ++ Jvm.arrayLocs frame_1_arrays args s ++ Jvm.staticLocs frame_1_statics s) 16 128 → Post tb e args s (.returned v) u) :
    ArmFor flags0 classFile x code maxLocals ret World_1 tables_1 room_1 Calls_1 rest_1 Pre_1 Post := by
  intro l hfl _ _ p e ha hc hk s m args below hf hA hF happ hP
  obtain ⟨hcalls, hrest, hpre⟩ := hP
  obtain ⟨-, -, -, hnamed, -, -, -, hat⟩ := (Spec.applies_iff hf).mp happ
  obtain ⟨hg, hn⟩ := and_e (Cond.before_iff.mp (show (Jvm.Cond.and given_1 narrow_1).before args s = true from hpre))
  obtain ⟨g12, g13⟩ := and_e hg
  obtain ⟨g14, g15⟩ := and_e g13
  obtain ⟨g16, g17⟩ := and_e g15
  obtain ⟨w0, w1, w2, rfl⟩ : ∃ w0 w1 w2 : Value, args = #[w0, w1, w2] := by
    have hs : args.size = 3 := by simpa [Cond.value, given_1] using g12
    obtain ⟨L⟩ := args
    match L, hs with
    | [w0, w1, w2], _ => exact ⟨w0, w1, w2, rfl⟩
  have hw := fun d (hd : d ∈ tables_1) => atoms_spec (ws := Jvm.Cond.code x code maxLocals ret :: tables_1) hat d (List.mem_cons_of_mem _ hd)
  have hfit : Fit s := fun {y c} hc i hi => by
    obtain ⟨ha, rfl⟩ := Array.getElem?_eq_some_iff.mp hc
    have q := List.all_eq_true.mp ((Array.all_eq_true_iff_forall_mem.mp hF) _ (Array.getElem_mem ha)) i (List.mem_range.mpr hi)
    simpa [Array.getElem?_eq_getElem hi] using q
  obtain ⟨i0, ei0⟩ := is_v g14
  obtain rfl : w0 = (.int i0) := Option.some.inj ei0
  obtain ⟨i1, ei1⟩ := is_v g16
  obtain rfl : w1 = (.int i1) := Option.some.inj ei1
  obtain ⟨i2, ei2⟩ := is_v g17
  obtain rfl : w2 = (.int i2) := Option.some.inj ei2
  obtain ⟨n0, hn⟩ := and_e hn
  obtain ⟨n1, hn⟩ := and_e hn
  obtain ⟨n2, hn⟩ := and_e hn
  obtain ⟨n3, n4⟩ := and_e hn
  obtain ⟨a_STRING, e_STRING⟩ := exa_v n0
  have E_STRING := Exa.start e_STRING n0
  have S_STRING := Sta.start e_STRING (Or.inr ⟨(hw _ (List.mem_of_getElem? (i := 8) rfl)), (hw _ (List.mem_of_getElem? (i := 9) rfl))⟩)
  obtain ⟨a_INTEGER, e_INTEGER⟩ := exa_v n1
  have E_INTEGER := Exa.start e_INTEGER n1
  have S_INTEGER := Sta.start e_INTEGER (Or.inr ⟨(hw _ (List.mem_of_getElem? (i := 8) rfl)), (hw _ (List.mem_of_getElem? (i := 12) rfl))⟩)
  obtain ⟨a_DECIMAL, e_DECIMAL⟩ := exa_v n2
  have E_DECIMAL := Exa.start e_DECIMAL n2
  have S_DECIMAL := Sta.start e_DECIMAL (Or.inr ⟨(hw _ (List.mem_of_getElem? (i := 8) rfl)), (hw _ (List.mem_of_getElem? (i := 15) rfl))⟩)
  obtain ⟨a_BOOLEAN, e_BOOLEAN⟩ := exa_v n3
  have E_BOOLEAN := Exa.start e_BOOLEAN n3
  have S_BOOLEAN := Sta.start e_BOOLEAN (Or.inr ⟨(hw _ (List.mem_of_getElem? (i := 8) rfl)), (hw _ (List.mem_of_getElem? (i := 18) rfl))⟩)
  obtain ⟨a_DATETIME, e_DATETIME⟩ := exa_v n4
  have E_DATETIME := Exa.start e_DATETIME n4
  have S_DATETIME := Sta.start e_DATETIME (Or.inr ⟨(hw _ (List.mem_of_getElem? (i := 8) rfl)), (hw _ (List.mem_of_getElem? (i := 21) rfl))⟩)
  have pk : ∀ y : Int32, ¬ y < 0 → y < 5 → ∃ (p : Addr) (K : String), Exa s s.heap p K ∧ (Jvm.Cond.selects K (⟨"com/example/nereus/nereus/Domain", "includes", "(Lcom/example/nereus/nereus/Domain;)Z"⟩ : MethodName) (⟨"com/example/nereus/nereus/Domain", "includes", "(Lcom/example/nereus/nereus/Domain;)Z"⟩ : MethodName)).before #[.int i0, .int i1, .int i2] s = true ∧ ([.ref a_STRING, .ref a_INTEGER, .ref a_DECIMAL, .ref a_BOOLEAN, .ref a_DATETIME] : List Value).getD y.toNatClampNeg .null = .ref p ∧ ((y = 0 ∧ p = a_STRING) ∨ (y = 1 ∧ p = a_INTEGER) ∨ (y = 2 ∧ p = a_DECIMAL) ∨ (y = 3 ∧ p = a_BOOLEAN) ∨ (y = 4 ∧ p = a_DATETIME)) := by
    intro y h0 h1
    rcases own_five h0 h1 with rfl | rfl | rfl | rfl | rfl
    · exact ⟨a_STRING, _, E_STRING, (hw _ (List.mem_of_getElem? (i := 26) rfl)), rfl, by simp⟩
    · exact ⟨a_INTEGER, _, E_INTEGER, (hw _ (List.mem_of_getElem? (i := 30) rfl)), rfl, by simp⟩
    · exact ⟨a_DECIMAL, _, E_DECIMAL, (hw _ (List.mem_of_getElem? (i := 31) rfl)), rfl, by simp⟩
    · exact ⟨a_BOOLEAN, _, E_BOOLEAN, (hw _ (List.mem_of_getElem? (i := 29) rfl)), rfl, by simp⟩
    · exact ⟨a_DATETIME, _, E_DATETIME, (hw _ (List.mem_of_getElem? (i := 33) rfl)), rfl, by simp⟩
  have d01 : a_STRING ≠ a_INTEGER := ne_exa E_STRING E_INTEGER (by decide)
  have d02 : a_STRING ≠ a_DECIMAL := ne_exa E_STRING E_DECIMAL (by decide)
  have d03 : a_STRING ≠ a_BOOLEAN := ne_exa E_STRING E_BOOLEAN (by decide)
  have d04 : a_STRING ≠ a_DATETIME := ne_exa E_STRING E_DATETIME (by decide)
  have d12 : a_INTEGER ≠ a_DECIMAL := ne_exa E_INTEGER E_DECIMAL (by decide)
  have d13 : a_INTEGER ≠ a_BOOLEAN := ne_exa E_INTEGER E_BOOLEAN (by decide)
  have d14 : a_INTEGER ≠ a_DATETIME := ne_exa E_INTEGER E_DATETIME (by decide)
  have d23 : a_DECIMAL ≠ a_BOOLEAN := ne_exa E_DECIMAL E_BOOLEAN (by decide)
  have d24 : a_DECIMAL ≠ a_DATETIME := ne_exa E_DECIMAL E_DATETIME (by decide)
  have d34 : a_BOOLEAN ≠ a_DATETIME := ne_exa E_BOOLEAN E_DATETIME (by decide)
  obtain ⟨n1, m1⟩ := own_mod i0 (m := 5) (by decide)
  obtain ⟨pp, Cpp, E_pp, s_pp, v1, D_pp⟩ := pk (HMod.hMod (i0 &&& (2147483647 : Int32)) (5 : Int32)) n1 m1
  obtain ⟨n2, m2⟩ := own_mod i1 (m := 5) (by decide)
  obtain ⟨qq, Cqq, E_qq, s_qq, v2, D_qq⟩ := pk (HMod.hMod (i1 &&& (2147483647 : Int32)) (5 : Int32)) n2 m2
  obtain ⟨n3, m3⟩ := own_mod i2 (m := 5) (by decide)
  obtain ⟨rr, Crr, E_rr, s_rr, v3, D_rr⟩ := pk (HMod.hMod (i2 &&& (2147483647 : Int32)) (5 : Int32)) n3 m3
  have ipq := own_dom d01 d02 d03 d04 d12 d13 d14 d23 d24 d34 D_pp D_qq
  have ip2 := own_dom d01 d02 d03 d04 d12 d13 d14 d23 d24 d34 D_pp (q := a_DECIMAL) (z := 2) (by simp)
  have iq1 := own_dom d01 d02 d03 d04 d12 d13 d14 d23 d24 d34 D_qq (q := a_INTEGER) (z := 1) (by simp)
  by_cases hc91 : (HMod.hMod (i0 &&& (2147483647 : Int32)) (5 : Int32)) = (HMod.hMod (i1 &&& (2147483647 : Int32)) (5 : Int32))
  · have hpq : pp = qq := ipq.mpr hc91
    by_cases hqr : (qq = rr ∨ (qq = a_DECIMAL ∧ rr = a_INTEGER))
    · have hpr : (pp = rr ∨ (pp = a_DECIMAL ∧ rr = a_INTEGER)) := by rw [hpq]; exact hqr
      obtain ⟨n, o, h1, h2, h3, _, L, rfl, ⟨rfl, N⟩, hq⟩ := rm0A2 l s _ hw tables_1 i0 i1 i2 a_STRING a_INTEGER a_DECIMAL a_BOOLEAN a_DATETIME pp qq rr Cpp Cqq (if (pp = qq ∨ (pp = a_DECIMAL ∧ qq = a_INTEGER)) then (1 : Int32) else 0) (if (qq = pp ∨ (qq = a_DECIMAL ∧ pp = a_INTEGER)) then (1 : Int32) else 0) (if (qq = rr ∨ (qq = a_DECIMAL ∧ rr = a_INTEGER)) then (1 : Int32) else 0) (if (pp = rr ∨ (pp = a_DECIMAL ∧ rr = a_INTEGER)) then (1 : Int32) else 0) (if (pp = pp ∨ (pp = a_DECIMAL ∧ pp = a_INTEGER)) then (1 : Int32) else 0) s.heap s.heap.size (Nat.le_refl _) S_STRING S_INTEGER S_DECIMAL S_BOOLEAN S_DATETIME E_STRING E_INTEGER E_DECIMAL E_BOOLEAN E_DATETIME E_pp E_qq s_pp s_qq n1 m1 v1 n2 m2 v2 n3 m3 v3 (fun q => if_pos q) (fun q => if_neg q) (fun q => if_pos q) (fun q => if_neg q) (fun q => if_pos q) (fun q => if_neg q) (fun q => if_pos q) (fun q => if_neg q) (fun q => if_pos q) (fun q => if_neg q) (if_pos (Or.inl hpq)) (by rw [if_pos (Or.inl rfl)]; decide) (by rw [if_pos (Or.inl hpq)]; decide) (by rw [if_pos (Or.inl hpq.symm)]; decide) (by rw [if_pos (Or.inl hpq)]; decide) (by rw [if_pos hqr]; decide) (by rw [if_pos hpr]; decide) hc91 hpq p e ha hc hk s m _ below hf ((Spec.applies_iff_loose hf).mp happ).1 ⟨rfl, State.Warmed39.refl s, rfl⟩ trivial
      refine ⟨n, _, h1, h2, h3, hpost _ _ _ _ _ _ ⟨Cond.after_iff.mpr rfl, Cond.after_iff.mpr (eq_i res_at (Term.int_eval (1)) rfl), trivial⟩ ⟨hq.1, hq.2.1, (hq.2.2.sift fun y hy => Or.inr (N y hy)).mono (by decide) (by decide)⟩⟩
    · obtain ⟨n, o, h1, h2, h3, _, L, rfl, ⟨rfl, N⟩, hq⟩ := rm0A1 l s _ hw tables_1 i0 i1 i2 a_STRING a_INTEGER a_DECIMAL a_BOOLEAN a_DATETIME pp qq rr Cpp Cqq (if (pp = qq ∨ (pp = a_DECIMAL ∧ qq = a_INTEGER)) then (1 : Int32) else 0) (if (qq = pp ∨ (qq = a_DECIMAL ∧ pp = a_INTEGER)) then (1 : Int32) else 0) (if (qq = rr ∨ (qq = a_DECIMAL ∧ rr = a_INTEGER)) then (1 : Int32) else 0) (if (pp = rr ∨ (pp = a_DECIMAL ∧ rr = a_INTEGER)) then (1 : Int32) else 0) (if (pp = pp ∨ (pp = a_DECIMAL ∧ pp = a_INTEGER)) then (1 : Int32) else 0) s.heap s.heap.size (Nat.le_refl _) S_STRING S_INTEGER S_DECIMAL S_BOOLEAN S_DATETIME E_STRING E_INTEGER E_DECIMAL E_BOOLEAN E_DATETIME E_pp E_qq s_pp s_qq n1 m1 v1 n2 m2 v2 n3 m3 v3 (fun q => if_pos q) (fun q => if_neg q) (fun q => if_pos q) (fun q => if_neg q) (fun q => if_pos q) (fun q => if_neg q) (fun q => if_pos q) (fun q => if_neg q) (fun q => if_pos q) (fun q => if_neg q) (if_pos (Or.inl hpq)) (by rw [if_pos (Or.inl rfl)]; decide) (by rw [if_pos (Or.inl hpq)]; decide) (by rw [if_pos (Or.inl hpq.symm)]; decide) (by rw [if_pos (Or.inl hpq)]; decide) (if_neg hqr) hc91 hpq p e ha hc hk s m _ below hf ((Spec.applies_iff_loose hf).mp happ).1 ⟨rfl, State.Warmed39.refl s, rfl⟩ trivial
      refine ⟨n, _, h1, h2, h3, hpost _ _ _ _ _ _ ⟨Cond.after_iff.mpr rfl, Cond.after_iff.mpr (eq_i res_at (Term.int_eval (1)) rfl), trivial⟩ ⟨hq.1, hq.2.1, (hq.2.2.sift fun y hy => Or.inr (N y hy)).mono (by decide) (by decide)⟩⟩
  · have hpq : ¬ (pp = qq) := fun q => hc91 (ipq.mp q)
    by_cases hc96 : (HMod.hMod (i0 &&& (2147483647 : Int32)) (5 : Int32)) = (2 : Int32)
    · by_cases hc102 : (HMod.hMod (i1 &&& (2147483647 : Int32)) (5 : Int32)) = (1 : Int32)
      · have h2 := ip2.mpr hc96
        have h1 := iq1.mpr hc102
        have tpq : (pp = qq ∨ (pp = a_DECIMAL ∧ qq = a_INTEGER)) := Or.inr ⟨h2, h1⟩
        have fqp : ¬ (qq = pp ∨ (qq = a_DECIMAL ∧ pp = a_INTEGER)) := fun q => q.elim (fun q => hpq q.symm) (fun q => d12 (h1.symm.trans q.1))
        by_cases hqr : (qq = rr ∨ (qq = a_DECIMAL ∧ rr = a_INTEGER))
        · have hpr : (pp = rr ∨ (pp = a_DECIMAL ∧ rr = a_INTEGER)) := Or.inr ⟨h2, hqr.elim (fun q => q.symm.trans h1) (fun q => q.2)⟩
          obtain ⟨n, o, h1, h2, h3, _, L, rfl, ⟨rfl, N⟩, hq⟩ := rm0D2 l s _ hw tables_1 i0 i1 i2 a_STRING a_INTEGER a_DECIMAL a_BOOLEAN a_DATETIME pp qq rr Cpp Cqq (if (pp = qq ∨ (pp = a_DECIMAL ∧ qq = a_INTEGER)) then (1 : Int32) else 0) (if (qq = pp ∨ (qq = a_DECIMAL ∧ pp = a_INTEGER)) then (1 : Int32) else 0) (if (qq = rr ∨ (qq = a_DECIMAL ∧ rr = a_INTEGER)) then (1 : Int32) else 0) (if (pp = rr ∨ (pp = a_DECIMAL ∧ rr = a_INTEGER)) then (1 : Int32) else 0) (if (pp = pp ∨ (pp = a_DECIMAL ∧ pp = a_INTEGER)) then (1 : Int32) else 0) s.heap s.heap.size (Nat.le_refl _) S_STRING S_INTEGER S_DECIMAL S_BOOLEAN S_DATETIME E_STRING E_INTEGER E_DECIMAL E_BOOLEAN E_DATETIME E_pp E_qq s_pp s_qq n1 m1 v1 n2 m2 v2 n3 m3 v3 (fun q => if_pos q) (fun q => if_neg q) (fun q => if_pos q) (fun q => if_neg q) (fun q => if_pos q) (fun q => if_neg q) (fun q => if_pos q) (fun q => if_neg q) (fun q => if_pos q) (fun q => if_neg q) (if_pos tpq) (by rw [if_pos (Or.inl rfl)]; decide) (by rw [if_pos tpq]; decide) (if_neg fqp) (by rw [if_pos tpq]; decide) (by rw [if_pos hqr]; decide) (by rw [if_pos hpr]; decide) hc91 hc96 hc102 p e ha hc hk s m _ below hf ((Spec.applies_iff_loose hf).mp happ).1 ⟨rfl, State.Warmed39.refl s, rfl⟩ trivial
          refine ⟨n, _, h1, h2, h3, hpost _ _ _ _ _ _ ⟨Cond.after_iff.mpr rfl, Cond.after_iff.mpr (eq_i res_at (Term.int_eval (1)) rfl), trivial⟩ ⟨hq.1, hq.2.1, (hq.2.2.sift fun y hy => Or.inr (N y hy)).mono (by decide) (by decide)⟩⟩
        · obtain ⟨n, o, h1, h2, h3, _, L, rfl, ⟨rfl, N⟩, hq⟩ := rm0D1 l s _ hw tables_1 i0 i1 i2 a_STRING a_INTEGER a_DECIMAL a_BOOLEAN a_DATETIME pp qq rr Cpp Cqq (if (pp = qq ∨ (pp = a_DECIMAL ∧ qq = a_INTEGER)) then (1 : Int32) else 0) (if (qq = pp ∨ (qq = a_DECIMAL ∧ pp = a_INTEGER)) then (1 : Int32) else 0) (if (qq = rr ∨ (qq = a_DECIMAL ∧ rr = a_INTEGER)) then (1 : Int32) else 0) (if (pp = rr ∨ (pp = a_DECIMAL ∧ rr = a_INTEGER)) then (1 : Int32) else 0) (if (pp = pp ∨ (pp = a_DECIMAL ∧ pp = a_INTEGER)) then (1 : Int32) else 0) s.heap s.heap.size (Nat.le_refl _) S_STRING S_INTEGER S_DECIMAL S_BOOLEAN S_DATETIME E_STRING E_INTEGER E_DECIMAL E_BOOLEAN E_DATETIME E_pp E_qq s_pp s_qq n1 m1 v1 n2 m2 v2 n3 m3 v3 (fun q => if_pos q) (fun q => if_neg q) (fun q => if_pos q) (fun q => if_neg q) (fun q => if_pos q) (fun q => if_neg q) (fun q => if_pos q) (fun q => if_neg q) (fun q => if_pos q) (fun q => if_neg q) (if_pos tpq) (by rw [if_pos (Or.inl rfl)]; decide) (by rw [if_pos tpq]; decide) (if_neg fqp) (by rw [if_pos tpq]; decide) (if_neg hqr) hc91 hc96 hc102 p e ha hc hk s m _ below hf ((Spec.applies_iff_loose hf).mp happ).1 ⟨rfl, State.Warmed39.refl s, rfl⟩ trivial
          refine ⟨n, _, h1, h2, h3, hpost _ _ _ _ _ _ ⟨Cond.after_iff.mpr rfl, Cond.after_iff.mpr (eq_i res_at (Term.int_eval (1)) rfl), trivial⟩ ⟨hq.1, hq.2.1, (hq.2.2.sift fun y hy => Or.inr (N y hy)).mono (by decide) (by decide)⟩⟩
      · have f : ¬ (pp = qq ∨ (pp = a_DECIMAL ∧ qq = a_INTEGER)) := fun q => q.elim hpq (fun q => hc102 (iq1.mp q.2))
        obtain ⟨n, o, h1, h2, h3, _, L, rfl, ⟨rfl, N⟩, hq⟩ := rm0C l s _ hw tables_1 i0 i1 i2 a_STRING a_INTEGER a_DECIMAL a_BOOLEAN a_DATETIME pp qq rr Cpp Cqq (if (pp = qq ∨ (pp = a_DECIMAL ∧ qq = a_INTEGER)) then (1 : Int32) else 0) (if (qq = pp ∨ (qq = a_DECIMAL ∧ pp = a_INTEGER)) then (1 : Int32) else 0) (if (qq = rr ∨ (qq = a_DECIMAL ∧ rr = a_INTEGER)) then (1 : Int32) else 0) (if (pp = rr ∨ (pp = a_DECIMAL ∧ rr = a_INTEGER)) then (1 : Int32) else 0) (if (pp = pp ∨ (pp = a_DECIMAL ∧ pp = a_INTEGER)) then (1 : Int32) else 0) s.heap s.heap.size (Nat.le_refl _) S_STRING S_INTEGER S_DECIMAL S_BOOLEAN S_DATETIME E_STRING E_INTEGER E_DECIMAL E_BOOLEAN E_DATETIME E_pp E_qq s_pp s_qq n1 m1 v1 n2 m2 v2 n3 m3 v3 (fun q => if_pos q) (fun q => if_neg q) (fun q => if_pos q) (fun q => if_neg q) (fun q => if_pos q) (fun q => if_neg q) (fun q => if_pos q) (fun q => if_neg q) (fun q => if_pos q) (fun q => if_neg q) (if_neg f) (by rw [if_pos (Or.inl rfl)]; decide) (if_neg f) (if_neg f) hc91 hc96 hc102 p e ha hc hk s m _ below hf ((Spec.applies_iff_loose hf).mp happ).1 ⟨rfl, State.Warmed39.refl s, rfl⟩ trivial
        refine ⟨n, _, h1, h2, h3, hpost _ _ _ _ _ _ ⟨Cond.after_iff.mpr rfl, Cond.after_iff.mpr (eq_i res_at (Term.int_eval (1)) rfl), trivial⟩ ⟨hq.1, hq.2.1, (hq.2.2.sift fun y hy => Or.inr (N y hy)).mono (by decide) (by decide)⟩⟩
    · have f : ¬ (pp = qq ∨ (pp = a_DECIMAL ∧ qq = a_INTEGER)) := fun q => q.elim hpq (fun q => hc96 (ip2.mp q.1))
      obtain ⟨n, o, h1, h2, h3, _, L, rfl, ⟨rfl, N⟩, hq⟩ := rm0B l s _ hw tables_1 i0 i1 i2 a_STRING a_INTEGER a_DECIMAL a_BOOLEAN a_DATETIME pp qq rr Cpp Cqq (if (pp = qq ∨ (pp = a_DECIMAL ∧ qq = a_INTEGER)) then (1 : Int32) else 0) (if (qq = pp ∨ (qq = a_DECIMAL ∧ pp = a_INTEGER)) then (1 : Int32) else 0) (if (qq = rr ∨ (qq = a_DECIMAL ∧ rr = a_INTEGER)) then (1 : Int32) else 0) (if (pp = rr ∨ (pp = a_DECIMAL ∧ rr = a_INTEGER)) then (1 : Int32) else 0) (if (pp = pp ∨ (pp = a_DECIMAL ∧ pp = a_INTEGER)) then (1 : Int32) else 0) s.heap s.heap.size (Nat.le_refl _) S_STRING S_INTEGER S_DECIMAL S_BOOLEAN S_DATETIME E_STRING E_INTEGER E_DECIMAL E_BOOLEAN E_DATETIME E_pp E_qq s_pp s_qq n1 m1 v1 n2 m2 v2 n3 m3 v3 (fun q => if_pos q) (fun q => if_neg q) (fun q => if_pos q) (fun q => if_neg q) (fun q => if_pos q) (fun q => if_neg q) (fun q => if_pos q) (fun q => if_neg q) (fun q => if_pos q) (fun q => if_neg q) (if_neg f) (by rw [if_pos (Or.inl rfl)]; decide) (if_neg f) (if_neg f) hc91 hc96 p e ha hc hk s m _ below hf ((Spec.applies_iff_loose hf).mp happ).1 ⟨rfl, State.Warmed39.refl s, rfl⟩ trivial
      refine ⟨n, _, h1, h2, h3, hpost _ _ _ _ _ _ ⟨Cond.after_iff.mpr rfl, Cond.after_iff.mpr (eq_i res_at (Term.int_eval (1)) rfl), trivial⟩ ⟨hq.1, hq.2.1, (hq.2.2.sift fun y hy => Or.inr (N y hy)).mono (by decide) (by decide)⟩⟩
theorem main_1_1 : Claimed_1_1 := comes_1 fun _ _ _ _ _ _ h hF => ⟨h.1, hF⟩
theorem main_1_2 : Claimed_1_2 := comes_1 fun _ _ _ _ _ _ h hF => ⟨h.2.1, hF⟩
end Jvm.Pilot.@@N@@
namespace Jvm.Pilot.@@N@@
open Jvm Jvm.ClassFile Sem Op Lib Jvm.Free Jvm.Stand Jvm.Pilot.@@N@@.Jvm.D
/-! MADE BY PROGRAM (witnessworld.py) out of the Statement's table words and the real class files: 18 classes; the members and pool entries that the words name. The judged class is class 1, her method 2. -/
namespace start1
open Jvm.ClassFile
def u (s : String) : CpInfo := .utf8 (stringToUtf16 s)
/-- a pool by its gaps: so many unusable entries, then the entry; so many at the end -/
def gap : Nat → List CpInfo → List CpInfo
  | 0, r => r
  | n + 1, r => .unusable :: gap n r
def poolList (es : List (Nat × CpInfo)) (last : Nat) : List CpInfo := es.foldr (fun e r => gap e.1 (e.2 :: r)) (gap last [])
def pool (es : List (Nat × CpInfo)) (last : Nat) : Array CpInfo := ⟨poolList es last⟩
def fileOf (pool : Array CpInfo) (this : Nat) (attrs : Array Attribute := #[]) (ms : Array MethodInfo := #[]) (fl : Nat := 33) (sup : Nat := 0) (ifs : Array Nat := #[]) (fds : Array FieldInfo := #[]) : ClassFile where
  minorVersion := 0
  majorVersion := 65
  constantPool := pool
  accessFlags := fl
  thisClass := this
  superClass := sup
  interfaces := ifs
  fields := fds
  methods := ms
  attributes := attrs
def plain (name : String) (sup : Option ClassId) : Class where
  name := name
  kind := .ordinary
  loader := none
  accessFlags := 33
  super := sup
  interfaces := #[]
  cf := none
  fields := #[]
  methods := #[]
  instanceTypes := #[]
  staticTypes := #[]
  resolved := #[]
  callSites := []
  init := .initialized
  statics := none
  mirror := none

def pool0 : Array CpInfo := pool [(5, u "<init>"), (0, u "()V"), (1, .class_ 10), (1, u "java/lang/Object")] 113

def k0m0 : Method := { name := "<init>", desc := "()V", sig := { parameters := [], returnType := none }, accessFlags := 1, code := none }
/-- java/lang/Object -/
def k0 : Class := { plain "java/lang/Object" none with
  accessFlags := 33
  interfaces := #[]
  cf := some (fileOf pool0 8 #[] #[{ accessFlags := 1, nameIndex := 5, descriptorIndex := 6, attributes := #[] }] 33 0 #[] #[])
  fields := #[]
  methods := #[k0m0]
  instanceTypes := #[]
  staticTypes := #[]
  resolved := Array.replicate 124 none
  statics := none }

def pool1 : Array CpInfo := pool [(2, .class_ 4), (1, u "java/lang/Object"), (0, u "<init>"), (0, u "()V"), (0, .class_ 8), (0, u "com/example/nereus/nereus/Domain"), (0, .fieldref 7 10), (0, .nameAndType 11 12), (0, u "STRING"), (0, u "Lcom/example/nereus/nereus/Domain;"), (0, .fieldref 7 14), (0, .nameAndType 15 12), (0, u "INTEGER"), (0, .fieldref 7 17), (0, .nameAndType 18 12), (0, u "DECIMAL"), (0, .fieldref 7 20), (0, .nameAndType 21 12), (0, u "BOOLEAN"), (0, .fieldref 7 23), (0, .nameAndType 24 12), (0, u "DATETIME"), (0, .integer 2147483647), (0, .methodref 27 28), (0, .class_ 29), (0, .nameAndType 30 31), (0, u "com/example/nereus/nereus/DomainIncludesPinLaw"), (0, u "pick"), (0, u "(I)Lcom/example/nereus/nereus/Domain;"), (0, .methodref 7 33), (0, .nameAndType 34 35), (0, u "includes"), (0, u "(Lcom/example/nereus/nereus/Domain;)Z"), (2, u "law"), (0, u "(III)Z")] 3

def k1m0 : Method := { name := "<init>", desc := "()V", sig := { parameters := [], returnType := none }, accessFlags := 1, code := none }
def k1c1 : Code := { maxStack := 4, maxLocals := 2, code := method_2_code, exceptionTable := #[], attributes := #[] }
def k1m1 : Method := { name := "pick", desc := "(I)Lcom/example/nereus/nereus/Domain;", sig := { parameters := [.int], returnType := some (.object "com/example/nereus/nereus/Domain") }, accessFlags := 10, code := some k1c1 }
def k1c2 : Code := { maxStack := 2, maxLocals := 15, code := code, exceptionTable := #[], attributes := #[] }
def k1m2 : Method := { name := "law", desc := "(III)Z", sig := { parameters := [.int, .int, .int], returnType := some .boolean }, accessFlags := 9, code := some k1c2 }
/-- com/example/nereus/nereus/DomainIncludesPinLaw -/
def k1 : Class := { plain "com/example/nereus/nereus/DomainIncludesPinLaw" (some 0) with
  accessFlags := 49
  interfaces := #[]
  cf := some (fileOf pool1 27 #[] #[{ accessFlags := 1, nameIndex := 5, descriptorIndex := 6, attributes := #[] }, { accessFlags := 10, nameIndex := 30, descriptorIndex := 31, attributes := #[] }, { accessFlags := 9, nameIndex := 38, descriptorIndex := 39, attributes := #[] }] 49 2 #[] #[])
  fields := #[]
  methods := #[k1m0, k1m1, k1m2]
  instanceTypes := #[]
  staticTypes := #[]
  resolved := Array.replicate 43 none
  statics := none }

def pool2 : Array CpInfo := pool [(1, .class_ 2), (0, u "java/lang/constant/Constable"), (0, .class_ 4), (0, u "java/lang/Object")] 6

/-- java/lang/constant/Constable -/
def k2 : Class := { plain "java/lang/constant/Constable" (some 0) with
  accessFlags := 1537
  interfaces := #[]
  cf := some (fileOf pool2 1 #[] #[] 1537 3 #[] #[])
  fields := #[]
  methods := #[]
  instanceTypes := #[]
  staticTypes := #[]
  resolved := Array.replicate 11 none
  statics := none }

def pool3 : Array CpInfo := pool [(1, .class_ 2), (0, u "java/lang/Comparable"), (0, .class_ 4), (0, u "java/lang/Object")] 7

/-- java/lang/Comparable -/
def k3 : Class := { plain "java/lang/Comparable" (some 0) with
  accessFlags := 1537
  interfaces := #[]
  cf := some (fileOf pool3 1 #[] #[] 1537 3 #[] #[])
  fields := #[]
  methods := #[]
  instanceTypes := #[]
  staticTypes := #[]
  resolved := Array.replicate 12 none
  statics := none }

def pool4 : Array CpInfo := pool [(1, .class_ 2), (0, u "java/io/Serializable"), (0, .class_ 4), (0, u "java/lang/Object")] 2

/-- java/io/Serializable -/
def k4 : Class := { plain "java/io/Serializable" (some 0) with
  accessFlags := 1537
  interfaces := #[]
  cf := some (fileOf pool4 1 #[] #[] 1537 3 #[] #[])
  fields := #[]
  methods := #[]
  instanceTypes := #[]
  staticTypes := #[]
  resolved := Array.replicate 7 none
  statics := none }

def pool5 : Array CpInfo := pool [(2, .class_ 4), (1, u "java/lang/Enum"), (0, u "name"), (0, u "Ljava/lang/String;"), (2, u "ordinal"), (0, u "I"), (1, .class_ 14), (1, u "java/lang/Object"), (4, u "hash"), (86, .class_ 108), (1, u "java/lang/Enum$EnumDesc"), (2, .class_ 112), (0, u "java/lang/constant/Constable"), (0, .class_ 114), (0, u "java/lang/Comparable"), (0, .class_ 116), (0, u "java/io/Serializable")] 87

/-- java/lang/Enum -/
def k5 : Class := { plain "java/lang/Enum" (some 0) with
  accessFlags := 1057
  interfaces := #[2, 3, 4]
  cf := some (fileOf pool5 2 #[.nestMembers #[106]] #[] 1057 12 #[111, 113, 115] #[{ accessFlags := 18, nameIndex := 5, descriptorIndex := 6, attributes := #[] }, { accessFlags := 18, nameIndex := 9, descriptorIndex := 10, attributes := #[] }, { accessFlags := 2, nameIndex := 19, descriptorIndex := 10, attributes := #[] }])
  fields := #[{ name := "name", type := (.object "java/lang/String"), accessFlags := 18, slot := 0, constantValue := 0 }, { name := "ordinal", type := .int, accessFlags := 18, slot := 1, constantValue := 0 }, { name := "hash", type := .int, accessFlags := 2, slot := 2, constantValue := 0 }]
  methods := #[]
  instanceTypes := #[(.object "java/lang/String"), .int, .int]
  staticTypes := #[]
  resolved := Array.replicate 204 none
  statics := none }

def pool6 : Array CpInfo := pool [(1, .class_ 2), (0, u "com/example/nereus/nereus/Domain"), (2, u "STRING"), (0, u "Lcom/example/nereus/nereus/Domain;"), (0, .fieldref 1 8), (0, .nameAndType 9 6), (0, u "INTEGER"), (0, .fieldref 1 11), (0, .nameAndType 12 6), (0, u "DECIMAL"), (2, u "BOOLEAN"), (2, u "DATETIME"), (2, u "$VALUES"), (0, u "[Lcom/example/nereus/nereus/Domain;"), (6, .class_ 31), (1, u "java/lang/Enum"), (8, u "text"), (0, u "Ljava/lang/String;"), (2, u "type"), (0, u "Ljava/lang/Class;"), (2, u "tag"), (0, u "I"), (125, u "DECIMAL_UNSCALED_BITS"), (25, u "ALL"), (17, .class_ 220), (0, u "com/example/nereus/nereus/Domain$1"), (6, .class_ 228), (0, u "com/example/nereus/nereus/Domain$2"), (4, .class_ 234), (0, u "com/example/nereus/nereus/Domain$3"), (4, .class_ 240), (0, u "com/example/nereus/nereus/Domain$4"), (6, .class_ 248), (0, u "com/example/nereus/nereus/Domain$5"), (17, u "INTEGER_TEXT"), (0, u "Ljava/util/regex/Pattern;"), (4, u "DECIMAL_TEXT"), (4, u "DATE_TIME_TEXT"), (8, u "REFERENCE_TAG"), (2, u "UNSET_TAG"), (1, u "NULL_TAG"), (1, u "BYTES_TAG"), (21, u "includes"), (0, u "(Lcom/example/nereus/nereus/Domain;)Z")] 69

def k6c0 : Code := { maxStack := 2, maxLocals := 2, code := prog_3_method_18_code, exceptionTable := #[], attributes := #[] }
def k6m0 : Method := { name := "includes", desc := "(Lcom/example/nereus/nereus/Domain;)Z", sig := { parameters := [(.object "com/example/nereus/nereus/Domain")], returnType := some .boolean }, accessFlags := 0, code := some k6c0 }
/-- com/example/nereus/nereus/Domain -/
def k6 : Class := { plain "com/example/nereus/nereus/Domain" (some 5) with
  accessFlags := 17440
  interfaces := #[]
  cf := some (fileOf pool6 1 #[.nestMembers #[247, 239, 233, 227, 219]] #[{ accessFlags := 0, nameIndex := 315, descriptorIndex := 316, attributes := #[] }] 17440 29 #[] #[{ accessFlags := 16409, nameIndex := 5, descriptorIndex := 6, attributes := #[] }, { accessFlags := 16409, nameIndex := 9, descriptorIndex := 6, attributes := #[] }, { accessFlags := 16409, nameIndex := 12, descriptorIndex := 6, attributes := #[] }, { accessFlags := 16409, nameIndex := 15, descriptorIndex := 6, attributes := #[] }, { accessFlags := 16409, nameIndex := 18, descriptorIndex := 6, attributes := #[] }, { accessFlags := 24, nameIndex := 286, descriptorIndex := 49, attributes := #[] }, { accessFlags := 24, nameIndex := 289, descriptorIndex := 49, attributes := #[] }, { accessFlags := 24, nameIndex := 291, descriptorIndex := 49, attributes := #[] }, { accessFlags := 24, nameIndex := 293, descriptorIndex := 49, attributes := #[] }, { accessFlags := 26, nameIndex := 201, descriptorIndex := 22, attributes := #[] }, { accessFlags := 26, nameIndex := 266, descriptorIndex := 267, attributes := #[] }, { accessFlags := 26, nameIndex := 272, descriptorIndex := 267, attributes := #[] }, { accessFlags := 26, nameIndex := 277, descriptorIndex := 267, attributes := #[] }, { accessFlags := 26, nameIndex := 175, descriptorIndex := 49, attributes := #[] }, { accessFlags := 18, nameIndex := 40, descriptorIndex := 41, attributes := #[] }, { accessFlags := 18, nameIndex := 44, descriptorIndex := 45, attributes := #[] }, { accessFlags := 18, nameIndex := 48, descriptorIndex := 49, attributes := #[] }, { accessFlags := 4122, nameIndex := 21, descriptorIndex := 22, attributes := #[] }])
  fields := #[{ name := "STRING", type := (.object "com/example/nereus/nereus/Domain"), accessFlags := 16409, slot := 0, constantValue := 0 }, { name := "INTEGER", type := (.object "com/example/nereus/nereus/Domain"), accessFlags := 16409, slot := 1, constantValue := 0 }, { name := "DECIMAL", type := (.object "com/example/nereus/nereus/Domain"), accessFlags := 16409, slot := 2, constantValue := 0 }, { name := "BOOLEAN", type := (.object "com/example/nereus/nereus/Domain"), accessFlags := 16409, slot := 3, constantValue := 0 }, { name := "DATETIME", type := (.object "com/example/nereus/nereus/Domain"), accessFlags := 16409, slot := 4, constantValue := 0 }, { name := "REFERENCE_TAG", type := .int, accessFlags := 24, slot := 5, constantValue := 0 }, { name := "UNSET_TAG", type := .int, accessFlags := 24, slot := 6, constantValue := 0 }, { name := "NULL_TAG", type := .int, accessFlags := 24, slot := 7, constantValue := 0 }, { name := "BYTES_TAG", type := .int, accessFlags := 24, slot := 8, constantValue := 0 }, { name := "ALL", type := (.array (.object "com/example/nereus/nereus/Domain")), accessFlags := 26, slot := 9, constantValue := 0 }, { name := "INTEGER_TEXT", type := (.object "java/util/regex/Pattern"), accessFlags := 26, slot := 10, constantValue := 0 }, { name := "DECIMAL_TEXT", type := (.object "java/util/regex/Pattern"), accessFlags := 26, slot := 11, constantValue := 0 }, { name := "DATE_TIME_TEXT", type := (.object "java/util/regex/Pattern"), accessFlags := 26, slot := 12, constantValue := 0 }, { name := "DECIMAL_UNSCALED_BITS", type := .int, accessFlags := 26, slot := 13, constantValue := 0 }, { name := "text", type := (.object "java/lang/String"), accessFlags := 18, slot := 3, constantValue := 0 }, { name := "type", type := (.object "java/lang/Class"), accessFlags := 18, slot := 4, constantValue := 0 }, { name := "tag", type := .int, accessFlags := 18, slot := 5, constantValue := 0 }, { name := "$VALUES", type := (.array (.object "com/example/nereus/nereus/Domain")), accessFlags := 4122, slot := 14, constantValue := 0 }]
  methods := #[k6m0]
  instanceTypes := #[(.object "java/lang/String"), .int, .int, (.object "java/lang/String"), (.object "java/lang/Class"), .int]
  staticTypes := #[(.object "com/example/nereus/nereus/Domain"), (.object "com/example/nereus/nereus/Domain"), (.object "com/example/nereus/nereus/Domain"), (.object "com/example/nereus/nereus/Domain"), (.object "com/example/nereus/nereus/Domain"), .int, .int, .int, .int, (.array (.object "com/example/nereus/nereus/Domain")), (.object "java/util/regex/Pattern"), (.object "java/util/regex/Pattern"), (.object "java/util/regex/Pattern"), .int, (.array (.object "com/example/nereus/nereus/Domain"))]
  resolved := Array.replicate 386 none
  statics := some 0 }

def pool7 : Array CpInfo := pool [(2, .class_ 4), (1, u "com/example/nereus/nereus/Domain"), (96, .class_ 102), (0, u "com/example/nereus/nereus/Domain$1")] 37

/-- com/example/nereus/nereus/Domain$1 -/
def k7 : Class := { plain "com/example/nereus/nereus/Domain$1" (some 6) with
  accessFlags := 16432
  interfaces := #[]
  cf := some (fileOf pool7 101 #[.nestHost 2] #[] 16432 2 #[] #[])
  fields := #[]
  methods := #[]
  instanceTypes := #[(.object "java/lang/String"), .int, .int, (.object "java/lang/String"), (.object "java/lang/Class"), .int]
  staticTypes := #[]
  resolved := Array.replicate 140 none
  statics := none }

def pool8 : Array CpInfo := pool [(2, .class_ 4), (1, u "com/example/nereus/nereus/Domain"), (49, .class_ 55), (0, u "com/example/nereus/nereus/Domain$2")] 21

/-- com/example/nereus/nereus/Domain$2 -/
def k8 : Class := { plain "com/example/nereus/nereus/Domain$2" (some 6) with
  accessFlags := 16432
  interfaces := #[]
  cf := some (fileOf pool8 54 #[.nestHost 2] #[] 16432 2 #[] #[])
  fields := #[]
  methods := #[]
  instanceTypes := #[(.object "java/lang/String"), .int, .int, (.object "java/lang/String"), (.object "java/lang/Class"), .int]
  staticTypes := #[]
  resolved := Array.replicate 77 none
  statics := none }

def pool9 : Array CpInfo := pool [(2, .class_ 4), (1, u "com/example/nereus/nereus/Domain"), (93, .class_ 99), (0, u "com/example/nereus/nereus/Domain$3")] 45

/-- com/example/nereus/nereus/Domain$3 -/
def k9 : Class := { plain "com/example/nereus/nereus/Domain$3" (some 6) with
  accessFlags := 16432
  interfaces := #[]
  cf := some (fileOf pool9 98 #[.nestHost 2] #[] 16432 2 #[] #[])
  fields := #[]
  methods := #[]
  instanceTypes := #[(.object "java/lang/String"), .int, .int, (.object "java/lang/String"), (.object "java/lang/Class"), .int]
  staticTypes := #[]
  resolved := Array.replicate 145 none
  statics := none }

def pool10 : Array CpInfo := pool [(2, .class_ 4), (1, u "com/example/nereus/nereus/Domain"), (44, .class_ 50), (0, u "com/example/nereus/nereus/Domain$4")] 19

/-- com/example/nereus/nereus/Domain$4 -/
def k10 : Class := { plain "com/example/nereus/nereus/Domain$4" (some 6) with
  accessFlags := 16432
  interfaces := #[]
  cf := some (fileOf pool10 49 #[.nestHost 2] #[] 16432 2 #[] #[])
  fields := #[]
  methods := #[]
  instanceTypes := #[(.object "java/lang/String"), .int, .int, (.object "java/lang/String"), (.object "java/lang/Class"), .int]
  staticTypes := #[]
  resolved := Array.replicate 70 none
  statics := none }

def pool11 : Array CpInfo := pool [(2, .class_ 4), (1, u "com/example/nereus/nereus/Domain"), (71, .class_ 78), (1, u "com/example/nereus/nereus/Domain$5")] 51

/-- com/example/nereus/nereus/Domain$5 -/
def k11 : Class := { plain "com/example/nereus/nereus/Domain$5" (some 6) with
  accessFlags := 16432
  interfaces := #[]
  cf := some (fileOf pool11 76 #[.nestHost 2] #[] 16432 2 #[] #[])
  fields := #[]
  methods := #[]
  instanceTypes := #[(.object "java/lang/String"), .int, .int, (.object "java/lang/String"), (.object "java/lang/Class"), .int]
  staticTypes := #[]
  resolved := Array.replicate 130 none
  statics := none }

def pool12 : Array CpInfo := pool [(1, u "java/lang/Cloneable"), (0, .class_ 1), (0, u "java/lang/Object"), (0, .class_ 3)] 3

/-- java/lang/Cloneable -/
def k12 : Class := { plain "java/lang/Cloneable" (some 0) with
  accessFlags := 1537
  interfaces := #[]
  cf := some (fileOf pool12 2 #[] #[] 1537 4 #[] #[])
  fields := #[]
  methods := #[]
  instanceTypes := #[]
  staticTypes := #[]
  resolved := Array.replicate 8 none
  statics := none }

/-- the primitive byte -/
def k13 : Class := { plain "byte" none with kind := .primitive 'B', accessFlags := 0x411 }
/-- [B -/
def k14 : Class := { plain "[B" (some 0) with kind := .array 13 .byte, interfaces := #[12, 4], accessFlags := 1041 }

/-- the primitive int -/
def k15 : Class := { plain "int" none with kind := .primitive 'I', accessFlags := 0x411 }
/-- [I -/
def k16 : Class := { plain "[I" (some 0) with kind := .array 15 .int, interfaces := #[12, 4], accessFlags := 1041 }

/-- [Lcom/example/nereus/nereus/Domain; -/
def k17 : Class := { plain "[Lcom/example/nereus/nereus/Domain;" (some 0) with kind := .array 6 (.object "com/example/nereus/nereus/Domain"), interfaces := #[12, 4], accessFlags := 1041 }

def heap : Heap := #[{ cls := 6, slots := #[.ref 1, .ref 2, .ref 3, .ref 4, .ref 5, .int 0, .int 0, .int 0, .int 0, .null, .null, .null, .null, .int 0, .null], vm := .statics 6 },
  { cls := 7, slots := #[.null, .int 0, .int 0, .null, .null, .int 0], vm := .none },
  { cls := 8, slots := #[.null, .int 0, .int 0, .null, .null, .int 0], vm := .none },
  { cls := 9, slots := #[.null, .int 0, .int 0, .null, .null, .int 0], vm := .none },
  { cls := 10, slots := #[.null, .int 0, .int 0, .null, .null, .int 0], vm := .none },
  { cls := 11, slots := #[.null, .int 0, .int 0, .null, .null, .int 0], vm := .none }]
def classes : Array Class := #[k0, k1, k2, k3, k4, k5, k6, k7, k8, k9, k10, k11, k12, k13, k14, k15, k16, k17]
def interned : List (Array UInt16 × Addr) := []
def slotsUsed : Nat := 45
def theMethod : MethodId := ⟨1, 2⟩
def args0 : Array Value := #[.int 5, .int 6, .int 7]
def aboutOver (below : List Frame) : State where
  vm := { classes := classes, interned := interned.toArray }
  heap := heap
  slotsUsed := slotsUsed
  threads := #[{ frames := .invoking theMethod args0 :: below }]
def below0 : List Frame := [.native { method := ⟨0, 0⟩, args := #[] }]
def about1 : State := aboutOver below0
def p0 : Program := .bare "" "" ""
def e0 : Env := launch0.env 0 0 0
theorem w_frames : about1.frames = Frame.invoking theMethod args0 :: below0 := rfl
set_option maxRecDepth 65536 in
theorem w_args : argsFit about1.vm theMethod args0 = true := by decide +kernel
set_option maxRecDepth 65536 in
theorem w_heap : heapFits about1 = true := by decide +kernel
set_option maxRecDepth 65536 in
theorem w_runnable : about1.curStatus? = some .runnable := by decide +kernel
set_option maxRecDepth 65536 in
theorem w_alone : about1.alone = true := by decide +kernel
set_option maxRecDepth 65536 in
theorem w_named : about1.methodNamed? x = some theMethod := by decide +kernel
set_option maxRecDepth 65536 in
theorem w_hears : about1.hears theMethod below0 = true := by decide +kernel
set_option maxRecDepth 65536 in
theorem w_ripe : about1.ripe theMethod args0 below0 = true := by decide +kernel
theorem w_running : about1.status = .running := rfl
set_option maxRecDepth 65536 in
theorem w_room : about1.hasRoom e0.platform room_1 = true :=
  launch0.hasRoom_least _ room_1 (by decide +kernel) (by decide +kernel) (by decide +kernel) (by decide +kernel) (by decide +kernel) (by decide +kernel)
theorem allAtoms_all (ts : List Jvm.Cond) (a : Array Jvm.Value) (st : Jvm.State) : (allAtoms ts).before a st = ts.all (fun c => c.before a st) := by
  induction ts with
  | nil => rfl
  | cons c t ih =>
    show (Jvm.Cond.and c (allAtoms t)).before a st = _
    rw [Jvm.Cond.before_and, ih, List.all_cons]
def words1 : List Jvm.Cond := Jvm.Cond.code x code maxLocals ret :: tables_1
/-- a 'code' word, met by the world's own term for the bytes: nothing is compared byte by byte -/
theorem code_word {y : MethodName} {bytes : ByteArray} {mx : Nat} {rt : Option FieldType} {a : Array Value} {s : State} {m : MethodId} {meth : Method} {c : Code} (h1 : s.methodNamed? y = some m) (h2 : s.vm.method? m = some meth) (h3 : meth.code = some c) (h4 : c.code = bytes)
    (h5 : (c.maxLocals == mx && c.exceptionTable.isEmpty && decide (c.maxStack ≤ mostOperands) && decide (meth.sig.returnType = rt) && !meth.locks && decide (parseMethodDescriptor y.desc = some meth.sig)) = true) : (Jvm.Cond.code y bytes mx rt).before a s = true := by
  simp only [Bool.and_eq_true, beq_iff_eq, Bool.not_eq_true', decide_eq_true_eq] at h5
  obtain ⟨⟨⟨⟨⟨g1, g2⟩, g3⟩, g4⟩, g5⟩, g6⟩ := h5
  simp [Cond.before, Cond.holds, Cond.value, h1, h2, h3, h4, g1, g2, g3, g4, g5, g6]
def isCode : Jvm.Cond → Bool
  | .code _ _ _ _ => true
  | _ => false
theorem all_split {L : List Jvm.Cond} {P : Jvm.Cond → Bool} (h1 : L.all (fun c => isCode c || P c) = true) (h2 : ∀ c ∈ L.filter isCode, P c = true) : L.all P = true := by
  refine List.all_eq_true.mpr fun c hc => ?_
  have h := List.all_eq_true.mp h1 c hc
  rcases Bool.eq_false_or_eq_true (isCode c) with hi | hi
  · exact h2 c (List.mem_filter.mpr ⟨hc, hi⟩)
  · simpa [hi] using h
set_option maxRecDepth 65536 in
theorem w_c0 : (Jvm.Cond.code x code maxLocals ret).before args0 about1 = true := code_word (m := ⟨1, 2⟩) (meth := k1m2) (c := k1c2) (by decide +kernel) rfl rfl rfl (by decide +kernel)
set_option maxRecDepth 65536 in
theorem w_c1 : (Jvm.Cond.code ({ cls := "com/example/nereus/nereus/DomainIncludesPinLaw", name := "pick", desc := "(I)Lcom/example/nereus/nereus/Domain;" } : Jvm.MethodName) method_2_code (2 : Nat) (Option.some (Jvm.ClassFile.FieldType.object "com/example/nereus/nereus/Domain"))).before args0 about1 = true := code_word (m := ⟨1, 1⟩) (meth := k1m1) (c := k1c1) (by decide +kernel) rfl rfl rfl (by decide +kernel)
set_option maxRecDepth 65536 in
theorem w_c2 : (Jvm.Cond.code ({ cls := "com/example/nereus/nereus/Domain", name := "includes", desc := "(Lcom/example/nereus/nereus/Domain;)Z" } : Jvm.MethodName) prog_3_method_18_code (2 : Nat) (Option.some Jvm.ClassFile.FieldType.boolean)).before args0 about1 = true := code_word (m := ⟨6, 0⟩) (meth := k6m0) (c := k6c0) (by decide +kernel) rfl rfl rfl (by decide +kernel)
def codes1 : List Jvm.Cond := [Jvm.Cond.code x code maxLocals ret, Jvm.Cond.code ({ cls := "com/example/nereus/nereus/DomainIncludesPinLaw", name := "pick", desc := "(I)Lcom/example/nereus/nereus/Domain;" } : Jvm.MethodName) method_2_code (2 : Nat) (Option.some (Jvm.ClassFile.FieldType.object "com/example/nereus/nereus/Domain")), Jvm.Cond.code ({ cls := "com/example/nereus/nereus/Domain", name := "includes", desc := "(Lcom/example/nereus/nereus/Domain;)Z" } : Jvm.MethodName) prog_3_method_18_code (2 : Nat) (Option.some Jvm.ClassFile.FieldType.boolean)]
set_option maxRecDepth 65536 in
theorem codes_eq : words1.filter isCode = codes1 := rfl
theorem w_codes : ∀ c ∈ words1.filter isCode, c.before args0 about1 = true := by
  rw [codes_eq]
  intro c hc
  simp only [codes1, List.mem_cons, List.not_mem_nil, or_false] at hc
  rcases hc with rfl | rfl | rfl
  · exact w_c0
  · exact w_c1
  · exact w_c2
set_option maxRecDepth 65536 in
theorem w_t1 : (words1.take 24).all (fun c => isCode c || c.before args0 about1) = true := by decide +kernel
set_option maxRecDepth 65536 in
theorem w_t2 : (words1.drop 24).all (fun c => isCode c || c.before args0 about1) = true := by decide +kernel
theorem w_tables : (allAtoms (Jvm.Cond.code x code maxLocals ret :: tables_1)).before args0 about1 = true := by
  rw [allAtoms_all]
  show words1.all (fun c => c.before args0 about1) = true
  refine all_split ?_ w_codes
  rw [← List.take_append_drop 24 words1, List.all_append, w_t1, w_t2]
  rfl
set_option maxRecDepth 65536 in
theorem w_case : (Jvm.Cond.and given_1 narrow_1).before args0 about1 = true := by decide +kernel
theorem w_applies : (headSpec (Jvm.Cond.code x code maxLocals ret :: tables_1) room_1).applies x e0.platform about1 = true :=
  (Spec.applies_iff w_frames).mpr ⟨w_running, w_runnable, w_alone, w_named, w_hears, w_ripe, w_room, w_tables⟩
theorem atStart : AtStart classFile x code maxLocals ret World_1 tables_1 room_1 Calls_1 rest_1 Pre_1 launch0 p0 e0 about1 theMethod args0 below0 :=
  ⟨lists_1, trivial, launch0.admits_env _ _ _, launch0.least_env, fairChoices_fair.cas, fairChoices_fair.clock, w_frames, w_args, w_heap, w_applies, trivial, trivial, w_case⟩
end start1
theorem witness_1 : WitnessClaimed_1 := ⟨start1.p0, start1.e0, start1.about1, start1.theMethod, start1.args0, start1.below0, start1.atStart⟩
end Jvm.Pilot.@@N@@
