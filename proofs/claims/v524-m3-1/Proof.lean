import JvmDerived
import JvmDerived.Pilot.@@N@@Statement
import JvmDerived.Pilot.@@N@@Code
set_option linter.unusedVariables false
set_option linter.unusedSimpArgs false
namespace Jvm.RoadKit
open Sem ClassFile Op Lib Jvm.Stand Jvm.Free Jvm.LawKit
section New
variable {p : Program} {l : Launch} {e : Env} {R : Room} {s : State} {m : MethodId} {args : Array Value} {below : List Frame} {meth : Method} {c : Code} {T : State} {locs : List Loc} {cells slots : Nat}
theorem retI (X : Stand p l e R s m args below meth c T locs cells slots) (hx : p.tables.exec = Jvm.exec) {pc : Nat} {Ls : Array Slot} {z : Int32} {rest : List Value} (hret : meth.sig.returnType = some .int) (hd : decode c.code pc = .ok (.ireturn, 1)) {fs : List Frame}
    (hl : ∀ (f : JFrame) (acts : List Action), f.method = m → f.locked = none → f.entered = [] → (doReturn e (T.setTop f) acts (some (.int z))).1 = T.setFrames fs) : Steps p.tables e below (T.setTop (mkF m pc Ls (.int z :: rest))) (T.setFrames fs) := by
  have hm' : T.vm.method? m = some meth := X.method'
  have hn : narrow .int (.int z) = .int z := rfl
  show Steps p.tables e below (T.setTop { method := m, pc := pc, locals := Ls, stack := _ :: rest, locked := none }) _
  jvm_step X.here [X.here.top, hx, hd, hm', hret, hn]
  first | (intro acts; rw [hl _ acts rfl rfl rfl]) | rw [hl _ _ rfl rfl rfl]
  exact Steps.refl _
end New
end Jvm.RoadKit
namespace Jvm.Pilot.@@N@@
open Jvm Jvm.ClassFile Sem Op Lib Jvm.Free Jvm.Stand Jvm.LawKit Jvm.RoadKit Bundle Jvm.Pilot.@@N@@.Jvm.D
theorem own_fld_ne {Z : State} {h : Heap} {a b : Addr} {C n d : String} {v w : Value} (F : Fld Z h a C n d v) (G : Fld Z h b C n d w) (q : v ≠ w) : a ≠ b := fun e => by
  subst e
  obtain ⟨c1, cf1, k1, i1, f1, a1, a2, -, -, -, -, a7⟩ := F
  obtain ⟨c2, cf2, k2, i2, f2, b1, b2, -, -, -, -, b7⟩ := G
  cases a1.symm.trans b1
  cases a2.symm.trans b2
  exact q (Option.some.inj (a7.symm.trans b7))
theorem own_fldI {args : Array Value} {s : State} {t : Term} {a : Addr} {C n d : String} {k : Int32} (ht : t.eval args s none [] s = some (.ref a)) (h : (Jvm.Cond.eq (Term.field t C n d) (Term.int k)).value args s none s [] = some true) : Fld s s.heap a C n d (.int k) := by
  apply Fld.start
  have e1 : (Term.field t C n d).eval args s none [] s = s.fieldOf? a C n d := fld_at ht
  have e2 : (Term.int k).eval args s none [] s = some (.int k) := Term.int_eval k
  simp only [Cond.value, e1, e2] at h
  split at h <;> simp_all
theorem own_nm0 {a : Addr} : a ∉ ([] : List Addr) := List.not_mem_nil
theorem own_nm1 {a x : Addr} (h : a ≠ x) : a ∉ [x] := fun q => h (List.mem_singleton.mp q)
theorem own_nm2 {a x y : Addr} (h : a ≠ x) (h2 : a ≠ y) : a ∉ [x, y] := fun q => by
  rcases List.mem_cons.mp q with q | q
  · exact h q
  · exact h2 (List.mem_singleton.mp q)
theorem own_nm3 {a x y z : Addr} (h : a ≠ x) (h2 : a ≠ y) (h3 : a ≠ z) : a ∉ [x, y, z] := fun q => by
  rcases List.mem_cons.mp q with q | q
  · exact h q
  · exact own_nm2 h2 h3 q
theorem own_all0 {P : Addr → Prop} : ∀ x ∈ ([] : List Addr), P x := fun x q => (List.not_mem_nil q).elim
theorem own_all1 {P : Addr → Prop} {a : Addr} (h : P a) : ∀ x ∈ [a], P x := fun x q => by rw [List.mem_singleton.mp q]; exact h
theorem own_all2 {P : Addr → Prop} {a b : Addr} (h : P a) (h2 : P b) : ∀ x ∈ [a, b], P x := fun x q => by
  rcases List.mem_cons.mp q with q | q
  · rw [q]; exact h
  · rw [List.mem_singleton.mp q]; exact h2
theorem own_all3 {P : Addr → Prop} {a b c : Addr} (h : P a) (h2 : P b) (h3 : P c) : ∀ x ∈ [a, b, c], P x := fun x q => by
  rcases List.mem_cons.mp q with q | q
  · rw [q]; exact h
  · exact own_all2 h2 h3 x q
theorem pn_0 : plainName "com/example/osier/osier/ControlBehaviorWarmsUpPinLaw" = true := by first | (simp [plainName, overriddenIn]; done) | decide +kernel
theorem ef_1 (m : MethodId) (x0 : Int32) : entryFrame m #[(.int x0)] maxLocals = mkF m 0 #[.val (.int x0), .unset, .unset, .unset] [] := by first | (simp [entryFrame, mkF, argsToLocals, Value.category, maxLocals]; done) | rfl
theorem d1_0 : decode prog_35_method_5_code 0 = .ok (.aload_n 0, 1) := by decide +kernel
theorem d1_1 : decode prog_35_method_5_code 1 = .ok (.getstatic 9, 3) := by decide +kernel
theorem d1_4 : decode prog_35_method_5_code 4 = .ok (.if_acmp .eq 10, 3) := by decide +kernel
theorem d1_7 : decode prog_35_method_5_code 7 = .ok (.aload_n 0, 1) := by decide +kernel
theorem d1_8 : decode prog_35_method_5_code 8 = .ok (.getstatic 15, 3) := by decide +kernel
theorem d1_11 : decode prog_35_method_5_code 11 = .ok (.if_acmp .ne 7, 3) := by decide +kernel
theorem d1_18 : decode prog_35_method_5_code 18 = .ok (.iconst 0, 1) := by decide +kernel
theorem d1_19 : decode prog_35_method_5_code 19 = .ok (.ireturn, 1) := by decide +kernel
theorem pn_2 : plainName "com/example/osier/osier/FlowRule$ControlBehavior" = true := by first | (simp [plainName, overriddenIn]; done) | decide +kernel
theorem ef_3 (m : MethodId) (x0 : Addr) : entryFrame m #[(.ref x0)] 1 = mkF m 0 #[.val (.ref x0)] [] := by first | (simp [entryFrame, mkF, argsToLocals, Value.category]; done) | rfl
def Q_warmsUp1_0 (Z : State) (a_REFUSE : Addr) (a_WARM_UP : Addr) (a_WARM_UP_QUEUE : Addr) (h0 : Heap) (n0 : Nat) (v : Option Value) (h : Heap) (L : List Loc) : Prop := v = some (.int (0 : Int32)) ∧ Fr n0 L ∧ h = h0
set_option maxRecDepth 65536 in
set_option maxHeartbeats 40000000 in
theorem rm_warmsUp1_0 (l : Launch) (Z : State) (a0 : Array Value) (hw : ∀ d ∈ tables_1, d.before a0 Z = true) (ws : List Jvm.Cond) (a_REFUSE : Addr) (a_WARM_UP : Addr) (a_WARM_UP_QUEUE : Addr) (h0 : Heap) (n0 : Nat) (O0 : Old Z n0 h0) (G0 : Sta Z Z.heap "com/example/osier/osier/FlowRule$ControlBehavior" "WARM_UP" "Lcom/example/osier/osier/FlowRule$ControlBehavior;" (.ref a_WARM_UP)) (G1 : Sta Z Z.heap "com/example/osier/osier/FlowRule$ControlBehavior" "WARM_UP_QUEUE" "Lcom/example/osier/osier/FlowRule$ControlBehavior;" (.ref a_WARM_UP_QUEUE)) (q0 : ¬ (a_WARM_UP = a_REFUSE)) (q1 : ¬ (a_WARM_UP_QUEUE = a_REFUSE)) :
    MetFree l (⟨"com/example/osier/osier/FlowRule$ControlBehavior", "warmsUp", "()Z"⟩ : MethodName) (head1 (Jvm.Cond.code (⟨"com/example/osier/osier/FlowRule$ControlBehavior", "warmsUp", "()Z"⟩ : MethodName) prog_35_method_5_code 1 (some .boolean) :: ws) ({ frames := 0, cells := 0, slots := 0, locals := 0 } : Room)) (fun a U => a = #[(.ref a_REFUSE)] ∧ Z.Warmed39 U.vm ∧ U.heap = h0) (fun _ _ _ _ _ => True) (fun _ U o U' => ∃ v L, o = .returned v ∧ Q_warmsUp1_0 Z a_REFUSE a_WARM_UP a_WARM_UP_QUEUE h0 n0 v U'.heap L ∧ FrameEnd U o U' L ({ frames := 0, cells := 0, slots := 0, locals := 0 } : Room).cells ({ frames := 0, cells := 0, slots := 0, locals := 0 } : Room).slots) := by
  refine MetFree.of_bodySF (plainFor_of_name pn_2) hisR ?_
  intro p e s m args below meth c s₁ Bd hml0 hP hK
  obtain ⟨rfl, hZ, hh⟩ := hP
  have hx := Bd.exec
  have hby := Bd.bytes
  have hml : c.maxLocals = 1 := hml0
  have hown : s.vm.findClass "com/example/osier/osier/FlowRule$ControlBehavior" = some m.cls := findClass_of_methodNamed Bd.named
  have hnm := (name_of_methodNamed Bd.named Bd.method).1
  have X0 : Stand p l e ({ frames := 0, cells := 0, slots := 0, locals := 0 } : Room) s m #[(.ref a_REFUSE)] below meth c s₁ [] 0 0 := Stand.of_body Bd
  have e0 : s₁.heap = h0 := by rw [← hh, Bd.state]; rfl
  have N0 := Fr.nil n0
  have pre0 : ∀ t, Steps p.tables e below (s₁.setTop (mkF m 0 #[.val (.ref a_REFUSE)] [])) t → Steps p.tables e below (s₁.setTop (entryFrame m #[(.ref a_REFUSE)] 1)) t := fun t k => castTop (ef_3 m a_REFUSE) k
  have K0 : Keep h0 h0 [] := Keep.refl h0 []
  have pre22 : ∀ t, Steps p.tables e below (s₁.setTop (mkF m 1 #[.val (.ref a_REFUSE)] [(.ref a_REFUSE)])) t → Steps p.tables e below (s₁.setTop (entryFrame m #[(.ref a_REFUSE)] 1)) t := fun t kt => by
    refine pre0 _ ?_
    show Steps p.tables e below (s₁.setTop (mkF m 0 #[.val (.ref a_REFUSE)] [])) _
    refine XS.aloadN X0.here hx rfl (hb hby d1_0) rfl rfl ?_
    exact kt
  obtain ⟨T23, X23, e23, st23⟩ := getS2 X0 hx hZ hown (host := "") (Or.inl (hw _ (List.mem_of_getElem? (i := 8) rfl))) Via.refl e0 (G0.ext O0.2) (g := (mkF m 1 #[.val (.ref a_REFUSE)] [(.ref a_REFUSE)])) rfl (hb hby d1_1)
  have pre24 : ∀ t, Steps p.tables e below (T23.setTop (mkF m 4 #[.val (.ref a_REFUSE)] [(.ref a_WARM_UP), (.ref a_REFUSE)])) t → Steps p.tables e below (s₁.setTop (entryFrame m #[(.ref a_REFUSE)] 1)) t := fun t kt => pre22 _ (st23 _ kt)
  have pre25 : ∀ t, Steps p.tables e below (T23.setTop (mkF m 8 #[.val (.ref a_REFUSE)] [(.ref a_REFUSE)])) t → Steps p.tables e below (s₁.setTop (entryFrame m #[(.ref a_REFUSE)] 1)) t := fun t kt => by
    refine pre24 _ ?_
    show Steps p.tables e below (T23.setTop (mkF m 4 #[.val (.ref a_REFUSE)] [(.ref a_WARM_UP), (.ref a_REFUSE)])) _
    refine Jvm.RoadKit.acmp (g := (mkF m 4 #[.val (.ref a_REFUSE)] [(.ref a_WARM_UP), (.ref a_REFUSE)])) X23 hx rfl rfl rfl (pc0 := 4) (pc' := 7) (same := false) rfl (hb hby d1_4) rfl (decide_eq_false fun q => (fun q => q0 q.symm) (Value.ref.inj q)) (by decide) (by decide) ?_
    show Steps p.tables e below (T23.setTop (mkF m 7 #[.val (.ref a_REFUSE)] [])) _
    refine XS.aloadN X23.here hx rfl (hb hby d1_7) rfl rfl ?_
    exact kt
  obtain ⟨T26, X26, e26, st26⟩ := getS2 X23 hx hZ hown (host := "") (Or.inl (hw _ (List.mem_of_getElem? (i := 10) rfl))) Via.refl e23 (G1.ext O0.2) (g := (mkF m 8 #[.val (.ref a_REFUSE)] [(.ref a_REFUSE)])) rfl (hb hby d1_8)
  have pre27 : ∀ t, Steps p.tables e below (T26.setTop (mkF m 11 #[.val (.ref a_REFUSE)] [(.ref a_WARM_UP_QUEUE), (.ref a_REFUSE)])) t → Steps p.tables e below (s₁.setTop (entryFrame m #[(.ref a_REFUSE)] 1)) t := fun t kt => pre25 _ (st26 _ kt)
  have pre28 : ∀ t, Steps p.tables e below (T26.setTop (mkF m 19 #[.val (.ref a_REFUSE)] [(.int (0 : Int32))])) t → Steps p.tables e below (s₁.setTop (entryFrame m #[(.ref a_REFUSE)] 1)) t := fun t kt => by
    refine pre27 _ ?_
    show Steps p.tables e below (T26.setTop (mkF m 11 #[.val (.ref a_REFUSE)] [(.ref a_WARM_UP_QUEUE), (.ref a_REFUSE)])) _
    refine Jvm.RoadKit.acmp (g := (mkF m 11 #[.val (.ref a_REFUSE)] [(.ref a_WARM_UP_QUEUE), (.ref a_REFUSE)])) X26 hx rfl rfl rfl (pc0 := 11) (pc' := 18) (same := false) rfl (hb hby d1_11) rfl (decide_eq_false fun q => (fun q => q1 q.symm) (Value.ref.inj q)) (by decide) (by decide) ?_
    show Steps p.tables e below (T26.setTop (mkF m 18 #[.val (.ref a_REFUSE)] [])) _
    refine XS.iconst X26.here hx rfl (hb hby d1_18) ?_
    exact kt
  obtain ⟨fs, hr, hrun, hended, hW, hsame⟩ := X26.leave (v := some (.int (0 : Int32))) (fun h => by rw [Bd.returns] at h; cases h)
  refine ⟨_, _, pre28 _ (retN X26 hx (t := .boolean) Bd.returns (by simp) (hb hby d1_19) hr), hrun, hended, _, _, rfl, ?_, ⟨_, rfl⟩, hW, hsame.mono (by decide) (by decide)⟩
  show Q_warmsUp1_0 Z a_REFUSE a_WARM_UP a_WARM_UP_QUEUE h0 n0 _ T26.heap _
  rw [e26]
  exact ⟨rfl, N0, rfl⟩
theorem pd_4 : parseMethodDescriptor "()Z" = some ⟨[], some .boolean⟩ := by decide +kernel
theorem d1_14 : decode prog_35_method_5_code 14 = .ok (.iconst 1, 1) := by decide +kernel
theorem d1_15 : decode prog_35_method_5_code 15 = .ok (.goto 4, 3) := by decide +kernel
def Q_warmsUp1_1 (Z : State) (a_WARM_UP : Addr) (h0 : Heap) (n0 : Nat) (v : Option Value) (h : Heap) (L : List Loc) : Prop := v = some (.int (1 : Int32)) ∧ Fr n0 L ∧ h = h0
set_option maxRecDepth 65536 in
set_option maxHeartbeats 40000000 in
theorem rm_warmsUp1_1 (l : Launch) (Z : State) (a0 : Array Value) (hw : ∀ d ∈ tables_1, d.before a0 Z = true) (ws : List Jvm.Cond) (a_WARM_UP : Addr) (h0 : Heap) (n0 : Nat) (O0 : Old Z n0 h0) (G0 : Sta Z Z.heap "com/example/osier/osier/FlowRule$ControlBehavior" "WARM_UP" "Lcom/example/osier/osier/FlowRule$ControlBehavior;" (.ref a_WARM_UP)) :
    MetFree l (⟨"com/example/osier/osier/FlowRule$ControlBehavior", "warmsUp", "()Z"⟩ : MethodName) (head1 (Jvm.Cond.code (⟨"com/example/osier/osier/FlowRule$ControlBehavior", "warmsUp", "()Z"⟩ : MethodName) prog_35_method_5_code 1 (some .boolean) :: ws) ({ frames := 0, cells := 0, slots := 0, locals := 0 } : Room)) (fun a U => a = #[(.ref a_WARM_UP)] ∧ Z.Warmed39 U.vm ∧ U.heap = h0) (fun _ _ _ _ _ => True) (fun _ U o U' => ∃ v L, o = .returned v ∧ Q_warmsUp1_1 Z a_WARM_UP h0 n0 v U'.heap L ∧ FrameEnd U o U' L ({ frames := 0, cells := 0, slots := 0, locals := 0 } : Room).cells ({ frames := 0, cells := 0, slots := 0, locals := 0 } : Room).slots) := by
  refine MetFree.of_bodySF (plainFor_of_name pn_2) hisR ?_
  intro p e s m args below meth c s₁ Bd hml0 hP hK
  obtain ⟨rfl, hZ, hh⟩ := hP
  have hx := Bd.exec
  have hby := Bd.bytes
  have hml : c.maxLocals = 1 := hml0
  have hown : s.vm.findClass "com/example/osier/osier/FlowRule$ControlBehavior" = some m.cls := findClass_of_methodNamed Bd.named
  have hnm := (name_of_methodNamed Bd.named Bd.method).1
  have X0 : Stand p l e ({ frames := 0, cells := 0, slots := 0, locals := 0 } : Room) s m #[(.ref a_WARM_UP)] below meth c s₁ [] 0 0 := Stand.of_body Bd
  have e0 : s₁.heap = h0 := by rw [← hh, Bd.state]; rfl
  have N0 := Fr.nil n0
  have pre0 : ∀ t, Steps p.tables e below (s₁.setTop (mkF m 0 #[.val (.ref a_WARM_UP)] [])) t → Steps p.tables e below (s₁.setTop (entryFrame m #[(.ref a_WARM_UP)] 1)) t := fun t k => castTop (ef_3 m a_WARM_UP) k
  have K0 : Keep h0 h0 [] := Keep.refl h0 []
  have pre46 : ∀ t, Steps p.tables e below (s₁.setTop (mkF m 1 #[.val (.ref a_WARM_UP)] [(.ref a_WARM_UP)])) t → Steps p.tables e below (s₁.setTop (entryFrame m #[(.ref a_WARM_UP)] 1)) t := fun t kt => by
    refine pre0 _ ?_
    show Steps p.tables e below (s₁.setTop (mkF m 0 #[.val (.ref a_WARM_UP)] [])) _
    refine XS.aloadN X0.here hx rfl (hb hby d1_0) rfl rfl ?_
    exact kt
  obtain ⟨T47, X47, e47, st47⟩ := getS2 X0 hx hZ hown (host := "") (Or.inl (hw _ (List.mem_of_getElem? (i := 8) rfl))) Via.refl e0 (G0.ext O0.2) (g := (mkF m 1 #[.val (.ref a_WARM_UP)] [(.ref a_WARM_UP)])) rfl (hb hby d1_1)
  have pre48 : ∀ t, Steps p.tables e below (T47.setTop (mkF m 4 #[.val (.ref a_WARM_UP)] [(.ref a_WARM_UP), (.ref a_WARM_UP)])) t → Steps p.tables e below (s₁.setTop (entryFrame m #[(.ref a_WARM_UP)] 1)) t := fun t kt => pre46 _ (st47 _ kt)
  have pre49 : ∀ t, Steps p.tables e below (T47.setTop (mkF m 19 #[.val (.ref a_WARM_UP)] [(.int (1 : Int32))])) t → Steps p.tables e below (s₁.setTop (entryFrame m #[(.ref a_WARM_UP)] 1)) t := fun t kt => by
    refine pre48 _ ?_
    show Steps p.tables e below (T47.setTop (mkF m 4 #[.val (.ref a_WARM_UP)] [(.ref a_WARM_UP), (.ref a_WARM_UP)])) _
    refine Jvm.RoadKit.acmp (g := (mkF m 4 #[.val (.ref a_WARM_UP)] [(.ref a_WARM_UP), (.ref a_WARM_UP)])) X47 hx rfl rfl rfl (pc0 := 4) (pc' := 14) (same := true) rfl (hb hby d1_4) rfl (decide_eq_true rfl) (by decide) (by decide) ?_
    show Steps p.tables e below (T47.setTop (mkF m 14 #[.val (.ref a_WARM_UP)] [])) _
    refine XS.iconst X47.here hx rfl (hb hby d1_14) ?_
    show Steps p.tables e below (T47.setTop (mkF m 15 #[.val (.ref a_WARM_UP)] [(.int (1 : Int32))])) _
    refine XS.goto X47.here hx rfl (pc0 := 15) (pc' := 19) rfl (hb hby d1_15) (by decide) (by decide) ?_
    exact kt
  obtain ⟨fs, hr, hrun, hended, hW, hsame⟩ := X47.leave (v := some (.int (1 : Int32))) (fun h => by rw [Bd.returns] at h; cases h)
  refine ⟨_, _, pre49 _ (retN X47 hx (t := .boolean) Bd.returns (by simp) (hb hby d1_19) hr), hrun, hended, _, _, rfl, ?_, ⟨_, rfl⟩, hW, hsame.mono (by decide) (by decide)⟩
  show Q_warmsUp1_1 Z a_WARM_UP h0 n0 _ T47.heap _
  rw [e47]
  exact ⟨rfl, N0, rfl⟩
def Q_warmsUp1_2 (Z : State) (a_WARM_UP_QUEUE : Addr) (a_WARM_UP : Addr) (h0 : Heap) (n0 : Nat) (v : Option Value) (h : Heap) (L : List Loc) : Prop := v = some (.int (1 : Int32)) ∧ Fr n0 L ∧ h = h0
set_option maxRecDepth 65536 in
set_option maxHeartbeats 40000000 in
theorem rm_warmsUp1_2 (l : Launch) (Z : State) (a0 : Array Value) (hw : ∀ d ∈ tables_1, d.before a0 Z = true) (ws : List Jvm.Cond) (a_WARM_UP_QUEUE : Addr) (a_WARM_UP : Addr) (h0 : Heap) (n0 : Nat) (O0 : Old Z n0 h0) (G0 : Sta Z Z.heap "com/example/osier/osier/FlowRule$ControlBehavior" "WARM_UP" "Lcom/example/osier/osier/FlowRule$ControlBehavior;" (.ref a_WARM_UP)) (G1 : Sta Z Z.heap "com/example/osier/osier/FlowRule$ControlBehavior" "WARM_UP_QUEUE" "Lcom/example/osier/osier/FlowRule$ControlBehavior;" (.ref a_WARM_UP_QUEUE)) (q0 : ¬ (a_WARM_UP_QUEUE = a_WARM_UP)) :
    MetFree l (⟨"com/example/osier/osier/FlowRule$ControlBehavior", "warmsUp", "()Z"⟩ : MethodName) (head1 (Jvm.Cond.code (⟨"com/example/osier/osier/FlowRule$ControlBehavior", "warmsUp", "()Z"⟩ : MethodName) prog_35_method_5_code 1 (some .boolean) :: ws) ({ frames := 0, cells := 0, slots := 0, locals := 0 } : Room)) (fun a U => a = #[(.ref a_WARM_UP_QUEUE)] ∧ Z.Warmed39 U.vm ∧ U.heap = h0) (fun _ _ _ _ _ => True) (fun _ U o U' => ∃ v L, o = .returned v ∧ Q_warmsUp1_2 Z a_WARM_UP_QUEUE a_WARM_UP h0 n0 v U'.heap L ∧ FrameEnd U o U' L ({ frames := 0, cells := 0, slots := 0, locals := 0 } : Room).cells ({ frames := 0, cells := 0, slots := 0, locals := 0 } : Room).slots) := by
  refine MetFree.of_bodySF (plainFor_of_name pn_2) hisR ?_
  intro p e s m args below meth c s₁ Bd hml0 hP hK
  obtain ⟨rfl, hZ, hh⟩ := hP
  have hx := Bd.exec
  have hby := Bd.bytes
  have hml : c.maxLocals = 1 := hml0
  have hown : s.vm.findClass "com/example/osier/osier/FlowRule$ControlBehavior" = some m.cls := findClass_of_methodNamed Bd.named
  have hnm := (name_of_methodNamed Bd.named Bd.method).1
  have X0 : Stand p l e ({ frames := 0, cells := 0, slots := 0, locals := 0 } : Room) s m #[(.ref a_WARM_UP_QUEUE)] below meth c s₁ [] 0 0 := Stand.of_body Bd
  have e0 : s₁.heap = h0 := by rw [← hh, Bd.state]; rfl
  have N0 := Fr.nil n0
  have pre0 : ∀ t, Steps p.tables e below (s₁.setTop (mkF m 0 #[.val (.ref a_WARM_UP_QUEUE)] [])) t → Steps p.tables e below (s₁.setTop (entryFrame m #[(.ref a_WARM_UP_QUEUE)] 1)) t := fun t k => castTop (ef_3 m a_WARM_UP_QUEUE) k
  have K0 : Keep h0 h0 [] := Keep.refl h0 []
  have pre80 : ∀ t, Steps p.tables e below (s₁.setTop (mkF m 1 #[.val (.ref a_WARM_UP_QUEUE)] [(.ref a_WARM_UP_QUEUE)])) t → Steps p.tables e below (s₁.setTop (entryFrame m #[(.ref a_WARM_UP_QUEUE)] 1)) t := fun t kt => by
    refine pre0 _ ?_
    show Steps p.tables e below (s₁.setTop (mkF m 0 #[.val (.ref a_WARM_UP_QUEUE)] [])) _
    refine XS.aloadN X0.here hx rfl (hb hby d1_0) rfl rfl ?_
    exact kt
  obtain ⟨T81, X81, e81, st81⟩ := getS2 X0 hx hZ hown (host := "") (Or.inl (hw _ (List.mem_of_getElem? (i := 8) rfl))) Via.refl e0 (G0.ext O0.2) (g := (mkF m 1 #[.val (.ref a_WARM_UP_QUEUE)] [(.ref a_WARM_UP_QUEUE)])) rfl (hb hby d1_1)
  have pre82 : ∀ t, Steps p.tables e below (T81.setTop (mkF m 4 #[.val (.ref a_WARM_UP_QUEUE)] [(.ref a_WARM_UP), (.ref a_WARM_UP_QUEUE)])) t → Steps p.tables e below (s₁.setTop (entryFrame m #[(.ref a_WARM_UP_QUEUE)] 1)) t := fun t kt => pre80 _ (st81 _ kt)
  have pre83 : ∀ t, Steps p.tables e below (T81.setTop (mkF m 8 #[.val (.ref a_WARM_UP_QUEUE)] [(.ref a_WARM_UP_QUEUE)])) t → Steps p.tables e below (s₁.setTop (entryFrame m #[(.ref a_WARM_UP_QUEUE)] 1)) t := fun t kt => by
    refine pre82 _ ?_
    show Steps p.tables e below (T81.setTop (mkF m 4 #[.val (.ref a_WARM_UP_QUEUE)] [(.ref a_WARM_UP), (.ref a_WARM_UP_QUEUE)])) _
    refine Jvm.RoadKit.acmp (g := (mkF m 4 #[.val (.ref a_WARM_UP_QUEUE)] [(.ref a_WARM_UP), (.ref a_WARM_UP_QUEUE)])) X81 hx rfl rfl rfl (pc0 := 4) (pc' := 7) (same := false) rfl (hb hby d1_4) rfl (decide_eq_false fun q => q0 (Value.ref.inj q)) (by decide) (by decide) ?_
    show Steps p.tables e below (T81.setTop (mkF m 7 #[.val (.ref a_WARM_UP_QUEUE)] [])) _
    refine XS.aloadN X81.here hx rfl (hb hby d1_7) rfl rfl ?_
    exact kt
  obtain ⟨T84, X84, e84, st84⟩ := getS2 X81 hx hZ hown (host := "") (Or.inl (hw _ (List.mem_of_getElem? (i := 10) rfl))) Via.refl e81 (G1.ext O0.2) (g := (mkF m 8 #[.val (.ref a_WARM_UP_QUEUE)] [(.ref a_WARM_UP_QUEUE)])) rfl (hb hby d1_8)
  have pre85 : ∀ t, Steps p.tables e below (T84.setTop (mkF m 11 #[.val (.ref a_WARM_UP_QUEUE)] [(.ref a_WARM_UP_QUEUE), (.ref a_WARM_UP_QUEUE)])) t → Steps p.tables e below (s₁.setTop (entryFrame m #[(.ref a_WARM_UP_QUEUE)] 1)) t := fun t kt => pre83 _ (st84 _ kt)
  have pre86 : ∀ t, Steps p.tables e below (T84.setTop (mkF m 19 #[.val (.ref a_WARM_UP_QUEUE)] [(.int (1 : Int32))])) t → Steps p.tables e below (s₁.setTop (entryFrame m #[(.ref a_WARM_UP_QUEUE)] 1)) t := fun t kt => by
    refine pre85 _ ?_
    show Steps p.tables e below (T84.setTop (mkF m 11 #[.val (.ref a_WARM_UP_QUEUE)] [(.ref a_WARM_UP_QUEUE), (.ref a_WARM_UP_QUEUE)])) _
    refine Jvm.RoadKit.acmp (g := (mkF m 11 #[.val (.ref a_WARM_UP_QUEUE)] [(.ref a_WARM_UP_QUEUE), (.ref a_WARM_UP_QUEUE)])) X84 hx rfl rfl rfl (pc0 := 11) (pc' := 14) (same := true) rfl (hb hby d1_11) rfl (decide_eq_true rfl) (by decide) (by decide) ?_
    show Steps p.tables e below (T84.setTop (mkF m 14 #[.val (.ref a_WARM_UP_QUEUE)] [])) _
    refine XS.iconst X84.here hx rfl (hb hby d1_14) ?_
    show Steps p.tables e below (T84.setTop (mkF m 15 #[.val (.ref a_WARM_UP_QUEUE)] [(.int (1 : Int32))])) _
    refine XS.goto X84.here hx rfl (pc0 := 15) (pc' := 19) rfl (hb hby d1_15) (by decide) (by decide) ?_
    exact kt
  obtain ⟨fs, hr, hrun, hended, hW, hsame⟩ := X84.leave (v := some (.int (1 : Int32))) (fun h => by rw [Bd.returns] at h; cases h)
  refine ⟨_, _, pre86 _ (retN X84 hx (t := .boolean) Bd.returns (by simp) (hb hby d1_19) hr), hrun, hended, _, _, rfl, ?_, ⟨_, rfl⟩, hW, hsame.mono (by decide) (by decide)⟩
  show Q_warmsUp1_2 Z a_WARM_UP_QUEUE a_WARM_UP h0 n0 _ T84.heap _
  rw [e84]
  exact ⟨rfl, N0, rfl⟩
def Q_law (Z : State) (p0 : Int32) (a_REFUSE : Addr) (a_WARM_UP : Addr) (a_WARM_UP_QUEUE : Addr) (a_QUEUE : Addr) (h0 : Heap) (n0 : Nat) (v : Option Value) (h : Heap) (L : List Loc) : Prop := v = some (.int (1 : Int32)) ∧ Fr n0 L
set_option maxRecDepth 65536 in
set_option maxHeartbeats 40000000 in
theorem rm_law (l : Launch) (Z : State) (a0 : Array Value) (hw : ∀ d ∈ tables_1, d.before a0 Z = true) (ws : List Jvm.Cond) (p0 : Int32) (a_REFUSE : Addr) (a_WARM_UP : Addr) (a_WARM_UP_QUEUE : Addr) (a_QUEUE : Addr) (h0 : Heap) (n0 : Nat) (O0 : Old Z n0 h0) (G0 : Sta Z Z.heap "com/example/osier/osier/FlowRule$ControlBehavior" "REFUSE" "Lcom/example/osier/osier/FlowRule$ControlBehavior;" (.ref a_REFUSE)) (G1 : Exa Z Z.heap a_REFUSE "com/example/osier/osier/FlowRule$ControlBehavior") (G2 : Sta Z Z.heap "com/example/osier/osier/FlowRule$ControlBehavior" "WARM_UP" "Lcom/example/osier/osier/FlowRule$ControlBehavior;" (.ref a_WARM_UP)) (G3 : Exa Z Z.heap a_WARM_UP "com/example/osier/osier/FlowRule$ControlBehavior") (G4 : Sta Z Z.heap "com/example/osier/osier/FlowRule$ControlBehavior" "WARM_UP_QUEUE" "Lcom/example/osier/osier/FlowRule$ControlBehavior;" (.ref a_WARM_UP_QUEUE)) (G5 : Exa Z Z.heap a_WARM_UP_QUEUE "com/example/osier/osier/FlowRule$ControlBehavior") (G6 : Sta Z Z.heap "com/example/osier/osier/FlowRule$ControlBehavior" "QUEUE" "Lcom/example/osier/osier/FlowRule$ControlBehavior;" (.ref a_QUEUE)) (G7 : Exa Z Z.heap a_QUEUE "com/example/osier/osier/FlowRule$ControlBehavior") (G8 : Fld Z Z.heap a_REFUSE "java/lang/Enum" "ordinal" "I" (.int (0 : Int32))) (G9 : Fld Z Z.heap a_WARM_UP "java/lang/Enum" "ordinal" "I" (.int (1 : Int32))) (G10 : Fld Z Z.heap a_WARM_UP_QUEUE "java/lang/Enum" "ordinal" "I" (.int (3 : Int32))) (G11 : Fld Z Z.heap a_QUEUE "java/lang/Enum" "ordinal" "I" (.int (2 : Int32))) :
    MetFree l x (head1 (Jvm.Cond.code x code maxLocals ret :: ws) room_1) (fun a U => a = #[(.int p0)] ∧ Z.Warmed39 U.vm ∧ U.heap = h0) (fun _ _ _ _ _ => True) (fun _ U o U' => ∃ v L, o = .returned v ∧ Q_law Z p0 a_REFUSE a_WARM_UP a_WARM_UP_QUEUE a_QUEUE h0 n0 v U'.heap L ∧ FrameEnd U o U' L room_1.cells room_1.slots) := by
  refine MetFree.of_bodySF (plainFor_of_name pn_0) hisR ?_
  intro p e s m args below meth c s₁ Bd hml0 hP hK
  obtain ⟨rfl, hZ, hh⟩ := hP
  have hx := Bd.exec
  have hby := Bd.bytes
  have hml : c.maxLocals = 4 := hml0
  have hown : s.vm.findClass "com/example/osier/osier/ControlBehaviorWarmsUpPinLaw" = some m.cls := findClass_of_methodNamed Bd.named
  have hnm := (name_of_methodNamed Bd.named Bd.method).1
  have X0 : Stand p l e room_1 s m #[(.int p0)] below meth c s₁ [] 0 0 := Stand.of_body Bd
  have e0 : s₁.heap = h0 := by rw [← hh, Bd.state]; rfl
  have N0 := Fr.nil n0
  have pre0 : ∀ t, Steps p.tables e below (s₁.setTop (mkF m 0 #[.val (.int p0), .unset, .unset, .unset] [])) t → Steps p.tables e below (s₁.setTop (entryFrame m #[(.int p0)] maxLocals)) t := fun t k => castTop (ef_1 m p0) k
  have K0 : Keep h0 h0 [] := Keep.refl h0 []
  have ne_a_REFUSE_a_WARM_UP : a_REFUSE ≠ a_WARM_UP := own_fld_ne G8 G9 (by decide)
  have ne_a_REFUSE_a_WARM_UP_QUEUE : a_REFUSE ≠ a_WARM_UP_QUEUE := own_fld_ne G8 G10 (by decide)
  have ne_a_REFUSE_a_QUEUE : a_REFUSE ≠ a_QUEUE := own_fld_ne G8 G11 (by decide)
  have ne_a_WARM_UP_a_WARM_UP_QUEUE : a_WARM_UP ≠ a_WARM_UP_QUEUE := own_fld_ne G9 G10 (by decide)
  have ne_a_WARM_UP_a_QUEUE : a_WARM_UP ≠ a_QUEUE := own_fld_ne G9 G11 (by decide)
  have ne_a_WARM_UP_QUEUE_a_QUEUE : a_WARM_UP_QUEUE ≠ a_QUEUE := own_fld_ne G10 G11 (by decide)
  have pre1 : ∀ t, Steps p.tables e below (s₁.setTop (mkF m 5 #[.val (.int p0), .val (.int (p0 &&& (3 : Int32))), .unset, .unset] [(.int (p0 &&& (3 : Int32)))])) t → Steps p.tables e below (s₁.setTop (entryFrame m #[(.int p0)] maxLocals)) t := fun t kt => by
    refine pre0 _ ?_
    show Steps p.tables e below (s₁.setTop (mkF m 0 #[.val (.int p0), .unset, .unset, .unset] [])) _
    refine XS.iloadN X0.here hx rfl (hb hby at_0) rfl ?_
    show Steps p.tables e below (s₁.setTop (mkF m 1 #[.val (.int p0), .unset, .unset, .unset] [(.int p0)])) _
    refine XS.iconst X0.here hx rfl (hb hby at_1) ?_
    show Steps p.tables e below (s₁.setTop (mkF m 2 #[.val (.int p0), .unset, .unset, .unset] [(.int (3 : Int32)), (.int p0)])) _
    refine XS.iand X0.here hx rfl (hb hby at_2) rfl ?_
    show Steps p.tables e below (s₁.setTop (mkF m 3 #[.val (.int p0), .unset, .unset, .unset] [(.int (p0 &&& (3 : Int32)))])) _
    refine XS.istoreN X0.here hx rfl (hb hby at_3) rfl (l' := #[.val (.int p0), .val (.int (p0 &&& (3 : Int32))), .unset, .unset]) rfl ?_
    show Steps p.tables e below (s₁.setTop (mkF m 4 #[.val (.int p0), .val (.int (p0 &&& (3 : Int32))), .unset, .unset] [])) _
    refine XS.iloadN X0.here hx rfl (hb hby at_4) rfl ?_
    exact kt
  by_cases hc2 : (p0 &&& (3 : Int32)) = (0 : Int32)
  · have pre3 : ∀ t, Steps p.tables e below (s₁.setTop (mkF m 8 #[.val (.int p0), .val (.int (p0 &&& (3 : Int32))), .unset, .unset] [])) t → Steps p.tables e below (s₁.setTop (entryFrame m #[(.int p0)] maxLocals)) t := fun t kt => by
      refine pre1 _ ?_
      show Steps p.tables e below (s₁.setTop (mkF m 5 #[.val (.int p0), .val (.int (p0 &&& (3 : Int32))), .unset, .unset] [(.int (p0 &&& (3 : Int32)))])) _
      refine XS.ifNo X0.here hx rfl (hb hby at_5) rfl (XT.i0_ne_f hc2) ?_
      exact kt
    obtain ⟨T4, X4, e4, st4⟩ := getS2 X0 hx hZ hown (host := "") (Or.inl (hw _ (List.mem_of_getElem? (i := 0) rfl))) Via.refl e0 (G0.ext O0.2) (g := (mkF m 8 #[.val (.int p0), .val (.int (p0 &&& (3 : Int32))), .unset, .unset] [])) rfl (hb hby at_8)
    have pre5 : ∀ t, Steps p.tables e below (T4.setTop (mkF m 11 #[.val (.int p0), .val (.int (p0 &&& (3 : Int32))), .unset, .unset] [(.ref a_REFUSE)])) t → Steps p.tables e below (s₁.setTop (entryFrame m #[(.int p0)] maxLocals)) t := fun t kt => pre3 _ (st4 _ kt)
    have pre6 : ∀ t, Steps p.tables e below (T4.setTop (mkF m 52 #[.val (.int p0), .val (.int (p0 &&& (3 : Int32))), .val (.ref a_REFUSE), .val (.int (0 : Int32))] [(.ref a_REFUSE)])) t → Steps p.tables e below (s₁.setTop (entryFrame m #[(.int p0)] maxLocals)) t := fun t kt => by
      refine pre5 _ ?_
      show Steps p.tables e below (T4.setTop (mkF m 11 #[.val (.int p0), .val (.int (p0 &&& (3 : Int32))), .unset, .unset] [(.ref a_REFUSE)])) _
      refine XS.astoreN X4.here hx rfl (hb hby at_11) rfl rfl (l' := #[.val (.int p0), .val (.int (p0 &&& (3 : Int32))), .val (.ref a_REFUSE), .unset]) rfl ?_
      show Steps p.tables e below (T4.setTop (mkF m 12 #[.val (.int p0), .val (.int (p0 &&& (3 : Int32))), .val (.ref a_REFUSE), .unset] [])) _
      refine XS.iconst X4.here hx rfl (hb hby at_12) ?_
      show Steps p.tables e below (T4.setTop (mkF m 13 #[.val (.int p0), .val (.int (p0 &&& (3 : Int32))), .val (.ref a_REFUSE), .unset] [(.int (0 : Int32))])) _
      refine XS.istoreN X4.here hx rfl (hb hby at_13) rfl (l' := #[.val (.int p0), .val (.int (p0 &&& (3 : Int32))), .val (.ref a_REFUSE), .val (.int (0 : Int32))]) rfl ?_
      show Steps p.tables e below (T4.setTop (mkF m 14 #[.val (.int p0), .val (.int (p0 &&& (3 : Int32))), .val (.ref a_REFUSE), .val (.int (0 : Int32))] [])) _
      refine XS.goto X4.here hx rfl (pc0 := 14) (pc' := 51) rfl (hb hby at_14) (by decide) (by decide) ?_
      show Steps p.tables e below (T4.setTop (mkF m 51 #[.val (.int p0), .val (.int (p0 &&& (3 : Int32))), .val (.ref a_REFUSE), .val (.int (0 : Int32))] [])) _
      refine XS.aloadN X4.here hx rfl (hb hby at_51) rfl rfl ?_
      exact kt
    obtain ⟨cq7, kq7, q7a, q7b, q7c⟩ := isOf hZ e4 (G1.ext O0.2)
    obtain ⟨_, _, ⟨T7, L7, k7, n7⟩, -, X7, ⟨Lc7, hQ7, l7, y7, z7⟩, st7⟩ := X4.virtualBack hx (y := (⟨"com/example/osier/osier/FlowRule$ControlBehavior", "warmsUp", "()Z"⟩ : MethodName)) (z := (⟨"com/example/osier/osier/FlowRule$ControlBehavior", "warmsUp", "()Z"⟩ : MethodName)) hown (mvT hZ (hw _ (List.mem_of_getElem? (i := 3) rfl))) (mvT hZ (hw _ (List.mem_of_getElem? (i := 4) rfl))) (notFace_of_selects (args := #[]) (mvT hZ (hw _ (List.mem_of_getElem? (i := 6) rfl)))) (mvT hZ (hw _ (List.mem_of_getElem? (i := 6) rfl))) (mvT hZ (hw _ (List.mem_of_getElem? (i := 5) rfl))) (by decide) (backOf (W := 0) (rm_warmsUp1_0 l Z a0 hw [] a_REFUSE a_WARM_UP a_WARM_UP_QUEUE h0 n0 O0 G2 G4 (fun q => ne_a_REFUSE_a_WARM_UP q.symm) (fun q => ne_a_REFUSE_a_WARM_UP_QUEUE q.symm)) hZ (hw _ (List.mem_of_getElem? (i := 7) rfl)) (hw _ (List.mem_of_getElem? (i := 1) rfl)) (by decide) (by decide)) q7a q7c (g := (mkF m 52 #[.val (.int p0), .val (.int (p0 &&& (3 : Int32))), .val (.ref a_REFUSE), .val (.int (0 : Int32))] [(.ref a_REFUSE)])) rfl (by rw [hml]; rfl) (Steps.refl _) (argsL := []) (rest := []) (lenOf pd_4 rfl) rfl (by show 2 * 0 + _ ≤ _; exact Nat.le_of_eq rfl) (hb hby at_52) (fun _ _ => ⟨rfl, e4, (by decide : 0 + 0 ≤ _), (by decide : 0 + 0 ≤ _)⟩)
    dsimp only [Pt.U, Pt.locs, Pt.cells, Pt.slots] at X7 l7 y7 z7 st7 hQ7
    subst l7 y7 z7
    obtain ⟨rfl, M7, e7⟩ := hQ7
    have N7 := Fr.app N0 M7
    have pre29 : ∀ t, Steps p.tables e below (T7.setTop (mkF m 55 #[.val (.int p0), .val (.int (p0 &&& (3 : Int32))), .val (.ref a_REFUSE), .val (.int (0 : Int32))] [(.int (0 : Int32))])) t → Steps p.tables e below (s₁.setTop (entryFrame m #[(.int p0)] maxLocals)) t := fun t kt => pre6 _ (st7.trans kt)
    have pre30 : ∀ t, Steps p.tables e below (T7.setTop (mkF m 64 #[.val (.int p0), .val (.int (p0 &&& (3 : Int32))), .val (.ref a_REFUSE), .val (.int (0 : Int32))] [(.int (1 : Int32))])) t → Steps p.tables e below (s₁.setTop (entryFrame m #[(.int p0)] maxLocals)) t := fun t kt => by
      refine pre29 _ ?_
      show Steps p.tables e below (T7.setTop (mkF m 55 #[.val (.int p0), .val (.int (p0 &&& (3 : Int32))), .val (.ref a_REFUSE), .val (.int (0 : Int32))] [(.int (0 : Int32))])) _
      refine XS.iloadN X7.here hx rfl (hb hby at_55) rfl ?_
      show Steps p.tables e below (T7.setTop (mkF m 56 #[.val (.int p0), .val (.int (p0 &&& (3 : Int32))), .val (.ref a_REFUSE), .val (.int (0 : Int32))] [(.int (0 : Int32)), (.int (0 : Int32))])) _
      refine XS.icmpNo X7.here hx rfl (hb hby at_56) rfl (XT.ii_ne_f (by decide)) ?_
      show Steps p.tables e below (T7.setTop (mkF m 59 #[.val (.int p0), .val (.int (p0 &&& (3 : Int32))), .val (.ref a_REFUSE), .val (.int (0 : Int32))] [])) _
      refine XS.iconst X7.here hx rfl (hb hby at_59) ?_
      show Steps p.tables e below (T7.setTop (mkF m 60 #[.val (.int p0), .val (.int (p0 &&& (3 : Int32))), .val (.ref a_REFUSE), .val (.int (0 : Int32))] [(.int (1 : Int32))])) _
      refine XS.goto X7.here hx rfl (pc0 := 60) (pc' := 64) rfl (hb hby at_60) (by decide) (by decide) ?_
      exact kt
    obtain ⟨fs, hr, hrun, hended, hW, hsame⟩ := X7.leave (v := some (.int (1 : Int32))) (fun h => by rw [Bd.returns] at h; cases h)
    refine ⟨_, _, pre30 _ (retN X7 hx (t := .boolean) Bd.returns (by simp) (hb hby at_64) hr), hrun, hended, _, _, rfl, ?_, ⟨_, rfl⟩, hW, hsame.mono (by decide) (by decide)⟩
    show Q_law Z p0 a_REFUSE a_WARM_UP a_WARM_UP_QUEUE a_QUEUE h0 n0 _ T7.heap _
    rw [e7]
    exact ⟨rfl, N7⟩
  · have pre31 : ∀ t, Steps p.tables e below (s₁.setTop (mkF m 19 #[.val (.int p0), .val (.int (p0 &&& (3 : Int32))), .unset, .unset] [(.int (1 : Int32)), (.int (p0 &&& (3 : Int32)))])) t → Steps p.tables e below (s₁.setTop (entryFrame m #[(.int p0)] maxLocals)) t := fun t kt => by
      refine pre1 _ ?_
      show Steps p.tables e below (s₁.setTop (mkF m 5 #[.val (.int p0), .val (.int (p0 &&& (3 : Int32))), .unset, .unset] [(.int (p0 &&& (3 : Int32)))])) _
      refine XS.ifYes X0.here hx rfl (pc0 := 5) (pc' := 17) rfl (hb hby at_5) rfl (XT.i0_ne_t hc2) (by decide) (by decide) ?_
      show Steps p.tables e below (s₁.setTop (mkF m 17 #[.val (.int p0), .val (.int (p0 &&& (3 : Int32))), .unset, .unset] [])) _
      refine XS.iloadN X0.here hx rfl (hb hby at_17) rfl ?_
      show Steps p.tables e below (s₁.setTop (mkF m 18 #[.val (.int p0), .val (.int (p0 &&& (3 : Int32))), .unset, .unset] [(.int (p0 &&& (3 : Int32)))])) _
      refine XS.iconst X0.here hx rfl (hb hby at_18) ?_
      exact kt
    by_cases hc32 : (p0 &&& (3 : Int32)) = (1 : Int32)
    · have pre33 : ∀ t, Steps p.tables e below (s₁.setTop (mkF m 22 #[.val (.int p0), .val (.int (p0 &&& (3 : Int32))), .unset, .unset] [])) t → Steps p.tables e below (s₁.setTop (entryFrame m #[(.int p0)] maxLocals)) t := fun t kt => by
        refine pre31 _ ?_
        show Steps p.tables e below (s₁.setTop (mkF m 19 #[.val (.int p0), .val (.int (p0 &&& (3 : Int32))), .unset, .unset] [(.int (1 : Int32)), (.int (p0 &&& (3 : Int32)))])) _
        refine XS.icmpNo X0.here hx rfl (hb hby at_19) rfl (XT.ii_ne_f hc32) ?_
        exact kt
      obtain ⟨T34, X34, e34, st34⟩ := getS2 X0 hx hZ hown (host := "") (Or.inl (hw _ (List.mem_of_getElem? (i := 15) rfl))) Via.refl e0 (G2.ext O0.2) (g := (mkF m 22 #[.val (.int p0), .val (.int (p0 &&& (3 : Int32))), .unset, .unset] [])) rfl (hb hby at_22)
      have pre35 : ∀ t, Steps p.tables e below (T34.setTop (mkF m 25 #[.val (.int p0), .val (.int (p0 &&& (3 : Int32))), .unset, .unset] [(.ref a_WARM_UP)])) t → Steps p.tables e below (s₁.setTop (entryFrame m #[(.int p0)] maxLocals)) t := fun t kt => pre33 _ (st34 _ kt)
      have pre36 : ∀ t, Steps p.tables e below (T34.setTop (mkF m 52 #[.val (.int p0), .val (.int (p0 &&& (3 : Int32))), .val (.ref a_WARM_UP), .val (.int (1 : Int32))] [(.ref a_WARM_UP)])) t → Steps p.tables e below (s₁.setTop (entryFrame m #[(.int p0)] maxLocals)) t := fun t kt => by
        refine pre35 _ ?_
        show Steps p.tables e below (T34.setTop (mkF m 25 #[.val (.int p0), .val (.int (p0 &&& (3 : Int32))), .unset, .unset] [(.ref a_WARM_UP)])) _
        refine XS.astoreN X34.here hx rfl (hb hby at_25) rfl rfl (l' := #[.val (.int p0), .val (.int (p0 &&& (3 : Int32))), .val (.ref a_WARM_UP), .unset]) rfl ?_
        show Steps p.tables e below (T34.setTop (mkF m 26 #[.val (.int p0), .val (.int (p0 &&& (3 : Int32))), .val (.ref a_WARM_UP), .unset] [])) _
        refine XS.iconst X34.here hx rfl (hb hby at_26) ?_
        show Steps p.tables e below (T34.setTop (mkF m 27 #[.val (.int p0), .val (.int (p0 &&& (3 : Int32))), .val (.ref a_WARM_UP), .unset] [(.int (1 : Int32))])) _
        refine XS.istoreN X34.here hx rfl (hb hby at_27) rfl (l' := #[.val (.int p0), .val (.int (p0 &&& (3 : Int32))), .val (.ref a_WARM_UP), .val (.int (1 : Int32))]) rfl ?_
        show Steps p.tables e below (T34.setTop (mkF m 28 #[.val (.int p0), .val (.int (p0 &&& (3 : Int32))), .val (.ref a_WARM_UP), .val (.int (1 : Int32))] [])) _
        refine XS.goto X34.here hx rfl (pc0 := 28) (pc' := 51) rfl (hb hby at_28) (by decide) (by decide) ?_
        show Steps p.tables e below (T34.setTop (mkF m 51 #[.val (.int p0), .val (.int (p0 &&& (3 : Int32))), .val (.ref a_WARM_UP), .val (.int (1 : Int32))] [])) _
        refine XS.aloadN X34.here hx rfl (hb hby at_51) rfl rfl ?_
        exact kt
      obtain ⟨cq37, kq37, q37a, q37b, q37c⟩ := isOf hZ e34 (G3.ext O0.2)
      obtain ⟨_, _, ⟨T37, L37, k37, n37⟩, -, X37, ⟨Lc37, hQ37, l37, y37, z37⟩, st37⟩ := X34.virtualBack hx (y := (⟨"com/example/osier/osier/FlowRule$ControlBehavior", "warmsUp", "()Z"⟩ : MethodName)) (z := (⟨"com/example/osier/osier/FlowRule$ControlBehavior", "warmsUp", "()Z"⟩ : MethodName)) hown (mvT hZ (hw _ (List.mem_of_getElem? (i := 3) rfl))) (mvT hZ (hw _ (List.mem_of_getElem? (i := 4) rfl))) (notFace_of_selects (args := #[]) (mvT hZ (hw _ (List.mem_of_getElem? (i := 6) rfl)))) (mvT hZ (hw _ (List.mem_of_getElem? (i := 6) rfl))) (mvT hZ (hw _ (List.mem_of_getElem? (i := 5) rfl))) (by decide) (backOf (W := 0) (rm_warmsUp1_1 l Z a0 hw [] a_WARM_UP h0 n0 O0 G2) hZ (hw _ (List.mem_of_getElem? (i := 7) rfl)) (hw _ (List.mem_of_getElem? (i := 1) rfl)) (by decide) (by decide)) q37a q37c (g := (mkF m 52 #[.val (.int p0), .val (.int (p0 &&& (3 : Int32))), .val (.ref a_WARM_UP), .val (.int (1 : Int32))] [(.ref a_WARM_UP)])) rfl (by rw [hml]; rfl) (Steps.refl _) (argsL := []) (rest := []) (lenOf pd_4 rfl) rfl (by show 2 * 0 + _ ≤ _; exact Nat.le_of_eq rfl) (hb hby at_52) (fun _ _ => ⟨rfl, e34, (by decide : 0 + 0 ≤ _), (by decide : 0 + 0 ≤ _)⟩)
      dsimp only [Pt.U, Pt.locs, Pt.cells, Pt.slots] at X37 l37 y37 z37 st37 hQ37
      subst l37 y37 z37
      obtain ⟨rfl, M37, e37⟩ := hQ37
      have N37 := Fr.app N0 M37
      have pre50 : ∀ t, Steps p.tables e below (T37.setTop (mkF m 55 #[.val (.int p0), .val (.int (p0 &&& (3 : Int32))), .val (.ref a_WARM_UP), .val (.int (1 : Int32))] [(.int (1 : Int32))])) t → Steps p.tables e below (s₁.setTop (entryFrame m #[(.int p0)] maxLocals)) t := fun t kt => pre36 _ (st37.trans kt)
      have pre51 : ∀ t, Steps p.tables e below (T37.setTop (mkF m 64 #[.val (.int p0), .val (.int (p0 &&& (3 : Int32))), .val (.ref a_WARM_UP), .val (.int (1 : Int32))] [(.int (1 : Int32))])) t → Steps p.tables e below (s₁.setTop (entryFrame m #[(.int p0)] maxLocals)) t := fun t kt => by
        refine pre50 _ ?_
        show Steps p.tables e below (T37.setTop (mkF m 55 #[.val (.int p0), .val (.int (p0 &&& (3 : Int32))), .val (.ref a_WARM_UP), .val (.int (1 : Int32))] [(.int (1 : Int32))])) _
        refine XS.iloadN X37.here hx rfl (hb hby at_55) rfl ?_
        show Steps p.tables e below (T37.setTop (mkF m 56 #[.val (.int p0), .val (.int (p0 &&& (3 : Int32))), .val (.ref a_WARM_UP), .val (.int (1 : Int32))] [(.int (1 : Int32)), (.int (1 : Int32))])) _
        refine XS.icmpNo X37.here hx rfl (hb hby at_56) rfl (XT.ii_ne_f (by decide)) ?_
        show Steps p.tables e below (T37.setTop (mkF m 59 #[.val (.int p0), .val (.int (p0 &&& (3 : Int32))), .val (.ref a_WARM_UP), .val (.int (1 : Int32))] [])) _
        refine XS.iconst X37.here hx rfl (hb hby at_59) ?_
        show Steps p.tables e below (T37.setTop (mkF m 60 #[.val (.int p0), .val (.int (p0 &&& (3 : Int32))), .val (.ref a_WARM_UP), .val (.int (1 : Int32))] [(.int (1 : Int32))])) _
        refine XS.goto X37.here hx rfl (pc0 := 60) (pc' := 64) rfl (hb hby at_60) (by decide) (by decide) ?_
        exact kt
      obtain ⟨fs, hr, hrun, hended, hW, hsame⟩ := X37.leave (v := some (.int (1 : Int32))) (fun h => by rw [Bd.returns] at h; cases h)
      refine ⟨_, _, pre51 _ (retN X37 hx (t := .boolean) Bd.returns (by simp) (hb hby at_64) hr), hrun, hended, _, _, rfl, ?_, ⟨_, rfl⟩, hW, hsame.mono (by decide) (by decide)⟩
      show Q_law Z p0 a_REFUSE a_WARM_UP a_WARM_UP_QUEUE a_QUEUE h0 n0 _ T37.heap _
      rw [e37]
      exact ⟨rfl, N37⟩
    · have pre52 : ∀ t, Steps p.tables e below (s₁.setTop (mkF m 33 #[.val (.int p0), .val (.int (p0 &&& (3 : Int32))), .unset, .unset] [(.int (2 : Int32)), (.int (p0 &&& (3 : Int32)))])) t → Steps p.tables e below (s₁.setTop (entryFrame m #[(.int p0)] maxLocals)) t := fun t kt => by
        refine pre31 _ ?_
        show Steps p.tables e below (s₁.setTop (mkF m 19 #[.val (.int p0), .val (.int (p0 &&& (3 : Int32))), .unset, .unset] [(.int (1 : Int32)), (.int (p0 &&& (3 : Int32)))])) _
        refine XS.icmpYes X0.here hx rfl (pc0 := 19) (pc' := 31) rfl (hb hby at_19) rfl (XT.ii_ne_t hc32) (by decide) (by decide) ?_
        show Steps p.tables e below (s₁.setTop (mkF m 31 #[.val (.int p0), .val (.int (p0 &&& (3 : Int32))), .unset, .unset] [])) _
        refine XS.iloadN X0.here hx rfl (hb hby at_31) rfl ?_
        show Steps p.tables e below (s₁.setTop (mkF m 32 #[.val (.int p0), .val (.int (p0 &&& (3 : Int32))), .unset, .unset] [(.int (p0 &&& (3 : Int32)))])) _
        refine XS.iconst X0.here hx rfl (hb hby at_32) ?_
        exact kt
      by_cases hc53 : (p0 &&& (3 : Int32)) = (2 : Int32)
      · have pre54 : ∀ t, Steps p.tables e below (s₁.setTop (mkF m 36 #[.val (.int p0), .val (.int (p0 &&& (3 : Int32))), .unset, .unset] [])) t → Steps p.tables e below (s₁.setTop (entryFrame m #[(.int p0)] maxLocals)) t := fun t kt => by
          refine pre52 _ ?_
          show Steps p.tables e below (s₁.setTop (mkF m 33 #[.val (.int p0), .val (.int (p0 &&& (3 : Int32))), .unset, .unset] [(.int (2 : Int32)), (.int (p0 &&& (3 : Int32)))])) _
          refine XS.icmpNo X0.here hx rfl (hb hby at_33) rfl (XT.ii_ne_f hc53) ?_
          exact kt
        obtain ⟨T55, X55, e55, st55⟩ := getS2 X0 hx hZ hown (host := "") (Or.inl (hw _ (List.mem_of_getElem? (i := 13) rfl))) Via.refl e0 (G6.ext O0.2) (g := (mkF m 36 #[.val (.int p0), .val (.int (p0 &&& (3 : Int32))), .unset, .unset] [])) rfl (hb hby at_36)
        have pre56 : ∀ t, Steps p.tables e below (T55.setTop (mkF m 39 #[.val (.int p0), .val (.int (p0 &&& (3 : Int32))), .unset, .unset] [(.ref a_QUEUE)])) t → Steps p.tables e below (s₁.setTop (entryFrame m #[(.int p0)] maxLocals)) t := fun t kt => pre54 _ (st55 _ kt)
        have pre57 : ∀ t, Steps p.tables e below (T55.setTop (mkF m 52 #[.val (.int p0), .val (.int (p0 &&& (3 : Int32))), .val (.ref a_QUEUE), .val (.int (0 : Int32))] [(.ref a_QUEUE)])) t → Steps p.tables e below (s₁.setTop (entryFrame m #[(.int p0)] maxLocals)) t := fun t kt => by
          refine pre56 _ ?_
          show Steps p.tables e below (T55.setTop (mkF m 39 #[.val (.int p0), .val (.int (p0 &&& (3 : Int32))), .unset, .unset] [(.ref a_QUEUE)])) _
          refine XS.astoreN X55.here hx rfl (hb hby at_39) rfl rfl (l' := #[.val (.int p0), .val (.int (p0 &&& (3 : Int32))), .val (.ref a_QUEUE), .unset]) rfl ?_
          show Steps p.tables e below (T55.setTop (mkF m 40 #[.val (.int p0), .val (.int (p0 &&& (3 : Int32))), .val (.ref a_QUEUE), .unset] [])) _
          refine XS.iconst X55.here hx rfl (hb hby at_40) ?_
          show Steps p.tables e below (T55.setTop (mkF m 41 #[.val (.int p0), .val (.int (p0 &&& (3 : Int32))), .val (.ref a_QUEUE), .unset] [(.int (0 : Int32))])) _
          refine XS.istoreN X55.here hx rfl (hb hby at_41) rfl (l' := #[.val (.int p0), .val (.int (p0 &&& (3 : Int32))), .val (.ref a_QUEUE), .val (.int (0 : Int32))]) rfl ?_
          show Steps p.tables e below (T55.setTop (mkF m 42 #[.val (.int p0), .val (.int (p0 &&& (3 : Int32))), .val (.ref a_QUEUE), .val (.int (0 : Int32))] [])) _
          refine XS.goto X55.here hx rfl (pc0 := 42) (pc' := 51) rfl (hb hby at_42) (by decide) (by decide) ?_
          show Steps p.tables e below (T55.setTop (mkF m 51 #[.val (.int p0), .val (.int (p0 &&& (3 : Int32))), .val (.ref a_QUEUE), .val (.int (0 : Int32))] [])) _
          refine XS.aloadN X55.here hx rfl (hb hby at_51) rfl rfl ?_
          exact kt
        obtain ⟨cq58, kq58, q58a, q58b, q58c⟩ := isOf hZ e55 (G7.ext O0.2)
        obtain ⟨_, _, ⟨T58, L58, k58, n58⟩, -, X58, ⟨Lc58, hQ58, l58, y58, z58⟩, st58⟩ := X55.virtualBack hx (y := (⟨"com/example/osier/osier/FlowRule$ControlBehavior", "warmsUp", "()Z"⟩ : MethodName)) (z := (⟨"com/example/osier/osier/FlowRule$ControlBehavior", "warmsUp", "()Z"⟩ : MethodName)) hown (mvT hZ (hw _ (List.mem_of_getElem? (i := 3) rfl))) (mvT hZ (hw _ (List.mem_of_getElem? (i := 4) rfl))) (notFace_of_selects (args := #[]) (mvT hZ (hw _ (List.mem_of_getElem? (i := 6) rfl)))) (mvT hZ (hw _ (List.mem_of_getElem? (i := 6) rfl))) (mvT hZ (hw _ (List.mem_of_getElem? (i := 5) rfl))) (by decide) (backOf (W := 0) (rm_warmsUp1_0 l Z a0 hw [] a_QUEUE a_WARM_UP a_WARM_UP_QUEUE h0 n0 O0 G2 G4 ne_a_WARM_UP_a_QUEUE ne_a_WARM_UP_QUEUE_a_QUEUE) hZ (hw _ (List.mem_of_getElem? (i := 7) rfl)) (hw _ (List.mem_of_getElem? (i := 1) rfl)) (by decide) (by decide)) q58a q58c (g := (mkF m 52 #[.val (.int p0), .val (.int (p0 &&& (3 : Int32))), .val (.ref a_QUEUE), .val (.int (0 : Int32))] [(.ref a_QUEUE)])) rfl (by rw [hml]; rfl) (Steps.refl _) (argsL := []) (rest := []) (lenOf pd_4 rfl) rfl (by show 2 * 0 + _ ≤ _; exact Nat.le_of_eq rfl) (hb hby at_52) (fun _ _ => ⟨rfl, e55, (by decide : 0 + 0 ≤ _), (by decide : 0 + 0 ≤ _)⟩)
        dsimp only [Pt.U, Pt.locs, Pt.cells, Pt.slots] at X58 l58 y58 z58 st58 hQ58
        subst l58 y58 z58
        obtain ⟨rfl, M58, e58⟩ := hQ58
        have N58 := Fr.app N0 M58
        have pre59 : ∀ t, Steps p.tables e below (T58.setTop (mkF m 55 #[.val (.int p0), .val (.int (p0 &&& (3 : Int32))), .val (.ref a_QUEUE), .val (.int (0 : Int32))] [(.int (0 : Int32))])) t → Steps p.tables e below (s₁.setTop (entryFrame m #[(.int p0)] maxLocals)) t := fun t kt => pre57 _ (st58.trans kt)
        have pre60 : ∀ t, Steps p.tables e below (T58.setTop (mkF m 64 #[.val (.int p0), .val (.int (p0 &&& (3 : Int32))), .val (.ref a_QUEUE), .val (.int (0 : Int32))] [(.int (1 : Int32))])) t → Steps p.tables e below (s₁.setTop (entryFrame m #[(.int p0)] maxLocals)) t := fun t kt => by
          refine pre59 _ ?_
          show Steps p.tables e below (T58.setTop (mkF m 55 #[.val (.int p0), .val (.int (p0 &&& (3 : Int32))), .val (.ref a_QUEUE), .val (.int (0 : Int32))] [(.int (0 : Int32))])) _
          refine XS.iloadN X58.here hx rfl (hb hby at_55) rfl ?_
          show Steps p.tables e below (T58.setTop (mkF m 56 #[.val (.int p0), .val (.int (p0 &&& (3 : Int32))), .val (.ref a_QUEUE), .val (.int (0 : Int32))] [(.int (0 : Int32)), (.int (0 : Int32))])) _
          refine XS.icmpNo X58.here hx rfl (hb hby at_56) rfl (XT.ii_ne_f (by decide)) ?_
          show Steps p.tables e below (T58.setTop (mkF m 59 #[.val (.int p0), .val (.int (p0 &&& (3 : Int32))), .val (.ref a_QUEUE), .val (.int (0 : Int32))] [])) _
          refine XS.iconst X58.here hx rfl (hb hby at_59) ?_
          show Steps p.tables e below (T58.setTop (mkF m 60 #[.val (.int p0), .val (.int (p0 &&& (3 : Int32))), .val (.ref a_QUEUE), .val (.int (0 : Int32))] [(.int (1 : Int32))])) _
          refine XS.goto X58.here hx rfl (pc0 := 60) (pc' := 64) rfl (hb hby at_60) (by decide) (by decide) ?_
          exact kt
        obtain ⟨fs, hr, hrun, hended, hW, hsame⟩ := X58.leave (v := some (.int (1 : Int32))) (fun h => by rw [Bd.returns] at h; cases h)
        refine ⟨_, _, pre60 _ (retN X58 hx (t := .boolean) Bd.returns (by simp) (hb hby at_64) hr), hrun, hended, _, _, rfl, ?_, ⟨_, rfl⟩, hW, hsame.mono (by decide) (by decide)⟩
        show Q_law Z p0 a_REFUSE a_WARM_UP a_WARM_UP_QUEUE a_QUEUE h0 n0 _ T58.heap _
        rw [e58]
        exact ⟨rfl, N58⟩
      · have pre61 : ∀ t, Steps p.tables e below (s₁.setTop (mkF m 45 #[.val (.int p0), .val (.int (p0 &&& (3 : Int32))), .unset, .unset] [])) t → Steps p.tables e below (s₁.setTop (entryFrame m #[(.int p0)] maxLocals)) t := fun t kt => by
          refine pre52 _ ?_
          show Steps p.tables e below (s₁.setTop (mkF m 33 #[.val (.int p0), .val (.int (p0 &&& (3 : Int32))), .unset, .unset] [(.int (2 : Int32)), (.int (p0 &&& (3 : Int32)))])) _
          refine XS.icmpYes X0.here hx rfl (pc0 := 33) (pc' := 45) rfl (hb hby at_33) rfl (XT.ii_ne_t hc53) (by decide) (by decide) ?_
          exact kt
        obtain ⟨T62, X62, e62, st62⟩ := getS2 X0 hx hZ hown (host := "") (Or.inl (hw _ (List.mem_of_getElem? (i := 12) rfl))) Via.refl e0 (G4.ext O0.2) (g := (mkF m 45 #[.val (.int p0), .val (.int (p0 &&& (3 : Int32))), .unset, .unset] [])) rfl (hb hby at_45)
        have pre63 : ∀ t, Steps p.tables e below (T62.setTop (mkF m 48 #[.val (.int p0), .val (.int (p0 &&& (3 : Int32))), .unset, .unset] [(.ref a_WARM_UP_QUEUE)])) t → Steps p.tables e below (s₁.setTop (entryFrame m #[(.int p0)] maxLocals)) t := fun t kt => pre61 _ (st62 _ kt)
        have pre64 : ∀ t, Steps p.tables e below (T62.setTop (mkF m 52 #[.val (.int p0), .val (.int (p0 &&& (3 : Int32))), .val (.ref a_WARM_UP_QUEUE), .val (.int (1 : Int32))] [(.ref a_WARM_UP_QUEUE)])) t → Steps p.tables e below (s₁.setTop (entryFrame m #[(.int p0)] maxLocals)) t := fun t kt => by
          refine pre63 _ ?_
          show Steps p.tables e below (T62.setTop (mkF m 48 #[.val (.int p0), .val (.int (p0 &&& (3 : Int32))), .unset, .unset] [(.ref a_WARM_UP_QUEUE)])) _
          refine XS.astoreN X62.here hx rfl (hb hby at_48) rfl rfl (l' := #[.val (.int p0), .val (.int (p0 &&& (3 : Int32))), .val (.ref a_WARM_UP_QUEUE), .unset]) rfl ?_
          show Steps p.tables e below (T62.setTop (mkF m 49 #[.val (.int p0), .val (.int (p0 &&& (3 : Int32))), .val (.ref a_WARM_UP_QUEUE), .unset] [])) _
          refine XS.iconst X62.here hx rfl (hb hby at_49) ?_
          show Steps p.tables e below (T62.setTop (mkF m 50 #[.val (.int p0), .val (.int (p0 &&& (3 : Int32))), .val (.ref a_WARM_UP_QUEUE), .unset] [(.int (1 : Int32))])) _
          refine XS.istoreN X62.here hx rfl (hb hby at_50) rfl (l' := #[.val (.int p0), .val (.int (p0 &&& (3 : Int32))), .val (.ref a_WARM_UP_QUEUE), .val (.int (1 : Int32))]) rfl ?_
          show Steps p.tables e below (T62.setTop (mkF m 51 #[.val (.int p0), .val (.int (p0 &&& (3 : Int32))), .val (.ref a_WARM_UP_QUEUE), .val (.int (1 : Int32))] [])) _
          refine XS.aloadN X62.here hx rfl (hb hby at_51) rfl rfl ?_
          exact kt
        obtain ⟨cq65, kq65, q65a, q65b, q65c⟩ := isOf hZ e62 (G5.ext O0.2)
        obtain ⟨_, _, ⟨T65, L65, k65, n65⟩, -, X65, ⟨Lc65, hQ65, l65, y65, z65⟩, st65⟩ := X62.virtualBack hx (y := (⟨"com/example/osier/osier/FlowRule$ControlBehavior", "warmsUp", "()Z"⟩ : MethodName)) (z := (⟨"com/example/osier/osier/FlowRule$ControlBehavior", "warmsUp", "()Z"⟩ : MethodName)) hown (mvT hZ (hw _ (List.mem_of_getElem? (i := 3) rfl))) (mvT hZ (hw _ (List.mem_of_getElem? (i := 4) rfl))) (notFace_of_selects (args := #[]) (mvT hZ (hw _ (List.mem_of_getElem? (i := 6) rfl)))) (mvT hZ (hw _ (List.mem_of_getElem? (i := 6) rfl))) (mvT hZ (hw _ (List.mem_of_getElem? (i := 5) rfl))) (by decide) (backOf (W := 0) (rm_warmsUp1_2 l Z a0 hw [] a_WARM_UP_QUEUE a_WARM_UP h0 n0 O0 G2 G4 (fun q => ne_a_WARM_UP_a_WARM_UP_QUEUE q.symm)) hZ (hw _ (List.mem_of_getElem? (i := 7) rfl)) (hw _ (List.mem_of_getElem? (i := 1) rfl)) (by decide) (by decide)) q65a q65c (g := (mkF m 52 #[.val (.int p0), .val (.int (p0 &&& (3 : Int32))), .val (.ref a_WARM_UP_QUEUE), .val (.int (1 : Int32))] [(.ref a_WARM_UP_QUEUE)])) rfl (by rw [hml]; rfl) (Steps.refl _) (argsL := []) (rest := []) (lenOf pd_4 rfl) rfl (by show 2 * 0 + _ ≤ _; exact Nat.le_of_eq rfl) (hb hby at_52) (fun _ _ => ⟨rfl, e62, (by decide : 0 + 0 ≤ _), (by decide : 0 + 0 ≤ _)⟩)
        dsimp only [Pt.U, Pt.locs, Pt.cells, Pt.slots] at X65 l65 y65 z65 st65 hQ65
        subst l65 y65 z65
        obtain ⟨rfl, M65, e65⟩ := hQ65
        have N65 := Fr.app N0 M65
        have pre87 : ∀ t, Steps p.tables e below (T65.setTop (mkF m 55 #[.val (.int p0), .val (.int (p0 &&& (3 : Int32))), .val (.ref a_WARM_UP_QUEUE), .val (.int (1 : Int32))] [(.int (1 : Int32))])) t → Steps p.tables e below (s₁.setTop (entryFrame m #[(.int p0)] maxLocals)) t := fun t kt => pre64 _ (st65.trans kt)
        have pre88 : ∀ t, Steps p.tables e below (T65.setTop (mkF m 64 #[.val (.int p0), .val (.int (p0 &&& (3 : Int32))), .val (.ref a_WARM_UP_QUEUE), .val (.int (1 : Int32))] [(.int (1 : Int32))])) t → Steps p.tables e below (s₁.setTop (entryFrame m #[(.int p0)] maxLocals)) t := fun t kt => by
          refine pre87 _ ?_
          show Steps p.tables e below (T65.setTop (mkF m 55 #[.val (.int p0), .val (.int (p0 &&& (3 : Int32))), .val (.ref a_WARM_UP_QUEUE), .val (.int (1 : Int32))] [(.int (1 : Int32))])) _
          refine XS.iloadN X65.here hx rfl (hb hby at_55) rfl ?_
          show Steps p.tables e below (T65.setTop (mkF m 56 #[.val (.int p0), .val (.int (p0 &&& (3 : Int32))), .val (.ref a_WARM_UP_QUEUE), .val (.int (1 : Int32))] [(.int (1 : Int32)), (.int (1 : Int32))])) _
          refine XS.icmpNo X65.here hx rfl (hb hby at_56) rfl (XT.ii_ne_f (by decide)) ?_
          show Steps p.tables e below (T65.setTop (mkF m 59 #[.val (.int p0), .val (.int (p0 &&& (3 : Int32))), .val (.ref a_WARM_UP_QUEUE), .val (.int (1 : Int32))] [])) _
          refine XS.iconst X65.here hx rfl (hb hby at_59) ?_
          show Steps p.tables e below (T65.setTop (mkF m 60 #[.val (.int p0), .val (.int (p0 &&& (3 : Int32))), .val (.ref a_WARM_UP_QUEUE), .val (.int (1 : Int32))] [(.int (1 : Int32))])) _
          refine XS.goto X65.here hx rfl (pc0 := 60) (pc' := 64) rfl (hb hby at_60) (by decide) (by decide) ?_
          exact kt
        obtain ⟨fs, hr, hrun, hended, hW, hsame⟩ := X65.leave (v := some (.int (1 : Int32))) (fun h => by rw [Bd.returns] at h; cases h)
        refine ⟨_, _, pre88 _ (retN X65 hx (t := .boolean) Bd.returns (by simp) (hb hby at_64) hr), hrun, hended, _, _, rfl, ?_, ⟨_, rfl⟩, hW, hsame.mono (by decide) (by decide)⟩
        show Q_law Z p0 a_REFUSE a_WARM_UP a_WARM_UP_QUEUE a_QUEUE h0 n0 _ T65.heap _
        rw [e65]
        exact ⟨rfl, N65⟩
set_option maxRecDepth 65536 in
set_option maxHeartbeats 40000000 in
theorem comes_1 {Post : Tables → Env → Array Value → State → Outcome → State → Prop} (hpost : ∀ tb e args s v u, (limb_1_1.after args s (.returned v) u = true ∧ limb_1_2.after args s (.returned v) u = true ∧ True) → FrameEnd s (.returned v) u (Jvm.fieldLocs frame_1_writes args s ++ Jvm.arrayLocs frame_1_arrays args s ++ Jvm.staticLocs frame_1_statics s) 0 0 → Post tb e args s (.returned v) u) :
    ArmFor flags0 classFile x code maxLocals ret World_1 tables_1 room_1 Calls_1 rest_1 Pre_1 Post := by
  intro l hfl _ _ p e ha hc hk s m args below hf hA hF happ hP
  obtain ⟨hcalls, hrest, hpre⟩ := hP
  obtain ⟨-, -, -, hnamed, -, -, -, hat⟩ := (Spec.applies_iff hf).mp happ
  obtain ⟨hg, hn⟩ := and_e (Cond.before_iff.mp (show (Jvm.Cond.and given_1 narrow_1).before args s = true from hpre))
  obtain ⟨given_1_2, given_1_3⟩ := and_e hg
  obtain ⟨narrow_1_2, narrow_1_3⟩ := and_e hn
  obtain ⟨narrow_1_4, narrow_1_5⟩ := and_e narrow_1_3
  obtain ⟨narrow_1_6, narrow_1_7⟩ := and_e narrow_1_5
  obtain ⟨narrow_1_8, narrow_1_9⟩ := and_e narrow_1_7
  obtain ⟨narrow_1_10, narrow_1_11⟩ := and_e narrow_1_9
  obtain ⟨narrow_1_12, narrow_1_13⟩ := and_e narrow_1_11
  obtain ⟨narrow_1_14, narrow_1_15⟩ := and_e narrow_1_13
  obtain ⟨w0, rfl⟩ : ∃ w0 : Value, args = #[w0] := by
    have hs : args.size = 1 := by simpa [Cond.value, given_1] using given_1_2
    obtain ⟨L⟩ := args
    match L, hs with
    | [w0], _ => exact ⟨w0, rfl⟩
  have hw := fun d (hd : d ∈ tables_1) => atoms_spec (ws := Jvm.Cond.code x code maxLocals ret :: tables_1) hat d (List.mem_cons_of_mem _ hd)
  have hfit : Fit s := fun {y c} hc i hi => by
    obtain ⟨ha, rfl⟩ := Array.getElem?_eq_some_iff.mp hc
    have q := List.all_eq_true.mp ((Array.all_eq_true_iff_forall_mem.mp hF) _ (Array.getElem_mem ha)) i (List.mem_range.mpr hi)
    simpa [Array.getElem?_eq_getElem hi] using q
  obtain ⟨i0, ei0⟩ := is_v given_1_3
  obtain rfl : w0 = (.int i0) := Option.some.inj ei0
  obtain ⟨a_REFUSE, ev_REFUSE⟩ := exa_v narrow_1_2
  have S_REFUSE : Sta s s.heap "com/example/osier/osier/FlowRule$ControlBehavior" "REFUSE" "Lcom/example/osier/osier/FlowRule$ControlBehavior;" (.ref a_REFUSE) := Sta.start ev_REFUSE (Or.inr ⟨(hw _ (List.mem_of_getElem? (i := 1) rfl)), (hw _ (List.mem_of_getElem? (i := 2) rfl))⟩)
  have E_REFUSE : Exa s s.heap a_REFUSE "com/example/osier/osier/FlowRule$ControlBehavior" := Exa.start ev_REFUSE narrow_1_2
  obtain ⟨a_WARM_UP, ev_WARM_UP⟩ := exa_v narrow_1_4
  have S_WARM_UP : Sta s s.heap "com/example/osier/osier/FlowRule$ControlBehavior" "WARM_UP" "Lcom/example/osier/osier/FlowRule$ControlBehavior;" (.ref a_WARM_UP) := Sta.start ev_WARM_UP (Or.inr ⟨(hw _ (List.mem_of_getElem? (i := 1) rfl)), (hw _ (List.mem_of_getElem? (i := 9) rfl))⟩)
  have E_WARM_UP : Exa s s.heap a_WARM_UP "com/example/osier/osier/FlowRule$ControlBehavior" := Exa.start ev_WARM_UP narrow_1_4
  obtain ⟨a_WARM_UP_QUEUE, ev_WARM_UP_QUEUE⟩ := exa_v narrow_1_10
  have S_WARM_UP_QUEUE : Sta s s.heap "com/example/osier/osier/FlowRule$ControlBehavior" "WARM_UP_QUEUE" "Lcom/example/osier/osier/FlowRule$ControlBehavior;" (.ref a_WARM_UP_QUEUE) := Sta.start ev_WARM_UP_QUEUE (Or.inr ⟨(hw _ (List.mem_of_getElem? (i := 1) rfl)), (hw _ (List.mem_of_getElem? (i := 11) rfl))⟩)
  have E_WARM_UP_QUEUE : Exa s s.heap a_WARM_UP_QUEUE "com/example/osier/osier/FlowRule$ControlBehavior" := Exa.start ev_WARM_UP_QUEUE narrow_1_10
  obtain ⟨a_QUEUE, ev_QUEUE⟩ := exa_v narrow_1_14
  have S_QUEUE : Sta s s.heap "com/example/osier/osier/FlowRule$ControlBehavior" "QUEUE" "Lcom/example/osier/osier/FlowRule$ControlBehavior;" (.ref a_QUEUE) := Sta.start ev_QUEUE (Or.inr ⟨(hw _ (List.mem_of_getElem? (i := 1) rfl)), (hw _ (List.mem_of_getElem? (i := 14) rfl))⟩)
  have E_QUEUE : Exa s s.heap a_QUEUE "com/example/osier/osier/FlowRule$ControlBehavior" := Exa.start ev_QUEUE narrow_1_14
  have P_REFUSE_ordinal : Fld s s.heap a_REFUSE "java/lang/Enum" "ordinal" "I" (.int (0 : Int32)) := own_fldI ev_REFUSE narrow_1_6
  have P_WARM_UP_ordinal : Fld s s.heap a_WARM_UP "java/lang/Enum" "ordinal" "I" (.int (1 : Int32)) := own_fldI ev_WARM_UP narrow_1_8
  have P_WARM_UP_QUEUE_ordinal : Fld s s.heap a_WARM_UP_QUEUE "java/lang/Enum" "ordinal" "I" (.int (3 : Int32)) := own_fldI ev_WARM_UP_QUEUE narrow_1_12
  have P_QUEUE_ordinal : Fld s s.heap a_QUEUE "java/lang/Enum" "ordinal" "I" (.int (2 : Int32)) := own_fldI ev_QUEUE narrow_1_15
  obtain ⟨n, o, h1, h2, h3, _, L, rfl, ⟨rfl, N⟩, hq⟩ := rm_law l s _ hw tables_1 i0 a_REFUSE a_WARM_UP a_WARM_UP_QUEUE a_QUEUE s.heap s.heap.size (Old.start s) S_REFUSE E_REFUSE S_WARM_UP E_WARM_UP S_WARM_UP_QUEUE E_WARM_UP_QUEUE S_QUEUE E_QUEUE P_REFUSE_ordinal P_WARM_UP_ordinal P_WARM_UP_QUEUE_ordinal P_QUEUE_ordinal p e ha hc hk s m _ below hf ((Spec.applies_iff_loose hf).mp happ).1 ⟨rfl, State.Warmed39.refl s, rfl⟩ trivial
  refine ⟨n, _, h1, h2, h3, hpost _ _ _ _ _ _ ⟨Cond.after_iff.mpr rfl, Cond.after_iff.mpr (eq_i res_at (Term.int_eval (1)) rfl), trivial⟩ ⟨hq.1, hq.2.1, (hq.2.2.sift fun y hy => Or.inr (N y hy)).mono (by decide) (by decide)⟩⟩
theorem main_1_1 : Claimed_1_1 := comes_1 fun _ _ _ _ _ _ h hF => ⟨h.1, hF⟩
theorem main_1_2 : Claimed_1_2 := comes_1 fun _ _ _ _ _ _ h hF => ⟨h.2.1, hF⟩
end Jvm.Pilot.@@N@@
namespace Jvm.Pilot.@@N@@
open Jvm Jvm.ClassFile Sem Op Lib Jvm.Free Jvm.Stand Jvm.Pilot.@@N@@.Jvm.D
/-! MADE BY PROGRAM (witnessworld.py) out of the Statement's table words and the real class files: 10 classes; the members and pool entries that the words name. The judged class is class 1, her method 1. -/
namespace start1
open Jvm.ClassFile
def u (s : String) : CpInfo := .utf8 (stringToUtf16 s)
/-- a pool by its gaps: so many unusable entries, then the entry; so many at the end -/
def gap : Nat → List CpInfo → List CpInfo
  | 0, r => r
  | n + 1, r => .unusable :: gap n r
def poolList (es : List (Nat × CpInfo)) (last : Nat) : List CpInfo := es.foldr (fun e r => gap e.1 (e.2 :: r)) (gap last [])
def pool (es : List (Nat × CpInfo)) (last : Nat) : Array CpInfo := ⟨poolList es last⟩
def fileOf (pool : Array CpInfo) (this : Nat) (attrs : Array Attribute := #[]) (ms : Array MethodInfo := #[]) (fl : Nat := 33) (sup : Nat := 0) (ifs : Array Nat := #[]) (fds : Array FieldInfo := #[]) : ClassFile where
  minorVersion := 0
  majorVersion := 65
  constantPool := pool
  accessFlags := fl
  thisClass := this
  superClass := sup
  interfaces := ifs
  fields := fds
  methods := ms
  attributes := attrs
def plain (name : String) (sup : Option ClassId) : Class where
  name := name
  kind := .ordinary
  loader := none
  accessFlags := 33
  super := sup
  interfaces := #[]
  cf := none
  fields := #[]
  methods := #[]
  instanceTypes := #[]
  staticTypes := #[]
  resolved := #[]
  callSites := []
  init := .initialized
  statics := none
  mirror := none

def pool0 : Array CpInfo := pool [(5, u "<init>"), (0, u "()V"), (1, .class_ 10), (1, u "java/lang/Object")] 113

def k0m0 : Method := { name := "<init>", desc := "()V", sig := { parameters := [], returnType := none }, accessFlags := 1, code := none }
/-- java/lang/Object -/
def k0 : Class := { plain "java/lang/Object" none with
  accessFlags := 33
  interfaces := #[]
  cf := some (fileOf pool0 8 #[] #[{ accessFlags := 1, nameIndex := 5, descriptorIndex := 6, attributes := #[] }] 33 0 #[] #[])
  fields := #[]
  methods := #[k0m0]
  instanceTypes := #[]
  staticTypes := #[]
  resolved := Array.replicate 124 none
  statics := none }

def pool1 : Array CpInfo := pool [(2, .class_ 4), (1, u "java/lang/Object"), (0, u "<init>"), (0, u "()V"), (0, .fieldref 8 9), (0, .class_ 10), (0, .nameAndType 11 12), (0, u "com/example/osier/osier/FlowRule$ControlBehavior"), (0, u "REFUSE"), (0, u "Lcom/example/osier/osier/FlowRule$ControlBehavior;"), (0, .fieldref 8 14), (0, .nameAndType 15 12), (0, u "WARM_UP"), (0, .fieldref 8 17), (0, .nameAndType 18 12), (0, u "QUEUE"), (0, .fieldref 8 20), (0, .nameAndType 21 12), (0, u "WARM_UP_QUEUE"), (0, .methodref 8 23), (0, .nameAndType 24 25), (0, u "warmsUp"), (0, u "()Z"), (0, .class_ 27), (0, u "com/example/osier/osier/ControlBehaviorWarmsUpPinLaw"), (2, u "law"), (0, u "(I)Z")] 7

def k1m0 : Method := { name := "<init>", desc := "()V", sig := { parameters := [], returnType := none }, accessFlags := 1, code := none }
def k1c1 : Code := { maxStack := 2, maxLocals := 4, code := code, exceptionTable := #[], attributes := #[] }
def k1m1 : Method := { name := "law", desc := "(I)Z", sig := { parameters := [.int], returnType := some .boolean }, accessFlags := 9, code := some k1c1 }
/-- com/example/osier/osier/ControlBehaviorWarmsUpPinLaw -/
def k1 : Class := { plain "com/example/osier/osier/ControlBehaviorWarmsUpPinLaw" (some 0) with
  accessFlags := 49
  interfaces := #[]
  cf := some (fileOf pool1 26 #[] #[{ accessFlags := 1, nameIndex := 5, descriptorIndex := 6, attributes := #[] }, { accessFlags := 9, nameIndex := 30, descriptorIndex := 31, attributes := #[] }] 49 2 #[] #[])
  fields := #[]
  methods := #[k1m0, k1m1]
  instanceTypes := #[]
  staticTypes := #[]
  resolved := Array.replicate 39 none
  statics := none }

def pool2 : Array CpInfo := pool [(1, .class_ 2), (0, u "java/lang/constant/Constable"), (0, .class_ 4), (0, u "java/lang/Object")] 6

/-- java/lang/constant/Constable -/
def k2 : Class := { plain "java/lang/constant/Constable" (some 0) with
  accessFlags := 1537
  interfaces := #[]
  cf := some (fileOf pool2 1 #[] #[] 1537 3 #[] #[])
  fields := #[]
  methods := #[]
  instanceTypes := #[]
  staticTypes := #[]
  resolved := Array.replicate 11 none
  statics := none }

def pool3 : Array CpInfo := pool [(1, .class_ 2), (0, u "java/lang/Comparable"), (0, .class_ 4), (0, u "java/lang/Object")] 7

/-- java/lang/Comparable -/
def k3 : Class := { plain "java/lang/Comparable" (some 0) with
  accessFlags := 1537
  interfaces := #[]
  cf := some (fileOf pool3 1 #[] #[] 1537 3 #[] #[])
  fields := #[]
  methods := #[]
  instanceTypes := #[]
  staticTypes := #[]
  resolved := Array.replicate 12 none
  statics := none }

def pool4 : Array CpInfo := pool [(1, .class_ 2), (0, u "java/io/Serializable"), (0, .class_ 4), (0, u "java/lang/Object")] 2

/-- java/io/Serializable -/
def k4 : Class := { plain "java/io/Serializable" (some 0) with
  accessFlags := 1537
  interfaces := #[]
  cf := some (fileOf pool4 1 #[] #[] 1537 3 #[] #[])
  fields := #[]
  methods := #[]
  instanceTypes := #[]
  staticTypes := #[]
  resolved := Array.replicate 7 none
  statics := none }

def pool5 : Array CpInfo := pool [(2, .class_ 4), (1, u "java/lang/Enum"), (0, u "name"), (0, u "Ljava/lang/String;"), (2, u "ordinal"), (0, u "I"), (1, .class_ 14), (1, u "java/lang/Object"), (4, u "hash"), (86, .class_ 108), (1, u "java/lang/Enum$EnumDesc"), (2, .class_ 112), (0, u "java/lang/constant/Constable"), (0, .class_ 114), (0, u "java/lang/Comparable"), (0, .class_ 116), (0, u "java/io/Serializable")] 87

/-- java/lang/Enum -/
def k5 : Class := { plain "java/lang/Enum" (some 0) with
  accessFlags := 1057
  interfaces := #[2, 3, 4]
  cf := some (fileOf pool5 2 #[.nestMembers #[106]] #[] 1057 12 #[111, 113, 115] #[{ accessFlags := 18, nameIndex := 5, descriptorIndex := 6, attributes := #[] }, { accessFlags := 18, nameIndex := 9, descriptorIndex := 10, attributes := #[] }, { accessFlags := 2, nameIndex := 19, descriptorIndex := 10, attributes := #[] }])
  fields := #[{ name := "name", type := (.object "java/lang/String"), accessFlags := 18, slot := 0, constantValue := 0 }, { name := "ordinal", type := .int, accessFlags := 18, slot := 1, constantValue := 0 }, { name := "hash", type := .int, accessFlags := 2, slot := 2, constantValue := 0 }]
  methods := #[]
  instanceTypes := #[(.object "java/lang/String"), .int, .int]
  staticTypes := #[]
  resolved := Array.replicate 204 none
  statics := none }

def pool6 : Array CpInfo := pool [(1, .class_ 2), (0, u "com/example/osier/osier/FlowRule"), (0, .class_ 4), (0, u "com/example/osier/osier/FlowRule$ControlBehavior"), (2, u "REFUSE"), (0, u "Lcom/example/osier/osier/FlowRule$ControlBehavior;"), (0, .fieldref 3 10), (0, .nameAndType 11 8), (0, u "WARM_UP"), (2, u "QUEUE"), (0, .fieldref 3 16), (0, .nameAndType 17 8), (0, u "WARM_UP_QUEUE"), (2, u "$VALUES"), (0, u "[Lcom/example/osier/osier/FlowRule$ControlBehavior;"), (6, .class_ 30), (1, u "java/lang/Enum"), (8, u "code"), (0, u "I"), (33, u "warmsUp"), (0, u "()Z")] 32

def k6c0 : Code := { maxStack := 2, maxLocals := 1, code := prog_35_method_5_code, exceptionTable := #[], attributes := #[] }
def k6m0 : Method := { name := "warmsUp", desc := "()Z", sig := { parameters := [], returnType := some .boolean }, accessFlags := 0, code := some k6c0 }
/-- com/example/osier/osier/FlowRule$ControlBehavior -/
def k6 : Class := { plain "com/example/osier/osier/FlowRule$ControlBehavior" (some 5) with
  accessFlags := 16433
  interfaces := #[]
  cf := some (fileOf pool6 3 #[.nestHost 1] #[{ accessFlags := 0, nameIndex := 74, descriptorIndex := 75, attributes := #[] }] 16433 28 #[] #[{ accessFlags := 16409, nameIndex := 7, descriptorIndex := 8, attributes := #[] }, { accessFlags := 16409, nameIndex := 11, descriptorIndex := 8, attributes := #[] }, { accessFlags := 16409, nameIndex := 14, descriptorIndex := 8, attributes := #[] }, { accessFlags := 16409, nameIndex := 17, descriptorIndex := 8, attributes := #[] }, { accessFlags := 18, nameIndex := 39, descriptorIndex := 40, attributes := #[] }, { accessFlags := 4122, nameIndex := 20, descriptorIndex := 21, attributes := #[] }])
  fields := #[{ name := "REFUSE", type := (.object "com/example/osier/osier/FlowRule$ControlBehavior"), accessFlags := 16409, slot := 0, constantValue := 0 }, { name := "WARM_UP", type := (.object "com/example/osier/osier/FlowRule$ControlBehavior"), accessFlags := 16409, slot := 1, constantValue := 0 }, { name := "QUEUE", type := (.object "com/example/osier/osier/FlowRule$ControlBehavior"), accessFlags := 16409, slot := 2, constantValue := 0 }, { name := "WARM_UP_QUEUE", type := (.object "com/example/osier/osier/FlowRule$ControlBehavior"), accessFlags := 16409, slot := 3, constantValue := 0 }, { name := "code", type := .int, accessFlags := 18, slot := 3, constantValue := 0 }, { name := "$VALUES", type := (.array (.object "com/example/osier/osier/FlowRule$ControlBehavior")), accessFlags := 4122, slot := 4, constantValue := 0 }]
  methods := #[k6m0]
  instanceTypes := #[(.object "java/lang/String"), .int, .int, .int]
  staticTypes := #[(.object "com/example/osier/osier/FlowRule$ControlBehavior"), (.object "com/example/osier/osier/FlowRule$ControlBehavior"), (.object "com/example/osier/osier/FlowRule$ControlBehavior"), (.object "com/example/osier/osier/FlowRule$ControlBehavior"), (.array (.object "com/example/osier/osier/FlowRule$ControlBehavior"))]
  resolved := Array.replicate 108 none
  statics := some 0 }

def pool7 : Array CpInfo := pool [(1, u "java/lang/Cloneable"), (0, .class_ 1), (0, u "java/lang/Object"), (0, .class_ 3)] 3

/-- java/lang/Cloneable -/
def k7 : Class := { plain "java/lang/Cloneable" (some 0) with
  accessFlags := 1537
  interfaces := #[]
  cf := some (fileOf pool7 2 #[] #[] 1537 4 #[] #[])
  fields := #[]
  methods := #[]
  instanceTypes := #[]
  staticTypes := #[]
  resolved := Array.replicate 8 none
  statics := none }

/-- the primitive byte -/
def k8 : Class := { plain "byte" none with kind := .primitive 'B', accessFlags := 0x411 }
/-- [B -/
def k9 : Class := { plain "[B" (some 0) with kind := .array 8 .byte, interfaces := #[7, 4], accessFlags := 1041 }

def heap : Heap := #[{ cls := 6, slots := #[.ref 1, .ref 2, .ref 4, .ref 3, .null], vm := .statics 6 },
  { cls := 6, slots := #[.null, .int 0, .int 0, .int 0], vm := .none },
  { cls := 6, slots := #[.null, .int 1, .int 0, .int 0], vm := .none },
  { cls := 6, slots := #[.null, .int 3, .int 0, .int 0], vm := .none },
  { cls := 6, slots := #[.null, .int 2, .int 0, .int 0], vm := .none }]
def classes : Array Class := #[k0, k1, k2, k3, k4, k5, k6, k7, k8, k9]
def interned : List (Array UInt16 × Addr) := []
def slotsUsed : Nat := 21
def theMethod : MethodId := ⟨1, 1⟩
def args0 : Array Value := #[.int 5]
def aboutOver (below : List Frame) : State where
  vm := { classes := classes, interned := interned.toArray }
  heap := heap
  slotsUsed := slotsUsed
  threads := #[{ frames := .invoking theMethod args0 :: below }]
def below0 : List Frame := [.native { method := ⟨0, 0⟩, args := #[] }]
def about1 : State := aboutOver below0
def p0 : Program := .bare "" "" ""
def e0 : Env := launch0.env 0 0 0
theorem w_frames : about1.frames = Frame.invoking theMethod args0 :: below0 := rfl
set_option maxRecDepth 65536 in
theorem w_args : argsFit about1.vm theMethod args0 = true := by decide +kernel
set_option maxRecDepth 65536 in
theorem w_heap : heapFits about1 = true := by decide +kernel
set_option maxRecDepth 65536 in
theorem w_runnable : about1.curStatus? = some .runnable := by decide +kernel
set_option maxRecDepth 65536 in
theorem w_alone : about1.alone = true := by decide +kernel
set_option maxRecDepth 65536 in
theorem w_named : about1.methodNamed? x = some theMethod := by decide +kernel
set_option maxRecDepth 65536 in
theorem w_hears : about1.hears theMethod below0 = true := by decide +kernel
set_option maxRecDepth 65536 in
theorem w_ripe : about1.ripe theMethod args0 below0 = true := by decide +kernel
theorem w_running : about1.status = .running := rfl
set_option maxRecDepth 65536 in
theorem w_room : about1.hasRoom e0.platform room_1 = true :=
  launch0.hasRoom_least _ room_1 (by decide +kernel) (by decide +kernel) (by decide +kernel) (by decide +kernel) (by decide +kernel) (by decide +kernel)
theorem allAtoms_all (ts : List Jvm.Cond) (a : Array Jvm.Value) (st : Jvm.State) : (allAtoms ts).before a st = ts.all (fun c => c.before a st) := by
  induction ts with
  | nil => rfl
  | cons c t ih =>
    show (Jvm.Cond.and c (allAtoms t)).before a st = _
    rw [Jvm.Cond.before_and, ih, List.all_cons]
def words1 : List Jvm.Cond := Jvm.Cond.code x code maxLocals ret :: tables_1
/-- a 'code' word, met by the world's own term for the bytes: nothing is compared byte by byte -/
theorem code_word {y : MethodName} {bytes : ByteArray} {mx : Nat} {rt : Option FieldType} {a : Array Value} {s : State} {m : MethodId} {meth : Method} {c : Code} (h1 : s.methodNamed? y = some m) (h2 : s.vm.method? m = some meth) (h3 : meth.code = some c) (h4 : c.code = bytes)
    (h5 : (c.maxLocals == mx && c.exceptionTable.isEmpty && decide (c.maxStack ≤ mostOperands) && decide (meth.sig.returnType = rt) && !meth.locks && decide (parseMethodDescriptor y.desc = some meth.sig)) = true) : (Jvm.Cond.code y bytes mx rt).before a s = true := by
  simp only [Bool.and_eq_true, beq_iff_eq, Bool.not_eq_true', decide_eq_true_eq] at h5
  obtain ⟨⟨⟨⟨⟨g1, g2⟩, g3⟩, g4⟩, g5⟩, g6⟩ := h5
  simp [Cond.before, Cond.holds, Cond.value, h1, h2, h3, h4, g1, g2, g3, g4, g5, g6]
def isCode : Jvm.Cond → Bool
  | .code _ _ _ _ => true
  | _ => false
theorem all_split {L : List Jvm.Cond} {P : Jvm.Cond → Bool} (h1 : L.all (fun c => isCode c || P c) = true) (h2 : ∀ c ∈ L.filter isCode, P c = true) : L.all P = true := by
  refine List.all_eq_true.mpr fun c hc => ?_
  have h := List.all_eq_true.mp h1 c hc
  rcases Bool.eq_false_or_eq_true (isCode c) with hi | hi
  · exact h2 c (List.mem_filter.mpr ⟨hc, hi⟩)
  · simpa [hi] using h
set_option maxRecDepth 65536 in
theorem w_c0 : (Jvm.Cond.code x code maxLocals ret).before args0 about1 = true := code_word (m := ⟨1, 1⟩) (meth := k1m1) (c := k1c1) (by decide +kernel) rfl rfl rfl (by decide +kernel)
set_option maxRecDepth 65536 in
theorem w_c1 : (Jvm.Cond.code ({ cls := "com/example/osier/osier/FlowRule$ControlBehavior", name := "warmsUp", desc := "()Z" } : Jvm.MethodName) prog_35_method_5_code (1 : Nat) (Option.some Jvm.ClassFile.FieldType.boolean)).before args0 about1 = true := code_word (m := ⟨6, 0⟩) (meth := k6m0) (c := k6c0) (by decide +kernel) rfl rfl rfl (by decide +kernel)
def codes1 : List Jvm.Cond := [Jvm.Cond.code x code maxLocals ret, Jvm.Cond.code ({ cls := "com/example/osier/osier/FlowRule$ControlBehavior", name := "warmsUp", desc := "()Z" } : Jvm.MethodName) prog_35_method_5_code (1 : Nat) (Option.some Jvm.ClassFile.FieldType.boolean)]
set_option maxRecDepth 65536 in
theorem codes_eq : words1.filter isCode = codes1 := rfl
theorem w_codes : ∀ c ∈ words1.filter isCode, c.before args0 about1 = true := by
  rw [codes_eq]
  intro c hc
  simp only [codes1, List.mem_cons, List.not_mem_nil, or_false] at hc
  rcases hc with rfl | rfl
  · exact w_c0
  · exact w_c1
set_option maxRecDepth 65536 in
theorem w_t1 : words1.all (fun c => isCode c || c.before args0 about1) = true := by decide +kernel
theorem w_tables : (allAtoms (Jvm.Cond.code x code maxLocals ret :: tables_1)).before args0 about1 = true := by
  rw [allAtoms_all]
  show words1.all (fun c => c.before args0 about1) = true
  refine all_split ?_ w_codes
  rw [w_t1]
set_option maxRecDepth 65536 in
theorem w_case : (Jvm.Cond.and given_1 narrow_1).before args0 about1 = true := by decide +kernel
theorem w_applies : (headSpec (Jvm.Cond.code x code maxLocals ret :: tables_1) room_1).applies x e0.platform about1 = true :=
  (Spec.applies_iff w_frames).mpr ⟨w_running, w_runnable, w_alone, w_named, w_hears, w_ripe, w_room, w_tables⟩
theorem atStart : AtStart classFile x code maxLocals ret World_1 tables_1 room_1 Calls_1 rest_1 Pre_1 launch0 p0 e0 about1 theMethod args0 below0 :=
  ⟨lists_1, trivial, launch0.admits_env _ _ _, launch0.least_env, fairChoices_fair.cas, fairChoices_fair.clock, w_frames, w_args, w_heap, w_applies, trivial, trivial, w_case⟩
end start1
theorem witness_1 : WitnessClaimed_1 := ⟨start1.p0, start1.e0, start1.about1, start1.theMethod, start1.args0, start1.below0, start1.atStart⟩
end Jvm.Pilot.@@N@@
