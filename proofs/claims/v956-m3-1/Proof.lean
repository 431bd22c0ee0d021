import JvmDerived
import JvmDerived.Pilot.@@N@@Statement
import JvmDerived.Pilot.@@N@@Code
set_option linter.unusedVariables false
set_option linter.unusedSimpArgs false
namespace Jvm.RoadKit
open Sem ClassFile Op Lib Jvm.Stand Jvm.Free Jvm.LawKit
section New
variable {p : Program} {l : Launch} {e : Env} {R : Room} {s : State} {m : MethodId} {args : Array Value} {below : List Frame} {meth : Method} {c : Code} {T : State} {locs : List Loc} {cells slots : Nat}
theorem retI (X : Stand p l e R s m args below meth c T locs cells slots) (hx : p.tables.exec = Jvm.exec) {pc : Nat} {Ls : Array Slot} {z : Int32} {rest : List Value} (hret : meth.sig.returnType = some .int) (hd : decode c.code pc = .ok (.ireturn, 1)) {fs : List Frame}
    (hl : ∀ (f : JFrame) (acts : List Action), f.method = m → f.locked = none → f.entered = [] → (doReturn e (T.setTop f) acts (some (.int z))).1 = T.setFrames fs) : Steps p.tables e below (T.setTop (mkF m pc Ls (.int z :: rest))) (T.setFrames fs) := by
  have hm' : T.vm.method? m = some meth := X.method'
  have hn : narrow .int (.int z) = .int z := rfl
  show Steps p.tables e below (T.setTop { method := m, pc := pc, locals := Ls, stack := _ :: rest, locked := none }) _
  jvm_step X.here [X.here.top, hx, hd, hm', hret, hn]
  first | (intro acts; rw [hl _ acts rfl rfl rfl]) | rw [hl _ _ rfl rfl rfl]
  exact Steps.refl _
end New
end Jvm.RoadKit
namespace Jvm.Pilot.@@N@@
open Jvm Jvm.ClassFile Sem Op Lib Jvm.Free Jvm.Stand Jvm.LawKit Jvm.RoadKit Bundle Jvm.Pilot.@@N@@.Jvm.D
theorem own_fld_ne {Z : State} {h : Heap} {a b : Addr} {C n d : String} {v w : Value} (F : Fld Z h a C n d v) (G : Fld Z h b C n d w) (q : v ≠ w) : a ≠ b := fun e => by
  subst e
  obtain ⟨c1, cf1, k1, i1, f1, a1, a2, -, -, -, -, a7⟩ := F
  obtain ⟨c2, cf2, k2, i2, f2, b1, b2, -, -, -, -, b7⟩ := G
  cases a1.symm.trans b1
  cases a2.symm.trans b2
  exact q (Option.some.inj (a7.symm.trans b7))
theorem own_fldI {args : Array Value} {s : State} {t : Term} {a : Addr} {C n d : String} {k : Int32} (ht : t.eval args s none [] s = some (.ref a)) (h : (Jvm.Cond.eq (Term.field t C n d) (Term.int k)).value args s none s [] = some true) : Fld s s.heap a C n d (.int k) := by
  apply Fld.start
  have e1 : (Term.field t C n d).eval args s none [] s = s.fieldOf? a C n d := fld_at ht
  have e2 : (Term.int k).eval args s none [] s = some (.int k) := Term.int_eval k
  simp only [Cond.value, e1, e2] at h
  split at h <;> simp_all
theorem own_nm0 {a : Addr} : a ∉ ([] : List Addr) := List.not_mem_nil
theorem own_nm1 {a x : Addr} (h : a ≠ x) : a ∉ [x] := fun q => h (List.mem_singleton.mp q)
theorem own_nm2 {a x y : Addr} (h : a ≠ x) (h2 : a ≠ y) : a ∉ [x, y] := fun q => by
  rcases List.mem_cons.mp q with q | q
  · exact h q
  · exact h2 (List.mem_singleton.mp q)
theorem own_nm3 {a x y z : Addr} (h : a ≠ x) (h2 : a ≠ y) (h3 : a ≠ z) : a ∉ [x, y, z] := fun q => by
  rcases List.mem_cons.mp q with q | q
  · exact h q
  · exact own_nm2 h2 h3 q
theorem own_all0 {P : Addr → Prop} : ∀ x ∈ ([] : List Addr), P x := fun x q => (List.not_mem_nil q).elim
theorem own_all1 {P : Addr → Prop} {a : Addr} (h : P a) : ∀ x ∈ [a], P x := fun x q => by rw [List.mem_singleton.mp q]; exact h
theorem own_all2 {P : Addr → Prop} {a b : Addr} (h : P a) (h2 : P b) : ∀ x ∈ [a, b], P x := fun x q => by
  rcases List.mem_cons.mp q with q | q
  · rw [q]; exact h
  · rw [List.mem_singleton.mp q]; exact h2
theorem own_all3 {P : Addr → Prop} {a b c : Addr} (h : P a) (h2 : P b) (h3 : P c) : ∀ x ∈ [a, b, c], P x := fun x q => by
  rcases List.mem_cons.mp q with q | q
  · rw [q]; exact h
  · exact own_all2 h2 h3 x q
theorem pn_0 : plainName "com/example/contexture/contexture/engine/evaluation/TruthValueOfPinLaw" = true := by first | (simp [plainName, overriddenIn]; done) | decide +kernel
theorem ef_1 (m : MethodId) (x0 : Int32) : entryFrame m #[(.int x0)] maxLocals = mkF m 0 #[.val (.int x0), .unset, .unset, .unset, .unset, .unset, .unset, .unset] [] := by first | (simp [entryFrame, mkF, argsToLocals, Value.category, maxLocals]; done) | rfl
theorem d1_0 : decode prog_14_method_4_code 0 = .ok (.iload_n 0, 1) := by decide +kernel
theorem d1_1 : decode prog_14_method_4_code 1 = .ok (.ifCond .eq 9, 3) := by decide +kernel
theorem d1_10 : decode prog_14_method_4_code 10 = .ok (.getstatic 7, 3) := by decide +kernel
theorem d1_13 : decode prog_14_method_4_code 13 = .ok (.areturn, 1) := by decide +kernel
theorem pn_2 : plainName "com/example/contexture/contexture/engine/evaluation/TruthValue" = true := by first | (simp [plainName, overriddenIn]; done) | decide +kernel
theorem ef_3 (m : MethodId) (x0 : Int32) : entryFrame m #[(.int x0)] 1 = mkF m 0 #[.val (.int x0)] [] := by first | (simp [entryFrame, mkF, argsToLocals, Value.category]; done) | rfl
def Q_of1_0 (Z : State) (a_FALSE : Addr) (h0 : Heap) (n0 : Nat) (v : Option Value) (h : Heap) (L : List Loc) : Prop := v = some (.ref a_FALSE) ∧ Fr n0 L ∧ h = h0
set_option maxRecDepth 65536 in
set_option maxHeartbeats 40000000 in
theorem rm_of1_0 (l : Launch) (Z : State) (a0 : Array Value) (hw : ∀ d ∈ tables_1, d.before a0 Z = true) (ws : List Jvm.Cond) (a_FALSE : Addr) (h0 : Heap) (n0 : Nat) (O0 : Old Z n0 h0) (G0 : Sta Z Z.heap "com/example/contexture/contexture/engine/evaluation/TruthValue" "FALSE" "Lcom/example/contexture/contexture/engine/evaluation/TruthValue;" (.ref a_FALSE)) :
    MetFree l (⟨"com/example/contexture/contexture/engine/evaluation/TruthValue", "of", "(Z)Lcom/example/contexture/contexture/engine/evaluation/TruthValue;"⟩ : MethodName) (head1 (Jvm.Cond.code (⟨"com/example/contexture/contexture/engine/evaluation/TruthValue", "of", "(Z)Lcom/example/contexture/contexture/engine/evaluation/TruthValue;"⟩ : MethodName) prog_14_method_4_code 1 (some (.object "com/example/contexture/contexture/engine/evaluation/TruthValue")) :: ws) ({ frames := 0, cells := 0, slots := 0, locals := 0 } : Room)) (fun a U => a = #[(.int (0 : Int32))] ∧ Z.Warmed39 U.vm ∧ U.heap = h0) (fun _ _ _ _ _ => True) (fun _ U o U' => ∃ v L, o = .returned v ∧ Q_of1_0 Z a_FALSE h0 n0 v U'.heap L ∧ FrameEnd U o U' L ({ frames := 0, cells := 0, slots := 0, locals := 0 } : Room).cells ({ frames := 0, cells := 0, slots := 0, locals := 0 } : Room).slots) := by
  refine MetFree.of_bodySF (plainFor_of_name pn_2) hisR ?_
  intro p e s m args below meth c s₁ Bd hml0 hP hK
  obtain ⟨rfl, hZ, hh⟩ := hP
  have hx := Bd.exec
  have hby := Bd.bytes
  have hml : c.maxLocals = 1 := hml0
  have hown : s.vm.findClass "com/example/contexture/contexture/engine/evaluation/TruthValue" = some m.cls := findClass_of_methodNamed Bd.named
  have hnm := (name_of_methodNamed Bd.named Bd.method).1
  have X0 : Stand p l e ({ frames := 0, cells := 0, slots := 0, locals := 0 } : Room) s m #[(.int (0 : Int32))] below meth c s₁ [] 0 0 := Stand.of_body Bd
  have e0 : s₁.heap = h0 := by rw [← hh, Bd.state]; rfl
  have N0 := Fr.nil n0
  have pre0 : ∀ t, Steps p.tables e below (s₁.setTop (mkF m 0 #[.val (.int (0 : Int32))] [])) t → Steps p.tables e below (s₁.setTop (entryFrame m #[(.int (0 : Int32))] 1)) t := fun t k => castTop (ef_3 m (0 : Int32)) k
  have K0 : Keep h0 h0 [] := Keep.refl h0 []
  have pre11 : ∀ t, Steps p.tables e below (s₁.setTop (mkF m 10 #[.val (.int (0 : Int32))] [])) t → Steps p.tables e below (s₁.setTop (entryFrame m #[(.int (0 : Int32))] 1)) t := fun t kt => by
    refine pre0 _ ?_
    show Steps p.tables e below (s₁.setTop (mkF m 0 #[.val (.int (0 : Int32))] [])) _
    refine XS.iloadN X0.here hx rfl (hb hby d1_0) rfl ?_
    show Steps p.tables e below (s₁.setTop (mkF m 1 #[.val (.int (0 : Int32))] [(.int (0 : Int32))])) _
    refine XS.ifYes X0.here hx rfl (pc0 := 1) (pc' := 10) rfl (hb hby d1_1) rfl (XT.i0_eq_t (by decide)) (by decide) (by decide) ?_
    exact kt
  obtain ⟨T12, X12, e12, st12⟩ := getS2 X0 hx hZ hown (host := "") (Or.inl (hw _ (List.mem_of_getElem? (i := 4) rfl))) Via.refl e0 (G0.ext O0.2) (g := (mkF m 10 #[.val (.int (0 : Int32))] [])) rfl (hb hby d1_10)
  have pre13 : ∀ t, Steps p.tables e below (T12.setTop (mkF m 13 #[.val (.int (0 : Int32))] [(.ref a_FALSE)])) t → Steps p.tables e below (s₁.setTop (entryFrame m #[(.int (0 : Int32))] 1)) t := fun t kt => pre11 _ (st12 _ kt)
  obtain ⟨fs, hr, hrun, hended, hW, hsame⟩ := X12.leave (v := some (.ref a_FALSE)) (fun h => by rw [Bd.returns] at h; cases h)
  refine ⟨_, _, pre13 _ (X12.areturnOut hx rfl Bd.returns rfl (hb hby d1_13) hr), hrun, hended, _, _, rfl, ?_, ⟨_, rfl⟩, hW, hsame.mono (by decide) (by decide)⟩
  show Q_of1_0 Z a_FALSE h0 n0 _ T12.heap _
  rw [e12]
  exact ⟨rfl, N0, rfl⟩
theorem pd_4 : parseMethodDescriptor "(Z)Lcom/example/contexture/contexture/engine/evaluation/TruthValue;" = some ⟨[.boolean], some (.object "com/example/contexture/contexture/engine/evaluation/TruthValue")⟩ := by decide +kernel
theorem d1_4 : decode prog_14_method_4_code 4 = .ok (.getstatic 3, 3) := by decide +kernel
theorem d1_7 : decode prog_14_method_4_code 7 = .ok (.goto 6, 3) := by decide +kernel
def Q_of1_1 (Z : State) (a_TRUE : Addr) (h0 : Heap) (n0 : Nat) (v : Option Value) (h : Heap) (L : List Loc) : Prop := v = some (.ref a_TRUE) ∧ Fr n0 L ∧ h = h0
set_option maxRecDepth 65536 in
set_option maxHeartbeats 40000000 in
theorem rm_of1_1 (l : Launch) (Z : State) (a0 : Array Value) (hw : ∀ d ∈ tables_1, d.before a0 Z = true) (ws : List Jvm.Cond) (a_TRUE : Addr) (h0 : Heap) (n0 : Nat) (O0 : Old Z n0 h0) (G0 : Sta Z Z.heap "com/example/contexture/contexture/engine/evaluation/TruthValue" "TRUE" "Lcom/example/contexture/contexture/engine/evaluation/TruthValue;" (.ref a_TRUE)) :
    MetFree l (⟨"com/example/contexture/contexture/engine/evaluation/TruthValue", "of", "(Z)Lcom/example/contexture/contexture/engine/evaluation/TruthValue;"⟩ : MethodName) (head1 (Jvm.Cond.code (⟨"com/example/contexture/contexture/engine/evaluation/TruthValue", "of", "(Z)Lcom/example/contexture/contexture/engine/evaluation/TruthValue;"⟩ : MethodName) prog_14_method_4_code 1 (some (.object "com/example/contexture/contexture/engine/evaluation/TruthValue")) :: ws) ({ frames := 0, cells := 0, slots := 0, locals := 0 } : Room)) (fun a U => a = #[(.int (1 : Int32))] ∧ Z.Warmed39 U.vm ∧ U.heap = h0) (fun _ _ _ _ _ => True) (fun _ U o U' => ∃ v L, o = .returned v ∧ Q_of1_1 Z a_TRUE h0 n0 v U'.heap L ∧ FrameEnd U o U' L ({ frames := 0, cells := 0, slots := 0, locals := 0 } : Room).cells ({ frames := 0, cells := 0, slots := 0, locals := 0 } : Room).slots) := by
  refine MetFree.of_bodySF (plainFor_of_name pn_2) hisR ?_
  intro p e s m args below meth c s₁ Bd hml0 hP hK
  obtain ⟨rfl, hZ, hh⟩ := hP
  have hx := Bd.exec
  have hby := Bd.bytes
  have hml : c.maxLocals = 1 := hml0
  have hown : s.vm.findClass "com/example/contexture/contexture/engine/evaluation/TruthValue" = some m.cls := findClass_of_methodNamed Bd.named
  have hnm := (name_of_methodNamed Bd.named Bd.method).1
  have X0 : Stand p l e ({ frames := 0, cells := 0, slots := 0, locals := 0 } : Room) s m #[(.int (1 : Int32))] below meth c s₁ [] 0 0 := Stand.of_body Bd
  have e0 : s₁.heap = h0 := by rw [← hh, Bd.state]; rfl
  have N0 := Fr.nil n0
  have pre0 : ∀ t, Steps p.tables e below (s₁.setTop (mkF m 0 #[.val (.int (1 : Int32))] [])) t → Steps p.tables e below (s₁.setTop (entryFrame m #[(.int (1 : Int32))] 1)) t := fun t k => castTop (ef_3 m (1 : Int32)) k
  have K0 : Keep h0 h0 [] := Keep.refl h0 []
  have pre25 : ∀ t, Steps p.tables e below (s₁.setTop (mkF m 4 #[.val (.int (1 : Int32))] [])) t → Steps p.tables e below (s₁.setTop (entryFrame m #[(.int (1 : Int32))] 1)) t := fun t kt => by
    refine pre0 _ ?_
    show Steps p.tables e below (s₁.setTop (mkF m 0 #[.val (.int (1 : Int32))] [])) _
    refine XS.iloadN X0.here hx rfl (hb hby d1_0) rfl ?_
    show Steps p.tables e below (s₁.setTop (mkF m 1 #[.val (.int (1 : Int32))] [(.int (1 : Int32))])) _
    refine XS.ifNo X0.here hx rfl (hb hby d1_1) rfl (XT.i0_eq_f (by decide)) ?_
    exact kt
  obtain ⟨T26, X26, e26, st26⟩ := getS2 X0 hx hZ hown (host := "") (Or.inl (hw _ (List.mem_of_getElem? (i := 6) rfl))) Via.refl e0 (G0.ext O0.2) (g := (mkF m 4 #[.val (.int (1 : Int32))] [])) rfl (hb hby d1_4)
  have pre27 : ∀ t, Steps p.tables e below (T26.setTop (mkF m 7 #[.val (.int (1 : Int32))] [(.ref a_TRUE)])) t → Steps p.tables e below (s₁.setTop (entryFrame m #[(.int (1 : Int32))] 1)) t := fun t kt => pre25 _ (st26 _ kt)
  have pre28 : ∀ t, Steps p.tables e below (T26.setTop (mkF m 13 #[.val (.int (1 : Int32))] [(.ref a_TRUE)])) t → Steps p.tables e below (s₁.setTop (entryFrame m #[(.int (1 : Int32))] 1)) t := fun t kt => by
    refine pre27 _ ?_
    show Steps p.tables e below (T26.setTop (mkF m 7 #[.val (.int (1 : Int32))] [(.ref a_TRUE)])) _
    refine XS.goto X26.here hx rfl (pc0 := 7) (pc' := 13) rfl (hb hby d1_7) (by decide) (by decide) ?_
    exact kt
  obtain ⟨fs, hr, hrun, hended, hW, hsame⟩ := X26.leave (v := some (.ref a_TRUE)) (fun h => by rw [Bd.returns] at h; cases h)
  refine ⟨_, _, pre28 _ (X26.areturnOut hx rfl Bd.returns rfl (hb hby d1_13) hr), hrun, hended, _, _, rfl, ?_, ⟨_, rfl⟩, hW, hsame.mono (by decide) (by decide)⟩
  show Q_of1_1 Z a_TRUE h0 n0 _ T26.heap _
  rw [e26]
  exact ⟨rfl, N0, rfl⟩
theorem d2_0 : decode prog_15_method_8_code 0 = .ok (.aload_n 0, 1) := by decide +kernel
theorem d2_1 : decode prog_15_method_8_code 1 = .ok (.aload_n 1, 1) := by decide +kernel
theorem d2_2 : decode prog_15_method_8_code 2 = .ok (.checkcast 8, 3) := by decide +kernel
theorem d2_5 : decode prog_15_method_8_code 5 = .ok (.invokevirtual 26, 3) := by decide +kernel
theorem d3_0 : decode prog_15_method_6_code 0 = .ok (.aload_n 1, 1) := by decide +kernel
theorem d3_1 : decode prog_15_method_6_code 1 = .ok (.getstatic 13, 3) := by decide +kernel
theorem d3_4 : decode prog_15_method_6_code 4 = .ok (.if_acmp .ne 7, 3) := by decide +kernel
theorem d3_11 : decode prog_15_method_6_code 11 = .ok (.iconst 0, 1) := by decide +kernel
theorem d3_12 : decode prog_15_method_6_code 12 = .ok (.ireturn, 1) := by decide +kernel
theorem pn_5 : plainName "com/example/contexture/contexture/engine/evaluation/TruthValue$1" = true := by first | (simp [plainName, overriddenIn]; done) | decide +kernel
theorem ef_6 (m : MethodId) (x0 : Addr) (x1 : Addr) : entryFrame m #[(.ref x0), (.ref x1)] 2 = mkF m 0 #[.val (.ref x0), .val (.ref x1)] [] := by first | (simp [entryFrame, mkF, argsToLocals, Value.category]; done) | rfl
def Q_settlesOr3_0 (Z : State) (a_LOGIC : Addr) (a_FALSE : Addr) (a_TRUE : Addr) (h0 : Heap) (n0 : Nat) (v : Option Value) (h : Heap) (L : List Loc) : Prop := v = some (.int (0 : Int32)) ∧ Fr n0 L ∧ h = h0
set_option maxRecDepth 65536 in
set_option maxHeartbeats 40000000 in
theorem rm_settlesOr3_0 (l : Launch) (Z : State) (a0 : Array Value) (hw : ∀ d ∈ tables_1, d.before a0 Z = true) (ws : List Jvm.Cond) (a_LOGIC : Addr) (a_FALSE : Addr) (a_TRUE : Addr) (h0 : Heap) (n0 : Nat) (O0 : Old Z n0 h0) (G0 : Sta Z Z.heap "com/example/contexture/contexture/engine/evaluation/TruthValue" "TRUE" "Lcom/example/contexture/contexture/engine/evaluation/TruthValue;" (.ref a_TRUE)) (q0 : ¬ (a_TRUE = a_FALSE)) :
    MetFree l (⟨"com/example/contexture/contexture/engine/evaluation/TruthValue$1", "settlesOr", "(Lcom/example/contexture/contexture/engine/evaluation/TruthValue;)Z"⟩ : MethodName) (head1 (Jvm.Cond.code (⟨"com/example/contexture/contexture/engine/evaluation/TruthValue$1", "settlesOr", "(Lcom/example/contexture/contexture/engine/evaluation/TruthValue;)Z"⟩ : MethodName) prog_15_method_6_code 2 (some .boolean) :: ws) ({ frames := 0, cells := 0, slots := 0, locals := 0 } : Room)) (fun a U => a = #[(.ref a_LOGIC), (.ref a_FALSE)] ∧ Z.Warmed39 U.vm ∧ U.heap = h0) (fun _ _ _ _ _ => True) (fun _ U o U' => ∃ v L, o = .returned v ∧ Q_settlesOr3_0 Z a_LOGIC a_FALSE a_TRUE h0 n0 v U'.heap L ∧ FrameEnd U o U' L ({ frames := 0, cells := 0, slots := 0, locals := 0 } : Room).cells ({ frames := 0, cells := 0, slots := 0, locals := 0 } : Room).slots) := by
  refine MetFree.of_bodySF (plainFor_of_name pn_5) hisR ?_
  intro p e s m args below meth c s₁ Bd hml0 hP hK
  obtain ⟨rfl, hZ, hh⟩ := hP
  have hx := Bd.exec
  have hby := Bd.bytes
  have hml : c.maxLocals = 2 := hml0
  have hown : s.vm.findClass "com/example/contexture/contexture/engine/evaluation/TruthValue$1" = some m.cls := findClass_of_methodNamed Bd.named
  have hnm := (name_of_methodNamed Bd.named Bd.method).1
  have X0 : Stand p l e ({ frames := 0, cells := 0, slots := 0, locals := 0 } : Room) s m #[(.ref a_LOGIC), (.ref a_FALSE)] below meth c s₁ [] 0 0 := Stand.of_body Bd
  have e0 : s₁.heap = h0 := by rw [← hh, Bd.state]; rfl
  have N0 := Fr.nil n0
  have pre0 : ∀ t, Steps p.tables e below (s₁.setTop (mkF m 0 #[.val (.ref a_LOGIC), .val (.ref a_FALSE)] [])) t → Steps p.tables e below (s₁.setTop (entryFrame m #[(.ref a_LOGIC), (.ref a_FALSE)] 2)) t := fun t k => castTop (ef_6 m a_LOGIC a_FALSE) k
  have K0 : Keep h0 h0 [] := Keep.refl h0 []
  have pre47 : ∀ t, Steps p.tables e below (s₁.setTop (mkF m 1 #[.val (.ref a_LOGIC), .val (.ref a_FALSE)] [(.ref a_FALSE)])) t → Steps p.tables e below (s₁.setTop (entryFrame m #[(.ref a_LOGIC), (.ref a_FALSE)] 2)) t := fun t kt => by
    refine pre0 _ ?_
    show Steps p.tables e below (s₁.setTop (mkF m 0 #[.val (.ref a_LOGIC), .val (.ref a_FALSE)] [])) _
    refine XS.aloadN X0.here hx rfl (hb hby d3_0) rfl rfl ?_
    exact kt
  obtain ⟨T48, X48, e48, st48⟩ := getS2 X0 hx hZ hown (host := "") (Or.inl (hw _ (List.mem_of_getElem? (i := 27) rfl))) Via.refl e0 (G0.ext O0.2) (g := (mkF m 1 #[.val (.ref a_LOGIC), .val (.ref a_FALSE)] [(.ref a_FALSE)])) rfl (hb hby d3_1)
  have pre49 : ∀ t, Steps p.tables e below (T48.setTop (mkF m 4 #[.val (.ref a_LOGIC), .val (.ref a_FALSE)] [(.ref a_TRUE), (.ref a_FALSE)])) t → Steps p.tables e below (s₁.setTop (entryFrame m #[(.ref a_LOGIC), (.ref a_FALSE)] 2)) t := fun t kt => pre47 _ (st48 _ kt)
  have pre50 : ∀ t, Steps p.tables e below (T48.setTop (mkF m 12 #[.val (.ref a_LOGIC), .val (.ref a_FALSE)] [(.int (0 : Int32))])) t → Steps p.tables e below (s₁.setTop (entryFrame m #[(.ref a_LOGIC), (.ref a_FALSE)] 2)) t := fun t kt => by
    refine pre49 _ ?_
    show Steps p.tables e below (T48.setTop (mkF m 4 #[.val (.ref a_LOGIC), .val (.ref a_FALSE)] [(.ref a_TRUE), (.ref a_FALSE)])) _
    refine Jvm.RoadKit.acmp (g := (mkF m 4 #[.val (.ref a_LOGIC), .val (.ref a_FALSE)] [(.ref a_TRUE), (.ref a_FALSE)])) X48 hx rfl rfl rfl (pc0 := 4) (pc' := 11) (same := false) rfl (hb hby d3_4) rfl (decide_eq_false fun q => (fun q => q0 q.symm) (Value.ref.inj q)) (by decide) (by decide) ?_
    show Steps p.tables e below (T48.setTop (mkF m 11 #[.val (.ref a_LOGIC), .val (.ref a_FALSE)] [])) _
    refine XS.iconst X48.here hx rfl (hb hby d3_11) ?_
    exact kt
  obtain ⟨fs, hr, hrun, hended, hW, hsame⟩ := X48.leave (v := some (.int (0 : Int32))) (fun h => by rw [Bd.returns] at h; cases h)
  refine ⟨_, _, pre50 _ (retN X48 hx (t := .boolean) Bd.returns (by simp) (hb hby d3_12) hr), hrun, hended, _, _, rfl, ?_, ⟨_, rfl⟩, hW, hsame.mono (by decide) (by decide)⟩
  show Q_settlesOr3_0 Z a_LOGIC a_FALSE a_TRUE h0 n0 _ T48.heap _
  rw [e48]
  exact ⟨rfl, N0, rfl⟩
theorem pd_7 : parseMethodDescriptor "(Lcom/example/contexture/contexture/engine/evaluation/TruthValue;)Z" = some ⟨[(.object "com/example/contexture/contexture/engine/evaluation/TruthValue")], some .boolean⟩ := by decide +kernel
theorem d2_8 : decode prog_15_method_8_code 8 = .ok (.ireturn, 1) := by decide +kernel
theorem ef_8 (m : MethodId) (x0 : Addr) (x1 : Addr) : entryFrame m #[(.ref x0), (.ref x1)] 2 = mkF m 0 #[.val (.ref x0), .val (.ref x1)] [] := by first | (simp [entryFrame, mkF, argsToLocals, Value.category]; done) | rfl
def Q_settlesOr2_0 (Z : State) (a_LOGIC : Addr) (a_FALSE : Addr) (a_TRUE : Addr) (h0 : Heap) (n0 : Nat) (v : Option Value) (h : Heap) (L : List Loc) : Prop := v = some (.int (0 : Int32)) ∧ Fr n0 L ∧ h = h0
set_option maxRecDepth 65536 in
set_option maxHeartbeats 40000000 in
theorem rm_settlesOr2_0 (l : Launch) (Z : State) (a0 : Array Value) (hw : ∀ d ∈ tables_1, d.before a0 Z = true) (ws : List Jvm.Cond) (a_LOGIC : Addr) (a_FALSE : Addr) (a_TRUE : Addr) (h0 : Heap) (n0 : Nat) (O0 : Old Z n0 h0) (G0 : Exa Z Z.heap a_FALSE "com/example/contexture/contexture/engine/evaluation/TruthValue") (G1 : Sta Z Z.heap "com/example/contexture/contexture/engine/evaluation/TruthValue" "TRUE" "Lcom/example/contexture/contexture/engine/evaluation/TruthValue;" (.ref a_TRUE)) (G2 : Exa Z Z.heap a_LOGIC "com/example/contexture/contexture/engine/evaluation/TruthValue$1") (q0 : ¬ (a_TRUE = a_FALSE)) :
    MetFree l (⟨"com/example/contexture/contexture/engine/evaluation/TruthValue$1", "settlesOr", "(Ljava/lang/Object;)Z"⟩ : MethodName) (head1 (Jvm.Cond.code (⟨"com/example/contexture/contexture/engine/evaluation/TruthValue$1", "settlesOr", "(Ljava/lang/Object;)Z"⟩ : MethodName) prog_15_method_8_code 2 (some .boolean) :: ws) ({ frames := 1, cells := 0, slots := 0, locals := 13 } : Room)) (fun a U => a = #[(.ref a_LOGIC), (.ref a_FALSE)] ∧ Z.Warmed39 U.vm ∧ U.heap = h0) (fun _ _ _ _ _ => True) (fun _ U o U' => ∃ v L, o = .returned v ∧ Q_settlesOr2_0 Z a_LOGIC a_FALSE a_TRUE h0 n0 v U'.heap L ∧ FrameEnd U o U' L ({ frames := 1, cells := 0, slots := 0, locals := 13 } : Room).cells ({ frames := 1, cells := 0, slots := 0, locals := 13 } : Room).slots) := by
  refine MetFree.of_bodySF (plainFor_of_name pn_5) hisR ?_
  intro p e s m args below meth c s₁ Bd hml0 hP hK
  obtain ⟨rfl, hZ, hh⟩ := hP
  have hx := Bd.exec
  have hby := Bd.bytes
  have hml : c.maxLocals = 2 := hml0
  have hown : s.vm.findClass "com/example/contexture/contexture/engine/evaluation/TruthValue$1" = some m.cls := findClass_of_methodNamed Bd.named
  have hnm := (name_of_methodNamed Bd.named Bd.method).1
  have X0 : Stand p l e ({ frames := 1, cells := 0, slots := 0, locals := 13 } : Room) s m #[(.ref a_LOGIC), (.ref a_FALSE)] below meth c s₁ [] 0 0 := Stand.of_body Bd
  have e0 : s₁.heap = h0 := by rw [← hh, Bd.state]; rfl
  have N0 := Fr.nil n0
  have pre0 : ∀ t, Steps p.tables e below (s₁.setTop (mkF m 0 #[.val (.ref a_LOGIC), .val (.ref a_FALSE)] [])) t → Steps p.tables e below (s₁.setTop (entryFrame m #[(.ref a_LOGIC), (.ref a_FALSE)] 2)) t := fun t k => castTop (ef_8 m a_LOGIC a_FALSE) k
  have K0 : Keep h0 h0 [] := Keep.refl h0 []
  have pre57 : ∀ t, Steps p.tables e below (s₁.setTop (mkF m 2 #[.val (.ref a_LOGIC), .val (.ref a_FALSE)] [(.ref a_FALSE), (.ref a_LOGIC)])) t → Steps p.tables e below (s₁.setTop (entryFrame m #[(.ref a_LOGIC), (.ref a_FALSE)] 2)) t := fun t kt => by
    refine pre0 _ ?_
    show Steps p.tables e below (s₁.setTop (mkF m 0 #[.val (.ref a_LOGIC), .val (.ref a_FALSE)] [])) _
    refine XS.aloadN X0.here hx rfl (hb hby d2_0) rfl rfl ?_
    show Steps p.tables e below (s₁.setTop (mkF m 1 #[.val (.ref a_LOGIC), .val (.ref a_FALSE)] [(.ref a_LOGIC)])) _
    refine XS.aloadN X0.here hx rfl (hb hby d2_1) rfl rfl ?_
    exact kt
  obtain ⟨T58, X58, e58, st58⟩ := castY X0 hx hZ hown (hw _ (List.mem_of_getElem? (i := 20) rfl)) e0 (Ins.self (G0.ext O0.2)) (g := (mkF m 2 #[.val (.ref a_LOGIC), .val (.ref a_FALSE)] [(.ref a_FALSE), (.ref a_LOGIC)])) rfl rfl (hb hby d2_2)
  have pre59 : ∀ t, Steps p.tables e below (T58.setTop (mkF m 5 #[.val (.ref a_LOGIC), .val (.ref a_FALSE)] [(.ref a_FALSE), (.ref a_LOGIC)])) t → Steps p.tables e below (s₁.setTop (entryFrame m #[(.ref a_LOGIC), (.ref a_FALSE)] 2)) t := fun t kt => pre57 _ (st58 _ kt)
  obtain ⟨cq60, kq60, q60a, q60b, q60c⟩ := isOf hZ e58 (G2.ext O0.2)
  obtain ⟨_, _, ⟨T60, L60, k60, n60⟩, -, X60, ⟨Lc60, hQ60, l60, y60, z60⟩, st60⟩ := X58.virtualBack hx (y := (⟨"com/example/contexture/contexture/engine/evaluation/TruthValue$1", "settlesOr", "(Lcom/example/contexture/contexture/engine/evaluation/TruthValue;)Z"⟩ : MethodName)) (z := (⟨"com/example/contexture/contexture/engine/evaluation/TruthValue$1", "settlesOr", "(Lcom/example/contexture/contexture/engine/evaluation/TruthValue;)Z"⟩ : MethodName)) hown (mvT hZ (hw _ (List.mem_of_getElem? (i := 22) rfl))) (mvT hZ (hw _ (List.mem_of_getElem? (i := 23) rfl))) (notFace_of_selects (args := #[]) (mvT hZ (hw _ (List.mem_of_getElem? (i := 25) rfl)))) (mvT hZ (hw _ (List.mem_of_getElem? (i := 25) rfl))) (mvT hZ (hw _ (List.mem_of_getElem? (i := 24) rfl))) (by decide) (backOf (W := 0) (rm_settlesOr3_0 l Z a0 hw [] a_LOGIC a_FALSE a_TRUE h0 n0 O0 G1 q0) hZ (hw _ (List.mem_of_getElem? (i := 26) rfl)) (hw _ (List.mem_of_getElem? (i := 18) rfl)) (by decide) (by decide)) q60a q60c (g := (mkF m 5 #[.val (.ref a_LOGIC), .val (.ref a_FALSE)] [(.ref a_FALSE), (.ref a_LOGIC)])) rfl (by rw [hml]; rfl) (Steps.refl _) (argsL := [(.ref a_FALSE)]) (rest := []) (lenOf pd_7 rfl) rfl (by show 2 * 0 + _ ≤ _; exact Nat.le_of_eq rfl) (hb hby d2_5) (fun _ _ => ⟨rfl, e58, (by decide : 0 + 0 ≤ _), (by decide : 0 + 0 ≤ _)⟩)
  dsimp only [Pt.U, Pt.locs, Pt.cells, Pt.slots] at X60 l60 y60 z60 st60 hQ60
  subst l60 y60 z60
  obtain ⟨rfl, M60, e60⟩ := hQ60
  have N60 := Fr.app N0 M60
  have pre61 : ∀ t, Steps p.tables e below (T60.setTop (mkF m 8 #[.val (.ref a_LOGIC), .val (.ref a_FALSE)] [(.int (0 : Int32))])) t → Steps p.tables e below (s₁.setTop (entryFrame m #[(.ref a_LOGIC), (.ref a_FALSE)] 2)) t := fun t kt => pre59 _ (st60.trans kt)
  obtain ⟨fs, hr, hrun, hended, hW, hsame⟩ := X60.leave (v := some (.int (0 : Int32))) (fun h => by rw [Bd.returns] at h; cases h)
  refine ⟨_, _, pre61 _ (retN X60 hx (t := .boolean) Bd.returns (by simp) (hb hby d2_8) hr), hrun, hended, _, _, rfl, ?_, ⟨_, rfl⟩, hW, hsame.mono (by decide) (by decide)⟩
  show Q_settlesOr2_0 Z a_LOGIC a_FALSE a_TRUE h0 n0 _ T60.heap _
  rw [e60]
  exact ⟨rfl, N60, rfl⟩
theorem pd_9 : parseMethodDescriptor "(Ljava/lang/Object;)Z" = some ⟨[(.object "java/lang/Object")], some .boolean⟩ := by decide +kernel
theorem d4_0 : decode prog_14_method_6_code 0 = .ok (.aload_n 0, 1) := by decide +kernel
theorem d4_1 : decode prog_14_method_6_code 1 = .ok (.invokevirtual 32, 3) := by decide +kernel
theorem d5_0 : decode jdk_37_method_2_code 0 = .ok (.aload_n 0, 1) := by decide +kernel
theorem d5_1 : decode jdk_37_method_2_code 1 = .ok (.getfield 7, 3) := by decide +kernel
theorem d5_4 : decode jdk_37_method_2_code 4 = .ok (.ireturn, 1) := by decide +kernel
theorem pn_10 : plainName "java/lang/Enum" = true := by first | (simp [plainName, overriddenIn]; done) | decide +kernel
theorem ef_11 (m : MethodId) (x0 : Addr) : entryFrame m #[(.ref x0)] 1 = mkF m 0 #[.val (.ref x0)] [] := by first | (simp [entryFrame, mkF, argsToLocals, Value.category]; done) | rfl
def Q_ordinal5_0 (Z : State) (a_FALSE : Addr) (h0 : Heap) (n0 : Nat) (v : Option Value) (h : Heap) (L : List Loc) : Prop := v = some (.int (1 : Int32)) ∧ Fr n0 L ∧ h = h0
set_option maxRecDepth 65536 in
set_option maxHeartbeats 40000000 in
theorem rm_ordinal5_0 (l : Launch) (Z : State) (a0 : Array Value) (hw : ∀ d ∈ tables_1, d.before a0 Z = true) (ws : List Jvm.Cond) (a_FALSE : Addr) (h0 : Heap) (n0 : Nat) (O0 : Old Z n0 h0) (G0 : Fld Z Z.heap a_FALSE "java/lang/Enum" "ordinal" "I" (.int (1 : Int32))) :
    MetFree l (⟨"java/lang/Enum", "ordinal", "()I"⟩ : MethodName) (head1 (Jvm.Cond.code (⟨"java/lang/Enum", "ordinal", "()I"⟩ : MethodName) jdk_37_method_2_code 1 (some .int) :: ws) ({ frames := 0, cells := 0, slots := 0, locals := 0 } : Room)) (fun a U => a = #[(.ref a_FALSE)] ∧ Z.Warmed39 U.vm ∧ U.heap = h0) (fun _ _ _ _ _ => True) (fun _ U o U' => ∃ v L, o = .returned v ∧ Q_ordinal5_0 Z a_FALSE h0 n0 v U'.heap L ∧ FrameEnd U o U' L ({ frames := 0, cells := 0, slots := 0, locals := 0 } : Room).cells ({ frames := 0, cells := 0, slots := 0, locals := 0 } : Room).slots) := by
  refine MetFree.of_bodySF (plainFor_of_name pn_10) hisR ?_
  intro p e s m args below meth c s₁ Bd hml0 hP hK
  obtain ⟨rfl, hZ, hh⟩ := hP
  have hx := Bd.exec
  have hby := Bd.bytes
  have hml : c.maxLocals = 1 := hml0
  have hown : s.vm.findClass "java/lang/Enum" = some m.cls := findClass_of_methodNamed Bd.named
  have hnm := (name_of_methodNamed Bd.named Bd.method).1
  have X0 : Stand p l e ({ frames := 0, cells := 0, slots := 0, locals := 0 } : Room) s m #[(.ref a_FALSE)] below meth c s₁ [] 0 0 := Stand.of_body Bd
  have e0 : s₁.heap = h0 := by rw [← hh, Bd.state]; rfl
  have N0 := Fr.nil n0
  have pre0 : ∀ t, Steps p.tables e below (s₁.setTop (mkF m 0 #[.val (.ref a_FALSE)] [])) t → Steps p.tables e below (s₁.setTop (entryFrame m #[(.ref a_FALSE)] 1)) t := fun t k => castTop (ef_11 m a_FALSE) k
  have K0 : Keep h0 h0 [] := Keep.refl h0 []
  have pre73 : ∀ t, Steps p.tables e below (s₁.setTop (mkF m 1 #[.val (.ref a_FALSE)] [(.ref a_FALSE)])) t → Steps p.tables e below (s₁.setTop (entryFrame m #[(.ref a_FALSE)] 1)) t := fun t kt => by
    refine pre0 _ ?_
    show Steps p.tables e below (s₁.setTop (mkF m 0 #[.val (.ref a_FALSE)] [])) _
    refine XS.aloadN X0.here hx rfl (hb hby d5_0) rfl rfl ?_
    exact kt
  obtain ⟨T74, X74, e74, st74⟩ := getF X0 hx hZ hown (host := "") (Or.inl (hw _ (List.mem_of_getElem? (i := 40) rfl))) Via.refl e0 (G0.ext O0.2) (g := (mkF m 1 #[.val (.ref a_FALSE)] [(.ref a_FALSE)])) rfl rfl (hb hby d5_1)
  have pre75 : ∀ t, Steps p.tables e below (T74.setTop (mkF m 4 #[.val (.ref a_FALSE)] [(.int (1 : Int32))])) t → Steps p.tables e below (s₁.setTop (entryFrame m #[(.ref a_FALSE)] 1)) t := fun t kt => pre73 _ (st74 _ kt)
  obtain ⟨fs, hr, hrun, hended, hW, hsame⟩ := X74.leave (v := some (.int (1 : Int32))) (fun h => by rw [Bd.returns] at h; cases h)
  refine ⟨_, _, pre75 _ (retI X74 hx Bd.returns (hb hby d5_4) hr), hrun, hended, _, _, rfl, ?_, ⟨_, rfl⟩, hW, hsame.mono (by decide) (by decide)⟩
  show Q_ordinal5_0 Z a_FALSE h0 n0 _ T74.heap _
  rw [e74]
  exact ⟨rfl, N0, rfl⟩
theorem pd_12 : parseMethodDescriptor "()I" = some ⟨[], some .int⟩ := by decide +kernel
theorem d4_4 : decode prog_14_method_6_code 4 = .ok (.tableswitch 28 0 2 #[38, 44, 50], 28) := by decide +kernel
theorem d4_48 : decode prog_14_method_6_code 48 = .ok (.getstatic 3, 3) := by decide +kernel
theorem d4_51 : decode prog_14_method_6_code 51 = .ok (.goto 6, 3) := by decide +kernel
theorem d4_57 : decode prog_14_method_6_code 57 = .ok (.areturn, 1) := by decide +kernel
theorem ef_13 (m : MethodId) (x0 : Addr) : entryFrame m #[(.ref x0)] 1 = mkF m 0 #[.val (.ref x0)] [] := by first | (simp [entryFrame, mkF, argsToLocals, Value.category]; done) | rfl
def Q_not4_0 (Z : State) (a_FALSE : Addr) (a_TRUE : Addr) (h0 : Heap) (n0 : Nat) (v : Option Value) (h : Heap) (L : List Loc) : Prop := v = some (.ref a_TRUE) ∧ Fr n0 L ∧ h = h0
set_option maxRecDepth 65536 in
set_option maxHeartbeats 40000000 in
theorem rm_not4_0 (l : Launch) (Z : State) (a0 : Array Value) (hw : ∀ d ∈ tables_1, d.before a0 Z = true) (ws : List Jvm.Cond) (a_FALSE : Addr) (a_TRUE : Addr) (h0 : Heap) (n0 : Nat) (O0 : Old Z n0 h0) (G0 : Exa Z Z.heap a_FALSE "com/example/contexture/contexture/engine/evaluation/TruthValue") (G1 : Sta Z Z.heap "com/example/contexture/contexture/engine/evaluation/TruthValue" "TRUE" "Lcom/example/contexture/contexture/engine/evaluation/TruthValue;" (.ref a_TRUE)) (G2 : Fld Z Z.heap a_FALSE "java/lang/Enum" "ordinal" "I" (.int (1 : Int32))) :
    MetFree l (⟨"com/example/contexture/contexture/engine/evaluation/TruthValue", "not", "()Lcom/example/contexture/contexture/engine/evaluation/TruthValue;"⟩ : MethodName) (head1 (Jvm.Cond.code (⟨"com/example/contexture/contexture/engine/evaluation/TruthValue", "not", "()Lcom/example/contexture/contexture/engine/evaluation/TruthValue;"⟩ : MethodName) prog_14_method_6_code 1 (some (.object "com/example/contexture/contexture/engine/evaluation/TruthValue")) :: ws) ({ frames := 1, cells := 0, slots := 0, locals := 12 } : Room)) (fun a U => a = #[(.ref a_FALSE)] ∧ Z.Warmed39 U.vm ∧ U.heap = h0) (fun _ _ _ _ _ => True) (fun _ U o U' => ∃ v L, o = .returned v ∧ Q_not4_0 Z a_FALSE a_TRUE h0 n0 v U'.heap L ∧ FrameEnd U o U' L ({ frames := 1, cells := 0, slots := 0, locals := 12 } : Room).cells ({ frames := 1, cells := 0, slots := 0, locals := 12 } : Room).slots) := by
  refine MetFree.of_bodySF (plainFor_of_name pn_2) hisR ?_
  intro p e s m args below meth c s₁ Bd hml0 hP hK
  obtain ⟨rfl, hZ, hh⟩ := hP
  have hx := Bd.exec
  have hby := Bd.bytes
  have hml : c.maxLocals = 1 := hml0
  have hown : s.vm.findClass "com/example/contexture/contexture/engine/evaluation/TruthValue" = some m.cls := findClass_of_methodNamed Bd.named
  have hnm := (name_of_methodNamed Bd.named Bd.method).1
  have X0 : Stand p l e ({ frames := 1, cells := 0, slots := 0, locals := 12 } : Room) s m #[(.ref a_FALSE)] below meth c s₁ [] 0 0 := Stand.of_body Bd
  have e0 : s₁.heap = h0 := by rw [← hh, Bd.state]; rfl
  have N0 := Fr.nil n0
  have pre0 : ∀ t, Steps p.tables e below (s₁.setTop (mkF m 0 #[.val (.ref a_FALSE)] [])) t → Steps p.tables e below (s₁.setTop (entryFrame m #[(.ref a_FALSE)] 1)) t := fun t k => castTop (ef_13 m a_FALSE) k
  have K0 : Keep h0 h0 [] := Keep.refl h0 []
  have pre88 : ∀ t, Steps p.tables e below (s₁.setTop (mkF m 1 #[.val (.ref a_FALSE)] [(.ref a_FALSE)])) t → Steps p.tables e below (s₁.setTop (entryFrame m #[(.ref a_FALSE)] 1)) t := fun t kt => by
    refine pre0 _ ?_
    show Steps p.tables e below (s₁.setTop (mkF m 0 #[.val (.ref a_FALSE)] [])) _
    refine XS.aloadN X0.here hx rfl (hb hby d4_0) rfl rfl ?_
    exact kt
  obtain ⟨cq89, kq89, q89a, q89b, q89c⟩ := isOf hZ e0 (G0.ext O0.2)
  obtain ⟨_, _, ⟨T89, L89, k89, n89⟩, -, X89, ⟨Lc89, hQ89, l89, y89, z89⟩, st89⟩ := X0.virtualBackUp hx (x := (⟨"com/example/contexture/contexture/engine/evaluation/TruthValue", "ordinal", "()I"⟩ : MethodName)) (y := (⟨"java/lang/Enum", "ordinal", "()I"⟩ : MethodName)) (owner := "java/lang/Enum") hown (mvT hZ (hw _ (List.mem_of_getElem? (i := 33) rfl))) (mvT hZ (hw _ (List.mem_of_getElem? (i := 34) rfl))) (mvT hZ (hw _ (List.mem_of_getElem? (i := 35) rfl))) (by decide) (mvT hZ (hw _ (List.mem_of_getElem? (i := 37) rfl))) (mvT hZ (hw _ (List.mem_of_getElem? (i := 36) rfl))) (backOf (W := 0) (rm_ordinal5_0 l Z a0 hw [] a_FALSE h0 n0 O0 G2) hZ (hw _ (List.mem_of_getElem? (i := 39) rfl)) (hw _ (List.mem_of_getElem? (i := 38) rfl)) (by decide) (by decide)) q89a q89c (g := (mkF m 1 #[.val (.ref a_FALSE)] [(.ref a_FALSE)])) rfl (by rw [hml]; rfl) (Steps.refl _) (argsL := []) (rest := []) (lenOf pd_12 rfl) rfl (by show 2 * 0 + _ ≤ _; exact Nat.le_of_eq rfl) (hb hby d4_1) (fun _ _ => ⟨rfl, e0, (by decide : 0 + 0 ≤ _), (by decide : 0 + 0 ≤ _)⟩)
  dsimp only [Pt.U, Pt.locs, Pt.cells, Pt.slots] at X89 l89 y89 z89 st89 hQ89
  subst l89 y89 z89
  obtain ⟨rfl, M89, e89⟩ := hQ89
  have N89 := Fr.app N0 M89
  have pre90 : ∀ t, Steps p.tables e below (T89.setTop (mkF m 4 #[.val (.ref a_FALSE)] [(.int (1 : Int32))])) t → Steps p.tables e below (s₁.setTop (entryFrame m #[(.ref a_FALSE)] 1)) t := fun t kt => pre88 _ (st89.trans kt)
  have pre91 : ∀ t, Steps p.tables e below (T89.setTop (mkF m 48 #[.val (.ref a_FALSE)] [])) t → Steps p.tables e below (s₁.setTop (entryFrame m #[(.ref a_FALSE)] 1)) t := fun t kt => by
    refine pre90 _ ?_
    show Steps p.tables e below (T89.setTop (mkF m 4 #[.val (.ref a_FALSE)] [(.int (1 : Int32))])) _
    refine XS.tswIn X89.here hx rfl (pc0 := 4) (pc' := 48) rfl (hb hby d4_4) rfl (by decide) (o := 44) (by decide) (by decide) (by decide) ?_
    exact kt
  obtain ⟨T92, X92, e92, st92⟩ := getS2 X89 hx hZ hown (host := "") (Or.inl (hw _ (List.mem_of_getElem? (i := 6) rfl))) Via.refl e89 (G1.ext O0.2) (g := (mkF m 48 #[.val (.ref a_FALSE)] [])) rfl (hb hby d4_48)
  have pre93 : ∀ t, Steps p.tables e below (T92.setTop (mkF m 51 #[.val (.ref a_FALSE)] [(.ref a_TRUE)])) t → Steps p.tables e below (s₁.setTop (entryFrame m #[(.ref a_FALSE)] 1)) t := fun t kt => pre91 _ (st92 _ kt)
  have pre94 : ∀ t, Steps p.tables e below (T92.setTop (mkF m 57 #[.val (.ref a_FALSE)] [(.ref a_TRUE)])) t → Steps p.tables e below (s₁.setTop (entryFrame m #[(.ref a_FALSE)] 1)) t := fun t kt => by
    refine pre93 _ ?_
    show Steps p.tables e below (T92.setTop (mkF m 51 #[.val (.ref a_FALSE)] [(.ref a_TRUE)])) _
    refine XS.goto X92.here hx rfl (pc0 := 51) (pc' := 57) rfl (hb hby d4_51) (by decide) (by decide) ?_
    exact kt
  obtain ⟨fs, hr, hrun, hended, hW, hsame⟩ := X92.leave (v := some (.ref a_TRUE)) (fun h => by rw [Bd.returns] at h; cases h)
  refine ⟨_, _, pre94 _ (X92.areturnOut hx rfl Bd.returns rfl (hb hby d4_57) hr), hrun, hended, _, _, rfl, ?_, ⟨_, rfl⟩, hW, hsame.mono (by decide) (by decide)⟩
  show Q_not4_0 Z a_FALSE a_TRUE h0 n0 _ T92.heap _
  rw [e92]
  exact ⟨rfl, N89, rfl⟩
theorem pd_14 : parseMethodDescriptor "()Lcom/example/contexture/contexture/engine/evaluation/TruthValue;" = some ⟨[], some (.object "com/example/contexture/contexture/engine/evaluation/TruthValue")⟩ := by decide +kernel
theorem d6_0 : decode prog_14_method_5_code 0 = .ok (.iload_n 0, 1) := by decide +kernel
theorem d6_1 : decode prog_14_method_5_code 1 = .ok (.ifCond .eq 10, 3) := by decide +kernel
theorem d6_11 : decode prog_14_method_5_code 11 = .ok (.iload_n 1, 1) := by decide +kernel
theorem d6_12 : decode prog_14_method_5_code 12 = .ok (.ifCond .eq 10, 3) := by decide +kernel
theorem d6_15 : decode prog_14_method_5_code 15 = .ok (.getstatic 7, 3) := by decide +kernel
theorem d6_18 : decode prog_14_method_5_code 18 = .ok (.astore_n 2, 1) := by decide +kernel
theorem d6_19 : decode prog_14_method_5_code 19 = .ok (.goto 7, 3) := by decide +kernel
theorem d6_26 : decode prog_14_method_5_code 26 = .ok (.aload_n 2, 1) := by decide +kernel
theorem d6_27 : decode prog_14_method_5_code 27 = .ok (.areturn, 1) := by decide +kernel
theorem ef_15 (m : MethodId) (x0 : Int32) (x1 : Int32) : entryFrame m #[(.int x0), (.int x1)] 3 = mkF m 0 #[.val (.int x0), .val (.int x1), .unset] [] := by first | (simp [entryFrame, mkF, argsToLocals, Value.category]; done) | rfl
def Q_reported6_0 (Z : State) (a_FALSE : Addr) (h0 : Heap) (n0 : Nat) (v : Option Value) (h : Heap) (L : List Loc) : Prop := v = some (.ref a_FALSE) ∧ Fr n0 L ∧ h = h0
set_option maxRecDepth 65536 in
set_option maxHeartbeats 40000000 in
theorem rm_reported6_0 (l : Launch) (Z : State) (a0 : Array Value) (hw : ∀ d ∈ tables_1, d.before a0 Z = true) (ws : List Jvm.Cond) (a_FALSE : Addr) (h0 : Heap) (n0 : Nat) (O0 : Old Z n0 h0) (G0 : Sta Z Z.heap "com/example/contexture/contexture/engine/evaluation/TruthValue" "FALSE" "Lcom/example/contexture/contexture/engine/evaluation/TruthValue;" (.ref a_FALSE)) :
    MetFree l (⟨"com/example/contexture/contexture/engine/evaluation/TruthValue", "reported", "(ZZ)Lcom/example/contexture/contexture/engine/evaluation/TruthValue;"⟩ : MethodName) (head1 (Jvm.Cond.code (⟨"com/example/contexture/contexture/engine/evaluation/TruthValue", "reported", "(ZZ)Lcom/example/contexture/contexture/engine/evaluation/TruthValue;"⟩ : MethodName) prog_14_method_5_code 3 (some (.object "com/example/contexture/contexture/engine/evaluation/TruthValue")) :: ws) ({ frames := 0, cells := 0, slots := 0, locals := 0 } : Room)) (fun a U => a = #[(.int (0 : Int32)), (.int (1 : Int32))] ∧ Z.Warmed39 U.vm ∧ U.heap = h0) (fun _ _ _ _ _ => True) (fun _ U o U' => ∃ v L, o = .returned v ∧ Q_reported6_0 Z a_FALSE h0 n0 v U'.heap L ∧ FrameEnd U o U' L ({ frames := 0, cells := 0, slots := 0, locals := 0 } : Room).cells ({ frames := 0, cells := 0, slots := 0, locals := 0 } : Room).slots) := by
  refine MetFree.of_bodySF (plainFor_of_name pn_2) hisR ?_
  intro p e s m args below meth c s₁ Bd hml0 hP hK
  obtain ⟨rfl, hZ, hh⟩ := hP
  have hx := Bd.exec
  have hby := Bd.bytes
  have hml : c.maxLocals = 3 := hml0
  have hown : s.vm.findClass "com/example/contexture/contexture/engine/evaluation/TruthValue" = some m.cls := findClass_of_methodNamed Bd.named
  have hnm := (name_of_methodNamed Bd.named Bd.method).1
  have X0 : Stand p l e ({ frames := 0, cells := 0, slots := 0, locals := 0 } : Room) s m #[(.int (0 : Int32)), (.int (1 : Int32))] below meth c s₁ [] 0 0 := Stand.of_body Bd
  have e0 : s₁.heap = h0 := by rw [← hh, Bd.state]; rfl
  have N0 := Fr.nil n0
  have pre0 : ∀ t, Steps p.tables e below (s₁.setTop (mkF m 0 #[.val (.int (0 : Int32)), .val (.int (1 : Int32)), .unset] [])) t → Steps p.tables e below (s₁.setTop (entryFrame m #[(.int (0 : Int32)), (.int (1 : Int32))] 3)) t := fun t k => castTop (ef_15 m (0 : Int32) (1 : Int32)) k
  have K0 : Keep h0 h0 [] := Keep.refl h0 []
  have pre109 : ∀ t, Steps p.tables e below (s₁.setTop (mkF m 15 #[.val (.int (0 : Int32)), .val (.int (1 : Int32)), .unset] [])) t → Steps p.tables e below (s₁.setTop (entryFrame m #[(.int (0 : Int32)), (.int (1 : Int32))] 3)) t := fun t kt => by
    refine pre0 _ ?_
    show Steps p.tables e below (s₁.setTop (mkF m 0 #[.val (.int (0 : Int32)), .val (.int (1 : Int32)), .unset] [])) _
    refine XS.iloadN X0.here hx rfl (hb hby d6_0) rfl ?_
    show Steps p.tables e below (s₁.setTop (mkF m 1 #[.val (.int (0 : Int32)), .val (.int (1 : Int32)), .unset] [(.int (0 : Int32))])) _
    refine XS.ifYes X0.here hx rfl (pc0 := 1) (pc' := 11) rfl (hb hby d6_1) rfl (XT.i0_eq_t (by decide)) (by decide) (by decide) ?_
    show Steps p.tables e below (s₁.setTop (mkF m 11 #[.val (.int (0 : Int32)), .val (.int (1 : Int32)), .unset] [])) _
    refine XS.iloadN X0.here hx rfl (hb hby d6_11) rfl ?_
    show Steps p.tables e below (s₁.setTop (mkF m 12 #[.val (.int (0 : Int32)), .val (.int (1 : Int32)), .unset] [(.int (1 : Int32))])) _
    refine XS.ifNo X0.here hx rfl (hb hby d6_12) rfl (XT.i0_eq_f (by decide)) ?_
    exact kt
  obtain ⟨T110, X110, e110, st110⟩ := getS2 X0 hx hZ hown (host := "") (Or.inl (hw _ (List.mem_of_getElem? (i := 4) rfl))) Via.refl e0 (G0.ext O0.2) (g := (mkF m 15 #[.val (.int (0 : Int32)), .val (.int (1 : Int32)), .unset] [])) rfl (hb hby d6_15)
  have pre111 : ∀ t, Steps p.tables e below (T110.setTop (mkF m 18 #[.val (.int (0 : Int32)), .val (.int (1 : Int32)), .unset] [(.ref a_FALSE)])) t → Steps p.tables e below (s₁.setTop (entryFrame m #[(.int (0 : Int32)), (.int (1 : Int32))] 3)) t := fun t kt => pre109 _ (st110 _ kt)
  have pre112 : ∀ t, Steps p.tables e below (T110.setTop (mkF m 27 #[.val (.int (0 : Int32)), .val (.int (1 : Int32)), .val (.ref a_FALSE)] [(.ref a_FALSE)])) t → Steps p.tables e below (s₁.setTop (entryFrame m #[(.int (0 : Int32)), (.int (1 : Int32))] 3)) t := fun t kt => by
    refine pre111 _ ?_
    show Steps p.tables e below (T110.setTop (mkF m 18 #[.val (.int (0 : Int32)), .val (.int (1 : Int32)), .unset] [(.ref a_FALSE)])) _
    refine XS.astoreN X110.here hx rfl (hb hby d6_18) rfl rfl (l' := #[.val (.int (0 : Int32)), .val (.int (1 : Int32)), .val (.ref a_FALSE)]) rfl ?_
    show Steps p.tables e below (T110.setTop (mkF m 19 #[.val (.int (0 : Int32)), .val (.int (1 : Int32)), .val (.ref a_FALSE)] [])) _
    refine XS.goto X110.here hx rfl (pc0 := 19) (pc' := 26) rfl (hb hby d6_19) (by decide) (by decide) ?_
    show Steps p.tables e below (T110.setTop (mkF m 26 #[.val (.int (0 : Int32)), .val (.int (1 : Int32)), .val (.ref a_FALSE)] [])) _
    refine XS.aloadN X110.here hx rfl (hb hby d6_26) rfl rfl ?_
    exact kt
  obtain ⟨fs, hr, hrun, hended, hW, hsame⟩ := X110.leave (v := some (.ref a_FALSE)) (fun h => by rw [Bd.returns] at h; cases h)
  refine ⟨_, _, pre112 _ (X110.areturnOut hx rfl Bd.returns rfl (hb hby d6_27) hr), hrun, hended, _, _, rfl, ?_, ⟨_, rfl⟩, hW, hsame.mono (by decide) (by decide)⟩
  show Q_reported6_0 Z a_FALSE h0 n0 _ T110.heap _
  rw [e110]
  exact ⟨rfl, N0, rfl⟩
theorem pd_16 : parseMethodDescriptor "(ZZ)Lcom/example/contexture/contexture/engine/evaluation/TruthValue;" = some ⟨[.boolean, .boolean], some (.object "com/example/contexture/contexture/engine/evaluation/TruthValue")⟩ := by decide +kernel
theorem d3_7 : decode prog_15_method_6_code 7 = .ok (.iconst 1, 1) := by decide +kernel
theorem d3_8 : decode prog_15_method_6_code 8 = .ok (.goto 4, 3) := by decide +kernel
def Q_settlesOr3_1 (Z : State) (a_LOGIC : Addr) (a_TRUE : Addr) (h0 : Heap) (n0 : Nat) (v : Option Value) (h : Heap) (L : List Loc) : Prop := v = some (.int (1 : Int32)) ∧ Fr n0 L ∧ h = h0
set_option maxRecDepth 65536 in
set_option maxHeartbeats 40000000 in
theorem rm_settlesOr3_1 (l : Launch) (Z : State) (a0 : Array Value) (hw : ∀ d ∈ tables_1, d.before a0 Z = true) (ws : List Jvm.Cond) (a_LOGIC : Addr) (a_TRUE : Addr) (h0 : Heap) (n0 : Nat) (O0 : Old Z n0 h0) (G0 : Sta Z Z.heap "com/example/contexture/contexture/engine/evaluation/TruthValue" "TRUE" "Lcom/example/contexture/contexture/engine/evaluation/TruthValue;" (.ref a_TRUE)) :
    MetFree l (⟨"com/example/contexture/contexture/engine/evaluation/TruthValue$1", "settlesOr", "(Lcom/example/contexture/contexture/engine/evaluation/TruthValue;)Z"⟩ : MethodName) (head1 (Jvm.Cond.code (⟨"com/example/contexture/contexture/engine/evaluation/TruthValue$1", "settlesOr", "(Lcom/example/contexture/contexture/engine/evaluation/TruthValue;)Z"⟩ : MethodName) prog_15_method_6_code 2 (some .boolean) :: ws) ({ frames := 0, cells := 0, slots := 0, locals := 0 } : Room)) (fun a U => a = #[(.ref a_LOGIC), (.ref a_TRUE)] ∧ Z.Warmed39 U.vm ∧ U.heap = h0) (fun _ _ _ _ _ => True) (fun _ U o U' => ∃ v L, o = .returned v ∧ Q_settlesOr3_1 Z a_LOGIC a_TRUE h0 n0 v U'.heap L ∧ FrameEnd U o U' L ({ frames := 0, cells := 0, slots := 0, locals := 0 } : Room).cells ({ frames := 0, cells := 0, slots := 0, locals := 0 } : Room).slots) := by
  refine MetFree.of_bodySF (plainFor_of_name pn_5) hisR ?_
  intro p e s m args below meth c s₁ Bd hml0 hP hK
  obtain ⟨rfl, hZ, hh⟩ := hP
  have hx := Bd.exec
  have hby := Bd.bytes
  have hml : c.maxLocals = 2 := hml0
  have hown : s.vm.findClass "com/example/contexture/contexture/engine/evaluation/TruthValue$1" = some m.cls := findClass_of_methodNamed Bd.named
  have hnm := (name_of_methodNamed Bd.named Bd.method).1
  have X0 : Stand p l e ({ frames := 0, cells := 0, slots := 0, locals := 0 } : Room) s m #[(.ref a_LOGIC), (.ref a_TRUE)] below meth c s₁ [] 0 0 := Stand.of_body Bd
  have e0 : s₁.heap = h0 := by rw [← hh, Bd.state]; rfl
  have N0 := Fr.nil n0
  have pre0 : ∀ t, Steps p.tables e below (s₁.setTop (mkF m 0 #[.val (.ref a_LOGIC), .val (.ref a_TRUE)] [])) t → Steps p.tables e below (s₁.setTop (entryFrame m #[(.ref a_LOGIC), (.ref a_TRUE)] 2)) t := fun t k => castTop (ef_6 m a_LOGIC a_TRUE) k
  have K0 : Keep h0 h0 [] := Keep.refl h0 []
  have pre138 : ∀ t, Steps p.tables e below (s₁.setTop (mkF m 1 #[.val (.ref a_LOGIC), .val (.ref a_TRUE)] [(.ref a_TRUE)])) t → Steps p.tables e below (s₁.setTop (entryFrame m #[(.ref a_LOGIC), (.ref a_TRUE)] 2)) t := fun t kt => by
    refine pre0 _ ?_
    show Steps p.tables e below (s₁.setTop (mkF m 0 #[.val (.ref a_LOGIC), .val (.ref a_TRUE)] [])) _
    refine XS.aloadN X0.here hx rfl (hb hby d3_0) rfl rfl ?_
    exact kt
  obtain ⟨T139, X139, e139, st139⟩ := getS2 X0 hx hZ hown (host := "") (Or.inl (hw _ (List.mem_of_getElem? (i := 27) rfl))) Via.refl e0 (G0.ext O0.2) (g := (mkF m 1 #[.val (.ref a_LOGIC), .val (.ref a_TRUE)] [(.ref a_TRUE)])) rfl (hb hby d3_1)
  have pre140 : ∀ t, Steps p.tables e below (T139.setTop (mkF m 4 #[.val (.ref a_LOGIC), .val (.ref a_TRUE)] [(.ref a_TRUE), (.ref a_TRUE)])) t → Steps p.tables e below (s₁.setTop (entryFrame m #[(.ref a_LOGIC), (.ref a_TRUE)] 2)) t := fun t kt => pre138 _ (st139 _ kt)
  have pre141 : ∀ t, Steps p.tables e below (T139.setTop (mkF m 12 #[.val (.ref a_LOGIC), .val (.ref a_TRUE)] [(.int (1 : Int32))])) t → Steps p.tables e below (s₁.setTop (entryFrame m #[(.ref a_LOGIC), (.ref a_TRUE)] 2)) t := fun t kt => by
    refine pre140 _ ?_
    show Steps p.tables e below (T139.setTop (mkF m 4 #[.val (.ref a_LOGIC), .val (.ref a_TRUE)] [(.ref a_TRUE), (.ref a_TRUE)])) _
    refine Jvm.RoadKit.acmp (g := (mkF m 4 #[.val (.ref a_LOGIC), .val (.ref a_TRUE)] [(.ref a_TRUE), (.ref a_TRUE)])) X139 hx rfl rfl rfl (pc0 := 4) (pc' := 7) (same := true) rfl (hb hby d3_4) rfl (decide_eq_true rfl) (by decide) (by decide) ?_
    show Steps p.tables e below (T139.setTop (mkF m 7 #[.val (.ref a_LOGIC), .val (.ref a_TRUE)] [])) _
    refine XS.iconst X139.here hx rfl (hb hby d3_7) ?_
    show Steps p.tables e below (T139.setTop (mkF m 8 #[.val (.ref a_LOGIC), .val (.ref a_TRUE)] [(.int (1 : Int32))])) _
    refine XS.goto X139.here hx rfl (pc0 := 8) (pc' := 12) rfl (hb hby d3_8) (by decide) (by decide) ?_
    exact kt
  obtain ⟨fs, hr, hrun, hended, hW, hsame⟩ := X139.leave (v := some (.int (1 : Int32))) (fun h => by rw [Bd.returns] at h; cases h)
  refine ⟨_, _, pre141 _ (retN X139 hx (t := .boolean) Bd.returns (by simp) (hb hby d3_12) hr), hrun, hended, _, _, rfl, ?_, ⟨_, rfl⟩, hW, hsame.mono (by decide) (by decide)⟩
  show Q_settlesOr3_1 Z a_LOGIC a_TRUE h0 n0 _ T139.heap _
  rw [e139]
  exact ⟨rfl, N0, rfl⟩
def Q_settlesOr2_1 (Z : State) (a_LOGIC : Addr) (a_TRUE : Addr) (h0 : Heap) (n0 : Nat) (v : Option Value) (h : Heap) (L : List Loc) : Prop := v = some (.int (1 : Int32)) ∧ Fr n0 L ∧ h = h0
set_option maxRecDepth 65536 in
set_option maxHeartbeats 40000000 in
theorem rm_settlesOr2_1 (l : Launch) (Z : State) (a0 : Array Value) (hw : ∀ d ∈ tables_1, d.before a0 Z = true) (ws : List Jvm.Cond) (a_LOGIC : Addr) (a_TRUE : Addr) (h0 : Heap) (n0 : Nat) (O0 : Old Z n0 h0) (G0 : Sta Z Z.heap "com/example/contexture/contexture/engine/evaluation/TruthValue" "TRUE" "Lcom/example/contexture/contexture/engine/evaluation/TruthValue;" (.ref a_TRUE)) (G1 : Exa Z Z.heap a_TRUE "com/example/contexture/contexture/engine/evaluation/TruthValue") (G2 : Exa Z Z.heap a_LOGIC "com/example/contexture/contexture/engine/evaluation/TruthValue$1") :
    MetFree l (⟨"com/example/contexture/contexture/engine/evaluation/TruthValue$1", "settlesOr", "(Ljava/lang/Object;)Z"⟩ : MethodName) (head1 (Jvm.Cond.code (⟨"com/example/contexture/contexture/engine/evaluation/TruthValue$1", "settlesOr", "(Ljava/lang/Object;)Z"⟩ : MethodName) prog_15_method_8_code 2 (some .boolean) :: ws) ({ frames := 1, cells := 0, slots := 0, locals := 13 } : Room)) (fun a U => a = #[(.ref a_LOGIC), (.ref a_TRUE)] ∧ Z.Warmed39 U.vm ∧ U.heap = h0) (fun _ _ _ _ _ => True) (fun _ U o U' => ∃ v L, o = .returned v ∧ Q_settlesOr2_1 Z a_LOGIC a_TRUE h0 n0 v U'.heap L ∧ FrameEnd U o U' L ({ frames := 1, cells := 0, slots := 0, locals := 13 } : Room).cells ({ frames := 1, cells := 0, slots := 0, locals := 13 } : Room).slots) := by
  refine MetFree.of_bodySF (plainFor_of_name pn_5) hisR ?_
  intro p e s m args below meth c s₁ Bd hml0 hP hK
  obtain ⟨rfl, hZ, hh⟩ := hP
  have hx := Bd.exec
  have hby := Bd.bytes
  have hml : c.maxLocals = 2 := hml0
  have hown : s.vm.findClass "com/example/contexture/contexture/engine/evaluation/TruthValue$1" = some m.cls := findClass_of_methodNamed Bd.named
  have hnm := (name_of_methodNamed Bd.named Bd.method).1
  have X0 : Stand p l e ({ frames := 1, cells := 0, slots := 0, locals := 13 } : Room) s m #[(.ref a_LOGIC), (.ref a_TRUE)] below meth c s₁ [] 0 0 := Stand.of_body Bd
  have e0 : s₁.heap = h0 := by rw [← hh, Bd.state]; rfl
  have N0 := Fr.nil n0
  have pre0 : ∀ t, Steps p.tables e below (s₁.setTop (mkF m 0 #[.val (.ref a_LOGIC), .val (.ref a_TRUE)] [])) t → Steps p.tables e below (s₁.setTop (entryFrame m #[(.ref a_LOGIC), (.ref a_TRUE)] 2)) t := fun t k => castTop (ef_8 m a_LOGIC a_TRUE) k
  have K0 : Keep h0 h0 [] := Keep.refl h0 []
  have pre148 : ∀ t, Steps p.tables e below (s₁.setTop (mkF m 2 #[.val (.ref a_LOGIC), .val (.ref a_TRUE)] [(.ref a_TRUE), (.ref a_LOGIC)])) t → Steps p.tables e below (s₁.setTop (entryFrame m #[(.ref a_LOGIC), (.ref a_TRUE)] 2)) t := fun t kt => by
    refine pre0 _ ?_
    show Steps p.tables e below (s₁.setTop (mkF m 0 #[.val (.ref a_LOGIC), .val (.ref a_TRUE)] [])) _
    refine XS.aloadN X0.here hx rfl (hb hby d2_0) rfl rfl ?_
    show Steps p.tables e below (s₁.setTop (mkF m 1 #[.val (.ref a_LOGIC), .val (.ref a_TRUE)] [(.ref a_LOGIC)])) _
    refine XS.aloadN X0.here hx rfl (hb hby d2_1) rfl rfl ?_
    exact kt
  obtain ⟨T149, X149, e149, st149⟩ := castY X0 hx hZ hown (hw _ (List.mem_of_getElem? (i := 20) rfl)) e0 (Ins.self (G1.ext O0.2)) (g := (mkF m 2 #[.val (.ref a_LOGIC), .val (.ref a_TRUE)] [(.ref a_TRUE), (.ref a_LOGIC)])) rfl rfl (hb hby d2_2)
  have pre150 : ∀ t, Steps p.tables e below (T149.setTop (mkF m 5 #[.val (.ref a_LOGIC), .val (.ref a_TRUE)] [(.ref a_TRUE), (.ref a_LOGIC)])) t → Steps p.tables e below (s₁.setTop (entryFrame m #[(.ref a_LOGIC), (.ref a_TRUE)] 2)) t := fun t kt => pre148 _ (st149 _ kt)
  obtain ⟨cq151, kq151, q151a, q151b, q151c⟩ := isOf hZ e149 (G2.ext O0.2)
  obtain ⟨_, _, ⟨T151, L151, k151, n151⟩, -, X151, ⟨Lc151, hQ151, l151, y151, z151⟩, st151⟩ := X149.virtualBack hx (y := (⟨"com/example/contexture/contexture/engine/evaluation/TruthValue$1", "settlesOr", "(Lcom/example/contexture/contexture/engine/evaluation/TruthValue;)Z"⟩ : MethodName)) (z := (⟨"com/example/contexture/contexture/engine/evaluation/TruthValue$1", "settlesOr", "(Lcom/example/contexture/contexture/engine/evaluation/TruthValue;)Z"⟩ : MethodName)) hown (mvT hZ (hw _ (List.mem_of_getElem? (i := 22) rfl))) (mvT hZ (hw _ (List.mem_of_getElem? (i := 23) rfl))) (notFace_of_selects (args := #[]) (mvT hZ (hw _ (List.mem_of_getElem? (i := 25) rfl)))) (mvT hZ (hw _ (List.mem_of_getElem? (i := 25) rfl))) (mvT hZ (hw _ (List.mem_of_getElem? (i := 24) rfl))) (by decide) (backOf (W := 0) (rm_settlesOr3_1 l Z a0 hw [] a_LOGIC a_TRUE h0 n0 O0 G0) hZ (hw _ (List.mem_of_getElem? (i := 26) rfl)) (hw _ (List.mem_of_getElem? (i := 18) rfl)) (by decide) (by decide)) q151a q151c (g := (mkF m 5 #[.val (.ref a_LOGIC), .val (.ref a_TRUE)] [(.ref a_TRUE), (.ref a_LOGIC)])) rfl (by rw [hml]; rfl) (Steps.refl _) (argsL := [(.ref a_TRUE)]) (rest := []) (lenOf pd_7 rfl) rfl (by show 2 * 0 + _ ≤ _; exact Nat.le_of_eq rfl) (hb hby d2_5) (fun _ _ => ⟨rfl, e149, (by decide : 0 + 0 ≤ _), (by decide : 0 + 0 ≤ _)⟩)
  dsimp only [Pt.U, Pt.locs, Pt.cells, Pt.slots] at X151 l151 y151 z151 st151 hQ151
  subst l151 y151 z151
  obtain ⟨rfl, M151, e151⟩ := hQ151
  have N151 := Fr.app N0 M151
  have pre152 : ∀ t, Steps p.tables e below (T151.setTop (mkF m 8 #[.val (.ref a_LOGIC), .val (.ref a_TRUE)] [(.int (1 : Int32))])) t → Steps p.tables e below (s₁.setTop (entryFrame m #[(.ref a_LOGIC), (.ref a_TRUE)] 2)) t := fun t kt => pre150 _ (st151.trans kt)
  obtain ⟨fs, hr, hrun, hended, hW, hsame⟩ := X151.leave (v := some (.int (1 : Int32))) (fun h => by rw [Bd.returns] at h; cases h)
  refine ⟨_, _, pre152 _ (retN X151 hx (t := .boolean) Bd.returns (by simp) (hb hby d2_8) hr), hrun, hended, _, _, rfl, ?_, ⟨_, rfl⟩, hW, hsame.mono (by decide) (by decide)⟩
  show Q_settlesOr2_1 Z a_LOGIC a_TRUE h0 n0 _ T151.heap _
  rw [e151]
  exact ⟨rfl, N151, rfl⟩
def Q_ordinal5_1 (Z : State) (a_TRUE : Addr) (h0 : Heap) (n0 : Nat) (v : Option Value) (h : Heap) (L : List Loc) : Prop := v = some (.int (0 : Int32)) ∧ Fr n0 L ∧ h = h0
set_option maxRecDepth 65536 in
set_option maxHeartbeats 40000000 in
theorem rm_ordinal5_1 (l : Launch) (Z : State) (a0 : Array Value) (hw : ∀ d ∈ tables_1, d.before a0 Z = true) (ws : List Jvm.Cond) (a_TRUE : Addr) (h0 : Heap) (n0 : Nat) (O0 : Old Z n0 h0) (G0 : Fld Z Z.heap a_TRUE "java/lang/Enum" "ordinal" "I" (.int (0 : Int32))) :
    MetFree l (⟨"java/lang/Enum", "ordinal", "()I"⟩ : MethodName) (head1 (Jvm.Cond.code (⟨"java/lang/Enum", "ordinal", "()I"⟩ : MethodName) jdk_37_method_2_code 1 (some .int) :: ws) ({ frames := 0, cells := 0, slots := 0, locals := 0 } : Room)) (fun a U => a = #[(.ref a_TRUE)] ∧ Z.Warmed39 U.vm ∧ U.heap = h0) (fun _ _ _ _ _ => True) (fun _ U o U' => ∃ v L, o = .returned v ∧ Q_ordinal5_1 Z a_TRUE h0 n0 v U'.heap L ∧ FrameEnd U o U' L ({ frames := 0, cells := 0, slots := 0, locals := 0 } : Room).cells ({ frames := 0, cells := 0, slots := 0, locals := 0 } : Room).slots) := by
  refine MetFree.of_bodySF (plainFor_of_name pn_10) hisR ?_
  intro p e s m args below meth c s₁ Bd hml0 hP hK
  obtain ⟨rfl, hZ, hh⟩ := hP
  have hx := Bd.exec
  have hby := Bd.bytes
  have hml : c.maxLocals = 1 := hml0
  have hown : s.vm.findClass "java/lang/Enum" = some m.cls := findClass_of_methodNamed Bd.named
  have hnm := (name_of_methodNamed Bd.named Bd.method).1
  have X0 : Stand p l e ({ frames := 0, cells := 0, slots := 0, locals := 0 } : Room) s m #[(.ref a_TRUE)] below meth c s₁ [] 0 0 := Stand.of_body Bd
  have e0 : s₁.heap = h0 := by rw [← hh, Bd.state]; rfl
  have N0 := Fr.nil n0
  have pre0 : ∀ t, Steps p.tables e below (s₁.setTop (mkF m 0 #[.val (.ref a_TRUE)] [])) t → Steps p.tables e below (s₁.setTop (entryFrame m #[(.ref a_TRUE)] 1)) t := fun t k => castTop (ef_11 m a_TRUE) k
  have K0 : Keep h0 h0 [] := Keep.refl h0 []
  have pre164 : ∀ t, Steps p.tables e below (s₁.setTop (mkF m 1 #[.val (.ref a_TRUE)] [(.ref a_TRUE)])) t → Steps p.tables e below (s₁.setTop (entryFrame m #[(.ref a_TRUE)] 1)) t := fun t kt => by
    refine pre0 _ ?_
    show Steps p.tables e below (s₁.setTop (mkF m 0 #[.val (.ref a_TRUE)] [])) _
    refine XS.aloadN X0.here hx rfl (hb hby d5_0) rfl rfl ?_
    exact kt
  obtain ⟨T165, X165, e165, st165⟩ := getF X0 hx hZ hown (host := "") (Or.inl (hw _ (List.mem_of_getElem? (i := 40) rfl))) Via.refl e0 (G0.ext O0.2) (g := (mkF m 1 #[.val (.ref a_TRUE)] [(.ref a_TRUE)])) rfl rfl (hb hby d5_1)
  have pre166 : ∀ t, Steps p.tables e below (T165.setTop (mkF m 4 #[.val (.ref a_TRUE)] [(.int (0 : Int32))])) t → Steps p.tables e below (s₁.setTop (entryFrame m #[(.ref a_TRUE)] 1)) t := fun t kt => pre164 _ (st165 _ kt)
  obtain ⟨fs, hr, hrun, hended, hW, hsame⟩ := X165.leave (v := some (.int (0 : Int32))) (fun h => by rw [Bd.returns] at h; cases h)
  refine ⟨_, _, pre166 _ (retI X165 hx Bd.returns (hb hby d5_4) hr), hrun, hended, _, _, rfl, ?_, ⟨_, rfl⟩, hW, hsame.mono (by decide) (by decide)⟩
  show Q_ordinal5_1 Z a_TRUE h0 n0 _ T165.heap _
  rw [e165]
  exact ⟨rfl, N0, rfl⟩
theorem d4_42 : decode prog_14_method_6_code 42 = .ok (.getstatic 7, 3) := by decide +kernel
theorem d4_45 : decode prog_14_method_6_code 45 = .ok (.goto 12, 3) := by decide +kernel
def Q_not4_1 (Z : State) (a_TRUE : Addr) (a_FALSE : Addr) (h0 : Heap) (n0 : Nat) (v : Option Value) (h : Heap) (L : List Loc) : Prop := v = some (.ref a_FALSE) ∧ Fr n0 L ∧ h = h0
set_option maxRecDepth 65536 in
set_option maxHeartbeats 40000000 in
theorem rm_not4_1 (l : Launch) (Z : State) (a0 : Array Value) (hw : ∀ d ∈ tables_1, d.before a0 Z = true) (ws : List Jvm.Cond) (a_TRUE : Addr) (a_FALSE : Addr) (h0 : Heap) (n0 : Nat) (O0 : Old Z n0 h0) (G0 : Sta Z Z.heap "com/example/contexture/contexture/engine/evaluation/TruthValue" "FALSE" "Lcom/example/contexture/contexture/engine/evaluation/TruthValue;" (.ref a_FALSE)) (G1 : Exa Z Z.heap a_TRUE "com/example/contexture/contexture/engine/evaluation/TruthValue") (G2 : Fld Z Z.heap a_TRUE "java/lang/Enum" "ordinal" "I" (.int (0 : Int32))) :
    MetFree l (⟨"com/example/contexture/contexture/engine/evaluation/TruthValue", "not", "()Lcom/example/contexture/contexture/engine/evaluation/TruthValue;"⟩ : MethodName) (head1 (Jvm.Cond.code (⟨"com/example/contexture/contexture/engine/evaluation/TruthValue", "not", "()Lcom/example/contexture/contexture/engine/evaluation/TruthValue;"⟩ : MethodName) prog_14_method_6_code 1 (some (.object "com/example/contexture/contexture/engine/evaluation/TruthValue")) :: ws) ({ frames := 1, cells := 0, slots := 0, locals := 12 } : Room)) (fun a U => a = #[(.ref a_TRUE)] ∧ Z.Warmed39 U.vm ∧ U.heap = h0) (fun _ _ _ _ _ => True) (fun _ U o U' => ∃ v L, o = .returned v ∧ Q_not4_1 Z a_TRUE a_FALSE h0 n0 v U'.heap L ∧ FrameEnd U o U' L ({ frames := 1, cells := 0, slots := 0, locals := 12 } : Room).cells ({ frames := 1, cells := 0, slots := 0, locals := 12 } : Room).slots) := by
  refine MetFree.of_bodySF (plainFor_of_name pn_2) hisR ?_
  intro p e s m args below meth c s₁ Bd hml0 hP hK
  obtain ⟨rfl, hZ, hh⟩ := hP
  have hx := Bd.exec
  have hby := Bd.bytes
  have hml : c.maxLocals = 1 := hml0
  have hown : s.vm.findClass "com/example/contexture/contexture/engine/evaluation/TruthValue" = some m.cls := findClass_of_methodNamed Bd.named
  have hnm := (name_of_methodNamed Bd.named Bd.method).1
  have X0 : Stand p l e ({ frames := 1, cells := 0, slots := 0, locals := 12 } : Room) s m #[(.ref a_TRUE)] below meth c s₁ [] 0 0 := Stand.of_body Bd
  have e0 : s₁.heap = h0 := by rw [← hh, Bd.state]; rfl
  have N0 := Fr.nil n0
  have pre0 : ∀ t, Steps p.tables e below (s₁.setTop (mkF m 0 #[.val (.ref a_TRUE)] [])) t → Steps p.tables e below (s₁.setTop (entryFrame m #[(.ref a_TRUE)] 1)) t := fun t k => castTop (ef_13 m a_TRUE) k
  have K0 : Keep h0 h0 [] := Keep.refl h0 []
  have pre179 : ∀ t, Steps p.tables e below (s₁.setTop (mkF m 1 #[.val (.ref a_TRUE)] [(.ref a_TRUE)])) t → Steps p.tables e below (s₁.setTop (entryFrame m #[(.ref a_TRUE)] 1)) t := fun t kt => by
    refine pre0 _ ?_
    show Steps p.tables e below (s₁.setTop (mkF m 0 #[.val (.ref a_TRUE)] [])) _
    refine XS.aloadN X0.here hx rfl (hb hby d4_0) rfl rfl ?_
    exact kt
  obtain ⟨cq180, kq180, q180a, q180b, q180c⟩ := isOf hZ e0 (G1.ext O0.2)
  obtain ⟨_, _, ⟨T180, L180, k180, n180⟩, -, X180, ⟨Lc180, hQ180, l180, y180, z180⟩, st180⟩ := X0.virtualBackUp hx (x := (⟨"com/example/contexture/contexture/engine/evaluation/TruthValue", "ordinal", "()I"⟩ : MethodName)) (y := (⟨"java/lang/Enum", "ordinal", "()I"⟩ : MethodName)) (owner := "java/lang/Enum") hown (mvT hZ (hw _ (List.mem_of_getElem? (i := 33) rfl))) (mvT hZ (hw _ (List.mem_of_getElem? (i := 34) rfl))) (mvT hZ (hw _ (List.mem_of_getElem? (i := 35) rfl))) (by decide) (mvT hZ (hw _ (List.mem_of_getElem? (i := 37) rfl))) (mvT hZ (hw _ (List.mem_of_getElem? (i := 36) rfl))) (backOf (W := 0) (rm_ordinal5_1 l Z a0 hw [] a_TRUE h0 n0 O0 G2) hZ (hw _ (List.mem_of_getElem? (i := 39) rfl)) (hw _ (List.mem_of_getElem? (i := 38) rfl)) (by decide) (by decide)) q180a q180c (g := (mkF m 1 #[.val (.ref a_TRUE)] [(.ref a_TRUE)])) rfl (by rw [hml]; rfl) (Steps.refl _) (argsL := []) (rest := []) (lenOf pd_12 rfl) rfl (by show 2 * 0 + _ ≤ _; exact Nat.le_of_eq rfl) (hb hby d4_1) (fun _ _ => ⟨rfl, e0, (by decide : 0 + 0 ≤ _), (by decide : 0 + 0 ≤ _)⟩)
  dsimp only [Pt.U, Pt.locs, Pt.cells, Pt.slots] at X180 l180 y180 z180 st180 hQ180
  subst l180 y180 z180
  obtain ⟨rfl, M180, e180⟩ := hQ180
  have N180 := Fr.app N0 M180
  have pre181 : ∀ t, Steps p.tables e below (T180.setTop (mkF m 4 #[.val (.ref a_TRUE)] [(.int (0 : Int32))])) t → Steps p.tables e below (s₁.setTop (entryFrame m #[(.ref a_TRUE)] 1)) t := fun t kt => pre179 _ (st180.trans kt)
  have pre182 : ∀ t, Steps p.tables e below (T180.setTop (mkF m 42 #[.val (.ref a_TRUE)] [])) t → Steps p.tables e below (s₁.setTop (entryFrame m #[(.ref a_TRUE)] 1)) t := fun t kt => by
    refine pre181 _ ?_
    show Steps p.tables e below (T180.setTop (mkF m 4 #[.val (.ref a_TRUE)] [(.int (0 : Int32))])) _
    refine XS.tswIn X180.here hx rfl (pc0 := 4) (pc' := 42) rfl (hb hby d4_4) rfl (by decide) (o := 38) (by decide) (by decide) (by decide) ?_
    exact kt
  obtain ⟨T183, X183, e183, st183⟩ := getS2 X180 hx hZ hown (host := "") (Or.inl (hw _ (List.mem_of_getElem? (i := 4) rfl))) Via.refl e180 (G0.ext O0.2) (g := (mkF m 42 #[.val (.ref a_TRUE)] [])) rfl (hb hby d4_42)
  have pre184 : ∀ t, Steps p.tables e below (T183.setTop (mkF m 45 #[.val (.ref a_TRUE)] [(.ref a_FALSE)])) t → Steps p.tables e below (s₁.setTop (entryFrame m #[(.ref a_TRUE)] 1)) t := fun t kt => pre182 _ (st183 _ kt)
  have pre185 : ∀ t, Steps p.tables e below (T183.setTop (mkF m 57 #[.val (.ref a_TRUE)] [(.ref a_FALSE)])) t → Steps p.tables e below (s₁.setTop (entryFrame m #[(.ref a_TRUE)] 1)) t := fun t kt => by
    refine pre184 _ ?_
    show Steps p.tables e below (T183.setTop (mkF m 45 #[.val (.ref a_TRUE)] [(.ref a_FALSE)])) _
    refine XS.goto X183.here hx rfl (pc0 := 45) (pc' := 57) rfl (hb hby d4_45) (by decide) (by decide) ?_
    exact kt
  obtain ⟨fs, hr, hrun, hended, hW, hsame⟩ := X183.leave (v := some (.ref a_FALSE)) (fun h => by rw [Bd.returns] at h; cases h)
  refine ⟨_, _, pre185 _ (X183.areturnOut hx rfl Bd.returns rfl (hb hby d4_57) hr), hrun, hended, _, _, rfl, ?_, ⟨_, rfl⟩, hW, hsame.mono (by decide) (by decide)⟩
  show Q_not4_1 Z a_TRUE a_FALSE h0 n0 _ T183.heap _
  rw [e183]
  exact ⟨rfl, N180, rfl⟩
theorem d6_4 : decode prog_14_method_5_code 4 = .ok (.getstatic 3, 3) := by decide +kernel
theorem d6_7 : decode prog_14_method_5_code 7 = .ok (.astore_n 2, 1) := by decide +kernel
theorem d6_8 : decode prog_14_method_5_code 8 = .ok (.goto 18, 3) := by decide +kernel
def Q_reported6_1 (Z : State) (a_TRUE : Addr) (h0 : Heap) (n0 : Nat) (v : Option Value) (h : Heap) (L : List Loc) : Prop := v = some (.ref a_TRUE) ∧ Fr n0 L ∧ h = h0
set_option maxRecDepth 65536 in
set_option maxHeartbeats 40000000 in
theorem rm_reported6_1 (l : Launch) (Z : State) (a0 : Array Value) (hw : ∀ d ∈ tables_1, d.before a0 Z = true) (ws : List Jvm.Cond) (a_TRUE : Addr) (h0 : Heap) (n0 : Nat) (O0 : Old Z n0 h0) (G0 : Sta Z Z.heap "com/example/contexture/contexture/engine/evaluation/TruthValue" "TRUE" "Lcom/example/contexture/contexture/engine/evaluation/TruthValue;" (.ref a_TRUE)) :
    MetFree l (⟨"com/example/contexture/contexture/engine/evaluation/TruthValue", "reported", "(ZZ)Lcom/example/contexture/contexture/engine/evaluation/TruthValue;"⟩ : MethodName) (head1 (Jvm.Cond.code (⟨"com/example/contexture/contexture/engine/evaluation/TruthValue", "reported", "(ZZ)Lcom/example/contexture/contexture/engine/evaluation/TruthValue;"⟩ : MethodName) prog_14_method_5_code 3 (some (.object "com/example/contexture/contexture/engine/evaluation/TruthValue")) :: ws) ({ frames := 0, cells := 0, slots := 0, locals := 0 } : Room)) (fun a U => a = #[(.int (1 : Int32)), (.int (1 : Int32))] ∧ Z.Warmed39 U.vm ∧ U.heap = h0) (fun _ _ _ _ _ => True) (fun _ U o U' => ∃ v L, o = .returned v ∧ Q_reported6_1 Z a_TRUE h0 n0 v U'.heap L ∧ FrameEnd U o U' L ({ frames := 0, cells := 0, slots := 0, locals := 0 } : Room).cells ({ frames := 0, cells := 0, slots := 0, locals := 0 } : Room).slots) := by
  refine MetFree.of_bodySF (plainFor_of_name pn_2) hisR ?_
  intro p e s m args below meth c s₁ Bd hml0 hP hK
  obtain ⟨rfl, hZ, hh⟩ := hP
  have hx := Bd.exec
  have hby := Bd.bytes
  have hml : c.maxLocals = 3 := hml0
  have hown : s.vm.findClass "com/example/contexture/contexture/engine/evaluation/TruthValue" = some m.cls := findClass_of_methodNamed Bd.named
  have hnm := (name_of_methodNamed Bd.named Bd.method).1
  have X0 : Stand p l e ({ frames := 0, cells := 0, slots := 0, locals := 0 } : Room) s m #[(.int (1 : Int32)), (.int (1 : Int32))] below meth c s₁ [] 0 0 := Stand.of_body Bd
  have e0 : s₁.heap = h0 := by rw [← hh, Bd.state]; rfl
  have N0 := Fr.nil n0
  have pre0 : ∀ t, Steps p.tables e below (s₁.setTop (mkF m 0 #[.val (.int (1 : Int32)), .val (.int (1 : Int32)), .unset] [])) t → Steps p.tables e below (s₁.setTop (entryFrame m #[(.int (1 : Int32)), (.int (1 : Int32))] 3)) t := fun t k => castTop (ef_15 m (1 : Int32) (1 : Int32)) k
  have K0 : Keep h0 h0 [] := Keep.refl h0 []
  have pre200 : ∀ t, Steps p.tables e below (s₁.setTop (mkF m 4 #[.val (.int (1 : Int32)), .val (.int (1 : Int32)), .unset] [])) t → Steps p.tables e below (s₁.setTop (entryFrame m #[(.int (1 : Int32)), (.int (1 : Int32))] 3)) t := fun t kt => by
    refine pre0 _ ?_
    show Steps p.tables e below (s₁.setTop (mkF m 0 #[.val (.int (1 : Int32)), .val (.int (1 : Int32)), .unset] [])) _
    refine XS.iloadN X0.here hx rfl (hb hby d6_0) rfl ?_
    show Steps p.tables e below (s₁.setTop (mkF m 1 #[.val (.int (1 : Int32)), .val (.int (1 : Int32)), .unset] [(.int (1 : Int32))])) _
    refine XS.ifNo X0.here hx rfl (hb hby d6_1) rfl (XT.i0_eq_f (by decide)) ?_
    exact kt
  obtain ⟨T201, X201, e201, st201⟩ := getS2 X0 hx hZ hown (host := "") (Or.inl (hw _ (List.mem_of_getElem? (i := 6) rfl))) Via.refl e0 (G0.ext O0.2) (g := (mkF m 4 #[.val (.int (1 : Int32)), .val (.int (1 : Int32)), .unset] [])) rfl (hb hby d6_4)
  have pre202 : ∀ t, Steps p.tables e below (T201.setTop (mkF m 7 #[.val (.int (1 : Int32)), .val (.int (1 : Int32)), .unset] [(.ref a_TRUE)])) t → Steps p.tables e below (s₁.setTop (entryFrame m #[(.int (1 : Int32)), (.int (1 : Int32))] 3)) t := fun t kt => pre200 _ (st201 _ kt)
  have pre203 : ∀ t, Steps p.tables e below (T201.setTop (mkF m 27 #[.val (.int (1 : Int32)), .val (.int (1 : Int32)), .val (.ref a_TRUE)] [(.ref a_TRUE)])) t → Steps p.tables e below (s₁.setTop (entryFrame m #[(.int (1 : Int32)), (.int (1 : Int32))] 3)) t := fun t kt => by
    refine pre202 _ ?_
    show Steps p.tables e below (T201.setTop (mkF m 7 #[.val (.int (1 : Int32)), .val (.int (1 : Int32)), .unset] [(.ref a_TRUE)])) _
    refine XS.astoreN X201.here hx rfl (hb hby d6_7) rfl rfl (l' := #[.val (.int (1 : Int32)), .val (.int (1 : Int32)), .val (.ref a_TRUE)]) rfl ?_
    show Steps p.tables e below (T201.setTop (mkF m 8 #[.val (.int (1 : Int32)), .val (.int (1 : Int32)), .val (.ref a_TRUE)] [])) _
    refine XS.goto X201.here hx rfl (pc0 := 8) (pc' := 26) rfl (hb hby d6_8) (by decide) (by decide) ?_
    show Steps p.tables e below (T201.setTop (mkF m 26 #[.val (.int (1 : Int32)), .val (.int (1 : Int32)), .val (.ref a_TRUE)] [])) _
    refine XS.aloadN X201.here hx rfl (hb hby d6_26) rfl rfl ?_
    exact kt
  obtain ⟨fs, hr, hrun, hended, hW, hsame⟩ := X201.leave (v := some (.ref a_TRUE)) (fun h => by rw [Bd.returns] at h; cases h)
  refine ⟨_, _, pre203 _ (X201.areturnOut hx rfl Bd.returns rfl (hb hby d6_27) hr), hrun, hended, _, _, rfl, ?_, ⟨_, rfl⟩, hW, hsame.mono (by decide) (by decide)⟩
  show Q_reported6_1 Z a_TRUE h0 n0 _ T201.heap _
  rw [e201]
  exact ⟨rfl, N0, rfl⟩
def Q_law (Z : State) (p0 : Int32) (a_FALSE : Addr) (a_TRUE : Addr) (a_LOGIC : Addr) (a_UNKNOWN : Addr) (h0 : Heap) (n0 : Nat) (v : Option Value) (h : Heap) (L : List Loc) : Prop := v = some (.int (1 : Int32)) ∧ Fr n0 L
set_option maxRecDepth 65536 in
set_option maxHeartbeats 40000000 in
theorem rm_law (l : Launch) (Z : State) (a0 : Array Value) (hw : ∀ d ∈ tables_1, d.before a0 Z = true) (ws : List Jvm.Cond) (p0 : Int32) (a_FALSE : Addr) (a_TRUE : Addr) (a_LOGIC : Addr) (a_UNKNOWN : Addr) (h0 : Heap) (n0 : Nat) (O0 : Old Z n0 h0) (G0 : Sta Z Z.heap "com/example/contexture/contexture/engine/evaluation/TruthValue" "FALSE" "Lcom/example/contexture/contexture/engine/evaluation/TruthValue;" (.ref a_FALSE)) (G1 : Exa Z Z.heap a_FALSE "com/example/contexture/contexture/engine/evaluation/TruthValue") (G2 : Sta Z Z.heap "com/example/contexture/contexture/engine/evaluation/TruthValue" "TRUE" "Lcom/example/contexture/contexture/engine/evaluation/TruthValue;" (.ref a_TRUE)) (G3 : Exa Z Z.heap a_TRUE "com/example/contexture/contexture/engine/evaluation/TruthValue") (G4 : Sta Z Z.heap "com/example/contexture/contexture/engine/evaluation/TruthValue" "LOGIC" "Lcom/example/contexture/contexture/engine/evaluation/Logic;" (.ref a_LOGIC)) (G5 : Exa Z Z.heap a_LOGIC "com/example/contexture/contexture/engine/evaluation/TruthValue$1") (G6 : Sta Z Z.heap "com/example/contexture/contexture/engine/evaluation/TruthValue" "UNKNOWN" "Lcom/example/contexture/contexture/engine/evaluation/TruthValue;" (.ref a_UNKNOWN)) (G7 : Exa Z Z.heap a_UNKNOWN "com/example/contexture/contexture/engine/evaluation/TruthValue") (G8 : Fld Z Z.heap a_FALSE "java/lang/Enum" "ordinal" "I" (.int (1 : Int32))) (G9 : Fld Z Z.heap a_TRUE "java/lang/Enum" "ordinal" "I" (.int (0 : Int32))) (G10 : Fld Z Z.heap a_UNKNOWN "java/lang/Enum" "ordinal" "I" (.int (2 : Int32))) :
    MetFree l x (head1 (Jvm.Cond.code x code maxLocals ret :: ws) room_1) (fun a U => a = #[(.int p0)] ∧ Z.Warmed39 U.vm ∧ U.heap = h0) (fun _ _ _ _ _ => True) (fun _ U o U' => ∃ v L, o = .returned v ∧ Q_law Z p0 a_FALSE a_TRUE a_LOGIC a_UNKNOWN h0 n0 v U'.heap L ∧ FrameEnd U o U' L room_1.cells room_1.slots) := by
  refine MetFree.of_bodySF (plainFor_of_name pn_0) hisR ?_
  intro p e s m args below meth c s₁ Bd hml0 hP hK
  obtain ⟨rfl, hZ, hh⟩ := hP
  have hx := Bd.exec
  have hby := Bd.bytes
  have hml : c.maxLocals = 8 := hml0
  have hown : s.vm.findClass "com/example/contexture/contexture/engine/evaluation/TruthValueOfPinLaw" = some m.cls := findClass_of_methodNamed Bd.named
  have hnm := (name_of_methodNamed Bd.named Bd.method).1
  have X0 : Stand p l e room_1 s m #[(.int p0)] below meth c s₁ [] 0 0 := Stand.of_body Bd
  have e0 : s₁.heap = h0 := by rw [← hh, Bd.state]; rfl
  have N0 := Fr.nil n0
  have pre0 : ∀ t, Steps p.tables e below (s₁.setTop (mkF m 0 #[.val (.int p0), .unset, .unset, .unset, .unset, .unset, .unset, .unset] [])) t → Steps p.tables e below (s₁.setTop (entryFrame m #[(.int p0)] maxLocals)) t := fun t k => castTop (ef_1 m p0) k
  have K0 : Keep h0 h0 [] := Keep.refl h0 []
  have ne_a_FALSE_a_TRUE : a_FALSE ≠ a_TRUE := own_fld_ne G8 G9 (by decide)
  have ne_a_FALSE_a_UNKNOWN : a_FALSE ≠ a_UNKNOWN := own_fld_ne G8 G10 (by decide)
  have ne_a_TRUE_a_UNKNOWN : a_TRUE ≠ a_UNKNOWN := own_fld_ne G9 G10 (by decide)
  have pre1 : ∀ t, Steps p.tables e below (s₁.setTop (mkF m 3 #[.val (.int p0), .unset, .unset, .unset, .unset, .unset, .unset, .unset] [(.int (p0 &&& (1 : Int32)))])) t → Steps p.tables e below (s₁.setTop (entryFrame m #[(.int p0)] maxLocals)) t := fun t kt => by
    refine pre0 _ ?_
    show Steps p.tables e below (s₁.setTop (mkF m 0 #[.val (.int p0), .unset, .unset, .unset, .unset, .unset, .unset, .unset] [])) _
    refine XS.iloadN X0.here hx rfl (hb hby at_0) rfl ?_
    show Steps p.tables e below (s₁.setTop (mkF m 1 #[.val (.int p0), .unset, .unset, .unset, .unset, .unset, .unset, .unset] [(.int p0)])) _
    refine XS.iconst X0.here hx rfl (hb hby at_1) ?_
    show Steps p.tables e below (s₁.setTop (mkF m 2 #[.val (.int p0), .unset, .unset, .unset, .unset, .unset, .unset, .unset] [(.int (1 : Int32)), (.int p0)])) _
    refine XS.iand X0.here hx rfl (hb hby at_2) rfl ?_
    exact kt
  by_cases hc2 : (p0 &&& (1 : Int32)) = (0 : Int32)
  · have pre3 : ∀ t, Steps p.tables e below (s₁.setTop (mkF m 13 #[.val (.int p0), .val (.int (0 : Int32)), .unset, .unset, .unset, .unset, .unset, .unset] [(.int (0 : Int32))])) t → Steps p.tables e below (s₁.setTop (entryFrame m #[(.int p0)] maxLocals)) t := fun t kt => by
      refine pre1 _ ?_
      show Steps p.tables e below (s₁.setTop (mkF m 3 #[.val (.int p0), .unset, .unset, .unset, .unset, .unset, .unset, .unset] [(.int (p0 &&& (1 : Int32)))])) _
      refine XS.ifYes X0.here hx rfl (pc0 := 3) (pc' := 10) rfl (hb hby at_3) rfl (XT.i0_eq_t hc2) (by decide) (by decide) ?_
      show Steps p.tables e below (s₁.setTop (mkF m 10 #[.val (.int p0), .unset, .unset, .unset, .unset, .unset, .unset, .unset] [])) _
      refine XS.iconst X0.here hx rfl (hb hby at_10) ?_
      show Steps p.tables e below (s₁.setTop (mkF m 11 #[.val (.int p0), .unset, .unset, .unset, .unset, .unset, .unset, .unset] [(.int (0 : Int32))])) _
      refine XS.istoreN X0.here hx rfl (hb hby at_11) rfl (l' := #[.val (.int p0), .val (.int (0 : Int32)), .unset, .unset, .unset, .unset, .unset, .unset]) rfl ?_
      show Steps p.tables e below (s₁.setTop (mkF m 12 #[.val (.int p0), .val (.int (0 : Int32)), .unset, .unset, .unset, .unset, .unset, .unset] [])) _
      refine XS.iloadN X0.here hx rfl (hb hby at_12) rfl ?_
      exact kt
    obtain ⟨_, _, ⟨T4, L4, k4, n4⟩, -, X4, ⟨Lc4, hQ4, l4, y4, z4⟩, st4⟩ := Jvm.LawKit.callS X0 hx (y := (⟨"com/example/contexture/contexture/engine/evaluation/TruthValue", "of", "(Z)Lcom/example/contexture/contexture/engine/evaluation/TruthValue;"⟩ : MethodName)) hown (mvT hZ (hw _ (List.mem_of_getElem? (i := 0) rfl))) (mvT hZ (hw _ (List.mem_of_getElem? (i := 1) rfl))) (mvT hZ (hw _ (List.mem_of_getElem? (i := 2) rfl))) (mvT hZ (hw _ (List.mem_of_getElem? (i := 3) rfl))) (by decide) (backOf (W := 0) (rm_of1_0 l Z a0 hw [] a_FALSE h0 n0 O0 G0) hZ (hw _ (List.mem_of_getElem? (i := 3) rfl)) (hw _ (List.mem_of_getElem? (i := 2) rfl)) (by decide) (by decide)) (g := (mkF m 13 #[.val (.int p0), .val (.int (0 : Int32)), .unset, .unset, .unset, .unset, .unset, .unset] [(.int (0 : Int32))])) rfl (by rw [hml]; rfl) (argsL := [(.int (0 : Int32))]) (rest := []) (lenOf pd_4 rfl) rfl (by show 2 * 0 + _ ≤ _; exact Nat.le_of_eq rfl) (hb hby at_13) (fun _ _ => ⟨rfl, e0, (by decide : 0 + 0 ≤ _), (by decide : 0 + 0 ≤ _)⟩)
    dsimp only [Pt.U, Pt.locs, Pt.cells, Pt.slots] at X4 l4 y4 z4 st4 hQ4
    subst l4 y4 z4
    obtain ⟨rfl, M4, e4⟩ := hQ4
    have N4 := Fr.app N0 M4
    have pre14 : ∀ t, Steps p.tables e below (T4.setTop (mkF m 16 #[.val (.int p0), .val (.int (0 : Int32)), .unset, .unset, .unset, .unset, .unset, .unset] [(.ref a_FALSE)])) t → Steps p.tables e below (s₁.setTop (entryFrame m #[(.int p0)] maxLocals)) t := fun t kt => pre3 _ (st4 _ kt)
    have pre15 : ∀ t, Steps p.tables e below (T4.setTop (mkF m 26 #[.val (.int p0), .val (.int (0 : Int32)), .val (.ref a_FALSE), .unset, .unset, .unset, .unset, .unset] [(.int (1 : Int32))])) t → Steps p.tables e below (s₁.setTop (entryFrame m #[(.int p0)] maxLocals)) t := fun t kt => by
      refine pre14 _ ?_
      show Steps p.tables e below (T4.setTop (mkF m 16 #[.val (.int p0), .val (.int (0 : Int32)), .unset, .unset, .unset, .unset, .unset, .unset] [(.ref a_FALSE)])) _
      refine XS.astoreN X4.here hx rfl (hb hby at_16) rfl rfl (l' := #[.val (.int p0), .val (.int (0 : Int32)), .val (.ref a_FALSE), .unset, .unset, .unset, .unset, .unset]) rfl ?_
      show Steps p.tables e below (T4.setTop (mkF m 17 #[.val (.int p0), .val (.int (0 : Int32)), .val (.ref a_FALSE), .unset, .unset, .unset, .unset, .unset] [])) _
      refine XS.iloadN X4.here hx rfl (hb hby at_17) rfl ?_
      show Steps p.tables e below (T4.setTop (mkF m 18 #[.val (.int p0), .val (.int (0 : Int32)), .val (.ref a_FALSE), .unset, .unset, .unset, .unset, .unset] [(.int (0 : Int32))])) _
      refine XS.ifNo X4.here hx rfl (hb hby at_18) rfl (XT.i0_ne_f (by decide)) ?_
      show Steps p.tables e below (T4.setTop (mkF m 21 #[.val (.int p0), .val (.int (0 : Int32)), .val (.ref a_FALSE), .unset, .unset, .unset, .unset, .unset] [])) _
      refine XS.iconst X4.here hx rfl (hb hby at_21) ?_
      show Steps p.tables e below (T4.setTop (mkF m 22 #[.val (.int p0), .val (.int (0 : Int32)), .val (.ref a_FALSE), .unset, .unset, .unset, .unset, .unset] [(.int (1 : Int32))])) _
      refine XS.goto X4.here hx rfl (pc0 := 22) (pc' := 26) rfl (hb hby at_22) (by decide) (by decide) ?_
      exact kt
    obtain ⟨_, _, ⟨T16, L16, k16, n16⟩, -, X16, ⟨Lc16, hQ16, l16, y16, z16⟩, st16⟩ := Jvm.LawKit.callS X4 hx (y := (⟨"com/example/contexture/contexture/engine/evaluation/TruthValue", "of", "(Z)Lcom/example/contexture/contexture/engine/evaluation/TruthValue;"⟩ : MethodName)) hown (mvT hZ (hw _ (List.mem_of_getElem? (i := 0) rfl))) (mvT hZ (hw _ (List.mem_of_getElem? (i := 1) rfl))) (mvT hZ (hw _ (List.mem_of_getElem? (i := 2) rfl))) (mvT hZ (hw _ (List.mem_of_getElem? (i := 3) rfl))) (by decide) (backOf (W := 0) (rm_of1_1 l Z a0 hw [] a_TRUE h0 n0 O0 G2) hZ (hw _ (List.mem_of_getElem? (i := 3) rfl)) (hw _ (List.mem_of_getElem? (i := 2) rfl)) (by decide) (by decide)) (g := (mkF m 26 #[.val (.int p0), .val (.int (0 : Int32)), .val (.ref a_FALSE), .unset, .unset, .unset, .unset, .unset] [(.int (1 : Int32))])) rfl (by rw [hml]; rfl) (argsL := [(.int (1 : Int32))]) (rest := []) (lenOf pd_4 rfl) rfl (by show 2 * 0 + _ ≤ _; exact Nat.le_of_eq rfl) (hb hby at_26) (fun _ _ => ⟨rfl, e4, (by decide : 0 + 0 ≤ _), (by decide : 0 + 0 ≤ _)⟩)
    dsimp only [Pt.U, Pt.locs, Pt.cells, Pt.slots] at X16 l16 y16 z16 st16 hQ16
    subst l16 y16 z16
    obtain ⟨rfl, M16, e16⟩ := hQ16
    have N16 := Fr.app N4 M16
    have pre29 : ∀ t, Steps p.tables e below (T16.setTop (mkF m 29 #[.val (.int p0), .val (.int (0 : Int32)), .val (.ref a_FALSE), .unset, .unset, .unset, .unset, .unset] [(.ref a_TRUE)])) t → Steps p.tables e below (s₁.setTop (entryFrame m #[(.int p0)] maxLocals)) t := fun t kt => pre15 _ (st16 _ kt)
    have pre30 : ∀ t, Steps p.tables e below (T16.setTop (mkF m 30 #[.val (.int p0), .val (.int (0 : Int32)), .val (.ref a_FALSE), .val (.ref a_TRUE), .unset, .unset, .unset, .unset] [])) t → Steps p.tables e below (s₁.setTop (entryFrame m #[(.int p0)] maxLocals)) t := fun t kt => by
      refine pre29 _ ?_
      show Steps p.tables e below (T16.setTop (mkF m 29 #[.val (.int p0), .val (.int (0 : Int32)), .val (.ref a_FALSE), .unset, .unset, .unset, .unset, .unset] [(.ref a_TRUE)])) _
      refine XS.astoreN X16.here hx rfl (hb hby at_29) rfl rfl (l' := #[.val (.int p0), .val (.int (0 : Int32)), .val (.ref a_FALSE), .val (.ref a_TRUE), .unset, .unset, .unset, .unset]) rfl ?_
      exact kt
    obtain ⟨T31, X31, e31, st31⟩ := getS2 X16 hx hZ hown (host := "") (Or.inl (hw _ (List.mem_of_getElem? (i := 8) rfl))) Via.refl e16 (G4.ext O0.2) (g := (mkF m 30 #[.val (.int p0), .val (.int (0 : Int32)), .val (.ref a_FALSE), .val (.ref a_TRUE), .unset, .unset, .unset, .unset] [])) rfl (hb hby at_30)
    have pre32 : ∀ t, Steps p.tables e below (T31.setTop (mkF m 33 #[.val (.int p0), .val (.int (0 : Int32)), .val (.ref a_FALSE), .val (.ref a_TRUE), .unset, .unset, .unset, .unset] [(.ref a_LOGIC)])) t → Steps p.tables e below (s₁.setTop (entryFrame m #[(.int p0)] maxLocals)) t := fun t kt => pre30 _ (st31 _ kt)
    have pre33 : ∀ t, Steps p.tables e below (T31.setTop (mkF m 34 #[.val (.int p0), .val (.int (0 : Int32)), .val (.ref a_FALSE), .val (.ref a_TRUE), .unset, .unset, .unset, .unset] [(.ref a_FALSE), (.ref a_LOGIC)])) t → Steps p.tables e below (s₁.setTop (entryFrame m #[(.int p0)] maxLocals)) t := fun t kt => by
      refine pre32 _ ?_
      show Steps p.tables e below (T31.setTop (mkF m 33 #[.val (.int p0), .val (.int (0 : Int32)), .val (.ref a_FALSE), .val (.ref a_TRUE), .unset, .unset, .unset, .unset] [(.ref a_LOGIC)])) _
      refine XS.aloadN X31.here hx rfl (hb hby at_33) rfl rfl ?_
      exact kt
    obtain ⟨cq34, kq34, q34a, q34b, q34c⟩ := isOf hZ e31 (G5.ext O0.2)
    obtain ⟨_, _, ⟨T34, L34, k34, n34⟩, -, X34, ⟨Lc34, hQ34, l34, y34, z34⟩, st34⟩ := X31.interfaceBack hx (xi := (⟨"com/example/contexture/contexture/engine/evaluation/Logic", "settlesOr", "(Ljava/lang/Object;)Z"⟩ : MethodName)) (y := (⟨"com/example/contexture/contexture/engine/evaluation/TruthValue$1", "settlesOr", "(Ljava/lang/Object;)Z"⟩ : MethodName)) hown (mvT hZ (hw _ (List.mem_of_getElem? (i := 10) rfl))) (mvT hZ (hw _ (List.mem_of_getElem? (i := 11) rfl))) (mvT hZ (hw _ (List.mem_of_getElem? (i := 12) rfl))) (mvT hZ (hw _ (List.mem_of_getElem? (i := 13) rfl))) (mvT hZ (hw _ (List.mem_of_getElem? (i := 14) rfl))) (mvT hZ (hw _ (List.mem_of_getElem? (i := 15) rfl))) (mvT hZ (hw _ (List.mem_of_getElem? (i := 16) rfl))) (mvT hZ (hw _ (List.mem_of_getElem? (i := 17) rfl))) (by decide) (backOf (W := 0) (rm_settlesOr2_0 l Z a0 hw [] a_LOGIC a_FALSE a_TRUE h0 n0 O0 G1 G2 G5 (fun q => ne_a_FALSE_a_TRUE q.symm)) hZ (hw _ (List.mem_of_getElem? (i := 19) rfl)) (hw _ (List.mem_of_getElem? (i := 18) rfl)) (by decide) (by decide)) q34a q34b q34c (g := (mkF m 34 #[.val (.int p0), .val (.int (0 : Int32)), .val (.ref a_FALSE), .val (.ref a_TRUE), .unset, .unset, .unset, .unset] [(.ref a_FALSE), (.ref a_LOGIC)])) rfl (by rw [hml]; rfl) (Steps.refl _) (argsL := [(.ref a_FALSE)]) (rest := []) (lenOf pd_9 rfl) rfl (by show 2 * 0 + _ ≤ _; exact Nat.le_of_eq rfl) (hb hby at_34) (fun _ _ => ⟨rfl, e31, (by decide : 0 + 0 ≤ _), (by decide : 0 + 0 ≤ _)⟩)
    dsimp only [Pt.U, Pt.locs, Pt.cells, Pt.slots] at X34 l34 y34 z34 st34 hQ34
    subst l34 y34 z34
    obtain ⟨rfl, M34, e34⟩ := hQ34
    have N34 := Fr.app N16 M34
    have pre62 : ∀ t, Steps p.tables e below (T34.setTop (mkF m 39 #[.val (.int p0), .val (.int (0 : Int32)), .val (.ref a_FALSE), .val (.ref a_TRUE), .unset, .unset, .unset, .unset] [(.int (0 : Int32))])) t → Steps p.tables e below (s₁.setTop (entryFrame m #[(.int p0)] maxLocals)) t := fun t kt => pre33 _ (st34.trans kt)
    have pre63 : ∀ t, Steps p.tables e below (T34.setTop (mkF m 51 #[.val (.int p0), .val (.int (0 : Int32)), .val (.ref a_FALSE), .val (.ref a_TRUE), .val (.int (1 : Int32)), .unset, .unset, .unset] [(.ref a_FALSE)])) t → Steps p.tables e below (s₁.setTop (entryFrame m #[(.int p0)] maxLocals)) t := fun t kt => by
      refine pre62 _ ?_
      show Steps p.tables e below (T34.setTop (mkF m 39 #[.val (.int p0), .val (.int (0 : Int32)), .val (.ref a_FALSE), .val (.ref a_TRUE), .unset, .unset, .unset, .unset] [(.int (0 : Int32))])) _
      refine XS.iloadN X34.here hx rfl (hb hby at_39) rfl ?_
      show Steps p.tables e below (T34.setTop (mkF m 40 #[.val (.int p0), .val (.int (0 : Int32)), .val (.ref a_FALSE), .val (.ref a_TRUE), .unset, .unset, .unset, .unset] [(.int (0 : Int32)), (.int (0 : Int32))])) _
      refine XS.icmpNo X34.here hx rfl (hb hby at_40) rfl (XT.ii_ne_f (by decide)) ?_
      show Steps p.tables e below (T34.setTop (mkF m 43 #[.val (.int p0), .val (.int (0 : Int32)), .val (.ref a_FALSE), .val (.ref a_TRUE), .unset, .unset, .unset, .unset] [])) _
      refine XS.iconst X34.here hx rfl (hb hby at_43) ?_
      show Steps p.tables e below (T34.setTop (mkF m 44 #[.val (.int p0), .val (.int (0 : Int32)), .val (.ref a_FALSE), .val (.ref a_TRUE), .unset, .unset, .unset, .unset] [(.int (1 : Int32))])) _
      refine XS.goto X34.here hx rfl (pc0 := 44) (pc' := 48) rfl (hb hby at_44) (by decide) (by decide) ?_
      show Steps p.tables e below (T34.setTop (mkF m 48 #[.val (.int p0), .val (.int (0 : Int32)), .val (.ref a_FALSE), .val (.ref a_TRUE), .unset, .unset, .unset, .unset] [(.int (1 : Int32))])) _
      refine XS.istore X34.here hx rfl (hb hby at_48) rfl (l' := #[.val (.int p0), .val (.int (0 : Int32)), .val (.ref a_FALSE), .val (.ref a_TRUE), .val (.int (1 : Int32)), .unset, .unset, .unset]) rfl ?_
      show Steps p.tables e below (T34.setTop (mkF m 50 #[.val (.int p0), .val (.int (0 : Int32)), .val (.ref a_FALSE), .val (.ref a_TRUE), .val (.int (1 : Int32)), .unset, .unset, .unset] [])) _
      refine XS.aloadN X34.here hx rfl (hb hby at_50) rfl rfl ?_
      exact kt
    obtain ⟨cq64, kq64, q64a, q64b, q64c⟩ := isOf hZ e34 (G1.ext O0.2)
    obtain ⟨_, _, ⟨T64, L64, k64, n64⟩, -, X64, ⟨Lc64, hQ64, l64, y64, z64⟩, st64⟩ := X34.virtualBack hx (y := (⟨"com/example/contexture/contexture/engine/evaluation/TruthValue", "not", "()Lcom/example/contexture/contexture/engine/evaluation/TruthValue;"⟩ : MethodName)) (z := (⟨"com/example/contexture/contexture/engine/evaluation/TruthValue", "not", "()Lcom/example/contexture/contexture/engine/evaluation/TruthValue;"⟩ : MethodName)) hown (mvT hZ (hw _ (List.mem_of_getElem? (i := 28) rfl))) (mvT hZ (hw _ (List.mem_of_getElem? (i := 29) rfl))) (notFace_of_selects (args := #[]) (mvT hZ (hw _ (List.mem_of_getElem? (i := 31) rfl)))) (mvT hZ (hw _ (List.mem_of_getElem? (i := 31) rfl))) (mvT hZ (hw _ (List.mem_of_getElem? (i := 30) rfl))) (by decide) (backOf (W := 0) (rm_not4_0 l Z a0 hw [] a_FALSE a_TRUE h0 n0 O0 G1 G2 G8) hZ (hw _ (List.mem_of_getElem? (i := 32) rfl)) (hw _ (List.mem_of_getElem? (i := 2) rfl)) (by decide) (by decide)) q64a q64c (g := (mkF m 51 #[.val (.int p0), .val (.int (0 : Int32)), .val (.ref a_FALSE), .val (.ref a_TRUE), .val (.int (1 : Int32)), .unset, .unset, .unset] [(.ref a_FALSE)])) rfl (by rw [hml]; rfl) (Steps.refl _) (argsL := []) (rest := []) (lenOf pd_14 rfl) rfl (by show 2 * 0 + _ ≤ _; exact Nat.le_of_eq rfl) (hb hby at_51) (fun _ _ => ⟨rfl, e34, (by decide : 0 + 0 ≤ _), (by decide : 0 + 0 ≤ _)⟩)
    dsimp only [Pt.U, Pt.locs, Pt.cells, Pt.slots] at X64 l64 y64 z64 st64 hQ64
    subst l64 y64 z64
    obtain ⟨rfl, M64, e64⟩ := hQ64
    have N64 := Fr.app N34 M64
    have pre95 : ∀ t, Steps p.tables e below (T64.setTop (mkF m 54 #[.val (.int p0), .val (.int (0 : Int32)), .val (.ref a_FALSE), .val (.ref a_TRUE), .val (.int (1 : Int32)), .unset, .unset, .unset] [(.ref a_TRUE)])) t → Steps p.tables e below (s₁.setTop (entryFrame m #[(.int p0)] maxLocals)) t := fun t kt => pre63 _ (st64.trans kt)
    have pre96 : ∀ t, Steps p.tables e below (T64.setTop (mkF m 66 #[.val (.int p0), .val (.int (0 : Int32)), .val (.ref a_FALSE), .val (.ref a_TRUE), .val (.int (1 : Int32)), .val (.int (1 : Int32)), .unset, .unset] [(.ref a_FALSE)])) t → Steps p.tables e below (s₁.setTop (entryFrame m #[(.int p0)] maxLocals)) t := fun t kt => by
      refine pre95 _ ?_
      show Steps p.tables e below (T64.setTop (mkF m 54 #[.val (.int p0), .val (.int (0 : Int32)), .val (.ref a_FALSE), .val (.ref a_TRUE), .val (.int (1 : Int32)), .unset, .unset, .unset] [(.ref a_TRUE)])) _
      refine XS.aloadN X64.here hx rfl (hb hby at_54) rfl rfl ?_
      show Steps p.tables e below (T64.setTop (mkF m 55 #[.val (.int p0), .val (.int (0 : Int32)), .val (.ref a_FALSE), .val (.ref a_TRUE), .val (.int (1 : Int32)), .unset, .unset, .unset] [(.ref a_TRUE), (.ref a_TRUE)])) _
      refine Jvm.RoadKit.acmp (g := (mkF m 55 #[.val (.int p0), .val (.int (0 : Int32)), .val (.ref a_FALSE), .val (.ref a_TRUE), .val (.int (1 : Int32)), .unset, .unset, .unset] [(.ref a_TRUE), (.ref a_TRUE)])) X64 hx rfl rfl rfl (pc0 := 55) (pc' := 58) (same := true) rfl (hb hby at_55) rfl (decide_eq_true rfl) (by decide) (by decide) ?_
      show Steps p.tables e below (T64.setTop (mkF m 58 #[.val (.int p0), .val (.int (0 : Int32)), .val (.ref a_FALSE), .val (.ref a_TRUE), .val (.int (1 : Int32)), .unset, .unset, .unset] [])) _
      refine XS.iconst X64.here hx rfl (hb hby at_58) ?_
      show Steps p.tables e below (T64.setTop (mkF m 59 #[.val (.int p0), .val (.int (0 : Int32)), .val (.ref a_FALSE), .val (.ref a_TRUE), .val (.int (1 : Int32)), .unset, .unset, .unset] [(.int (1 : Int32))])) _
      refine XS.goto X64.here hx rfl (pc0 := 59) (pc' := 63) rfl (hb hby at_59) (by decide) (by decide) ?_
      show Steps p.tables e below (T64.setTop (mkF m 63 #[.val (.int p0), .val (.int (0 : Int32)), .val (.ref a_FALSE), .val (.ref a_TRUE), .val (.int (1 : Int32)), .unset, .unset, .unset] [(.int (1 : Int32))])) _
      refine XS.istore X64.here hx rfl (hb hby at_63) rfl (l' := #[.val (.int p0), .val (.int (0 : Int32)), .val (.ref a_FALSE), .val (.ref a_TRUE), .val (.int (1 : Int32)), .val (.int (1 : Int32)), .unset, .unset]) rfl ?_
      show Steps p.tables e below (T64.setTop (mkF m 65 #[.val (.int p0), .val (.int (0 : Int32)), .val (.ref a_FALSE), .val (.ref a_TRUE), .val (.int (1 : Int32)), .val (.int (1 : Int32)), .unset, .unset] [])) _
      refine XS.aloadN X64.here hx rfl (hb hby at_65) rfl rfl ?_
      exact kt
    obtain ⟨T97, X97, e97, st97⟩ := getS2 X64 hx hZ hown (host := "") (Or.inl (hw _ (List.mem_of_getElem? (i := 42) rfl))) Via.refl e64 (G6.ext O0.2) (g := (mkF m 66 #[.val (.int p0), .val (.int (0 : Int32)), .val (.ref a_FALSE), .val (.ref a_TRUE), .val (.int (1 : Int32)), .val (.int (1 : Int32)), .unset, .unset] [(.ref a_FALSE)])) rfl (hb hby at_66)
    have pre98 : ∀ t, Steps p.tables e below (T97.setTop (mkF m 69 #[.val (.int p0), .val (.int (0 : Int32)), .val (.ref a_FALSE), .val (.ref a_TRUE), .val (.int (1 : Int32)), .val (.int (1 : Int32)), .unset, .unset] [(.ref a_UNKNOWN), (.ref a_FALSE)])) t → Steps p.tables e below (s₁.setTop (entryFrame m #[(.int p0)] maxLocals)) t := fun t kt => pre96 _ (st97 _ kt)
    have pre99 : ∀ t, Steps p.tables e below (T97.setTop (mkF m 82 #[.val (.int p0), .val (.int (0 : Int32)), .val (.ref a_FALSE), .val (.ref a_TRUE), .val (.int (1 : Int32)), .val (.int (1 : Int32)), .val (.int (1 : Int32)), .unset] [(.int (1 : Int32)), (.int (0 : Int32)), (.ref a_FALSE)])) t → Steps p.tables e below (s₁.setTop (entryFrame m #[(.int p0)] maxLocals)) t := fun t kt => by
      refine pre98 _ ?_
      show Steps p.tables e below (T97.setTop (mkF m 69 #[.val (.int p0), .val (.int (0 : Int32)), .val (.ref a_FALSE), .val (.ref a_TRUE), .val (.int (1 : Int32)), .val (.int (1 : Int32)), .unset, .unset] [(.ref a_UNKNOWN), (.ref a_FALSE)])) _
      refine Jvm.RoadKit.acmp (g := (mkF m 69 #[.val (.int p0), .val (.int (0 : Int32)), .val (.ref a_FALSE), .val (.ref a_TRUE), .val (.int (1 : Int32)), .val (.int (1 : Int32)), .unset, .unset] [(.ref a_UNKNOWN), (.ref a_FALSE)])) X97 hx rfl rfl rfl (pc0 := 69) (pc' := 72) (same := false) rfl (hb hby at_69) rfl (decide_eq_false fun q => ne_a_FALSE_a_UNKNOWN (Value.ref.inj q)) (by decide) (by decide) ?_
      show Steps p.tables e below (T97.setTop (mkF m 72 #[.val (.int p0), .val (.int (0 : Int32)), .val (.ref a_FALSE), .val (.ref a_TRUE), .val (.int (1 : Int32)), .val (.int (1 : Int32)), .unset, .unset] [])) _
      refine XS.iconst X97.here hx rfl (hb hby at_72) ?_
      show Steps p.tables e below (T97.setTop (mkF m 73 #[.val (.int p0), .val (.int (0 : Int32)), .val (.ref a_FALSE), .val (.ref a_TRUE), .val (.int (1 : Int32)), .val (.int (1 : Int32)), .unset, .unset] [(.int (1 : Int32))])) _
      refine XS.goto X97.here hx rfl (pc0 := 73) (pc' := 77) rfl (hb hby at_73) (by decide) (by decide) ?_
      show Steps p.tables e below (T97.setTop (mkF m 77 #[.val (.int p0), .val (.int (0 : Int32)), .val (.ref a_FALSE), .val (.ref a_TRUE), .val (.int (1 : Int32)), .val (.int (1 : Int32)), .unset, .unset] [(.int (1 : Int32))])) _
      refine XS.istore X97.here hx rfl (hb hby at_77) rfl (l' := #[.val (.int p0), .val (.int (0 : Int32)), .val (.ref a_FALSE), .val (.ref a_TRUE), .val (.int (1 : Int32)), .val (.int (1 : Int32)), .val (.int (1 : Int32)), .unset]) rfl ?_
      show Steps p.tables e below (T97.setTop (mkF m 79 #[.val (.int p0), .val (.int (0 : Int32)), .val (.ref a_FALSE), .val (.ref a_TRUE), .val (.int (1 : Int32)), .val (.int (1 : Int32)), .val (.int (1 : Int32)), .unset] [])) _
      refine XS.aloadN X97.here hx rfl (hb hby at_79) rfl rfl ?_
      show Steps p.tables e below (T97.setTop (mkF m 80 #[.val (.int p0), .val (.int (0 : Int32)), .val (.ref a_FALSE), .val (.ref a_TRUE), .val (.int (1 : Int32)), .val (.int (1 : Int32)), .val (.int (1 : Int32)), .unset] [(.ref a_FALSE)])) _
      refine XS.iloadN X97.here hx rfl (hb hby at_80) rfl ?_
      show Steps p.tables e below (T97.setTop (mkF m 81 #[.val (.int p0), .val (.int (0 : Int32)), .val (.ref a_FALSE), .val (.ref a_TRUE), .val (.int (1 : Int32)), .val (.int (1 : Int32)), .val (.int (1 : Int32)), .unset] [(.int (0 : Int32)), (.ref a_FALSE)])) _
      refine XS.iconst X97.here hx rfl (hb hby at_81) ?_
      exact kt
    obtain ⟨_, _, ⟨T100, L100, k100, n100⟩, -, X100, ⟨Lc100, hQ100, l100, y100, z100⟩, st100⟩ := Jvm.LawKit.callS X97 hx (y := (⟨"com/example/contexture/contexture/engine/evaluation/TruthValue", "reported", "(ZZ)Lcom/example/contexture/contexture/engine/evaluation/TruthValue;"⟩ : MethodName)) hown (mvT hZ (hw _ (List.mem_of_getElem? (i := 44) rfl))) (mvT hZ (hw _ (List.mem_of_getElem? (i := 45) rfl))) (mvT hZ (hw _ (List.mem_of_getElem? (i := 2) rfl))) (mvT hZ (hw _ (List.mem_of_getElem? (i := 46) rfl))) (by decide) (backOf (W := 1) (rm_reported6_0 l Z a0 hw [] a_FALSE h0 n0 O0 G0) hZ (hw _ (List.mem_of_getElem? (i := 46) rfl)) (hw _ (List.mem_of_getElem? (i := 2) rfl)) (by decide) (by decide)) (g := (mkF m 82 #[.val (.int p0), .val (.int (0 : Int32)), .val (.ref a_FALSE), .val (.ref a_TRUE), .val (.int (1 : Int32)), .val (.int (1 : Int32)), .val (.int (1 : Int32)), .unset] [(.int (1 : Int32)), (.int (0 : Int32)), (.ref a_FALSE)])) rfl (by rw [hml]; rfl) (argsL := [(.int (0 : Int32)), (.int (1 : Int32))]) (rest := [(.ref a_FALSE)]) (lenOf pd_16 rfl) rfl (by show 2 * 0 + _ ≤ _; exact Nat.le_of_eq rfl) (hb hby at_82) (fun _ _ => ⟨rfl, e97, (by decide : 0 + 0 ≤ _), (by decide : 0 + 0 ≤ _)⟩)
    dsimp only [Pt.U, Pt.locs, Pt.cells, Pt.slots] at X100 l100 y100 z100 st100 hQ100
    subst l100 y100 z100
    obtain ⟨rfl, M100, e100⟩ := hQ100
    have N100 := Fr.app N64 M100
    have pre113 : ∀ t, Steps p.tables e below (T100.setTop (mkF m 85 #[.val (.int p0), .val (.int (0 : Int32)), .val (.ref a_FALSE), .val (.ref a_TRUE), .val (.int (1 : Int32)), .val (.int (1 : Int32)), .val (.int (1 : Int32)), .unset] [(.ref a_FALSE), (.ref a_FALSE)])) t → Steps p.tables e below (s₁.setTop (entryFrame m #[(.int p0)] maxLocals)) t := fun t kt => pre99 _ (st100 _ kt)
    have pre114 : ∀ t, Steps p.tables e below (T100.setTop (mkF m 120 #[.val (.int p0), .val (.int (0 : Int32)), .val (.ref a_FALSE), .val (.ref a_TRUE), .val (.int (1 : Int32)), .val (.int (1 : Int32)), .val (.int (1 : Int32)), .val (.int (1 : Int32))] [(.int (1 : Int32))])) t → Steps p.tables e below (s₁.setTop (entryFrame m #[(.int p0)] maxLocals)) t := fun t kt => by
      refine pre113 _ ?_
      show Steps p.tables e below (T100.setTop (mkF m 85 #[.val (.int p0), .val (.int (0 : Int32)), .val (.ref a_FALSE), .val (.ref a_TRUE), .val (.int (1 : Int32)), .val (.int (1 : Int32)), .val (.int (1 : Int32)), .unset] [(.ref a_FALSE), (.ref a_FALSE)])) _
      refine Jvm.RoadKit.acmp (g := (mkF m 85 #[.val (.int p0), .val (.int (0 : Int32)), .val (.ref a_FALSE), .val (.ref a_TRUE), .val (.int (1 : Int32)), .val (.int (1 : Int32)), .val (.int (1 : Int32)), .unset] [(.ref a_FALSE), (.ref a_FALSE)])) X100 hx rfl rfl rfl (pc0 := 85) (pc' := 88) (same := true) rfl (hb hby at_85) rfl (decide_eq_true rfl) (by decide) (by decide) ?_
      show Steps p.tables e below (T100.setTop (mkF m 88 #[.val (.int p0), .val (.int (0 : Int32)), .val (.ref a_FALSE), .val (.ref a_TRUE), .val (.int (1 : Int32)), .val (.int (1 : Int32)), .val (.int (1 : Int32)), .unset] [])) _
      refine XS.iconst X100.here hx rfl (hb hby at_88) ?_
      show Steps p.tables e below (T100.setTop (mkF m 89 #[.val (.int p0), .val (.int (0 : Int32)), .val (.ref a_FALSE), .val (.ref a_TRUE), .val (.int (1 : Int32)), .val (.int (1 : Int32)), .val (.int (1 : Int32)), .unset] [(.int (1 : Int32))])) _
      refine XS.goto X100.here hx rfl (pc0 := 89) (pc' := 93) rfl (hb hby at_89) (by decide) (by decide) ?_
      show Steps p.tables e below (T100.setTop (mkF m 93 #[.val (.int p0), .val (.int (0 : Int32)), .val (.ref a_FALSE), .val (.ref a_TRUE), .val (.int (1 : Int32)), .val (.int (1 : Int32)), .val (.int (1 : Int32)), .unset] [(.int (1 : Int32))])) _
      refine XS.istore X100.here hx rfl (hb hby at_93) rfl (l' := #[.val (.int p0), .val (.int (0 : Int32)), .val (.ref a_FALSE), .val (.ref a_TRUE), .val (.int (1 : Int32)), .val (.int (1 : Int32)), .val (.int (1 : Int32)), .val (.int (1 : Int32))]) rfl ?_
      show Steps p.tables e below (T100.setTop (mkF m 95 #[.val (.int p0), .val (.int (0 : Int32)), .val (.ref a_FALSE), .val (.ref a_TRUE), .val (.int (1 : Int32)), .val (.int (1 : Int32)), .val (.int (1 : Int32)), .val (.int (1 : Int32))] [])) _
      refine XS.iload X100.here hx rfl (hb hby at_95) rfl ?_
      show Steps p.tables e below (T100.setTop (mkF m 97 #[.val (.int p0), .val (.int (0 : Int32)), .val (.ref a_FALSE), .val (.ref a_TRUE), .val (.int (1 : Int32)), .val (.int (1 : Int32)), .val (.int (1 : Int32)), .val (.int (1 : Int32))] [(.int (1 : Int32))])) _
      refine XS.ifNo X100.here hx rfl (hb hby at_97) rfl (XT.i0_eq_f (by decide)) ?_
      show Steps p.tables e below (T100.setTop (mkF m 100 #[.val (.int p0), .val (.int (0 : Int32)), .val (.ref a_FALSE), .val (.ref a_TRUE), .val (.int (1 : Int32)), .val (.int (1 : Int32)), .val (.int (1 : Int32)), .val (.int (1 : Int32))] [])) _
      refine XS.iload X100.here hx rfl (hb hby at_100) rfl ?_
      show Steps p.tables e below (T100.setTop (mkF m 102 #[.val (.int p0), .val (.int (0 : Int32)), .val (.ref a_FALSE), .val (.ref a_TRUE), .val (.int (1 : Int32)), .val (.int (1 : Int32)), .val (.int (1 : Int32)), .val (.int (1 : Int32))] [(.int (1 : Int32))])) _
      refine XS.ifNo X100.here hx rfl (hb hby at_102) rfl (XT.i0_eq_f (by decide)) ?_
      show Steps p.tables e below (T100.setTop (mkF m 105 #[.val (.int p0), .val (.int (0 : Int32)), .val (.ref a_FALSE), .val (.ref a_TRUE), .val (.int (1 : Int32)), .val (.int (1 : Int32)), .val (.int (1 : Int32)), .val (.int (1 : Int32))] [])) _
      refine XS.iload X100.here hx rfl (hb hby at_105) rfl ?_
      show Steps p.tables e below (T100.setTop (mkF m 107 #[.val (.int p0), .val (.int (0 : Int32)), .val (.ref a_FALSE), .val (.ref a_TRUE), .val (.int (1 : Int32)), .val (.int (1 : Int32)), .val (.int (1 : Int32)), .val (.int (1 : Int32))] [(.int (1 : Int32))])) _
      refine XS.ifNo X100.here hx rfl (hb hby at_107) rfl (XT.i0_eq_f (by decide)) ?_
      show Steps p.tables e below (T100.setTop (mkF m 110 #[.val (.int p0), .val (.int (0 : Int32)), .val (.ref a_FALSE), .val (.ref a_TRUE), .val (.int (1 : Int32)), .val (.int (1 : Int32)), .val (.int (1 : Int32)), .val (.int (1 : Int32))] [])) _
      refine XS.iload X100.here hx rfl (hb hby at_110) rfl ?_
      show Steps p.tables e below (T100.setTop (mkF m 112 #[.val (.int p0), .val (.int (0 : Int32)), .val (.ref a_FALSE), .val (.ref a_TRUE), .val (.int (1 : Int32)), .val (.int (1 : Int32)), .val (.int (1 : Int32)), .val (.int (1 : Int32))] [(.int (1 : Int32))])) _
      refine XS.ifNo X100.here hx rfl (hb hby at_112) rfl (XT.i0_eq_f (by decide)) ?_
      show Steps p.tables e below (T100.setTop (mkF m 115 #[.val (.int p0), .val (.int (0 : Int32)), .val (.ref a_FALSE), .val (.ref a_TRUE), .val (.int (1 : Int32)), .val (.int (1 : Int32)), .val (.int (1 : Int32)), .val (.int (1 : Int32))] [])) _
      refine XS.iconst X100.here hx rfl (hb hby at_115) ?_
      show Steps p.tables e below (T100.setTop (mkF m 116 #[.val (.int p0), .val (.int (0 : Int32)), .val (.ref a_FALSE), .val (.ref a_TRUE), .val (.int (1 : Int32)), .val (.int (1 : Int32)), .val (.int (1 : Int32)), .val (.int (1 : Int32))] [(.int (1 : Int32))])) _
      refine XS.goto X100.here hx rfl (pc0 := 116) (pc' := 120) rfl (hb hby at_116) (by decide) (by decide) ?_
      exact kt
    obtain ⟨fs, hr, hrun, hended, hW, hsame⟩ := X100.leave (v := some (.int (1 : Int32))) (fun h => by rw [Bd.returns] at h; cases h)
    refine ⟨_, _, pre114 _ (retN X100 hx (t := .boolean) Bd.returns (by simp) (hb hby at_120) hr), hrun, hended, _, _, rfl, ?_, ⟨_, rfl⟩, hW, hsame.mono (by decide) (by decide)⟩
    show Q_law Z p0 a_FALSE a_TRUE a_LOGIC a_UNKNOWN h0 n0 _ T100.heap _
    rw [e100]
    exact ⟨rfl, N100⟩
  · have pre115 : ∀ t, Steps p.tables e below (s₁.setTop (mkF m 13 #[.val (.int p0), .val (.int (1 : Int32)), .unset, .unset, .unset, .unset, .unset, .unset] [(.int (1 : Int32))])) t → Steps p.tables e below (s₁.setTop (entryFrame m #[(.int p0)] maxLocals)) t := fun t kt => by
      refine pre1 _ ?_
      show Steps p.tables e below (s₁.setTop (mkF m 3 #[.val (.int p0), .unset, .unset, .unset, .unset, .unset, .unset, .unset] [(.int (p0 &&& (1 : Int32)))])) _
      refine XS.ifNo X0.here hx rfl (hb hby at_3) rfl (XT.i0_eq_f hc2) ?_
      show Steps p.tables e below (s₁.setTop (mkF m 6 #[.val (.int p0), .unset, .unset, .unset, .unset, .unset, .unset, .unset] [])) _
      refine XS.iconst X0.here hx rfl (hb hby at_6) ?_
      show Steps p.tables e below (s₁.setTop (mkF m 7 #[.val (.int p0), .unset, .unset, .unset, .unset, .unset, .unset, .unset] [(.int (1 : Int32))])) _
      refine XS.goto X0.here hx rfl (pc0 := 7) (pc' := 11) rfl (hb hby at_7) (by decide) (by decide) ?_
      show Steps p.tables e below (s₁.setTop (mkF m 11 #[.val (.int p0), .unset, .unset, .unset, .unset, .unset, .unset, .unset] [(.int (1 : Int32))])) _
      refine XS.istoreN X0.here hx rfl (hb hby at_11) rfl (l' := #[.val (.int p0), .val (.int (1 : Int32)), .unset, .unset, .unset, .unset, .unset, .unset]) rfl ?_
      show Steps p.tables e below (s₁.setTop (mkF m 12 #[.val (.int p0), .val (.int (1 : Int32)), .unset, .unset, .unset, .unset, .unset, .unset] [])) _
      refine XS.iloadN X0.here hx rfl (hb hby at_12) rfl ?_
      exact kt
    obtain ⟨_, _, ⟨T116, L116, k116, n116⟩, -, X116, ⟨Lc116, hQ116, l116, y116, z116⟩, st116⟩ := Jvm.LawKit.callS X0 hx (y := (⟨"com/example/contexture/contexture/engine/evaluation/TruthValue", "of", "(Z)Lcom/example/contexture/contexture/engine/evaluation/TruthValue;"⟩ : MethodName)) hown (mvT hZ (hw _ (List.mem_of_getElem? (i := 0) rfl))) (mvT hZ (hw _ (List.mem_of_getElem? (i := 1) rfl))) (mvT hZ (hw _ (List.mem_of_getElem? (i := 2) rfl))) (mvT hZ (hw _ (List.mem_of_getElem? (i := 3) rfl))) (by decide) (backOf (W := 0) (rm_of1_1 l Z a0 hw [] a_TRUE h0 n0 O0 G2) hZ (hw _ (List.mem_of_getElem? (i := 3) rfl)) (hw _ (List.mem_of_getElem? (i := 2) rfl)) (by decide) (by decide)) (g := (mkF m 13 #[.val (.int p0), .val (.int (1 : Int32)), .unset, .unset, .unset, .unset, .unset, .unset] [(.int (1 : Int32))])) rfl (by rw [hml]; rfl) (argsL := [(.int (1 : Int32))]) (rest := []) (lenOf pd_4 rfl) rfl (by show 2 * 0 + _ ≤ _; exact Nat.le_of_eq rfl) (hb hby at_13) (fun _ _ => ⟨rfl, e0, (by decide : 0 + 0 ≤ _), (by decide : 0 + 0 ≤ _)⟩)
    dsimp only [Pt.U, Pt.locs, Pt.cells, Pt.slots] at X116 l116 y116 z116 st116 hQ116
    subst l116 y116 z116
    obtain ⟨rfl, M116, e116⟩ := hQ116
    have N116 := Fr.app N0 M116
    have pre117 : ∀ t, Steps p.tables e below (T116.setTop (mkF m 16 #[.val (.int p0), .val (.int (1 : Int32)), .unset, .unset, .unset, .unset, .unset, .unset] [(.ref a_TRUE)])) t → Steps p.tables e below (s₁.setTop (entryFrame m #[(.int p0)] maxLocals)) t := fun t kt => pre115 _ (st116 _ kt)
    have pre118 : ∀ t, Steps p.tables e below (T116.setTop (mkF m 26 #[.val (.int p0), .val (.int (1 : Int32)), .val (.ref a_TRUE), .unset, .unset, .unset, .unset, .unset] [(.int (0 : Int32))])) t → Steps p.tables e below (s₁.setTop (entryFrame m #[(.int p0)] maxLocals)) t := fun t kt => by
      refine pre117 _ ?_
      show Steps p.tables e below (T116.setTop (mkF m 16 #[.val (.int p0), .val (.int (1 : Int32)), .unset, .unset, .unset, .unset, .unset, .unset] [(.ref a_TRUE)])) _
      refine XS.astoreN X116.here hx rfl (hb hby at_16) rfl rfl (l' := #[.val (.int p0), .val (.int (1 : Int32)), .val (.ref a_TRUE), .unset, .unset, .unset, .unset, .unset]) rfl ?_
      show Steps p.tables e below (T116.setTop (mkF m 17 #[.val (.int p0), .val (.int (1 : Int32)), .val (.ref a_TRUE), .unset, .unset, .unset, .unset, .unset] [])) _
      refine XS.iloadN X116.here hx rfl (hb hby at_17) rfl ?_
      show Steps p.tables e below (T116.setTop (mkF m 18 #[.val (.int p0), .val (.int (1 : Int32)), .val (.ref a_TRUE), .unset, .unset, .unset, .unset, .unset] [(.int (1 : Int32))])) _
      refine XS.ifYes X116.here hx rfl (pc0 := 18) (pc' := 25) rfl (hb hby at_18) rfl (XT.i0_ne_t (by decide)) (by decide) (by decide) ?_
      show Steps p.tables e below (T116.setTop (mkF m 25 #[.val (.int p0), .val (.int (1 : Int32)), .val (.ref a_TRUE), .unset, .unset, .unset, .unset, .unset] [])) _
      refine XS.iconst X116.here hx rfl (hb hby at_25) ?_
      exact kt
    obtain ⟨_, _, ⟨T119, L119, k119, n119⟩, -, X119, ⟨Lc119, hQ119, l119, y119, z119⟩, st119⟩ := Jvm.LawKit.callS X116 hx (y := (⟨"com/example/contexture/contexture/engine/evaluation/TruthValue", "of", "(Z)Lcom/example/contexture/contexture/engine/evaluation/TruthValue;"⟩ : MethodName)) hown (mvT hZ (hw _ (List.mem_of_getElem? (i := 0) rfl))) (mvT hZ (hw _ (List.mem_of_getElem? (i := 1) rfl))) (mvT hZ (hw _ (List.mem_of_getElem? (i := 2) rfl))) (mvT hZ (hw _ (List.mem_of_getElem? (i := 3) rfl))) (by decide) (backOf (W := 0) (rm_of1_0 l Z a0 hw [] a_FALSE h0 n0 O0 G0) hZ (hw _ (List.mem_of_getElem? (i := 3) rfl)) (hw _ (List.mem_of_getElem? (i := 2) rfl)) (by decide) (by decide)) (g := (mkF m 26 #[.val (.int p0), .val (.int (1 : Int32)), .val (.ref a_TRUE), .unset, .unset, .unset, .unset, .unset] [(.int (0 : Int32))])) rfl (by rw [hml]; rfl) (argsL := [(.int (0 : Int32))]) (rest := []) (lenOf pd_4 rfl) rfl (by show 2 * 0 + _ ≤ _; exact Nat.le_of_eq rfl) (hb hby at_26) (fun _ _ => ⟨rfl, e116, (by decide : 0 + 0 ≤ _), (by decide : 0 + 0 ≤ _)⟩)
    dsimp only [Pt.U, Pt.locs, Pt.cells, Pt.slots] at X119 l119 y119 z119 st119 hQ119
    subst l119 y119 z119
    obtain ⟨rfl, M119, e119⟩ := hQ119
    have N119 := Fr.app N116 M119
    have pre120 : ∀ t, Steps p.tables e below (T119.setTop (mkF m 29 #[.val (.int p0), .val (.int (1 : Int32)), .val (.ref a_TRUE), .unset, .unset, .unset, .unset, .unset] [(.ref a_FALSE)])) t → Steps p.tables e below (s₁.setTop (entryFrame m #[(.int p0)] maxLocals)) t := fun t kt => pre118 _ (st119 _ kt)
    have pre121 : ∀ t, Steps p.tables e below (T119.setTop (mkF m 30 #[.val (.int p0), .val (.int (1 : Int32)), .val (.ref a_TRUE), .val (.ref a_FALSE), .unset, .unset, .unset, .unset] [])) t → Steps p.tables e below (s₁.setTop (entryFrame m #[(.int p0)] maxLocals)) t := fun t kt => by
      refine pre120 _ ?_
      show Steps p.tables e below (T119.setTop (mkF m 29 #[.val (.int p0), .val (.int (1 : Int32)), .val (.ref a_TRUE), .unset, .unset, .unset, .unset, .unset] [(.ref a_FALSE)])) _
      refine XS.astoreN X119.here hx rfl (hb hby at_29) rfl rfl (l' := #[.val (.int p0), .val (.int (1 : Int32)), .val (.ref a_TRUE), .val (.ref a_FALSE), .unset, .unset, .unset, .unset]) rfl ?_
      exact kt
    obtain ⟨T122, X122, e122, st122⟩ := getS2 X119 hx hZ hown (host := "") (Or.inl (hw _ (List.mem_of_getElem? (i := 8) rfl))) Via.refl e119 (G4.ext O0.2) (g := (mkF m 30 #[.val (.int p0), .val (.int (1 : Int32)), .val (.ref a_TRUE), .val (.ref a_FALSE), .unset, .unset, .unset, .unset] [])) rfl (hb hby at_30)
    have pre123 : ∀ t, Steps p.tables e below (T122.setTop (mkF m 33 #[.val (.int p0), .val (.int (1 : Int32)), .val (.ref a_TRUE), .val (.ref a_FALSE), .unset, .unset, .unset, .unset] [(.ref a_LOGIC)])) t → Steps p.tables e below (s₁.setTop (entryFrame m #[(.int p0)] maxLocals)) t := fun t kt => pre121 _ (st122 _ kt)
    have pre124 : ∀ t, Steps p.tables e below (T122.setTop (mkF m 34 #[.val (.int p0), .val (.int (1 : Int32)), .val (.ref a_TRUE), .val (.ref a_FALSE), .unset, .unset, .unset, .unset] [(.ref a_TRUE), (.ref a_LOGIC)])) t → Steps p.tables e below (s₁.setTop (entryFrame m #[(.int p0)] maxLocals)) t := fun t kt => by
      refine pre123 _ ?_
      show Steps p.tables e below (T122.setTop (mkF m 33 #[.val (.int p0), .val (.int (1 : Int32)), .val (.ref a_TRUE), .val (.ref a_FALSE), .unset, .unset, .unset, .unset] [(.ref a_LOGIC)])) _
      refine XS.aloadN X122.here hx rfl (hb hby at_33) rfl rfl ?_
      exact kt
    obtain ⟨cq125, kq125, q125a, q125b, q125c⟩ := isOf hZ e122 (G5.ext O0.2)
    obtain ⟨_, _, ⟨T125, L125, k125, n125⟩, -, X125, ⟨Lc125, hQ125, l125, y125, z125⟩, st125⟩ := X122.interfaceBack hx (xi := (⟨"com/example/contexture/contexture/engine/evaluation/Logic", "settlesOr", "(Ljava/lang/Object;)Z"⟩ : MethodName)) (y := (⟨"com/example/contexture/contexture/engine/evaluation/TruthValue$1", "settlesOr", "(Ljava/lang/Object;)Z"⟩ : MethodName)) hown (mvT hZ (hw _ (List.mem_of_getElem? (i := 10) rfl))) (mvT hZ (hw _ (List.mem_of_getElem? (i := 11) rfl))) (mvT hZ (hw _ (List.mem_of_getElem? (i := 12) rfl))) (mvT hZ (hw _ (List.mem_of_getElem? (i := 13) rfl))) (mvT hZ (hw _ (List.mem_of_getElem? (i := 14) rfl))) (mvT hZ (hw _ (List.mem_of_getElem? (i := 15) rfl))) (mvT hZ (hw _ (List.mem_of_getElem? (i := 16) rfl))) (mvT hZ (hw _ (List.mem_of_getElem? (i := 17) rfl))) (by decide) (backOf (W := 0) (rm_settlesOr2_1 l Z a0 hw [] a_LOGIC a_TRUE h0 n0 O0 G2 G3 G5) hZ (hw _ (List.mem_of_getElem? (i := 19) rfl)) (hw _ (List.mem_of_getElem? (i := 18) rfl)) (by decide) (by decide)) q125a q125b q125c (g := (mkF m 34 #[.val (.int p0), .val (.int (1 : Int32)), .val (.ref a_TRUE), .val (.ref a_FALSE), .unset, .unset, .unset, .unset] [(.ref a_TRUE), (.ref a_LOGIC)])) rfl (by rw [hml]; rfl) (Steps.refl _) (argsL := [(.ref a_TRUE)]) (rest := []) (lenOf pd_9 rfl) rfl (by show 2 * 0 + _ ≤ _; exact Nat.le_of_eq rfl) (hb hby at_34) (fun _ _ => ⟨rfl, e122, (by decide : 0 + 0 ≤ _), (by decide : 0 + 0 ≤ _)⟩)
    dsimp only [Pt.U, Pt.locs, Pt.cells, Pt.slots] at X125 l125 y125 z125 st125 hQ125
    subst l125 y125 z125
    obtain ⟨rfl, M125, e125⟩ := hQ125
    have N125 := Fr.app N119 M125
    have pre153 : ∀ t, Steps p.tables e below (T125.setTop (mkF m 39 #[.val (.int p0), .val (.int (1 : Int32)), .val (.ref a_TRUE), .val (.ref a_FALSE), .unset, .unset, .unset, .unset] [(.int (1 : Int32))])) t → Steps p.tables e below (s₁.setTop (entryFrame m #[(.int p0)] maxLocals)) t := fun t kt => pre124 _ (st125.trans kt)
    have pre154 : ∀ t, Steps p.tables e below (T125.setTop (mkF m 51 #[.val (.int p0), .val (.int (1 : Int32)), .val (.ref a_TRUE), .val (.ref a_FALSE), .val (.int (1 : Int32)), .unset, .unset, .unset] [(.ref a_TRUE)])) t → Steps p.tables e below (s₁.setTop (entryFrame m #[(.int p0)] maxLocals)) t := fun t kt => by
      refine pre153 _ ?_
      show Steps p.tables e below (T125.setTop (mkF m 39 #[.val (.int p0), .val (.int (1 : Int32)), .val (.ref a_TRUE), .val (.ref a_FALSE), .unset, .unset, .unset, .unset] [(.int (1 : Int32))])) _
      refine XS.iloadN X125.here hx rfl (hb hby at_39) rfl ?_
      show Steps p.tables e below (T125.setTop (mkF m 40 #[.val (.int p0), .val (.int (1 : Int32)), .val (.ref a_TRUE), .val (.ref a_FALSE), .unset, .unset, .unset, .unset] [(.int (1 : Int32)), (.int (1 : Int32))])) _
      refine XS.icmpNo X125.here hx rfl (hb hby at_40) rfl (XT.ii_ne_f (by decide)) ?_
      show Steps p.tables e below (T125.setTop (mkF m 43 #[.val (.int p0), .val (.int (1 : Int32)), .val (.ref a_TRUE), .val (.ref a_FALSE), .unset, .unset, .unset, .unset] [])) _
      refine XS.iconst X125.here hx rfl (hb hby at_43) ?_
      show Steps p.tables e below (T125.setTop (mkF m 44 #[.val (.int p0), .val (.int (1 : Int32)), .val (.ref a_TRUE), .val (.ref a_FALSE), .unset, .unset, .unset, .unset] [(.int (1 : Int32))])) _
      refine XS.goto X125.here hx rfl (pc0 := 44) (pc' := 48) rfl (hb hby at_44) (by decide) (by decide) ?_
      show Steps p.tables e below (T125.setTop (mkF m 48 #[.val (.int p0), .val (.int (1 : Int32)), .val (.ref a_TRUE), .val (.ref a_FALSE), .unset, .unset, .unset, .unset] [(.int (1 : Int32))])) _
      refine XS.istore X125.here hx rfl (hb hby at_48) rfl (l' := #[.val (.int p0), .val (.int (1 : Int32)), .val (.ref a_TRUE), .val (.ref a_FALSE), .val (.int (1 : Int32)), .unset, .unset, .unset]) rfl ?_
      show Steps p.tables e below (T125.setTop (mkF m 50 #[.val (.int p0), .val (.int (1 : Int32)), .val (.ref a_TRUE), .val (.ref a_FALSE), .val (.int (1 : Int32)), .unset, .unset, .unset] [])) _
      refine XS.aloadN X125.here hx rfl (hb hby at_50) rfl rfl ?_
      exact kt
    obtain ⟨cq155, kq155, q155a, q155b, q155c⟩ := isOf hZ e125 (G3.ext O0.2)
    obtain ⟨_, _, ⟨T155, L155, k155, n155⟩, -, X155, ⟨Lc155, hQ155, l155, y155, z155⟩, st155⟩ := X125.virtualBack hx (y := (⟨"com/example/contexture/contexture/engine/evaluation/TruthValue", "not", "()Lcom/example/contexture/contexture/engine/evaluation/TruthValue;"⟩ : MethodName)) (z := (⟨"com/example/contexture/contexture/engine/evaluation/TruthValue", "not", "()Lcom/example/contexture/contexture/engine/evaluation/TruthValue;"⟩ : MethodName)) hown (mvT hZ (hw _ (List.mem_of_getElem? (i := 28) rfl))) (mvT hZ (hw _ (List.mem_of_getElem? (i := 29) rfl))) (notFace_of_selects (args := #[]) (mvT hZ (hw _ (List.mem_of_getElem? (i := 31) rfl)))) (mvT hZ (hw _ (List.mem_of_getElem? (i := 31) rfl))) (mvT hZ (hw _ (List.mem_of_getElem? (i := 30) rfl))) (by decide) (backOf (W := 0) (rm_not4_1 l Z a0 hw [] a_TRUE a_FALSE h0 n0 O0 G0 G3 G9) hZ (hw _ (List.mem_of_getElem? (i := 32) rfl)) (hw _ (List.mem_of_getElem? (i := 2) rfl)) (by decide) (by decide)) q155a q155c (g := (mkF m 51 #[.val (.int p0), .val (.int (1 : Int32)), .val (.ref a_TRUE), .val (.ref a_FALSE), .val (.int (1 : Int32)), .unset, .unset, .unset] [(.ref a_TRUE)])) rfl (by rw [hml]; rfl) (Steps.refl _) (argsL := []) (rest := []) (lenOf pd_14 rfl) rfl (by show 2 * 0 + _ ≤ _; exact Nat.le_of_eq rfl) (hb hby at_51) (fun _ _ => ⟨rfl, e125, (by decide : 0 + 0 ≤ _), (by decide : 0 + 0 ≤ _)⟩)
    dsimp only [Pt.U, Pt.locs, Pt.cells, Pt.slots] at X155 l155 y155 z155 st155 hQ155
    subst l155 y155 z155
    obtain ⟨rfl, M155, e155⟩ := hQ155
    have N155 := Fr.app N125 M155
    have pre186 : ∀ t, Steps p.tables e below (T155.setTop (mkF m 54 #[.val (.int p0), .val (.int (1 : Int32)), .val (.ref a_TRUE), .val (.ref a_FALSE), .val (.int (1 : Int32)), .unset, .unset, .unset] [(.ref a_FALSE)])) t → Steps p.tables e below (s₁.setTop (entryFrame m #[(.int p0)] maxLocals)) t := fun t kt => pre154 _ (st155.trans kt)
    have pre187 : ∀ t, Steps p.tables e below (T155.setTop (mkF m 66 #[.val (.int p0), .val (.int (1 : Int32)), .val (.ref a_TRUE), .val (.ref a_FALSE), .val (.int (1 : Int32)), .val (.int (1 : Int32)), .unset, .unset] [(.ref a_TRUE)])) t → Steps p.tables e below (s₁.setTop (entryFrame m #[(.int p0)] maxLocals)) t := fun t kt => by
      refine pre186 _ ?_
      show Steps p.tables e below (T155.setTop (mkF m 54 #[.val (.int p0), .val (.int (1 : Int32)), .val (.ref a_TRUE), .val (.ref a_FALSE), .val (.int (1 : Int32)), .unset, .unset, .unset] [(.ref a_FALSE)])) _
      refine XS.aloadN X155.here hx rfl (hb hby at_54) rfl rfl ?_
      show Steps p.tables e below (T155.setTop (mkF m 55 #[.val (.int p0), .val (.int (1 : Int32)), .val (.ref a_TRUE), .val (.ref a_FALSE), .val (.int (1 : Int32)), .unset, .unset, .unset] [(.ref a_FALSE), (.ref a_FALSE)])) _
      refine Jvm.RoadKit.acmp (g := (mkF m 55 #[.val (.int p0), .val (.int (1 : Int32)), .val (.ref a_TRUE), .val (.ref a_FALSE), .val (.int (1 : Int32)), .unset, .unset, .unset] [(.ref a_FALSE), (.ref a_FALSE)])) X155 hx rfl rfl rfl (pc0 := 55) (pc' := 58) (same := true) rfl (hb hby at_55) rfl (decide_eq_true rfl) (by decide) (by decide) ?_
      show Steps p.tables e below (T155.setTop (mkF m 58 #[.val (.int p0), .val (.int (1 : Int32)), .val (.ref a_TRUE), .val (.ref a_FALSE), .val (.int (1 : Int32)), .unset, .unset, .unset] [])) _
      refine XS.iconst X155.here hx rfl (hb hby at_58) ?_
      show Steps p.tables e below (T155.setTop (mkF m 59 #[.val (.int p0), .val (.int (1 : Int32)), .val (.ref a_TRUE), .val (.ref a_FALSE), .val (.int (1 : Int32)), .unset, .unset, .unset] [(.int (1 : Int32))])) _
      refine XS.goto X155.here hx rfl (pc0 := 59) (pc' := 63) rfl (hb hby at_59) (by decide) (by decide) ?_
      show Steps p.tables e below (T155.setTop (mkF m 63 #[.val (.int p0), .val (.int (1 : Int32)), .val (.ref a_TRUE), .val (.ref a_FALSE), .val (.int (1 : Int32)), .unset, .unset, .unset] [(.int (1 : Int32))])) _
      refine XS.istore X155.here hx rfl (hb hby at_63) rfl (l' := #[.val (.int p0), .val (.int (1 : Int32)), .val (.ref a_TRUE), .val (.ref a_FALSE), .val (.int (1 : Int32)), .val (.int (1 : Int32)), .unset, .unset]) rfl ?_
      show Steps p.tables e below (T155.setTop (mkF m 65 #[.val (.int p0), .val (.int (1 : Int32)), .val (.ref a_TRUE), .val (.ref a_FALSE), .val (.int (1 : Int32)), .val (.int (1 : Int32)), .unset, .unset] [])) _
      refine XS.aloadN X155.here hx rfl (hb hby at_65) rfl rfl ?_
      exact kt
    obtain ⟨T188, X188, e188, st188⟩ := getS2 X155 hx hZ hown (host := "") (Or.inl (hw _ (List.mem_of_getElem? (i := 42) rfl))) Via.refl e155 (G6.ext O0.2) (g := (mkF m 66 #[.val (.int p0), .val (.int (1 : Int32)), .val (.ref a_TRUE), .val (.ref a_FALSE), .val (.int (1 : Int32)), .val (.int (1 : Int32)), .unset, .unset] [(.ref a_TRUE)])) rfl (hb hby at_66)
    have pre189 : ∀ t, Steps p.tables e below (T188.setTop (mkF m 69 #[.val (.int p0), .val (.int (1 : Int32)), .val (.ref a_TRUE), .val (.ref a_FALSE), .val (.int (1 : Int32)), .val (.int (1 : Int32)), .unset, .unset] [(.ref a_UNKNOWN), (.ref a_TRUE)])) t → Steps p.tables e below (s₁.setTop (entryFrame m #[(.int p0)] maxLocals)) t := fun t kt => pre187 _ (st188 _ kt)
    have pre190 : ∀ t, Steps p.tables e below (T188.setTop (mkF m 82 #[.val (.int p0), .val (.int (1 : Int32)), .val (.ref a_TRUE), .val (.ref a_FALSE), .val (.int (1 : Int32)), .val (.int (1 : Int32)), .val (.int (1 : Int32)), .unset] [(.int (1 : Int32)), (.int (1 : Int32)), (.ref a_TRUE)])) t → Steps p.tables e below (s₁.setTop (entryFrame m #[(.int p0)] maxLocals)) t := fun t kt => by
      refine pre189 _ ?_
      show Steps p.tables e below (T188.setTop (mkF m 69 #[.val (.int p0), .val (.int (1 : Int32)), .val (.ref a_TRUE), .val (.ref a_FALSE), .val (.int (1 : Int32)), .val (.int (1 : Int32)), .unset, .unset] [(.ref a_UNKNOWN), (.ref a_TRUE)])) _
      refine Jvm.RoadKit.acmp (g := (mkF m 69 #[.val (.int p0), .val (.int (1 : Int32)), .val (.ref a_TRUE), .val (.ref a_FALSE), .val (.int (1 : Int32)), .val (.int (1 : Int32)), .unset, .unset] [(.ref a_UNKNOWN), (.ref a_TRUE)])) X188 hx rfl rfl rfl (pc0 := 69) (pc' := 72) (same := false) rfl (hb hby at_69) rfl (decide_eq_false fun q => ne_a_TRUE_a_UNKNOWN (Value.ref.inj q)) (by decide) (by decide) ?_
      show Steps p.tables e below (T188.setTop (mkF m 72 #[.val (.int p0), .val (.int (1 : Int32)), .val (.ref a_TRUE), .val (.ref a_FALSE), .val (.int (1 : Int32)), .val (.int (1 : Int32)), .unset, .unset] [])) _
      refine XS.iconst X188.here hx rfl (hb hby at_72) ?_
      show Steps p.tables e below (T188.setTop (mkF m 73 #[.val (.int p0), .val (.int (1 : Int32)), .val (.ref a_TRUE), .val (.ref a_FALSE), .val (.int (1 : Int32)), .val (.int (1 : Int32)), .unset, .unset] [(.int (1 : Int32))])) _
      refine XS.goto X188.here hx rfl (pc0 := 73) (pc' := 77) rfl (hb hby at_73) (by decide) (by decide) ?_
      show Steps p.tables e below (T188.setTop (mkF m 77 #[.val (.int p0), .val (.int (1 : Int32)), .val (.ref a_TRUE), .val (.ref a_FALSE), .val (.int (1 : Int32)), .val (.int (1 : Int32)), .unset, .unset] [(.int (1 : Int32))])) _
      refine XS.istore X188.here hx rfl (hb hby at_77) rfl (l' := #[.val (.int p0), .val (.int (1 : Int32)), .val (.ref a_TRUE), .val (.ref a_FALSE), .val (.int (1 : Int32)), .val (.int (1 : Int32)), .val (.int (1 : Int32)), .unset]) rfl ?_
      show Steps p.tables e below (T188.setTop (mkF m 79 #[.val (.int p0), .val (.int (1 : Int32)), .val (.ref a_TRUE), .val (.ref a_FALSE), .val (.int (1 : Int32)), .val (.int (1 : Int32)), .val (.int (1 : Int32)), .unset] [])) _
      refine XS.aloadN X188.here hx rfl (hb hby at_79) rfl rfl ?_
      show Steps p.tables e below (T188.setTop (mkF m 80 #[.val (.int p0), .val (.int (1 : Int32)), .val (.ref a_TRUE), .val (.ref a_FALSE), .val (.int (1 : Int32)), .val (.int (1 : Int32)), .val (.int (1 : Int32)), .unset] [(.ref a_TRUE)])) _
      refine XS.iloadN X188.here hx rfl (hb hby at_80) rfl ?_
      show Steps p.tables e below (T188.setTop (mkF m 81 #[.val (.int p0), .val (.int (1 : Int32)), .val (.ref a_TRUE), .val (.ref a_FALSE), .val (.int (1 : Int32)), .val (.int (1 : Int32)), .val (.int (1 : Int32)), .unset] [(.int (1 : Int32)), (.ref a_TRUE)])) _
      refine XS.iconst X188.here hx rfl (hb hby at_81) ?_
      exact kt
    obtain ⟨_, _, ⟨T191, L191, k191, n191⟩, -, X191, ⟨Lc191, hQ191, l191, y191, z191⟩, st191⟩ := Jvm.LawKit.callS X188 hx (y := (⟨"com/example/contexture/contexture/engine/evaluation/TruthValue", "reported", "(ZZ)Lcom/example/contexture/contexture/engine/evaluation/TruthValue;"⟩ : MethodName)) hown (mvT hZ (hw _ (List.mem_of_getElem? (i := 44) rfl))) (mvT hZ (hw _ (List.mem_of_getElem? (i := 45) rfl))) (mvT hZ (hw _ (List.mem_of_getElem? (i := 2) rfl))) (mvT hZ (hw _ (List.mem_of_getElem? (i := 46) rfl))) (by decide) (backOf (W := 1) (rm_reported6_1 l Z a0 hw [] a_TRUE h0 n0 O0 G2) hZ (hw _ (List.mem_of_getElem? (i := 46) rfl)) (hw _ (List.mem_of_getElem? (i := 2) rfl)) (by decide) (by decide)) (g := (mkF m 82 #[.val (.int p0), .val (.int (1 : Int32)), .val (.ref a_TRUE), .val (.ref a_FALSE), .val (.int (1 : Int32)), .val (.int (1 : Int32)), .val (.int (1 : Int32)), .unset] [(.int (1 : Int32)), (.int (1 : Int32)), (.ref a_TRUE)])) rfl (by rw [hml]; rfl) (argsL := [(.int (1 : Int32)), (.int (1 : Int32))]) (rest := [(.ref a_TRUE)]) (lenOf pd_16 rfl) rfl (by show 2 * 0 + _ ≤ _; exact Nat.le_of_eq rfl) (hb hby at_82) (fun _ _ => ⟨rfl, e188, (by decide : 0 + 0 ≤ _), (by decide : 0 + 0 ≤ _)⟩)
    dsimp only [Pt.U, Pt.locs, Pt.cells, Pt.slots] at X191 l191 y191 z191 st191 hQ191
    subst l191 y191 z191
    obtain ⟨rfl, M191, e191⟩ := hQ191
    have N191 := Fr.app N155 M191
    have pre204 : ∀ t, Steps p.tables e below (T191.setTop (mkF m 85 #[.val (.int p0), .val (.int (1 : Int32)), .val (.ref a_TRUE), .val (.ref a_FALSE), .val (.int (1 : Int32)), .val (.int (1 : Int32)), .val (.int (1 : Int32)), .unset] [(.ref a_TRUE), (.ref a_TRUE)])) t → Steps p.tables e below (s₁.setTop (entryFrame m #[(.int p0)] maxLocals)) t := fun t kt => pre190 _ (st191 _ kt)
    have pre205 : ∀ t, Steps p.tables e below (T191.setTop (mkF m 120 #[.val (.int p0), .val (.int (1 : Int32)), .val (.ref a_TRUE), .val (.ref a_FALSE), .val (.int (1 : Int32)), .val (.int (1 : Int32)), .val (.int (1 : Int32)), .val (.int (1 : Int32))] [(.int (1 : Int32))])) t → Steps p.tables e below (s₁.setTop (entryFrame m #[(.int p0)] maxLocals)) t := fun t kt => by
      refine pre204 _ ?_
      show Steps p.tables e below (T191.setTop (mkF m 85 #[.val (.int p0), .val (.int (1 : Int32)), .val (.ref a_TRUE), .val (.ref a_FALSE), .val (.int (1 : Int32)), .val (.int (1 : Int32)), .val (.int (1 : Int32)), .unset] [(.ref a_TRUE), (.ref a_TRUE)])) _
      refine Jvm.RoadKit.acmp (g := (mkF m 85 #[.val (.int p0), .val (.int (1 : Int32)), .val (.ref a_TRUE), .val (.ref a_FALSE), .val (.int (1 : Int32)), .val (.int (1 : Int32)), .val (.int (1 : Int32)), .unset] [(.ref a_TRUE), (.ref a_TRUE)])) X191 hx rfl rfl rfl (pc0 := 85) (pc' := 88) (same := true) rfl (hb hby at_85) rfl (decide_eq_true rfl) (by decide) (by decide) ?_
      show Steps p.tables e below (T191.setTop (mkF m 88 #[.val (.int p0), .val (.int (1 : Int32)), .val (.ref a_TRUE), .val (.ref a_FALSE), .val (.int (1 : Int32)), .val (.int (1 : Int32)), .val (.int (1 : Int32)), .unset] [])) _
      refine XS.iconst X191.here hx rfl (hb hby at_88) ?_
      show Steps p.tables e below (T191.setTop (mkF m 89 #[.val (.int p0), .val (.int (1 : Int32)), .val (.ref a_TRUE), .val (.ref a_FALSE), .val (.int (1 : Int32)), .val (.int (1 : Int32)), .val (.int (1 : Int32)), .unset] [(.int (1 : Int32))])) _
      refine XS.goto X191.here hx rfl (pc0 := 89) (pc' := 93) rfl (hb hby at_89) (by decide) (by decide) ?_
      show Steps p.tables e below (T191.setTop (mkF m 93 #[.val (.int p0), .val (.int (1 : Int32)), .val (.ref a_TRUE), .val (.ref a_FALSE), .val (.int (1 : Int32)), .val (.int (1 : Int32)), .val (.int (1 : Int32)), .unset] [(.int (1 : Int32))])) _
      refine XS.istore X191.here hx rfl (hb hby at_93) rfl (l' := #[.val (.int p0), .val (.int (1 : Int32)), .val (.ref a_TRUE), .val (.ref a_FALSE), .val (.int (1 : Int32)), .val (.int (1 : Int32)), .val (.int (1 : Int32)), .val (.int (1 : Int32))]) rfl ?_
      show Steps p.tables e below (T191.setTop (mkF m 95 #[.val (.int p0), .val (.int (1 : Int32)), .val (.ref a_TRUE), .val (.ref a_FALSE), .val (.int (1 : Int32)), .val (.int (1 : Int32)), .val (.int (1 : Int32)), .val (.int (1 : Int32))] [])) _
      refine XS.iload X191.here hx rfl (hb hby at_95) rfl ?_
      show Steps p.tables e below (T191.setTop (mkF m 97 #[.val (.int p0), .val (.int (1 : Int32)), .val (.ref a_TRUE), .val (.ref a_FALSE), .val (.int (1 : Int32)), .val (.int (1 : Int32)), .val (.int (1 : Int32)), .val (.int (1 : Int32))] [(.int (1 : Int32))])) _
      refine XS.ifNo X191.here hx rfl (hb hby at_97) rfl (XT.i0_eq_f (by decide)) ?_
      show Steps p.tables e below (T191.setTop (mkF m 100 #[.val (.int p0), .val (.int (1 : Int32)), .val (.ref a_TRUE), .val (.ref a_FALSE), .val (.int (1 : Int32)), .val (.int (1 : Int32)), .val (.int (1 : Int32)), .val (.int (1 : Int32))] [])) _
      refine XS.iload X191.here hx rfl (hb hby at_100) rfl ?_
      show Steps p.tables e below (T191.setTop (mkF m 102 #[.val (.int p0), .val (.int (1 : Int32)), .val (.ref a_TRUE), .val (.ref a_FALSE), .val (.int (1 : Int32)), .val (.int (1 : Int32)), .val (.int (1 : Int32)), .val (.int (1 : Int32))] [(.int (1 : Int32))])) _
      refine XS.ifNo X191.here hx rfl (hb hby at_102) rfl (XT.i0_eq_f (by decide)) ?_
      show Steps p.tables e below (T191.setTop (mkF m 105 #[.val (.int p0), .val (.int (1 : Int32)), .val (.ref a_TRUE), .val (.ref a_FALSE), .val (.int (1 : Int32)), .val (.int (1 : Int32)), .val (.int (1 : Int32)), .val (.int (1 : Int32))] [])) _
      refine XS.iload X191.here hx rfl (hb hby at_105) rfl ?_
      show Steps p.tables e below (T191.setTop (mkF m 107 #[.val (.int p0), .val (.int (1 : Int32)), .val (.ref a_TRUE), .val (.ref a_FALSE), .val (.int (1 : Int32)), .val (.int (1 : Int32)), .val (.int (1 : Int32)), .val (.int (1 : Int32))] [(.int (1 : Int32))])) _
      refine XS.ifNo X191.here hx rfl (hb hby at_107) rfl (XT.i0_eq_f (by decide)) ?_
      show Steps p.tables e below (T191.setTop (mkF m 110 #[.val (.int p0), .val (.int (1 : Int32)), .val (.ref a_TRUE), .val (.ref a_FALSE), .val (.int (1 : Int32)), .val (.int (1 : Int32)), .val (.int (1 : Int32)), .val (.int (1 : Int32))] [])) _
      refine XS.iload X191.here hx rfl (hb hby at_110) rfl ?_
      show Steps p.tables e below (T191.setTop (mkF m 112 #[.val (.int p0), .val (.int (1 : Int32)), .val (.ref a_TRUE), .val (.ref a_FALSE), .val (.int (1 : Int32)), .val (.int (1 : Int32)), .val (.int (1 : Int32)), .val (.int (1 : Int32))] [(.int (1 : Int32))])) _
      refine XS.ifNo X191.here hx rfl (hb hby at_112) rfl (XT.i0_eq_f (by decide)) ?_
      show Steps p.tables e below (T191.setTop (mkF m 115 #[.val (.int p0), .val (.int (1 : Int32)), .val (.ref a_TRUE), .val (.ref a_FALSE), .val (.int (1 : Int32)), .val (.int (1 : Int32)), .val (.int (1 : Int32)), .val (.int (1 : Int32))] [])) _
      refine XS.iconst X191.here hx rfl (hb hby at_115) ?_
      show Steps p.tables e below (T191.setTop (mkF m 116 #[.val (.int p0), .val (.int (1 : Int32)), .val (.ref a_TRUE), .val (.ref a_FALSE), .val (.int (1 : Int32)), .val (.int (1 : Int32)), .val (.int (1 : Int32)), .val (.int (1 : Int32))] [(.int (1 : Int32))])) _
      refine XS.goto X191.here hx rfl (pc0 := 116) (pc' := 120) rfl (hb hby at_116) (by decide) (by decide) ?_
      exact kt
    obtain ⟨fs, hr, hrun, hended, hW, hsame⟩ := X191.leave (v := some (.int (1 : Int32))) (fun h => by rw [Bd.returns] at h; cases h)
    refine ⟨_, _, pre205 _ (retN X191 hx (t := .boolean) Bd.returns (by simp) (hb hby at_120) hr), hrun, hended, _, _, rfl, ?_, ⟨_, rfl⟩, hW, hsame.mono (by decide) (by decide)⟩
    show Q_law Z p0 a_FALSE a_TRUE a_LOGIC a_UNKNOWN h0 n0 _ T191.heap _
    rw [e191]
    exact ⟨rfl, N191⟩
set_option maxRecDepth 65536 in
set_option maxHeartbeats 40000000 in
theorem comes_1 {Post : Tables → Env → Array Value → State → Outcome → State → Prop} (hpost : ∀ tb e args s v u, (limb_1_1.after args s (.returned v) u = true ∧ limb_1_2.after args s (.returned v) u = true ∧ True) → FrameEnd s (.returned v) u (Jvm.fieldLocs frame_1_writes args s ++ Jvm.arrayLocs frame_1_arrays args s ++ Jvm.staticLocs frame_1_statics s) 0 0 → Post tb e args s (.returned v) u) :
    ArmFor flags0 classFile x code maxLocals ret World_1 tables_1 room_1 Calls_1 rest_1 Pre_1 Post := by
  intro l hfl _ _ p e ha hc hk s m args below hf hA hF happ hP
  obtain ⟨hcalls, hrest, hpre⟩ := hP
  obtain ⟨-, -, -, hnamed, -, -, -, hat⟩ := (Spec.applies_iff hf).mp happ
  obtain ⟨hg, hn⟩ := and_e (Cond.before_iff.mp (show (Jvm.Cond.and given_1 narrow_1).before args s = true from hpre))
  obtain ⟨given_1_2, given_1_3⟩ := and_e hg
  obtain ⟨narrow_1_2, narrow_1_3⟩ := and_e hn
  obtain ⟨narrow_1_4, narrow_1_5⟩ := and_e narrow_1_3
  obtain ⟨narrow_1_6, narrow_1_7⟩ := and_e narrow_1_5
  obtain ⟨narrow_1_8, narrow_1_9⟩ := and_e narrow_1_7
  obtain ⟨narrow_1_10, narrow_1_11⟩ := and_e narrow_1_9
  obtain ⟨narrow_1_12, narrow_1_13⟩ := and_e narrow_1_11
  obtain ⟨w0, rfl⟩ : ∃ w0 : Value, args = #[w0] := by
    have hs : args.size = 1 := by simpa [Cond.value, given_1] using given_1_2
    obtain ⟨L⟩ := args
    match L, hs with
    | [w0], _ => exact ⟨w0, rfl⟩
  have hw := fun d (hd : d ∈ tables_1) => atoms_spec (ws := Jvm.Cond.code x code maxLocals ret :: tables_1) hat d (List.mem_cons_of_mem _ hd)
  have hfit : Fit s := fun {y c} hc i hi => by
    obtain ⟨ha, rfl⟩ := Array.getElem?_eq_some_iff.mp hc
    have q := List.all_eq_true.mp ((Array.all_eq_true_iff_forall_mem.mp hF) _ (Array.getElem_mem ha)) i (List.mem_range.mpr hi)
    simpa [Array.getElem?_eq_getElem hi] using q
  obtain ⟨i0, ei0⟩ := is_v given_1_3
  obtain rfl : w0 = (.int i0) := Option.some.inj ei0
  obtain ⟨a_FALSE, ev_FALSE⟩ := exa_v narrow_1_2
  have S_FALSE : Sta s s.heap "com/example/contexture/contexture/engine/evaluation/TruthValue" "FALSE" "Lcom/example/contexture/contexture/engine/evaluation/TruthValue;" (.ref a_FALSE) := Sta.start ev_FALSE (Or.inr ⟨(hw _ (List.mem_of_getElem? (i := 2) rfl)), (hw _ (List.mem_of_getElem? (i := 5) rfl))⟩)
  have E_FALSE : Exa s s.heap a_FALSE "com/example/contexture/contexture/engine/evaluation/TruthValue" := Exa.start ev_FALSE narrow_1_2
  obtain ⟨a_TRUE, ev_TRUE⟩ := exa_v narrow_1_4
  have S_TRUE : Sta s s.heap "com/example/contexture/contexture/engine/evaluation/TruthValue" "TRUE" "Lcom/example/contexture/contexture/engine/evaluation/TruthValue;" (.ref a_TRUE) := Sta.start ev_TRUE (Or.inr ⟨(hw _ (List.mem_of_getElem? (i := 2) rfl)), (hw _ (List.mem_of_getElem? (i := 7) rfl))⟩)
  have E_TRUE : Exa s s.heap a_TRUE "com/example/contexture/contexture/engine/evaluation/TruthValue" := Exa.start ev_TRUE narrow_1_4
  obtain ⟨a_LOGIC, ev_LOGIC⟩ := exa_v narrow_1_6
  have S_LOGIC : Sta s s.heap "com/example/contexture/contexture/engine/evaluation/TruthValue" "LOGIC" "Lcom/example/contexture/contexture/engine/evaluation/Logic;" (.ref a_LOGIC) := Sta.start ev_LOGIC (Or.inr ⟨(hw _ (List.mem_of_getElem? (i := 2) rfl)), (hw _ (List.mem_of_getElem? (i := 9) rfl))⟩)
  have E_LOGIC : Exa s s.heap a_LOGIC "com/example/contexture/contexture/engine/evaluation/TruthValue$1" := Exa.start ev_LOGIC narrow_1_6
  obtain ⟨a_UNKNOWN, ev_UNKNOWN⟩ := exa_v narrow_1_12
  have S_UNKNOWN : Sta s s.heap "com/example/contexture/contexture/engine/evaluation/TruthValue" "UNKNOWN" "Lcom/example/contexture/contexture/engine/evaluation/TruthValue;" (.ref a_UNKNOWN) := Sta.start ev_UNKNOWN (Or.inr ⟨(hw _ (List.mem_of_getElem? (i := 2) rfl)), (hw _ (List.mem_of_getElem? (i := 43) rfl))⟩)
  have E_UNKNOWN : Exa s s.heap a_UNKNOWN "com/example/contexture/contexture/engine/evaluation/TruthValue" := Exa.start ev_UNKNOWN narrow_1_12
  have P_FALSE_ordinal : Fld s s.heap a_FALSE "java/lang/Enum" "ordinal" "I" (.int (1 : Int32)) := own_fldI ev_FALSE narrow_1_8
  have P_TRUE_ordinal : Fld s s.heap a_TRUE "java/lang/Enum" "ordinal" "I" (.int (0 : Int32)) := own_fldI ev_TRUE narrow_1_10
  have P_UNKNOWN_ordinal : Fld s s.heap a_UNKNOWN "java/lang/Enum" "ordinal" "I" (.int (2 : Int32)) := own_fldI ev_UNKNOWN narrow_1_13
  obtain ⟨n, o, h1, h2, h3, _, L, rfl, ⟨rfl, N⟩, hq⟩ := rm_law l s _ hw tables_1 i0 a_FALSE a_TRUE a_LOGIC a_UNKNOWN s.heap s.heap.size (Old.start s) S_FALSE E_FALSE S_TRUE E_TRUE S_LOGIC E_LOGIC S_UNKNOWN E_UNKNOWN P_FALSE_ordinal P_TRUE_ordinal P_UNKNOWN_ordinal p e ha hc hk s m _ below hf ((Spec.applies_iff_loose hf).mp happ).1 ⟨rfl, State.Warmed39.refl s, rfl⟩ trivial
  refine ⟨n, _, h1, h2, h3, hpost _ _ _ _ _ _ ⟨Cond.after_iff.mpr rfl, Cond.after_iff.mpr (eq_i res_at (Term.int_eval (1)) rfl), trivial⟩ ⟨hq.1, hq.2.1, (hq.2.2.sift fun y hy => Or.inr (N y hy)).mono (by decide) (by decide)⟩⟩
theorem main_1_1 : Claimed_1_1 := comes_1 fun _ _ _ _ _ _ h hF => ⟨h.1, hF⟩
theorem main_1_2 : Claimed_1_2 := comes_1 fun _ _ _ _ _ _ h hF => ⟨h.2.1, hF⟩
end Jvm.Pilot.@@N@@
namespace Jvm.Pilot.@@N@@
open Jvm Jvm.ClassFile Sem Op Lib Jvm.Free Jvm.Stand Jvm.Pilot.@@N@@.Jvm.D
/-! MADE BY PROGRAM (witnessworld.py) out of the Statement's table words and the real class files: 12 classes; the members and pool entries that the words name. The judged class is class 1, her method 1. -/
namespace start1
open Jvm.ClassFile
def u (s : String) : CpInfo := .utf8 (stringToUtf16 s)
/-- a pool by its gaps: so many unusable entries, then the entry; so many at the end -/
def gap : Nat → List CpInfo → List CpInfo
  | 0, r => r
  | n + 1, r => .unusable :: gap n r
def poolList (es : List (Nat × CpInfo)) (last : Nat) : List CpInfo := es.foldr (fun e r => gap e.1 (e.2 :: r)) (gap last [])
def pool (es : List (Nat × CpInfo)) (last : Nat) : Array CpInfo := ⟨poolList es last⟩
def fileOf (pool : Array CpInfo) (this : Nat) (attrs : Array Attribute := #[]) (ms : Array MethodInfo := #[]) (fl : Nat := 33) (sup : Nat := 0) (ifs : Array Nat := #[]) (fds : Array FieldInfo := #[]) : ClassFile where
  minorVersion := 0
  majorVersion := 65
  constantPool := pool
  accessFlags := fl
  thisClass := this
  superClass := sup
  interfaces := ifs
  fields := fds
  methods := ms
  attributes := attrs
def plain (name : String) (sup : Option ClassId) : Class where
  name := name
  kind := .ordinary
  loader := none
  accessFlags := 33
  super := sup
  interfaces := #[]
  cf := none
  fields := #[]
  methods := #[]
  instanceTypes := #[]
  staticTypes := #[]
  resolved := #[]
  callSites := []
  init := .initialized
  statics := none
  mirror := none

def pool0 : Array CpInfo := pool [(5, u "<init>"), (0, u "()V"), (1, .class_ 10), (1, u "java/lang/Object")] 113

def k0m0 : Method := { name := "<init>", desc := "()V", sig := { parameters := [], returnType := none }, accessFlags := 1, code := none }
/-- java/lang/Object -/
def k0 : Class := { plain "java/lang/Object" none with
  accessFlags := 33
  interfaces := #[]
  cf := some (fileOf pool0 8 #[] #[{ accessFlags := 1, nameIndex := 5, descriptorIndex := 6, attributes := #[] }] 33 0 #[] #[])
  fields := #[]
  methods := #[k0m0]
  instanceTypes := #[]
  staticTypes := #[]
  resolved := Array.replicate 124 none
  statics := none }

def pool1 : Array CpInfo := pool [(2, .class_ 4), (1, u "java/lang/Object"), (0, u "<init>"), (0, u "()V"), (0, .methodref 8 9), (0, .class_ 10), (0, .nameAndType 11 12), (0, u "com/example/contexture/contexture/engine/evaluation/TruthValue"), (0, u "of"), (0, u "(Z)Lcom/example/contexture/contexture/engine/evaluation/TruthValue;"), (0, .fieldref 8 14), (0, .nameAndType 15 16), (0, u "LOGIC"), (0, u "Lcom/example/contexture/contexture/engine/evaluation/Logic;"), (0, .interfaceMethodref 18 19), (0, .class_ 20), (0, .nameAndType 21 22), (0, u "com/example/contexture/contexture/engine/evaluation/Logic"), (0, u "settlesOr"), (0, u "(Ljava/lang/Object;)Z"), (0, .methodref 8 24), (0, .nameAndType 25 26), (0, u "not"), (0, u "()Lcom/example/contexture/contexture/engine/evaluation/TruthValue;"), (0, .fieldref 8 28), (0, .nameAndType 29 30), (0, u "UNKNOWN"), (0, u "Lcom/example/contexture/contexture/engine/evaluation/TruthValue;"), (0, .methodref 8 32), (0, .nameAndType 33 34), (0, u "reported"), (0, u "(ZZ)Lcom/example/contexture/contexture/engine/evaluation/TruthValue;"), (0, .class_ 36), (0, u "com/example/contexture/contexture/engine/evaluation/TruthValueOfPinLaw"), (2, u "law"), (0, u "(I)Z")] 3

def k1m0 : Method := { name := "<init>", desc := "()V", sig := { parameters := [], returnType := none }, accessFlags := 1, code := none }
def k1c1 : Code := { maxStack := 3, maxLocals := 8, code := code, exceptionTable := #[], attributes := #[] }
def k1m1 : Method := { name := "law", desc := "(I)Z", sig := { parameters := [.int], returnType := some .boolean }, accessFlags := 9, code := some k1c1 }
/-- com/example/contexture/contexture/engine/evaluation/TruthValueOfPinLaw -/
def k1 : Class := { plain "com/example/contexture/contexture/engine/evaluation/TruthValueOfPinLaw" (some 0) with
  accessFlags := 49
  interfaces := #[]
  cf := some (fileOf pool1 35 #[] #[{ accessFlags := 1, nameIndex := 5, descriptorIndex := 6, attributes := #[] }, { accessFlags := 9, nameIndex := 39, descriptorIndex := 40, attributes := #[] }] 49 2 #[] #[])
  fields := #[]
  methods := #[k1m0, k1m1]
  instanceTypes := #[]
  staticTypes := #[]
  resolved := Array.replicate 44 none
  statics := none }

def pool2 : Array CpInfo := pool [(1, .class_ 2), (0, u "java/lang/constant/Constable"), (0, .class_ 4), (0, u "java/lang/Object")] 6

/-- java/lang/constant/Constable -/
def k2 : Class := { plain "java/lang/constant/Constable" (some 0) with
  accessFlags := 1537
  interfaces := #[]
  cf := some (fileOf pool2 1 #[] #[] 1537 3 #[] #[])
  fields := #[]
  methods := #[]
  instanceTypes := #[]
  staticTypes := #[]
  resolved := Array.replicate 11 none
  statics := none }

def pool3 : Array CpInfo := pool [(1, .class_ 2), (0, u "java/lang/Comparable"), (0, .class_ 4), (0, u "java/lang/Object")] 7

/-- java/lang/Comparable -/
def k3 : Class := { plain "java/lang/Comparable" (some 0) with
  accessFlags := 1537
  interfaces := #[]
  cf := some (fileOf pool3 1 #[] #[] 1537 3 #[] #[])
  fields := #[]
  methods := #[]
  instanceTypes := #[]
  staticTypes := #[]
  resolved := Array.replicate 12 none
  statics := none }

def pool4 : Array CpInfo := pool [(1, .class_ 2), (0, u "java/io/Serializable"), (0, .class_ 4), (0, u "java/lang/Object")] 2

/-- java/io/Serializable -/
def k4 : Class := { plain "java/io/Serializable" (some 0) with
  accessFlags := 1537
  interfaces := #[]
  cf := some (fileOf pool4 1 #[] #[] 1537 3 #[] #[])
  fields := #[]
  methods := #[]
  instanceTypes := #[]
  staticTypes := #[]
  resolved := Array.replicate 7 none
  statics := none }

def pool5 : Array CpInfo := pool [(2, .class_ 4), (1, u "java/lang/Enum"), (0, u "name"), (0, u "Ljava/lang/String;"), (0, .fieldref 2 8), (0, .nameAndType 9 10), (0, u "ordinal"), (0, u "I"), (1, .class_ 14), (1, u "java/lang/Object"), (4, u "hash"), (86, .class_ 108), (1, u "java/lang/Enum$EnumDesc"), (2, .class_ 112), (0, u "java/lang/constant/Constable"), (0, .class_ 114), (0, u "java/lang/Comparable"), (0, .class_ 116), (0, u "java/io/Serializable"), (9, u "()I")] 77

def k5c0 : Code := { maxStack := 1, maxLocals := 1, code := jdk_37_method_2_code, exceptionTable := #[], attributes := #[] }
def k5m0 : Method := { name := "ordinal", desc := "()I", sig := { parameters := [], returnType := some .int }, accessFlags := 17, code := some k5c0 }
/-- java/lang/Enum -/
def k5 : Class := { plain "java/lang/Enum" (some 0) with
  accessFlags := 1057
  interfaces := #[2, 3, 4]
  cf := some (fileOf pool5 2 #[.nestMembers #[106]] #[{ accessFlags := 17, nameIndex := 9, descriptorIndex := 126, attributes := #[] }] 1057 12 #[111, 113, 115] #[{ accessFlags := 18, nameIndex := 5, descriptorIndex := 6, attributes := #[] }, { accessFlags := 18, nameIndex := 9, descriptorIndex := 10, attributes := #[] }, { accessFlags := 2, nameIndex := 19, descriptorIndex := 10, attributes := #[] }])
  fields := #[{ name := "name", type := (.object "java/lang/String"), accessFlags := 18, slot := 0, constantValue := 0 }, { name := "ordinal", type := .int, accessFlags := 18, slot := 1, constantValue := 0 }, { name := "hash", type := .int, accessFlags := 2, slot := 2, constantValue := 0 }]
  methods := #[k5m0]
  instanceTypes := #[(.object "java/lang/String"), .int, .int]
  staticTypes := #[]
  resolved := Array.replicate 204 none
  statics := none }

def pool6 : Array CpInfo := pool [(1, .class_ 2), (0, u "com/example/contexture/contexture/engine/evaluation/TruthValue"), (0, .fieldref 1 4), (0, .nameAndType 5 6), (0, u "TRUE"), (0, u "Lcom/example/contexture/contexture/engine/evaluation/TruthValue;"), (0, .fieldref 1 8), (0, .nameAndType 9 6), (0, u "FALSE"), (2, u "UNKNOWN"), (2, u "$VALUES"), (0, u "[Lcom/example/contexture/contexture/engine/evaluation/TruthValue;"), (6, .class_ 25), (1, u "java/lang/Enum"), (6, .methodref 1 33), (0, .nameAndType 34 35), (0, u "ordinal"), (0, u "()I"), (13, .class_ 50), (0, u "com/example/contexture/contexture/engine/evaluation/TruthValue$1"), (5, u "LOGIC"), (0, u "Lcom/example/contexture/contexture/engine/evaluation/Logic;"), (7, u "of"), (0, u "(Z)Lcom/example/contexture/contexture/engine/evaluation/TruthValue;"), (1, u "reported"), (0, u "(ZZ)Lcom/example/contexture/contexture/engine/evaluation/TruthValue;"), (0, u "not"), (0, u "()Lcom/example/contexture/contexture/engine/evaluation/TruthValue;"), (5, .class_ 78), (0, u "com/example/contexture/contexture/engine/evaluation/TruthValue$Tally")] 2

def k6c0 : Code := { maxStack := 1, maxLocals := 1, code := prog_14_method_4_code, exceptionTable := #[], attributes := #[] }
def k6m0 : Method := { name := "of", desc := "(Z)Lcom/example/contexture/contexture/engine/evaluation/TruthValue;", sig := { parameters := [.boolean], returnType := some (.object "com/example/contexture/contexture/engine/evaluation/TruthValue") }, accessFlags := 9, code := some k6c0 }
def k6c1 : Code := { maxStack := 1, maxLocals := 3, code := prog_14_method_5_code, exceptionTable := #[], attributes := #[] }
def k6m1 : Method := { name := "reported", desc := "(ZZ)Lcom/example/contexture/contexture/engine/evaluation/TruthValue;", sig := { parameters := [.boolean, .boolean], returnType := some (.object "com/example/contexture/contexture/engine/evaluation/TruthValue") }, accessFlags := 9, code := some k6c1 }
def k6c2 : Code := { maxStack := 4, maxLocals := 1, code := prog_14_method_6_code, exceptionTable := #[], attributes := #[] }
def k6m2 : Method := { name := "not", desc := "()Lcom/example/contexture/contexture/engine/evaluation/TruthValue;", sig := { parameters := [], returnType := some (.object "com/example/contexture/contexture/engine/evaluation/TruthValue") }, accessFlags := 0, code := some k6c2 }
/-- com/example/contexture/contexture/engine/evaluation/TruthValue -/
def k6 : Class := { plain "com/example/contexture/contexture/engine/evaluation/TruthValue" (some 5) with
  accessFlags := 16433
  interfaces := #[]
  cf := some (fileOf pool6 1 #[.nestMembers #[77, 49]] #[{ accessFlags := 9, nameIndex := 65, descriptorIndex := 66, attributes := #[] }, { accessFlags := 9, nameIndex := 68, descriptorIndex := 69, attributes := #[] }, { accessFlags := 0, nameIndex := 70, descriptorIndex := 71, attributes := #[] }] 16433 23 #[] #[{ accessFlags := 16409, nameIndex := 5, descriptorIndex := 6, attributes := #[] }, { accessFlags := 16409, nameIndex := 9, descriptorIndex := 6, attributes := #[] }, { accessFlags := 16409, nameIndex := 12, descriptorIndex := 6, attributes := #[] }, { accessFlags := 25, nameIndex := 56, descriptorIndex := 57, attributes := #[] }, { accessFlags := 4122, nameIndex := 15, descriptorIndex := 16, attributes := #[] }])
  fields := #[{ name := "TRUE", type := (.object "com/example/contexture/contexture/engine/evaluation/TruthValue"), accessFlags := 16409, slot := 0, constantValue := 0 }, { name := "FALSE", type := (.object "com/example/contexture/contexture/engine/evaluation/TruthValue"), accessFlags := 16409, slot := 1, constantValue := 0 }, { name := "UNKNOWN", type := (.object "com/example/contexture/contexture/engine/evaluation/TruthValue"), accessFlags := 16409, slot := 2, constantValue := 0 }, { name := "LOGIC", type := (.object "com/example/contexture/contexture/engine/evaluation/Logic"), accessFlags := 25, slot := 3, constantValue := 0 }, { name := "$VALUES", type := (.array (.object "com/example/contexture/contexture/engine/evaluation/TruthValue")), accessFlags := 4122, slot := 4, constantValue := 0 }]
  methods := #[k6m0, k6m1, k6m2]
  instanceTypes := #[(.object "java/lang/String"), .int, .int]
  staticTypes := #[(.object "com/example/contexture/contexture/engine/evaluation/TruthValue"), (.object "com/example/contexture/contexture/engine/evaluation/TruthValue"), (.object "com/example/contexture/contexture/engine/evaluation/TruthValue"), (.object "com/example/contexture/contexture/engine/evaluation/Logic"), (.array (.object "com/example/contexture/contexture/engine/evaluation/TruthValue"))]
  resolved := Array.replicate 81 none
  statics := some 0 }

def pool7 : Array CpInfo := pool [(1, .class_ 2), (0, u "com/example/contexture/contexture/engine/evaluation/Logic"), (0, .class_ 4), (0, u "java/lang/Object"), (9, u "(Ljava/lang/Object;)Z"), (1, u "settlesOr"), (7, .class_ 25), (0, u "com/example/contexture/contexture/engine/evaluation/Logic$Tally")] 2

def k7m0 : Method := { name := "settlesOr", desc := "(Ljava/lang/Object;)Z", sig := { parameters := [(.object "java/lang/Object")], returnType := some .boolean }, accessFlags := 1025, code := none }
/-- com/example/contexture/contexture/engine/evaluation/Logic -/
def k7 : Class := { plain "com/example/contexture/contexture/engine/evaluation/Logic" (some 0) with
  accessFlags := 1537
  interfaces := #[]
  cf := some (fileOf pool7 1 #[.nestMembers #[24]] #[{ accessFlags := 1025, nameIndex := 16, descriptorIndex := 14, attributes := #[] }] 1537 3 #[] #[])
  fields := #[]
  methods := #[k7m0]
  instanceTypes := #[]
  staticTypes := #[]
  resolved := Array.replicate 28 none
  statics := none }

def pool8 : Array CpInfo := pool [(2, .class_ 4), (1, u "java/lang/Object"), (0, u "<init>"), (0, u "()V"), (1, .class_ 10), (1, u "com/example/contexture/contexture/engine/evaluation/TruthValue"), (1, u "Lcom/example/contexture/contexture/engine/evaluation/TruthValue;"), (0, .fieldref 8 14), (0, .nameAndType 15 12), (0, u "TRUE"), (10, .methodref 27 28), (0, .class_ 29), (0, .nameAndType 30 31), (0, u "com/example/contexture/contexture/engine/evaluation/TruthValue$1"), (0, u "settlesOr"), (0, u "(Lcom/example/contexture/contexture/engine/evaluation/TruthValue;)Z"), (12, .class_ 45), (0, u "com/example/contexture/contexture/engine/evaluation/Logic"), (7, u "(Ljava/lang/Object;)Z")] 12

def k8m0 : Method := { name := "<init>", desc := "()V", sig := { parameters := [], returnType := none }, accessFlags := 0, code := none }
def k8c1 : Code := { maxStack := 2, maxLocals := 2, code := prog_15_method_6_code, exceptionTable := #[], attributes := #[] }
def k8m1 : Method := { name := "settlesOr", desc := "(Lcom/example/contexture/contexture/engine/evaluation/TruthValue;)Z", sig := { parameters := [(.object "com/example/contexture/contexture/engine/evaluation/TruthValue")], returnType := some .boolean }, accessFlags := 1, code := some k8c1 }
def k8c2 : Code := { maxStack := 2, maxLocals := 2, code := prog_15_method_8_code, exceptionTable := #[], attributes := #[] }
def k8m2 : Method := { name := "settlesOr", desc := "(Ljava/lang/Object;)Z", sig := { parameters := [(.object "java/lang/Object")], returnType := some .boolean }, accessFlags := 4161, code := some k8c2 }
/-- com/example/contexture/contexture/engine/evaluation/TruthValue$1 -/
def k8 : Class := { plain "com/example/contexture/contexture/engine/evaluation/TruthValue$1" (some 0) with
  accessFlags := 32
  interfaces := #[7]
  cf := some (fileOf pool8 27 #[.nestHost 8] #[{ accessFlags := 0, nameIndex := 5, descriptorIndex := 6, attributes := #[] }, { accessFlags := 1, nameIndex := 30, descriptorIndex := 31, attributes := #[] }, { accessFlags := 4161, nameIndex := 30, descriptorIndex := 53, attributes := #[] }] 32 2 #[44] #[])
  fields := #[]
  methods := #[k8m0, k8m1, k8m2]
  instanceTypes := #[]
  staticTypes := #[]
  resolved := Array.replicate 66 none
  statics := none }

def pool9 : Array CpInfo := pool [(1, u "java/lang/Cloneable"), (0, .class_ 1), (0, u "java/lang/Object"), (0, .class_ 3)] 3

/-- java/lang/Cloneable -/
def k9 : Class := { plain "java/lang/Cloneable" (some 0) with
  accessFlags := 1537
  interfaces := #[]
  cf := some (fileOf pool9 2 #[] #[] 1537 4 #[] #[])
  fields := #[]
  methods := #[]
  instanceTypes := #[]
  staticTypes := #[]
  resolved := Array.replicate 8 none
  statics := none }

/-- the primitive byte -/
def k10 : Class := { plain "byte" none with kind := .primitive 'B', accessFlags := 0x411 }
/-- [B -/
def k11 : Class := { plain "[B" (some 0) with kind := .array 10 .byte, interfaces := #[9, 4], accessFlags := 1041 }

def heap : Heap := #[{ cls := 6, slots := #[.ref 2, .ref 1, .ref 4, .ref 3, .null], vm := .statics 6 },
  { cls := 6, slots := #[.null, .int 1, .int 0], vm := .none },
  { cls := 6, slots := #[.null, .int 0, .int 0], vm := .none },
  { cls := 8, slots := #[], vm := .none },
  { cls := 6, slots := #[.null, .int 2, .int 0], vm := .none }]
def classes : Array Class := #[k0, k1, k2, k3, k4, k5, k6, k7, k8, k9, k10, k11]
def interned : List (Array UInt16 × Addr) := []
def slotsUsed : Nat := 14
def theMethod : MethodId := ⟨1, 1⟩
def args0 : Array Value := #[.int 5]
def aboutOver (below : List Frame) : State where
  vm := { classes := classes, interned := interned.toArray }
  heap := heap
  slotsUsed := slotsUsed
  threads := #[{ frames := .invoking theMethod args0 :: below }]
def below0 : List Frame := [.native { method := ⟨0, 0⟩, args := #[] }]
def about1 : State := aboutOver below0
def p0 : Program := .bare "" "" ""
def e0 : Env := launch0.env 0 0 0
theorem w_frames : about1.frames = Frame.invoking theMethod args0 :: below0 := rfl
set_option maxRecDepth 65536 in
theorem w_args : argsFit about1.vm theMethod args0 = true := by decide +kernel
set_option maxRecDepth 65536 in
theorem w_heap : heapFits about1 = true := by decide +kernel
set_option maxRecDepth 65536 in
theorem w_runnable : about1.curStatus? = some .runnable := by decide +kernel
set_option maxRecDepth 65536 in
theorem w_alone : about1.alone = true := by decide +kernel
set_option maxRecDepth 65536 in
theorem w_named : about1.methodNamed? x = some theMethod := by decide +kernel
set_option maxRecDepth 65536 in
theorem w_hears : about1.hears theMethod below0 = true := by decide +kernel
set_option maxRecDepth 65536 in
theorem w_ripe : about1.ripe theMethod args0 below0 = true := by decide +kernel
theorem w_running : about1.status = .running := rfl
set_option maxRecDepth 65536 in
theorem w_room : about1.hasRoom e0.platform room_1 = true :=
  launch0.hasRoom_least _ room_1 (by decide +kernel) (by decide +kernel) (by decide +kernel) (by decide +kernel) (by decide +kernel) (by decide +kernel)
theorem allAtoms_all (ts : List Jvm.Cond) (a : Array Jvm.Value) (st : Jvm.State) : (allAtoms ts).before a st = ts.all (fun c => c.before a st) := by
  induction ts with
  | nil => rfl
  | cons c t ih =>
    show (Jvm.Cond.and c (allAtoms t)).before a st = _
    rw [Jvm.Cond.before_and, ih, List.all_cons]
def words1 : List Jvm.Cond := Jvm.Cond.code x code maxLocals ret :: tables_1
/-- a 'code' word, met by the world's own term for the bytes: nothing is compared byte by byte -/
theorem code_word {y : MethodName} {bytes : ByteArray} {mx : Nat} {rt : Option FieldType} {a : Array Value} {s : State} {m : MethodId} {meth : Method} {c : Code} (h1 : s.methodNamed? y = some m) (h2 : s.vm.method? m = some meth) (h3 : meth.code = some c) (h4 : c.code = bytes)
    (h5 : (c.maxLocals == mx && c.exceptionTable.isEmpty && decide (c.maxStack ≤ mostOperands) && decide (meth.sig.returnType = rt) && !meth.locks && decide (parseMethodDescriptor y.desc = some meth.sig)) = true) : (Jvm.Cond.code y bytes mx rt).before a s = true := by
  simp only [Bool.and_eq_true, beq_iff_eq, Bool.not_eq_true', decide_eq_true_eq] at h5
  obtain ⟨⟨⟨⟨⟨g1, g2⟩, g3⟩, g4⟩, g5⟩, g6⟩ := h5
  simp [Cond.before, Cond.holds, Cond.value, h1, h2, h3, h4, g1, g2, g3, g4, g5, g6]
def isCode : Jvm.Cond → Bool
  | .code _ _ _ _ => true
  | _ => false
theorem all_split {L : List Jvm.Cond} {P : Jvm.Cond → Bool} (h1 : L.all (fun c => isCode c || P c) = true) (h2 : ∀ c ∈ L.filter isCode, P c = true) : L.all P = true := by
  refine List.all_eq_true.mpr fun c hc => ?_
  have h := List.all_eq_true.mp h1 c hc
  rcases Bool.eq_false_or_eq_true (isCode c) with hi | hi
  · exact h2 c (List.mem_filter.mpr ⟨hc, hi⟩)
  · simpa [hi] using h
set_option maxRecDepth 65536 in
theorem w_c0 : (Jvm.Cond.code x code maxLocals ret).before args0 about1 = true := code_word (m := ⟨1, 1⟩) (meth := k1m1) (c := k1c1) (by decide +kernel) rfl rfl rfl (by decide +kernel)
set_option maxRecDepth 65536 in
theorem w_c1 : (Jvm.Cond.code ({ cls := "com/example/contexture/contexture/engine/evaluation/TruthValue", name := "of", desc := "(Z)Lcom/example/contexture/contexture/engine/evaluation/TruthValue;" } : Jvm.MethodName) prog_14_method_4_code (1 : Nat) (Option.some (Jvm.ClassFile.FieldType.object "com/example/contexture/contexture/engine/evaluation/TruthValue"))).before args0 about1 = true := code_word (m := ⟨6, 0⟩) (meth := k6m0) (c := k6c0) (by decide +kernel) rfl rfl rfl (by decide +kernel)
set_option maxRecDepth 65536 in
theorem w_c2 : (Jvm.Cond.code ({ cls := "com/example/contexture/contexture/engine/evaluation/TruthValue$1", name := "settlesOr", desc := "(Ljava/lang/Object;)Z" } : Jvm.MethodName) prog_15_method_8_code (2 : Nat) (Option.some Jvm.ClassFile.FieldType.boolean)).before args0 about1 = true := code_word (m := ⟨8, 2⟩) (meth := k8m2) (c := k8c2) (by decide +kernel) rfl rfl rfl (by decide +kernel)
set_option maxRecDepth 65536 in
theorem w_c3 : (Jvm.Cond.code ({ cls := "com/example/contexture/contexture/engine/evaluation/TruthValue$1", name := "settlesOr", desc := "(Lcom/example/contexture/contexture/engine/evaluation/TruthValue;)Z" } : Jvm.MethodName) prog_15_method_6_code (2 : Nat) (Option.some Jvm.ClassFile.FieldType.boolean)).before args0 about1 = true := code_word (m := ⟨8, 1⟩) (meth := k8m1) (c := k8c1) (by decide +kernel) rfl rfl rfl (by decide +kernel)
set_option maxRecDepth 65536 in
theorem w_c4 : (Jvm.Cond.code ({ cls := "com/example/contexture/contexture/engine/evaluation/TruthValue", name := "not", desc := "()Lcom/example/contexture/contexture/engine/evaluation/TruthValue;" } : Jvm.MethodName) prog_14_method_6_code (1 : Nat) (Option.some (Jvm.ClassFile.FieldType.object "com/example/contexture/contexture/engine/evaluation/TruthValue"))).before args0 about1 = true := code_word (m := ⟨6, 2⟩) (meth := k6m2) (c := k6c2) (by decide +kernel) rfl rfl rfl (by decide +kernel)
set_option maxRecDepth 65536 in
theorem w_c5 : (Jvm.Cond.code ({ cls := "java/lang/Enum", name := "ordinal", desc := "()I" } : Jvm.MethodName) jdk_37_method_2_code (1 : Nat) (Option.some Jvm.ClassFile.FieldType.int)).before args0 about1 = true := code_word (m := ⟨5, 0⟩) (meth := k5m0) (c := k5c0) (by decide +kernel) rfl rfl rfl (by decide +kernel)
set_option maxRecDepth 65536 in
theorem w_c6 : (Jvm.Cond.code ({ cls := "com/example/contexture/contexture/engine/evaluation/TruthValue", name := "reported", desc := "(ZZ)Lcom/example/contexture/contexture/engine/evaluation/TruthValue;" } : Jvm.MethodName) prog_14_method_5_code (3 : Nat) (Option.some (Jvm.ClassFile.FieldType.object "com/example/contexture/contexture/engine/evaluation/TruthValue"))).before args0 about1 = true := code_word (m := ⟨6, 1⟩) (meth := k6m1) (c := k6c1) (by decide +kernel) rfl rfl rfl (by decide +kernel)
def codes1 : List Jvm.Cond := [Jvm.Cond.code x code maxLocals ret, Jvm.Cond.code ({ cls := "com/example/contexture/contexture/engine/evaluation/TruthValue", name := "of", desc := "(Z)Lcom/example/contexture/contexture/engine/evaluation/TruthValue;" } : Jvm.MethodName) prog_14_method_4_code (1 : Nat) (Option.some (Jvm.ClassFile.FieldType.object "com/example/contexture/contexture/engine/evaluation/TruthValue")), Jvm.Cond.code ({ cls := "com/example/contexture/contexture/engine/evaluation/TruthValue$1", name := "settlesOr", desc := "(Ljava/lang/Object;)Z" } : Jvm.MethodName) prog_15_method_8_code (2 : Nat) (Option.some Jvm.ClassFile.FieldType.boolean), Jvm.Cond.code ({ cls := "com/example/contexture/contexture/engine/evaluation/TruthValue$1", name := "settlesOr", desc := "(Lcom/example/contexture/contexture/engine/evaluation/TruthValue;)Z" } : Jvm.MethodName) prog_15_method_6_code (2 : Nat) (Option.some Jvm.ClassFile.FieldType.boolean), Jvm.Cond.code ({ cls := "com/example/contexture/contexture/engine/evaluation/TruthValue", name := "not", desc := "()Lcom/example/contexture/contexture/engine/evaluation/TruthValue;" } : Jvm.MethodName) prog_14_method_6_code (1 : Nat) (Option.some (Jvm.ClassFile.FieldType.object "com/example/contexture/contexture/engine/evaluation/TruthValue")), Jvm.Cond.code ({ cls := "java/lang/Enum", name := "ordinal", desc := "()I" } : Jvm.MethodName) jdk_37_method_2_code (1 : Nat) (Option.some Jvm.ClassFile.FieldType.int), Jvm.Cond.code ({ cls := "com/example/contexture/contexture/engine/evaluation/TruthValue", name := "reported", desc := "(ZZ)Lcom/example/contexture/contexture/engine/evaluation/TruthValue;" } : Jvm.MethodName) prog_14_method_5_code (3 : Nat) (Option.some (Jvm.ClassFile.FieldType.object "com/example/contexture/contexture/engine/evaluation/TruthValue"))]
set_option maxRecDepth 65536 in
theorem codes_eq : words1.filter isCode = codes1 := rfl
theorem w_codes : ∀ c ∈ words1.filter isCode, c.before args0 about1 = true := by
  rw [codes_eq]
  intro c hc
  simp only [codes1, List.mem_cons, List.not_mem_nil, or_false] at hc
  rcases hc with rfl | rfl | rfl | rfl | rfl | rfl | rfl
  · exact w_c0
  · exact w_c1
  · exact w_c2
  · exact w_c3
  · exact w_c4
  · exact w_c5
  · exact w_c6
set_option maxRecDepth 65536 in
theorem w_t1 : (words1.take 24).all (fun c => isCode c || c.before args0 about1) = true := by decide +kernel
set_option maxRecDepth 65536 in
theorem w_t2 : (words1.drop 24).all (fun c => isCode c || c.before args0 about1) = true := by decide +kernel
theorem w_tables : (allAtoms (Jvm.Cond.code x code maxLocals ret :: tables_1)).before args0 about1 = true := by
  rw [allAtoms_all]
  show words1.all (fun c => c.before args0 about1) = true
  refine all_split ?_ w_codes
  rw [← List.take_append_drop 24 words1, List.all_append, w_t1, w_t2]
  rfl
set_option maxRecDepth 65536 in
theorem w_case : (Jvm.Cond.and given_1 narrow_1).before args0 about1 = true := by decide +kernel
theorem w_applies : (headSpec (Jvm.Cond.code x code maxLocals ret :: tables_1) room_1).applies x e0.platform about1 = true :=
  (Spec.applies_iff w_frames).mpr ⟨w_running, w_runnable, w_alone, w_named, w_hears, w_ripe, w_room, w_tables⟩
theorem atStart : AtStart classFile x code maxLocals ret World_1 tables_1 room_1 Calls_1 rest_1 Pre_1 launch0 p0 e0 about1 theMethod args0 below0 :=
  ⟨lists_1, trivial, launch0.admits_env _ _ _, launch0.least_env, fairChoices_fair.cas, fairChoices_fair.clock, w_frames, w_args, w_heap, w_applies, trivial, trivial, w_case⟩
end start1
theorem witness_1 : WitnessClaimed_1 := ⟨start1.p0, start1.e0, start1.about1, start1.theMethod, start1.args0, start1.below0, start1.atStart⟩
end Jvm.Pilot.@@N@@
