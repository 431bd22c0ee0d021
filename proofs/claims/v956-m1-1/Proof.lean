import JvmDerived
import JvmDerived.Pilot.@@N@@Statement
import JvmDerived.Pilot.@@N@@Code
set_option linter.unusedVariables false
set_option linter.unusedSimpArgs false
namespace Jvm.RoadKit
open Sem ClassFile Op Lib Jvm.Stand Jvm.Free Jvm.LawKit
section New
variable {p : Program} {l : Launch} {e : Env} {R : Room} {s : State} {m : MethodId} {args : Array Value} {below : List Frame} {meth : Method} {c : Code} {T : State} {locs : List Loc} {cells slots : Nat}
theorem retI (X : Stand p l e R s m args below meth c T locs cells slots) (hx : p.tables.exec = Jvm.exec) {pc : Nat} {Ls : Array Slot} {z : Int32} {rest : List Value} (hret : meth.sig.returnType = some .int) (hd : decode c.code pc = .ok (.ireturn, 1)) {fs : List Frame}
    (hl : ∀ (f : JFrame) (acts : List Action), f.method = m → f.locked = none → f.entered = [] → (doReturn e (T.setTop f) acts (some (.int z))).1 = T.setFrames fs) : Steps p.tables e below (T.setTop (mkF m pc Ls (.int z :: rest))) (T.setFrames fs) := by
  have hm' : T.vm.method? m = some meth := X.method'
  have hn : narrow .int (.int z) = .int z := rfl
  show Steps p.tables e below (T.setTop { method := m, pc := pc, locals := Ls, stack := _ :: rest, locked := none }) _
  jvm_step X.here [X.here.top, hx, hd, hm', hret, hn]
  first | (intro acts; rw [hl _ acts rfl rfl rfl]) | rw [hl _ _ rfl rfl rfl]
  exact Steps.refl _
end New
end Jvm.RoadKit
namespace Jvm.Pilot.@@N@@
open Jvm Jvm.ClassFile Sem Op Lib Jvm.Free Jvm.Stand Jvm.LawKit Jvm.RoadKit Bundle Jvm.Pilot.@@N@@.Jvm.D
theorem own_fld_ne {Z : State} {h : Heap} {a b : Addr} {C n d : String} {v w : Value} (F : Fld Z h a C n d v) (G : Fld Z h b C n d w) (q : v ≠ w) : a ≠ b := fun e => by
  subst e
  obtain ⟨c1, cf1, k1, i1, f1, a1, a2, -, -, -, -, a7⟩ := F
  obtain ⟨c2, cf2, k2, i2, f2, b1, b2, -, -, -, -, b7⟩ := G
  cases a1.symm.trans b1
  cases a2.symm.trans b2
  exact q (Option.some.inj (a7.symm.trans b7))
theorem own_fldI {args : Array Value} {s : State} {t : Term} {a : Addr} {C n d : String} {k : Int32} (ht : t.eval args s none [] s = some (.ref a)) (h : (Jvm.Cond.eq (Term.field t C n d) (Term.int k)).value args s none s [] = some true) : Fld s s.heap a C n d (.int k) := by
  apply Fld.start
  have e1 : (Term.field t C n d).eval args s none [] s = s.fieldOf? a C n d := fld_at ht
  have e2 : (Term.int k).eval args s none [] s = some (.int k) := Term.int_eval k
  simp only [Cond.value, e1, e2] at h
  split at h <;> simp_all
theorem own_nm0 {a : Addr} : a ∉ ([] : List Addr) := List.not_mem_nil
theorem own_nm1 {a x : Addr} (h : a ≠ x) : a ∉ [x] := fun q => h (List.mem_singleton.mp q)
theorem own_nm2 {a x y : Addr} (h : a ≠ x) (h2 : a ≠ y) : a ∉ [x, y] := fun q => by
  rcases List.mem_cons.mp q with q | q
  · exact h q
  · exact h2 (List.mem_singleton.mp q)
theorem own_nm3 {a x y z : Addr} (h : a ≠ x) (h2 : a ≠ y) (h3 : a ≠ z) : a ∉ [x, y, z] := fun q => by
  rcases List.mem_cons.mp q with q | q
  · exact h q
  · exact own_nm2 h2 h3 q
theorem own_all0 {P : Addr → Prop} : ∀ x ∈ ([] : List Addr), P x := fun x q => (List.not_mem_nil q).elim
theorem own_all1 {P : Addr → Prop} {a : Addr} (h : P a) : ∀ x ∈ [a], P x := fun x q => by rw [List.mem_singleton.mp q]; exact h
theorem own_all2 {P : Addr → Prop} {a b : Addr} (h : P a) (h2 : P b) : ∀ x ∈ [a, b], P x := fun x q => by
  rcases List.mem_cons.mp q with q | q
  · rw [q]; exact h
  · rw [List.mem_singleton.mp q]; exact h2
theorem own_all3 {P : Addr → Prop} {a b c : Addr} (h : P a) (h2 : P b) (h3 : P c) : ∀ x ∈ [a, b, c], P x := fun x q => by
  rcases List.mem_cons.mp q with q | q
  · rw [q]; exact h
  · exact own_all2 h2 h3 x q
theorem pn_0 : plainName "com/example/contexture/contexture/engine/evaluation/TruthValueReportedPinLaw" = true := by first | (simp [plainName, overriddenIn]; done) | decide +kernel
theorem ef_1 (m : MethodId) (x0 : Int32) : entryFrame m #[(.int x0)] maxLocals = mkF m 0 #[.val (.int x0), .unset, .unset, .unset, .unset, .unset, .unset] [] := by first | (simp [entryFrame, mkF, argsToLocals, Value.category, maxLocals]; done) | rfl
theorem d1_0 : decode prog_14_method_5_code 0 = .ok (.iload_n 0, 1) := by decide +kernel
theorem d1_1 : decode prog_14_method_5_code 1 = .ok (.ifCond .eq 10, 3) := by decide +kernel
theorem d1_11 : decode prog_14_method_5_code 11 = .ok (.iload_n 1, 1) := by decide +kernel
theorem d1_12 : decode prog_14_method_5_code 12 = .ok (.ifCond .eq 10, 3) := by decide +kernel
theorem d1_22 : decode prog_14_method_5_code 22 = .ok (.getstatic 10, 3) := by decide +kernel
theorem d1_25 : decode prog_14_method_5_code 25 = .ok (.astore_n 2, 1) := by decide +kernel
theorem d1_26 : decode prog_14_method_5_code 26 = .ok (.aload_n 2, 1) := by decide +kernel
theorem d1_27 : decode prog_14_method_5_code 27 = .ok (.areturn, 1) := by decide +kernel
theorem pn_2 : plainName "com/example/contexture/contexture/engine/evaluation/TruthValue" = true := by first | (simp [plainName, overriddenIn]; done) | decide +kernel
theorem ef_3 (m : MethodId) (x0 : Int32) (x1 : Int32) : entryFrame m #[(.int x0), (.int x1)] 3 = mkF m 0 #[.val (.int x0), .val (.int x1), .unset] [] := by first | (simp [entryFrame, mkF, argsToLocals, Value.category]; done) | rfl
def Q_reported1_0 (Z : State) (a_UNKNOWN : Addr) (h0 : Heap) (n0 : Nat) (v : Option Value) (h : Heap) (L : List Loc) : Prop := v = some (.ref a_UNKNOWN) ∧ Fr n0 L ∧ h = h0
set_option maxRecDepth 65536 in
set_option maxHeartbeats 40000000 in
theorem rm_reported1_0 (l : Launch) (Z : State) (a0 : Array Value) (hw : ∀ d ∈ tables_1, d.before a0 Z = true) (ws : List Jvm.Cond) (a_UNKNOWN : Addr) (h0 : Heap) (n0 : Nat) (O0 : Old Z n0 h0) (G0 : Sta Z Z.heap "com/example/contexture/contexture/engine/evaluation/TruthValue" "UNKNOWN" "Lcom/example/contexture/contexture/engine/evaluation/TruthValue;" (.ref a_UNKNOWN)) :
    MetFree l (⟨"com/example/contexture/contexture/engine/evaluation/TruthValue", "reported", "(ZZ)Lcom/example/contexture/contexture/engine/evaluation/TruthValue;"⟩ : MethodName) (head1 (Jvm.Cond.code (⟨"com/example/contexture/contexture/engine/evaluation/TruthValue", "reported", "(ZZ)Lcom/example/contexture/contexture/engine/evaluation/TruthValue;"⟩ : MethodName) prog_14_method_5_code 3 (some (.object "com/example/contexture/contexture/engine/evaluation/TruthValue")) :: ws) ({ frames := 0, cells := 0, slots := 0, locals := 0 } : Room)) (fun a U => a = #[(.int (0 : Int32)), (.int (0 : Int32))] ∧ Z.Warmed39 U.vm ∧ U.heap = h0) (fun _ _ _ _ _ => True) (fun _ U o U' => ∃ v L, o = .returned v ∧ Q_reported1_0 Z a_UNKNOWN h0 n0 v U'.heap L ∧ FrameEnd U o U' L ({ frames := 0, cells := 0, slots := 0, locals := 0 } : Room).cells ({ frames := 0, cells := 0, slots := 0, locals := 0 } : Room).slots) := by
  refine MetFree.of_bodySF (plainFor_of_name pn_2) hisR ?_
  intro p e s m args below meth c s₁ Bd hml0 hP hK
  obtain ⟨rfl, hZ, hh⟩ := hP
  have hx := Bd.exec
  have hby := Bd.bytes
  have hml : c.maxLocals = 3 := hml0
  have hown : s.vm.findClass "com/example/contexture/contexture/engine/evaluation/TruthValue" = some m.cls := findClass_of_methodNamed Bd.named
  have hnm := (name_of_methodNamed Bd.named Bd.method).1
  have X0 : Stand p l e ({ frames := 0, cells := 0, slots := 0, locals := 0 } : Room) s m #[(.int (0 : Int32)), (.int (0 : Int32))] below meth c s₁ [] 0 0 := Stand.of_body Bd
  have e0 : s₁.heap = h0 := by rw [← hh, Bd.state]; rfl
  have N0 := Fr.nil n0
  have pre0 : ∀ t, Steps p.tables e below (s₁.setTop (mkF m 0 #[.val (.int (0 : Int32)), .val (.int (0 : Int32)), .unset] [])) t → Steps p.tables e below (s₁.setTop (entryFrame m #[(.int (0 : Int32)), (.int (0 : Int32))] 3)) t := fun t k => castTop (ef_3 m (0 : Int32) (0 : Int32)) k
  have K0 : Keep h0 h0 [] := Keep.refl h0 []
  have pre15 : ∀ t, Steps p.tables e below (s₁.setTop (mkF m 22 #[.val (.int (0 : Int32)), .val (.int (0 : Int32)), .unset] [])) t → Steps p.tables e below (s₁.setTop (entryFrame m #[(.int (0 : Int32)), (.int (0 : Int32))] 3)) t := fun t kt => by
    refine pre0 _ ?_
    show Steps p.tables e below (s₁.setTop (mkF m 0 #[.val (.int (0 : Int32)), .val (.int (0 : Int32)), .unset] [])) _
    refine XS.iloadN X0.here hx rfl (hb hby d1_0) rfl ?_
    show Steps p.tables e below (s₁.setTop (mkF m 1 #[.val (.int (0 : Int32)), .val (.int (0 : Int32)), .unset] [(.int (0 : Int32))])) _
    refine XS.ifYes X0.here hx rfl (pc0 := 1) (pc' := 11) rfl (hb hby d1_1) rfl (XT.i0_eq_t (by decide)) (by decide) (by decide) ?_
    show Steps p.tables e below (s₁.setTop (mkF m 11 #[.val (.int (0 : Int32)), .val (.int (0 : Int32)), .unset] [])) _
    refine XS.iloadN X0.here hx rfl (hb hby d1_11) rfl ?_
    show Steps p.tables e below (s₁.setTop (mkF m 12 #[.val (.int (0 : Int32)), .val (.int (0 : Int32)), .unset] [(.int (0 : Int32))])) _
    refine XS.ifYes X0.here hx rfl (pc0 := 12) (pc' := 22) rfl (hb hby d1_12) rfl (XT.i0_eq_t (by decide)) (by decide) (by decide) ?_
    exact kt
  obtain ⟨T16, X16, e16, st16⟩ := getS2 X0 hx hZ hown (host := "") (Or.inl (hw _ (List.mem_of_getElem? (i := 4) rfl))) Via.refl e0 (G0.ext O0.2) (g := (mkF m 22 #[.val (.int (0 : Int32)), .val (.int (0 : Int32)), .unset] [])) rfl (hb hby d1_22)
  have pre17 : ∀ t, Steps p.tables e below (T16.setTop (mkF m 25 #[.val (.int (0 : Int32)), .val (.int (0 : Int32)), .unset] [(.ref a_UNKNOWN)])) t → Steps p.tables e below (s₁.setTop (entryFrame m #[(.int (0 : Int32)), (.int (0 : Int32))] 3)) t := fun t kt => pre15 _ (st16 _ kt)
  have pre18 : ∀ t, Steps p.tables e below (T16.setTop (mkF m 27 #[.val (.int (0 : Int32)), .val (.int (0 : Int32)), .val (.ref a_UNKNOWN)] [(.ref a_UNKNOWN)])) t → Steps p.tables e below (s₁.setTop (entryFrame m #[(.int (0 : Int32)), (.int (0 : Int32))] 3)) t := fun t kt => by
    refine pre17 _ ?_
    show Steps p.tables e below (T16.setTop (mkF m 25 #[.val (.int (0 : Int32)), .val (.int (0 : Int32)), .unset] [(.ref a_UNKNOWN)])) _
    refine XS.astoreN X16.here hx rfl (hb hby d1_25) rfl rfl (l' := #[.val (.int (0 : Int32)), .val (.int (0 : Int32)), .val (.ref a_UNKNOWN)]) rfl ?_
    show Steps p.tables e below (T16.setTop (mkF m 26 #[.val (.int (0 : Int32)), .val (.int (0 : Int32)), .val (.ref a_UNKNOWN)] [])) _
    refine XS.aloadN X16.here hx rfl (hb hby d1_26) rfl rfl ?_
    exact kt
  obtain ⟨fs, hr, hrun, hended, hW, hsame⟩ := X16.leave (v := some (.ref a_UNKNOWN)) (fun h => by rw [Bd.returns] at h; cases h)
  refine ⟨_, _, pre18 _ (X16.areturnOut hx rfl Bd.returns rfl (hb hby d1_27) hr), hrun, hended, _, _, rfl, ?_, ⟨_, rfl⟩, hW, hsame.mono (by decide) (by decide)⟩
  show Q_reported1_0 Z a_UNKNOWN h0 n0 _ T16.heap _
  rw [e16]
  exact ⟨rfl, N0, rfl⟩
theorem pd_4 : parseMethodDescriptor "(ZZ)Lcom/example/contexture/contexture/engine/evaluation/TruthValue;" = some ⟨[.boolean, .boolean], some (.object "com/example/contexture/contexture/engine/evaluation/TruthValue")⟩ := by decide +kernel
theorem d1_15 : decode prog_14_method_5_code 15 = .ok (.getstatic 7, 3) := by decide +kernel
theorem d1_18 : decode prog_14_method_5_code 18 = .ok (.astore_n 2, 1) := by decide +kernel
theorem d1_19 : decode prog_14_method_5_code 19 = .ok (.goto 7, 3) := by decide +kernel
def Q_reported1_1 (Z : State) (a_FALSE : Addr) (h0 : Heap) (n0 : Nat) (v : Option Value) (h : Heap) (L : List Loc) : Prop := v = some (.ref a_FALSE) ∧ Fr n0 L ∧ h = h0
set_option maxRecDepth 65536 in
set_option maxHeartbeats 40000000 in
theorem rm_reported1_1 (l : Launch) (Z : State) (a0 : Array Value) (hw : ∀ d ∈ tables_1, d.before a0 Z = true) (ws : List Jvm.Cond) (a_FALSE : Addr) (h0 : Heap) (n0 : Nat) (O0 : Old Z n0 h0) (G0 : Sta Z Z.heap "com/example/contexture/contexture/engine/evaluation/TruthValue" "FALSE" "Lcom/example/contexture/contexture/engine/evaluation/TruthValue;" (.ref a_FALSE)) :
    MetFree l (⟨"com/example/contexture/contexture/engine/evaluation/TruthValue", "reported", "(ZZ)Lcom/example/contexture/contexture/engine/evaluation/TruthValue;"⟩ : MethodName) (head1 (Jvm.Cond.code (⟨"com/example/contexture/contexture/engine/evaluation/TruthValue", "reported", "(ZZ)Lcom/example/contexture/contexture/engine/evaluation/TruthValue;"⟩ : MethodName) prog_14_method_5_code 3 (some (.object "com/example/contexture/contexture/engine/evaluation/TruthValue")) :: ws) ({ frames := 0, cells := 0, slots := 0, locals := 0 } : Room)) (fun a U => a = #[(.int (0 : Int32)), (.int (1 : Int32))] ∧ Z.Warmed39 U.vm ∧ U.heap = h0) (fun _ _ _ _ _ => True) (fun _ U o U' => ∃ v L, o = .returned v ∧ Q_reported1_1 Z a_FALSE h0 n0 v U'.heap L ∧ FrameEnd U o U' L ({ frames := 0, cells := 0, slots := 0, locals := 0 } : Room).cells ({ frames := 0, cells := 0, slots := 0, locals := 0 } : Room).slots) := by
  refine MetFree.of_bodySF (plainFor_of_name pn_2) hisR ?_
  intro p e s m args below meth c s₁ Bd hml0 hP hK
  obtain ⟨rfl, hZ, hh⟩ := hP
  have hx := Bd.exec
  have hby := Bd.bytes
  have hml : c.maxLocals = 3 := hml0
  have hown : s.vm.findClass "com/example/contexture/contexture/engine/evaluation/TruthValue" = some m.cls := findClass_of_methodNamed Bd.named
  have hnm := (name_of_methodNamed Bd.named Bd.method).1
  have X0 : Stand p l e ({ frames := 0, cells := 0, slots := 0, locals := 0 } : Room) s m #[(.int (0 : Int32)), (.int (1 : Int32))] below meth c s₁ [] 0 0 := Stand.of_body Bd
  have e0 : s₁.heap = h0 := by rw [← hh, Bd.state]; rfl
  have N0 := Fr.nil n0
  have pre0 : ∀ t, Steps p.tables e below (s₁.setTop (mkF m 0 #[.val (.int (0 : Int32)), .val (.int (1 : Int32)), .unset] [])) t → Steps p.tables e below (s₁.setTop (entryFrame m #[(.int (0 : Int32)), (.int (1 : Int32))] 3)) t := fun t k => castTop (ef_3 m (0 : Int32) (1 : Int32)) k
  have K0 : Keep h0 h0 [] := Keep.refl h0 []
  have pre40 : ∀ t, Steps p.tables e below (s₁.setTop (mkF m 15 #[.val (.int (0 : Int32)), .val (.int (1 : Int32)), .unset] [])) t → Steps p.tables e below (s₁.setTop (entryFrame m #[(.int (0 : Int32)), (.int (1 : Int32))] 3)) t := fun t kt => by
    refine pre0 _ ?_
    show Steps p.tables e below (s₁.setTop (mkF m 0 #[.val (.int (0 : Int32)), .val (.int (1 : Int32)), .unset] [])) _
    refine XS.iloadN X0.here hx rfl (hb hby d1_0) rfl ?_
    show Steps p.tables e below (s₁.setTop (mkF m 1 #[.val (.int (0 : Int32)), .val (.int (1 : Int32)), .unset] [(.int (0 : Int32))])) _
    refine XS.ifYes X0.here hx rfl (pc0 := 1) (pc' := 11) rfl (hb hby d1_1) rfl (XT.i0_eq_t (by decide)) (by decide) (by decide) ?_
    show Steps p.tables e below (s₁.setTop (mkF m 11 #[.val (.int (0 : Int32)), .val (.int (1 : Int32)), .unset] [])) _
    refine XS.iloadN X0.here hx rfl (hb hby d1_11) rfl ?_
    show Steps p.tables e below (s₁.setTop (mkF m 12 #[.val (.int (0 : Int32)), .val (.int (1 : Int32)), .unset] [(.int (1 : Int32))])) _
    refine XS.ifNo X0.here hx rfl (hb hby d1_12) rfl (XT.i0_eq_f (by decide)) ?_
    exact kt
  obtain ⟨T41, X41, e41, st41⟩ := getS2 X0 hx hZ hown (host := "") (Or.inl (hw _ (List.mem_of_getElem? (i := 15) rfl))) Via.refl e0 (G0.ext O0.2) (g := (mkF m 15 #[.val (.int (0 : Int32)), .val (.int (1 : Int32)), .unset] [])) rfl (hb hby d1_15)
  have pre42 : ∀ t, Steps p.tables e below (T41.setTop (mkF m 18 #[.val (.int (0 : Int32)), .val (.int (1 : Int32)), .unset] [(.ref a_FALSE)])) t → Steps p.tables e below (s₁.setTop (entryFrame m #[(.int (0 : Int32)), (.int (1 : Int32))] 3)) t := fun t kt => pre40 _ (st41 _ kt)
  have pre43 : ∀ t, Steps p.tables e below (T41.setTop (mkF m 27 #[.val (.int (0 : Int32)), .val (.int (1 : Int32)), .val (.ref a_FALSE)] [(.ref a_FALSE)])) t → Steps p.tables e below (s₁.setTop (entryFrame m #[(.int (0 : Int32)), (.int (1 : Int32))] 3)) t := fun t kt => by
    refine pre42 _ ?_
    show Steps p.tables e below (T41.setTop (mkF m 18 #[.val (.int (0 : Int32)), .val (.int (1 : Int32)), .unset] [(.ref a_FALSE)])) _
    refine XS.astoreN X41.here hx rfl (hb hby d1_18) rfl rfl (l' := #[.val (.int (0 : Int32)), .val (.int (1 : Int32)), .val (.ref a_FALSE)]) rfl ?_
    show Steps p.tables e below (T41.setTop (mkF m 19 #[.val (.int (0 : Int32)), .val (.int (1 : Int32)), .val (.ref a_FALSE)] [])) _
    refine XS.goto X41.here hx rfl (pc0 := 19) (pc' := 26) rfl (hb hby d1_19) (by decide) (by decide) ?_
    show Steps p.tables e below (T41.setTop (mkF m 26 #[.val (.int (0 : Int32)), .val (.int (1 : Int32)), .val (.ref a_FALSE)] [])) _
    refine XS.aloadN X41.here hx rfl (hb hby d1_26) rfl rfl ?_
    exact kt
  obtain ⟨fs, hr, hrun, hended, hW, hsame⟩ := X41.leave (v := some (.ref a_FALSE)) (fun h => by rw [Bd.returns] at h; cases h)
  refine ⟨_, _, pre43 _ (X41.areturnOut hx rfl Bd.returns rfl (hb hby d1_27) hr), hrun, hended, _, _, rfl, ?_, ⟨_, rfl⟩, hW, hsame.mono (by decide) (by decide)⟩
  show Q_reported1_1 Z a_FALSE h0 n0 _ T41.heap _
  rw [e41]
  exact ⟨rfl, N0, rfl⟩
theorem d2_0 : decode prog_14_method_4_code 0 = .ok (.iload_n 0, 1) := by decide +kernel
theorem d2_1 : decode prog_14_method_4_code 1 = .ok (.ifCond .eq 9, 3) := by decide +kernel
theorem d2_10 : decode prog_14_method_4_code 10 = .ok (.getstatic 7, 3) := by decide +kernel
theorem d2_13 : decode prog_14_method_4_code 13 = .ok (.areturn, 1) := by decide +kernel
theorem ef_5 (m : MethodId) (x0 : Int32) : entryFrame m #[(.int x0)] 1 = mkF m 0 #[.val (.int x0)] [] := by first | (simp [entryFrame, mkF, argsToLocals, Value.category]; done) | rfl
def Q_of2_0 (Z : State) (a_FALSE : Addr) (h0 : Heap) (n0 : Nat) (v : Option Value) (h : Heap) (L : List Loc) : Prop := v = some (.ref a_FALSE) ∧ Fr n0 L ∧ h = h0
set_option maxRecDepth 65536 in
set_option maxHeartbeats 40000000 in
theorem rm_of2_0 (l : Launch) (Z : State) (a0 : Array Value) (hw : ∀ d ∈ tables_1, d.before a0 Z = true) (ws : List Jvm.Cond) (a_FALSE : Addr) (h0 : Heap) (n0 : Nat) (O0 : Old Z n0 h0) (G0 : Sta Z Z.heap "com/example/contexture/contexture/engine/evaluation/TruthValue" "FALSE" "Lcom/example/contexture/contexture/engine/evaluation/TruthValue;" (.ref a_FALSE)) :
    MetFree l (⟨"com/example/contexture/contexture/engine/evaluation/TruthValue", "of", "(Z)Lcom/example/contexture/contexture/engine/evaluation/TruthValue;"⟩ : MethodName) (head1 (Jvm.Cond.code (⟨"com/example/contexture/contexture/engine/evaluation/TruthValue", "of", "(Z)Lcom/example/contexture/contexture/engine/evaluation/TruthValue;"⟩ : MethodName) prog_14_method_4_code 1 (some (.object "com/example/contexture/contexture/engine/evaluation/TruthValue")) :: ws) ({ frames := 0, cells := 0, slots := 0, locals := 0 } : Room)) (fun a U => a = #[(.int (0 : Int32))] ∧ Z.Warmed39 U.vm ∧ U.heap = h0) (fun _ _ _ _ _ => True) (fun _ U o U' => ∃ v L, o = .returned v ∧ Q_of2_0 Z a_FALSE h0 n0 v U'.heap L ∧ FrameEnd U o U' L ({ frames := 0, cells := 0, slots := 0, locals := 0 } : Room).cells ({ frames := 0, cells := 0, slots := 0, locals := 0 } : Room).slots) := by
  refine MetFree.of_bodySF (plainFor_of_name pn_2) hisR ?_
  intro p e s m args below meth c s₁ Bd hml0 hP hK
  obtain ⟨rfl, hZ, hh⟩ := hP
  have hx := Bd.exec
  have hby := Bd.bytes
  have hml : c.maxLocals = 1 := hml0
  have hown : s.vm.findClass "com/example/contexture/contexture/engine/evaluation/TruthValue" = some m.cls := findClass_of_methodNamed Bd.named
  have hnm := (name_of_methodNamed Bd.named Bd.method).1
  have X0 : Stand p l e ({ frames := 0, cells := 0, slots := 0, locals := 0 } : Room) s m #[(.int (0 : Int32))] below meth c s₁ [] 0 0 := Stand.of_body Bd
  have e0 : s₁.heap = h0 := by rw [← hh, Bd.state]; rfl
  have N0 := Fr.nil n0
  have pre0 : ∀ t, Steps p.tables e below (s₁.setTop (mkF m 0 #[.val (.int (0 : Int32))] [])) t → Steps p.tables e below (s₁.setTop (entryFrame m #[(.int (0 : Int32))] 1)) t := fun t k => castTop (ef_5 m (0 : Int32)) k
  have K0 : Keep h0 h0 [] := Keep.refl h0 []
  have pre62 : ∀ t, Steps p.tables e below (s₁.setTop (mkF m 10 #[.val (.int (0 : Int32))] [])) t → Steps p.tables e below (s₁.setTop (entryFrame m #[(.int (0 : Int32))] 1)) t := fun t kt => by
    refine pre0 _ ?_
    show Steps p.tables e below (s₁.setTop (mkF m 0 #[.val (.int (0 : Int32))] [])) _
    refine XS.iloadN X0.here hx rfl (hb hby d2_0) rfl ?_
    show Steps p.tables e below (s₁.setTop (mkF m 1 #[.val (.int (0 : Int32))] [(.int (0 : Int32))])) _
    refine XS.ifYes X0.here hx rfl (pc0 := 1) (pc' := 10) rfl (hb hby d2_1) rfl (XT.i0_eq_t (by decide)) (by decide) (by decide) ?_
    exact kt
  obtain ⟨T63, X63, e63, st63⟩ := getS2 X0 hx hZ hown (host := "") (Or.inl (hw _ (List.mem_of_getElem? (i := 15) rfl))) Via.refl e0 (G0.ext O0.2) (g := (mkF m 10 #[.val (.int (0 : Int32))] [])) rfl (hb hby d2_10)
  have pre64 : ∀ t, Steps p.tables e below (T63.setTop (mkF m 13 #[.val (.int (0 : Int32))] [(.ref a_FALSE)])) t → Steps p.tables e below (s₁.setTop (entryFrame m #[(.int (0 : Int32))] 1)) t := fun t kt => pre62 _ (st63 _ kt)
  obtain ⟨fs, hr, hrun, hended, hW, hsame⟩ := X63.leave (v := some (.ref a_FALSE)) (fun h => by rw [Bd.returns] at h; cases h)
  refine ⟨_, _, pre64 _ (X63.areturnOut hx rfl Bd.returns rfl (hb hby d2_13) hr), hrun, hended, _, _, rfl, ?_, ⟨_, rfl⟩, hW, hsame.mono (by decide) (by decide)⟩
  show Q_of2_0 Z a_FALSE h0 n0 _ T63.heap _
  rw [e63]
  exact ⟨rfl, N0, rfl⟩
theorem pd_6 : parseMethodDescriptor "(Z)Lcom/example/contexture/contexture/engine/evaluation/TruthValue;" = some ⟨[.boolean], some (.object "com/example/contexture/contexture/engine/evaluation/TruthValue")⟩ := by decide +kernel
theorem d1_4 : decode prog_14_method_5_code 4 = .ok (.getstatic 3, 3) := by decide +kernel
theorem d1_7 : decode prog_14_method_5_code 7 = .ok (.astore_n 2, 1) := by decide +kernel
theorem d1_8 : decode prog_14_method_5_code 8 = .ok (.goto 18, 3) := by decide +kernel
def Q_reported1_2 (Z : State) (a_TRUE : Addr) (h0 : Heap) (n0 : Nat) (v : Option Value) (h : Heap) (L : List Loc) : Prop := v = some (.ref a_TRUE) ∧ Fr n0 L ∧ h = h0
set_option maxRecDepth 65536 in
set_option maxHeartbeats 40000000 in
theorem rm_reported1_2 (l : Launch) (Z : State) (a0 : Array Value) (hw : ∀ d ∈ tables_1, d.before a0 Z = true) (ws : List Jvm.Cond) (a_TRUE : Addr) (h0 : Heap) (n0 : Nat) (O0 : Old Z n0 h0) (G0 : Sta Z Z.heap "com/example/contexture/contexture/engine/evaluation/TruthValue" "TRUE" "Lcom/example/contexture/contexture/engine/evaluation/TruthValue;" (.ref a_TRUE)) :
    MetFree l (⟨"com/example/contexture/contexture/engine/evaluation/TruthValue", "reported", "(ZZ)Lcom/example/contexture/contexture/engine/evaluation/TruthValue;"⟩ : MethodName) (head1 (Jvm.Cond.code (⟨"com/example/contexture/contexture/engine/evaluation/TruthValue", "reported", "(ZZ)Lcom/example/contexture/contexture/engine/evaluation/TruthValue;"⟩ : MethodName) prog_14_method_5_code 3 (some (.object "com/example/contexture/contexture/engine/evaluation/TruthValue")) :: ws) ({ frames := 0, cells := 0, slots := 0, locals := 0 } : Room)) (fun a U => a = #[(.int (1 : Int32)), (.int (0 : Int32))] ∧ Z.Warmed39 U.vm ∧ U.heap = h0) (fun _ _ _ _ _ => True) (fun _ U o U' => ∃ v L, o = .returned v ∧ Q_reported1_2 Z a_TRUE h0 n0 v U'.heap L ∧ FrameEnd U o U' L ({ frames := 0, cells := 0, slots := 0, locals := 0 } : Room).cells ({ frames := 0, cells := 0, slots := 0, locals := 0 } : Room).slots) := by
  refine MetFree.of_bodySF (plainFor_of_name pn_2) hisR ?_
  intro p e s m args below meth c s₁ Bd hml0 hP hK
  obtain ⟨rfl, hZ, hh⟩ := hP
  have hx := Bd.exec
  have hby := Bd.bytes
  have hml : c.maxLocals = 3 := hml0
  have hown : s.vm.findClass "com/example/contexture/contexture/engine/evaluation/TruthValue" = some m.cls := findClass_of_methodNamed Bd.named
  have hnm := (name_of_methodNamed Bd.named Bd.method).1
  have X0 : Stand p l e ({ frames := 0, cells := 0, slots := 0, locals := 0 } : Room) s m #[(.int (1 : Int32)), (.int (0 : Int32))] below meth c s₁ [] 0 0 := Stand.of_body Bd
  have e0 : s₁.heap = h0 := by rw [← hh, Bd.state]; rfl
  have N0 := Fr.nil n0
  have pre0 : ∀ t, Steps p.tables e below (s₁.setTop (mkF m 0 #[.val (.int (1 : Int32)), .val (.int (0 : Int32)), .unset] [])) t → Steps p.tables e below (s₁.setTop (entryFrame m #[(.int (1 : Int32)), (.int (0 : Int32))] 3)) t := fun t k => castTop (ef_3 m (1 : Int32) (0 : Int32)) k
  have K0 : Keep h0 h0 [] := Keep.refl h0 []
  have pre79 : ∀ t, Steps p.tables e below (s₁.setTop (mkF m 4 #[.val (.int (1 : Int32)), .val (.int (0 : Int32)), .unset] [])) t → Steps p.tables e below (s₁.setTop (entryFrame m #[(.int (1 : Int32)), (.int (0 : Int32))] 3)) t := fun t kt => by
    refine pre0 _ ?_
    show Steps p.tables e below (s₁.setTop (mkF m 0 #[.val (.int (1 : Int32)), .val (.int (0 : Int32)), .unset] [])) _
    refine XS.iloadN X0.here hx rfl (hb hby d1_0) rfl ?_
    show Steps p.tables e below (s₁.setTop (mkF m 1 #[.val (.int (1 : Int32)), .val (.int (0 : Int32)), .unset] [(.int (1 : Int32))])) _
    refine XS.ifNo X0.here hx rfl (hb hby d1_1) rfl (XT.i0_eq_f (by decide)) ?_
    exact kt
  obtain ⟨T80, X80, e80, st80⟩ := getS2 X0 hx hZ hown (host := "") (Or.inl (hw _ (List.mem_of_getElem? (i := 11) rfl))) Via.refl e0 (G0.ext O0.2) (g := (mkF m 4 #[.val (.int (1 : Int32)), .val (.int (0 : Int32)), .unset] [])) rfl (hb hby d1_4)
  have pre81 : ∀ t, Steps p.tables e below (T80.setTop (mkF m 7 #[.val (.int (1 : Int32)), .val (.int (0 : Int32)), .unset] [(.ref a_TRUE)])) t → Steps p.tables e below (s₁.setTop (entryFrame m #[(.int (1 : Int32)), (.int (0 : Int32))] 3)) t := fun t kt => pre79 _ (st80 _ kt)
  have pre82 : ∀ t, Steps p.tables e below (T80.setTop (mkF m 27 #[.val (.int (1 : Int32)), .val (.int (0 : Int32)), .val (.ref a_TRUE)] [(.ref a_TRUE)])) t → Steps p.tables e below (s₁.setTop (entryFrame m #[(.int (1 : Int32)), (.int (0 : Int32))] 3)) t := fun t kt => by
    refine pre81 _ ?_
    show Steps p.tables e below (T80.setTop (mkF m 7 #[.val (.int (1 : Int32)), .val (.int (0 : Int32)), .unset] [(.ref a_TRUE)])) _
    refine XS.astoreN X80.here hx rfl (hb hby d1_7) rfl rfl (l' := #[.val (.int (1 : Int32)), .val (.int (0 : Int32)), .val (.ref a_TRUE)]) rfl ?_
    show Steps p.tables e below (T80.setTop (mkF m 8 #[.val (.int (1 : Int32)), .val (.int (0 : Int32)), .val (.ref a_TRUE)] [])) _
    refine XS.goto X80.here hx rfl (pc0 := 8) (pc' := 26) rfl (hb hby d1_8) (by decide) (by decide) ?_
    show Steps p.tables e below (T80.setTop (mkF m 26 #[.val (.int (1 : Int32)), .val (.int (0 : Int32)), .val (.ref a_TRUE)] [])) _
    refine XS.aloadN X80.here hx rfl (hb hby d1_26) rfl rfl ?_
    exact kt
  obtain ⟨fs, hr, hrun, hended, hW, hsame⟩ := X80.leave (v := some (.ref a_TRUE)) (fun h => by rw [Bd.returns] at h; cases h)
  refine ⟨_, _, pre82 _ (X80.areturnOut hx rfl Bd.returns rfl (hb hby d1_27) hr), hrun, hended, _, _, rfl, ?_, ⟨_, rfl⟩, hW, hsame.mono (by decide) (by decide)⟩
  show Q_reported1_2 Z a_TRUE h0 n0 _ T80.heap _
  rw [e80]
  exact ⟨rfl, N0, rfl⟩
def Q_reported1_3 (Z : State) (a_TRUE : Addr) (h0 : Heap) (n0 : Nat) (v : Option Value) (h : Heap) (L : List Loc) : Prop := v = some (.ref a_TRUE) ∧ Fr n0 L ∧ h = h0
set_option maxRecDepth 65536 in
set_option maxHeartbeats 40000000 in
theorem rm_reported1_3 (l : Launch) (Z : State) (a0 : Array Value) (hw : ∀ d ∈ tables_1, d.before a0 Z = true) (ws : List Jvm.Cond) (a_TRUE : Addr) (h0 : Heap) (n0 : Nat) (O0 : Old Z n0 h0) (G0 : Sta Z Z.heap "com/example/contexture/contexture/engine/evaluation/TruthValue" "TRUE" "Lcom/example/contexture/contexture/engine/evaluation/TruthValue;" (.ref a_TRUE)) :
    MetFree l (⟨"com/example/contexture/contexture/engine/evaluation/TruthValue", "reported", "(ZZ)Lcom/example/contexture/contexture/engine/evaluation/TruthValue;"⟩ : MethodName) (head1 (Jvm.Cond.code (⟨"com/example/contexture/contexture/engine/evaluation/TruthValue", "reported", "(ZZ)Lcom/example/contexture/contexture/engine/evaluation/TruthValue;"⟩ : MethodName) prog_14_method_5_code 3 (some (.object "com/example/contexture/contexture/engine/evaluation/TruthValue")) :: ws) ({ frames := 0, cells := 0, slots := 0, locals := 0 } : Room)) (fun a U => a = #[(.int (1 : Int32)), (.int (1 : Int32))] ∧ Z.Warmed39 U.vm ∧ U.heap = h0) (fun _ _ _ _ _ => True) (fun _ U o U' => ∃ v L, o = .returned v ∧ Q_reported1_3 Z a_TRUE h0 n0 v U'.heap L ∧ FrameEnd U o U' L ({ frames := 0, cells := 0, slots := 0, locals := 0 } : Room).cells ({ frames := 0, cells := 0, slots := 0, locals := 0 } : Room).slots) := by
  refine MetFree.of_bodySF (plainFor_of_name pn_2) hisR ?_
  intro p e s m args below meth c s₁ Bd hml0 hP hK
  obtain ⟨rfl, hZ, hh⟩ := hP
  have hx := Bd.exec
  have hby := Bd.bytes
  have hml : c.maxLocals = 3 := hml0
  have hown : s.vm.findClass "com/example/contexture/contexture/engine/evaluation/TruthValue" = some m.cls := findClass_of_methodNamed Bd.named
  have hnm := (name_of_methodNamed Bd.named Bd.method).1
  have X0 : Stand p l e ({ frames := 0, cells := 0, slots := 0, locals := 0 } : Room) s m #[(.int (1 : Int32)), (.int (1 : Int32))] below meth c s₁ [] 0 0 := Stand.of_body Bd
  have e0 : s₁.heap = h0 := by rw [← hh, Bd.state]; rfl
  have N0 := Fr.nil n0
  have pre0 : ∀ t, Steps p.tables e below (s₁.setTop (mkF m 0 #[.val (.int (1 : Int32)), .val (.int (1 : Int32)), .unset] [])) t → Steps p.tables e below (s₁.setTop (entryFrame m #[(.int (1 : Int32)), (.int (1 : Int32))] 3)) t := fun t k => castTop (ef_3 m (1 : Int32) (1 : Int32)) k
  have K0 : Keep h0 h0 [] := Keep.refl h0 []
  have pre104 : ∀ t, Steps p.tables e below (s₁.setTop (mkF m 4 #[.val (.int (1 : Int32)), .val (.int (1 : Int32)), .unset] [])) t → Steps p.tables e below (s₁.setTop (entryFrame m #[(.int (1 : Int32)), (.int (1 : Int32))] 3)) t := fun t kt => by
    refine pre0 _ ?_
    show Steps p.tables e below (s₁.setTop (mkF m 0 #[.val (.int (1 : Int32)), .val (.int (1 : Int32)), .unset] [])) _
    refine XS.iloadN X0.here hx rfl (hb hby d1_0) rfl ?_
    show Steps p.tables e below (s₁.setTop (mkF m 1 #[.val (.int (1 : Int32)), .val (.int (1 : Int32)), .unset] [(.int (1 : Int32))])) _
    refine XS.ifNo X0.here hx rfl (hb hby d1_1) rfl (XT.i0_eq_f (by decide)) ?_
    exact kt
  obtain ⟨T105, X105, e105, st105⟩ := getS2 X0 hx hZ hown (host := "") (Or.inl (hw _ (List.mem_of_getElem? (i := 11) rfl))) Via.refl e0 (G0.ext O0.2) (g := (mkF m 4 #[.val (.int (1 : Int32)), .val (.int (1 : Int32)), .unset] [])) rfl (hb hby d1_4)
  have pre106 : ∀ t, Steps p.tables e below (T105.setTop (mkF m 7 #[.val (.int (1 : Int32)), .val (.int (1 : Int32)), .unset] [(.ref a_TRUE)])) t → Steps p.tables e below (s₁.setTop (entryFrame m #[(.int (1 : Int32)), (.int (1 : Int32))] 3)) t := fun t kt => pre104 _ (st105 _ kt)
  have pre107 : ∀ t, Steps p.tables e below (T105.setTop (mkF m 27 #[.val (.int (1 : Int32)), .val (.int (1 : Int32)), .val (.ref a_TRUE)] [(.ref a_TRUE)])) t → Steps p.tables e below (s₁.setTop (entryFrame m #[(.int (1 : Int32)), (.int (1 : Int32))] 3)) t := fun t kt => by
    refine pre106 _ ?_
    show Steps p.tables e below (T105.setTop (mkF m 7 #[.val (.int (1 : Int32)), .val (.int (1 : Int32)), .unset] [(.ref a_TRUE)])) _
    refine XS.astoreN X105.here hx rfl (hb hby d1_7) rfl rfl (l' := #[.val (.int (1 : Int32)), .val (.int (1 : Int32)), .val (.ref a_TRUE)]) rfl ?_
    show Steps p.tables e below (T105.setTop (mkF m 8 #[.val (.int (1 : Int32)), .val (.int (1 : Int32)), .val (.ref a_TRUE)] [])) _
    refine XS.goto X105.here hx rfl (pc0 := 8) (pc' := 26) rfl (hb hby d1_8) (by decide) (by decide) ?_
    show Steps p.tables e below (T105.setTop (mkF m 26 #[.val (.int (1 : Int32)), .val (.int (1 : Int32)), .val (.ref a_TRUE)] [])) _
    refine XS.aloadN X105.here hx rfl (hb hby d1_26) rfl rfl ?_
    exact kt
  obtain ⟨fs, hr, hrun, hended, hW, hsame⟩ := X105.leave (v := some (.ref a_TRUE)) (fun h => by rw [Bd.returns] at h; cases h)
  refine ⟨_, _, pre107 _ (X105.areturnOut hx rfl Bd.returns rfl (hb hby d1_27) hr), hrun, hended, _, _, rfl, ?_, ⟨_, rfl⟩, hW, hsame.mono (by decide) (by decide)⟩
  show Q_reported1_3 Z a_TRUE h0 n0 _ T105.heap _
  rw [e105]
  exact ⟨rfl, N0, rfl⟩
theorem d2_4 : decode prog_14_method_4_code 4 = .ok (.getstatic 3, 3) := by decide +kernel
theorem d2_7 : decode prog_14_method_4_code 7 = .ok (.goto 6, 3) := by decide +kernel
def Q_of2_1 (Z : State) (a_TRUE : Addr) (h0 : Heap) (n0 : Nat) (v : Option Value) (h : Heap) (L : List Loc) : Prop := v = some (.ref a_TRUE) ∧ Fr n0 L ∧ h = h0
set_option maxRecDepth 65536 in
set_option maxHeartbeats 40000000 in
theorem rm_of2_1 (l : Launch) (Z : State) (a0 : Array Value) (hw : ∀ d ∈ tables_1, d.before a0 Z = true) (ws : List Jvm.Cond) (a_TRUE : Addr) (h0 : Heap) (n0 : Nat) (O0 : Old Z n0 h0) (G0 : Sta Z Z.heap "com/example/contexture/contexture/engine/evaluation/TruthValue" "TRUE" "Lcom/example/contexture/contexture/engine/evaluation/TruthValue;" (.ref a_TRUE)) :
    MetFree l (⟨"com/example/contexture/contexture/engine/evaluation/TruthValue", "of", "(Z)Lcom/example/contexture/contexture/engine/evaluation/TruthValue;"⟩ : MethodName) (head1 (Jvm.Cond.code (⟨"com/example/contexture/contexture/engine/evaluation/TruthValue", "of", "(Z)Lcom/example/contexture/contexture/engine/evaluation/TruthValue;"⟩ : MethodName) prog_14_method_4_code 1 (some (.object "com/example/contexture/contexture/engine/evaluation/TruthValue")) :: ws) ({ frames := 0, cells := 0, slots := 0, locals := 0 } : Room)) (fun a U => a = #[(.int (1 : Int32))] ∧ Z.Warmed39 U.vm ∧ U.heap = h0) (fun _ _ _ _ _ => True) (fun _ U o U' => ∃ v L, o = .returned v ∧ Q_of2_1 Z a_TRUE h0 n0 v U'.heap L ∧ FrameEnd U o U' L ({ frames := 0, cells := 0, slots := 0, locals := 0 } : Room).cells ({ frames := 0, cells := 0, slots := 0, locals := 0 } : Room).slots) := by
  refine MetFree.of_bodySF (plainFor_of_name pn_2) hisR ?_
  intro p e s m args below meth c s₁ Bd hml0 hP hK
  obtain ⟨rfl, hZ, hh⟩ := hP
  have hx := Bd.exec
  have hby := Bd.bytes
  have hml : c.maxLocals = 1 := hml0
  have hown : s.vm.findClass "com/example/contexture/contexture/engine/evaluation/TruthValue" = some m.cls := findClass_of_methodNamed Bd.named
  have hnm := (name_of_methodNamed Bd.named Bd.method).1
  have X0 : Stand p l e ({ frames := 0, cells := 0, slots := 0, locals := 0 } : Room) s m #[(.int (1 : Int32))] below meth c s₁ [] 0 0 := Stand.of_body Bd
  have e0 : s₁.heap = h0 := by rw [← hh, Bd.state]; rfl
  have N0 := Fr.nil n0
  have pre0 : ∀ t, Steps p.tables e below (s₁.setTop (mkF m 0 #[.val (.int (1 : Int32))] [])) t → Steps p.tables e below (s₁.setTop (entryFrame m #[(.int (1 : Int32))] 1)) t := fun t k => castTop (ef_5 m (1 : Int32)) k
  have K0 : Keep h0 h0 [] := Keep.refl h0 []
  have pre128 : ∀ t, Steps p.tables e below (s₁.setTop (mkF m 4 #[.val (.int (1 : Int32))] [])) t → Steps p.tables e below (s₁.setTop (entryFrame m #[(.int (1 : Int32))] 1)) t := fun t kt => by
    refine pre0 _ ?_
    show Steps p.tables e below (s₁.setTop (mkF m 0 #[.val (.int (1 : Int32))] [])) _
    refine XS.iloadN X0.here hx rfl (hb hby d2_0) rfl ?_
    show Steps p.tables e below (s₁.setTop (mkF m 1 #[.val (.int (1 : Int32))] [(.int (1 : Int32))])) _
    refine XS.ifNo X0.here hx rfl (hb hby d2_1) rfl (XT.i0_eq_f (by decide)) ?_
    exact kt
  obtain ⟨T129, X129, e129, st129⟩ := getS2 X0 hx hZ hown (host := "") (Or.inl (hw _ (List.mem_of_getElem? (i := 11) rfl))) Via.refl e0 (G0.ext O0.2) (g := (mkF m 4 #[.val (.int (1 : Int32))] [])) rfl (hb hby d2_4)
  have pre130 : ∀ t, Steps p.tables e below (T129.setTop (mkF m 7 #[.val (.int (1 : Int32))] [(.ref a_TRUE)])) t → Steps p.tables e below (s₁.setTop (entryFrame m #[(.int (1 : Int32))] 1)) t := fun t kt => pre128 _ (st129 _ kt)
  have pre131 : ∀ t, Steps p.tables e below (T129.setTop (mkF m 13 #[.val (.int (1 : Int32))] [(.ref a_TRUE)])) t → Steps p.tables e below (s₁.setTop (entryFrame m #[(.int (1 : Int32))] 1)) t := fun t kt => by
    refine pre130 _ ?_
    show Steps p.tables e below (T129.setTop (mkF m 7 #[.val (.int (1 : Int32))] [(.ref a_TRUE)])) _
    refine XS.goto X129.here hx rfl (pc0 := 7) (pc' := 13) rfl (hb hby d2_7) (by decide) (by decide) ?_
    exact kt
  obtain ⟨fs, hr, hrun, hended, hW, hsame⟩ := X129.leave (v := some (.ref a_TRUE)) (fun h => by rw [Bd.returns] at h; cases h)
  refine ⟨_, _, pre131 _ (X129.areturnOut hx rfl Bd.returns rfl (hb hby d2_13) hr), hrun, hended, _, _, rfl, ?_, ⟨_, rfl⟩, hW, hsame.mono (by decide) (by decide)⟩
  show Q_of2_1 Z a_TRUE h0 n0 _ T129.heap _
  rw [e129]
  exact ⟨rfl, N0, rfl⟩
def Q_law (Z : State) (p0 : Int32) (a_UNKNOWN : Addr) (a_TRUE : Addr) (a_FALSE : Addr) (h0 : Heap) (n0 : Nat) (v : Option Value) (h : Heap) (L : List Loc) : Prop := v = some (.int (1 : Int32)) ∧ Fr n0 L
set_option maxRecDepth 65536 in
set_option maxHeartbeats 40000000 in
theorem rm_law (l : Launch) (Z : State) (a0 : Array Value) (hw : ∀ d ∈ tables_1, d.before a0 Z = true) (ws : List Jvm.Cond) (p0 : Int32) (a_UNKNOWN : Addr) (a_TRUE : Addr) (a_FALSE : Addr) (h0 : Heap) (n0 : Nat) (O0 : Old Z n0 h0) (G0 : Sta Z Z.heap "com/example/contexture/contexture/engine/evaluation/TruthValue" "UNKNOWN" "Lcom/example/contexture/contexture/engine/evaluation/TruthValue;" (.ref a_UNKNOWN)) (G1 : Exa Z Z.heap a_UNKNOWN "com/example/contexture/contexture/engine/evaluation/TruthValue") (G2 : Sta Z Z.heap "com/example/contexture/contexture/engine/evaluation/TruthValue" "TRUE" "Lcom/example/contexture/contexture/engine/evaluation/TruthValue;" (.ref a_TRUE)) (G3 : Exa Z Z.heap a_TRUE "com/example/contexture/contexture/engine/evaluation/TruthValue") (G4 : Sta Z Z.heap "com/example/contexture/contexture/engine/evaluation/TruthValue" "FALSE" "Lcom/example/contexture/contexture/engine/evaluation/TruthValue;" (.ref a_FALSE)) (G5 : Exa Z Z.heap a_FALSE "com/example/contexture/contexture/engine/evaluation/TruthValue") (G6 : Fld Z Z.heap a_UNKNOWN "java/lang/Enum" "ordinal" "I" (.int (2 : Int32))) (G7 : Fld Z Z.heap a_TRUE "java/lang/Enum" "ordinal" "I" (.int (0 : Int32))) (G8 : Fld Z Z.heap a_FALSE "java/lang/Enum" "ordinal" "I" (.int (1 : Int32))) :
    MetFree l x (head1 (Jvm.Cond.code x code maxLocals ret :: ws) room_1) (fun a U => a = #[(.int p0)] ∧ Z.Warmed39 U.vm ∧ U.heap = h0) (fun _ _ _ _ _ => True) (fun _ U o U' => ∃ v L, o = .returned v ∧ Q_law Z p0 a_UNKNOWN a_TRUE a_FALSE h0 n0 v U'.heap L ∧ FrameEnd U o U' L room_1.cells room_1.slots) := by
  refine MetFree.of_bodySF (plainFor_of_name pn_0) hisR ?_
  intro p e s m args below meth c s₁ Bd hml0 hP hK
  obtain ⟨rfl, hZ, hh⟩ := hP
  have hx := Bd.exec
  have hby := Bd.bytes
  have hml : c.maxLocals = 7 := hml0
  have hown : s.vm.findClass "com/example/contexture/contexture/engine/evaluation/TruthValueReportedPinLaw" = some m.cls := findClass_of_methodNamed Bd.named
  have hnm := (name_of_methodNamed Bd.named Bd.method).1
  have X0 : Stand p l e room_1 s m #[(.int p0)] below meth c s₁ [] 0 0 := Stand.of_body Bd
  have e0 : s₁.heap = h0 := by rw [← hh, Bd.state]; rfl
  have N0 := Fr.nil n0
  have pre0 : ∀ t, Steps p.tables e below (s₁.setTop (mkF m 0 #[.val (.int p0), .unset, .unset, .unset, .unset, .unset, .unset] [])) t → Steps p.tables e below (s₁.setTop (entryFrame m #[(.int p0)] maxLocals)) t := fun t k => castTop (ef_1 m p0) k
  have K0 : Keep h0 h0 [] := Keep.refl h0 []
  have ne_a_UNKNOWN_a_TRUE : a_UNKNOWN ≠ a_TRUE := own_fld_ne G6 G7 (by decide)
  have ne_a_UNKNOWN_a_FALSE : a_UNKNOWN ≠ a_FALSE := own_fld_ne G6 G8 (by decide)
  have ne_a_TRUE_a_FALSE : a_TRUE ≠ a_FALSE := own_fld_ne G7 G8 (by decide)
  have pre1 : ∀ t, Steps p.tables e below (s₁.setTop (mkF m 3 #[.val (.int p0), .unset, .unset, .unset, .unset, .unset, .unset] [(.int (p0 &&& (1 : Int32)))])) t → Steps p.tables e below (s₁.setTop (entryFrame m #[(.int p0)] maxLocals)) t := fun t kt => by
    refine pre0 _ ?_
    show Steps p.tables e below (s₁.setTop (mkF m 0 #[.val (.int p0), .unset, .unset, .unset, .unset, .unset, .unset] [])) _
    refine XS.iloadN X0.here hx rfl (hb hby at_0) rfl ?_
    show Steps p.tables e below (s₁.setTop (mkF m 1 #[.val (.int p0), .unset, .unset, .unset, .unset, .unset, .unset] [(.int p0)])) _
    refine XS.iconst X0.here hx rfl (hb hby at_1) ?_
    show Steps p.tables e below (s₁.setTop (mkF m 2 #[.val (.int p0), .unset, .unset, .unset, .unset, .unset, .unset] [(.int (1 : Int32)), (.int p0)])) _
    refine XS.iand X0.here hx rfl (hb hby at_2) rfl ?_
    exact kt
  by_cases hc2 : (p0 &&& (1 : Int32)) = (0 : Int32)
  · have pre3 : ∀ t, Steps p.tables e below (s₁.setTop (mkF m 15 #[.val (.int p0), .val (.int (0 : Int32)), .unset, .unset, .unset, .unset, .unset] [(.int (p0 &&& (2 : Int32)))])) t → Steps p.tables e below (s₁.setTop (entryFrame m #[(.int p0)] maxLocals)) t := fun t kt => by
      refine pre1 _ ?_
      show Steps p.tables e below (s₁.setTop (mkF m 3 #[.val (.int p0), .unset, .unset, .unset, .unset, .unset, .unset] [(.int (p0 &&& (1 : Int32)))])) _
      refine XS.ifYes X0.here hx rfl (pc0 := 3) (pc' := 10) rfl (hb hby at_3) rfl (XT.i0_eq_t hc2) (by decide) (by decide) ?_
      show Steps p.tables e below (s₁.setTop (mkF m 10 #[.val (.int p0), .unset, .unset, .unset, .unset, .unset, .unset] [])) _
      refine XS.iconst X0.here hx rfl (hb hby at_10) ?_
      show Steps p.tables e below (s₁.setTop (mkF m 11 #[.val (.int p0), .unset, .unset, .unset, .unset, .unset, .unset] [(.int (0 : Int32))])) _
      refine XS.istoreN X0.here hx rfl (hb hby at_11) rfl (l' := #[.val (.int p0), .val (.int (0 : Int32)), .unset, .unset, .unset, .unset, .unset]) rfl ?_
      show Steps p.tables e below (s₁.setTop (mkF m 12 #[.val (.int p0), .val (.int (0 : Int32)), .unset, .unset, .unset, .unset, .unset] [])) _
      refine XS.iloadN X0.here hx rfl (hb hby at_12) rfl ?_
      show Steps p.tables e below (s₁.setTop (mkF m 13 #[.val (.int p0), .val (.int (0 : Int32)), .unset, .unset, .unset, .unset, .unset] [(.int p0)])) _
      refine XS.iconst X0.here hx rfl (hb hby at_13) ?_
      show Steps p.tables e below (s₁.setTop (mkF m 14 #[.val (.int p0), .val (.int (0 : Int32)), .unset, .unset, .unset, .unset, .unset] [(.int (2 : Int32)), (.int p0)])) _
      refine XS.iand X0.here hx rfl (hb hby at_14) rfl ?_
      exact kt
    by_cases hc4 : (p0 &&& (2 : Int32)) = (0 : Int32)
    · have pre5 : ∀ t, Steps p.tables e below (s₁.setTop (mkF m 26 #[.val (.int p0), .val (.int (0 : Int32)), .val (.int (0 : Int32)), .unset, .unset, .unset, .unset] [(.int (0 : Int32)), (.int (0 : Int32))])) t → Steps p.tables e below (s₁.setTop (entryFrame m #[(.int p0)] maxLocals)) t := fun t kt => by
        refine pre3 _ ?_
        show Steps p.tables e below (s₁.setTop (mkF m 15 #[.val (.int p0), .val (.int (0 : Int32)), .unset, .unset, .unset, .unset, .unset] [(.int (p0 &&& (2 : Int32)))])) _
        refine XS.ifYes X0.here hx rfl (pc0 := 15) (pc' := 22) rfl (hb hby at_15) rfl (XT.i0_eq_t hc4) (by decide) (by decide) ?_
        show Steps p.tables e below (s₁.setTop (mkF m 22 #[.val (.int p0), .val (.int (0 : Int32)), .unset, .unset, .unset, .unset, .unset] [])) _
        refine XS.iconst X0.here hx rfl (hb hby at_22) ?_
        show Steps p.tables e below (s₁.setTop (mkF m 23 #[.val (.int p0), .val (.int (0 : Int32)), .unset, .unset, .unset, .unset, .unset] [(.int (0 : Int32))])) _
        refine XS.istoreN X0.here hx rfl (hb hby at_23) rfl (l' := #[.val (.int p0), .val (.int (0 : Int32)), .val (.int (0 : Int32)), .unset, .unset, .unset, .unset]) rfl ?_
        show Steps p.tables e below (s₁.setTop (mkF m 24 #[.val (.int p0), .val (.int (0 : Int32)), .val (.int (0 : Int32)), .unset, .unset, .unset, .unset] [])) _
        refine XS.iloadN X0.here hx rfl (hb hby at_24) rfl ?_
        show Steps p.tables e below (s₁.setTop (mkF m 25 #[.val (.int p0), .val (.int (0 : Int32)), .val (.int (0 : Int32)), .unset, .unset, .unset, .unset] [(.int (0 : Int32))])) _
        refine XS.iloadN X0.here hx rfl (hb hby at_25) rfl ?_
        exact kt
      obtain ⟨_, _, ⟨T6, L6, k6, n6⟩, -, X6, ⟨Lc6, hQ6, l6, y6, z6⟩, st6⟩ := Jvm.LawKit.callS X0 hx (y := (⟨"com/example/contexture/contexture/engine/evaluation/TruthValue", "reported", "(ZZ)Lcom/example/contexture/contexture/engine/evaluation/TruthValue;"⟩ : MethodName)) hown (mvT hZ (hw _ (List.mem_of_getElem? (i := 0) rfl))) (mvT hZ (hw _ (List.mem_of_getElem? (i := 1) rfl))) (mvT hZ (hw _ (List.mem_of_getElem? (i := 2) rfl))) (mvT hZ (hw _ (List.mem_of_getElem? (i := 3) rfl))) (by decide) (backOf (W := 0) (rm_reported1_0 l Z a0 hw [] a_UNKNOWN h0 n0 O0 G0) hZ (hw _ (List.mem_of_getElem? (i := 3) rfl)) (hw _ (List.mem_of_getElem? (i := 2) rfl)) (by decide) (by decide)) (g := (mkF m 26 #[.val (.int p0), .val (.int (0 : Int32)), .val (.int (0 : Int32)), .unset, .unset, .unset, .unset] [(.int (0 : Int32)), (.int (0 : Int32))])) rfl (by rw [hml]; rfl) (argsL := [(.int (0 : Int32)), (.int (0 : Int32))]) (rest := []) (lenOf pd_4 rfl) rfl (by show 2 * 0 + _ ≤ _; exact Nat.le_of_eq rfl) (hb hby at_26) (fun _ _ => ⟨rfl, e0, (by decide : 0 + 0 ≤ _), (by decide : 0 + 0 ≤ _)⟩)
      dsimp only [Pt.U, Pt.locs, Pt.cells, Pt.slots] at X6 l6 y6 z6 st6 hQ6
      subst l6 y6 z6
      obtain ⟨rfl, M6, e6⟩ := hQ6
      have N6 := Fr.app N0 M6
      have pre19 : ∀ t, Steps p.tables e below (T6.setTop (mkF m 29 #[.val (.int p0), .val (.int (0 : Int32)), .val (.int (0 : Int32)), .unset, .unset, .unset, .unset] [(.ref a_UNKNOWN)])) t → Steps p.tables e below (s₁.setTop (entryFrame m #[(.int p0)] maxLocals)) t := fun t kt => pre5 _ (st6 _ kt)
      have pre20 : ∀ t, Steps p.tables e below (T6.setTop (mkF m 37 #[.val (.int p0), .val (.int (0 : Int32)), .val (.int (0 : Int32)), .val (.ref a_UNKNOWN), .unset, .unset, .unset] [(.ref a_UNKNOWN)])) t → Steps p.tables e below (s₁.setTop (entryFrame m #[(.int p0)] maxLocals)) t := fun t kt => by
        refine pre19 _ ?_
        show Steps p.tables e below (T6.setTop (mkF m 29 #[.val (.int p0), .val (.int (0 : Int32)), .val (.int (0 : Int32)), .unset, .unset, .unset, .unset] [(.ref a_UNKNOWN)])) _
        refine XS.astoreN X6.here hx rfl (hb hby at_29) rfl rfl (l' := #[.val (.int p0), .val (.int (0 : Int32)), .val (.int (0 : Int32)), .val (.ref a_UNKNOWN), .unset, .unset, .unset]) rfl ?_
        show Steps p.tables e below (T6.setTop (mkF m 30 #[.val (.int p0), .val (.int (0 : Int32)), .val (.int (0 : Int32)), .val (.ref a_UNKNOWN), .unset, .unset, .unset] [])) _
        refine XS.aloadN X6.here hx rfl (hb hby at_30) rfl rfl ?_
        show Steps p.tables e below (T6.setTop (mkF m 31 #[.val (.int p0), .val (.int (0 : Int32)), .val (.int (0 : Int32)), .val (.ref a_UNKNOWN), .unset, .unset, .unset] [(.ref a_UNKNOWN)])) _
        refine XS.ifnonnullYes X6.here hx rfl (pc0 := 31) (pc' := 36) rfl (hb hby at_31) rfl (by decide) (by decide) ?_
        show Steps p.tables e below (T6.setTop (mkF m 36 #[.val (.int p0), .val (.int (0 : Int32)), .val (.int (0 : Int32)), .val (.ref a_UNKNOWN), .unset, .unset, .unset] [])) _
        refine XS.aloadN X6.here hx rfl (hb hby at_36) rfl rfl ?_
        exact kt
      obtain ⟨T21, X21, e21, st21⟩ := getS2 X6 hx hZ hown (host := "") (Or.inl (hw _ (List.mem_of_getElem? (i := 6) rfl))) Via.refl e6 (G2.ext O0.2) (g := (mkF m 37 #[.val (.int p0), .val (.int (0 : Int32)), .val (.int (0 : Int32)), .val (.ref a_UNKNOWN), .unset, .unset, .unset] [(.ref a_UNKNOWN)])) rfl (hb hby at_37)
      have pre22 : ∀ t, Steps p.tables e below (T21.setTop (mkF m 40 #[.val (.int p0), .val (.int (0 : Int32)), .val (.int (0 : Int32)), .val (.ref a_UNKNOWN), .unset, .unset, .unset] [(.ref a_TRUE), (.ref a_UNKNOWN)])) t → Steps p.tables e below (s₁.setTop (entryFrame m #[(.int p0)] maxLocals)) t := fun t kt => pre20 _ (st21 _ kt)
      have pre23 : ∀ t, Steps p.tables e below (T21.setTop (mkF m 51 #[.val (.int p0), .val (.int (0 : Int32)), .val (.int (0 : Int32)), .val (.ref a_UNKNOWN), .val (.int (0 : Int32)), .unset, .unset] [(.ref a_UNKNOWN)])) t → Steps p.tables e below (s₁.setTop (entryFrame m #[(.int p0)] maxLocals)) t := fun t kt => by
        refine pre22 _ ?_
        show Steps p.tables e below (T21.setTop (mkF m 40 #[.val (.int p0), .val (.int (0 : Int32)), .val (.int (0 : Int32)), .val (.ref a_UNKNOWN), .unset, .unset, .unset] [(.ref a_TRUE), (.ref a_UNKNOWN)])) _
        refine Jvm.RoadKit.acmp (g := (mkF m 40 #[.val (.int p0), .val (.int (0 : Int32)), .val (.int (0 : Int32)), .val (.ref a_UNKNOWN), .unset, .unset, .unset] [(.ref a_TRUE), (.ref a_UNKNOWN)])) X21 hx rfl rfl rfl (pc0 := 40) (pc' := 47) (same := false) rfl (hb hby at_40) rfl (decide_eq_false fun q => ne_a_UNKNOWN_a_TRUE (Value.ref.inj q)) (by decide) (by decide) ?_
        show Steps p.tables e below (T21.setTop (mkF m 47 #[.val (.int p0), .val (.int (0 : Int32)), .val (.int (0 : Int32)), .val (.ref a_UNKNOWN), .unset, .unset, .unset] [])) _
        refine XS.iconst X21.here hx rfl (hb hby at_47) ?_
        show Steps p.tables e below (T21.setTop (mkF m 48 #[.val (.int p0), .val (.int (0 : Int32)), .val (.int (0 : Int32)), .val (.ref a_UNKNOWN), .unset, .unset, .unset] [(.int (0 : Int32))])) _
        refine XS.istore X21.here hx rfl (hb hby at_48) rfl (l' := #[.val (.int p0), .val (.int (0 : Int32)), .val (.int (0 : Int32)), .val (.ref a_UNKNOWN), .val (.int (0 : Int32)), .unset, .unset]) rfl ?_
        show Steps p.tables e below (T21.setTop (mkF m 50 #[.val (.int p0), .val (.int (0 : Int32)), .val (.int (0 : Int32)), .val (.ref a_UNKNOWN), .val (.int (0 : Int32)), .unset, .unset] [])) _
        refine XS.aloadN X21.here hx rfl (hb hby at_50) rfl rfl ?_
        exact kt
      obtain ⟨T24, X24, e24, st24⟩ := getS2 X21 hx hZ hown (host := "") (Or.inl (hw _ (List.mem_of_getElem? (i := 8) rfl))) Via.refl e21 (G4.ext O0.2) (g := (mkF m 51 #[.val (.int p0), .val (.int (0 : Int32)), .val (.int (0 : Int32)), .val (.ref a_UNKNOWN), .val (.int (0 : Int32)), .unset, .unset] [(.ref a_UNKNOWN)])) rfl (hb hby at_51)
      have pre25 : ∀ t, Steps p.tables e below (T24.setTop (mkF m 54 #[.val (.int p0), .val (.int (0 : Int32)), .val (.int (0 : Int32)), .val (.ref a_UNKNOWN), .val (.int (0 : Int32)), .unset, .unset] [(.ref a_FALSE), (.ref a_UNKNOWN)])) t → Steps p.tables e below (s₁.setTop (entryFrame m #[(.int p0)] maxLocals)) t := fun t kt => pre23 _ (st24 _ kt)
      have pre26 : ∀ t, Steps p.tables e below (T24.setTop (mkF m 65 #[.val (.int p0), .val (.int (0 : Int32)), .val (.int (0 : Int32)), .val (.ref a_UNKNOWN), .val (.int (0 : Int32)), .val (.int (0 : Int32)), .unset] [(.ref a_UNKNOWN)])) t → Steps p.tables e below (s₁.setTop (entryFrame m #[(.int p0)] maxLocals)) t := fun t kt => by
        refine pre25 _ ?_
        show Steps p.tables e below (T24.setTop (mkF m 54 #[.val (.int p0), .val (.int (0 : Int32)), .val (.int (0 : Int32)), .val (.ref a_UNKNOWN), .val (.int (0 : Int32)), .unset, .unset] [(.ref a_FALSE), (.ref a_UNKNOWN)])) _
        refine Jvm.RoadKit.acmp (g := (mkF m 54 #[.val (.int p0), .val (.int (0 : Int32)), .val (.int (0 : Int32)), .val (.ref a_UNKNOWN), .val (.int (0 : Int32)), .unset, .unset] [(.ref a_FALSE), (.ref a_UNKNOWN)])) X24 hx rfl rfl rfl (pc0 := 54) (pc' := 61) (same := false) rfl (hb hby at_54) rfl (decide_eq_false fun q => ne_a_UNKNOWN_a_FALSE (Value.ref.inj q)) (by decide) (by decide) ?_
        show Steps p.tables e below (T24.setTop (mkF m 61 #[.val (.int p0), .val (.int (0 : Int32)), .val (.int (0 : Int32)), .val (.ref a_UNKNOWN), .val (.int (0 : Int32)), .unset, .unset] [])) _
        refine XS.iconst X24.here hx rfl (hb hby at_61) ?_
        show Steps p.tables e below (T24.setTop (mkF m 62 #[.val (.int p0), .val (.int (0 : Int32)), .val (.int (0 : Int32)), .val (.ref a_UNKNOWN), .val (.int (0 : Int32)), .unset, .unset] [(.int (0 : Int32))])) _
        refine XS.istore X24.here hx rfl (hb hby at_62) rfl (l' := #[.val (.int p0), .val (.int (0 : Int32)), .val (.int (0 : Int32)), .val (.ref a_UNKNOWN), .val (.int (0 : Int32)), .val (.int (0 : Int32)), .unset]) rfl ?_
        show Steps p.tables e below (T24.setTop (mkF m 64 #[.val (.int p0), .val (.int (0 : Int32)), .val (.int (0 : Int32)), .val (.ref a_UNKNOWN), .val (.int (0 : Int32)), .val (.int (0 : Int32)), .unset] [])) _
        refine XS.aloadN X24.here hx rfl (hb hby at_64) rfl rfl ?_
        exact kt
      obtain ⟨T27, X27, e27, st27⟩ := getS2 X24 hx hZ hown (host := "") (Or.inl (hw _ (List.mem_of_getElem? (i := 10) rfl))) Via.refl e24 (G0.ext O0.2) (g := (mkF m 65 #[.val (.int p0), .val (.int (0 : Int32)), .val (.int (0 : Int32)), .val (.ref a_UNKNOWN), .val (.int (0 : Int32)), .val (.int (0 : Int32)), .unset] [(.ref a_UNKNOWN)])) rfl (hb hby at_65)
      have pre28 : ∀ t, Steps p.tables e below (T27.setTop (mkF m 68 #[.val (.int p0), .val (.int (0 : Int32)), .val (.int (0 : Int32)), .val (.ref a_UNKNOWN), .val (.int (0 : Int32)), .val (.int (0 : Int32)), .unset] [(.ref a_UNKNOWN), (.ref a_UNKNOWN)])) t → Steps p.tables e below (s₁.setTop (entryFrame m #[(.int p0)] maxLocals)) t := fun t kt => pre26 _ (st27 _ kt)
      have pre29 : ∀ t, Steps p.tables e below (T27.setTop (mkF m 141 #[.val (.int p0), .val (.int (0 : Int32)), .val (.int (0 : Int32)), .val (.ref a_UNKNOWN), .val (.int (0 : Int32)), .val (.int (0 : Int32)), .val (.int (1 : Int32))] [(.int (1 : Int32))])) t → Steps p.tables e below (s₁.setTop (entryFrame m #[(.int p0)] maxLocals)) t := fun t kt => by
        refine pre28 _ ?_
        show Steps p.tables e below (T27.setTop (mkF m 68 #[.val (.int p0), .val (.int (0 : Int32)), .val (.int (0 : Int32)), .val (.ref a_UNKNOWN), .val (.int (0 : Int32)), .val (.int (0 : Int32)), .unset] [(.ref a_UNKNOWN), (.ref a_UNKNOWN)])) _
        refine Jvm.RoadKit.acmp (g := (mkF m 68 #[.val (.int p0), .val (.int (0 : Int32)), .val (.int (0 : Int32)), .val (.ref a_UNKNOWN), .val (.int (0 : Int32)), .val (.int (0 : Int32)), .unset] [(.ref a_UNKNOWN), (.ref a_UNKNOWN)])) X27 hx rfl rfl rfl (pc0 := 68) (pc' := 71) (same := true) rfl (hb hby at_68) rfl (decide_eq_true rfl) (by decide) (by decide) ?_
        show Steps p.tables e below (T27.setTop (mkF m 71 #[.val (.int p0), .val (.int (0 : Int32)), .val (.int (0 : Int32)), .val (.ref a_UNKNOWN), .val (.int (0 : Int32)), .val (.int (0 : Int32)), .unset] [])) _
        refine XS.iconst X27.here hx rfl (hb hby at_71) ?_
        show Steps p.tables e below (T27.setTop (mkF m 72 #[.val (.int p0), .val (.int (0 : Int32)), .val (.int (0 : Int32)), .val (.ref a_UNKNOWN), .val (.int (0 : Int32)), .val (.int (0 : Int32)), .unset] [(.int (1 : Int32))])) _
        refine XS.goto X27.here hx rfl (pc0 := 72) (pc' := 76) rfl (hb hby at_72) (by decide) (by decide) ?_
        show Steps p.tables e below (T27.setTop (mkF m 76 #[.val (.int p0), .val (.int (0 : Int32)), .val (.int (0 : Int32)), .val (.ref a_UNKNOWN), .val (.int (0 : Int32)), .val (.int (0 : Int32)), .unset] [(.int (1 : Int32))])) _
        refine XS.istore X27.here hx rfl (hb hby at_76) rfl (l' := #[.val (.int p0), .val (.int (0 : Int32)), .val (.int (0 : Int32)), .val (.ref a_UNKNOWN), .val (.int (0 : Int32)), .val (.int (0 : Int32)), .val (.int (1 : Int32))]) rfl ?_
        show Steps p.tables e below (T27.setTop (mkF m 78 #[.val (.int p0), .val (.int (0 : Int32)), .val (.int (0 : Int32)), .val (.ref a_UNKNOWN), .val (.int (0 : Int32)), .val (.int (0 : Int32)), .val (.int (1 : Int32))] [])) _
        refine XS.iload X27.here hx rfl (hb hby at_78) rfl ?_
        show Steps p.tables e below (T27.setTop (mkF m 80 #[.val (.int p0), .val (.int (0 : Int32)), .val (.int (0 : Int32)), .val (.ref a_UNKNOWN), .val (.int (0 : Int32)), .val (.int (0 : Int32)), .val (.int (1 : Int32))] [(.int (0 : Int32))])) _
        refine XS.iloadN X27.here hx rfl (hb hby at_80) rfl ?_
        show Steps p.tables e below (T27.setTop (mkF m 81 #[.val (.int p0), .val (.int (0 : Int32)), .val (.int (0 : Int32)), .val (.ref a_UNKNOWN), .val (.int (0 : Int32)), .val (.int (0 : Int32)), .val (.int (1 : Int32))] [(.int (0 : Int32)), (.int (0 : Int32))])) _
        refine XS.icmpYes X27.here hx rfl (pc0 := 81) (pc' := 86) rfl (hb hby at_81) rfl (XT.ii_eq_t (by decide)) (by decide) (by decide) ?_
        show Steps p.tables e below (T27.setTop (mkF m 86 #[.val (.int p0), .val (.int (0 : Int32)), .val (.int (0 : Int32)), .val (.ref a_UNKNOWN), .val (.int (0 : Int32)), .val (.int (0 : Int32)), .val (.int (1 : Int32))] [])) _
        refine XS.iload X27.here hx rfl (hb hby at_86) rfl ?_
        show Steps p.tables e below (T27.setTop (mkF m 88 #[.val (.int p0), .val (.int (0 : Int32)), .val (.int (0 : Int32)), .val (.ref a_UNKNOWN), .val (.int (0 : Int32)), .val (.int (0 : Int32)), .val (.int (1 : Int32))] [(.int (0 : Int32))])) _
        refine XS.iloadN X27.here hx rfl (hb hby at_88) rfl ?_
        show Steps p.tables e below (T27.setTop (mkF m 89 #[.val (.int p0), .val (.int (0 : Int32)), .val (.int (0 : Int32)), .val (.ref a_UNKNOWN), .val (.int (0 : Int32)), .val (.int (0 : Int32)), .val (.int (1 : Int32))] [(.int (0 : Int32)), (.int (0 : Int32))])) _
        refine XS.ifNo X27.here hx rfl (hb hby at_89) rfl (XT.i0_ne_f (by decide)) ?_
        show Steps p.tables e below (T27.setTop (mkF m 92 #[.val (.int p0), .val (.int (0 : Int32)), .val (.int (0 : Int32)), .val (.ref a_UNKNOWN), .val (.int (0 : Int32)), .val (.int (0 : Int32)), .val (.int (1 : Int32))] [(.int (0 : Int32))])) _
        refine XS.iloadN X27.here hx rfl (hb hby at_92) rfl ?_
        show Steps p.tables e below (T27.setTop (mkF m 93 #[.val (.int p0), .val (.int (0 : Int32)), .val (.int (0 : Int32)), .val (.ref a_UNKNOWN), .val (.int (0 : Int32)), .val (.int (0 : Int32)), .val (.int (1 : Int32))] [(.int (0 : Int32)), (.int (0 : Int32))])) _
        refine XS.ifYes X27.here hx rfl (pc0 := 93) (pc' := 100) rfl (hb hby at_93) rfl (XT.i0_eq_t (by decide)) (by decide) (by decide) ?_
        show Steps p.tables e below (T27.setTop (mkF m 100 #[.val (.int p0), .val (.int (0 : Int32)), .val (.int (0 : Int32)), .val (.ref a_UNKNOWN), .val (.int (0 : Int32)), .val (.int (0 : Int32)), .val (.int (1 : Int32))] [(.int (0 : Int32))])) _
        refine XS.iconst X27.here hx rfl (hb hby at_100) ?_
        show Steps p.tables e below (T27.setTop (mkF m 101 #[.val (.int p0), .val (.int (0 : Int32)), .val (.int (0 : Int32)), .val (.ref a_UNKNOWN), .val (.int (0 : Int32)), .val (.int (0 : Int32)), .val (.int (1 : Int32))] [(.int (0 : Int32)), (.int (0 : Int32))])) _
        refine XS.icmpYes X27.here hx rfl (pc0 := 101) (pc' := 106) rfl (hb hby at_101) rfl (XT.ii_eq_t (by decide)) (by decide) (by decide) ?_
        show Steps p.tables e below (T27.setTop (mkF m 106 #[.val (.int p0), .val (.int (0 : Int32)), .val (.int (0 : Int32)), .val (.ref a_UNKNOWN), .val (.int (0 : Int32)), .val (.int (0 : Int32)), .val (.int (1 : Int32))] [])) _
        refine XS.iload X27.here hx rfl (hb hby at_106) rfl ?_
        show Steps p.tables e below (T27.setTop (mkF m 108 #[.val (.int p0), .val (.int (0 : Int32)), .val (.int (0 : Int32)), .val (.ref a_UNKNOWN), .val (.int (0 : Int32)), .val (.int (0 : Int32)), .val (.int (1 : Int32))] [(.int (1 : Int32))])) _
        refine XS.iloadN X27.here hx rfl (hb hby at_108) rfl ?_
        show Steps p.tables e below (T27.setTop (mkF m 109 #[.val (.int p0), .val (.int (0 : Int32)), .val (.int (0 : Int32)), .val (.ref a_UNKNOWN), .val (.int (0 : Int32)), .val (.int (0 : Int32)), .val (.int (1 : Int32))] [(.int (0 : Int32)), (.int (1 : Int32))])) _
        refine XS.ifNo X27.here hx rfl (hb hby at_109) rfl (XT.i0_ne_f (by decide)) ?_
        show Steps p.tables e below (T27.setTop (mkF m 112 #[.val (.int p0), .val (.int (0 : Int32)), .val (.int (0 : Int32)), .val (.ref a_UNKNOWN), .val (.int (0 : Int32)), .val (.int (0 : Int32)), .val (.int (1 : Int32))] [(.int (1 : Int32))])) _
        refine XS.iloadN X27.here hx rfl (hb hby at_112) rfl ?_
        show Steps p.tables e below (T27.setTop (mkF m 113 #[.val (.int p0), .val (.int (0 : Int32)), .val (.int (0 : Int32)), .val (.ref a_UNKNOWN), .val (.int (0 : Int32)), .val (.int (0 : Int32)), .val (.int (1 : Int32))] [(.int (0 : Int32)), (.int (1 : Int32))])) _
        refine XS.ifNo X27.here hx rfl (hb hby at_113) rfl (XT.i0_ne_f (by decide)) ?_
        show Steps p.tables e below (T27.setTop (mkF m 116 #[.val (.int p0), .val (.int (0 : Int32)), .val (.int (0 : Int32)), .val (.ref a_UNKNOWN), .val (.int (0 : Int32)), .val (.int (0 : Int32)), .val (.int (1 : Int32))] [(.int (1 : Int32))])) _
        refine XS.iconst X27.here hx rfl (hb hby at_116) ?_
        show Steps p.tables e below (T27.setTop (mkF m 117 #[.val (.int p0), .val (.int (0 : Int32)), .val (.int (0 : Int32)), .val (.ref a_UNKNOWN), .val (.int (0 : Int32)), .val (.int (0 : Int32)), .val (.int (1 : Int32))] [(.int (1 : Int32)), (.int (1 : Int32))])) _
        refine XS.goto X27.here hx rfl (pc0 := 117) (pc' := 121) rfl (hb hby at_117) (by decide) (by decide) ?_
        show Steps p.tables e below (T27.setTop (mkF m 121 #[.val (.int p0), .val (.int (0 : Int32)), .val (.int (0 : Int32)), .val (.ref a_UNKNOWN), .val (.int (0 : Int32)), .val (.int (0 : Int32)), .val (.int (1 : Int32))] [(.int (1 : Int32)), (.int (1 : Int32))])) _
        refine XS.icmpYes X27.here hx rfl (pc0 := 121) (pc' := 126) rfl (hb hby at_121) rfl (XT.ii_eq_t (by decide)) (by decide) (by decide) ?_
        show Steps p.tables e below (T27.setTop (mkF m 126 #[.val (.int p0), .val (.int (0 : Int32)), .val (.int (0 : Int32)), .val (.ref a_UNKNOWN), .val (.int (0 : Int32)), .val (.int (0 : Int32)), .val (.int (1 : Int32))] [])) _
        refine XS.iloadN X27.here hx rfl (hb hby at_126) rfl ?_
        show Steps p.tables e below (T27.setTop (mkF m 127 #[.val (.int p0), .val (.int (0 : Int32)), .val (.int (0 : Int32)), .val (.ref a_UNKNOWN), .val (.int (0 : Int32)), .val (.int (0 : Int32)), .val (.int (1 : Int32))] [(.int (0 : Int32))])) _
        refine XS.ifYes X27.here hx rfl (pc0 := 127) (pc' := 140) rfl (hb hby at_127) rfl (XT.i0_eq_t (by decide)) (by decide) (by decide) ?_
        show Steps p.tables e below (T27.setTop (mkF m 140 #[.val (.int p0), .val (.int (0 : Int32)), .val (.int (0 : Int32)), .val (.ref a_UNKNOWN), .val (.int (0 : Int32)), .val (.int (0 : Int32)), .val (.int (1 : Int32))] [])) _
        refine XS.iconst X27.here hx rfl (hb hby at_140) ?_
        exact kt
      obtain ⟨fs, hr, hrun, hended, hW, hsame⟩ := X27.leave (v := some (.int (1 : Int32))) (fun h => by rw [Bd.returns] at h; cases h)
      refine ⟨_, _, pre29 _ (retN X27 hx (t := .boolean) Bd.returns (by simp) (hb hby at_141) hr), hrun, hended, _, _, rfl, ?_, ⟨_, rfl⟩, hW, hsame.mono (by decide) (by decide)⟩
      show Q_law Z p0 a_UNKNOWN a_TRUE a_FALSE h0 n0 _ T27.heap _
      rw [e27]
      exact ⟨rfl, N6⟩
    · have pre30 : ∀ t, Steps p.tables e below (s₁.setTop (mkF m 26 #[.val (.int p0), .val (.int (0 : Int32)), .val (.int (1 : Int32)), .unset, .unset, .unset, .unset] [(.int (1 : Int32)), (.int (0 : Int32))])) t → Steps p.tables e below (s₁.setTop (entryFrame m #[(.int p0)] maxLocals)) t := fun t kt => by
        refine pre3 _ ?_
        show Steps p.tables e below (s₁.setTop (mkF m 15 #[.val (.int p0), .val (.int (0 : Int32)), .unset, .unset, .unset, .unset, .unset] [(.int (p0 &&& (2 : Int32)))])) _
        refine XS.ifNo X0.here hx rfl (hb hby at_15) rfl (XT.i0_eq_f hc4) ?_
        show Steps p.tables e below (s₁.setTop (mkF m 18 #[.val (.int p0), .val (.int (0 : Int32)), .unset, .unset, .unset, .unset, .unset] [])) _
        refine XS.iconst X0.here hx rfl (hb hby at_18) ?_
        show Steps p.tables e below (s₁.setTop (mkF m 19 #[.val (.int p0), .val (.int (0 : Int32)), .unset, .unset, .unset, .unset, .unset] [(.int (1 : Int32))])) _
        refine XS.goto X0.here hx rfl (pc0 := 19) (pc' := 23) rfl (hb hby at_19) (by decide) (by decide) ?_
        show Steps p.tables e below (s₁.setTop (mkF m 23 #[.val (.int p0), .val (.int (0 : Int32)), .unset, .unset, .unset, .unset, .unset] [(.int (1 : Int32))])) _
        refine XS.istoreN X0.here hx rfl (hb hby at_23) rfl (l' := #[.val (.int p0), .val (.int (0 : Int32)), .val (.int (1 : Int32)), .unset, .unset, .unset, .unset]) rfl ?_
        show Steps p.tables e below (s₁.setTop (mkF m 24 #[.val (.int p0), .val (.int (0 : Int32)), .val (.int (1 : Int32)), .unset, .unset, .unset, .unset] [])) _
        refine XS.iloadN X0.here hx rfl (hb hby at_24) rfl ?_
        show Steps p.tables e below (s₁.setTop (mkF m 25 #[.val (.int p0), .val (.int (0 : Int32)), .val (.int (1 : Int32)), .unset, .unset, .unset, .unset] [(.int (0 : Int32))])) _
        refine XS.iloadN X0.here hx rfl (hb hby at_25) rfl ?_
        exact kt
      obtain ⟨_, _, ⟨T31, L31, k31, n31⟩, -, X31, ⟨Lc31, hQ31, l31, y31, z31⟩, st31⟩ := Jvm.LawKit.callS X0 hx (y := (⟨"com/example/contexture/contexture/engine/evaluation/TruthValue", "reported", "(ZZ)Lcom/example/contexture/contexture/engine/evaluation/TruthValue;"⟩ : MethodName)) hown (mvT hZ (hw _ (List.mem_of_getElem? (i := 0) rfl))) (mvT hZ (hw _ (List.mem_of_getElem? (i := 1) rfl))) (mvT hZ (hw _ (List.mem_of_getElem? (i := 2) rfl))) (mvT hZ (hw _ (List.mem_of_getElem? (i := 3) rfl))) (by decide) (backOf (W := 0) (rm_reported1_1 l Z a0 hw [] a_FALSE h0 n0 O0 G4) hZ (hw _ (List.mem_of_getElem? (i := 3) rfl)) (hw _ (List.mem_of_getElem? (i := 2) rfl)) (by decide) (by decide)) (g := (mkF m 26 #[.val (.int p0), .val (.int (0 : Int32)), .val (.int (1 : Int32)), .unset, .unset, .unset, .unset] [(.int (1 : Int32)), (.int (0 : Int32))])) rfl (by rw [hml]; rfl) (argsL := [(.int (0 : Int32)), (.int (1 : Int32))]) (rest := []) (lenOf pd_4 rfl) rfl (by show 2 * 0 + _ ≤ _; exact Nat.le_of_eq rfl) (hb hby at_26) (fun _ _ => ⟨rfl, e0, (by decide : 0 + 0 ≤ _), (by decide : 0 + 0 ≤ _)⟩)
      dsimp only [Pt.U, Pt.locs, Pt.cells, Pt.slots] at X31 l31 y31 z31 st31 hQ31
      subst l31 y31 z31
      obtain ⟨rfl, M31, e31⟩ := hQ31
      have N31 := Fr.app N0 M31
      have pre44 : ∀ t, Steps p.tables e below (T31.setTop (mkF m 29 #[.val (.int p0), .val (.int (0 : Int32)), .val (.int (1 : Int32)), .unset, .unset, .unset, .unset] [(.ref a_FALSE)])) t → Steps p.tables e below (s₁.setTop (entryFrame m #[(.int p0)] maxLocals)) t := fun t kt => pre30 _ (st31 _ kt)
      have pre45 : ∀ t, Steps p.tables e below (T31.setTop (mkF m 37 #[.val (.int p0), .val (.int (0 : Int32)), .val (.int (1 : Int32)), .val (.ref a_FALSE), .unset, .unset, .unset] [(.ref a_FALSE)])) t → Steps p.tables e below (s₁.setTop (entryFrame m #[(.int p0)] maxLocals)) t := fun t kt => by
        refine pre44 _ ?_
        show Steps p.tables e below (T31.setTop (mkF m 29 #[.val (.int p0), .val (.int (0 : Int32)), .val (.int (1 : Int32)), .unset, .unset, .unset, .unset] [(.ref a_FALSE)])) _
        refine XS.astoreN X31.here hx rfl (hb hby at_29) rfl rfl (l' := #[.val (.int p0), .val (.int (0 : Int32)), .val (.int (1 : Int32)), .val (.ref a_FALSE), .unset, .unset, .unset]) rfl ?_
        show Steps p.tables e below (T31.setTop (mkF m 30 #[.val (.int p0), .val (.int (0 : Int32)), .val (.int (1 : Int32)), .val (.ref a_FALSE), .unset, .unset, .unset] [])) _
        refine XS.aloadN X31.here hx rfl (hb hby at_30) rfl rfl ?_
        show Steps p.tables e below (T31.setTop (mkF m 31 #[.val (.int p0), .val (.int (0 : Int32)), .val (.int (1 : Int32)), .val (.ref a_FALSE), .unset, .unset, .unset] [(.ref a_FALSE)])) _
        refine XS.ifnonnullYes X31.here hx rfl (pc0 := 31) (pc' := 36) rfl (hb hby at_31) rfl (by decide) (by decide) ?_
        show Steps p.tables e below (T31.setTop (mkF m 36 #[.val (.int p0), .val (.int (0 : Int32)), .val (.int (1 : Int32)), .val (.ref a_FALSE), .unset, .unset, .unset] [])) _
        refine XS.aloadN X31.here hx rfl (hb hby at_36) rfl rfl ?_
        exact kt
      obtain ⟨T46, X46, e46, st46⟩ := getS2 X31 hx hZ hown (host := "") (Or.inl (hw _ (List.mem_of_getElem? (i := 6) rfl))) Via.refl e31 (G2.ext O0.2) (g := (mkF m 37 #[.val (.int p0), .val (.int (0 : Int32)), .val (.int (1 : Int32)), .val (.ref a_FALSE), .unset, .unset, .unset] [(.ref a_FALSE)])) rfl (hb hby at_37)
      have pre47 : ∀ t, Steps p.tables e below (T46.setTop (mkF m 40 #[.val (.int p0), .val (.int (0 : Int32)), .val (.int (1 : Int32)), .val (.ref a_FALSE), .unset, .unset, .unset] [(.ref a_TRUE), (.ref a_FALSE)])) t → Steps p.tables e below (s₁.setTop (entryFrame m #[(.int p0)] maxLocals)) t := fun t kt => pre45 _ (st46 _ kt)
      have pre48 : ∀ t, Steps p.tables e below (T46.setTop (mkF m 51 #[.val (.int p0), .val (.int (0 : Int32)), .val (.int (1 : Int32)), .val (.ref a_FALSE), .val (.int (0 : Int32)), .unset, .unset] [(.ref a_FALSE)])) t → Steps p.tables e below (s₁.setTop (entryFrame m #[(.int p0)] maxLocals)) t := fun t kt => by
        refine pre47 _ ?_
        show Steps p.tables e below (T46.setTop (mkF m 40 #[.val (.int p0), .val (.int (0 : Int32)), .val (.int (1 : Int32)), .val (.ref a_FALSE), .unset, .unset, .unset] [(.ref a_TRUE), (.ref a_FALSE)])) _
        refine Jvm.RoadKit.acmp (g := (mkF m 40 #[.val (.int p0), .val (.int (0 : Int32)), .val (.int (1 : Int32)), .val (.ref a_FALSE), .unset, .unset, .unset] [(.ref a_TRUE), (.ref a_FALSE)])) X46 hx rfl rfl rfl (pc0 := 40) (pc' := 47) (same := false) rfl (hb hby at_40) rfl (decide_eq_false fun q => (fun q => ne_a_TRUE_a_FALSE q.symm) (Value.ref.inj q)) (by decide) (by decide) ?_
        show Steps p.tables e below (T46.setTop (mkF m 47 #[.val (.int p0), .val (.int (0 : Int32)), .val (.int (1 : Int32)), .val (.ref a_FALSE), .unset, .unset, .unset] [])) _
        refine XS.iconst X46.here hx rfl (hb hby at_47) ?_
        show Steps p.tables e below (T46.setTop (mkF m 48 #[.val (.int p0), .val (.int (0 : Int32)), .val (.int (1 : Int32)), .val (.ref a_FALSE), .unset, .unset, .unset] [(.int (0 : Int32))])) _
        refine XS.istore X46.here hx rfl (hb hby at_48) rfl (l' := #[.val (.int p0), .val (.int (0 : Int32)), .val (.int (1 : Int32)), .val (.ref a_FALSE), .val (.int (0 : Int32)), .unset, .unset]) rfl ?_
        show Steps p.tables e below (T46.setTop (mkF m 50 #[.val (.int p0), .val (.int (0 : Int32)), .val (.int (1 : Int32)), .val (.ref a_FALSE), .val (.int (0 : Int32)), .unset, .unset] [])) _
        refine XS.aloadN X46.here hx rfl (hb hby at_50) rfl rfl ?_
        exact kt
      obtain ⟨T49, X49, e49, st49⟩ := getS2 X46 hx hZ hown (host := "") (Or.inl (hw _ (List.mem_of_getElem? (i := 8) rfl))) Via.refl e46 (G4.ext O0.2) (g := (mkF m 51 #[.val (.int p0), .val (.int (0 : Int32)), .val (.int (1 : Int32)), .val (.ref a_FALSE), .val (.int (0 : Int32)), .unset, .unset] [(.ref a_FALSE)])) rfl (hb hby at_51)
      have pre50 : ∀ t, Steps p.tables e below (T49.setTop (mkF m 54 #[.val (.int p0), .val (.int (0 : Int32)), .val (.int (1 : Int32)), .val (.ref a_FALSE), .val (.int (0 : Int32)), .unset, .unset] [(.ref a_FALSE), (.ref a_FALSE)])) t → Steps p.tables e below (s₁.setTop (entryFrame m #[(.int p0)] maxLocals)) t := fun t kt => pre48 _ (st49 _ kt)
      have pre51 : ∀ t, Steps p.tables e below (T49.setTop (mkF m 65 #[.val (.int p0), .val (.int (0 : Int32)), .val (.int (1 : Int32)), .val (.ref a_FALSE), .val (.int (0 : Int32)), .val (.int (1 : Int32)), .unset] [(.ref a_FALSE)])) t → Steps p.tables e below (s₁.setTop (entryFrame m #[(.int p0)] maxLocals)) t := fun t kt => by
        refine pre50 _ ?_
        show Steps p.tables e below (T49.setTop (mkF m 54 #[.val (.int p0), .val (.int (0 : Int32)), .val (.int (1 : Int32)), .val (.ref a_FALSE), .val (.int (0 : Int32)), .unset, .unset] [(.ref a_FALSE), (.ref a_FALSE)])) _
        refine Jvm.RoadKit.acmp (g := (mkF m 54 #[.val (.int p0), .val (.int (0 : Int32)), .val (.int (1 : Int32)), .val (.ref a_FALSE), .val (.int (0 : Int32)), .unset, .unset] [(.ref a_FALSE), (.ref a_FALSE)])) X49 hx rfl rfl rfl (pc0 := 54) (pc' := 57) (same := true) rfl (hb hby at_54) rfl (decide_eq_true rfl) (by decide) (by decide) ?_
        show Steps p.tables e below (T49.setTop (mkF m 57 #[.val (.int p0), .val (.int (0 : Int32)), .val (.int (1 : Int32)), .val (.ref a_FALSE), .val (.int (0 : Int32)), .unset, .unset] [])) _
        refine XS.iconst X49.here hx rfl (hb hby at_57) ?_
        show Steps p.tables e below (T49.setTop (mkF m 58 #[.val (.int p0), .val (.int (0 : Int32)), .val (.int (1 : Int32)), .val (.ref a_FALSE), .val (.int (0 : Int32)), .unset, .unset] [(.int (1 : Int32))])) _
        refine XS.goto X49.here hx rfl (pc0 := 58) (pc' := 62) rfl (hb hby at_58) (by decide) (by decide) ?_
        show Steps p.tables e below (T49.setTop (mkF m 62 #[.val (.int p0), .val (.int (0 : Int32)), .val (.int (1 : Int32)), .val (.ref a_FALSE), .val (.int (0 : Int32)), .unset, .unset] [(.int (1 : Int32))])) _
        refine XS.istore X49.here hx rfl (hb hby at_62) rfl (l' := #[.val (.int p0), .val (.int (0 : Int32)), .val (.int (1 : Int32)), .val (.ref a_FALSE), .val (.int (0 : Int32)), .val (.int (1 : Int32)), .unset]) rfl ?_
        show Steps p.tables e below (T49.setTop (mkF m 64 #[.val (.int p0), .val (.int (0 : Int32)), .val (.int (1 : Int32)), .val (.ref a_FALSE), .val (.int (0 : Int32)), .val (.int (1 : Int32)), .unset] [])) _
        refine XS.aloadN X49.here hx rfl (hb hby at_64) rfl rfl ?_
        exact kt
      obtain ⟨T52, X52, e52, st52⟩ := getS2 X49 hx hZ hown (host := "") (Or.inl (hw _ (List.mem_of_getElem? (i := 10) rfl))) Via.refl e49 (G0.ext O0.2) (g := (mkF m 65 #[.val (.int p0), .val (.int (0 : Int32)), .val (.int (1 : Int32)), .val (.ref a_FALSE), .val (.int (0 : Int32)), .val (.int (1 : Int32)), .unset] [(.ref a_FALSE)])) rfl (hb hby at_65)
      have pre53 : ∀ t, Steps p.tables e below (T52.setTop (mkF m 68 #[.val (.int p0), .val (.int (0 : Int32)), .val (.int (1 : Int32)), .val (.ref a_FALSE), .val (.int (0 : Int32)), .val (.int (1 : Int32)), .unset] [(.ref a_UNKNOWN), (.ref a_FALSE)])) t → Steps p.tables e below (s₁.setTop (entryFrame m #[(.int p0)] maxLocals)) t := fun t kt => pre51 _ (st52 _ kt)
      have pre54 : ∀ t, Steps p.tables e below (T52.setTop (mkF m 132 #[.val (.int p0), .val (.int (0 : Int32)), .val (.int (1 : Int32)), .val (.ref a_FALSE), .val (.int (0 : Int32)), .val (.int (1 : Int32)), .val (.int (0 : Int32))] [(.int (0 : Int32)), (.ref a_FALSE)])) t → Steps p.tables e below (s₁.setTop (entryFrame m #[(.int p0)] maxLocals)) t := fun t kt => by
        refine pre53 _ ?_
        show Steps p.tables e below (T52.setTop (mkF m 68 #[.val (.int p0), .val (.int (0 : Int32)), .val (.int (1 : Int32)), .val (.ref a_FALSE), .val (.int (0 : Int32)), .val (.int (1 : Int32)), .unset] [(.ref a_UNKNOWN), (.ref a_FALSE)])) _
        refine Jvm.RoadKit.acmp (g := (mkF m 68 #[.val (.int p0), .val (.int (0 : Int32)), .val (.int (1 : Int32)), .val (.ref a_FALSE), .val (.int (0 : Int32)), .val (.int (1 : Int32)), .unset] [(.ref a_UNKNOWN), (.ref a_FALSE)])) X52 hx rfl rfl rfl (pc0 := 68) (pc' := 75) (same := false) rfl (hb hby at_68) rfl (decide_eq_false fun q => (fun q => ne_a_UNKNOWN_a_FALSE q.symm) (Value.ref.inj q)) (by decide) (by decide) ?_
        show Steps p.tables e below (T52.setTop (mkF m 75 #[.val (.int p0), .val (.int (0 : Int32)), .val (.int (1 : Int32)), .val (.ref a_FALSE), .val (.int (0 : Int32)), .val (.int (1 : Int32)), .unset] [])) _
        refine XS.iconst X52.here hx rfl (hb hby at_75) ?_
        show Steps p.tables e below (T52.setTop (mkF m 76 #[.val (.int p0), .val (.int (0 : Int32)), .val (.int (1 : Int32)), .val (.ref a_FALSE), .val (.int (0 : Int32)), .val (.int (1 : Int32)), .unset] [(.int (0 : Int32))])) _
        refine XS.istore X52.here hx rfl (hb hby at_76) rfl (l' := #[.val (.int p0), .val (.int (0 : Int32)), .val (.int (1 : Int32)), .val (.ref a_FALSE), .val (.int (0 : Int32)), .val (.int (1 : Int32)), .val (.int (0 : Int32))]) rfl ?_
        show Steps p.tables e below (T52.setTop (mkF m 78 #[.val (.int p0), .val (.int (0 : Int32)), .val (.int (1 : Int32)), .val (.ref a_FALSE), .val (.int (0 : Int32)), .val (.int (1 : Int32)), .val (.int (0 : Int32))] [])) _
        refine XS.iload X52.here hx rfl (hb hby at_78) rfl ?_
        show Steps p.tables e below (T52.setTop (mkF m 80 #[.val (.int p0), .val (.int (0 : Int32)), .val (.int (1 : Int32)), .val (.ref a_FALSE), .val (.int (0 : Int32)), .val (.int (1 : Int32)), .val (.int (0 : Int32))] [(.int (0 : Int32))])) _
        refine XS.iloadN X52.here hx rfl (hb hby at_80) rfl ?_
        show Steps p.tables e below (T52.setTop (mkF m 81 #[.val (.int p0), .val (.int (0 : Int32)), .val (.int (1 : Int32)), .val (.ref a_FALSE), .val (.int (0 : Int32)), .val (.int (1 : Int32)), .val (.int (0 : Int32))] [(.int (0 : Int32)), (.int (0 : Int32))])) _
        refine XS.icmpYes X52.here hx rfl (pc0 := 81) (pc' := 86) rfl (hb hby at_81) rfl (XT.ii_eq_t (by decide)) (by decide) (by decide) ?_
        show Steps p.tables e below (T52.setTop (mkF m 86 #[.val (.int p0), .val (.int (0 : Int32)), .val (.int (1 : Int32)), .val (.ref a_FALSE), .val (.int (0 : Int32)), .val (.int (1 : Int32)), .val (.int (0 : Int32))] [])) _
        refine XS.iload X52.here hx rfl (hb hby at_86) rfl ?_
        show Steps p.tables e below (T52.setTop (mkF m 88 #[.val (.int p0), .val (.int (0 : Int32)), .val (.int (1 : Int32)), .val (.ref a_FALSE), .val (.int (0 : Int32)), .val (.int (1 : Int32)), .val (.int (0 : Int32))] [(.int (1 : Int32))])) _
        refine XS.iloadN X52.here hx rfl (hb hby at_88) rfl ?_
        show Steps p.tables e below (T52.setTop (mkF m 89 #[.val (.int p0), .val (.int (0 : Int32)), .val (.int (1 : Int32)), .val (.ref a_FALSE), .val (.int (0 : Int32)), .val (.int (1 : Int32)), .val (.int (0 : Int32))] [(.int (0 : Int32)), (.int (1 : Int32))])) _
        refine XS.ifNo X52.here hx rfl (hb hby at_89) rfl (XT.i0_ne_f (by decide)) ?_
        show Steps p.tables e below (T52.setTop (mkF m 92 #[.val (.int p0), .val (.int (0 : Int32)), .val (.int (1 : Int32)), .val (.ref a_FALSE), .val (.int (0 : Int32)), .val (.int (1 : Int32)), .val (.int (0 : Int32))] [(.int (1 : Int32))])) _
        refine XS.iloadN X52.here hx rfl (hb hby at_92) rfl ?_
        show Steps p.tables e below (T52.setTop (mkF m 93 #[.val (.int p0), .val (.int (0 : Int32)), .val (.int (1 : Int32)), .val (.ref a_FALSE), .val (.int (0 : Int32)), .val (.int (1 : Int32)), .val (.int (0 : Int32))] [(.int (1 : Int32)), (.int (1 : Int32))])) _
        refine XS.ifNo X52.here hx rfl (hb hby at_93) rfl (XT.i0_eq_f (by decide)) ?_
        show Steps p.tables e below (T52.setTop (mkF m 96 #[.val (.int p0), .val (.int (0 : Int32)), .val (.int (1 : Int32)), .val (.ref a_FALSE), .val (.int (0 : Int32)), .val (.int (1 : Int32)), .val (.int (0 : Int32))] [(.int (1 : Int32))])) _
        refine XS.iconst X52.here hx rfl (hb hby at_96) ?_
        show Steps p.tables e below (T52.setTop (mkF m 97 #[.val (.int p0), .val (.int (0 : Int32)), .val (.int (1 : Int32)), .val (.ref a_FALSE), .val (.int (0 : Int32)), .val (.int (1 : Int32)), .val (.int (0 : Int32))] [(.int (1 : Int32)), (.int (1 : Int32))])) _
        refine XS.goto X52.here hx rfl (pc0 := 97) (pc' := 101) rfl (hb hby at_97) (by decide) (by decide) ?_
        show Steps p.tables e below (T52.setTop (mkF m 101 #[.val (.int p0), .val (.int (0 : Int32)), .val (.int (1 : Int32)), .val (.ref a_FALSE), .val (.int (0 : Int32)), .val (.int (1 : Int32)), .val (.int (0 : Int32))] [(.int (1 : Int32)), (.int (1 : Int32))])) _
        refine XS.icmpYes X52.here hx rfl (pc0 := 101) (pc' := 106) rfl (hb hby at_101) rfl (XT.ii_eq_t (by decide)) (by decide) (by decide) ?_
        show Steps p.tables e below (T52.setTop (mkF m 106 #[.val (.int p0), .val (.int (0 : Int32)), .val (.int (1 : Int32)), .val (.ref a_FALSE), .val (.int (0 : Int32)), .val (.int (1 : Int32)), .val (.int (0 : Int32))] [])) _
        refine XS.iload X52.here hx rfl (hb hby at_106) rfl ?_
        show Steps p.tables e below (T52.setTop (mkF m 108 #[.val (.int p0), .val (.int (0 : Int32)), .val (.int (1 : Int32)), .val (.ref a_FALSE), .val (.int (0 : Int32)), .val (.int (1 : Int32)), .val (.int (0 : Int32))] [(.int (0 : Int32))])) _
        refine XS.iloadN X52.here hx rfl (hb hby at_108) rfl ?_
        show Steps p.tables e below (T52.setTop (mkF m 109 #[.val (.int p0), .val (.int (0 : Int32)), .val (.int (1 : Int32)), .val (.ref a_FALSE), .val (.int (0 : Int32)), .val (.int (1 : Int32)), .val (.int (0 : Int32))] [(.int (0 : Int32)), (.int (0 : Int32))])) _
        refine XS.ifNo X52.here hx rfl (hb hby at_109) rfl (XT.i0_ne_f (by decide)) ?_
        show Steps p.tables e below (T52.setTop (mkF m 112 #[.val (.int p0), .val (.int (0 : Int32)), .val (.int (1 : Int32)), .val (.ref a_FALSE), .val (.int (0 : Int32)), .val (.int (1 : Int32)), .val (.int (0 : Int32))] [(.int (0 : Int32))])) _
        refine XS.iloadN X52.here hx rfl (hb hby at_112) rfl ?_
        show Steps p.tables e below (T52.setTop (mkF m 113 #[.val (.int p0), .val (.int (0 : Int32)), .val (.int (1 : Int32)), .val (.ref a_FALSE), .val (.int (0 : Int32)), .val (.int (1 : Int32)), .val (.int (0 : Int32))] [(.int (1 : Int32)), (.int (0 : Int32))])) _
        refine XS.ifYes X52.here hx rfl (pc0 := 113) (pc' := 120) rfl (hb hby at_113) rfl (XT.i0_ne_t (by decide)) (by decide) (by decide) ?_
        show Steps p.tables e below (T52.setTop (mkF m 120 #[.val (.int p0), .val (.int (0 : Int32)), .val (.int (1 : Int32)), .val (.ref a_FALSE), .val (.int (0 : Int32)), .val (.int (1 : Int32)), .val (.int (0 : Int32))] [(.int (0 : Int32))])) _
        refine XS.iconst X52.here hx rfl (hb hby at_120) ?_
        show Steps p.tables e below (T52.setTop (mkF m 121 #[.val (.int p0), .val (.int (0 : Int32)), .val (.int (1 : Int32)), .val (.ref a_FALSE), .val (.int (0 : Int32)), .val (.int (1 : Int32)), .val (.int (0 : Int32))] [(.int (0 : Int32)), (.int (0 : Int32))])) _
        refine XS.icmpYes X52.here hx rfl (pc0 := 121) (pc' := 126) rfl (hb hby at_121) rfl (XT.ii_eq_t (by decide)) (by decide) (by decide) ?_
        show Steps p.tables e below (T52.setTop (mkF m 126 #[.val (.int p0), .val (.int (0 : Int32)), .val (.int (1 : Int32)), .val (.ref a_FALSE), .val (.int (0 : Int32)), .val (.int (1 : Int32)), .val (.int (0 : Int32))] [])) _
        refine XS.iloadN X52.here hx rfl (hb hby at_126) rfl ?_
        show Steps p.tables e below (T52.setTop (mkF m 127 #[.val (.int p0), .val (.int (0 : Int32)), .val (.int (1 : Int32)), .val (.ref a_FALSE), .val (.int (0 : Int32)), .val (.int (1 : Int32)), .val (.int (0 : Int32))] [(.int (1 : Int32))])) _
        refine XS.ifNo X52.here hx rfl (hb hby at_127) rfl (XT.i0_eq_f (by decide)) ?_
        show Steps p.tables e below (T52.setTop (mkF m 130 #[.val (.int p0), .val (.int (0 : Int32)), .val (.int (1 : Int32)), .val (.ref a_FALSE), .val (.int (0 : Int32)), .val (.int (1 : Int32)), .val (.int (0 : Int32))] [])) _
        refine XS.aloadN X52.here hx rfl (hb hby at_130) rfl rfl ?_
        show Steps p.tables e below (T52.setTop (mkF m 131 #[.val (.int p0), .val (.int (0 : Int32)), .val (.int (1 : Int32)), .val (.ref a_FALSE), .val (.int (0 : Int32)), .val (.int (1 : Int32)), .val (.int (0 : Int32))] [(.ref a_FALSE)])) _
        refine XS.iloadN X52.here hx rfl (hb hby at_131) rfl ?_
        exact kt
      obtain ⟨_, _, ⟨T55, L55, k55, n55⟩, -, X55, ⟨Lc55, hQ55, l55, y55, z55⟩, st55⟩ := Jvm.LawKit.callS X52 hx (y := (⟨"com/example/contexture/contexture/engine/evaluation/TruthValue", "of", "(Z)Lcom/example/contexture/contexture/engine/evaluation/TruthValue;"⟩ : MethodName)) hown (mvT hZ (hw _ (List.mem_of_getElem? (i := 12) rfl))) (mvT hZ (hw _ (List.mem_of_getElem? (i := 13) rfl))) (mvT hZ (hw _ (List.mem_of_getElem? (i := 2) rfl))) (mvT hZ (hw _ (List.mem_of_getElem? (i := 14) rfl))) (by decide) (backOf (W := 1) (rm_of2_0 l Z a0 hw [] a_FALSE h0 n0 O0 G4) hZ (hw _ (List.mem_of_getElem? (i := 14) rfl)) (hw _ (List.mem_of_getElem? (i := 2) rfl)) (by decide) (by decide)) (g := (mkF m 132 #[.val (.int p0), .val (.int (0 : Int32)), .val (.int (1 : Int32)), .val (.ref a_FALSE), .val (.int (0 : Int32)), .val (.int (1 : Int32)), .val (.int (0 : Int32))] [(.int (0 : Int32)), (.ref a_FALSE)])) rfl (by rw [hml]; rfl) (argsL := [(.int (0 : Int32))]) (rest := [(.ref a_FALSE)]) (lenOf pd_6 rfl) rfl (by show 2 * 0 + _ ≤ _; exact Nat.le_of_eq rfl) (hb hby at_132) (fun _ _ => ⟨rfl, e52, (by decide : 0 + 0 ≤ _), (by decide : 0 + 0 ≤ _)⟩)
      dsimp only [Pt.U, Pt.locs, Pt.cells, Pt.slots] at X55 l55 y55 z55 st55 hQ55
      subst l55 y55 z55
      obtain ⟨rfl, M55, e55⟩ := hQ55
      have N55 := Fr.app N31 M55
      have pre65 : ∀ t, Steps p.tables e below (T55.setTop (mkF m 135 #[.val (.int p0), .val (.int (0 : Int32)), .val (.int (1 : Int32)), .val (.ref a_FALSE), .val (.int (0 : Int32)), .val (.int (1 : Int32)), .val (.int (0 : Int32))] [(.ref a_FALSE), (.ref a_FALSE)])) t → Steps p.tables e below (s₁.setTop (entryFrame m #[(.int p0)] maxLocals)) t := fun t kt => pre54 _ (st55 _ kt)
      have pre66 : ∀ t, Steps p.tables e below (T55.setTop (mkF m 141 #[.val (.int p0), .val (.int (0 : Int32)), .val (.int (1 : Int32)), .val (.ref a_FALSE), .val (.int (0 : Int32)), .val (.int (1 : Int32)), .val (.int (0 : Int32))] [(.int (1 : Int32))])) t → Steps p.tables e below (s₁.setTop (entryFrame m #[(.int p0)] maxLocals)) t := fun t kt => by
        refine pre65 _ ?_
        show Steps p.tables e below (T55.setTop (mkF m 135 #[.val (.int p0), .val (.int (0 : Int32)), .val (.int (1 : Int32)), .val (.ref a_FALSE), .val (.int (0 : Int32)), .val (.int (1 : Int32)), .val (.int (0 : Int32))] [(.ref a_FALSE), (.ref a_FALSE)])) _
        refine Jvm.RoadKit.acmp (g := (mkF m 135 #[.val (.int p0), .val (.int (0 : Int32)), .val (.int (1 : Int32)), .val (.ref a_FALSE), .val (.int (0 : Int32)), .val (.int (1 : Int32)), .val (.int (0 : Int32))] [(.ref a_FALSE), (.ref a_FALSE)])) X55 hx rfl rfl rfl (pc0 := 135) (pc' := 140) (same := true) rfl (hb hby at_135) rfl (decide_eq_true rfl) (by decide) (by decide) ?_
        show Steps p.tables e below (T55.setTop (mkF m 140 #[.val (.int p0), .val (.int (0 : Int32)), .val (.int (1 : Int32)), .val (.ref a_FALSE), .val (.int (0 : Int32)), .val (.int (1 : Int32)), .val (.int (0 : Int32))] [])) _
        refine XS.iconst X55.here hx rfl (hb hby at_140) ?_
        exact kt
      obtain ⟨fs, hr, hrun, hended, hW, hsame⟩ := X55.leave (v := some (.int (1 : Int32))) (fun h => by rw [Bd.returns] at h; cases h)
      refine ⟨_, _, pre66 _ (retN X55 hx (t := .boolean) Bd.returns (by simp) (hb hby at_141) hr), hrun, hended, _, _, rfl, ?_, ⟨_, rfl⟩, hW, hsame.mono (by decide) (by decide)⟩
      show Q_law Z p0 a_UNKNOWN a_TRUE a_FALSE h0 n0 _ T55.heap _
      rw [e55]
      exact ⟨rfl, N55⟩
  · have pre67 : ∀ t, Steps p.tables e below (s₁.setTop (mkF m 15 #[.val (.int p0), .val (.int (1 : Int32)), .unset, .unset, .unset, .unset, .unset] [(.int (p0 &&& (2 : Int32)))])) t → Steps p.tables e below (s₁.setTop (entryFrame m #[(.int p0)] maxLocals)) t := fun t kt => by
      refine pre1 _ ?_
      show Steps p.tables e below (s₁.setTop (mkF m 3 #[.val (.int p0), .unset, .unset, .unset, .unset, .unset, .unset] [(.int (p0 &&& (1 : Int32)))])) _
      refine XS.ifNo X0.here hx rfl (hb hby at_3) rfl (XT.i0_eq_f hc2) ?_
      show Steps p.tables e below (s₁.setTop (mkF m 6 #[.val (.int p0), .unset, .unset, .unset, .unset, .unset, .unset] [])) _
      refine XS.iconst X0.here hx rfl (hb hby at_6) ?_
      show Steps p.tables e below (s₁.setTop (mkF m 7 #[.val (.int p0), .unset, .unset, .unset, .unset, .unset, .unset] [(.int (1 : Int32))])) _
      refine XS.goto X0.here hx rfl (pc0 := 7) (pc' := 11) rfl (hb hby at_7) (by decide) (by decide) ?_
      show Steps p.tables e below (s₁.setTop (mkF m 11 #[.val (.int p0), .unset, .unset, .unset, .unset, .unset, .unset] [(.int (1 : Int32))])) _
      refine XS.istoreN X0.here hx rfl (hb hby at_11) rfl (l' := #[.val (.int p0), .val (.int (1 : Int32)), .unset, .unset, .unset, .unset, .unset]) rfl ?_
      show Steps p.tables e below (s₁.setTop (mkF m 12 #[.val (.int p0), .val (.int (1 : Int32)), .unset, .unset, .unset, .unset, .unset] [])) _
      refine XS.iloadN X0.here hx rfl (hb hby at_12) rfl ?_
      show Steps p.tables e below (s₁.setTop (mkF m 13 #[.val (.int p0), .val (.int (1 : Int32)), .unset, .unset, .unset, .unset, .unset] [(.int p0)])) _
      refine XS.iconst X0.here hx rfl (hb hby at_13) ?_
      show Steps p.tables e below (s₁.setTop (mkF m 14 #[.val (.int p0), .val (.int (1 : Int32)), .unset, .unset, .unset, .unset, .unset] [(.int (2 : Int32)), (.int p0)])) _
      refine XS.iand X0.here hx rfl (hb hby at_14) rfl ?_
      exact kt
    by_cases hc68 : (p0 &&& (2 : Int32)) = (0 : Int32)
    · have pre69 : ∀ t, Steps p.tables e below (s₁.setTop (mkF m 26 #[.val (.int p0), .val (.int (1 : Int32)), .val (.int (0 : Int32)), .unset, .unset, .unset, .unset] [(.int (0 : Int32)), (.int (1 : Int32))])) t → Steps p.tables e below (s₁.setTop (entryFrame m #[(.int p0)] maxLocals)) t := fun t kt => by
        refine pre67 _ ?_
        show Steps p.tables e below (s₁.setTop (mkF m 15 #[.val (.int p0), .val (.int (1 : Int32)), .unset, .unset, .unset, .unset, .unset] [(.int (p0 &&& (2 : Int32)))])) _
        refine XS.ifYes X0.here hx rfl (pc0 := 15) (pc' := 22) rfl (hb hby at_15) rfl (XT.i0_eq_t hc68) (by decide) (by decide) ?_
        show Steps p.tables e below (s₁.setTop (mkF m 22 #[.val (.int p0), .val (.int (1 : Int32)), .unset, .unset, .unset, .unset, .unset] [])) _
        refine XS.iconst X0.here hx rfl (hb hby at_22) ?_
        show Steps p.tables e below (s₁.setTop (mkF m 23 #[.val (.int p0), .val (.int (1 : Int32)), .unset, .unset, .unset, .unset, .unset] [(.int (0 : Int32))])) _
        refine XS.istoreN X0.here hx rfl (hb hby at_23) rfl (l' := #[.val (.int p0), .val (.int (1 : Int32)), .val (.int (0 : Int32)), .unset, .unset, .unset, .unset]) rfl ?_
        show Steps p.tables e below (s₁.setTop (mkF m 24 #[.val (.int p0), .val (.int (1 : Int32)), .val (.int (0 : Int32)), .unset, .unset, .unset, .unset] [])) _
        refine XS.iloadN X0.here hx rfl (hb hby at_24) rfl ?_
        show Steps p.tables e below (s₁.setTop (mkF m 25 #[.val (.int p0), .val (.int (1 : Int32)), .val (.int (0 : Int32)), .unset, .unset, .unset, .unset] [(.int (1 : Int32))])) _
        refine XS.iloadN X0.here hx rfl (hb hby at_25) rfl ?_
        exact kt
      obtain ⟨_, _, ⟨T70, L70, k70, n70⟩, -, X70, ⟨Lc70, hQ70, l70, y70, z70⟩, st70⟩ := Jvm.LawKit.callS X0 hx (y := (⟨"com/example/contexture/contexture/engine/evaluation/TruthValue", "reported", "(ZZ)Lcom/example/contexture/contexture/engine/evaluation/TruthValue;"⟩ : MethodName)) hown (mvT hZ (hw _ (List.mem_of_getElem? (i := 0) rfl))) (mvT hZ (hw _ (List.mem_of_getElem? (i := 1) rfl))) (mvT hZ (hw _ (List.mem_of_getElem? (i := 2) rfl))) (mvT hZ (hw _ (List.mem_of_getElem? (i := 3) rfl))) (by decide) (backOf (W := 0) (rm_reported1_2 l Z a0 hw [] a_TRUE h0 n0 O0 G2) hZ (hw _ (List.mem_of_getElem? (i := 3) rfl)) (hw _ (List.mem_of_getElem? (i := 2) rfl)) (by decide) (by decide)) (g := (mkF m 26 #[.val (.int p0), .val (.int (1 : Int32)), .val (.int (0 : Int32)), .unset, .unset, .unset, .unset] [(.int (0 : Int32)), (.int (1 : Int32))])) rfl (by rw [hml]; rfl) (argsL := [(.int (1 : Int32)), (.int (0 : Int32))]) (rest := []) (lenOf pd_4 rfl) rfl (by show 2 * 0 + _ ≤ _; exact Nat.le_of_eq rfl) (hb hby at_26) (fun _ _ => ⟨rfl, e0, (by decide : 0 + 0 ≤ _), (by decide : 0 + 0 ≤ _)⟩)
      dsimp only [Pt.U, Pt.locs, Pt.cells, Pt.slots] at X70 l70 y70 z70 st70 hQ70
      subst l70 y70 z70
      obtain ⟨rfl, M70, e70⟩ := hQ70
      have N70 := Fr.app N0 M70
      have pre83 : ∀ t, Steps p.tables e below (T70.setTop (mkF m 29 #[.val (.int p0), .val (.int (1 : Int32)), .val (.int (0 : Int32)), .unset, .unset, .unset, .unset] [(.ref a_TRUE)])) t → Steps p.tables e below (s₁.setTop (entryFrame m #[(.int p0)] maxLocals)) t := fun t kt => pre69 _ (st70 _ kt)
      have pre84 : ∀ t, Steps p.tables e below (T70.setTop (mkF m 37 #[.val (.int p0), .val (.int (1 : Int32)), .val (.int (0 : Int32)), .val (.ref a_TRUE), .unset, .unset, .unset] [(.ref a_TRUE)])) t → Steps p.tables e below (s₁.setTop (entryFrame m #[(.int p0)] maxLocals)) t := fun t kt => by
        refine pre83 _ ?_
        show Steps p.tables e below (T70.setTop (mkF m 29 #[.val (.int p0), .val (.int (1 : Int32)), .val (.int (0 : Int32)), .unset, .unset, .unset, .unset] [(.ref a_TRUE)])) _
        refine XS.astoreN X70.here hx rfl (hb hby at_29) rfl rfl (l' := #[.val (.int p0), .val (.int (1 : Int32)), .val (.int (0 : Int32)), .val (.ref a_TRUE), .unset, .unset, .unset]) rfl ?_
        show Steps p.tables e below (T70.setTop (mkF m 30 #[.val (.int p0), .val (.int (1 : Int32)), .val (.int (0 : Int32)), .val (.ref a_TRUE), .unset, .unset, .unset] [])) _
        refine XS.aloadN X70.here hx rfl (hb hby at_30) rfl rfl ?_
        show Steps p.tables e below (T70.setTop (mkF m 31 #[.val (.int p0), .val (.int (1 : Int32)), .val (.int (0 : Int32)), .val (.ref a_TRUE), .unset, .unset, .unset] [(.ref a_TRUE)])) _
        refine XS.ifnonnullYes X70.here hx rfl (pc0 := 31) (pc' := 36) rfl (hb hby at_31) rfl (by decide) (by decide) ?_
        show Steps p.tables e below (T70.setTop (mkF m 36 #[.val (.int p0), .val (.int (1 : Int32)), .val (.int (0 : Int32)), .val (.ref a_TRUE), .unset, .unset, .unset] [])) _
        refine XS.aloadN X70.here hx rfl (hb hby at_36) rfl rfl ?_
        exact kt
      obtain ⟨T85, X85, e85, st85⟩ := getS2 X70 hx hZ hown (host := "") (Or.inl (hw _ (List.mem_of_getElem? (i := 6) rfl))) Via.refl e70 (G2.ext O0.2) (g := (mkF m 37 #[.val (.int p0), .val (.int (1 : Int32)), .val (.int (0 : Int32)), .val (.ref a_TRUE), .unset, .unset, .unset] [(.ref a_TRUE)])) rfl (hb hby at_37)
      have pre86 : ∀ t, Steps p.tables e below (T85.setTop (mkF m 40 #[.val (.int p0), .val (.int (1 : Int32)), .val (.int (0 : Int32)), .val (.ref a_TRUE), .unset, .unset, .unset] [(.ref a_TRUE), (.ref a_TRUE)])) t → Steps p.tables e below (s₁.setTop (entryFrame m #[(.int p0)] maxLocals)) t := fun t kt => pre84 _ (st85 _ kt)
      have pre87 : ∀ t, Steps p.tables e below (T85.setTop (mkF m 51 #[.val (.int p0), .val (.int (1 : Int32)), .val (.int (0 : Int32)), .val (.ref a_TRUE), .val (.int (1 : Int32)), .unset, .unset] [(.ref a_TRUE)])) t → Steps p.tables e below (s₁.setTop (entryFrame m #[(.int p0)] maxLocals)) t := fun t kt => by
        refine pre86 _ ?_
        show Steps p.tables e below (T85.setTop (mkF m 40 #[.val (.int p0), .val (.int (1 : Int32)), .val (.int (0 : Int32)), .val (.ref a_TRUE), .unset, .unset, .unset] [(.ref a_TRUE), (.ref a_TRUE)])) _
        refine Jvm.RoadKit.acmp (g := (mkF m 40 #[.val (.int p0), .val (.int (1 : Int32)), .val (.int (0 : Int32)), .val (.ref a_TRUE), .unset, .unset, .unset] [(.ref a_TRUE), (.ref a_TRUE)])) X85 hx rfl rfl rfl (pc0 := 40) (pc' := 43) (same := true) rfl (hb hby at_40) rfl (decide_eq_true rfl) (by decide) (by decide) ?_
        show Steps p.tables e below (T85.setTop (mkF m 43 #[.val (.int p0), .val (.int (1 : Int32)), .val (.int (0 : Int32)), .val (.ref a_TRUE), .unset, .unset, .unset] [])) _
        refine XS.iconst X85.here hx rfl (hb hby at_43) ?_
        show Steps p.tables e below (T85.setTop (mkF m 44 #[.val (.int p0), .val (.int (1 : Int32)), .val (.int (0 : Int32)), .val (.ref a_TRUE), .unset, .unset, .unset] [(.int (1 : Int32))])) _
        refine XS.goto X85.here hx rfl (pc0 := 44) (pc' := 48) rfl (hb hby at_44) (by decide) (by decide) ?_
        show Steps p.tables e below (T85.setTop (mkF m 48 #[.val (.int p0), .val (.int (1 : Int32)), .val (.int (0 : Int32)), .val (.ref a_TRUE), .unset, .unset, .unset] [(.int (1 : Int32))])) _
        refine XS.istore X85.here hx rfl (hb hby at_48) rfl (l' := #[.val (.int p0), .val (.int (1 : Int32)), .val (.int (0 : Int32)), .val (.ref a_TRUE), .val (.int (1 : Int32)), .unset, .unset]) rfl ?_
        show Steps p.tables e below (T85.setTop (mkF m 50 #[.val (.int p0), .val (.int (1 : Int32)), .val (.int (0 : Int32)), .val (.ref a_TRUE), .val (.int (1 : Int32)), .unset, .unset] [])) _
        refine XS.aloadN X85.here hx rfl (hb hby at_50) rfl rfl ?_
        exact kt
      obtain ⟨T88, X88, e88, st88⟩ := getS2 X85 hx hZ hown (host := "") (Or.inl (hw _ (List.mem_of_getElem? (i := 8) rfl))) Via.refl e85 (G4.ext O0.2) (g := (mkF m 51 #[.val (.int p0), .val (.int (1 : Int32)), .val (.int (0 : Int32)), .val (.ref a_TRUE), .val (.int (1 : Int32)), .unset, .unset] [(.ref a_TRUE)])) rfl (hb hby at_51)
      have pre89 : ∀ t, Steps p.tables e below (T88.setTop (mkF m 54 #[.val (.int p0), .val (.int (1 : Int32)), .val (.int (0 : Int32)), .val (.ref a_TRUE), .val (.int (1 : Int32)), .unset, .unset] [(.ref a_FALSE), (.ref a_TRUE)])) t → Steps p.tables e below (s₁.setTop (entryFrame m #[(.int p0)] maxLocals)) t := fun t kt => pre87 _ (st88 _ kt)
      have pre90 : ∀ t, Steps p.tables e below (T88.setTop (mkF m 65 #[.val (.int p0), .val (.int (1 : Int32)), .val (.int (0 : Int32)), .val (.ref a_TRUE), .val (.int (1 : Int32)), .val (.int (0 : Int32)), .unset] [(.ref a_TRUE)])) t → Steps p.tables e below (s₁.setTop (entryFrame m #[(.int p0)] maxLocals)) t := fun t kt => by
        refine pre89 _ ?_
        show Steps p.tables e below (T88.setTop (mkF m 54 #[.val (.int p0), .val (.int (1 : Int32)), .val (.int (0 : Int32)), .val (.ref a_TRUE), .val (.int (1 : Int32)), .unset, .unset] [(.ref a_FALSE), (.ref a_TRUE)])) _
        refine Jvm.RoadKit.acmp (g := (mkF m 54 #[.val (.int p0), .val (.int (1 : Int32)), .val (.int (0 : Int32)), .val (.ref a_TRUE), .val (.int (1 : Int32)), .unset, .unset] [(.ref a_FALSE), (.ref a_TRUE)])) X88 hx rfl rfl rfl (pc0 := 54) (pc' := 61) (same := false) rfl (hb hby at_54) rfl (decide_eq_false fun q => ne_a_TRUE_a_FALSE (Value.ref.inj q)) (by decide) (by decide) ?_
        show Steps p.tables e below (T88.setTop (mkF m 61 #[.val (.int p0), .val (.int (1 : Int32)), .val (.int (0 : Int32)), .val (.ref a_TRUE), .val (.int (1 : Int32)), .unset, .unset] [])) _
        refine XS.iconst X88.here hx rfl (hb hby at_61) ?_
        show Steps p.tables e below (T88.setTop (mkF m 62 #[.val (.int p0), .val (.int (1 : Int32)), .val (.int (0 : Int32)), .val (.ref a_TRUE), .val (.int (1 : Int32)), .unset, .unset] [(.int (0 : Int32))])) _
        refine XS.istore X88.here hx rfl (hb hby at_62) rfl (l' := #[.val (.int p0), .val (.int (1 : Int32)), .val (.int (0 : Int32)), .val (.ref a_TRUE), .val (.int (1 : Int32)), .val (.int (0 : Int32)), .unset]) rfl ?_
        show Steps p.tables e below (T88.setTop (mkF m 64 #[.val (.int p0), .val (.int (1 : Int32)), .val (.int (0 : Int32)), .val (.ref a_TRUE), .val (.int (1 : Int32)), .val (.int (0 : Int32)), .unset] [])) _
        refine XS.aloadN X88.here hx rfl (hb hby at_64) rfl rfl ?_
        exact kt
      obtain ⟨T91, X91, e91, st91⟩ := getS2 X88 hx hZ hown (host := "") (Or.inl (hw _ (List.mem_of_getElem? (i := 10) rfl))) Via.refl e88 (G0.ext O0.2) (g := (mkF m 65 #[.val (.int p0), .val (.int (1 : Int32)), .val (.int (0 : Int32)), .val (.ref a_TRUE), .val (.int (1 : Int32)), .val (.int (0 : Int32)), .unset] [(.ref a_TRUE)])) rfl (hb hby at_65)
      have pre92 : ∀ t, Steps p.tables e below (T91.setTop (mkF m 68 #[.val (.int p0), .val (.int (1 : Int32)), .val (.int (0 : Int32)), .val (.ref a_TRUE), .val (.int (1 : Int32)), .val (.int (0 : Int32)), .unset] [(.ref a_UNKNOWN), (.ref a_TRUE)])) t → Steps p.tables e below (s₁.setTop (entryFrame m #[(.int p0)] maxLocals)) t := fun t kt => pre90 _ (st91 _ kt)
      have pre93 : ∀ t, Steps p.tables e below (T91.setTop (mkF m 141 #[.val (.int p0), .val (.int (1 : Int32)), .val (.int (0 : Int32)), .val (.ref a_TRUE), .val (.int (1 : Int32)), .val (.int (0 : Int32)), .val (.int (0 : Int32))] [(.int (1 : Int32))])) t → Steps p.tables e below (s₁.setTop (entryFrame m #[(.int p0)] maxLocals)) t := fun t kt => by
        refine pre92 _ ?_
        show Steps p.tables e below (T91.setTop (mkF m 68 #[.val (.int p0), .val (.int (1 : Int32)), .val (.int (0 : Int32)), .val (.ref a_TRUE), .val (.int (1 : Int32)), .val (.int (0 : Int32)), .unset] [(.ref a_UNKNOWN), (.ref a_TRUE)])) _
        refine Jvm.RoadKit.acmp (g := (mkF m 68 #[.val (.int p0), .val (.int (1 : Int32)), .val (.int (0 : Int32)), .val (.ref a_TRUE), .val (.int (1 : Int32)), .val (.int (0 : Int32)), .unset] [(.ref a_UNKNOWN), (.ref a_TRUE)])) X91 hx rfl rfl rfl (pc0 := 68) (pc' := 75) (same := false) rfl (hb hby at_68) rfl (decide_eq_false fun q => (fun q => ne_a_UNKNOWN_a_TRUE q.symm) (Value.ref.inj q)) (by decide) (by decide) ?_
        show Steps p.tables e below (T91.setTop (mkF m 75 #[.val (.int p0), .val (.int (1 : Int32)), .val (.int (0 : Int32)), .val (.ref a_TRUE), .val (.int (1 : Int32)), .val (.int (0 : Int32)), .unset] [])) _
        refine XS.iconst X91.here hx rfl (hb hby at_75) ?_
        show Steps p.tables e below (T91.setTop (mkF m 76 #[.val (.int p0), .val (.int (1 : Int32)), .val (.int (0 : Int32)), .val (.ref a_TRUE), .val (.int (1 : Int32)), .val (.int (0 : Int32)), .unset] [(.int (0 : Int32))])) _
        refine XS.istore X91.here hx rfl (hb hby at_76) rfl (l' := #[.val (.int p0), .val (.int (1 : Int32)), .val (.int (0 : Int32)), .val (.ref a_TRUE), .val (.int (1 : Int32)), .val (.int (0 : Int32)), .val (.int (0 : Int32))]) rfl ?_
        show Steps p.tables e below (T91.setTop (mkF m 78 #[.val (.int p0), .val (.int (1 : Int32)), .val (.int (0 : Int32)), .val (.ref a_TRUE), .val (.int (1 : Int32)), .val (.int (0 : Int32)), .val (.int (0 : Int32))] [])) _
        refine XS.iload X91.here hx rfl (hb hby at_78) rfl ?_
        show Steps p.tables e below (T91.setTop (mkF m 80 #[.val (.int p0), .val (.int (1 : Int32)), .val (.int (0 : Int32)), .val (.ref a_TRUE), .val (.int (1 : Int32)), .val (.int (0 : Int32)), .val (.int (0 : Int32))] [(.int (1 : Int32))])) _
        refine XS.iloadN X91.here hx rfl (hb hby at_80) rfl ?_
        show Steps p.tables e below (T91.setTop (mkF m 81 #[.val (.int p0), .val (.int (1 : Int32)), .val (.int (0 : Int32)), .val (.ref a_TRUE), .val (.int (1 : Int32)), .val (.int (0 : Int32)), .val (.int (0 : Int32))] [(.int (1 : Int32)), (.int (1 : Int32))])) _
        refine XS.icmpYes X91.here hx rfl (pc0 := 81) (pc' := 86) rfl (hb hby at_81) rfl (XT.ii_eq_t (by decide)) (by decide) (by decide) ?_
        show Steps p.tables e below (T91.setTop (mkF m 86 #[.val (.int p0), .val (.int (1 : Int32)), .val (.int (0 : Int32)), .val (.ref a_TRUE), .val (.int (1 : Int32)), .val (.int (0 : Int32)), .val (.int (0 : Int32))] [])) _
        refine XS.iload X91.here hx rfl (hb hby at_86) rfl ?_
        show Steps p.tables e below (T91.setTop (mkF m 88 #[.val (.int p0), .val (.int (1 : Int32)), .val (.int (0 : Int32)), .val (.ref a_TRUE), .val (.int (1 : Int32)), .val (.int (0 : Int32)), .val (.int (0 : Int32))] [(.int (0 : Int32))])) _
        refine XS.iloadN X91.here hx rfl (hb hby at_88) rfl ?_
        show Steps p.tables e below (T91.setTop (mkF m 89 #[.val (.int p0), .val (.int (1 : Int32)), .val (.int (0 : Int32)), .val (.ref a_TRUE), .val (.int (1 : Int32)), .val (.int (0 : Int32)), .val (.int (0 : Int32))] [(.int (1 : Int32)), (.int (0 : Int32))])) _
        refine XS.ifYes X91.here hx rfl (pc0 := 89) (pc' := 100) rfl (hb hby at_89) rfl (XT.i0_ne_t (by decide)) (by decide) (by decide) ?_
        show Steps p.tables e below (T91.setTop (mkF m 100 #[.val (.int p0), .val (.int (1 : Int32)), .val (.int (0 : Int32)), .val (.ref a_TRUE), .val (.int (1 : Int32)), .val (.int (0 : Int32)), .val (.int (0 : Int32))] [(.int (0 : Int32))])) _
        refine XS.iconst X91.here hx rfl (hb hby at_100) ?_
        show Steps p.tables e below (T91.setTop (mkF m 101 #[.val (.int p0), .val (.int (1 : Int32)), .val (.int (0 : Int32)), .val (.ref a_TRUE), .val (.int (1 : Int32)), .val (.int (0 : Int32)), .val (.int (0 : Int32))] [(.int (0 : Int32)), (.int (0 : Int32))])) _
        refine XS.icmpYes X91.here hx rfl (pc0 := 101) (pc' := 106) rfl (hb hby at_101) rfl (XT.ii_eq_t (by decide)) (by decide) (by decide) ?_
        show Steps p.tables e below (T91.setTop (mkF m 106 #[.val (.int p0), .val (.int (1 : Int32)), .val (.int (0 : Int32)), .val (.ref a_TRUE), .val (.int (1 : Int32)), .val (.int (0 : Int32)), .val (.int (0 : Int32))] [])) _
        refine XS.iload X91.here hx rfl (hb hby at_106) rfl ?_
        show Steps p.tables e below (T91.setTop (mkF m 108 #[.val (.int p0), .val (.int (1 : Int32)), .val (.int (0 : Int32)), .val (.ref a_TRUE), .val (.int (1 : Int32)), .val (.int (0 : Int32)), .val (.int (0 : Int32))] [(.int (0 : Int32))])) _
        refine XS.iloadN X91.here hx rfl (hb hby at_108) rfl ?_
        show Steps p.tables e below (T91.setTop (mkF m 109 #[.val (.int p0), .val (.int (1 : Int32)), .val (.int (0 : Int32)), .val (.ref a_TRUE), .val (.int (1 : Int32)), .val (.int (0 : Int32)), .val (.int (0 : Int32))] [(.int (1 : Int32)), (.int (0 : Int32))])) _
        refine XS.ifYes X91.here hx rfl (pc0 := 109) (pc' := 120) rfl (hb hby at_109) rfl (XT.i0_ne_t (by decide)) (by decide) (by decide) ?_
        show Steps p.tables e below (T91.setTop (mkF m 120 #[.val (.int p0), .val (.int (1 : Int32)), .val (.int (0 : Int32)), .val (.ref a_TRUE), .val (.int (1 : Int32)), .val (.int (0 : Int32)), .val (.int (0 : Int32))] [(.int (0 : Int32))])) _
        refine XS.iconst X91.here hx rfl (hb hby at_120) ?_
        show Steps p.tables e below (T91.setTop (mkF m 121 #[.val (.int p0), .val (.int (1 : Int32)), .val (.int (0 : Int32)), .val (.ref a_TRUE), .val (.int (1 : Int32)), .val (.int (0 : Int32)), .val (.int (0 : Int32))] [(.int (0 : Int32)), (.int (0 : Int32))])) _
        refine XS.icmpYes X91.here hx rfl (pc0 := 121) (pc' := 126) rfl (hb hby at_121) rfl (XT.ii_eq_t (by decide)) (by decide) (by decide) ?_
        show Steps p.tables e below (T91.setTop (mkF m 126 #[.val (.int p0), .val (.int (1 : Int32)), .val (.int (0 : Int32)), .val (.ref a_TRUE), .val (.int (1 : Int32)), .val (.int (0 : Int32)), .val (.int (0 : Int32))] [])) _
        refine XS.iloadN X91.here hx rfl (hb hby at_126) rfl ?_
        show Steps p.tables e below (T91.setTop (mkF m 127 #[.val (.int p0), .val (.int (1 : Int32)), .val (.int (0 : Int32)), .val (.ref a_TRUE), .val (.int (1 : Int32)), .val (.int (0 : Int32)), .val (.int (0 : Int32))] [(.int (0 : Int32))])) _
        refine XS.ifYes X91.here hx rfl (pc0 := 127) (pc' := 140) rfl (hb hby at_127) rfl (XT.i0_eq_t (by decide)) (by decide) (by decide) ?_
        show Steps p.tables e below (T91.setTop (mkF m 140 #[.val (.int p0), .val (.int (1 : Int32)), .val (.int (0 : Int32)), .val (.ref a_TRUE), .val (.int (1 : Int32)), .val (.int (0 : Int32)), .val (.int (0 : Int32))] [])) _
        refine XS.iconst X91.here hx rfl (hb hby at_140) ?_
        exact kt
      obtain ⟨fs, hr, hrun, hended, hW, hsame⟩ := X91.leave (v := some (.int (1 : Int32))) (fun h => by rw [Bd.returns] at h; cases h)
      refine ⟨_, _, pre93 _ (retN X91 hx (t := .boolean) Bd.returns (by simp) (hb hby at_141) hr), hrun, hended, _, _, rfl, ?_, ⟨_, rfl⟩, hW, hsame.mono (by decide) (by decide)⟩
      show Q_law Z p0 a_UNKNOWN a_TRUE a_FALSE h0 n0 _ T91.heap _
      rw [e91]
      exact ⟨rfl, N70⟩
    · have pre94 : ∀ t, Steps p.tables e below (s₁.setTop (mkF m 26 #[.val (.int p0), .val (.int (1 : Int32)), .val (.int (1 : Int32)), .unset, .unset, .unset, .unset] [(.int (1 : Int32)), (.int (1 : Int32))])) t → Steps p.tables e below (s₁.setTop (entryFrame m #[(.int p0)] maxLocals)) t := fun t kt => by
        refine pre67 _ ?_
        show Steps p.tables e below (s₁.setTop (mkF m 15 #[.val (.int p0), .val (.int (1 : Int32)), .unset, .unset, .unset, .unset, .unset] [(.int (p0 &&& (2 : Int32)))])) _
        refine XS.ifNo X0.here hx rfl (hb hby at_15) rfl (XT.i0_eq_f hc68) ?_
        show Steps p.tables e below (s₁.setTop (mkF m 18 #[.val (.int p0), .val (.int (1 : Int32)), .unset, .unset, .unset, .unset, .unset] [])) _
        refine XS.iconst X0.here hx rfl (hb hby at_18) ?_
        show Steps p.tables e below (s₁.setTop (mkF m 19 #[.val (.int p0), .val (.int (1 : Int32)), .unset, .unset, .unset, .unset, .unset] [(.int (1 : Int32))])) _
        refine XS.goto X0.here hx rfl (pc0 := 19) (pc' := 23) rfl (hb hby at_19) (by decide) (by decide) ?_
        show Steps p.tables e below (s₁.setTop (mkF m 23 #[.val (.int p0), .val (.int (1 : Int32)), .unset, .unset, .unset, .unset, .unset] [(.int (1 : Int32))])) _
        refine XS.istoreN X0.here hx rfl (hb hby at_23) rfl (l' := #[.val (.int p0), .val (.int (1 : Int32)), .val (.int (1 : Int32)), .unset, .unset, .unset, .unset]) rfl ?_
        show Steps p.tables e below (s₁.setTop (mkF m 24 #[.val (.int p0), .val (.int (1 : Int32)), .val (.int (1 : Int32)), .unset, .unset, .unset, .unset] [])) _
        refine XS.iloadN X0.here hx rfl (hb hby at_24) rfl ?_
        show Steps p.tables e below (s₁.setTop (mkF m 25 #[.val (.int p0), .val (.int (1 : Int32)), .val (.int (1 : Int32)), .unset, .unset, .unset, .unset] [(.int (1 : Int32))])) _
        refine XS.iloadN X0.here hx rfl (hb hby at_25) rfl ?_
        exact kt
      obtain ⟨_, _, ⟨T95, L95, k95, n95⟩, -, X95, ⟨Lc95, hQ95, l95, y95, z95⟩, st95⟩ := Jvm.LawKit.callS X0 hx (y := (⟨"com/example/contexture/contexture/engine/evaluation/TruthValue", "reported", "(ZZ)Lcom/example/contexture/contexture/engine/evaluation/TruthValue;"⟩ : MethodName)) hown (mvT hZ (hw _ (List.mem_of_getElem? (i := 0) rfl))) (mvT hZ (hw _ (List.mem_of_getElem? (i := 1) rfl))) (mvT hZ (hw _ (List.mem_of_getElem? (i := 2) rfl))) (mvT hZ (hw _ (List.mem_of_getElem? (i := 3) rfl))) (by decide) (backOf (W := 0) (rm_reported1_3 l Z a0 hw [] a_TRUE h0 n0 O0 G2) hZ (hw _ (List.mem_of_getElem? (i := 3) rfl)) (hw _ (List.mem_of_getElem? (i := 2) rfl)) (by decide) (by decide)) (g := (mkF m 26 #[.val (.int p0), .val (.int (1 : Int32)), .val (.int (1 : Int32)), .unset, .unset, .unset, .unset] [(.int (1 : Int32)), (.int (1 : Int32))])) rfl (by rw [hml]; rfl) (argsL := [(.int (1 : Int32)), (.int (1 : Int32))]) (rest := []) (lenOf pd_4 rfl) rfl (by show 2 * 0 + _ ≤ _; exact Nat.le_of_eq rfl) (hb hby at_26) (fun _ _ => ⟨rfl, e0, (by decide : 0 + 0 ≤ _), (by decide : 0 + 0 ≤ _)⟩)
      dsimp only [Pt.U, Pt.locs, Pt.cells, Pt.slots] at X95 l95 y95 z95 st95 hQ95
      subst l95 y95 z95
      obtain ⟨rfl, M95, e95⟩ := hQ95
      have N95 := Fr.app N0 M95
      have pre108 : ∀ t, Steps p.tables e below (T95.setTop (mkF m 29 #[.val (.int p0), .val (.int (1 : Int32)), .val (.int (1 : Int32)), .unset, .unset, .unset, .unset] [(.ref a_TRUE)])) t → Steps p.tables e below (s₁.setTop (entryFrame m #[(.int p0)] maxLocals)) t := fun t kt => pre94 _ (st95 _ kt)
      have pre109 : ∀ t, Steps p.tables e below (T95.setTop (mkF m 37 #[.val (.int p0), .val (.int (1 : Int32)), .val (.int (1 : Int32)), .val (.ref a_TRUE), .unset, .unset, .unset] [(.ref a_TRUE)])) t → Steps p.tables e below (s₁.setTop (entryFrame m #[(.int p0)] maxLocals)) t := fun t kt => by
        refine pre108 _ ?_
        show Steps p.tables e below (T95.setTop (mkF m 29 #[.val (.int p0), .val (.int (1 : Int32)), .val (.int (1 : Int32)), .unset, .unset, .unset, .unset] [(.ref a_TRUE)])) _
        refine XS.astoreN X95.here hx rfl (hb hby at_29) rfl rfl (l' := #[.val (.int p0), .val (.int (1 : Int32)), .val (.int (1 : Int32)), .val (.ref a_TRUE), .unset, .unset, .unset]) rfl ?_
        show Steps p.tables e below (T95.setTop (mkF m 30 #[.val (.int p0), .val (.int (1 : Int32)), .val (.int (1 : Int32)), .val (.ref a_TRUE), .unset, .unset, .unset] [])) _
        refine XS.aloadN X95.here hx rfl (hb hby at_30) rfl rfl ?_
        show Steps p.tables e below (T95.setTop (mkF m 31 #[.val (.int p0), .val (.int (1 : Int32)), .val (.int (1 : Int32)), .val (.ref a_TRUE), .unset, .unset, .unset] [(.ref a_TRUE)])) _
        refine XS.ifnonnullYes X95.here hx rfl (pc0 := 31) (pc' := 36) rfl (hb hby at_31) rfl (by decide) (by decide) ?_
        show Steps p.tables e below (T95.setTop (mkF m 36 #[.val (.int p0), .val (.int (1 : Int32)), .val (.int (1 : Int32)), .val (.ref a_TRUE), .unset, .unset, .unset] [])) _
        refine XS.aloadN X95.here hx rfl (hb hby at_36) rfl rfl ?_
        exact kt
      obtain ⟨T110, X110, e110, st110⟩ := getS2 X95 hx hZ hown (host := "") (Or.inl (hw _ (List.mem_of_getElem? (i := 6) rfl))) Via.refl e95 (G2.ext O0.2) (g := (mkF m 37 #[.val (.int p0), .val (.int (1 : Int32)), .val (.int (1 : Int32)), .val (.ref a_TRUE), .unset, .unset, .unset] [(.ref a_TRUE)])) rfl (hb hby at_37)
      have pre111 : ∀ t, Steps p.tables e below (T110.setTop (mkF m 40 #[.val (.int p0), .val (.int (1 : Int32)), .val (.int (1 : Int32)), .val (.ref a_TRUE), .unset, .unset, .unset] [(.ref a_TRUE), (.ref a_TRUE)])) t → Steps p.tables e below (s₁.setTop (entryFrame m #[(.int p0)] maxLocals)) t := fun t kt => pre109 _ (st110 _ kt)
      have pre112 : ∀ t, Steps p.tables e below (T110.setTop (mkF m 51 #[.val (.int p0), .val (.int (1 : Int32)), .val (.int (1 : Int32)), .val (.ref a_TRUE), .val (.int (1 : Int32)), .unset, .unset] [(.ref a_TRUE)])) t → Steps p.tables e below (s₁.setTop (entryFrame m #[(.int p0)] maxLocals)) t := fun t kt => by
        refine pre111 _ ?_
        show Steps p.tables e below (T110.setTop (mkF m 40 #[.val (.int p0), .val (.int (1 : Int32)), .val (.int (1 : Int32)), .val (.ref a_TRUE), .unset, .unset, .unset] [(.ref a_TRUE), (.ref a_TRUE)])) _
        refine Jvm.RoadKit.acmp (g := (mkF m 40 #[.val (.int p0), .val (.int (1 : Int32)), .val (.int (1 : Int32)), .val (.ref a_TRUE), .unset, .unset, .unset] [(.ref a_TRUE), (.ref a_TRUE)])) X110 hx rfl rfl rfl (pc0 := 40) (pc' := 43) (same := true) rfl (hb hby at_40) rfl (decide_eq_true rfl) (by decide) (by decide) ?_
        show Steps p.tables e below (T110.setTop (mkF m 43 #[.val (.int p0), .val (.int (1 : Int32)), .val (.int (1 : Int32)), .val (.ref a_TRUE), .unset, .unset, .unset] [])) _
        refine XS.iconst X110.here hx rfl (hb hby at_43) ?_
        show Steps p.tables e below (T110.setTop (mkF m 44 #[.val (.int p0), .val (.int (1 : Int32)), .val (.int (1 : Int32)), .val (.ref a_TRUE), .unset, .unset, .unset] [(.int (1 : Int32))])) _
        refine XS.goto X110.here hx rfl (pc0 := 44) (pc' := 48) rfl (hb hby at_44) (by decide) (by decide) ?_
        show Steps p.tables e below (T110.setTop (mkF m 48 #[.val (.int p0), .val (.int (1 : Int32)), .val (.int (1 : Int32)), .val (.ref a_TRUE), .unset, .unset, .unset] [(.int (1 : Int32))])) _
        refine XS.istore X110.here hx rfl (hb hby at_48) rfl (l' := #[.val (.int p0), .val (.int (1 : Int32)), .val (.int (1 : Int32)), .val (.ref a_TRUE), .val (.int (1 : Int32)), .unset, .unset]) rfl ?_
        show Steps p.tables e below (T110.setTop (mkF m 50 #[.val (.int p0), .val (.int (1 : Int32)), .val (.int (1 : Int32)), .val (.ref a_TRUE), .val (.int (1 : Int32)), .unset, .unset] [])) _
        refine XS.aloadN X110.here hx rfl (hb hby at_50) rfl rfl ?_
        exact kt
      obtain ⟨T113, X113, e113, st113⟩ := getS2 X110 hx hZ hown (host := "") (Or.inl (hw _ (List.mem_of_getElem? (i := 8) rfl))) Via.refl e110 (G4.ext O0.2) (g := (mkF m 51 #[.val (.int p0), .val (.int (1 : Int32)), .val (.int (1 : Int32)), .val (.ref a_TRUE), .val (.int (1 : Int32)), .unset, .unset] [(.ref a_TRUE)])) rfl (hb hby at_51)
      have pre114 : ∀ t, Steps p.tables e below (T113.setTop (mkF m 54 #[.val (.int p0), .val (.int (1 : Int32)), .val (.int (1 : Int32)), .val (.ref a_TRUE), .val (.int (1 : Int32)), .unset, .unset] [(.ref a_FALSE), (.ref a_TRUE)])) t → Steps p.tables e below (s₁.setTop (entryFrame m #[(.int p0)] maxLocals)) t := fun t kt => pre112 _ (st113 _ kt)
      have pre115 : ∀ t, Steps p.tables e below (T113.setTop (mkF m 65 #[.val (.int p0), .val (.int (1 : Int32)), .val (.int (1 : Int32)), .val (.ref a_TRUE), .val (.int (1 : Int32)), .val (.int (0 : Int32)), .unset] [(.ref a_TRUE)])) t → Steps p.tables e below (s₁.setTop (entryFrame m #[(.int p0)] maxLocals)) t := fun t kt => by
        refine pre114 _ ?_
        show Steps p.tables e below (T113.setTop (mkF m 54 #[.val (.int p0), .val (.int (1 : Int32)), .val (.int (1 : Int32)), .val (.ref a_TRUE), .val (.int (1 : Int32)), .unset, .unset] [(.ref a_FALSE), (.ref a_TRUE)])) _
        refine Jvm.RoadKit.acmp (g := (mkF m 54 #[.val (.int p0), .val (.int (1 : Int32)), .val (.int (1 : Int32)), .val (.ref a_TRUE), .val (.int (1 : Int32)), .unset, .unset] [(.ref a_FALSE), (.ref a_TRUE)])) X113 hx rfl rfl rfl (pc0 := 54) (pc' := 61) (same := false) rfl (hb hby at_54) rfl (decide_eq_false fun q => ne_a_TRUE_a_FALSE (Value.ref.inj q)) (by decide) (by decide) ?_
        show Steps p.tables e below (T113.setTop (mkF m 61 #[.val (.int p0), .val (.int (1 : Int32)), .val (.int (1 : Int32)), .val (.ref a_TRUE), .val (.int (1 : Int32)), .unset, .unset] [])) _
        refine XS.iconst X113.here hx rfl (hb hby at_61) ?_
        show Steps p.tables e below (T113.setTop (mkF m 62 #[.val (.int p0), .val (.int (1 : Int32)), .val (.int (1 : Int32)), .val (.ref a_TRUE), .val (.int (1 : Int32)), .unset, .unset] [(.int (0 : Int32))])) _
        refine XS.istore X113.here hx rfl (hb hby at_62) rfl (l' := #[.val (.int p0), .val (.int (1 : Int32)), .val (.int (1 : Int32)), .val (.ref a_TRUE), .val (.int (1 : Int32)), .val (.int (0 : Int32)), .unset]) rfl ?_
        show Steps p.tables e below (T113.setTop (mkF m 64 #[.val (.int p0), .val (.int (1 : Int32)), .val (.int (1 : Int32)), .val (.ref a_TRUE), .val (.int (1 : Int32)), .val (.int (0 : Int32)), .unset] [])) _
        refine XS.aloadN X113.here hx rfl (hb hby at_64) rfl rfl ?_
        exact kt
      obtain ⟨T116, X116, e116, st116⟩ := getS2 X113 hx hZ hown (host := "") (Or.inl (hw _ (List.mem_of_getElem? (i := 10) rfl))) Via.refl e113 (G0.ext O0.2) (g := (mkF m 65 #[.val (.int p0), .val (.int (1 : Int32)), .val (.int (1 : Int32)), .val (.ref a_TRUE), .val (.int (1 : Int32)), .val (.int (0 : Int32)), .unset] [(.ref a_TRUE)])) rfl (hb hby at_65)
      have pre117 : ∀ t, Steps p.tables e below (T116.setTop (mkF m 68 #[.val (.int p0), .val (.int (1 : Int32)), .val (.int (1 : Int32)), .val (.ref a_TRUE), .val (.int (1 : Int32)), .val (.int (0 : Int32)), .unset] [(.ref a_UNKNOWN), (.ref a_TRUE)])) t → Steps p.tables e below (s₁.setTop (entryFrame m #[(.int p0)] maxLocals)) t := fun t kt => pre115 _ (st116 _ kt)
      have pre118 : ∀ t, Steps p.tables e below (T116.setTop (mkF m 132 #[.val (.int p0), .val (.int (1 : Int32)), .val (.int (1 : Int32)), .val (.ref a_TRUE), .val (.int (1 : Int32)), .val (.int (0 : Int32)), .val (.int (0 : Int32))] [(.int (1 : Int32)), (.ref a_TRUE)])) t → Steps p.tables e below (s₁.setTop (entryFrame m #[(.int p0)] maxLocals)) t := fun t kt => by
        refine pre117 _ ?_
        show Steps p.tables e below (T116.setTop (mkF m 68 #[.val (.int p0), .val (.int (1 : Int32)), .val (.int (1 : Int32)), .val (.ref a_TRUE), .val (.int (1 : Int32)), .val (.int (0 : Int32)), .unset] [(.ref a_UNKNOWN), (.ref a_TRUE)])) _
        refine Jvm.RoadKit.acmp (g := (mkF m 68 #[.val (.int p0), .val (.int (1 : Int32)), .val (.int (1 : Int32)), .val (.ref a_TRUE), .val (.int (1 : Int32)), .val (.int (0 : Int32)), .unset] [(.ref a_UNKNOWN), (.ref a_TRUE)])) X116 hx rfl rfl rfl (pc0 := 68) (pc' := 75) (same := false) rfl (hb hby at_68) rfl (decide_eq_false fun q => (fun q => ne_a_UNKNOWN_a_TRUE q.symm) (Value.ref.inj q)) (by decide) (by decide) ?_
        show Steps p.tables e below (T116.setTop (mkF m 75 #[.val (.int p0), .val (.int (1 : Int32)), .val (.int (1 : Int32)), .val (.ref a_TRUE), .val (.int (1 : Int32)), .val (.int (0 : Int32)), .unset] [])) _
        refine XS.iconst X116.here hx rfl (hb hby at_75) ?_
        show Steps p.tables e below (T116.setTop (mkF m 76 #[.val (.int p0), .val (.int (1 : Int32)), .val (.int (1 : Int32)), .val (.ref a_TRUE), .val (.int (1 : Int32)), .val (.int (0 : Int32)), .unset] [(.int (0 : Int32))])) _
        refine XS.istore X116.here hx rfl (hb hby at_76) rfl (l' := #[.val (.int p0), .val (.int (1 : Int32)), .val (.int (1 : Int32)), .val (.ref a_TRUE), .val (.int (1 : Int32)), .val (.int (0 : Int32)), .val (.int (0 : Int32))]) rfl ?_
        show Steps p.tables e below (T116.setTop (mkF m 78 #[.val (.int p0), .val (.int (1 : Int32)), .val (.int (1 : Int32)), .val (.ref a_TRUE), .val (.int (1 : Int32)), .val (.int (0 : Int32)), .val (.int (0 : Int32))] [])) _
        refine XS.iload X116.here hx rfl (hb hby at_78) rfl ?_
        show Steps p.tables e below (T116.setTop (mkF m 80 #[.val (.int p0), .val (.int (1 : Int32)), .val (.int (1 : Int32)), .val (.ref a_TRUE), .val (.int (1 : Int32)), .val (.int (0 : Int32)), .val (.int (0 : Int32))] [(.int (1 : Int32))])) _
        refine XS.iloadN X116.here hx rfl (hb hby at_80) rfl ?_
        show Steps p.tables e below (T116.setTop (mkF m 81 #[.val (.int p0), .val (.int (1 : Int32)), .val (.int (1 : Int32)), .val (.ref a_TRUE), .val (.int (1 : Int32)), .val (.int (0 : Int32)), .val (.int (0 : Int32))] [(.int (1 : Int32)), (.int (1 : Int32))])) _
        refine XS.icmpYes X116.here hx rfl (pc0 := 81) (pc' := 86) rfl (hb hby at_81) rfl (XT.ii_eq_t (by decide)) (by decide) (by decide) ?_
        show Steps p.tables e below (T116.setTop (mkF m 86 #[.val (.int p0), .val (.int (1 : Int32)), .val (.int (1 : Int32)), .val (.ref a_TRUE), .val (.int (1 : Int32)), .val (.int (0 : Int32)), .val (.int (0 : Int32))] [])) _
        refine XS.iload X116.here hx rfl (hb hby at_86) rfl ?_
        show Steps p.tables e below (T116.setTop (mkF m 88 #[.val (.int p0), .val (.int (1 : Int32)), .val (.int (1 : Int32)), .val (.ref a_TRUE), .val (.int (1 : Int32)), .val (.int (0 : Int32)), .val (.int (0 : Int32))] [(.int (0 : Int32))])) _
        refine XS.iloadN X116.here hx rfl (hb hby at_88) rfl ?_
        show Steps p.tables e below (T116.setTop (mkF m 89 #[.val (.int p0), .val (.int (1 : Int32)), .val (.int (1 : Int32)), .val (.ref a_TRUE), .val (.int (1 : Int32)), .val (.int (0 : Int32)), .val (.int (0 : Int32))] [(.int (1 : Int32)), (.int (0 : Int32))])) _
        refine XS.ifYes X116.here hx rfl (pc0 := 89) (pc' := 100) rfl (hb hby at_89) rfl (XT.i0_ne_t (by decide)) (by decide) (by decide) ?_
        show Steps p.tables e below (T116.setTop (mkF m 100 #[.val (.int p0), .val (.int (1 : Int32)), .val (.int (1 : Int32)), .val (.ref a_TRUE), .val (.int (1 : Int32)), .val (.int (0 : Int32)), .val (.int (0 : Int32))] [(.int (0 : Int32))])) _
        refine XS.iconst X116.here hx rfl (hb hby at_100) ?_
        show Steps p.tables e below (T116.setTop (mkF m 101 #[.val (.int p0), .val (.int (1 : Int32)), .val (.int (1 : Int32)), .val (.ref a_TRUE), .val (.int (1 : Int32)), .val (.int (0 : Int32)), .val (.int (0 : Int32))] [(.int (0 : Int32)), (.int (0 : Int32))])) _
        refine XS.icmpYes X116.here hx rfl (pc0 := 101) (pc' := 106) rfl (hb hby at_101) rfl (XT.ii_eq_t (by decide)) (by decide) (by decide) ?_
        show Steps p.tables e below (T116.setTop (mkF m 106 #[.val (.int p0), .val (.int (1 : Int32)), .val (.int (1 : Int32)), .val (.ref a_TRUE), .val (.int (1 : Int32)), .val (.int (0 : Int32)), .val (.int (0 : Int32))] [])) _
        refine XS.iload X116.here hx rfl (hb hby at_106) rfl ?_
        show Steps p.tables e below (T116.setTop (mkF m 108 #[.val (.int p0), .val (.int (1 : Int32)), .val (.int (1 : Int32)), .val (.ref a_TRUE), .val (.int (1 : Int32)), .val (.int (0 : Int32)), .val (.int (0 : Int32))] [(.int (0 : Int32))])) _
        refine XS.iloadN X116.here hx rfl (hb hby at_108) rfl ?_
        show Steps p.tables e below (T116.setTop (mkF m 109 #[.val (.int p0), .val (.int (1 : Int32)), .val (.int (1 : Int32)), .val (.ref a_TRUE), .val (.int (1 : Int32)), .val (.int (0 : Int32)), .val (.int (0 : Int32))] [(.int (1 : Int32)), (.int (0 : Int32))])) _
        refine XS.ifYes X116.here hx rfl (pc0 := 109) (pc' := 120) rfl (hb hby at_109) rfl (XT.i0_ne_t (by decide)) (by decide) (by decide) ?_
        show Steps p.tables e below (T116.setTop (mkF m 120 #[.val (.int p0), .val (.int (1 : Int32)), .val (.int (1 : Int32)), .val (.ref a_TRUE), .val (.int (1 : Int32)), .val (.int (0 : Int32)), .val (.int (0 : Int32))] [(.int (0 : Int32))])) _
        refine XS.iconst X116.here hx rfl (hb hby at_120) ?_
        show Steps p.tables e below (T116.setTop (mkF m 121 #[.val (.int p0), .val (.int (1 : Int32)), .val (.int (1 : Int32)), .val (.ref a_TRUE), .val (.int (1 : Int32)), .val (.int (0 : Int32)), .val (.int (0 : Int32))] [(.int (0 : Int32)), (.int (0 : Int32))])) _
        refine XS.icmpYes X116.here hx rfl (pc0 := 121) (pc' := 126) rfl (hb hby at_121) rfl (XT.ii_eq_t (by decide)) (by decide) (by decide) ?_
        show Steps p.tables e below (T116.setTop (mkF m 126 #[.val (.int p0), .val (.int (1 : Int32)), .val (.int (1 : Int32)), .val (.ref a_TRUE), .val (.int (1 : Int32)), .val (.int (0 : Int32)), .val (.int (0 : Int32))] [])) _
        refine XS.iloadN X116.here hx rfl (hb hby at_126) rfl ?_
        show Steps p.tables e below (T116.setTop (mkF m 127 #[.val (.int p0), .val (.int (1 : Int32)), .val (.int (1 : Int32)), .val (.ref a_TRUE), .val (.int (1 : Int32)), .val (.int (0 : Int32)), .val (.int (0 : Int32))] [(.int (1 : Int32))])) _
        refine XS.ifNo X116.here hx rfl (hb hby at_127) rfl (XT.i0_eq_f (by decide)) ?_
        show Steps p.tables e below (T116.setTop (mkF m 130 #[.val (.int p0), .val (.int (1 : Int32)), .val (.int (1 : Int32)), .val (.ref a_TRUE), .val (.int (1 : Int32)), .val (.int (0 : Int32)), .val (.int (0 : Int32))] [])) _
        refine XS.aloadN X116.here hx rfl (hb hby at_130) rfl rfl ?_
        show Steps p.tables e below (T116.setTop (mkF m 131 #[.val (.int p0), .val (.int (1 : Int32)), .val (.int (1 : Int32)), .val (.ref a_TRUE), .val (.int (1 : Int32)), .val (.int (0 : Int32)), .val (.int (0 : Int32))] [(.ref a_TRUE)])) _
        refine XS.iloadN X116.here hx rfl (hb hby at_131) rfl ?_
        exact kt
      obtain ⟨_, _, ⟨T119, L119, k119, n119⟩, -, X119, ⟨Lc119, hQ119, l119, y119, z119⟩, st119⟩ := Jvm.LawKit.callS X116 hx (y := (⟨"com/example/contexture/contexture/engine/evaluation/TruthValue", "of", "(Z)Lcom/example/contexture/contexture/engine/evaluation/TruthValue;"⟩ : MethodName)) hown (mvT hZ (hw _ (List.mem_of_getElem? (i := 12) rfl))) (mvT hZ (hw _ (List.mem_of_getElem? (i := 13) rfl))) (mvT hZ (hw _ (List.mem_of_getElem? (i := 2) rfl))) (mvT hZ (hw _ (List.mem_of_getElem? (i := 14) rfl))) (by decide) (backOf (W := 1) (rm_of2_1 l Z a0 hw [] a_TRUE h0 n0 O0 G2) hZ (hw _ (List.mem_of_getElem? (i := 14) rfl)) (hw _ (List.mem_of_getElem? (i := 2) rfl)) (by decide) (by decide)) (g := (mkF m 132 #[.val (.int p0), .val (.int (1 : Int32)), .val (.int (1 : Int32)), .val (.ref a_TRUE), .val (.int (1 : Int32)), .val (.int (0 : Int32)), .val (.int (0 : Int32))] [(.int (1 : Int32)), (.ref a_TRUE)])) rfl (by rw [hml]; rfl) (argsL := [(.int (1 : Int32))]) (rest := [(.ref a_TRUE)]) (lenOf pd_6 rfl) rfl (by show 2 * 0 + _ ≤ _; exact Nat.le_of_eq rfl) (hb hby at_132) (fun _ _ => ⟨rfl, e116, (by decide : 0 + 0 ≤ _), (by decide : 0 + 0 ≤ _)⟩)
      dsimp only [Pt.U, Pt.locs, Pt.cells, Pt.slots] at X119 l119 y119 z119 st119 hQ119
      subst l119 y119 z119
      obtain ⟨rfl, M119, e119⟩ := hQ119
      have N119 := Fr.app N95 M119
      have pre132 : ∀ t, Steps p.tables e below (T119.setTop (mkF m 135 #[.val (.int p0), .val (.int (1 : Int32)), .val (.int (1 : Int32)), .val (.ref a_TRUE), .val (.int (1 : Int32)), .val (.int (0 : Int32)), .val (.int (0 : Int32))] [(.ref a_TRUE), (.ref a_TRUE)])) t → Steps p.tables e below (s₁.setTop (entryFrame m #[(.int p0)] maxLocals)) t := fun t kt => pre118 _ (st119 _ kt)
      have pre133 : ∀ t, Steps p.tables e below (T119.setTop (mkF m 141 #[.val (.int p0), .val (.int (1 : Int32)), .val (.int (1 : Int32)), .val (.ref a_TRUE), .val (.int (1 : Int32)), .val (.int (0 : Int32)), .val (.int (0 : Int32))] [(.int (1 : Int32))])) t → Steps p.tables e below (s₁.setTop (entryFrame m #[(.int p0)] maxLocals)) t := fun t kt => by
        refine pre132 _ ?_
        show Steps p.tables e below (T119.setTop (mkF m 135 #[.val (.int p0), .val (.int (1 : Int32)), .val (.int (1 : Int32)), .val (.ref a_TRUE), .val (.int (1 : Int32)), .val (.int (0 : Int32)), .val (.int (0 : Int32))] [(.ref a_TRUE), (.ref a_TRUE)])) _
        refine Jvm.RoadKit.acmp (g := (mkF m 135 #[.val (.int p0), .val (.int (1 : Int32)), .val (.int (1 : Int32)), .val (.ref a_TRUE), .val (.int (1 : Int32)), .val (.int (0 : Int32)), .val (.int (0 : Int32))] [(.ref a_TRUE), (.ref a_TRUE)])) X119 hx rfl rfl rfl (pc0 := 135) (pc' := 140) (same := true) rfl (hb hby at_135) rfl (decide_eq_true rfl) (by decide) (by decide) ?_
        show Steps p.tables e below (T119.setTop (mkF m 140 #[.val (.int p0), .val (.int (1 : Int32)), .val (.int (1 : Int32)), .val (.ref a_TRUE), .val (.int (1 : Int32)), .val (.int (0 : Int32)), .val (.int (0 : Int32))] [])) _
        refine XS.iconst X119.here hx rfl (hb hby at_140) ?_
        exact kt
      obtain ⟨fs, hr, hrun, hended, hW, hsame⟩ := X119.leave (v := some (.int (1 : Int32))) (fun h => by rw [Bd.returns] at h; cases h)
      refine ⟨_, _, pre133 _ (retN X119 hx (t := .boolean) Bd.returns (by simp) (hb hby at_141) hr), hrun, hended, _, _, rfl, ?_, ⟨_, rfl⟩, hW, hsame.mono (by decide) (by decide)⟩
      show Q_law Z p0 a_UNKNOWN a_TRUE a_FALSE h0 n0 _ T119.heap _
      rw [e119]
      exact ⟨rfl, N119⟩
set_option maxRecDepth 65536 in
set_option maxHeartbeats 40000000 in
theorem comes_1 {Post : Tables → Env → Array Value → State → Outcome → State → Prop} (hpost : ∀ tb e args s v u, (limb_1_1.after args s (.returned v) u = true ∧ limb_1_2.after args s (.returned v) u = true ∧ True) → FrameEnd s (.returned v) u (Jvm.fieldLocs frame_1_writes args s ++ Jvm.arrayLocs frame_1_arrays args s ++ Jvm.staticLocs frame_1_statics s) 0 0 → Post tb e args s (.returned v) u) :
    ArmFor flags0 classFile x code maxLocals ret World_1 tables_1 room_1 Calls_1 rest_1 Pre_1 Post := by
  intro l hfl _ _ p e ha hc hk s m args below hf hA hF happ hP
  obtain ⟨hcalls, hrest, hpre⟩ := hP
  obtain ⟨-, -, -, hnamed, -, -, -, hat⟩ := (Spec.applies_iff hf).mp happ
  obtain ⟨hg, hn⟩ := and_e (Cond.before_iff.mp (show (Jvm.Cond.and given_1 narrow_1).before args s = true from hpre))
  obtain ⟨given_1_2, given_1_3⟩ := and_e hg
  obtain ⟨narrow_1_2, narrow_1_3⟩ := and_e hn
  obtain ⟨narrow_1_4, narrow_1_5⟩ := and_e narrow_1_3
  obtain ⟨narrow_1_6, narrow_1_7⟩ := and_e narrow_1_5
  obtain ⟨narrow_1_8, narrow_1_9⟩ := and_e narrow_1_7
  obtain ⟨narrow_1_10, narrow_1_11⟩ := and_e narrow_1_9
  obtain ⟨w0, rfl⟩ : ∃ w0 : Value, args = #[w0] := by
    have hs : args.size = 1 := by simpa [Cond.value, given_1] using given_1_2
    obtain ⟨L⟩ := args
    match L, hs with
    | [w0], _ => exact ⟨w0, rfl⟩
  have hw := fun d (hd : d ∈ tables_1) => atoms_spec (ws := Jvm.Cond.code x code maxLocals ret :: tables_1) hat d (List.mem_cons_of_mem _ hd)
  have hfit : Fit s := fun {y c} hc i hi => by
    obtain ⟨ha, rfl⟩ := Array.getElem?_eq_some_iff.mp hc
    have q := List.all_eq_true.mp ((Array.all_eq_true_iff_forall_mem.mp hF) _ (Array.getElem_mem ha)) i (List.mem_range.mpr hi)
    simpa [Array.getElem?_eq_getElem hi] using q
  obtain ⟨i0, ei0⟩ := is_v given_1_3
  obtain rfl : w0 = (.int i0) := Option.some.inj ei0
  obtain ⟨a_UNKNOWN, ev_UNKNOWN⟩ := exa_v narrow_1_2
  have S_UNKNOWN : Sta s s.heap "com/example/contexture/contexture/engine/evaluation/TruthValue" "UNKNOWN" "Lcom/example/contexture/contexture/engine/evaluation/TruthValue;" (.ref a_UNKNOWN) := Sta.start ev_UNKNOWN (Or.inr ⟨(hw _ (List.mem_of_getElem? (i := 2) rfl)), (hw _ (List.mem_of_getElem? (i := 5) rfl))⟩)
  have E_UNKNOWN : Exa s s.heap a_UNKNOWN "com/example/contexture/contexture/engine/evaluation/TruthValue" := Exa.start ev_UNKNOWN narrow_1_2
  obtain ⟨a_TRUE, ev_TRUE⟩ := exa_v narrow_1_4
  have S_TRUE : Sta s s.heap "com/example/contexture/contexture/engine/evaluation/TruthValue" "TRUE" "Lcom/example/contexture/contexture/engine/evaluation/TruthValue;" (.ref a_TRUE) := Sta.start ev_TRUE (Or.inr ⟨(hw _ (List.mem_of_getElem? (i := 2) rfl)), (hw _ (List.mem_of_getElem? (i := 7) rfl))⟩)
  have E_TRUE : Exa s s.heap a_TRUE "com/example/contexture/contexture/engine/evaluation/TruthValue" := Exa.start ev_TRUE narrow_1_4
  obtain ⟨a_FALSE, ev_FALSE⟩ := exa_v narrow_1_10
  have S_FALSE : Sta s s.heap "com/example/contexture/contexture/engine/evaluation/TruthValue" "FALSE" "Lcom/example/contexture/contexture/engine/evaluation/TruthValue;" (.ref a_FALSE) := Sta.start ev_FALSE (Or.inr ⟨(hw _ (List.mem_of_getElem? (i := 2) rfl)), (hw _ (List.mem_of_getElem? (i := 9) rfl))⟩)
  have E_FALSE : Exa s s.heap a_FALSE "com/example/contexture/contexture/engine/evaluation/TruthValue" := Exa.start ev_FALSE narrow_1_10
  have P_UNKNOWN_ordinal : Fld s s.heap a_UNKNOWN "java/lang/Enum" "ordinal" "I" (.int (2 : Int32)) := own_fldI ev_UNKNOWN narrow_1_6
  have P_TRUE_ordinal : Fld s s.heap a_TRUE "java/lang/Enum" "ordinal" "I" (.int (0 : Int32)) := own_fldI ev_TRUE narrow_1_8
  have P_FALSE_ordinal : Fld s s.heap a_FALSE "java/lang/Enum" "ordinal" "I" (.int (1 : Int32)) := own_fldI ev_FALSE narrow_1_11
  obtain ⟨n, o, h1, h2, h3, _, L, rfl, ⟨rfl, N⟩, hq⟩ := rm_law l s _ hw tables_1 i0 a_UNKNOWN a_TRUE a_FALSE s.heap s.heap.size (Old.start s) S_UNKNOWN E_UNKNOWN S_TRUE E_TRUE S_FALSE E_FALSE P_UNKNOWN_ordinal P_TRUE_ordinal P_FALSE_ordinal p e ha hc hk s m _ below hf ((Spec.applies_iff_loose hf).mp happ).1 ⟨rfl, State.Warmed39.refl s, rfl⟩ trivial
  refine ⟨n, _, h1, h2, h3, hpost _ _ _ _ _ _ ⟨Cond.after_iff.mpr rfl, Cond.after_iff.mpr (eq_i res_at (Term.int_eval (1)) rfl), trivial⟩ ⟨hq.1, hq.2.1, (hq.2.2.sift fun y hy => Or.inr (N y hy)).mono (by decide) (by decide)⟩⟩
theorem main_1_1 : Claimed_1_1 := comes_1 fun _ _ _ _ _ _ h hF => ⟨h.1, hF⟩
theorem main_1_2 : Claimed_1_2 := comes_1 fun _ _ _ _ _ _ h hF => ⟨h.2.1, hF⟩
end Jvm.Pilot.@@N@@
namespace Jvm.Pilot.@@N@@
open Jvm Jvm.ClassFile Sem Op Lib Jvm.Free Jvm.Stand Jvm.Pilot.@@N@@.Jvm.D
/-! MADE BY PROGRAM (witnessworld.py) out of the Statement's table words and the real class files: 10 classes; the members and pool entries that the words name. The judged class is class 1, her method 1. -/
namespace start1
open Jvm.ClassFile
def u (s : String) : CpInfo := .utf8 (stringToUtf16 s)
/-- a pool by its gaps: so many unusable entries, then the entry; so many at the end -/
def gap : Nat → List CpInfo → List CpInfo
  | 0, r => r
  | n + 1, r => .unusable :: gap n r
def poolList (es : List (Nat × CpInfo)) (last : Nat) : List CpInfo := es.foldr (fun e r => gap e.1 (e.2 :: r)) (gap last [])
def pool (es : List (Nat × CpInfo)) (last : Nat) : Array CpInfo := ⟨poolList es last⟩
def fileOf (pool : Array CpInfo) (this : Nat) (attrs : Array Attribute := #[]) (ms : Array MethodInfo := #[]) (fl : Nat := 33) (sup : Nat := 0) (ifs : Array Nat := #[]) (fds : Array FieldInfo := #[]) : ClassFile where
  minorVersion := 0
  majorVersion := 65
  constantPool := pool
  accessFlags := fl
  thisClass := this
  superClass := sup
  interfaces := ifs
  fields := fds
  methods := ms
  attributes := attrs
def plain (name : String) (sup : Option ClassId) : Class where
  name := name
  kind := .ordinary
  loader := none
  accessFlags := 33
  super := sup
  interfaces := #[]
  cf := none
  fields := #[]
  methods := #[]
  instanceTypes := #[]
  staticTypes := #[]
  resolved := #[]
  callSites := []
  init := .initialized
  statics := none
  mirror := none

def pool0 : Array CpInfo := pool [(5, u "<init>"), (0, u "()V"), (1, .class_ 10), (1, u "java/lang/Object")] 113

def k0m0 : Method := { name := "<init>", desc := "()V", sig := { parameters := [], returnType := none }, accessFlags := 1, code := none }
/-- java/lang/Object -/
def k0 : Class := { plain "java/lang/Object" none with
  accessFlags := 33
  interfaces := #[]
  cf := some (fileOf pool0 8 #[] #[{ accessFlags := 1, nameIndex := 5, descriptorIndex := 6, attributes := #[] }] 33 0 #[] #[])
  fields := #[]
  methods := #[k0m0]
  instanceTypes := #[]
  staticTypes := #[]
  resolved := Array.replicate 124 none
  statics := none }

def pool1 : Array CpInfo := pool [(2, .class_ 4), (1, u "java/lang/Object"), (0, u "<init>"), (0, u "()V"), (0, .methodref 8 9), (0, .class_ 10), (0, .nameAndType 11 12), (0, u "com/example/contexture/contexture/engine/evaluation/TruthValue"), (0, u "reported"), (0, u "(ZZ)Lcom/example/contexture/contexture/engine/evaluation/TruthValue;"), (0, .fieldref 8 14), (0, .nameAndType 15 16), (0, u "TRUE"), (0, u "Lcom/example/contexture/contexture/engine/evaluation/TruthValue;"), (0, .fieldref 8 18), (0, .nameAndType 19 16), (0, u "FALSE"), (0, .fieldref 8 21), (0, .nameAndType 22 16), (0, u "UNKNOWN"), (0, .methodref 8 24), (0, .nameAndType 25 26), (0, u "of"), (0, u "(Z)Lcom/example/contexture/contexture/engine/evaluation/TruthValue;"), (0, .class_ 28), (0, u "com/example/contexture/contexture/engine/evaluation/TruthValueReportedPinLaw"), (2, u "law"), (0, u "(I)Z")] 3

def k1m0 : Method := { name := "<init>", desc := "()V", sig := { parameters := [], returnType := none }, accessFlags := 1, code := none }
def k1c1 : Code := { maxStack := 2, maxLocals := 7, code := code, exceptionTable := #[], attributes := #[] }
def k1m1 : Method := { name := "law", desc := "(I)Z", sig := { parameters := [.int], returnType := some .boolean }, accessFlags := 9, code := some k1c1 }
/-- com/example/contexture/contexture/engine/evaluation/TruthValueReportedPinLaw -/
def k1 : Class := { plain "com/example/contexture/contexture/engine/evaluation/TruthValueReportedPinLaw" (some 0) with
  accessFlags := 49
  interfaces := #[]
  cf := some (fileOf pool1 27 #[] #[{ accessFlags := 1, nameIndex := 5, descriptorIndex := 6, attributes := #[] }, { accessFlags := 9, nameIndex := 31, descriptorIndex := 32, attributes := #[] }] 49 2 #[] #[])
  fields := #[]
  methods := #[k1m0, k1m1]
  instanceTypes := #[]
  staticTypes := #[]
  resolved := Array.replicate 36 none
  statics := none }

def pool2 : Array CpInfo := pool [(1, .class_ 2), (0, u "java/lang/constant/Constable"), (0, .class_ 4), (0, u "java/lang/Object")] 6

/-- java/lang/constant/Constable -/
def k2 : Class := { plain "java/lang/constant/Constable" (some 0) with
  accessFlags := 1537
  interfaces := #[]
  cf := some (fileOf pool2 1 #[] #[] 1537 3 #[] #[])
  fields := #[]
  methods := #[]
  instanceTypes := #[]
  staticTypes := #[]
  resolved := Array.replicate 11 none
  statics := none }

def pool3 : Array CpInfo := pool [(1, .class_ 2), (0, u "java/lang/Comparable"), (0, .class_ 4), (0, u "java/lang/Object")] 7

/-- java/lang/Comparable -/
def k3 : Class := { plain "java/lang/Comparable" (some 0) with
  accessFlags := 1537
  interfaces := #[]
  cf := some (fileOf pool3 1 #[] #[] 1537 3 #[] #[])
  fields := #[]
  methods := #[]
  instanceTypes := #[]
  staticTypes := #[]
  resolved := Array.replicate 12 none
  statics := none }

def pool4 : Array CpInfo := pool [(1, .class_ 2), (0, u "java/io/Serializable"), (0, .class_ 4), (0, u "java/lang/Object")] 2

/-- java/io/Serializable -/
def k4 : Class := { plain "java/io/Serializable" (some 0) with
  accessFlags := 1537
  interfaces := #[]
  cf := some (fileOf pool4 1 #[] #[] 1537 3 #[] #[])
  fields := #[]
  methods := #[]
  instanceTypes := #[]
  staticTypes := #[]
  resolved := Array.replicate 7 none
  statics := none }

def pool5 : Array CpInfo := pool [(2, .class_ 4), (1, u "java/lang/Enum"), (0, u "name"), (0, u "Ljava/lang/String;"), (2, u "ordinal"), (0, u "I"), (1, .class_ 14), (1, u "java/lang/Object"), (4, u "hash"), (86, .class_ 108), (1, u "java/lang/Enum$EnumDesc"), (2, .class_ 112), (0, u "java/lang/constant/Constable"), (0, .class_ 114), (0, u "java/lang/Comparable"), (0, .class_ 116), (0, u "java/io/Serializable")] 87

/-- java/lang/Enum -/
def k5 : Class := { plain "java/lang/Enum" (some 0) with
  accessFlags := 1057
  interfaces := #[2, 3, 4]
  cf := some (fileOf pool5 2 #[.nestMembers #[106]] #[] 1057 12 #[111, 113, 115] #[{ accessFlags := 18, nameIndex := 5, descriptorIndex := 6, attributes := #[] }, { accessFlags := 18, nameIndex := 9, descriptorIndex := 10, attributes := #[] }, { accessFlags := 2, nameIndex := 19, descriptorIndex := 10, attributes := #[] }])
  fields := #[{ name := "name", type := (.object "java/lang/String"), accessFlags := 18, slot := 0, constantValue := 0 }, { name := "ordinal", type := .int, accessFlags := 18, slot := 1, constantValue := 0 }, { name := "hash", type := .int, accessFlags := 2, slot := 2, constantValue := 0 }]
  methods := #[]
  instanceTypes := #[(.object "java/lang/String"), .int, .int]
  staticTypes := #[]
  resolved := Array.replicate 204 none
  statics := none }

def pool6 : Array CpInfo := pool [(1, .class_ 2), (0, u "com/example/contexture/contexture/engine/evaluation/TruthValue"), (0, .fieldref 1 4), (0, .nameAndType 5 6), (0, u "TRUE"), (0, u "Lcom/example/contexture/contexture/engine/evaluation/TruthValue;"), (0, .fieldref 1 8), (0, .nameAndType 9 6), (0, u "FALSE"), (0, .fieldref 1 11), (0, .nameAndType 12 6), (0, u "UNKNOWN"), (2, u "$VALUES"), (0, u "[Lcom/example/contexture/contexture/engine/evaluation/TruthValue;"), (6, .class_ 25), (1, u "java/lang/Enum"), (23, .class_ 50), (0, u "com/example/contexture/contexture/engine/evaluation/TruthValue$1"), (5, u "LOGIC"), (0, u "Lcom/example/contexture/contexture/engine/evaluation/Logic;"), (7, u "of"), (0, u "(Z)Lcom/example/contexture/contexture/engine/evaluation/TruthValue;"), (1, u "reported"), (0, u "(ZZ)Lcom/example/contexture/contexture/engine/evaluation/TruthValue;"), (7, .class_ 78), (0, u "com/example/contexture/contexture/engine/evaluation/TruthValue$Tally")] 2

def k6c0 : Code := { maxStack := 1, maxLocals := 1, code := prog_14_method_4_code, exceptionTable := #[], attributes := #[] }
def k6m0 : Method := { name := "of", desc := "(Z)Lcom/example/contexture/contexture/engine/evaluation/TruthValue;", sig := { parameters := [.boolean], returnType := some (.object "com/example/contexture/contexture/engine/evaluation/TruthValue") }, accessFlags := 9, code := some k6c0 }
def k6c1 : Code := { maxStack := 1, maxLocals := 3, code := prog_14_method_5_code, exceptionTable := #[], attributes := #[] }
def k6m1 : Method := { name := "reported", desc := "(ZZ)Lcom/example/contexture/contexture/engine/evaluation/TruthValue;", sig := { parameters := [.boolean, .boolean], returnType := some (.object "com/example/contexture/contexture/engine/evaluation/TruthValue") }, accessFlags := 9, code := some k6c1 }
/-- com/example/contexture/contexture/engine/evaluation/TruthValue -/
def k6 : Class := { plain "com/example/contexture/contexture/engine/evaluation/TruthValue" (some 5) with
  accessFlags := 16433
  interfaces := #[]
  cf := some (fileOf pool6 1 #[.nestMembers #[77, 49]] #[{ accessFlags := 9, nameIndex := 65, descriptorIndex := 66, attributes := #[] }, { accessFlags := 9, nameIndex := 68, descriptorIndex := 69, attributes := #[] }] 16433 23 #[] #[{ accessFlags := 16409, nameIndex := 5, descriptorIndex := 6, attributes := #[] }, { accessFlags := 16409, nameIndex := 9, descriptorIndex := 6, attributes := #[] }, { accessFlags := 16409, nameIndex := 12, descriptorIndex := 6, attributes := #[] }, { accessFlags := 25, nameIndex := 56, descriptorIndex := 57, attributes := #[] }, { accessFlags := 4122, nameIndex := 15, descriptorIndex := 16, attributes := #[] }])
  fields := #[{ name := "TRUE", type := (.object "com/example/contexture/contexture/engine/evaluation/TruthValue"), accessFlags := 16409, slot := 0, constantValue := 0 }, { name := "FALSE", type := (.object "com/example/contexture/contexture/engine/evaluation/TruthValue"), accessFlags := 16409, slot := 1, constantValue := 0 }, { name := "UNKNOWN", type := (.object "com/example/contexture/contexture/engine/evaluation/TruthValue"), accessFlags := 16409, slot := 2, constantValue := 0 }, { name := "LOGIC", type := (.object "com/example/contexture/contexture/engine/evaluation/Logic"), accessFlags := 25, slot := 3, constantValue := 0 }, { name := "$VALUES", type := (.array (.object "com/example/contexture/contexture/engine/evaluation/TruthValue")), accessFlags := 4122, slot := 4, constantValue := 0 }]
  methods := #[k6m0, k6m1]
  instanceTypes := #[(.object "java/lang/String"), .int, .int]
  staticTypes := #[(.object "com/example/contexture/contexture/engine/evaluation/TruthValue"), (.object "com/example/contexture/contexture/engine/evaluation/TruthValue"), (.object "com/example/contexture/contexture/engine/evaluation/TruthValue"), (.object "com/example/contexture/contexture/engine/evaluation/Logic"), (.array (.object "com/example/contexture/contexture/engine/evaluation/TruthValue"))]
  resolved := Array.replicate 81 none
  statics := some 0 }

def pool7 : Array CpInfo := pool [(1, u "java/lang/Cloneable"), (0, .class_ 1), (0, u "java/lang/Object"), (0, .class_ 3)] 3

/-- java/lang/Cloneable -/
def k7 : Class := { plain "java/lang/Cloneable" (some 0) with
  accessFlags := 1537
  interfaces := #[]
  cf := some (fileOf pool7 2 #[] #[] 1537 4 #[] #[])
  fields := #[]
  methods := #[]
  instanceTypes := #[]
  staticTypes := #[]
  resolved := Array.replicate 8 none
  statics := none }

/-- the primitive byte -/
def k8 : Class := { plain "byte" none with kind := .primitive 'B', accessFlags := 0x411 }
/-- [B -/
def k9 : Class := { plain "[B" (some 0) with kind := .array 8 .byte, interfaces := #[7, 4], accessFlags := 1041 }

def heap : Heap := #[{ cls := 6, slots := #[.ref 2, .ref 3, .ref 1, .null, .null], vm := .statics 6 },
  { cls := 6, slots := #[.null, .int 2, .int 0], vm := .none },
  { cls := 6, slots := #[.null, .int 0, .int 0], vm := .none },
  { cls := 6, slots := #[.null, .int 1, .int 0], vm := .none }]
def classes : Array Class := #[k0, k1, k2, k3, k4, k5, k6, k7, k8, k9]
def interned : List (Array UInt16 × Addr) := []
def slotsUsed : Nat := 14
def theMethod : MethodId := ⟨1, 1⟩
def args0 : Array Value := #[.int 5]
def aboutOver (below : List Frame) : State where
  vm := { classes := classes, interned := interned.toArray }
  heap := heap
  slotsUsed := slotsUsed
  threads := #[{ frames := .invoking theMethod args0 :: below }]
def below0 : List Frame := [.native { method := ⟨0, 0⟩, args := #[] }]
def about1 : State := aboutOver below0
def p0 : Program := .bare "" "" ""
def e0 : Env := launch0.env 0 0 0
theorem w_frames : about1.frames = Frame.invoking theMethod args0 :: below0 := rfl
set_option maxRecDepth 65536 in
theorem w_args : argsFit about1.vm theMethod args0 = true := by decide +kernel
set_option maxRecDepth 65536 in
theorem w_heap : heapFits about1 = true := by decide +kernel
set_option maxRecDepth 65536 in
theorem w_runnable : about1.curStatus? = some .runnable := by decide +kernel
set_option maxRecDepth 65536 in
theorem w_alone : about1.alone = true := by decide +kernel
set_option maxRecDepth 65536 in
theorem w_named : about1.methodNamed? x = some theMethod := by decide +kernel
set_option maxRecDepth 65536 in
theorem w_hears : about1.hears theMethod below0 = true := by decide +kernel
set_option maxRecDepth 65536 in
theorem w_ripe : about1.ripe theMethod args0 below0 = true := by decide +kernel
theorem w_running : about1.status = .running := rfl
set_option maxRecDepth 65536 in
theorem w_room : about1.hasRoom e0.platform room_1 = true :=
  launch0.hasRoom_least _ room_1 (by decide +kernel) (by decide +kernel) (by decide +kernel) (by decide +kernel) (by decide +kernel) (by decide +kernel)
theorem allAtoms_all (ts : List Jvm.Cond) (a : Array Jvm.Value) (st : Jvm.State) : (allAtoms ts).before a st = ts.all (fun c => c.before a st) := by
  induction ts with
  | nil => rfl
  | cons c t ih =>
    show (Jvm.Cond.and c (allAtoms t)).before a st = _
    rw [Jvm.Cond.before_and, ih, List.all_cons]
def words1 : List Jvm.Cond := Jvm.Cond.code x code maxLocals ret :: tables_1
/-- a 'code' word, met by the world's own term for the bytes: nothing is compared byte by byte -/
theorem code_word {y : MethodName} {bytes : ByteArray} {mx : Nat} {rt : Option FieldType} {a : Array Value} {s : State} {m : MethodId} {meth : Method} {c : Code} (h1 : s.methodNamed? y = some m) (h2 : s.vm.method? m = some meth) (h3 : meth.code = some c) (h4 : c.code = bytes)
    (h5 : (c.maxLocals == mx && c.exceptionTable.isEmpty && decide (c.maxStack ≤ mostOperands) && decide (meth.sig.returnType = rt) && !meth.locks && decide (parseMethodDescriptor y.desc = some meth.sig)) = true) : (Jvm.Cond.code y bytes mx rt).before a s = true := by
  simp only [Bool.and_eq_true, beq_iff_eq, Bool.not_eq_true', decide_eq_true_eq] at h5
  obtain ⟨⟨⟨⟨⟨g1, g2⟩, g3⟩, g4⟩, g5⟩, g6⟩ := h5
  simp [Cond.before, Cond.holds, Cond.value, h1, h2, h3, h4, g1, g2, g3, g4, g5, g6]
def isCode : Jvm.Cond → Bool
  | .code _ _ _ _ => true
  | _ => false
theorem all_split {L : List Jvm.Cond} {P : Jvm.Cond → Bool} (h1 : L.all (fun c => isCode c || P c) = true) (h2 : ∀ c ∈ L.filter isCode, P c = true) : L.all P = true := by
  refine List.all_eq_true.mpr fun c hc => ?_
  have h := List.all_eq_true.mp h1 c hc
  rcases Bool.eq_false_or_eq_true (isCode c) with hi | hi
  · exact h2 c (List.mem_filter.mpr ⟨hc, hi⟩)
  · simpa [hi] using h
set_option maxRecDepth 65536 in
theorem w_c0 : (Jvm.Cond.code x code maxLocals ret).before args0 about1 = true := code_word (m := ⟨1, 1⟩) (meth := k1m1) (c := k1c1) (by decide +kernel) rfl rfl rfl (by decide +kernel)
set_option maxRecDepth 65536 in
theorem w_c1 : (Jvm.Cond.code ({ cls := "com/example/contexture/contexture/engine/evaluation/TruthValue", name := "reported", desc := "(ZZ)Lcom/example/contexture/contexture/engine/evaluation/TruthValue;" } : Jvm.MethodName) prog_14_method_5_code (3 : Nat) (Option.some (Jvm.ClassFile.FieldType.object "com/example/contexture/contexture/engine/evaluation/TruthValue"))).before args0 about1 = true := code_word (m := ⟨6, 1⟩) (meth := k6m1) (c := k6c1) (by decide +kernel) rfl rfl rfl (by decide +kernel)
set_option maxRecDepth 65536 in
theorem w_c2 : (Jvm.Cond.code ({ cls := "com/example/contexture/contexture/engine/evaluation/TruthValue", name := "of", desc := "(Z)Lcom/example/contexture/contexture/engine/evaluation/TruthValue;" } : Jvm.MethodName) prog_14_method_4_code (1 : Nat) (Option.some (Jvm.ClassFile.FieldType.object "com/example/contexture/contexture/engine/evaluation/TruthValue"))).before args0 about1 = true := code_word (m := ⟨6, 0⟩) (meth := k6m0) (c := k6c0) (by decide +kernel) rfl rfl rfl (by decide +kernel)
def codes1 : List Jvm.Cond := [Jvm.Cond.code x code maxLocals ret, Jvm.Cond.code ({ cls := "com/example/contexture/contexture/engine/evaluation/TruthValue", name := "reported", desc := "(ZZ)Lcom/example/contexture/contexture/engine/evaluation/TruthValue;" } : Jvm.MethodName) prog_14_method_5_code (3 : Nat) (Option.some (Jvm.ClassFile.FieldType.object "com/example/contexture/contexture/engine/evaluation/TruthValue")), Jvm.Cond.code ({ cls := "com/example/contexture/contexture/engine/evaluation/TruthValue", name := "of", desc := "(Z)Lcom/example/contexture/contexture/engine/evaluation/TruthValue;" } : Jvm.MethodName) prog_14_method_4_code (1 : Nat) (Option.some (Jvm.ClassFile.FieldType.object "com/example/contexture/contexture/engine/evaluation/TruthValue"))]
set_option maxRecDepth 65536 in
theorem codes_eq : words1.filter isCode = codes1 := rfl
theorem w_codes : ∀ c ∈ words1.filter isCode, c.before args0 about1 = true := by
  rw [codes_eq]
  intro c hc
  simp only [codes1, List.mem_cons, List.not_mem_nil, or_false] at hc
  rcases hc with rfl | rfl | rfl
  · exact w_c0
  · exact w_c1
  · exact w_c2
set_option maxRecDepth 65536 in
theorem w_t1 : words1.all (fun c => isCode c || c.before args0 about1) = true := by decide +kernel
theorem w_tables : (allAtoms (Jvm.Cond.code x code maxLocals ret :: tables_1)).before args0 about1 = true := by
  rw [allAtoms_all]
  show words1.all (fun c => c.before args0 about1) = true
  refine all_split ?_ w_codes
  rw [w_t1]
set_option maxRecDepth 65536 in
theorem w_case : (Jvm.Cond.and given_1 narrow_1).before args0 about1 = true := by decide +kernel
theorem w_applies : (headSpec (Jvm.Cond.code x code maxLocals ret :: tables_1) room_1).applies x e0.platform about1 = true :=
  (Spec.applies_iff w_frames).mpr ⟨w_running, w_runnable, w_alone, w_named, w_hears, w_ripe, w_room, w_tables⟩
theorem atStart : AtStart classFile x code maxLocals ret World_1 tables_1 room_1 Calls_1 rest_1 Pre_1 launch0 p0 e0 about1 theMethod args0 below0 :=
  ⟨lists_1, trivial, launch0.admits_env _ _ _, launch0.least_env, fairChoices_fair.cas, fairChoices_fair.clock, w_frames, w_args, w_heap, w_applies, trivial, trivial, w_case⟩
end start1
theorem witness_1 : WitnessClaimed_1 := ⟨start1.p0, start1.e0, start1.about1, start1.theMethod, start1.args0, start1.below0, start1.atStart⟩
end Jvm.Pilot.@@N@@
