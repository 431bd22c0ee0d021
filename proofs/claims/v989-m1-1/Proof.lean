import JvmDerived
import JvmDerived.Pilot.@@N@@Statement
import JvmDerived.Pilot.@@N@@Code
set_option linter.unusedVariables false
set_option linter.unusedSimpArgs false
namespace Jvm.RoadKit
open Sem ClassFile Op Lib Jvm.Stand Jvm.Free Jvm.LawKit
section New
variable {p : Program} {l : Launch} {e : Env} {R : Room} {s : State} {m : MethodId} {args : Array Value} {below : List Frame} {meth : Method} {c : Code} {T : State} {locs : List Loc} {cells slots : Nat}
theorem retI (X : Stand p l e R s m args below meth c T locs cells slots) (hx : p.tables.exec = Jvm.exec) {pc : Nat} {Ls : Array Slot} {z : Int32} {rest : List Value} (hret : meth.sig.returnType = some .int) (hd : decode c.code pc = .ok (.ireturn, 1)) {fs : List Frame}
    (hl : ∀ (f : JFrame) (acts : List Action), f.method = m → f.locked = none → f.entered = [] → (doReturn e (T.setTop f) acts (some (.int z))).1 = T.setFrames fs) : Steps p.tables e below (T.setTop (mkF m pc Ls (.int z :: rest))) (T.setFrames fs) := by
  have hm' : T.vm.method? m = some meth := X.method'
  have hn : narrow .int (.int z) = .int z := rfl
  show Steps p.tables e below (T.setTop { method := m, pc := pc, locals := Ls, stack := _ :: rest, locked := none }) _
  jvm_step X.here [X.here.top, hx, hd, hm', hret, hn]
  first | (intro acts; rw [hl _ acts rfl rfl rfl]) | rw [hl _ _ rfl rfl rfl]
  exact Steps.refl _
end New
end Jvm.RoadKit
namespace Jvm.Pilot.@@N@@
open Jvm Jvm.ClassFile Sem Op Lib Jvm.Free Jvm.Stand Jvm.LawKit Jvm.RoadKit Bundle Jvm.Pilot.@@N@@.Jvm.D
theorem own_fld_ne {Z : State} {h : Heap} {a b : Addr} {C n d : String} {v w : Value} (F : Fld Z h a C n d v) (G : Fld Z h b C n d w) (q : v ≠ w) : a ≠ b := fun e => by
  subst e
  obtain ⟨c1, cf1, k1, i1, f1, a1, a2, -, -, -, -, a7⟩ := F
  obtain ⟨c2, cf2, k2, i2, f2, b1, b2, -, -, -, -, b7⟩ := G
  cases a1.symm.trans b1
  cases a2.symm.trans b2
  exact q (Option.some.inj (a7.symm.trans b7))
theorem own_fldI {args : Array Value} {s : State} {t : Term} {a : Addr} {C n d : String} {k : Int32} (ht : t.eval args s none [] s = some (.ref a)) (h : (Jvm.Cond.eq (Term.field t C n d) (Term.int k)).value args s none s [] = some true) : Fld s s.heap a C n d (.int k) := by
  apply Fld.start
  have e1 : (Term.field t C n d).eval args s none [] s = s.fieldOf? a C n d := fld_at ht
  have e2 : (Term.int k).eval args s none [] s = some (.int k) := Term.int_eval k
  simp only [Cond.value, e1, e2] at h
  split at h <;> simp_all
theorem own_nm0 {a : Addr} : a ∉ ([] : List Addr) := List.not_mem_nil
theorem own_nm1 {a x : Addr} (h : a ≠ x) : a ∉ [x] := fun q => h (List.mem_singleton.mp q)
theorem own_nm2 {a x y : Addr} (h : a ≠ x) (h2 : a ≠ y) : a ∉ [x, y] := fun q => by
  rcases List.mem_cons.mp q with q | q
  · exact h q
  · exact h2 (List.mem_singleton.mp q)
theorem own_nm3 {a x y z : Addr} (h : a ≠ x) (h2 : a ≠ y) (h3 : a ≠ z) : a ∉ [x, y, z] := fun q => by
  rcases List.mem_cons.mp q with q | q
  · exact h q
  · exact own_nm2 h2 h3 q
theorem own_all0 {P : Addr → Prop} : ∀ x ∈ ([] : List Addr), P x := fun x q => (List.not_mem_nil q).elim
theorem own_all1 {P : Addr → Prop} {a : Addr} (h : P a) : ∀ x ∈ [a], P x := fun x q => by rw [List.mem_singleton.mp q]; exact h
theorem own_all2 {P : Addr → Prop} {a b : Addr} (h : P a) (h2 : P b) : ∀ x ∈ [a, b], P x := fun x q => by
  rcases List.mem_cons.mp q with q | q
  · rw [q]; exact h
  · rw [List.mem_singleton.mp q]; exact h2
theorem own_all3 {P : Addr → Prop} {a b c : Addr} (h : P a) (h2 : P b) (h3 : P c) : ∀ x ∈ [a, b, c], P x := fun x q => by
  rcases List.mem_cons.mp q with q | q
  · rw [q]; exact h
  · exact own_all2 h2 h3 x q
theorem pn_0 : plainName "org/reachwatch/BasicTypeSizePinLaw" = true := by first | (simp [plainName, overriddenIn]; done) | decide +kernel
theorem ef_1 (m : MethodId) (x0 : Int32) (x1 : Int32) : entryFrame m #[(.int x0), (.int x1)] maxLocals = mkF m 0 #[.val (.int x0), .val (.int x1), .unset, .unset, .unset] [] := by first | (simp [entryFrame, mkF, argsToLocals, Value.category, maxLocals]; done) | rfl
theorem d1_0 : decode prog_1_method_5_code 0 = .ok (.aload_n 0, 1) := by decide +kernel
theorem d1_1 : decode prog_1_method_5_code 1 = .ok (.getstatic 3, 3) := by decide +kernel
theorem d1_4 : decode prog_1_method_5_code 4 = .ok (.if_acmp .ne 7, 3) := by decide +kernel
theorem d1_7 : decode prog_1_method_5_code 7 = .ok (.iload_n 1, 1) := by decide +kernel
theorem d1_8 : decode prog_1_method_5_code 8 = .ok (.goto 7, 3) := by decide +kernel
theorem d1_15 : decode prog_1_method_5_code 15 = .ok (.ireturn, 1) := by decide +kernel
theorem pn_2 : plainName "org/reachwatch/BasicType" = true := by first | (simp [plainName, overriddenIn]; done) | decide +kernel
theorem ef_3 (m : MethodId) (x0 : Addr) (x1 : Int32) : entryFrame m #[(.ref x0), (.int x1)] 2 = mkF m 0 #[.val (.ref x0), .val (.int x1)] [] := by first | (simp [entryFrame, mkF, argsToLocals, Value.category]; done) | rfl
def Q_size1_0 (Z : State) (a_OBJECT : Addr) (p1 : Int32) (h0 : Heap) (n0 : Nat) (v : Option Value) (h : Heap) (L : List Loc) : Prop := v = some (.int p1) ∧ Fr n0 L ∧ h = h0
set_option maxRecDepth 65536 in
set_option maxHeartbeats 40000000 in
theorem rm_size1_0 (l : Launch) (Z : State) (a0 : Array Value) (hw : ∀ d ∈ tables_1, d.before a0 Z = true) (ws : List Jvm.Cond) (a_OBJECT : Addr) (p1 : Int32) (h0 : Heap) (n0 : Nat) (O0 : Old Z n0 h0) (G0 : Sta Z Z.heap "org/reachwatch/BasicType" "OBJECT" "Lorg/reachwatch/BasicType;" (.ref a_OBJECT)) :
    MetFree l (⟨"org/reachwatch/BasicType", "size", "(I)I"⟩ : MethodName) (head1 (Jvm.Cond.code (⟨"org/reachwatch/BasicType", "size", "(I)I"⟩ : MethodName) prog_1_method_5_code 2 (some .int) :: ws) ({ frames := 0, cells := 0, slots := 0, locals := 0 } : Room)) (fun a U => a = #[(.ref a_OBJECT), (.int p1)] ∧ Z.Warmed39 U.vm ∧ U.heap = h0) (fun _ _ _ _ _ => True) (fun _ U o U' => ∃ v L, o = .returned v ∧ Q_size1_0 Z a_OBJECT p1 h0 n0 v U'.heap L ∧ FrameEnd U o U' L ({ frames := 0, cells := 0, slots := 0, locals := 0 } : Room).cells ({ frames := 0, cells := 0, slots := 0, locals := 0 } : Room).slots) := by
  refine MetFree.of_bodySF (plainFor_of_name pn_2) hisR ?_
  intro p e s m args below meth c s₁ Bd hml0 hP hK
  obtain ⟨rfl, hZ, hh⟩ := hP
  have hx := Bd.exec
  have hby := Bd.bytes
  have hml : c.maxLocals = 2 := hml0
  have hown : s.vm.findClass "org/reachwatch/BasicType" = some m.cls := findClass_of_methodNamed Bd.named
  have hnm := (name_of_methodNamed Bd.named Bd.method).1
  have X0 : Stand p l e ({ frames := 0, cells := 0, slots := 0, locals := 0 } : Room) s m #[(.ref a_OBJECT), (.int p1)] below meth c s₁ [] 0 0 := Stand.of_body Bd
  have e0 : s₁.heap = h0 := by rw [← hh, Bd.state]; rfl
  have N0 := Fr.nil n0
  have pre0 : ∀ t, Steps p.tables e below (s₁.setTop (mkF m 0 #[.val (.ref a_OBJECT), .val (.int p1)] [])) t → Steps p.tables e below (s₁.setTop (entryFrame m #[(.ref a_OBJECT), (.int p1)] 2)) t := fun t k => castTop (ef_3 m a_OBJECT p1) k
  have K0 : Keep h0 h0 [] := Keep.refl h0 []
  have pre16 : ∀ t, Steps p.tables e below (s₁.setTop (mkF m 1 #[.val (.ref a_OBJECT), .val (.int p1)] [(.ref a_OBJECT)])) t → Steps p.tables e below (s₁.setTop (entryFrame m #[(.ref a_OBJECT), (.int p1)] 2)) t := fun t kt => by
    refine pre0 _ ?_
    show Steps p.tables e below (s₁.setTop (mkF m 0 #[.val (.ref a_OBJECT), .val (.int p1)] [])) _
    refine XS.aloadN X0.here hx rfl (hb hby d1_0) rfl rfl ?_
    exact kt
  obtain ⟨T17, X17, e17, st17⟩ := getS2 X0 hx hZ hown (host := "") (Or.inl (hw _ (List.mem_of_getElem? (i := 9) rfl))) Via.refl e0 (G0.ext O0.2) (g := (mkF m 1 #[.val (.ref a_OBJECT), .val (.int p1)] [(.ref a_OBJECT)])) rfl (hb hby d1_1)
  have pre18 : ∀ t, Steps p.tables e below (T17.setTop (mkF m 4 #[.val (.ref a_OBJECT), .val (.int p1)] [(.ref a_OBJECT), (.ref a_OBJECT)])) t → Steps p.tables e below (s₁.setTop (entryFrame m #[(.ref a_OBJECT), (.int p1)] 2)) t := fun t kt => pre16 _ (st17 _ kt)
  have pre19 : ∀ t, Steps p.tables e below (T17.setTop (mkF m 15 #[.val (.ref a_OBJECT), .val (.int p1)] [(.int p1)])) t → Steps p.tables e below (s₁.setTop (entryFrame m #[(.ref a_OBJECT), (.int p1)] 2)) t := fun t kt => by
    refine pre18 _ ?_
    show Steps p.tables e below (T17.setTop (mkF m 4 #[.val (.ref a_OBJECT), .val (.int p1)] [(.ref a_OBJECT), (.ref a_OBJECT)])) _
    refine Jvm.RoadKit.acmp (g := (mkF m 4 #[.val (.ref a_OBJECT), .val (.int p1)] [(.ref a_OBJECT), (.ref a_OBJECT)])) X17 hx rfl rfl rfl (pc0 := 4) (pc' := 7) (same := true) rfl (hb hby d1_4) rfl (decide_eq_true rfl) (by decide) (by decide) ?_
    show Steps p.tables e below (T17.setTop (mkF m 7 #[.val (.ref a_OBJECT), .val (.int p1)] [])) _
    refine XS.iloadN X17.here hx rfl (hb hby d1_7) rfl ?_
    show Steps p.tables e below (T17.setTop (mkF m 8 #[.val (.ref a_OBJECT), .val (.int p1)] [(.int p1)])) _
    refine XS.goto X17.here hx rfl (pc0 := 8) (pc' := 15) rfl (hb hby d1_8) (by decide) (by decide) ?_
    exact kt
  obtain ⟨fs, hr, hrun, hended, hW, hsame⟩ := X17.leave (v := some (.int p1)) (fun h => by rw [Bd.returns] at h; cases h)
  refine ⟨_, _, pre19 _ (retI X17 hx Bd.returns (hb hby d1_15) hr), hrun, hended, _, _, rfl, ?_, ⟨_, rfl⟩, hW, hsame.mono (by decide) (by decide)⟩
  show Q_size1_0 Z a_OBJECT p1 h0 n0 _ T17.heap _
  rw [e17]
  exact ⟨rfl, N0, rfl⟩
theorem pd_4 : parseMethodDescriptor "(I)I" = some ⟨[.int], some .int⟩ := by decide +kernel
theorem d1_11 : decode prog_1_method_5_code 11 = .ok (.aload_n 0, 1) := by decide +kernel
theorem d1_12 : decode prog_1_method_5_code 12 = .ok (.getfield 58, 3) := by decide +kernel
def Q_size1_1 (Z : State) (a_BOOLEAN : Addr) (p1 : Int32) (a_OBJECT : Addr) (h0 : Heap) (n0 : Nat) (v : Option Value) (h : Heap) (L : List Loc) : Prop := v = some (.int (1 : Int32)) ∧ Fr n0 L ∧ h = h0
set_option maxRecDepth 65536 in
set_option maxHeartbeats 40000000 in
theorem rm_size1_1 (l : Launch) (Z : State) (a0 : Array Value) (hw : ∀ d ∈ tables_1, d.before a0 Z = true) (ws : List Jvm.Cond) (a_BOOLEAN : Addr) (p1 : Int32) (a_OBJECT : Addr) (h0 : Heap) (n0 : Nat) (O0 : Old Z n0 h0) (G0 : Sta Z Z.heap "org/reachwatch/BasicType" "OBJECT" "Lorg/reachwatch/BasicType;" (.ref a_OBJECT)) (G1 : Fld Z Z.heap a_BOOLEAN "org/reachwatch/BasicType" "size" "I" (.int (1 : Int32))) (q0 : ¬ (a_BOOLEAN = a_OBJECT)) :
    MetFree l (⟨"org/reachwatch/BasicType", "size", "(I)I"⟩ : MethodName) (head1 (Jvm.Cond.code (⟨"org/reachwatch/BasicType", "size", "(I)I"⟩ : MethodName) prog_1_method_5_code 2 (some .int) :: ws) ({ frames := 0, cells := 0, slots := 0, locals := 0 } : Room)) (fun a U => a = #[(.ref a_BOOLEAN), (.int p1)] ∧ Z.Warmed39 U.vm ∧ U.heap = h0) (fun _ _ _ _ _ => True) (fun _ U o U' => ∃ v L, o = .returned v ∧ Q_size1_1 Z a_BOOLEAN p1 a_OBJECT h0 n0 v U'.heap L ∧ FrameEnd U o U' L ({ frames := 0, cells := 0, slots := 0, locals := 0 } : Room).cells ({ frames := 0, cells := 0, slots := 0, locals := 0 } : Room).slots) := by
  refine MetFree.of_bodySF (plainFor_of_name pn_2) hisR ?_
  intro p e s m args below meth c s₁ Bd hml0 hP hK
  obtain ⟨rfl, hZ, hh⟩ := hP
  have hx := Bd.exec
  have hby := Bd.bytes
  have hml : c.maxLocals = 2 := hml0
  have hown : s.vm.findClass "org/reachwatch/BasicType" = some m.cls := findClass_of_methodNamed Bd.named
  have hnm := (name_of_methodNamed Bd.named Bd.method).1
  have X0 : Stand p l e ({ frames := 0, cells := 0, slots := 0, locals := 0 } : Room) s m #[(.ref a_BOOLEAN), (.int p1)] below meth c s₁ [] 0 0 := Stand.of_body Bd
  have e0 : s₁.heap = h0 := by rw [← hh, Bd.state]; rfl
  have N0 := Fr.nil n0
  have pre0 : ∀ t, Steps p.tables e below (s₁.setTop (mkF m 0 #[.val (.ref a_BOOLEAN), .val (.int p1)] [])) t → Steps p.tables e below (s₁.setTop (entryFrame m #[(.ref a_BOOLEAN), (.int p1)] 2)) t := fun t k => castTop (ef_3 m a_BOOLEAN p1) k
  have K0 : Keep h0 h0 [] := Keep.refl h0 []
  have pre41 : ∀ t, Steps p.tables e below (s₁.setTop (mkF m 1 #[.val (.ref a_BOOLEAN), .val (.int p1)] [(.ref a_BOOLEAN)])) t → Steps p.tables e below (s₁.setTop (entryFrame m #[(.ref a_BOOLEAN), (.int p1)] 2)) t := fun t kt => by
    refine pre0 _ ?_
    show Steps p.tables e below (s₁.setTop (mkF m 0 #[.val (.ref a_BOOLEAN), .val (.int p1)] [])) _
    refine XS.aloadN X0.here hx rfl (hb hby d1_0) rfl rfl ?_
    exact kt
  obtain ⟨T42, X42, e42, st42⟩ := getS2 X0 hx hZ hown (host := "") (Or.inl (hw _ (List.mem_of_getElem? (i := 9) rfl))) Via.refl e0 (G0.ext O0.2) (g := (mkF m 1 #[.val (.ref a_BOOLEAN), .val (.int p1)] [(.ref a_BOOLEAN)])) rfl (hb hby d1_1)
  have pre43 : ∀ t, Steps p.tables e below (T42.setTop (mkF m 4 #[.val (.ref a_BOOLEAN), .val (.int p1)] [(.ref a_OBJECT), (.ref a_BOOLEAN)])) t → Steps p.tables e below (s₁.setTop (entryFrame m #[(.ref a_BOOLEAN), (.int p1)] 2)) t := fun t kt => pre41 _ (st42 _ kt)
  have pre44 : ∀ t, Steps p.tables e below (T42.setTop (mkF m 12 #[.val (.ref a_BOOLEAN), .val (.int p1)] [(.ref a_BOOLEAN)])) t → Steps p.tables e below (s₁.setTop (entryFrame m #[(.ref a_BOOLEAN), (.int p1)] 2)) t := fun t kt => by
    refine pre43 _ ?_
    show Steps p.tables e below (T42.setTop (mkF m 4 #[.val (.ref a_BOOLEAN), .val (.int p1)] [(.ref a_OBJECT), (.ref a_BOOLEAN)])) _
    refine Jvm.RoadKit.acmp (g := (mkF m 4 #[.val (.ref a_BOOLEAN), .val (.int p1)] [(.ref a_OBJECT), (.ref a_BOOLEAN)])) X42 hx rfl rfl rfl (pc0 := 4) (pc' := 11) (same := false) rfl (hb hby d1_4) rfl (decide_eq_false fun q => q0 (Value.ref.inj q)) (by decide) (by decide) ?_
    show Steps p.tables e below (T42.setTop (mkF m 11 #[.val (.ref a_BOOLEAN), .val (.int p1)] [])) _
    refine XS.aloadN X42.here hx rfl (hb hby d1_11) rfl rfl ?_
    exact kt
  obtain ⟨T45, X45, e45, st45⟩ := getF X42 hx hZ hown (host := "") (Or.inl (hw _ (List.mem_of_getElem? (i := 12) rfl))) Via.refl e42 (G1.ext O0.2) (g := (mkF m 12 #[.val (.ref a_BOOLEAN), .val (.int p1)] [(.ref a_BOOLEAN)])) rfl rfl (hb hby d1_12)
  have pre46 : ∀ t, Steps p.tables e below (T45.setTop (mkF m 15 #[.val (.ref a_BOOLEAN), .val (.int p1)] [(.int (1 : Int32))])) t → Steps p.tables e below (s₁.setTop (entryFrame m #[(.ref a_BOOLEAN), (.int p1)] 2)) t := fun t kt => pre44 _ (st45 _ kt)
  obtain ⟨fs, hr, hrun, hended, hW, hsame⟩ := X45.leave (v := some (.int (1 : Int32))) (fun h => by rw [Bd.returns] at h; cases h)
  refine ⟨_, _, pre46 _ (retI X45 hx Bd.returns (hb hby d1_15) hr), hrun, hended, _, _, rfl, ?_, ⟨_, rfl⟩, hW, hsame.mono (by decide) (by decide)⟩
  show Q_size1_1 Z a_BOOLEAN p1 a_OBJECT h0 n0 _ T45.heap _
  rw [e45]
  exact ⟨rfl, N0, rfl⟩
def Q_size1_2 (Z : State) (a_CHAR : Addr) (p1 : Int32) (a_OBJECT : Addr) (h0 : Heap) (n0 : Nat) (v : Option Value) (h : Heap) (L : List Loc) : Prop := v = some (.int (2 : Int32)) ∧ Fr n0 L ∧ h = h0
set_option maxRecDepth 65536 in
set_option maxHeartbeats 40000000 in
theorem rm_size1_2 (l : Launch) (Z : State) (a0 : Array Value) (hw : ∀ d ∈ tables_1, d.before a0 Z = true) (ws : List Jvm.Cond) (a_CHAR : Addr) (p1 : Int32) (a_OBJECT : Addr) (h0 : Heap) (n0 : Nat) (O0 : Old Z n0 h0) (G0 : Sta Z Z.heap "org/reachwatch/BasicType" "OBJECT" "Lorg/reachwatch/BasicType;" (.ref a_OBJECT)) (G1 : Fld Z Z.heap a_CHAR "org/reachwatch/BasicType" "size" "I" (.int (2 : Int32))) (q0 : ¬ (a_CHAR = a_OBJECT)) :
    MetFree l (⟨"org/reachwatch/BasicType", "size", "(I)I"⟩ : MethodName) (head1 (Jvm.Cond.code (⟨"org/reachwatch/BasicType", "size", "(I)I"⟩ : MethodName) prog_1_method_5_code 2 (some .int) :: ws) ({ frames := 0, cells := 0, slots := 0, locals := 0 } : Room)) (fun a U => a = #[(.ref a_CHAR), (.int p1)] ∧ Z.Warmed39 U.vm ∧ U.heap = h0) (fun _ _ _ _ _ => True) (fun _ U o U' => ∃ v L, o = .returned v ∧ Q_size1_2 Z a_CHAR p1 a_OBJECT h0 n0 v U'.heap L ∧ FrameEnd U o U' L ({ frames := 0, cells := 0, slots := 0, locals := 0 } : Room).cells ({ frames := 0, cells := 0, slots := 0, locals := 0 } : Room).slots) := by
  refine MetFree.of_bodySF (plainFor_of_name pn_2) hisR ?_
  intro p e s m args below meth c s₁ Bd hml0 hP hK
  obtain ⟨rfl, hZ, hh⟩ := hP
  have hx := Bd.exec
  have hby := Bd.bytes
  have hml : c.maxLocals = 2 := hml0
  have hown : s.vm.findClass "org/reachwatch/BasicType" = some m.cls := findClass_of_methodNamed Bd.named
  have hnm := (name_of_methodNamed Bd.named Bd.method).1
  have X0 : Stand p l e ({ frames := 0, cells := 0, slots := 0, locals := 0 } : Room) s m #[(.ref a_CHAR), (.int p1)] below meth c s₁ [] 0 0 := Stand.of_body Bd
  have e0 : s₁.heap = h0 := by rw [← hh, Bd.state]; rfl
  have N0 := Fr.nil n0
  have pre0 : ∀ t, Steps p.tables e below (s₁.setTop (mkF m 0 #[.val (.ref a_CHAR), .val (.int p1)] [])) t → Steps p.tables e below (s₁.setTop (entryFrame m #[(.ref a_CHAR), (.int p1)] 2)) t := fun t k => castTop (ef_3 m a_CHAR p1) k
  have K0 : Keep h0 h0 [] := Keep.refl h0 []
  have pre68 : ∀ t, Steps p.tables e below (s₁.setTop (mkF m 1 #[.val (.ref a_CHAR), .val (.int p1)] [(.ref a_CHAR)])) t → Steps p.tables e below (s₁.setTop (entryFrame m #[(.ref a_CHAR), (.int p1)] 2)) t := fun t kt => by
    refine pre0 _ ?_
    show Steps p.tables e below (s₁.setTop (mkF m 0 #[.val (.ref a_CHAR), .val (.int p1)] [])) _
    refine XS.aloadN X0.here hx rfl (hb hby d1_0) rfl rfl ?_
    exact kt
  obtain ⟨T69, X69, e69, st69⟩ := getS2 X0 hx hZ hown (host := "") (Or.inl (hw _ (List.mem_of_getElem? (i := 9) rfl))) Via.refl e0 (G0.ext O0.2) (g := (mkF m 1 #[.val (.ref a_CHAR), .val (.int p1)] [(.ref a_CHAR)])) rfl (hb hby d1_1)
  have pre70 : ∀ t, Steps p.tables e below (T69.setTop (mkF m 4 #[.val (.ref a_CHAR), .val (.int p1)] [(.ref a_OBJECT), (.ref a_CHAR)])) t → Steps p.tables e below (s₁.setTop (entryFrame m #[(.ref a_CHAR), (.int p1)] 2)) t := fun t kt => pre68 _ (st69 _ kt)
  have pre71 : ∀ t, Steps p.tables e below (T69.setTop (mkF m 12 #[.val (.ref a_CHAR), .val (.int p1)] [(.ref a_CHAR)])) t → Steps p.tables e below (s₁.setTop (entryFrame m #[(.ref a_CHAR), (.int p1)] 2)) t := fun t kt => by
    refine pre70 _ ?_
    show Steps p.tables e below (T69.setTop (mkF m 4 #[.val (.ref a_CHAR), .val (.int p1)] [(.ref a_OBJECT), (.ref a_CHAR)])) _
    refine Jvm.RoadKit.acmp (g := (mkF m 4 #[.val (.ref a_CHAR), .val (.int p1)] [(.ref a_OBJECT), (.ref a_CHAR)])) X69 hx rfl rfl rfl (pc0 := 4) (pc' := 11) (same := false) rfl (hb hby d1_4) rfl (decide_eq_false fun q => q0 (Value.ref.inj q)) (by decide) (by decide) ?_
    show Steps p.tables e below (T69.setTop (mkF m 11 #[.val (.ref a_CHAR), .val (.int p1)] [])) _
    refine XS.aloadN X69.here hx rfl (hb hby d1_11) rfl rfl ?_
    exact kt
  obtain ⟨T72, X72, e72, st72⟩ := getF X69 hx hZ hown (host := "") (Or.inl (hw _ (List.mem_of_getElem? (i := 12) rfl))) Via.refl e69 (G1.ext O0.2) (g := (mkF m 12 #[.val (.ref a_CHAR), .val (.int p1)] [(.ref a_CHAR)])) rfl rfl (hb hby d1_12)
  have pre73 : ∀ t, Steps p.tables e below (T72.setTop (mkF m 15 #[.val (.ref a_CHAR), .val (.int p1)] [(.int (2 : Int32))])) t → Steps p.tables e below (s₁.setTop (entryFrame m #[(.ref a_CHAR), (.int p1)] 2)) t := fun t kt => pre71 _ (st72 _ kt)
  obtain ⟨fs, hr, hrun, hended, hW, hsame⟩ := X72.leave (v := some (.int (2 : Int32))) (fun h => by rw [Bd.returns] at h; cases h)
  refine ⟨_, _, pre73 _ (retI X72 hx Bd.returns (hb hby d1_15) hr), hrun, hended, _, _, rfl, ?_, ⟨_, rfl⟩, hW, hsame.mono (by decide) (by decide)⟩
  show Q_size1_2 Z a_CHAR p1 a_OBJECT h0 n0 _ T72.heap _
  rw [e72]
  exact ⟨rfl, N0, rfl⟩
def Q_size1_3 (Z : State) (a_FLOAT : Addr) (p1 : Int32) (a_OBJECT : Addr) (h0 : Heap) (n0 : Nat) (v : Option Value) (h : Heap) (L : List Loc) : Prop := v = some (.int (4 : Int32)) ∧ Fr n0 L ∧ h = h0
set_option maxRecDepth 65536 in
set_option maxHeartbeats 40000000 in
theorem rm_size1_3 (l : Launch) (Z : State) (a0 : Array Value) (hw : ∀ d ∈ tables_1, d.before a0 Z = true) (ws : List Jvm.Cond) (a_FLOAT : Addr) (p1 : Int32) (a_OBJECT : Addr) (h0 : Heap) (n0 : Nat) (O0 : Old Z n0 h0) (G0 : Sta Z Z.heap "org/reachwatch/BasicType" "OBJECT" "Lorg/reachwatch/BasicType;" (.ref a_OBJECT)) (G1 : Fld Z Z.heap a_FLOAT "org/reachwatch/BasicType" "size" "I" (.int (4 : Int32))) (q0 : ¬ (a_FLOAT = a_OBJECT)) :
    MetFree l (⟨"org/reachwatch/BasicType", "size", "(I)I"⟩ : MethodName) (head1 (Jvm.Cond.code (⟨"org/reachwatch/BasicType", "size", "(I)I"⟩ : MethodName) prog_1_method_5_code 2 (some .int) :: ws) ({ frames := 0, cells := 0, slots := 0, locals := 0 } : Room)) (fun a U => a = #[(.ref a_FLOAT), (.int p1)] ∧ Z.Warmed39 U.vm ∧ U.heap = h0) (fun _ _ _ _ _ => True) (fun _ U o U' => ∃ v L, o = .returned v ∧ Q_size1_3 Z a_FLOAT p1 a_OBJECT h0 n0 v U'.heap L ∧ FrameEnd U o U' L ({ frames := 0, cells := 0, slots := 0, locals := 0 } : Room).cells ({ frames := 0, cells := 0, slots := 0, locals := 0 } : Room).slots) := by
  refine MetFree.of_bodySF (plainFor_of_name pn_2) hisR ?_
  intro p e s m args below meth c s₁ Bd hml0 hP hK
  obtain ⟨rfl, hZ, hh⟩ := hP
  have hx := Bd.exec
  have hby := Bd.bytes
  have hml : c.maxLocals = 2 := hml0
  have hown : s.vm.findClass "org/reachwatch/BasicType" = some m.cls := findClass_of_methodNamed Bd.named
  have hnm := (name_of_methodNamed Bd.named Bd.method).1
  have X0 : Stand p l e ({ frames := 0, cells := 0, slots := 0, locals := 0 } : Room) s m #[(.ref a_FLOAT), (.int p1)] below meth c s₁ [] 0 0 := Stand.of_body Bd
  have e0 : s₁.heap = h0 := by rw [← hh, Bd.state]; rfl
  have N0 := Fr.nil n0
  have pre0 : ∀ t, Steps p.tables e below (s₁.setTop (mkF m 0 #[.val (.ref a_FLOAT), .val (.int p1)] [])) t → Steps p.tables e below (s₁.setTop (entryFrame m #[(.ref a_FLOAT), (.int p1)] 2)) t := fun t k => castTop (ef_3 m a_FLOAT p1) k
  have K0 : Keep h0 h0 [] := Keep.refl h0 []
  have pre95 : ∀ t, Steps p.tables e below (s₁.setTop (mkF m 1 #[.val (.ref a_FLOAT), .val (.int p1)] [(.ref a_FLOAT)])) t → Steps p.tables e below (s₁.setTop (entryFrame m #[(.ref a_FLOAT), (.int p1)] 2)) t := fun t kt => by
    refine pre0 _ ?_
    show Steps p.tables e below (s₁.setTop (mkF m 0 #[.val (.ref a_FLOAT), .val (.int p1)] [])) _
    refine XS.aloadN X0.here hx rfl (hb hby d1_0) rfl rfl ?_
    exact kt
  obtain ⟨T96, X96, e96, st96⟩ := getS2 X0 hx hZ hown (host := "") (Or.inl (hw _ (List.mem_of_getElem? (i := 9) rfl))) Via.refl e0 (G0.ext O0.2) (g := (mkF m 1 #[.val (.ref a_FLOAT), .val (.int p1)] [(.ref a_FLOAT)])) rfl (hb hby d1_1)
  have pre97 : ∀ t, Steps p.tables e below (T96.setTop (mkF m 4 #[.val (.ref a_FLOAT), .val (.int p1)] [(.ref a_OBJECT), (.ref a_FLOAT)])) t → Steps p.tables e below (s₁.setTop (entryFrame m #[(.ref a_FLOAT), (.int p1)] 2)) t := fun t kt => pre95 _ (st96 _ kt)
  have pre98 : ∀ t, Steps p.tables e below (T96.setTop (mkF m 12 #[.val (.ref a_FLOAT), .val (.int p1)] [(.ref a_FLOAT)])) t → Steps p.tables e below (s₁.setTop (entryFrame m #[(.ref a_FLOAT), (.int p1)] 2)) t := fun t kt => by
    refine pre97 _ ?_
    show Steps p.tables e below (T96.setTop (mkF m 4 #[.val (.ref a_FLOAT), .val (.int p1)] [(.ref a_OBJECT), (.ref a_FLOAT)])) _
    refine Jvm.RoadKit.acmp (g := (mkF m 4 #[.val (.ref a_FLOAT), .val (.int p1)] [(.ref a_OBJECT), (.ref a_FLOAT)])) X96 hx rfl rfl rfl (pc0 := 4) (pc' := 11) (same := false) rfl (hb hby d1_4) rfl (decide_eq_false fun q => q0 (Value.ref.inj q)) (by decide) (by decide) ?_
    show Steps p.tables e below (T96.setTop (mkF m 11 #[.val (.ref a_FLOAT), .val (.int p1)] [])) _
    refine XS.aloadN X96.here hx rfl (hb hby d1_11) rfl rfl ?_
    exact kt
  obtain ⟨T99, X99, e99, st99⟩ := getF X96 hx hZ hown (host := "") (Or.inl (hw _ (List.mem_of_getElem? (i := 12) rfl))) Via.refl e96 (G1.ext O0.2) (g := (mkF m 12 #[.val (.ref a_FLOAT), .val (.int p1)] [(.ref a_FLOAT)])) rfl rfl (hb hby d1_12)
  have pre100 : ∀ t, Steps p.tables e below (T99.setTop (mkF m 15 #[.val (.ref a_FLOAT), .val (.int p1)] [(.int (4 : Int32))])) t → Steps p.tables e below (s₁.setTop (entryFrame m #[(.ref a_FLOAT), (.int p1)] 2)) t := fun t kt => pre98 _ (st99 _ kt)
  obtain ⟨fs, hr, hrun, hended, hW, hsame⟩ := X99.leave (v := some (.int (4 : Int32))) (fun h => by rw [Bd.returns] at h; cases h)
  refine ⟨_, _, pre100 _ (retI X99 hx Bd.returns (hb hby d1_15) hr), hrun, hended, _, _, rfl, ?_, ⟨_, rfl⟩, hW, hsame.mono (by decide) (by decide)⟩
  show Q_size1_3 Z a_FLOAT p1 a_OBJECT h0 n0 _ T99.heap _
  rw [e99]
  exact ⟨rfl, N0, rfl⟩
def Q_size1_4 (Z : State) (a_DOUBLE : Addr) (p1 : Int32) (a_OBJECT : Addr) (h0 : Heap) (n0 : Nat) (v : Option Value) (h : Heap) (L : List Loc) : Prop := v = some (.int (8 : Int32)) ∧ Fr n0 L ∧ h = h0
set_option maxRecDepth 65536 in
set_option maxHeartbeats 40000000 in
theorem rm_size1_4 (l : Launch) (Z : State) (a0 : Array Value) (hw : ∀ d ∈ tables_1, d.before a0 Z = true) (ws : List Jvm.Cond) (a_DOUBLE : Addr) (p1 : Int32) (a_OBJECT : Addr) (h0 : Heap) (n0 : Nat) (O0 : Old Z n0 h0) (G0 : Sta Z Z.heap "org/reachwatch/BasicType" "OBJECT" "Lorg/reachwatch/BasicType;" (.ref a_OBJECT)) (G1 : Fld Z Z.heap a_DOUBLE "org/reachwatch/BasicType" "size" "I" (.int (8 : Int32))) (q0 : ¬ (a_DOUBLE = a_OBJECT)) :
    MetFree l (⟨"org/reachwatch/BasicType", "size", "(I)I"⟩ : MethodName) (head1 (Jvm.Cond.code (⟨"org/reachwatch/BasicType", "size", "(I)I"⟩ : MethodName) prog_1_method_5_code 2 (some .int) :: ws) ({ frames := 0, cells := 0, slots := 0, locals := 0 } : Room)) (fun a U => a = #[(.ref a_DOUBLE), (.int p1)] ∧ Z.Warmed39 U.vm ∧ U.heap = h0) (fun _ _ _ _ _ => True) (fun _ U o U' => ∃ v L, o = .returned v ∧ Q_size1_4 Z a_DOUBLE p1 a_OBJECT h0 n0 v U'.heap L ∧ FrameEnd U o U' L ({ frames := 0, cells := 0, slots := 0, locals := 0 } : Room).cells ({ frames := 0, cells := 0, slots := 0, locals := 0 } : Room).slots) := by
  refine MetFree.of_bodySF (plainFor_of_name pn_2) hisR ?_
  intro p e s m args below meth c s₁ Bd hml0 hP hK
  obtain ⟨rfl, hZ, hh⟩ := hP
  have hx := Bd.exec
  have hby := Bd.bytes
  have hml : c.maxLocals = 2 := hml0
  have hown : s.vm.findClass "org/reachwatch/BasicType" = some m.cls := findClass_of_methodNamed Bd.named
  have hnm := (name_of_methodNamed Bd.named Bd.method).1
  have X0 : Stand p l e ({ frames := 0, cells := 0, slots := 0, locals := 0 } : Room) s m #[(.ref a_DOUBLE), (.int p1)] below meth c s₁ [] 0 0 := Stand.of_body Bd
  have e0 : s₁.heap = h0 := by rw [← hh, Bd.state]; rfl
  have N0 := Fr.nil n0
  have pre0 : ∀ t, Steps p.tables e below (s₁.setTop (mkF m 0 #[.val (.ref a_DOUBLE), .val (.int p1)] [])) t → Steps p.tables e below (s₁.setTop (entryFrame m #[(.ref a_DOUBLE), (.int p1)] 2)) t := fun t k => castTop (ef_3 m a_DOUBLE p1) k
  have K0 : Keep h0 h0 [] := Keep.refl h0 []
  have pre122 : ∀ t, Steps p.tables e below (s₁.setTop (mkF m 1 #[.val (.ref a_DOUBLE), .val (.int p1)] [(.ref a_DOUBLE)])) t → Steps p.tables e below (s₁.setTop (entryFrame m #[(.ref a_DOUBLE), (.int p1)] 2)) t := fun t kt => by
    refine pre0 _ ?_
    show Steps p.tables e below (s₁.setTop (mkF m 0 #[.val (.ref a_DOUBLE), .val (.int p1)] [])) _
    refine XS.aloadN X0.here hx rfl (hb hby d1_0) rfl rfl ?_
    exact kt
  obtain ⟨T123, X123, e123, st123⟩ := getS2 X0 hx hZ hown (host := "") (Or.inl (hw _ (List.mem_of_getElem? (i := 9) rfl))) Via.refl e0 (G0.ext O0.2) (g := (mkF m 1 #[.val (.ref a_DOUBLE), .val (.int p1)] [(.ref a_DOUBLE)])) rfl (hb hby d1_1)
  have pre124 : ∀ t, Steps p.tables e below (T123.setTop (mkF m 4 #[.val (.ref a_DOUBLE), .val (.int p1)] [(.ref a_OBJECT), (.ref a_DOUBLE)])) t → Steps p.tables e below (s₁.setTop (entryFrame m #[(.ref a_DOUBLE), (.int p1)] 2)) t := fun t kt => pre122 _ (st123 _ kt)
  have pre125 : ∀ t, Steps p.tables e below (T123.setTop (mkF m 12 #[.val (.ref a_DOUBLE), .val (.int p1)] [(.ref a_DOUBLE)])) t → Steps p.tables e below (s₁.setTop (entryFrame m #[(.ref a_DOUBLE), (.int p1)] 2)) t := fun t kt => by
    refine pre124 _ ?_
    show Steps p.tables e below (T123.setTop (mkF m 4 #[.val (.ref a_DOUBLE), .val (.int p1)] [(.ref a_OBJECT), (.ref a_DOUBLE)])) _
    refine Jvm.RoadKit.acmp (g := (mkF m 4 #[.val (.ref a_DOUBLE), .val (.int p1)] [(.ref a_OBJECT), (.ref a_DOUBLE)])) X123 hx rfl rfl rfl (pc0 := 4) (pc' := 11) (same := false) rfl (hb hby d1_4) rfl (decide_eq_false fun q => q0 (Value.ref.inj q)) (by decide) (by decide) ?_
    show Steps p.tables e below (T123.setTop (mkF m 11 #[.val (.ref a_DOUBLE), .val (.int p1)] [])) _
    refine XS.aloadN X123.here hx rfl (hb hby d1_11) rfl rfl ?_
    exact kt
  obtain ⟨T126, X126, e126, st126⟩ := getF X123 hx hZ hown (host := "") (Or.inl (hw _ (List.mem_of_getElem? (i := 12) rfl))) Via.refl e123 (G1.ext O0.2) (g := (mkF m 12 #[.val (.ref a_DOUBLE), .val (.int p1)] [(.ref a_DOUBLE)])) rfl rfl (hb hby d1_12)
  have pre127 : ∀ t, Steps p.tables e below (T126.setTop (mkF m 15 #[.val (.ref a_DOUBLE), .val (.int p1)] [(.int (8 : Int32))])) t → Steps p.tables e below (s₁.setTop (entryFrame m #[(.ref a_DOUBLE), (.int p1)] 2)) t := fun t kt => pre125 _ (st126 _ kt)
  obtain ⟨fs, hr, hrun, hended, hW, hsame⟩ := X126.leave (v := some (.int (8 : Int32))) (fun h => by rw [Bd.returns] at h; cases h)
  refine ⟨_, _, pre127 _ (retI X126 hx Bd.returns (hb hby d1_15) hr), hrun, hended, _, _, rfl, ?_, ⟨_, rfl⟩, hW, hsame.mono (by decide) (by decide)⟩
  show Q_size1_4 Z a_DOUBLE p1 a_OBJECT h0 n0 _ T126.heap _
  rw [e126]
  exact ⟨rfl, N0, rfl⟩
def Q_law (Z : State) (p0 : Int32) (p1 : Int32) (a_OBJECT : Addr) (a_BYTE : Addr) (a_DOUBLE : Addr) (a_BOOLEAN : Addr) (a_SHORT : Addr) (a_LONG : Addr) (a_FLOAT : Addr) (a_CHAR : Addr) (a_INT : Addr) (h0 : Heap) (n0 : Nat) (v : Option Value) (h : Heap) (L : List Loc) : Prop := v = some (.int (1 : Int32)) ∧ Fr n0 L
set_option maxRecDepth 65536 in
set_option maxHeartbeats 40000000 in
theorem rm_law (l : Launch) (Z : State) (a0 : Array Value) (hw : ∀ d ∈ tables_1, d.before a0 Z = true) (ws : List Jvm.Cond) (p0 : Int32) (p1 : Int32) (a_OBJECT : Addr) (a_BYTE : Addr) (a_DOUBLE : Addr) (a_BOOLEAN : Addr) (a_SHORT : Addr) (a_LONG : Addr) (a_FLOAT : Addr) (a_CHAR : Addr) (a_INT : Addr) (h0 : Heap) (n0 : Nat) (O0 : Old Z n0 h0) (G0 : Sta Z Z.heap "org/reachwatch/BasicType" "OBJECT" "Lorg/reachwatch/BasicType;" (.ref a_OBJECT)) (G1 : Exa Z Z.heap a_OBJECT "org/reachwatch/BasicType") (G2 : Sta Z Z.heap "org/reachwatch/BasicType" "BYTE" "Lorg/reachwatch/BasicType;" (.ref a_BYTE)) (G3 : Exa Z Z.heap a_BYTE "org/reachwatch/BasicType") (G4 : Sta Z Z.heap "org/reachwatch/BasicType" "DOUBLE" "Lorg/reachwatch/BasicType;" (.ref a_DOUBLE)) (G5 : Exa Z Z.heap a_DOUBLE "org/reachwatch/BasicType") (G6 : Sta Z Z.heap "org/reachwatch/BasicType" "BOOLEAN" "Lorg/reachwatch/BasicType;" (.ref a_BOOLEAN)) (G7 : Exa Z Z.heap a_BOOLEAN "org/reachwatch/BasicType") (G8 : Sta Z Z.heap "org/reachwatch/BasicType" "SHORT" "Lorg/reachwatch/BasicType;" (.ref a_SHORT)) (G9 : Exa Z Z.heap a_SHORT "org/reachwatch/BasicType") (G10 : Sta Z Z.heap "org/reachwatch/BasicType" "LONG" "Lorg/reachwatch/BasicType;" (.ref a_LONG)) (G11 : Exa Z Z.heap a_LONG "org/reachwatch/BasicType") (G12 : Sta Z Z.heap "org/reachwatch/BasicType" "FLOAT" "Lorg/reachwatch/BasicType;" (.ref a_FLOAT)) (G13 : Exa Z Z.heap a_FLOAT "org/reachwatch/BasicType") (G14 : Sta Z Z.heap "org/reachwatch/BasicType" "CHAR" "Lorg/reachwatch/BasicType;" (.ref a_CHAR)) (G15 : Exa Z Z.heap a_CHAR "org/reachwatch/BasicType") (G16 : Sta Z Z.heap "org/reachwatch/BasicType" "INT" "Lorg/reachwatch/BasicType;" (.ref a_INT)) (G17 : Exa Z Z.heap a_INT "org/reachwatch/BasicType") (G18 : Fld Z Z.heap a_BYTE "java/lang/Enum" "ordinal" "I" (.int (5 : Int32))) (G19 : Fld Z Z.heap a_OBJECT "java/lang/Enum" "ordinal" "I" (.int (0 : Int32))) (G20 : Fld Z Z.heap a_BYTE "org/reachwatch/BasicType" "size" "I" (.int (1 : Int32))) (G21 : Fld Z Z.heap a_DOUBLE "java/lang/Enum" "ordinal" "I" (.int (4 : Int32))) (G22 : Fld Z Z.heap a_DOUBLE "org/reachwatch/BasicType" "size" "I" (.int (8 : Int32))) (G23 : Fld Z Z.heap a_BOOLEAN "java/lang/Enum" "ordinal" "I" (.int (1 : Int32))) (G24 : Fld Z Z.heap a_BOOLEAN "org/reachwatch/BasicType" "size" "I" (.int (1 : Int32))) (G25 : Fld Z Z.heap a_SHORT "java/lang/Enum" "ordinal" "I" (.int (6 : Int32))) (G26 : Fld Z Z.heap a_SHORT "org/reachwatch/BasicType" "size" "I" (.int (2 : Int32))) (G27 : Fld Z Z.heap a_LONG "java/lang/Enum" "ordinal" "I" (.int (8 : Int32))) (G28 : Fld Z Z.heap a_LONG "org/reachwatch/BasicType" "size" "I" (.int (8 : Int32))) (G29 : Fld Z Z.heap a_FLOAT "java/lang/Enum" "ordinal" "I" (.int (3 : Int32))) (G30 : Fld Z Z.heap a_FLOAT "org/reachwatch/BasicType" "size" "I" (.int (4 : Int32))) (G31 : Fld Z Z.heap a_CHAR "java/lang/Enum" "ordinal" "I" (.int (2 : Int32))) (G32 : Fld Z Z.heap a_CHAR "org/reachwatch/BasicType" "size" "I" (.int (2 : Int32))) (G33 : Fld Z Z.heap a_INT "java/lang/Enum" "ordinal" "I" (.int (7 : Int32))) (G34 : Fld Z Z.heap a_INT "org/reachwatch/BasicType" "size" "I" (.int (4 : Int32))) (G35 : Fld Z Z.heap a_OBJECT "org/reachwatch/BasicType" "size" "I" (.int (0 : Int32))) :
    MetFree l x (head1 (Jvm.Cond.code x code maxLocals ret :: ws) room_1) (fun a U => a = #[(.int p0), (.int p1)] ∧ Z.Warmed39 U.vm ∧ U.heap = h0) (fun _ _ _ _ _ => True) (fun _ U o U' => ∃ v L, o = .returned v ∧ Q_law Z p0 p1 a_OBJECT a_BYTE a_DOUBLE a_BOOLEAN a_SHORT a_LONG a_FLOAT a_CHAR a_INT h0 n0 v U'.heap L ∧ FrameEnd U o U' L room_1.cells room_1.slots) := by
  refine MetFree.of_bodySF (plainFor_of_name pn_0) hisR ?_
  intro p e s m args below meth c s₁ Bd hml0 hP hK
  obtain ⟨rfl, hZ, hh⟩ := hP
  have hx := Bd.exec
  have hby := Bd.bytes
  have hml : c.maxLocals = 5 := hml0
  have hown : s.vm.findClass "org/reachwatch/BasicTypeSizePinLaw" = some m.cls := findClass_of_methodNamed Bd.named
  have hnm := (name_of_methodNamed Bd.named Bd.method).1
  have X0 : Stand p l e room_1 s m #[(.int p0), (.int p1)] below meth c s₁ [] 0 0 := Stand.of_body Bd
  have e0 : s₁.heap = h0 := by rw [← hh, Bd.state]; rfl
  have N0 := Fr.nil n0
  have pre0 : ∀ t, Steps p.tables e below (s₁.setTop (mkF m 0 #[.val (.int p0), .val (.int p1), .unset, .unset, .unset] [])) t → Steps p.tables e below (s₁.setTop (entryFrame m #[(.int p0), (.int p1)] maxLocals)) t := fun t k => castTop (ef_1 m p0 p1) k
  have K0 : Keep h0 h0 [] := Keep.refl h0 []
  have ne_a_BYTE_a_OBJECT : a_BYTE ≠ a_OBJECT := own_fld_ne G18 G19 (by decide)
  have ne_a_BYTE_a_DOUBLE : a_BYTE ≠ a_DOUBLE := own_fld_ne G18 G21 (by decide)
  have ne_a_BYTE_a_BOOLEAN : a_BYTE ≠ a_BOOLEAN := own_fld_ne G18 G23 (by decide)
  have ne_a_BYTE_a_SHORT : a_BYTE ≠ a_SHORT := own_fld_ne G18 G25 (by decide)
  have ne_a_BYTE_a_LONG : a_BYTE ≠ a_LONG := own_fld_ne G18 G27 (by decide)
  have ne_a_BYTE_a_FLOAT : a_BYTE ≠ a_FLOAT := own_fld_ne G18 G29 (by decide)
  have ne_a_BYTE_a_CHAR : a_BYTE ≠ a_CHAR := own_fld_ne G18 G31 (by decide)
  have ne_a_BYTE_a_INT : a_BYTE ≠ a_INT := own_fld_ne G18 G33 (by decide)
  have ne_a_OBJECT_a_DOUBLE : a_OBJECT ≠ a_DOUBLE := own_fld_ne G19 G21 (by decide)
  have ne_a_OBJECT_a_BOOLEAN : a_OBJECT ≠ a_BOOLEAN := own_fld_ne G19 G23 (by decide)
  have ne_a_OBJECT_a_SHORT : a_OBJECT ≠ a_SHORT := own_fld_ne G19 G25 (by decide)
  have ne_a_OBJECT_a_LONG : a_OBJECT ≠ a_LONG := own_fld_ne G19 G27 (by decide)
  have ne_a_OBJECT_a_FLOAT : a_OBJECT ≠ a_FLOAT := own_fld_ne G19 G29 (by decide)
  have ne_a_OBJECT_a_CHAR : a_OBJECT ≠ a_CHAR := own_fld_ne G19 G31 (by decide)
  have ne_a_OBJECT_a_INT : a_OBJECT ≠ a_INT := own_fld_ne G19 G33 (by decide)
  have ne_a_DOUBLE_a_BOOLEAN : a_DOUBLE ≠ a_BOOLEAN := own_fld_ne G21 G23 (by decide)
  have ne_a_DOUBLE_a_SHORT : a_DOUBLE ≠ a_SHORT := own_fld_ne G21 G25 (by decide)
  have ne_a_DOUBLE_a_LONG : a_DOUBLE ≠ a_LONG := own_fld_ne G21 G27 (by decide)
  have ne_a_DOUBLE_a_FLOAT : a_DOUBLE ≠ a_FLOAT := own_fld_ne G21 G29 (by decide)
  have ne_a_DOUBLE_a_CHAR : a_DOUBLE ≠ a_CHAR := own_fld_ne G21 G31 (by decide)
  have ne_a_DOUBLE_a_INT : a_DOUBLE ≠ a_INT := own_fld_ne G21 G33 (by decide)
  have ne_a_BOOLEAN_a_SHORT : a_BOOLEAN ≠ a_SHORT := own_fld_ne G23 G25 (by decide)
  have ne_a_BOOLEAN_a_LONG : a_BOOLEAN ≠ a_LONG := own_fld_ne G23 G27 (by decide)
  have ne_a_BOOLEAN_a_FLOAT : a_BOOLEAN ≠ a_FLOAT := own_fld_ne G23 G29 (by decide)
  have ne_a_BOOLEAN_a_CHAR : a_BOOLEAN ≠ a_CHAR := own_fld_ne G23 G31 (by decide)
  have ne_a_BOOLEAN_a_INT : a_BOOLEAN ≠ a_INT := own_fld_ne G23 G33 (by decide)
  have ne_a_SHORT_a_LONG : a_SHORT ≠ a_LONG := own_fld_ne G25 G27 (by decide)
  have ne_a_SHORT_a_FLOAT : a_SHORT ≠ a_FLOAT := own_fld_ne G25 G29 (by decide)
  have ne_a_SHORT_a_CHAR : a_SHORT ≠ a_CHAR := own_fld_ne G25 G31 (by decide)
  have ne_a_SHORT_a_INT : a_SHORT ≠ a_INT := own_fld_ne G25 G33 (by decide)
  have ne_a_LONG_a_FLOAT : a_LONG ≠ a_FLOAT := own_fld_ne G27 G29 (by decide)
  have ne_a_LONG_a_CHAR : a_LONG ≠ a_CHAR := own_fld_ne G27 G31 (by decide)
  have ne_a_LONG_a_INT : a_LONG ≠ a_INT := own_fld_ne G27 G33 (by decide)
  have ne_a_FLOAT_a_CHAR : a_FLOAT ≠ a_CHAR := own_fld_ne G29 G31 (by decide)
  have ne_a_FLOAT_a_INT : a_FLOAT ≠ a_INT := own_fld_ne G29 G33 (by decide)
  have ne_a_CHAR_a_INT : a_CHAR ≠ a_INT := own_fld_ne G31 G33 (by decide)
  have pre1 : ∀ t, Steps p.tables e below (s₁.setTop (mkF m 9 #[.val (.int p0), .val (.int p1), .val (.int ((p0 &&& (2147483647 : Int32)) - ((p0 &&& (2147483647 : Int32)) / (9 : Int32)) * (9 : Int32))), .unset, .unset] [(.int ((p0 &&& (2147483647 : Int32)) - ((p0 &&& (2147483647 : Int32)) / (9 : Int32)) * (9 : Int32)))])) t → Steps p.tables e below (s₁.setTop (entryFrame m #[(.int p0), (.int p1)] maxLocals)) t := fun t kt => by
    refine pre0 _ ?_
    show Steps p.tables e below (s₁.setTop (mkF m 0 #[.val (.int p0), .val (.int p1), .unset, .unset, .unset] [])) _
    refine XS.iloadN X0.here hx rfl (hb hby at_0) rfl ?_
    show Steps p.tables e below (s₁.setTop (mkF m 1 #[.val (.int p0), .val (.int p1), .unset, .unset, .unset] [(.int p0)])) _
    refine X0.ldcInt hx hown (mvT hZ (hw _ (List.mem_of_getElem? (i := 0) rfl))) (g := (mkF m 1 #[.val (.int p0), .val (.int p1), .unset, .unset, .unset] [(.int p0)])) rfl (hb hby at_1) _ ?_
    show Steps p.tables e below (s₁.setTop (mkF m 3 #[.val (.int p0), .val (.int p1), .unset, .unset, .unset] [(.int (2147483647 : Int32)), (.int p0)])) _
    refine XS.iand X0.here hx rfl (hb hby at_3) rfl ?_
    show Steps p.tables e below (s₁.setTop (mkF m 4 #[.val (.int p0), .val (.int p1), .unset, .unset, .unset] [(.int (p0 &&& (2147483647 : Int32)))])) _
    refine XS.bipush X0.here hx rfl (hb hby at_4) ?_
    show Steps p.tables e below (s₁.setTop (mkF m 6 #[.val (.int p0), .val (.int p1), .unset, .unset, .unset] [(.int (9 : Int32)), (.int (p0 &&& (2147483647 : Int32)))])) _
    refine XS.irem X0.here hx rfl (hb hby at_6) rfl (by decide) ?_
    show Steps p.tables e below (s₁.setTop (mkF m 7 #[.val (.int p0), .val (.int p1), .unset, .unset, .unset] [(.int ((p0 &&& (2147483647 : Int32)) - ((p0 &&& (2147483647 : Int32)) / (9 : Int32)) * (9 : Int32)))])) _
    refine XS.istoreN X0.here hx rfl (hb hby at_7) rfl (l' := #[.val (.int p0), .val (.int p1), .val (.int ((p0 &&& (2147483647 : Int32)) - ((p0 &&& (2147483647 : Int32)) / (9 : Int32)) * (9 : Int32))), .unset, .unset]) rfl ?_
    show Steps p.tables e below (s₁.setTop (mkF m 8 #[.val (.int p0), .val (.int p1), .val (.int ((p0 &&& (2147483647 : Int32)) - ((p0 &&& (2147483647 : Int32)) / (9 : Int32)) * (9 : Int32))), .unset, .unset] [])) _
    refine XS.iloadN X0.here hx rfl (hb hby at_8) rfl ?_
    exact kt
  by_cases hc2 : ((p0 &&& (2147483647 : Int32)) - ((p0 &&& (2147483647 : Int32)) / (9 : Int32)) * (9 : Int32)) = (0 : Int32)
  · have pre3 : ∀ t, Steps p.tables e below (s₁.setTop (mkF m 12 #[.val (.int p0), .val (.int p1), .val (.int ((p0 &&& (2147483647 : Int32)) - ((p0 &&& (2147483647 : Int32)) / (9 : Int32)) * (9 : Int32))), .unset, .unset] [])) t → Steps p.tables e below (s₁.setTop (entryFrame m #[(.int p0), (.int p1)] maxLocals)) t := fun t kt => by
      refine pre1 _ ?_
      show Steps p.tables e below (s₁.setTop (mkF m 9 #[.val (.int p0), .val (.int p1), .val (.int ((p0 &&& (2147483647 : Int32)) - ((p0 &&& (2147483647 : Int32)) / (9 : Int32)) * (9 : Int32))), .unset, .unset] [(.int ((p0 &&& (2147483647 : Int32)) - ((p0 &&& (2147483647 : Int32)) / (9 : Int32)) * (9 : Int32)))])) _
      refine XS.ifNo X0.here hx rfl (hb hby at_9) rfl (XT.i0_ne_f hc2) ?_
      exact kt
    obtain ⟨T4, X4, e4, st4⟩ := getS2 X0 hx hZ hown (host := "") (Or.inl (hw _ (List.mem_of_getElem? (i := 1) rfl))) Via.refl e0 (G0.ext O0.2) (g := (mkF m 12 #[.val (.int p0), .val (.int p1), .val (.int ((p0 &&& (2147483647 : Int32)) - ((p0 &&& (2147483647 : Int32)) / (9 : Int32)) * (9 : Int32))), .unset, .unset] [])) rfl (hb hby at_12)
    have pre5 : ∀ t, Steps p.tables e below (T4.setTop (mkF m 15 #[.val (.int p0), .val (.int p1), .val (.int ((p0 &&& (2147483647 : Int32)) - ((p0 &&& (2147483647 : Int32)) / (9 : Int32)) * (9 : Int32))), .unset, .unset] [(.ref a_OBJECT)])) t → Steps p.tables e below (s₁.setTop (entryFrame m #[(.int p0), (.int p1)] maxLocals)) t := fun t kt => pre3 _ (st4 _ kt)
    have pre6 : ∀ t, Steps p.tables e below (T4.setTop (mkF m 140 #[.val (.int p0), .val (.int p1), .val (.int ((p0 &&& (2147483647 : Int32)) - ((p0 &&& (2147483647 : Int32)) / (9 : Int32)) * (9 : Int32))), .val (.ref a_OBJECT), .val (.int p1)] [(.int p1), (.ref a_OBJECT)])) t → Steps p.tables e below (s₁.setTop (entryFrame m #[(.int p0), (.int p1)] maxLocals)) t := fun t kt => by
      refine pre5 _ ?_
      show Steps p.tables e below (T4.setTop (mkF m 15 #[.val (.int p0), .val (.int p1), .val (.int ((p0 &&& (2147483647 : Int32)) - ((p0 &&& (2147483647 : Int32)) / (9 : Int32)) * (9 : Int32))), .unset, .unset] [(.ref a_OBJECT)])) _
      refine XS.astoreN X4.here hx rfl (hb hby at_15) rfl rfl (l' := #[.val (.int p0), .val (.int p1), .val (.int ((p0 &&& (2147483647 : Int32)) - ((p0 &&& (2147483647 : Int32)) / (9 : Int32)) * (9 : Int32))), .val (.ref a_OBJECT), .unset]) rfl ?_
      show Steps p.tables e below (T4.setTop (mkF m 16 #[.val (.int p0), .val (.int p1), .val (.int ((p0 &&& (2147483647 : Int32)) - ((p0 &&& (2147483647 : Int32)) / (9 : Int32)) * (9 : Int32))), .val (.ref a_OBJECT), .unset] [])) _
      refine XS.iloadN X4.here hx rfl (hb hby at_16) rfl ?_
      show Steps p.tables e below (T4.setTop (mkF m 17 #[.val (.int p0), .val (.int p1), .val (.int ((p0 &&& (2147483647 : Int32)) - ((p0 &&& (2147483647 : Int32)) / (9 : Int32)) * (9 : Int32))), .val (.ref a_OBJECT), .unset] [(.int p1)])) _
      refine XS.istore X4.here hx rfl (hb hby at_17) rfl (l' := #[.val (.int p0), .val (.int p1), .val (.int ((p0 &&& (2147483647 : Int32)) - ((p0 &&& (2147483647 : Int32)) / (9 : Int32)) * (9 : Int32))), .val (.ref a_OBJECT), .val (.int p1)]) rfl ?_
      show Steps p.tables e below (T4.setTop (mkF m 19 #[.val (.int p0), .val (.int p1), .val (.int ((p0 &&& (2147483647 : Int32)) - ((p0 &&& (2147483647 : Int32)) / (9 : Int32)) * (9 : Int32))), .val (.ref a_OBJECT), .val (.int p1)] [])) _
      refine XS.goto X4.here hx rfl (pc0 := 19) (pc' := 138) rfl (hb hby at_19) (by decide) (by decide) ?_
      show Steps p.tables e below (T4.setTop (mkF m 138 #[.val (.int p0), .val (.int p1), .val (.int ((p0 &&& (2147483647 : Int32)) - ((p0 &&& (2147483647 : Int32)) / (9 : Int32)) * (9 : Int32))), .val (.ref a_OBJECT), .val (.int p1)] [])) _
      refine XS.aloadN X4.here hx rfl (hb hby at_138) rfl rfl ?_
      show Steps p.tables e below (T4.setTop (mkF m 139 #[.val (.int p0), .val (.int p1), .val (.int ((p0 &&& (2147483647 : Int32)) - ((p0 &&& (2147483647 : Int32)) / (9 : Int32)) * (9 : Int32))), .val (.ref a_OBJECT), .val (.int p1)] [(.ref a_OBJECT)])) _
      refine XS.iloadN X4.here hx rfl (hb hby at_139) rfl ?_
      exact kt
    obtain ⟨cq7, kq7, q7a, q7b, q7c⟩ := isOf hZ e4 (G1.ext O0.2)
    obtain ⟨_, _, ⟨T7, L7, k7, n7⟩, -, X7, ⟨Lc7, hQ7, l7, y7, z7⟩, st7⟩ := X4.virtualBack hx (y := (⟨"org/reachwatch/BasicType", "size", "(I)I"⟩ : MethodName)) (z := (⟨"org/reachwatch/BasicType", "size", "(I)I"⟩ : MethodName)) hown (mvT hZ (hw _ (List.mem_of_getElem? (i := 4) rfl))) (mvT hZ (hw _ (List.mem_of_getElem? (i := 5) rfl))) (notFace_of_selects (args := #[]) (mvT hZ (hw _ (List.mem_of_getElem? (i := 7) rfl)))) (mvT hZ (hw _ (List.mem_of_getElem? (i := 7) rfl))) (mvT hZ (hw _ (List.mem_of_getElem? (i := 6) rfl))) (by decide) (backOf (W := 0) (rm_size1_0 l Z a0 hw [] a_OBJECT p1 h0 n0 O0 G0) hZ (hw _ (List.mem_of_getElem? (i := 8) rfl)) (hw _ (List.mem_of_getElem? (i := 2) rfl)) (by decide) (by decide)) q7a q7c (g := (mkF m 140 #[.val (.int p0), .val (.int p1), .val (.int ((p0 &&& (2147483647 : Int32)) - ((p0 &&& (2147483647 : Int32)) / (9 : Int32)) * (9 : Int32))), .val (.ref a_OBJECT), .val (.int p1)] [(.int p1), (.ref a_OBJECT)])) rfl (by rw [hml]; rfl) (Steps.refl _) (argsL := [(.int p1)]) (rest := []) (lenOf pd_4 rfl) rfl (by show 2 * 0 + _ ≤ _; exact Nat.le_of_eq rfl) (hb hby at_140) (fun _ _ => ⟨rfl, e4, (by decide : 0 + 0 ≤ _), (by decide : 0 + 0 ≤ _)⟩)
    dsimp only [Pt.U, Pt.locs, Pt.cells, Pt.slots] at X7 l7 y7 z7 st7 hQ7
    subst l7 y7 z7
    obtain ⟨rfl, M7, e7⟩ := hQ7
    have N7 := Fr.app N0 M7
    have pre20 : ∀ t, Steps p.tables e below (T7.setTop (mkF m 143 #[.val (.int p0), .val (.int p1), .val (.int ((p0 &&& (2147483647 : Int32)) - ((p0 &&& (2147483647 : Int32)) / (9 : Int32)) * (9 : Int32))), .val (.ref a_OBJECT), .val (.int p1)] [(.int p1)])) t → Steps p.tables e below (s₁.setTop (entryFrame m #[(.int p0), (.int p1)] maxLocals)) t := fun t kt => pre6 _ (st7.trans kt)
    have pre21 : ∀ t, Steps p.tables e below (T7.setTop (mkF m 153 #[.val (.int p0), .val (.int p1), .val (.int ((p0 &&& (2147483647 : Int32)) - ((p0 &&& (2147483647 : Int32)) / (9 : Int32)) * (9 : Int32))), .val (.ref a_OBJECT), .val (.int p1)] [(.int (1 : Int32))])) t → Steps p.tables e below (s₁.setTop (entryFrame m #[(.int p0), (.int p1)] maxLocals)) t := fun t kt => by
      refine pre20 _ ?_
      show Steps p.tables e below (T7.setTop (mkF m 143 #[.val (.int p0), .val (.int p1), .val (.int ((p0 &&& (2147483647 : Int32)) - ((p0 &&& (2147483647 : Int32)) / (9 : Int32)) * (9 : Int32))), .val (.ref a_OBJECT), .val (.int p1)] [(.int p1)])) _
      refine XS.iload X7.here hx rfl (hb hby at_143) rfl ?_
      show Steps p.tables e below (T7.setTop (mkF m 145 #[.val (.int p0), .val (.int p1), .val (.int ((p0 &&& (2147483647 : Int32)) - ((p0 &&& (2147483647 : Int32)) / (9 : Int32)) * (9 : Int32))), .val (.ref a_OBJECT), .val (.int p1)] [(.int p1), (.int p1)])) _
      refine XS.icmpNo X7.here hx rfl (hb hby at_145) rfl (XT.ii_ne_f rfl) ?_
      show Steps p.tables e below (T7.setTop (mkF m 148 #[.val (.int p0), .val (.int p1), .val (.int ((p0 &&& (2147483647 : Int32)) - ((p0 &&& (2147483647 : Int32)) / (9 : Int32)) * (9 : Int32))), .val (.ref a_OBJECT), .val (.int p1)] [])) _
      refine XS.iconst X7.here hx rfl (hb hby at_148) ?_
      show Steps p.tables e below (T7.setTop (mkF m 149 #[.val (.int p0), .val (.int p1), .val (.int ((p0 &&& (2147483647 : Int32)) - ((p0 &&& (2147483647 : Int32)) / (9 : Int32)) * (9 : Int32))), .val (.ref a_OBJECT), .val (.int p1)] [(.int (1 : Int32))])) _
      refine XS.goto X7.here hx rfl (pc0 := 149) (pc' := 153) rfl (hb hby at_149) (by decide) (by decide) ?_
      exact kt
    obtain ⟨fs, hr, hrun, hended, hW, hsame⟩ := X7.leave (v := some (.int (1 : Int32))) (fun h => by rw [Bd.returns] at h; cases h)
    refine ⟨_, _, pre21 _ (retN X7 hx (t := .boolean) Bd.returns (by simp) (hb hby at_153) hr), hrun, hended, _, _, rfl, ?_, ⟨_, rfl⟩, hW, hsame.mono (by decide) (by decide)⟩
    show Q_law Z p0 p1 a_OBJECT a_BYTE a_DOUBLE a_BOOLEAN a_SHORT a_LONG a_FLOAT a_CHAR a_INT h0 n0 _ T7.heap _
    rw [e7]
    exact ⟨rfl, N7⟩
  · have pre22 : ∀ t, Steps p.tables e below (s₁.setTop (mkF m 24 #[.val (.int p0), .val (.int p1), .val (.int ((p0 &&& (2147483647 : Int32)) - ((p0 &&& (2147483647 : Int32)) / (9 : Int32)) * (9 : Int32))), .unset, .unset] [(.int (1 : Int32)), (.int ((p0 &&& (2147483647 : Int32)) - ((p0 &&& (2147483647 : Int32)) / (9 : Int32)) * (9 : Int32)))])) t → Steps p.tables e below (s₁.setTop (entryFrame m #[(.int p0), (.int p1)] maxLocals)) t := fun t kt => by
      refine pre1 _ ?_
      show Steps p.tables e below (s₁.setTop (mkF m 9 #[.val (.int p0), .val (.int p1), .val (.int ((p0 &&& (2147483647 : Int32)) - ((p0 &&& (2147483647 : Int32)) / (9 : Int32)) * (9 : Int32))), .unset, .unset] [(.int ((p0 &&& (2147483647 : Int32)) - ((p0 &&& (2147483647 : Int32)) / (9 : Int32)) * (9 : Int32)))])) _
      refine XS.ifYes X0.here hx rfl (pc0 := 9) (pc' := 22) rfl (hb hby at_9) rfl (XT.i0_ne_t hc2) (by decide) (by decide) ?_
      show Steps p.tables e below (s₁.setTop (mkF m 22 #[.val (.int p0), .val (.int p1), .val (.int ((p0 &&& (2147483647 : Int32)) - ((p0 &&& (2147483647 : Int32)) / (9 : Int32)) * (9 : Int32))), .unset, .unset] [])) _
      refine XS.iloadN X0.here hx rfl (hb hby at_22) rfl ?_
      show Steps p.tables e below (s₁.setTop (mkF m 23 #[.val (.int p0), .val (.int p1), .val (.int ((p0 &&& (2147483647 : Int32)) - ((p0 &&& (2147483647 : Int32)) / (9 : Int32)) * (9 : Int32))), .unset, .unset] [(.int ((p0 &&& (2147483647 : Int32)) - ((p0 &&& (2147483647 : Int32)) / (9 : Int32)) * (9 : Int32)))])) _
      refine XS.iconst X0.here hx rfl (hb hby at_23) ?_
      exact kt
    by_cases hc23 : ((p0 &&& (2147483647 : Int32)) - ((p0 &&& (2147483647 : Int32)) / (9 : Int32)) * (9 : Int32)) = (1 : Int32)
    · have pre24 : ∀ t, Steps p.tables e below (s₁.setTop (mkF m 27 #[.val (.int p0), .val (.int p1), .val (.int ((p0 &&& (2147483647 : Int32)) - ((p0 &&& (2147483647 : Int32)) / (9 : Int32)) * (9 : Int32))), .unset, .unset] [])) t → Steps p.tables e below (s₁.setTop (entryFrame m #[(.int p0), (.int p1)] maxLocals)) t := fun t kt => by
        refine pre22 _ ?_
        show Steps p.tables e below (s₁.setTop (mkF m 24 #[.val (.int p0), .val (.int p1), .val (.int ((p0 &&& (2147483647 : Int32)) - ((p0 &&& (2147483647 : Int32)) / (9 : Int32)) * (9 : Int32))), .unset, .unset] [(.int (1 : Int32)), (.int ((p0 &&& (2147483647 : Int32)) - ((p0 &&& (2147483647 : Int32)) / (9 : Int32)) * (9 : Int32)))])) _
        refine XS.icmpNo X0.here hx rfl (hb hby at_24) rfl (XT.ii_ne_f hc23) ?_
        exact kt
      obtain ⟨T25, X25, e25, st25⟩ := getS2 X0 hx hZ hown (host := "") (Or.inl (hw _ (List.mem_of_getElem? (i := 16) rfl))) Via.refl e0 (G6.ext O0.2) (g := (mkF m 27 #[.val (.int p0), .val (.int p1), .val (.int ((p0 &&& (2147483647 : Int32)) - ((p0 &&& (2147483647 : Int32)) / (9 : Int32)) * (9 : Int32))), .unset, .unset] [])) rfl (hb hby at_27)
      have pre26 : ∀ t, Steps p.tables e below (T25.setTop (mkF m 30 #[.val (.int p0), .val (.int p1), .val (.int ((p0 &&& (2147483647 : Int32)) - ((p0 &&& (2147483647 : Int32)) / (9 : Int32)) * (9 : Int32))), .unset, .unset] [(.ref a_BOOLEAN)])) t → Steps p.tables e below (s₁.setTop (entryFrame m #[(.int p0), (.int p1)] maxLocals)) t := fun t kt => pre24 _ (st25 _ kt)
      have pre27 : ∀ t, Steps p.tables e below (T25.setTop (mkF m 140 #[.val (.int p0), .val (.int p1), .val (.int ((p0 &&& (2147483647 : Int32)) - ((p0 &&& (2147483647 : Int32)) / (9 : Int32)) * (9 : Int32))), .val (.ref a_BOOLEAN), .val (.int (1 : Int32))] [(.int p1), (.ref a_BOOLEAN)])) t → Steps p.tables e below (s₁.setTop (entryFrame m #[(.int p0), (.int p1)] maxLocals)) t := fun t kt => by
        refine pre26 _ ?_
        show Steps p.tables e below (T25.setTop (mkF m 30 #[.val (.int p0), .val (.int p1), .val (.int ((p0 &&& (2147483647 : Int32)) - ((p0 &&& (2147483647 : Int32)) / (9 : Int32)) * (9 : Int32))), .unset, .unset] [(.ref a_BOOLEAN)])) _
        refine XS.astoreN X25.here hx rfl (hb hby at_30) rfl rfl (l' := #[.val (.int p0), .val (.int p1), .val (.int ((p0 &&& (2147483647 : Int32)) - ((p0 &&& (2147483647 : Int32)) / (9 : Int32)) * (9 : Int32))), .val (.ref a_BOOLEAN), .unset]) rfl ?_
        show Steps p.tables e below (T25.setTop (mkF m 31 #[.val (.int p0), .val (.int p1), .val (.int ((p0 &&& (2147483647 : Int32)) - ((p0 &&& (2147483647 : Int32)) / (9 : Int32)) * (9 : Int32))), .val (.ref a_BOOLEAN), .unset] [])) _
        refine XS.iconst X25.here hx rfl (hb hby at_31) ?_
        show Steps p.tables e below (T25.setTop (mkF m 32 #[.val (.int p0), .val (.int p1), .val (.int ((p0 &&& (2147483647 : Int32)) - ((p0 &&& (2147483647 : Int32)) / (9 : Int32)) * (9 : Int32))), .val (.ref a_BOOLEAN), .unset] [(.int (1 : Int32))])) _
        refine XS.istore X25.here hx rfl (hb hby at_32) rfl (l' := #[.val (.int p0), .val (.int p1), .val (.int ((p0 &&& (2147483647 : Int32)) - ((p0 &&& (2147483647 : Int32)) / (9 : Int32)) * (9 : Int32))), .val (.ref a_BOOLEAN), .val (.int (1 : Int32))]) rfl ?_
        show Steps p.tables e below (T25.setTop (mkF m 34 #[.val (.int p0), .val (.int p1), .val (.int ((p0 &&& (2147483647 : Int32)) - ((p0 &&& (2147483647 : Int32)) / (9 : Int32)) * (9 : Int32))), .val (.ref a_BOOLEAN), .val (.int (1 : Int32))] [])) _
        refine XS.goto X25.here hx rfl (pc0 := 34) (pc' := 138) rfl (hb hby at_34) (by decide) (by decide) ?_
        show Steps p.tables e below (T25.setTop (mkF m 138 #[.val (.int p0), .val (.int p1), .val (.int ((p0 &&& (2147483647 : Int32)) - ((p0 &&& (2147483647 : Int32)) / (9 : Int32)) * (9 : Int32))), .val (.ref a_BOOLEAN), .val (.int (1 : Int32))] [])) _
        refine XS.aloadN X25.here hx rfl (hb hby at_138) rfl rfl ?_
        show Steps p.tables e below (T25.setTop (mkF m 139 #[.val (.int p0), .val (.int p1), .val (.int ((p0 &&& (2147483647 : Int32)) - ((p0 &&& (2147483647 : Int32)) / (9 : Int32)) * (9 : Int32))), .val (.ref a_BOOLEAN), .val (.int (1 : Int32))] [(.ref a_BOOLEAN)])) _
        refine XS.iloadN X25.here hx rfl (hb hby at_139) rfl ?_
        exact kt
      obtain ⟨cq28, kq28, q28a, q28b, q28c⟩ := isOf hZ e25 (G7.ext O0.2)
      obtain ⟨_, _, ⟨T28, L28, k28, n28⟩, -, X28, ⟨Lc28, hQ28, l28, y28, z28⟩, st28⟩ := X25.virtualBack hx (y := (⟨"org/reachwatch/BasicType", "size", "(I)I"⟩ : MethodName)) (z := (⟨"org/reachwatch/BasicType", "size", "(I)I"⟩ : MethodName)) hown (mvT hZ (hw _ (List.mem_of_getElem? (i := 4) rfl))) (mvT hZ (hw _ (List.mem_of_getElem? (i := 5) rfl))) (notFace_of_selects (args := #[]) (mvT hZ (hw _ (List.mem_of_getElem? (i := 7) rfl)))) (mvT hZ (hw _ (List.mem_of_getElem? (i := 7) rfl))) (mvT hZ (hw _ (List.mem_of_getElem? (i := 6) rfl))) (by decide) (backOf (W := 0) (rm_size1_1 l Z a0 hw [] a_BOOLEAN p1 a_OBJECT h0 n0 O0 G0 G24 (fun q => ne_a_OBJECT_a_BOOLEAN q.symm)) hZ (hw _ (List.mem_of_getElem? (i := 8) rfl)) (hw _ (List.mem_of_getElem? (i := 2) rfl)) (by decide) (by decide)) q28a q28c (g := (mkF m 140 #[.val (.int p0), .val (.int p1), .val (.int ((p0 &&& (2147483647 : Int32)) - ((p0 &&& (2147483647 : Int32)) / (9 : Int32)) * (9 : Int32))), .val (.ref a_BOOLEAN), .val (.int (1 : Int32))] [(.int p1), (.ref a_BOOLEAN)])) rfl (by rw [hml]; rfl) (Steps.refl _) (argsL := [(.int p1)]) (rest := []) (lenOf pd_4 rfl) rfl (by show 2 * 0 + _ ≤ _; exact Nat.le_of_eq rfl) (hb hby at_140) (fun _ _ => ⟨rfl, e25, (by decide : 0 + 0 ≤ _), (by decide : 0 + 0 ≤ _)⟩)
      dsimp only [Pt.U, Pt.locs, Pt.cells, Pt.slots] at X28 l28 y28 z28 st28 hQ28
      subst l28 y28 z28
      obtain ⟨rfl, M28, e28⟩ := hQ28
      have N28 := Fr.app N0 M28
      have pre47 : ∀ t, Steps p.tables e below (T28.setTop (mkF m 143 #[.val (.int p0), .val (.int p1), .val (.int ((p0 &&& (2147483647 : Int32)) - ((p0 &&& (2147483647 : Int32)) / (9 : Int32)) * (9 : Int32))), .val (.ref a_BOOLEAN), .val (.int (1 : Int32))] [(.int (1 : Int32))])) t → Steps p.tables e below (s₁.setTop (entryFrame m #[(.int p0), (.int p1)] maxLocals)) t := fun t kt => pre27 _ (st28.trans kt)
      have pre48 : ∀ t, Steps p.tables e below (T28.setTop (mkF m 153 #[.val (.int p0), .val (.int p1), .val (.int ((p0 &&& (2147483647 : Int32)) - ((p0 &&& (2147483647 : Int32)) / (9 : Int32)) * (9 : Int32))), .val (.ref a_BOOLEAN), .val (.int (1 : Int32))] [(.int (1 : Int32))])) t → Steps p.tables e below (s₁.setTop (entryFrame m #[(.int p0), (.int p1)] maxLocals)) t := fun t kt => by
        refine pre47 _ ?_
        show Steps p.tables e below (T28.setTop (mkF m 143 #[.val (.int p0), .val (.int p1), .val (.int ((p0 &&& (2147483647 : Int32)) - ((p0 &&& (2147483647 : Int32)) / (9 : Int32)) * (9 : Int32))), .val (.ref a_BOOLEAN), .val (.int (1 : Int32))] [(.int (1 : Int32))])) _
        refine XS.iload X28.here hx rfl (hb hby at_143) rfl ?_
        show Steps p.tables e below (T28.setTop (mkF m 145 #[.val (.int p0), .val (.int p1), .val (.int ((p0 &&& (2147483647 : Int32)) - ((p0 &&& (2147483647 : Int32)) / (9 : Int32)) * (9 : Int32))), .val (.ref a_BOOLEAN), .val (.int (1 : Int32))] [(.int (1 : Int32)), (.int (1 : Int32))])) _
        refine XS.icmpNo X28.here hx rfl (hb hby at_145) rfl (XT.ii_ne_f (by decide)) ?_
        show Steps p.tables e below (T28.setTop (mkF m 148 #[.val (.int p0), .val (.int p1), .val (.int ((p0 &&& (2147483647 : Int32)) - ((p0 &&& (2147483647 : Int32)) / (9 : Int32)) * (9 : Int32))), .val (.ref a_BOOLEAN), .val (.int (1 : Int32))] [])) _
        refine XS.iconst X28.here hx rfl (hb hby at_148) ?_
        show Steps p.tables e below (T28.setTop (mkF m 149 #[.val (.int p0), .val (.int p1), .val (.int ((p0 &&& (2147483647 : Int32)) - ((p0 &&& (2147483647 : Int32)) / (9 : Int32)) * (9 : Int32))), .val (.ref a_BOOLEAN), .val (.int (1 : Int32))] [(.int (1 : Int32))])) _
        refine XS.goto X28.here hx rfl (pc0 := 149) (pc' := 153) rfl (hb hby at_149) (by decide) (by decide) ?_
        exact kt
      obtain ⟨fs, hr, hrun, hended, hW, hsame⟩ := X28.leave (v := some (.int (1 : Int32))) (fun h => by rw [Bd.returns] at h; cases h)
      refine ⟨_, _, pre48 _ (retN X28 hx (t := .boolean) Bd.returns (by simp) (hb hby at_153) hr), hrun, hended, _, _, rfl, ?_, ⟨_, rfl⟩, hW, hsame.mono (by decide) (by decide)⟩
      show Q_law Z p0 p1 a_OBJECT a_BYTE a_DOUBLE a_BOOLEAN a_SHORT a_LONG a_FLOAT a_CHAR a_INT h0 n0 _ T28.heap _
      rw [e28]
      exact ⟨rfl, N28⟩
    · have pre49 : ∀ t, Steps p.tables e below (s₁.setTop (mkF m 39 #[.val (.int p0), .val (.int p1), .val (.int ((p0 &&& (2147483647 : Int32)) - ((p0 &&& (2147483647 : Int32)) / (9 : Int32)) * (9 : Int32))), .unset, .unset] [(.int (2 : Int32)), (.int ((p0 &&& (2147483647 : Int32)) - ((p0 &&& (2147483647 : Int32)) / (9 : Int32)) * (9 : Int32)))])) t → Steps p.tables e below (s₁.setTop (entryFrame m #[(.int p0), (.int p1)] maxLocals)) t := fun t kt => by
        refine pre22 _ ?_
        show Steps p.tables e below (s₁.setTop (mkF m 24 #[.val (.int p0), .val (.int p1), .val (.int ((p0 &&& (2147483647 : Int32)) - ((p0 &&& (2147483647 : Int32)) / (9 : Int32)) * (9 : Int32))), .unset, .unset] [(.int (1 : Int32)), (.int ((p0 &&& (2147483647 : Int32)) - ((p0 &&& (2147483647 : Int32)) / (9 : Int32)) * (9 : Int32)))])) _
        refine XS.icmpYes X0.here hx rfl (pc0 := 24) (pc' := 37) rfl (hb hby at_24) rfl (XT.ii_ne_t hc23) (by decide) (by decide) ?_
        show Steps p.tables e below (s₁.setTop (mkF m 37 #[.val (.int p0), .val (.int p1), .val (.int ((p0 &&& (2147483647 : Int32)) - ((p0 &&& (2147483647 : Int32)) / (9 : Int32)) * (9 : Int32))), .unset, .unset] [])) _
        refine XS.iloadN X0.here hx rfl (hb hby at_37) rfl ?_
        show Steps p.tables e below (s₁.setTop (mkF m 38 #[.val (.int p0), .val (.int p1), .val (.int ((p0 &&& (2147483647 : Int32)) - ((p0 &&& (2147483647 : Int32)) / (9 : Int32)) * (9 : Int32))), .unset, .unset] [(.int ((p0 &&& (2147483647 : Int32)) - ((p0 &&& (2147483647 : Int32)) / (9 : Int32)) * (9 : Int32)))])) _
        refine XS.iconst X0.here hx rfl (hb hby at_38) ?_
        exact kt
      by_cases hc50 : ((p0 &&& (2147483647 : Int32)) - ((p0 &&& (2147483647 : Int32)) / (9 : Int32)) * (9 : Int32)) = (2 : Int32)
      · have pre51 : ∀ t, Steps p.tables e below (s₁.setTop (mkF m 42 #[.val (.int p0), .val (.int p1), .val (.int ((p0 &&& (2147483647 : Int32)) - ((p0 &&& (2147483647 : Int32)) / (9 : Int32)) * (9 : Int32))), .unset, .unset] [])) t → Steps p.tables e below (s₁.setTop (entryFrame m #[(.int p0), (.int p1)] maxLocals)) t := fun t kt => by
          refine pre49 _ ?_
          show Steps p.tables e below (s₁.setTop (mkF m 39 #[.val (.int p0), .val (.int p1), .val (.int ((p0 &&& (2147483647 : Int32)) - ((p0 &&& (2147483647 : Int32)) / (9 : Int32)) * (9 : Int32))), .unset, .unset] [(.int (2 : Int32)), (.int ((p0 &&& (2147483647 : Int32)) - ((p0 &&& (2147483647 : Int32)) / (9 : Int32)) * (9 : Int32)))])) _
          refine XS.icmpNo X0.here hx rfl (hb hby at_39) rfl (XT.ii_ne_f hc50) ?_
          exact kt
        obtain ⟨T52, X52, e52, st52⟩ := getS2 X0 hx hZ hown (host := "") (Or.inl (hw _ (List.mem_of_getElem? (i := 24) rfl))) Via.refl e0 (G14.ext O0.2) (g := (mkF m 42 #[.val (.int p0), .val (.int p1), .val (.int ((p0 &&& (2147483647 : Int32)) - ((p0 &&& (2147483647 : Int32)) / (9 : Int32)) * (9 : Int32))), .unset, .unset] [])) rfl (hb hby at_42)
        have pre53 : ∀ t, Steps p.tables e below (T52.setTop (mkF m 45 #[.val (.int p0), .val (.int p1), .val (.int ((p0 &&& (2147483647 : Int32)) - ((p0 &&& (2147483647 : Int32)) / (9 : Int32)) * (9 : Int32))), .unset, .unset] [(.ref a_CHAR)])) t → Steps p.tables e below (s₁.setTop (entryFrame m #[(.int p0), (.int p1)] maxLocals)) t := fun t kt => pre51 _ (st52 _ kt)
        have pre54 : ∀ t, Steps p.tables e below (T52.setTop (mkF m 140 #[.val (.int p0), .val (.int p1), .val (.int ((p0 &&& (2147483647 : Int32)) - ((p0 &&& (2147483647 : Int32)) / (9 : Int32)) * (9 : Int32))), .val (.ref a_CHAR), .val (.int (2 : Int32))] [(.int p1), (.ref a_CHAR)])) t → Steps p.tables e below (s₁.setTop (entryFrame m #[(.int p0), (.int p1)] maxLocals)) t := fun t kt => by
          refine pre53 _ ?_
          show Steps p.tables e below (T52.setTop (mkF m 45 #[.val (.int p0), .val (.int p1), .val (.int ((p0 &&& (2147483647 : Int32)) - ((p0 &&& (2147483647 : Int32)) / (9 : Int32)) * (9 : Int32))), .unset, .unset] [(.ref a_CHAR)])) _
          refine XS.astoreN X52.here hx rfl (hb hby at_45) rfl rfl (l' := #[.val (.int p0), .val (.int p1), .val (.int ((p0 &&& (2147483647 : Int32)) - ((p0 &&& (2147483647 : Int32)) / (9 : Int32)) * (9 : Int32))), .val (.ref a_CHAR), .unset]) rfl ?_
          show Steps p.tables e below (T52.setTop (mkF m 46 #[.val (.int p0), .val (.int p1), .val (.int ((p0 &&& (2147483647 : Int32)) - ((p0 &&& (2147483647 : Int32)) / (9 : Int32)) * (9 : Int32))), .val (.ref a_CHAR), .unset] [])) _
          refine XS.iconst X52.here hx rfl (hb hby at_46) ?_
          show Steps p.tables e below (T52.setTop (mkF m 47 #[.val (.int p0), .val (.int p1), .val (.int ((p0 &&& (2147483647 : Int32)) - ((p0 &&& (2147483647 : Int32)) / (9 : Int32)) * (9 : Int32))), .val (.ref a_CHAR), .unset] [(.int (2 : Int32))])) _
          refine XS.istore X52.here hx rfl (hb hby at_47) rfl (l' := #[.val (.int p0), .val (.int p1), .val (.int ((p0 &&& (2147483647 : Int32)) - ((p0 &&& (2147483647 : Int32)) / (9 : Int32)) * (9 : Int32))), .val (.ref a_CHAR), .val (.int (2 : Int32))]) rfl ?_
          show Steps p.tables e below (T52.setTop (mkF m 49 #[.val (.int p0), .val (.int p1), .val (.int ((p0 &&& (2147483647 : Int32)) - ((p0 &&& (2147483647 : Int32)) / (9 : Int32)) * (9 : Int32))), .val (.ref a_CHAR), .val (.int (2 : Int32))] [])) _
          refine XS.goto X52.here hx rfl (pc0 := 49) (pc' := 138) rfl (hb hby at_49) (by decide) (by decide) ?_
          show Steps p.tables e below (T52.setTop (mkF m 138 #[.val (.int p0), .val (.int p1), .val (.int ((p0 &&& (2147483647 : Int32)) - ((p0 &&& (2147483647 : Int32)) / (9 : Int32)) * (9 : Int32))), .val (.ref a_CHAR), .val (.int (2 : Int32))] [])) _
          refine XS.aloadN X52.here hx rfl (hb hby at_138) rfl rfl ?_
          show Steps p.tables e below (T52.setTop (mkF m 139 #[.val (.int p0), .val (.int p1), .val (.int ((p0 &&& (2147483647 : Int32)) - ((p0 &&& (2147483647 : Int32)) / (9 : Int32)) * (9 : Int32))), .val (.ref a_CHAR), .val (.int (2 : Int32))] [(.ref a_CHAR)])) _
          refine XS.iloadN X52.here hx rfl (hb hby at_139) rfl ?_
          exact kt
        obtain ⟨cq55, kq55, q55a, q55b, q55c⟩ := isOf hZ e52 (G15.ext O0.2)
        obtain ⟨_, _, ⟨T55, L55, k55, n55⟩, -, X55, ⟨Lc55, hQ55, l55, y55, z55⟩, st55⟩ := X52.virtualBack hx (y := (⟨"org/reachwatch/BasicType", "size", "(I)I"⟩ : MethodName)) (z := (⟨"org/reachwatch/BasicType", "size", "(I)I"⟩ : MethodName)) hown (mvT hZ (hw _ (List.mem_of_getElem? (i := 4) rfl))) (mvT hZ (hw _ (List.mem_of_getElem? (i := 5) rfl))) (notFace_of_selects (args := #[]) (mvT hZ (hw _ (List.mem_of_getElem? (i := 7) rfl)))) (mvT hZ (hw _ (List.mem_of_getElem? (i := 7) rfl))) (mvT hZ (hw _ (List.mem_of_getElem? (i := 6) rfl))) (by decide) (backOf (W := 0) (rm_size1_2 l Z a0 hw [] a_CHAR p1 a_OBJECT h0 n0 O0 G0 G32 (fun q => ne_a_OBJECT_a_CHAR q.symm)) hZ (hw _ (List.mem_of_getElem? (i := 8) rfl)) (hw _ (List.mem_of_getElem? (i := 2) rfl)) (by decide) (by decide)) q55a q55c (g := (mkF m 140 #[.val (.int p0), .val (.int p1), .val (.int ((p0 &&& (2147483647 : Int32)) - ((p0 &&& (2147483647 : Int32)) / (9 : Int32)) * (9 : Int32))), .val (.ref a_CHAR), .val (.int (2 : Int32))] [(.int p1), (.ref a_CHAR)])) rfl (by rw [hml]; rfl) (Steps.refl _) (argsL := [(.int p1)]) (rest := []) (lenOf pd_4 rfl) rfl (by show 2 * 0 + _ ≤ _; exact Nat.le_of_eq rfl) (hb hby at_140) (fun _ _ => ⟨rfl, e52, (by decide : 0 + 0 ≤ _), (by decide : 0 + 0 ≤ _)⟩)
        dsimp only [Pt.U, Pt.locs, Pt.cells, Pt.slots] at X55 l55 y55 z55 st55 hQ55
        subst l55 y55 z55
        obtain ⟨rfl, M55, e55⟩ := hQ55
        have N55 := Fr.app N0 M55
        have pre74 : ∀ t, Steps p.tables e below (T55.setTop (mkF m 143 #[.val (.int p0), .val (.int p1), .val (.int ((p0 &&& (2147483647 : Int32)) - ((p0 &&& (2147483647 : Int32)) / (9 : Int32)) * (9 : Int32))), .val (.ref a_CHAR), .val (.int (2 : Int32))] [(.int (2 : Int32))])) t → Steps p.tables e below (s₁.setTop (entryFrame m #[(.int p0), (.int p1)] maxLocals)) t := fun t kt => pre54 _ (st55.trans kt)
        have pre75 : ∀ t, Steps p.tables e below (T55.setTop (mkF m 153 #[.val (.int p0), .val (.int p1), .val (.int ((p0 &&& (2147483647 : Int32)) - ((p0 &&& (2147483647 : Int32)) / (9 : Int32)) * (9 : Int32))), .val (.ref a_CHAR), .val (.int (2 : Int32))] [(.int (1 : Int32))])) t → Steps p.tables e below (s₁.setTop (entryFrame m #[(.int p0), (.int p1)] maxLocals)) t := fun t kt => by
          refine pre74 _ ?_
          show Steps p.tables e below (T55.setTop (mkF m 143 #[.val (.int p0), .val (.int p1), .val (.int ((p0 &&& (2147483647 : Int32)) - ((p0 &&& (2147483647 : Int32)) / (9 : Int32)) * (9 : Int32))), .val (.ref a_CHAR), .val (.int (2 : Int32))] [(.int (2 : Int32))])) _
          refine XS.iload X55.here hx rfl (hb hby at_143) rfl ?_
          show Steps p.tables e below (T55.setTop (mkF m 145 #[.val (.int p0), .val (.int p1), .val (.int ((p0 &&& (2147483647 : Int32)) - ((p0 &&& (2147483647 : Int32)) / (9 : Int32)) * (9 : Int32))), .val (.ref a_CHAR), .val (.int (2 : Int32))] [(.int (2 : Int32)), (.int (2 : Int32))])) _
          refine XS.icmpNo X55.here hx rfl (hb hby at_145) rfl (XT.ii_ne_f (by decide)) ?_
          show Steps p.tables e below (T55.setTop (mkF m 148 #[.val (.int p0), .val (.int p1), .val (.int ((p0 &&& (2147483647 : Int32)) - ((p0 &&& (2147483647 : Int32)) / (9 : Int32)) * (9 : Int32))), .val (.ref a_CHAR), .val (.int (2 : Int32))] [])) _
          refine XS.iconst X55.here hx rfl (hb hby at_148) ?_
          show Steps p.tables e below (T55.setTop (mkF m 149 #[.val (.int p0), .val (.int p1), .val (.int ((p0 &&& (2147483647 : Int32)) - ((p0 &&& (2147483647 : Int32)) / (9 : Int32)) * (9 : Int32))), .val (.ref a_CHAR), .val (.int (2 : Int32))] [(.int (1 : Int32))])) _
          refine XS.goto X55.here hx rfl (pc0 := 149) (pc' := 153) rfl (hb hby at_149) (by decide) (by decide) ?_
          exact kt
        obtain ⟨fs, hr, hrun, hended, hW, hsame⟩ := X55.leave (v := some (.int (1 : Int32))) (fun h => by rw [Bd.returns] at h; cases h)
        refine ⟨_, _, pre75 _ (retN X55 hx (t := .boolean) Bd.returns (by simp) (hb hby at_153) hr), hrun, hended, _, _, rfl, ?_, ⟨_, rfl⟩, hW, hsame.mono (by decide) (by decide)⟩
        show Q_law Z p0 p1 a_OBJECT a_BYTE a_DOUBLE a_BOOLEAN a_SHORT a_LONG a_FLOAT a_CHAR a_INT h0 n0 _ T55.heap _
        rw [e55]
        exact ⟨rfl, N55⟩
      · have pre76 : ∀ t, Steps p.tables e below (s₁.setTop (mkF m 54 #[.val (.int p0), .val (.int p1), .val (.int ((p0 &&& (2147483647 : Int32)) - ((p0 &&& (2147483647 : Int32)) / (9 : Int32)) * (9 : Int32))), .unset, .unset] [(.int (3 : Int32)), (.int ((p0 &&& (2147483647 : Int32)) - ((p0 &&& (2147483647 : Int32)) / (9 : Int32)) * (9 : Int32)))])) t → Steps p.tables e below (s₁.setTop (entryFrame m #[(.int p0), (.int p1)] maxLocals)) t := fun t kt => by
          refine pre49 _ ?_
          show Steps p.tables e below (s₁.setTop (mkF m 39 #[.val (.int p0), .val (.int p1), .val (.int ((p0 &&& (2147483647 : Int32)) - ((p0 &&& (2147483647 : Int32)) / (9 : Int32)) * (9 : Int32))), .unset, .unset] [(.int (2 : Int32)), (.int ((p0 &&& (2147483647 : Int32)) - ((p0 &&& (2147483647 : Int32)) / (9 : Int32)) * (9 : Int32)))])) _
          refine XS.icmpYes X0.here hx rfl (pc0 := 39) (pc' := 52) rfl (hb hby at_39) rfl (XT.ii_ne_t hc50) (by decide) (by decide) ?_
          show Steps p.tables e below (s₁.setTop (mkF m 52 #[.val (.int p0), .val (.int p1), .val (.int ((p0 &&& (2147483647 : Int32)) - ((p0 &&& (2147483647 : Int32)) / (9 : Int32)) * (9 : Int32))), .unset, .unset] [])) _
          refine XS.iloadN X0.here hx rfl (hb hby at_52) rfl ?_
          show Steps p.tables e below (s₁.setTop (mkF m 53 #[.val (.int p0), .val (.int p1), .val (.int ((p0 &&& (2147483647 : Int32)) - ((p0 &&& (2147483647 : Int32)) / (9 : Int32)) * (9 : Int32))), .unset, .unset] [(.int ((p0 &&& (2147483647 : Int32)) - ((p0 &&& (2147483647 : Int32)) / (9 : Int32)) * (9 : Int32)))])) _
          refine XS.iconst X0.here hx rfl (hb hby at_53) ?_
          exact kt
        by_cases hc77 : ((p0 &&& (2147483647 : Int32)) - ((p0 &&& (2147483647 : Int32)) / (9 : Int32)) * (9 : Int32)) = (3 : Int32)
        · have pre78 : ∀ t, Steps p.tables e below (s₁.setTop (mkF m 57 #[.val (.int p0), .val (.int p1), .val (.int ((p0 &&& (2147483647 : Int32)) - ((p0 &&& (2147483647 : Int32)) / (9 : Int32)) * (9 : Int32))), .unset, .unset] [])) t → Steps p.tables e below (s₁.setTop (entryFrame m #[(.int p0), (.int p1)] maxLocals)) t := fun t kt => by
            refine pre76 _ ?_
            show Steps p.tables e below (s₁.setTop (mkF m 54 #[.val (.int p0), .val (.int p1), .val (.int ((p0 &&& (2147483647 : Int32)) - ((p0 &&& (2147483647 : Int32)) / (9 : Int32)) * (9 : Int32))), .unset, .unset] [(.int (3 : Int32)), (.int ((p0 &&& (2147483647 : Int32)) - ((p0 &&& (2147483647 : Int32)) / (9 : Int32)) * (9 : Int32)))])) _
            refine XS.icmpNo X0.here hx rfl (hb hby at_54) rfl (XT.ii_ne_f hc77) ?_
            exact kt
          obtain ⟨T79, X79, e79, st79⟩ := getS2 X0 hx hZ hown (host := "") (Or.inl (hw _ (List.mem_of_getElem? (i := 22) rfl))) Via.refl e0 (G12.ext O0.2) (g := (mkF m 57 #[.val (.int p0), .val (.int p1), .val (.int ((p0 &&& (2147483647 : Int32)) - ((p0 &&& (2147483647 : Int32)) / (9 : Int32)) * (9 : Int32))), .unset, .unset] [])) rfl (hb hby at_57)
          have pre80 : ∀ t, Steps p.tables e below (T79.setTop (mkF m 60 #[.val (.int p0), .val (.int p1), .val (.int ((p0 &&& (2147483647 : Int32)) - ((p0 &&& (2147483647 : Int32)) / (9 : Int32)) * (9 : Int32))), .unset, .unset] [(.ref a_FLOAT)])) t → Steps p.tables e below (s₁.setTop (entryFrame m #[(.int p0), (.int p1)] maxLocals)) t := fun t kt => pre78 _ (st79 _ kt)
          have pre81 : ∀ t, Steps p.tables e below (T79.setTop (mkF m 140 #[.val (.int p0), .val (.int p1), .val (.int ((p0 &&& (2147483647 : Int32)) - ((p0 &&& (2147483647 : Int32)) / (9 : Int32)) * (9 : Int32))), .val (.ref a_FLOAT), .val (.int (4 : Int32))] [(.int p1), (.ref a_FLOAT)])) t → Steps p.tables e below (s₁.setTop (entryFrame m #[(.int p0), (.int p1)] maxLocals)) t := fun t kt => by
            refine pre80 _ ?_
            show Steps p.tables e below (T79.setTop (mkF m 60 #[.val (.int p0), .val (.int p1), .val (.int ((p0 &&& (2147483647 : Int32)) - ((p0 &&& (2147483647 : Int32)) / (9 : Int32)) * (9 : Int32))), .unset, .unset] [(.ref a_FLOAT)])) _
            refine XS.astoreN X79.here hx rfl (hb hby at_60) rfl rfl (l' := #[.val (.int p0), .val (.int p1), .val (.int ((p0 &&& (2147483647 : Int32)) - ((p0 &&& (2147483647 : Int32)) / (9 : Int32)) * (9 : Int32))), .val (.ref a_FLOAT), .unset]) rfl ?_
            show Steps p.tables e below (T79.setTop (mkF m 61 #[.val (.int p0), .val (.int p1), .val (.int ((p0 &&& (2147483647 : Int32)) - ((p0 &&& (2147483647 : Int32)) / (9 : Int32)) * (9 : Int32))), .val (.ref a_FLOAT), .unset] [])) _
            refine XS.iconst X79.here hx rfl (hb hby at_61) ?_
            show Steps p.tables e below (T79.setTop (mkF m 62 #[.val (.int p0), .val (.int p1), .val (.int ((p0 &&& (2147483647 : Int32)) - ((p0 &&& (2147483647 : Int32)) / (9 : Int32)) * (9 : Int32))), .val (.ref a_FLOAT), .unset] [(.int (4 : Int32))])) _
            refine XS.istore X79.here hx rfl (hb hby at_62) rfl (l' := #[.val (.int p0), .val (.int p1), .val (.int ((p0 &&& (2147483647 : Int32)) - ((p0 &&& (2147483647 : Int32)) / (9 : Int32)) * (9 : Int32))), .val (.ref a_FLOAT), .val (.int (4 : Int32))]) rfl ?_
            show Steps p.tables e below (T79.setTop (mkF m 64 #[.val (.int p0), .val (.int p1), .val (.int ((p0 &&& (2147483647 : Int32)) - ((p0 &&& (2147483647 : Int32)) / (9 : Int32)) * (9 : Int32))), .val (.ref a_FLOAT), .val (.int (4 : Int32))] [])) _
            refine XS.goto X79.here hx rfl (pc0 := 64) (pc' := 138) rfl (hb hby at_64) (by decide) (by decide) ?_
            show Steps p.tables e below (T79.setTop (mkF m 138 #[.val (.int p0), .val (.int p1), .val (.int ((p0 &&& (2147483647 : Int32)) - ((p0 &&& (2147483647 : Int32)) / (9 : Int32)) * (9 : Int32))), .val (.ref a_FLOAT), .val (.int (4 : Int32))] [])) _
            refine XS.aloadN X79.here hx rfl (hb hby at_138) rfl rfl ?_
            show Steps p.tables e below (T79.setTop (mkF m 139 #[.val (.int p0), .val (.int p1), .val (.int ((p0 &&& (2147483647 : Int32)) - ((p0 &&& (2147483647 : Int32)) / (9 : Int32)) * (9 : Int32))), .val (.ref a_FLOAT), .val (.int (4 : Int32))] [(.ref a_FLOAT)])) _
            refine XS.iloadN X79.here hx rfl (hb hby at_139) rfl ?_
            exact kt
          obtain ⟨cq82, kq82, q82a, q82b, q82c⟩ := isOf hZ e79 (G13.ext O0.2)
          obtain ⟨_, _, ⟨T82, L82, k82, n82⟩, -, X82, ⟨Lc82, hQ82, l82, y82, z82⟩, st82⟩ := X79.virtualBack hx (y := (⟨"org/reachwatch/BasicType", "size", "(I)I"⟩ : MethodName)) (z := (⟨"org/reachwatch/BasicType", "size", "(I)I"⟩ : MethodName)) hown (mvT hZ (hw _ (List.mem_of_getElem? (i := 4) rfl))) (mvT hZ (hw _ (List.mem_of_getElem? (i := 5) rfl))) (notFace_of_selects (args := #[]) (mvT hZ (hw _ (List.mem_of_getElem? (i := 7) rfl)))) (mvT hZ (hw _ (List.mem_of_getElem? (i := 7) rfl))) (mvT hZ (hw _ (List.mem_of_getElem? (i := 6) rfl))) (by decide) (backOf (W := 0) (rm_size1_3 l Z a0 hw [] a_FLOAT p1 a_OBJECT h0 n0 O0 G0 G30 (fun q => ne_a_OBJECT_a_FLOAT q.symm)) hZ (hw _ (List.mem_of_getElem? (i := 8) rfl)) (hw _ (List.mem_of_getElem? (i := 2) rfl)) (by decide) (by decide)) q82a q82c (g := (mkF m 140 #[.val (.int p0), .val (.int p1), .val (.int ((p0 &&& (2147483647 : Int32)) - ((p0 &&& (2147483647 : Int32)) / (9 : Int32)) * (9 : Int32))), .val (.ref a_FLOAT), .val (.int (4 : Int32))] [(.int p1), (.ref a_FLOAT)])) rfl (by rw [hml]; rfl) (Steps.refl _) (argsL := [(.int p1)]) (rest := []) (lenOf pd_4 rfl) rfl (by show 2 * 0 + _ ≤ _; exact Nat.le_of_eq rfl) (hb hby at_140) (fun _ _ => ⟨rfl, e79, (by decide : 0 + 0 ≤ _), (by decide : 0 + 0 ≤ _)⟩)
          dsimp only [Pt.U, Pt.locs, Pt.cells, Pt.slots] at X82 l82 y82 z82 st82 hQ82
          subst l82 y82 z82
          obtain ⟨rfl, M82, e82⟩ := hQ82
          have N82 := Fr.app N0 M82
          have pre101 : ∀ t, Steps p.tables e below (T82.setTop (mkF m 143 #[.val (.int p0), .val (.int p1), .val (.int ((p0 &&& (2147483647 : Int32)) - ((p0 &&& (2147483647 : Int32)) / (9 : Int32)) * (9 : Int32))), .val (.ref a_FLOAT), .val (.int (4 : Int32))] [(.int (4 : Int32))])) t → Steps p.tables e below (s₁.setTop (entryFrame m #[(.int p0), (.int p1)] maxLocals)) t := fun t kt => pre81 _ (st82.trans kt)
          have pre102 : ∀ t, Steps p.tables e below (T82.setTop (mkF m 153 #[.val (.int p0), .val (.int p1), .val (.int ((p0 &&& (2147483647 : Int32)) - ((p0 &&& (2147483647 : Int32)) / (9 : Int32)) * (9 : Int32))), .val (.ref a_FLOAT), .val (.int (4 : Int32))] [(.int (1 : Int32))])) t → Steps p.tables e below (s₁.setTop (entryFrame m #[(.int p0), (.int p1)] maxLocals)) t := fun t kt => by
            refine pre101 _ ?_
            show Steps p.tables e below (T82.setTop (mkF m 143 #[.val (.int p0), .val (.int p1), .val (.int ((p0 &&& (2147483647 : Int32)) - ((p0 &&& (2147483647 : Int32)) / (9 : Int32)) * (9 : Int32))), .val (.ref a_FLOAT), .val (.int (4 : Int32))] [(.int (4 : Int32))])) _
            refine XS.iload X82.here hx rfl (hb hby at_143) rfl ?_
            show Steps p.tables e below (T82.setTop (mkF m 145 #[.val (.int p0), .val (.int p1), .val (.int ((p0 &&& (2147483647 : Int32)) - ((p0 &&& (2147483647 : Int32)) / (9 : Int32)) * (9 : Int32))), .val (.ref a_FLOAT), .val (.int (4 : Int32))] [(.int (4 : Int32)), (.int (4 : Int32))])) _
            refine XS.icmpNo X82.here hx rfl (hb hby at_145) rfl (XT.ii_ne_f (by decide)) ?_
            show Steps p.tables e below (T82.setTop (mkF m 148 #[.val (.int p0), .val (.int p1), .val (.int ((p0 &&& (2147483647 : Int32)) - ((p0 &&& (2147483647 : Int32)) / (9 : Int32)) * (9 : Int32))), .val (.ref a_FLOAT), .val (.int (4 : Int32))] [])) _
            refine XS.iconst X82.here hx rfl (hb hby at_148) ?_
            show Steps p.tables e below (T82.setTop (mkF m 149 #[.val (.int p0), .val (.int p1), .val (.int ((p0 &&& (2147483647 : Int32)) - ((p0 &&& (2147483647 : Int32)) / (9 : Int32)) * (9 : Int32))), .val (.ref a_FLOAT), .val (.int (4 : Int32))] [(.int (1 : Int32))])) _
            refine XS.goto X82.here hx rfl (pc0 := 149) (pc' := 153) rfl (hb hby at_149) (by decide) (by decide) ?_
            exact kt
          obtain ⟨fs, hr, hrun, hended, hW, hsame⟩ := X82.leave (v := some (.int (1 : Int32))) (fun h => by rw [Bd.returns] at h; cases h)
          refine ⟨_, _, pre102 _ (retN X82 hx (t := .boolean) Bd.returns (by simp) (hb hby at_153) hr), hrun, hended, _, _, rfl, ?_, ⟨_, rfl⟩, hW, hsame.mono (by decide) (by decide)⟩
          show Q_law Z p0 p1 a_OBJECT a_BYTE a_DOUBLE a_BOOLEAN a_SHORT a_LONG a_FLOAT a_CHAR a_INT h0 n0 _ T82.heap _
          rw [e82]
          exact ⟨rfl, N82⟩
        · have pre103 : ∀ t, Steps p.tables e below (s₁.setTop (mkF m 69 #[.val (.int p0), .val (.int p1), .val (.int ((p0 &&& (2147483647 : Int32)) - ((p0 &&& (2147483647 : Int32)) / (9 : Int32)) * (9 : Int32))), .unset, .unset] [(.int (4 : Int32)), (.int ((p0 &&& (2147483647 : Int32)) - ((p0 &&& (2147483647 : Int32)) / (9 : Int32)) * (9 : Int32)))])) t → Steps p.tables e below (s₁.setTop (entryFrame m #[(.int p0), (.int p1)] maxLocals)) t := fun t kt => by
            refine pre76 _ ?_
            show Steps p.tables e below (s₁.setTop (mkF m 54 #[.val (.int p0), .val (.int p1), .val (.int ((p0 &&& (2147483647 : Int32)) - ((p0 &&& (2147483647 : Int32)) / (9 : Int32)) * (9 : Int32))), .unset, .unset] [(.int (3 : Int32)), (.int ((p0 &&& (2147483647 : Int32)) - ((p0 &&& (2147483647 : Int32)) / (9 : Int32)) * (9 : Int32)))])) _
            refine XS.icmpYes X0.here hx rfl (pc0 := 54) (pc' := 67) rfl (hb hby at_54) rfl (XT.ii_ne_t hc77) (by decide) (by decide) ?_
            show Steps p.tables e below (s₁.setTop (mkF m 67 #[.val (.int p0), .val (.int p1), .val (.int ((p0 &&& (2147483647 : Int32)) - ((p0 &&& (2147483647 : Int32)) / (9 : Int32)) * (9 : Int32))), .unset, .unset] [])) _
            refine XS.iloadN X0.here hx rfl (hb hby at_67) rfl ?_
            show Steps p.tables e below (s₁.setTop (mkF m 68 #[.val (.int p0), .val (.int p1), .val (.int ((p0 &&& (2147483647 : Int32)) - ((p0 &&& (2147483647 : Int32)) / (9 : Int32)) * (9 : Int32))), .unset, .unset] [(.int ((p0 &&& (2147483647 : Int32)) - ((p0 &&& (2147483647 : Int32)) / (9 : Int32)) * (9 : Int32)))])) _
            refine XS.iconst X0.here hx rfl (hb hby at_68) ?_
            exact kt
          by_cases hc104 : ((p0 &&& (2147483647 : Int32)) - ((p0 &&& (2147483647 : Int32)) / (9 : Int32)) * (9 : Int32)) = (4 : Int32)
          · have pre105 : ∀ t, Steps p.tables e below (s₁.setTop (mkF m 72 #[.val (.int p0), .val (.int p1), .val (.int ((p0 &&& (2147483647 : Int32)) - ((p0 &&& (2147483647 : Int32)) / (9 : Int32)) * (9 : Int32))), .unset, .unset] [])) t → Steps p.tables e below (s₁.setTop (entryFrame m #[(.int p0), (.int p1)] maxLocals)) t := fun t kt => by
              refine pre103 _ ?_
              show Steps p.tables e below (s₁.setTop (mkF m 69 #[.val (.int p0), .val (.int p1), .val (.int ((p0 &&& (2147483647 : Int32)) - ((p0 &&& (2147483647 : Int32)) / (9 : Int32)) * (9 : Int32))), .unset, .unset] [(.int (4 : Int32)), (.int ((p0 &&& (2147483647 : Int32)) - ((p0 &&& (2147483647 : Int32)) / (9 : Int32)) * (9 : Int32)))])) _
              refine XS.icmpNo X0.here hx rfl (hb hby at_69) rfl (XT.ii_ne_f hc104) ?_
              exact kt
            obtain ⟨T106, X106, e106, st106⟩ := getS2 X0 hx hZ hown (host := "") (Or.inl (hw _ (List.mem_of_getElem? (i := 14) rfl))) Via.refl e0 (G4.ext O0.2) (g := (mkF m 72 #[.val (.int p0), .val (.int p1), .val (.int ((p0 &&& (2147483647 : Int32)) - ((p0 &&& (2147483647 : Int32)) / (9 : Int32)) * (9 : Int32))), .unset, .unset] [])) rfl (hb hby at_72)
            have pre107 : ∀ t, Steps p.tables e below (T106.setTop (mkF m 75 #[.val (.int p0), .val (.int p1), .val (.int ((p0 &&& (2147483647 : Int32)) - ((p0 &&& (2147483647 : Int32)) / (9 : Int32)) * (9 : Int32))), .unset, .unset] [(.ref a_DOUBLE)])) t → Steps p.tables e below (s₁.setTop (entryFrame m #[(.int p0), (.int p1)] maxLocals)) t := fun t kt => pre105 _ (st106 _ kt)
            have pre108 : ∀ t, Steps p.tables e below (T106.setTop (mkF m 140 #[.val (.int p0), .val (.int p1), .val (.int ((p0 &&& (2147483647 : Int32)) - ((p0 &&& (2147483647 : Int32)) / (9 : Int32)) * (9 : Int32))), .val (.ref a_DOUBLE), .val (.int (8 : Int32))] [(.int p1), (.ref a_DOUBLE)])) t → Steps p.tables e below (s₁.setTop (entryFrame m #[(.int p0), (.int p1)] maxLocals)) t := fun t kt => by
              refine pre107 _ ?_
              show Steps p.tables e below (T106.setTop (mkF m 75 #[.val (.int p0), .val (.int p1), .val (.int ((p0 &&& (2147483647 : Int32)) - ((p0 &&& (2147483647 : Int32)) / (9 : Int32)) * (9 : Int32))), .unset, .unset] [(.ref a_DOUBLE)])) _
              refine XS.astoreN X106.here hx rfl (hb hby at_75) rfl rfl (l' := #[.val (.int p0), .val (.int p1), .val (.int ((p0 &&& (2147483647 : Int32)) - ((p0 &&& (2147483647 : Int32)) / (9 : Int32)) * (9 : Int32))), .val (.ref a_DOUBLE), .unset]) rfl ?_
              show Steps p.tables e below (T106.setTop (mkF m 76 #[.val (.int p0), .val (.int p1), .val (.int ((p0 &&& (2147483647 : Int32)) - ((p0 &&& (2147483647 : Int32)) / (9 : Int32)) * (9 : Int32))), .val (.ref a_DOUBLE), .unset] [])) _
              refine XS.bipush X106.here hx rfl (hb hby at_76) ?_
              show Steps p.tables e below (T106.setTop (mkF m 78 #[.val (.int p0), .val (.int p1), .val (.int ((p0 &&& (2147483647 : Int32)) - ((p0 &&& (2147483647 : Int32)) / (9 : Int32)) * (9 : Int32))), .val (.ref a_DOUBLE), .unset] [(.int (8 : Int32))])) _
              refine XS.istore X106.here hx rfl (hb hby at_78) rfl (l' := #[.val (.int p0), .val (.int p1), .val (.int ((p0 &&& (2147483647 : Int32)) - ((p0 &&& (2147483647 : Int32)) / (9 : Int32)) * (9 : Int32))), .val (.ref a_DOUBLE), .val (.int (8 : Int32))]) rfl ?_
              show Steps p.tables e below (T106.setTop (mkF m 80 #[.val (.int p0), .val (.int p1), .val (.int ((p0 &&& (2147483647 : Int32)) - ((p0 &&& (2147483647 : Int32)) / (9 : Int32)) * (9 : Int32))), .val (.ref a_DOUBLE), .val (.int (8 : Int32))] [])) _
              refine XS.goto X106.here hx rfl (pc0 := 80) (pc' := 138) rfl (hb hby at_80) (by decide) (by decide) ?_
              show Steps p.tables e below (T106.setTop (mkF m 138 #[.val (.int p0), .val (.int p1), .val (.int ((p0 &&& (2147483647 : Int32)) - ((p0 &&& (2147483647 : Int32)) / (9 : Int32)) * (9 : Int32))), .val (.ref a_DOUBLE), .val (.int (8 : Int32))] [])) _
              refine XS.aloadN X106.here hx rfl (hb hby at_138) rfl rfl ?_
              show Steps p.tables e below (T106.setTop (mkF m 139 #[.val (.int p0), .val (.int p1), .val (.int ((p0 &&& (2147483647 : Int32)) - ((p0 &&& (2147483647 : Int32)) / (9 : Int32)) * (9 : Int32))), .val (.ref a_DOUBLE), .val (.int (8 : Int32))] [(.ref a_DOUBLE)])) _
              refine XS.iloadN X106.here hx rfl (hb hby at_139) rfl ?_
              exact kt
            obtain ⟨cq109, kq109, q109a, q109b, q109c⟩ := isOf hZ e106 (G5.ext O0.2)
            obtain ⟨_, _, ⟨T109, L109, k109, n109⟩, -, X109, ⟨Lc109, hQ109, l109, y109, z109⟩, st109⟩ := X106.virtualBack hx (y := (⟨"org/reachwatch/BasicType", "size", "(I)I"⟩ : MethodName)) (z := (⟨"org/reachwatch/BasicType", "size", "(I)I"⟩ : MethodName)) hown (mvT hZ (hw _ (List.mem_of_getElem? (i := 4) rfl))) (mvT hZ (hw _ (List.mem_of_getElem? (i := 5) rfl))) (notFace_of_selects (args := #[]) (mvT hZ (hw _ (List.mem_of_getElem? (i := 7) rfl)))) (mvT hZ (hw _ (List.mem_of_getElem? (i := 7) rfl))) (mvT hZ (hw _ (List.mem_of_getElem? (i := 6) rfl))) (by decide) (backOf (W := 0) (rm_size1_4 l Z a0 hw [] a_DOUBLE p1 a_OBJECT h0 n0 O0 G0 G22 (fun q => ne_a_OBJECT_a_DOUBLE q.symm)) hZ (hw _ (List.mem_of_getElem? (i := 8) rfl)) (hw _ (List.mem_of_getElem? (i := 2) rfl)) (by decide) (by decide)) q109a q109c (g := (mkF m 140 #[.val (.int p0), .val (.int p1), .val (.int ((p0 &&& (2147483647 : Int32)) - ((p0 &&& (2147483647 : Int32)) / (9 : Int32)) * (9 : Int32))), .val (.ref a_DOUBLE), .val (.int (8 : Int32))] [(.int p1), (.ref a_DOUBLE)])) rfl (by rw [hml]; rfl) (Steps.refl _) (argsL := [(.int p1)]) (rest := []) (lenOf pd_4 rfl) rfl (by show 2 * 0 + _ ≤ _; exact Nat.le_of_eq rfl) (hb hby at_140) (fun _ _ => ⟨rfl, e106, (by decide : 0 + 0 ≤ _), (by decide : 0 + 0 ≤ _)⟩)
            dsimp only [Pt.U, Pt.locs, Pt.cells, Pt.slots] at X109 l109 y109 z109 st109 hQ109
            subst l109 y109 z109
            obtain ⟨rfl, M109, e109⟩ := hQ109
            have N109 := Fr.app N0 M109
            have pre128 : ∀ t, Steps p.tables e below (T109.setTop (mkF m 143 #[.val (.int p0), .val (.int p1), .val (.int ((p0 &&& (2147483647 : Int32)) - ((p0 &&& (2147483647 : Int32)) / (9 : Int32)) * (9 : Int32))), .val (.ref a_DOUBLE), .val (.int (8 : Int32))] [(.int (8 : Int32))])) t → Steps p.tables e below (s₁.setTop (entryFrame m #[(.int p0), (.int p1)] maxLocals)) t := fun t kt => pre108 _ (st109.trans kt)
            have pre129 : ∀ t, Steps p.tables e below (T109.setTop (mkF m 153 #[.val (.int p0), .val (.int p1), .val (.int ((p0 &&& (2147483647 : Int32)) - ((p0 &&& (2147483647 : Int32)) / (9 : Int32)) * (9 : Int32))), .val (.ref a_DOUBLE), .val (.int (8 : Int32))] [(.int (1 : Int32))])) t → Steps p.tables e below (s₁.setTop (entryFrame m #[(.int p0), (.int p1)] maxLocals)) t := fun t kt => by
              refine pre128 _ ?_
              show Steps p.tables e below (T109.setTop (mkF m 143 #[.val (.int p0), .val (.int p1), .val (.int ((p0 &&& (2147483647 : Int32)) - ((p0 &&& (2147483647 : Int32)) / (9 : Int32)) * (9 : Int32))), .val (.ref a_DOUBLE), .val (.int (8 : Int32))] [(.int (8 : Int32))])) _
              refine XS.iload X109.here hx rfl (hb hby at_143) rfl ?_
              show Steps p.tables e below (T109.setTop (mkF m 145 #[.val (.int p0), .val (.int p1), .val (.int ((p0 &&& (2147483647 : Int32)) - ((p0 &&& (2147483647 : Int32)) / (9 : Int32)) * (9 : Int32))), .val (.ref a_DOUBLE), .val (.int (8 : Int32))] [(.int (8 : Int32)), (.int (8 : Int32))])) _
              refine XS.icmpNo X109.here hx rfl (hb hby at_145) rfl (XT.ii_ne_f (by decide)) ?_
              show Steps p.tables e below (T109.setTop (mkF m 148 #[.val (.int p0), .val (.int p1), .val (.int ((p0 &&& (2147483647 : Int32)) - ((p0 &&& (2147483647 : Int32)) / (9 : Int32)) * (9 : Int32))), .val (.ref a_DOUBLE), .val (.int (8 : Int32))] [])) _
              refine XS.iconst X109.here hx rfl (hb hby at_148) ?_
              show Steps p.tables e below (T109.setTop (mkF m 149 #[.val (.int p0), .val (.int p1), .val (.int ((p0 &&& (2147483647 : Int32)) - ((p0 &&& (2147483647 : Int32)) / (9 : Int32)) * (9 : Int32))), .val (.ref a_DOUBLE), .val (.int (8 : Int32))] [(.int (1 : Int32))])) _
              refine XS.goto X109.here hx rfl (pc0 := 149) (pc' := 153) rfl (hb hby at_149) (by decide) (by decide) ?_
              exact kt
            obtain ⟨fs, hr, hrun, hended, hW, hsame⟩ := X109.leave (v := some (.int (1 : Int32))) (fun h => by rw [Bd.returns] at h; cases h)
            refine ⟨_, _, pre129 _ (retN X109 hx (t := .boolean) Bd.returns (by simp) (hb hby at_153) hr), hrun, hended, _, _, rfl, ?_, ⟨_, rfl⟩, hW, hsame.mono (by decide) (by decide)⟩
            show Q_law Z p0 p1 a_OBJECT a_BYTE a_DOUBLE a_BOOLEAN a_SHORT a_LONG a_FLOAT a_CHAR a_INT h0 n0 _ T109.heap _
            rw [e109]
            exact ⟨rfl, N109⟩
          · have pre130 : ∀ t, Steps p.tables e below (s₁.setTop (mkF m 85 #[.val (.int p0), .val (.int p1), .val (.int ((p0 &&& (2147483647 : Int32)) - ((p0 &&& (2147483647 : Int32)) / (9 : Int32)) * (9 : Int32))), .unset, .unset] [(.int (5 : Int32)), (.int ((p0 &&& (2147483647 : Int32)) - ((p0 &&& (2147483647 : Int32)) / (9 : Int32)) * (9 : Int32)))])) t → Steps p.tables e below (s₁.setTop (entryFrame m #[(.int p0), (.int p1)] maxLocals)) t := fun t kt => by
              refine pre103 _ ?_
              show Steps p.tables e below (s₁.setTop (mkF m 69 #[.val (.int p0), .val (.int p1), .val (.int ((p0 &&& (2147483647 : Int32)) - ((p0 &&& (2147483647 : Int32)) / (9 : Int32)) * (9 : Int32))), .unset, .unset] [(.int (4 : Int32)), (.int ((p0 &&& (2147483647 : Int32)) - ((p0 &&& (2147483647 : Int32)) / (9 : Int32)) * (9 : Int32)))])) _
              refine XS.icmpYes X0.here hx rfl (pc0 := 69) (pc' := 83) rfl (hb hby at_69) rfl (XT.ii_ne_t hc104) (by decide) (by decide) ?_
              show Steps p.tables e below (s₁.setTop (mkF m 83 #[.val (.int p0), .val (.int p1), .val (.int ((p0 &&& (2147483647 : Int32)) - ((p0 &&& (2147483647 : Int32)) / (9 : Int32)) * (9 : Int32))), .unset, .unset] [])) _
              refine XS.iloadN X0.here hx rfl (hb hby at_83) rfl ?_
              show Steps p.tables e below (s₁.setTop (mkF m 84 #[.val (.int p0), .val (.int p1), .val (.int ((p0 &&& (2147483647 : Int32)) - ((p0 &&& (2147483647 : Int32)) / (9 : Int32)) * (9 : Int32))), .unset, .unset] [(.int ((p0 &&& (2147483647 : Int32)) - ((p0 &&& (2147483647 : Int32)) / (9 : Int32)) * (9 : Int32)))])) _
              refine XS.iconst X0.here hx rfl (hb hby at_84) ?_
              exact kt
            by_cases hc131 : ((p0 &&& (2147483647 : Int32)) - ((p0 &&& (2147483647 : Int32)) / (9 : Int32)) * (9 : Int32)) = (5 : Int32)
            · have pre132 : ∀ t, Steps p.tables e below (s₁.setTop (mkF m 88 #[.val (.int p0), .val (.int p1), .val (.int ((p0 &&& (2147483647 : Int32)) - ((p0 &&& (2147483647 : Int32)) / (9 : Int32)) * (9 : Int32))), .unset, .unset] [])) t → Steps p.tables e below (s₁.setTop (entryFrame m #[(.int p0), (.int p1)] maxLocals)) t := fun t kt => by
                refine pre130 _ ?_
                show Steps p.tables e below (s₁.setTop (mkF m 85 #[.val (.int p0), .val (.int p1), .val (.int ((p0 &&& (2147483647 : Int32)) - ((p0 &&& (2147483647 : Int32)) / (9 : Int32)) * (9 : Int32))), .unset, .unset] [(.int (5 : Int32)), (.int ((p0 &&& (2147483647 : Int32)) - ((p0 &&& (2147483647 : Int32)) / (9 : Int32)) * (9 : Int32)))])) _
                refine XS.icmpNo X0.here hx rfl (hb hby at_85) rfl (XT.ii_ne_f hc131) ?_
                exact kt
              obtain ⟨T133, X133, e133, st133⟩ := getS2 X0 hx hZ hown (host := "") (Or.inl (hw _ (List.mem_of_getElem? (i := 10) rfl))) Via.refl e0 (G2.ext O0.2) (g := (mkF m 88 #[.val (.int p0), .val (.int p1), .val (.int ((p0 &&& (2147483647 : Int32)) - ((p0 &&& (2147483647 : Int32)) / (9 : Int32)) * (9 : Int32))), .unset, .unset] [])) rfl (hb hby at_88)
              have pre134 : ∀ t, Steps p.tables e below (T133.setTop (mkF m 91 #[.val (.int p0), .val (.int p1), .val (.int ((p0 &&& (2147483647 : Int32)) - ((p0 &&& (2147483647 : Int32)) / (9 : Int32)) * (9 : Int32))), .unset, .unset] [(.ref a_BYTE)])) t → Steps p.tables e below (s₁.setTop (entryFrame m #[(.int p0), (.int p1)] maxLocals)) t := fun t kt => pre132 _ (st133 _ kt)
              have pre135 : ∀ t, Steps p.tables e below (T133.setTop (mkF m 140 #[.val (.int p0), .val (.int p1), .val (.int ((p0 &&& (2147483647 : Int32)) - ((p0 &&& (2147483647 : Int32)) / (9 : Int32)) * (9 : Int32))), .val (.ref a_BYTE), .val (.int (1 : Int32))] [(.int p1), (.ref a_BYTE)])) t → Steps p.tables e below (s₁.setTop (entryFrame m #[(.int p0), (.int p1)] maxLocals)) t := fun t kt => by
                refine pre134 _ ?_
                show Steps p.tables e below (T133.setTop (mkF m 91 #[.val (.int p0), .val (.int p1), .val (.int ((p0 &&& (2147483647 : Int32)) - ((p0 &&& (2147483647 : Int32)) / (9 : Int32)) * (9 : Int32))), .unset, .unset] [(.ref a_BYTE)])) _
                refine XS.astoreN X133.here hx rfl (hb hby at_91) rfl rfl (l' := #[.val (.int p0), .val (.int p1), .val (.int ((p0 &&& (2147483647 : Int32)) - ((p0 &&& (2147483647 : Int32)) / (9 : Int32)) * (9 : Int32))), .val (.ref a_BYTE), .unset]) rfl ?_
                show Steps p.tables e below (T133.setTop (mkF m 92 #[.val (.int p0), .val (.int p1), .val (.int ((p0 &&& (2147483647 : Int32)) - ((p0 &&& (2147483647 : Int32)) / (9 : Int32)) * (9 : Int32))), .val (.ref a_BYTE), .unset] [])) _
                refine XS.iconst X133.here hx rfl (hb hby at_92) ?_
                show Steps p.tables e below (T133.setTop (mkF m 93 #[.val (.int p0), .val (.int p1), .val (.int ((p0 &&& (2147483647 : Int32)) - ((p0 &&& (2147483647 : Int32)) / (9 : Int32)) * (9 : Int32))), .val (.ref a_BYTE), .unset] [(.int (1 : Int32))])) _
                refine XS.istore X133.here hx rfl (hb hby at_93) rfl (l' := #[.val (.int p0), .val (.int p1), .val (.int ((p0 &&& (2147483647 : Int32)) - ((p0 &&& (2147483647 : Int32)) / (9 : Int32)) * (9 : Int32))), .val (.ref a_BYTE), .val (.int (1 : Int32))]) rfl ?_
                show Steps p.tables e below (T133.setTop (mkF m 95 #[.val (.int p0), .val (.int p1), .val (.int ((p0 &&& (2147483647 : Int32)) - ((p0 &&& (2147483647 : Int32)) / (9 : Int32)) * (9 : Int32))), .val (.ref a_BYTE), .val (.int (1 : Int32))] [])) _
                refine XS.goto X133.here hx rfl (pc0 := 95) (pc' := 138) rfl (hb hby at_95) (by decide) (by decide) ?_
                show Steps p.tables e below (T133.setTop (mkF m 138 #[.val (.int p0), .val (.int p1), .val (.int ((p0 &&& (2147483647 : Int32)) - ((p0 &&& (2147483647 : Int32)) / (9 : Int32)) * (9 : Int32))), .val (.ref a_BYTE), .val (.int (1 : Int32))] [])) _
                refine XS.aloadN X133.here hx rfl (hb hby at_138) rfl rfl ?_
                show Steps p.tables e below (T133.setTop (mkF m 139 #[.val (.int p0), .val (.int p1), .val (.int ((p0 &&& (2147483647 : Int32)) - ((p0 &&& (2147483647 : Int32)) / (9 : Int32)) * (9 : Int32))), .val (.ref a_BYTE), .val (.int (1 : Int32))] [(.ref a_BYTE)])) _
                refine XS.iloadN X133.here hx rfl (hb hby at_139) rfl ?_
                exact kt
              obtain ⟨cq136, kq136, q136a, q136b, q136c⟩ := isOf hZ e133 (G3.ext O0.2)
              obtain ⟨_, _, ⟨T136, L136, k136, n136⟩, -, X136, ⟨Lc136, hQ136, l136, y136, z136⟩, st136⟩ := X133.virtualBack hx (y := (⟨"org/reachwatch/BasicType", "size", "(I)I"⟩ : MethodName)) (z := (⟨"org/reachwatch/BasicType", "size", "(I)I"⟩ : MethodName)) hown (mvT hZ (hw _ (List.mem_of_getElem? (i := 4) rfl))) (mvT hZ (hw _ (List.mem_of_getElem? (i := 5) rfl))) (notFace_of_selects (args := #[]) (mvT hZ (hw _ (List.mem_of_getElem? (i := 7) rfl)))) (mvT hZ (hw _ (List.mem_of_getElem? (i := 7) rfl))) (mvT hZ (hw _ (List.mem_of_getElem? (i := 6) rfl))) (by decide) (backOf (W := 0) (rm_size1_1 l Z a0 hw [] a_BYTE p1 a_OBJECT h0 n0 O0 G0 G20 ne_a_BYTE_a_OBJECT) hZ (hw _ (List.mem_of_getElem? (i := 8) rfl)) (hw _ (List.mem_of_getElem? (i := 2) rfl)) (by decide) (by decide)) q136a q136c (g := (mkF m 140 #[.val (.int p0), .val (.int p1), .val (.int ((p0 &&& (2147483647 : Int32)) - ((p0 &&& (2147483647 : Int32)) / (9 : Int32)) * (9 : Int32))), .val (.ref a_BYTE), .val (.int (1 : Int32))] [(.int p1), (.ref a_BYTE)])) rfl (by rw [hml]; rfl) (Steps.refl _) (argsL := [(.int p1)]) (rest := []) (lenOf pd_4 rfl) rfl (by show 2 * 0 + _ ≤ _; exact Nat.le_of_eq rfl) (hb hby at_140) (fun _ _ => ⟨rfl, e133, (by decide : 0 + 0 ≤ _), (by decide : 0 + 0 ≤ _)⟩)
              dsimp only [Pt.U, Pt.locs, Pt.cells, Pt.slots] at X136 l136 y136 z136 st136 hQ136
              subst l136 y136 z136
              obtain ⟨rfl, M136, e136⟩ := hQ136
              have N136 := Fr.app N0 M136
              have pre137 : ∀ t, Steps p.tables e below (T136.setTop (mkF m 143 #[.val (.int p0), .val (.int p1), .val (.int ((p0 &&& (2147483647 : Int32)) - ((p0 &&& (2147483647 : Int32)) / (9 : Int32)) * (9 : Int32))), .val (.ref a_BYTE), .val (.int (1 : Int32))] [(.int (1 : Int32))])) t → Steps p.tables e below (s₁.setTop (entryFrame m #[(.int p0), (.int p1)] maxLocals)) t := fun t kt => pre135 _ (st136.trans kt)
              have pre138 : ∀ t, Steps p.tables e below (T136.setTop (mkF m 153 #[.val (.int p0), .val (.int p1), .val (.int ((p0 &&& (2147483647 : Int32)) - ((p0 &&& (2147483647 : Int32)) / (9 : Int32)) * (9 : Int32))), .val (.ref a_BYTE), .val (.int (1 : Int32))] [(.int (1 : Int32))])) t → Steps p.tables e below (s₁.setTop (entryFrame m #[(.int p0), (.int p1)] maxLocals)) t := fun t kt => by
                refine pre137 _ ?_
                show Steps p.tables e below (T136.setTop (mkF m 143 #[.val (.int p0), .val (.int p1), .val (.int ((p0 &&& (2147483647 : Int32)) - ((p0 &&& (2147483647 : Int32)) / (9 : Int32)) * (9 : Int32))), .val (.ref a_BYTE), .val (.int (1 : Int32))] [(.int (1 : Int32))])) _
                refine XS.iload X136.here hx rfl (hb hby at_143) rfl ?_
                show Steps p.tables e below (T136.setTop (mkF m 145 #[.val (.int p0), .val (.int p1), .val (.int ((p0 &&& (2147483647 : Int32)) - ((p0 &&& (2147483647 : Int32)) / (9 : Int32)) * (9 : Int32))), .val (.ref a_BYTE), .val (.int (1 : Int32))] [(.int (1 : Int32)), (.int (1 : Int32))])) _
                refine XS.icmpNo X136.here hx rfl (hb hby at_145) rfl (XT.ii_ne_f (by decide)) ?_
                show Steps p.tables e below (T136.setTop (mkF m 148 #[.val (.int p0), .val (.int p1), .val (.int ((p0 &&& (2147483647 : Int32)) - ((p0 &&& (2147483647 : Int32)) / (9 : Int32)) * (9 : Int32))), .val (.ref a_BYTE), .val (.int (1 : Int32))] [])) _
                refine XS.iconst X136.here hx rfl (hb hby at_148) ?_
                show Steps p.tables e below (T136.setTop (mkF m 149 #[.val (.int p0), .val (.int p1), .val (.int ((p0 &&& (2147483647 : Int32)) - ((p0 &&& (2147483647 : Int32)) / (9 : Int32)) * (9 : Int32))), .val (.ref a_BYTE), .val (.int (1 : Int32))] [(.int (1 : Int32))])) _
                refine XS.goto X136.here hx rfl (pc0 := 149) (pc' := 153) rfl (hb hby at_149) (by decide) (by decide) ?_
                exact kt
              obtain ⟨fs, hr, hrun, hended, hW, hsame⟩ := X136.leave (v := some (.int (1 : Int32))) (fun h => by rw [Bd.returns] at h; cases h)
              refine ⟨_, _, pre138 _ (retN X136 hx (t := .boolean) Bd.returns (by simp) (hb hby at_153) hr), hrun, hended, _, _, rfl, ?_, ⟨_, rfl⟩, hW, hsame.mono (by decide) (by decide)⟩
              show Q_law Z p0 p1 a_OBJECT a_BYTE a_DOUBLE a_BOOLEAN a_SHORT a_LONG a_FLOAT a_CHAR a_INT h0 n0 _ T136.heap _
              rw [e136]
              exact ⟨rfl, N136⟩
            · have pre139 : ∀ t, Steps p.tables e below (s₁.setTop (mkF m 101 #[.val (.int p0), .val (.int p1), .val (.int ((p0 &&& (2147483647 : Int32)) - ((p0 &&& (2147483647 : Int32)) / (9 : Int32)) * (9 : Int32))), .unset, .unset] [(.int (6 : Int32)), (.int ((p0 &&& (2147483647 : Int32)) - ((p0 &&& (2147483647 : Int32)) / (9 : Int32)) * (9 : Int32)))])) t → Steps p.tables e below (s₁.setTop (entryFrame m #[(.int p0), (.int p1)] maxLocals)) t := fun t kt => by
                refine pre130 _ ?_
                show Steps p.tables e below (s₁.setTop (mkF m 85 #[.val (.int p0), .val (.int p1), .val (.int ((p0 &&& (2147483647 : Int32)) - ((p0 &&& (2147483647 : Int32)) / (9 : Int32)) * (9 : Int32))), .unset, .unset] [(.int (5 : Int32)), (.int ((p0 &&& (2147483647 : Int32)) - ((p0 &&& (2147483647 : Int32)) / (9 : Int32)) * (9 : Int32)))])) _
                refine XS.icmpYes X0.here hx rfl (pc0 := 85) (pc' := 98) rfl (hb hby at_85) rfl (XT.ii_ne_t hc131) (by decide) (by decide) ?_
                show Steps p.tables e below (s₁.setTop (mkF m 98 #[.val (.int p0), .val (.int p1), .val (.int ((p0 &&& (2147483647 : Int32)) - ((p0 &&& (2147483647 : Int32)) / (9 : Int32)) * (9 : Int32))), .unset, .unset] [])) _
                refine XS.iloadN X0.here hx rfl (hb hby at_98) rfl ?_
                show Steps p.tables e below (s₁.setTop (mkF m 99 #[.val (.int p0), .val (.int p1), .val (.int ((p0 &&& (2147483647 : Int32)) - ((p0 &&& (2147483647 : Int32)) / (9 : Int32)) * (9 : Int32))), .unset, .unset] [(.int ((p0 &&& (2147483647 : Int32)) - ((p0 &&& (2147483647 : Int32)) / (9 : Int32)) * (9 : Int32)))])) _
                refine XS.bipush X0.here hx rfl (hb hby at_99) ?_
                exact kt
              by_cases hc140 : ((p0 &&& (2147483647 : Int32)) - ((p0 &&& (2147483647 : Int32)) / (9 : Int32)) * (9 : Int32)) = (6 : Int32)
              · have pre141 : ∀ t, Steps p.tables e below (s₁.setTop (mkF m 104 #[.val (.int p0), .val (.int p1), .val (.int ((p0 &&& (2147483647 : Int32)) - ((p0 &&& (2147483647 : Int32)) / (9 : Int32)) * (9 : Int32))), .unset, .unset] [])) t → Steps p.tables e below (s₁.setTop (entryFrame m #[(.int p0), (.int p1)] maxLocals)) t := fun t kt => by
                  refine pre139 _ ?_
                  show Steps p.tables e below (s₁.setTop (mkF m 101 #[.val (.int p0), .val (.int p1), .val (.int ((p0 &&& (2147483647 : Int32)) - ((p0 &&& (2147483647 : Int32)) / (9 : Int32)) * (9 : Int32))), .unset, .unset] [(.int (6 : Int32)), (.int ((p0 &&& (2147483647 : Int32)) - ((p0 &&& (2147483647 : Int32)) / (9 : Int32)) * (9 : Int32)))])) _
                  refine XS.icmpNo X0.here hx rfl (hb hby at_101) rfl (XT.ii_ne_f hc140) ?_
                  exact kt
                obtain ⟨T142, X142, e142, st142⟩ := getS2 X0 hx hZ hown (host := "") (Or.inl (hw _ (List.mem_of_getElem? (i := 18) rfl))) Via.refl e0 (G8.ext O0.2) (g := (mkF m 104 #[.val (.int p0), .val (.int p1), .val (.int ((p0 &&& (2147483647 : Int32)) - ((p0 &&& (2147483647 : Int32)) / (9 : Int32)) * (9 : Int32))), .unset, .unset] [])) rfl (hb hby at_104)
                have pre143 : ∀ t, Steps p.tables e below (T142.setTop (mkF m 107 #[.val (.int p0), .val (.int p1), .val (.int ((p0 &&& (2147483647 : Int32)) - ((p0 &&& (2147483647 : Int32)) / (9 : Int32)) * (9 : Int32))), .unset, .unset] [(.ref a_SHORT)])) t → Steps p.tables e below (s₁.setTop (entryFrame m #[(.int p0), (.int p1)] maxLocals)) t := fun t kt => pre141 _ (st142 _ kt)
                have pre144 : ∀ t, Steps p.tables e below (T142.setTop (mkF m 140 #[.val (.int p0), .val (.int p1), .val (.int ((p0 &&& (2147483647 : Int32)) - ((p0 &&& (2147483647 : Int32)) / (9 : Int32)) * (9 : Int32))), .val (.ref a_SHORT), .val (.int (2 : Int32))] [(.int p1), (.ref a_SHORT)])) t → Steps p.tables e below (s₁.setTop (entryFrame m #[(.int p0), (.int p1)] maxLocals)) t := fun t kt => by
                  refine pre143 _ ?_
                  show Steps p.tables e below (T142.setTop (mkF m 107 #[.val (.int p0), .val (.int p1), .val (.int ((p0 &&& (2147483647 : Int32)) - ((p0 &&& (2147483647 : Int32)) / (9 : Int32)) * (9 : Int32))), .unset, .unset] [(.ref a_SHORT)])) _
                  refine XS.astoreN X142.here hx rfl (hb hby at_107) rfl rfl (l' := #[.val (.int p0), .val (.int p1), .val (.int ((p0 &&& (2147483647 : Int32)) - ((p0 &&& (2147483647 : Int32)) / (9 : Int32)) * (9 : Int32))), .val (.ref a_SHORT), .unset]) rfl ?_
                  show Steps p.tables e below (T142.setTop (mkF m 108 #[.val (.int p0), .val (.int p1), .val (.int ((p0 &&& (2147483647 : Int32)) - ((p0 &&& (2147483647 : Int32)) / (9 : Int32)) * (9 : Int32))), .val (.ref a_SHORT), .unset] [])) _
                  refine XS.iconst X142.here hx rfl (hb hby at_108) ?_
                  show Steps p.tables e below (T142.setTop (mkF m 109 #[.val (.int p0), .val (.int p1), .val (.int ((p0 &&& (2147483647 : Int32)) - ((p0 &&& (2147483647 : Int32)) / (9 : Int32)) * (9 : Int32))), .val (.ref a_SHORT), .unset] [(.int (2 : Int32))])) _
                  refine XS.istore X142.here hx rfl (hb hby at_109) rfl (l' := #[.val (.int p0), .val (.int p1), .val (.int ((p0 &&& (2147483647 : Int32)) - ((p0 &&& (2147483647 : Int32)) / (9 : Int32)) * (9 : Int32))), .val (.ref a_SHORT), .val (.int (2 : Int32))]) rfl ?_
                  show Steps p.tables e below (T142.setTop (mkF m 111 #[.val (.int p0), .val (.int p1), .val (.int ((p0 &&& (2147483647 : Int32)) - ((p0 &&& (2147483647 : Int32)) / (9 : Int32)) * (9 : Int32))), .val (.ref a_SHORT), .val (.int (2 : Int32))] [])) _
                  refine XS.goto X142.here hx rfl (pc0 := 111) (pc' := 138) rfl (hb hby at_111) (by decide) (by decide) ?_
                  show Steps p.tables e below (T142.setTop (mkF m 138 #[.val (.int p0), .val (.int p1), .val (.int ((p0 &&& (2147483647 : Int32)) - ((p0 &&& (2147483647 : Int32)) / (9 : Int32)) * (9 : Int32))), .val (.ref a_SHORT), .val (.int (2 : Int32))] [])) _
                  refine XS.aloadN X142.here hx rfl (hb hby at_138) rfl rfl ?_
                  show Steps p.tables e below (T142.setTop (mkF m 139 #[.val (.int p0), .val (.int p1), .val (.int ((p0 &&& (2147483647 : Int32)) - ((p0 &&& (2147483647 : Int32)) / (9 : Int32)) * (9 : Int32))), .val (.ref a_SHORT), .val (.int (2 : Int32))] [(.ref a_SHORT)])) _
                  refine XS.iloadN X142.here hx rfl (hb hby at_139) rfl ?_
                  exact kt
                obtain ⟨cq145, kq145, q145a, q145b, q145c⟩ := isOf hZ e142 (G9.ext O0.2)
                obtain ⟨_, _, ⟨T145, L145, k145, n145⟩, -, X145, ⟨Lc145, hQ145, l145, y145, z145⟩, st145⟩ := X142.virtualBack hx (y := (⟨"org/reachwatch/BasicType", "size", "(I)I"⟩ : MethodName)) (z := (⟨"org/reachwatch/BasicType", "size", "(I)I"⟩ : MethodName)) hown (mvT hZ (hw _ (List.mem_of_getElem? (i := 4) rfl))) (mvT hZ (hw _ (List.mem_of_getElem? (i := 5) rfl))) (notFace_of_selects (args := #[]) (mvT hZ (hw _ (List.mem_of_getElem? (i := 7) rfl)))) (mvT hZ (hw _ (List.mem_of_getElem? (i := 7) rfl))) (mvT hZ (hw _ (List.mem_of_getElem? (i := 6) rfl))) (by decide) (backOf (W := 0) (rm_size1_2 l Z a0 hw [] a_SHORT p1 a_OBJECT h0 n0 O0 G0 G26 (fun q => ne_a_OBJECT_a_SHORT q.symm)) hZ (hw _ (List.mem_of_getElem? (i := 8) rfl)) (hw _ (List.mem_of_getElem? (i := 2) rfl)) (by decide) (by decide)) q145a q145c (g := (mkF m 140 #[.val (.int p0), .val (.int p1), .val (.int ((p0 &&& (2147483647 : Int32)) - ((p0 &&& (2147483647 : Int32)) / (9 : Int32)) * (9 : Int32))), .val (.ref a_SHORT), .val (.int (2 : Int32))] [(.int p1), (.ref a_SHORT)])) rfl (by rw [hml]; rfl) (Steps.refl _) (argsL := [(.int p1)]) (rest := []) (lenOf pd_4 rfl) rfl (by show 2 * 0 + _ ≤ _; exact Nat.le_of_eq rfl) (hb hby at_140) (fun _ _ => ⟨rfl, e142, (by decide : 0 + 0 ≤ _), (by decide : 0 + 0 ≤ _)⟩)
                dsimp only [Pt.U, Pt.locs, Pt.cells, Pt.slots] at X145 l145 y145 z145 st145 hQ145
                subst l145 y145 z145
                obtain ⟨rfl, M145, e145⟩ := hQ145
                have N145 := Fr.app N0 M145
                have pre146 : ∀ t, Steps p.tables e below (T145.setTop (mkF m 143 #[.val (.int p0), .val (.int p1), .val (.int ((p0 &&& (2147483647 : Int32)) - ((p0 &&& (2147483647 : Int32)) / (9 : Int32)) * (9 : Int32))), .val (.ref a_SHORT), .val (.int (2 : Int32))] [(.int (2 : Int32))])) t → Steps p.tables e below (s₁.setTop (entryFrame m #[(.int p0), (.int p1)] maxLocals)) t := fun t kt => pre144 _ (st145.trans kt)
                have pre147 : ∀ t, Steps p.tables e below (T145.setTop (mkF m 153 #[.val (.int p0), .val (.int p1), .val (.int ((p0 &&& (2147483647 : Int32)) - ((p0 &&& (2147483647 : Int32)) / (9 : Int32)) * (9 : Int32))), .val (.ref a_SHORT), .val (.int (2 : Int32))] [(.int (1 : Int32))])) t → Steps p.tables e below (s₁.setTop (entryFrame m #[(.int p0), (.int p1)] maxLocals)) t := fun t kt => by
                  refine pre146 _ ?_
                  show Steps p.tables e below (T145.setTop (mkF m 143 #[.val (.int p0), .val (.int p1), .val (.int ((p0 &&& (2147483647 : Int32)) - ((p0 &&& (2147483647 : Int32)) / (9 : Int32)) * (9 : Int32))), .val (.ref a_SHORT), .val (.int (2 : Int32))] [(.int (2 : Int32))])) _
                  refine XS.iload X145.here hx rfl (hb hby at_143) rfl ?_
                  show Steps p.tables e below (T145.setTop (mkF m 145 #[.val (.int p0), .val (.int p1), .val (.int ((p0 &&& (2147483647 : Int32)) - ((p0 &&& (2147483647 : Int32)) / (9 : Int32)) * (9 : Int32))), .val (.ref a_SHORT), .val (.int (2 : Int32))] [(.int (2 : Int32)), (.int (2 : Int32))])) _
                  refine XS.icmpNo X145.here hx rfl (hb hby at_145) rfl (XT.ii_ne_f (by decide)) ?_
                  show Steps p.tables e below (T145.setTop (mkF m 148 #[.val (.int p0), .val (.int p1), .val (.int ((p0 &&& (2147483647 : Int32)) - ((p0 &&& (2147483647 : Int32)) / (9 : Int32)) * (9 : Int32))), .val (.ref a_SHORT), .val (.int (2 : Int32))] [])) _
                  refine XS.iconst X145.here hx rfl (hb hby at_148) ?_
                  show Steps p.tables e below (T145.setTop (mkF m 149 #[.val (.int p0), .val (.int p1), .val (.int ((p0 &&& (2147483647 : Int32)) - ((p0 &&& (2147483647 : Int32)) / (9 : Int32)) * (9 : Int32))), .val (.ref a_SHORT), .val (.int (2 : Int32))] [(.int (1 : Int32))])) _
                  refine XS.goto X145.here hx rfl (pc0 := 149) (pc' := 153) rfl (hb hby at_149) (by decide) (by decide) ?_
                  exact kt
                obtain ⟨fs, hr, hrun, hended, hW, hsame⟩ := X145.leave (v := some (.int (1 : Int32))) (fun h => by rw [Bd.returns] at h; cases h)
                refine ⟨_, _, pre147 _ (retN X145 hx (t := .boolean) Bd.returns (by simp) (hb hby at_153) hr), hrun, hended, _, _, rfl, ?_, ⟨_, rfl⟩, hW, hsame.mono (by decide) (by decide)⟩
                show Q_law Z p0 p1 a_OBJECT a_BYTE a_DOUBLE a_BOOLEAN a_SHORT a_LONG a_FLOAT a_CHAR a_INT h0 n0 _ T145.heap _
                rw [e145]
                exact ⟨rfl, N145⟩
              · have pre148 : ∀ t, Steps p.tables e below (s₁.setTop (mkF m 117 #[.val (.int p0), .val (.int p1), .val (.int ((p0 &&& (2147483647 : Int32)) - ((p0 &&& (2147483647 : Int32)) / (9 : Int32)) * (9 : Int32))), .unset, .unset] [(.int (7 : Int32)), (.int ((p0 &&& (2147483647 : Int32)) - ((p0 &&& (2147483647 : Int32)) / (9 : Int32)) * (9 : Int32)))])) t → Steps p.tables e below (s₁.setTop (entryFrame m #[(.int p0), (.int p1)] maxLocals)) t := fun t kt => by
                  refine pre139 _ ?_
                  show Steps p.tables e below (s₁.setTop (mkF m 101 #[.val (.int p0), .val (.int p1), .val (.int ((p0 &&& (2147483647 : Int32)) - ((p0 &&& (2147483647 : Int32)) / (9 : Int32)) * (9 : Int32))), .unset, .unset] [(.int (6 : Int32)), (.int ((p0 &&& (2147483647 : Int32)) - ((p0 &&& (2147483647 : Int32)) / (9 : Int32)) * (9 : Int32)))])) _
                  refine XS.icmpYes X0.here hx rfl (pc0 := 101) (pc' := 114) rfl (hb hby at_101) rfl (XT.ii_ne_t hc140) (by decide) (by decide) ?_
                  show Steps p.tables e below (s₁.setTop (mkF m 114 #[.val (.int p0), .val (.int p1), .val (.int ((p0 &&& (2147483647 : Int32)) - ((p0 &&& (2147483647 : Int32)) / (9 : Int32)) * (9 : Int32))), .unset, .unset] [])) _
                  refine XS.iloadN X0.here hx rfl (hb hby at_114) rfl ?_
                  show Steps p.tables e below (s₁.setTop (mkF m 115 #[.val (.int p0), .val (.int p1), .val (.int ((p0 &&& (2147483647 : Int32)) - ((p0 &&& (2147483647 : Int32)) / (9 : Int32)) * (9 : Int32))), .unset, .unset] [(.int ((p0 &&& (2147483647 : Int32)) - ((p0 &&& (2147483647 : Int32)) / (9 : Int32)) * (9 : Int32)))])) _
                  refine XS.bipush X0.here hx rfl (hb hby at_115) ?_
                  exact kt
                by_cases hc149 : ((p0 &&& (2147483647 : Int32)) - ((p0 &&& (2147483647 : Int32)) / (9 : Int32)) * (9 : Int32)) = (7 : Int32)
                · have pre150 : ∀ t, Steps p.tables e below (s₁.setTop (mkF m 120 #[.val (.int p0), .val (.int p1), .val (.int ((p0 &&& (2147483647 : Int32)) - ((p0 &&& (2147483647 : Int32)) / (9 : Int32)) * (9 : Int32))), .unset, .unset] [])) t → Steps p.tables e below (s₁.setTop (entryFrame m #[(.int p0), (.int p1)] maxLocals)) t := fun t kt => by
                    refine pre148 _ ?_
                    show Steps p.tables e below (s₁.setTop (mkF m 117 #[.val (.int p0), .val (.int p1), .val (.int ((p0 &&& (2147483647 : Int32)) - ((p0 &&& (2147483647 : Int32)) / (9 : Int32)) * (9 : Int32))), .unset, .unset] [(.int (7 : Int32)), (.int ((p0 &&& (2147483647 : Int32)) - ((p0 &&& (2147483647 : Int32)) / (9 : Int32)) * (9 : Int32)))])) _
                    refine XS.icmpNo X0.here hx rfl (hb hby at_117) rfl (XT.ii_ne_f hc149) ?_
                    exact kt
                  obtain ⟨T151, X151, e151, st151⟩ := getS2 X0 hx hZ hown (host := "") (Or.inl (hw _ (List.mem_of_getElem? (i := 26) rfl))) Via.refl e0 (G16.ext O0.2) (g := (mkF m 120 #[.val (.int p0), .val (.int p1), .val (.int ((p0 &&& (2147483647 : Int32)) - ((p0 &&& (2147483647 : Int32)) / (9 : Int32)) * (9 : Int32))), .unset, .unset] [])) rfl (hb hby at_120)
                  have pre152 : ∀ t, Steps p.tables e below (T151.setTop (mkF m 123 #[.val (.int p0), .val (.int p1), .val (.int ((p0 &&& (2147483647 : Int32)) - ((p0 &&& (2147483647 : Int32)) / (9 : Int32)) * (9 : Int32))), .unset, .unset] [(.ref a_INT)])) t → Steps p.tables e below (s₁.setTop (entryFrame m #[(.int p0), (.int p1)] maxLocals)) t := fun t kt => pre150 _ (st151 _ kt)
                  have pre153 : ∀ t, Steps p.tables e below (T151.setTop (mkF m 140 #[.val (.int p0), .val (.int p1), .val (.int ((p0 &&& (2147483647 : Int32)) - ((p0 &&& (2147483647 : Int32)) / (9 : Int32)) * (9 : Int32))), .val (.ref a_INT), .val (.int (4 : Int32))] [(.int p1), (.ref a_INT)])) t → Steps p.tables e below (s₁.setTop (entryFrame m #[(.int p0), (.int p1)] maxLocals)) t := fun t kt => by
                    refine pre152 _ ?_
                    show Steps p.tables e below (T151.setTop (mkF m 123 #[.val (.int p0), .val (.int p1), .val (.int ((p0 &&& (2147483647 : Int32)) - ((p0 &&& (2147483647 : Int32)) / (9 : Int32)) * (9 : Int32))), .unset, .unset] [(.ref a_INT)])) _
                    refine XS.astoreN X151.here hx rfl (hb hby at_123) rfl rfl (l' := #[.val (.int p0), .val (.int p1), .val (.int ((p0 &&& (2147483647 : Int32)) - ((p0 &&& (2147483647 : Int32)) / (9 : Int32)) * (9 : Int32))), .val (.ref a_INT), .unset]) rfl ?_
                    show Steps p.tables e below (T151.setTop (mkF m 124 #[.val (.int p0), .val (.int p1), .val (.int ((p0 &&& (2147483647 : Int32)) - ((p0 &&& (2147483647 : Int32)) / (9 : Int32)) * (9 : Int32))), .val (.ref a_INT), .unset] [])) _
                    refine XS.iconst X151.here hx rfl (hb hby at_124) ?_
                    show Steps p.tables e below (T151.setTop (mkF m 125 #[.val (.int p0), .val (.int p1), .val (.int ((p0 &&& (2147483647 : Int32)) - ((p0 &&& (2147483647 : Int32)) / (9 : Int32)) * (9 : Int32))), .val (.ref a_INT), .unset] [(.int (4 : Int32))])) _
                    refine XS.istore X151.here hx rfl (hb hby at_125) rfl (l' := #[.val (.int p0), .val (.int p1), .val (.int ((p0 &&& (2147483647 : Int32)) - ((p0 &&& (2147483647 : Int32)) / (9 : Int32)) * (9 : Int32))), .val (.ref a_INT), .val (.int (4 : Int32))]) rfl ?_
                    show Steps p.tables e below (T151.setTop (mkF m 127 #[.val (.int p0), .val (.int p1), .val (.int ((p0 &&& (2147483647 : Int32)) - ((p0 &&& (2147483647 : Int32)) / (9 : Int32)) * (9 : Int32))), .val (.ref a_INT), .val (.int (4 : Int32))] [])) _
                    refine XS.goto X151.here hx rfl (pc0 := 127) (pc' := 138) rfl (hb hby at_127) (by decide) (by decide) ?_
                    show Steps p.tables e below (T151.setTop (mkF m 138 #[.val (.int p0), .val (.int p1), .val (.int ((p0 &&& (2147483647 : Int32)) - ((p0 &&& (2147483647 : Int32)) / (9 : Int32)) * (9 : Int32))), .val (.ref a_INT), .val (.int (4 : Int32))] [])) _
                    refine XS.aloadN X151.here hx rfl (hb hby at_138) rfl rfl ?_
                    show Steps p.tables e below (T151.setTop (mkF m 139 #[.val (.int p0), .val (.int p1), .val (.int ((p0 &&& (2147483647 : Int32)) - ((p0 &&& (2147483647 : Int32)) / (9 : Int32)) * (9 : Int32))), .val (.ref a_INT), .val (.int (4 : Int32))] [(.ref a_INT)])) _
                    refine XS.iloadN X151.here hx rfl (hb hby at_139) rfl ?_
                    exact kt
                  obtain ⟨cq154, kq154, q154a, q154b, q154c⟩ := isOf hZ e151 (G17.ext O0.2)
                  obtain ⟨_, _, ⟨T154, L154, k154, n154⟩, -, X154, ⟨Lc154, hQ154, l154, y154, z154⟩, st154⟩ := X151.virtualBack hx (y := (⟨"org/reachwatch/BasicType", "size", "(I)I"⟩ : MethodName)) (z := (⟨"org/reachwatch/BasicType", "size", "(I)I"⟩ : MethodName)) hown (mvT hZ (hw _ (List.mem_of_getElem? (i := 4) rfl))) (mvT hZ (hw _ (List.mem_of_getElem? (i := 5) rfl))) (notFace_of_selects (args := #[]) (mvT hZ (hw _ (List.mem_of_getElem? (i := 7) rfl)))) (mvT hZ (hw _ (List.mem_of_getElem? (i := 7) rfl))) (mvT hZ (hw _ (List.mem_of_getElem? (i := 6) rfl))) (by decide) (backOf (W := 0) (rm_size1_3 l Z a0 hw [] a_INT p1 a_OBJECT h0 n0 O0 G0 G34 (fun q => ne_a_OBJECT_a_INT q.symm)) hZ (hw _ (List.mem_of_getElem? (i := 8) rfl)) (hw _ (List.mem_of_getElem? (i := 2) rfl)) (by decide) (by decide)) q154a q154c (g := (mkF m 140 #[.val (.int p0), .val (.int p1), .val (.int ((p0 &&& (2147483647 : Int32)) - ((p0 &&& (2147483647 : Int32)) / (9 : Int32)) * (9 : Int32))), .val (.ref a_INT), .val (.int (4 : Int32))] [(.int p1), (.ref a_INT)])) rfl (by rw [hml]; rfl) (Steps.refl _) (argsL := [(.int p1)]) (rest := []) (lenOf pd_4 rfl) rfl (by show 2 * 0 + _ ≤ _; exact Nat.le_of_eq rfl) (hb hby at_140) (fun _ _ => ⟨rfl, e151, (by decide : 0 + 0 ≤ _), (by decide : 0 + 0 ≤ _)⟩)
                  dsimp only [Pt.U, Pt.locs, Pt.cells, Pt.slots] at X154 l154 y154 z154 st154 hQ154
                  subst l154 y154 z154
                  obtain ⟨rfl, M154, e154⟩ := hQ154
                  have N154 := Fr.app N0 M154
                  have pre155 : ∀ t, Steps p.tables e below (T154.setTop (mkF m 143 #[.val (.int p0), .val (.int p1), .val (.int ((p0 &&& (2147483647 : Int32)) - ((p0 &&& (2147483647 : Int32)) / (9 : Int32)) * (9 : Int32))), .val (.ref a_INT), .val (.int (4 : Int32))] [(.int (4 : Int32))])) t → Steps p.tables e below (s₁.setTop (entryFrame m #[(.int p0), (.int p1)] maxLocals)) t := fun t kt => pre153 _ (st154.trans kt)
                  have pre156 : ∀ t, Steps p.tables e below (T154.setTop (mkF m 153 #[.val (.int p0), .val (.int p1), .val (.int ((p0 &&& (2147483647 : Int32)) - ((p0 &&& (2147483647 : Int32)) / (9 : Int32)) * (9 : Int32))), .val (.ref a_INT), .val (.int (4 : Int32))] [(.int (1 : Int32))])) t → Steps p.tables e below (s₁.setTop (entryFrame m #[(.int p0), (.int p1)] maxLocals)) t := fun t kt => by
                    refine pre155 _ ?_
                    show Steps p.tables e below (T154.setTop (mkF m 143 #[.val (.int p0), .val (.int p1), .val (.int ((p0 &&& (2147483647 : Int32)) - ((p0 &&& (2147483647 : Int32)) / (9 : Int32)) * (9 : Int32))), .val (.ref a_INT), .val (.int (4 : Int32))] [(.int (4 : Int32))])) _
                    refine XS.iload X154.here hx rfl (hb hby at_143) rfl ?_
                    show Steps p.tables e below (T154.setTop (mkF m 145 #[.val (.int p0), .val (.int p1), .val (.int ((p0 &&& (2147483647 : Int32)) - ((p0 &&& (2147483647 : Int32)) / (9 : Int32)) * (9 : Int32))), .val (.ref a_INT), .val (.int (4 : Int32))] [(.int (4 : Int32)), (.int (4 : Int32))])) _
                    refine XS.icmpNo X154.here hx rfl (hb hby at_145) rfl (XT.ii_ne_f (by decide)) ?_
                    show Steps p.tables e below (T154.setTop (mkF m 148 #[.val (.int p0), .val (.int p1), .val (.int ((p0 &&& (2147483647 : Int32)) - ((p0 &&& (2147483647 : Int32)) / (9 : Int32)) * (9 : Int32))), .val (.ref a_INT), .val (.int (4 : Int32))] [])) _
                    refine XS.iconst X154.here hx rfl (hb hby at_148) ?_
                    show Steps p.tables e below (T154.setTop (mkF m 149 #[.val (.int p0), .val (.int p1), .val (.int ((p0 &&& (2147483647 : Int32)) - ((p0 &&& (2147483647 : Int32)) / (9 : Int32)) * (9 : Int32))), .val (.ref a_INT), .val (.int (4 : Int32))] [(.int (1 : Int32))])) _
                    refine XS.goto X154.here hx rfl (pc0 := 149) (pc' := 153) rfl (hb hby at_149) (by decide) (by decide) ?_
                    exact kt
                  obtain ⟨fs, hr, hrun, hended, hW, hsame⟩ := X154.leave (v := some (.int (1 : Int32))) (fun h => by rw [Bd.returns] at h; cases h)
                  refine ⟨_, _, pre156 _ (retN X154 hx (t := .boolean) Bd.returns (by simp) (hb hby at_153) hr), hrun, hended, _, _, rfl, ?_, ⟨_, rfl⟩, hW, hsame.mono (by decide) (by decide)⟩
                  show Q_law Z p0 p1 a_OBJECT a_BYTE a_DOUBLE a_BOOLEAN a_SHORT a_LONG a_FLOAT a_CHAR a_INT h0 n0 _ T154.heap _
                  rw [e154]
                  exact ⟨rfl, N154⟩
                · have pre157 : ∀ t, Steps p.tables e below (s₁.setTop (mkF m 130 #[.val (.int p0), .val (.int p1), .val (.int ((p0 &&& (2147483647 : Int32)) - ((p0 &&& (2147483647 : Int32)) / (9 : Int32)) * (9 : Int32))), .unset, .unset] [])) t → Steps p.tables e below (s₁.setTop (entryFrame m #[(.int p0), (.int p1)] maxLocals)) t := fun t kt => by
                    refine pre148 _ ?_
                    show Steps p.tables e below (s₁.setTop (mkF m 117 #[.val (.int p0), .val (.int p1), .val (.int ((p0 &&& (2147483647 : Int32)) - ((p0 &&& (2147483647 : Int32)) / (9 : Int32)) * (9 : Int32))), .unset, .unset] [(.int (7 : Int32)), (.int ((p0 &&& (2147483647 : Int32)) - ((p0 &&& (2147483647 : Int32)) / (9 : Int32)) * (9 : Int32)))])) _
                    refine XS.icmpYes X0.here hx rfl (pc0 := 117) (pc' := 130) rfl (hb hby at_117) rfl (XT.ii_ne_t hc149) (by decide) (by decide) ?_
                    exact kt
                  obtain ⟨T158, X158, e158, st158⟩ := getS2 X0 hx hZ hown (host := "") (Or.inl (hw _ (List.mem_of_getElem? (i := 20) rfl))) Via.refl e0 (G10.ext O0.2) (g := (mkF m 130 #[.val (.int p0), .val (.int p1), .val (.int ((p0 &&& (2147483647 : Int32)) - ((p0 &&& (2147483647 : Int32)) / (9 : Int32)) * (9 : Int32))), .unset, .unset] [])) rfl (hb hby at_130)
                  have pre159 : ∀ t, Steps p.tables e below (T158.setTop (mkF m 133 #[.val (.int p0), .val (.int p1), .val (.int ((p0 &&& (2147483647 : Int32)) - ((p0 &&& (2147483647 : Int32)) / (9 : Int32)) * (9 : Int32))), .unset, .unset] [(.ref a_LONG)])) t → Steps p.tables e below (s₁.setTop (entryFrame m #[(.int p0), (.int p1)] maxLocals)) t := fun t kt => pre157 _ (st158 _ kt)
                  have pre160 : ∀ t, Steps p.tables e below (T158.setTop (mkF m 140 #[.val (.int p0), .val (.int p1), .val (.int ((p0 &&& (2147483647 : Int32)) - ((p0 &&& (2147483647 : Int32)) / (9 : Int32)) * (9 : Int32))), .val (.ref a_LONG), .val (.int (8 : Int32))] [(.int p1), (.ref a_LONG)])) t → Steps p.tables e below (s₁.setTop (entryFrame m #[(.int p0), (.int p1)] maxLocals)) t := fun t kt => by
                    refine pre159 _ ?_
                    show Steps p.tables e below (T158.setTop (mkF m 133 #[.val (.int p0), .val (.int p1), .val (.int ((p0 &&& (2147483647 : Int32)) - ((p0 &&& (2147483647 : Int32)) / (9 : Int32)) * (9 : Int32))), .unset, .unset] [(.ref a_LONG)])) _
                    refine XS.astoreN X158.here hx rfl (hb hby at_133) rfl rfl (l' := #[.val (.int p0), .val (.int p1), .val (.int ((p0 &&& (2147483647 : Int32)) - ((p0 &&& (2147483647 : Int32)) / (9 : Int32)) * (9 : Int32))), .val (.ref a_LONG), .unset]) rfl ?_
                    show Steps p.tables e below (T158.setTop (mkF m 134 #[.val (.int p0), .val (.int p1), .val (.int ((p0 &&& (2147483647 : Int32)) - ((p0 &&& (2147483647 : Int32)) / (9 : Int32)) * (9 : Int32))), .val (.ref a_LONG), .unset] [])) _
                    refine XS.bipush X158.here hx rfl (hb hby at_134) ?_
                    show Steps p.tables e below (T158.setTop (mkF m 136 #[.val (.int p0), .val (.int p1), .val (.int ((p0 &&& (2147483647 : Int32)) - ((p0 &&& (2147483647 : Int32)) / (9 : Int32)) * (9 : Int32))), .val (.ref a_LONG), .unset] [(.int (8 : Int32))])) _
                    refine XS.istore X158.here hx rfl (hb hby at_136) rfl (l' := #[.val (.int p0), .val (.int p1), .val (.int ((p0 &&& (2147483647 : Int32)) - ((p0 &&& (2147483647 : Int32)) / (9 : Int32)) * (9 : Int32))), .val (.ref a_LONG), .val (.int (8 : Int32))]) rfl ?_
                    show Steps p.tables e below (T158.setTop (mkF m 138 #[.val (.int p0), .val (.int p1), .val (.int ((p0 &&& (2147483647 : Int32)) - ((p0 &&& (2147483647 : Int32)) / (9 : Int32)) * (9 : Int32))), .val (.ref a_LONG), .val (.int (8 : Int32))] [])) _
                    refine XS.aloadN X158.here hx rfl (hb hby at_138) rfl rfl ?_
                    show Steps p.tables e below (T158.setTop (mkF m 139 #[.val (.int p0), .val (.int p1), .val (.int ((p0 &&& (2147483647 : Int32)) - ((p0 &&& (2147483647 : Int32)) / (9 : Int32)) * (9 : Int32))), .val (.ref a_LONG), .val (.int (8 : Int32))] [(.ref a_LONG)])) _
                    refine XS.iloadN X158.here hx rfl (hb hby at_139) rfl ?_
                    exact kt
                  obtain ⟨cq161, kq161, q161a, q161b, q161c⟩ := isOf hZ e158 (G11.ext O0.2)
                  obtain ⟨_, _, ⟨T161, L161, k161, n161⟩, -, X161, ⟨Lc161, hQ161, l161, y161, z161⟩, st161⟩ := X158.virtualBack hx (y := (⟨"org/reachwatch/BasicType", "size", "(I)I"⟩ : MethodName)) (z := (⟨"org/reachwatch/BasicType", "size", "(I)I"⟩ : MethodName)) hown (mvT hZ (hw _ (List.mem_of_getElem? (i := 4) rfl))) (mvT hZ (hw _ (List.mem_of_getElem? (i := 5) rfl))) (notFace_of_selects (args := #[]) (mvT hZ (hw _ (List.mem_of_getElem? (i := 7) rfl)))) (mvT hZ (hw _ (List.mem_of_getElem? (i := 7) rfl))) (mvT hZ (hw _ (List.mem_of_getElem? (i := 6) rfl))) (by decide) (backOf (W := 0) (rm_size1_4 l Z a0 hw [] a_LONG p1 a_OBJECT h0 n0 O0 G0 G28 (fun q => ne_a_OBJECT_a_LONG q.symm)) hZ (hw _ (List.mem_of_getElem? (i := 8) rfl)) (hw _ (List.mem_of_getElem? (i := 2) rfl)) (by decide) (by decide)) q161a q161c (g := (mkF m 140 #[.val (.int p0), .val (.int p1), .val (.int ((p0 &&& (2147483647 : Int32)) - ((p0 &&& (2147483647 : Int32)) / (9 : Int32)) * (9 : Int32))), .val (.ref a_LONG), .val (.int (8 : Int32))] [(.int p1), (.ref a_LONG)])) rfl (by rw [hml]; rfl) (Steps.refl _) (argsL := [(.int p1)]) (rest := []) (lenOf pd_4 rfl) rfl (by show 2 * 0 + _ ≤ _; exact Nat.le_of_eq rfl) (hb hby at_140) (fun _ _ => ⟨rfl, e158, (by decide : 0 + 0 ≤ _), (by decide : 0 + 0 ≤ _)⟩)
                  dsimp only [Pt.U, Pt.locs, Pt.cells, Pt.slots] at X161 l161 y161 z161 st161 hQ161
                  subst l161 y161 z161
                  obtain ⟨rfl, M161, e161⟩ := hQ161
                  have N161 := Fr.app N0 M161
                  have pre162 : ∀ t, Steps p.tables e below (T161.setTop (mkF m 143 #[.val (.int p0), .val (.int p1), .val (.int ((p0 &&& (2147483647 : Int32)) - ((p0 &&& (2147483647 : Int32)) / (9 : Int32)) * (9 : Int32))), .val (.ref a_LONG), .val (.int (8 : Int32))] [(.int (8 : Int32))])) t → Steps p.tables e below (s₁.setTop (entryFrame m #[(.int p0), (.int p1)] maxLocals)) t := fun t kt => pre160 _ (st161.trans kt)
                  have pre163 : ∀ t, Steps p.tables e below (T161.setTop (mkF m 153 #[.val (.int p0), .val (.int p1), .val (.int ((p0 &&& (2147483647 : Int32)) - ((p0 &&& (2147483647 : Int32)) / (9 : Int32)) * (9 : Int32))), .val (.ref a_LONG), .val (.int (8 : Int32))] [(.int (1 : Int32))])) t → Steps p.tables e below (s₁.setTop (entryFrame m #[(.int p0), (.int p1)] maxLocals)) t := fun t kt => by
                    refine pre162 _ ?_
                    show Steps p.tables e below (T161.setTop (mkF m 143 #[.val (.int p0), .val (.int p1), .val (.int ((p0 &&& (2147483647 : Int32)) - ((p0 &&& (2147483647 : Int32)) / (9 : Int32)) * (9 : Int32))), .val (.ref a_LONG), .val (.int (8 : Int32))] [(.int (8 : Int32))])) _
                    refine XS.iload X161.here hx rfl (hb hby at_143) rfl ?_
                    show Steps p.tables e below (T161.setTop (mkF m 145 #[.val (.int p0), .val (.int p1), .val (.int ((p0 &&& (2147483647 : Int32)) - ((p0 &&& (2147483647 : Int32)) / (9 : Int32)) * (9 : Int32))), .val (.ref a_LONG), .val (.int (8 : Int32))] [(.int (8 : Int32)), (.int (8 : Int32))])) _
                    refine XS.icmpNo X161.here hx rfl (hb hby at_145) rfl (XT.ii_ne_f (by decide)) ?_
                    show Steps p.tables e below (T161.setTop (mkF m 148 #[.val (.int p0), .val (.int p1), .val (.int ((p0 &&& (2147483647 : Int32)) - ((p0 &&& (2147483647 : Int32)) / (9 : Int32)) * (9 : Int32))), .val (.ref a_LONG), .val (.int (8 : Int32))] [])) _
                    refine XS.iconst X161.here hx rfl (hb hby at_148) ?_
                    show Steps p.tables e below (T161.setTop (mkF m 149 #[.val (.int p0), .val (.int p1), .val (.int ((p0 &&& (2147483647 : Int32)) - ((p0 &&& (2147483647 : Int32)) / (9 : Int32)) * (9 : Int32))), .val (.ref a_LONG), .val (.int (8 : Int32))] [(.int (1 : Int32))])) _
                    refine XS.goto X161.here hx rfl (pc0 := 149) (pc' := 153) rfl (hb hby at_149) (by decide) (by decide) ?_
                    exact kt
                  obtain ⟨fs, hr, hrun, hended, hW, hsame⟩ := X161.leave (v := some (.int (1 : Int32))) (fun h => by rw [Bd.returns] at h; cases h)
                  refine ⟨_, _, pre163 _ (retN X161 hx (t := .boolean) Bd.returns (by simp) (hb hby at_153) hr), hrun, hended, _, _, rfl, ?_, ⟨_, rfl⟩, hW, hsame.mono (by decide) (by decide)⟩
                  show Q_law Z p0 p1 a_OBJECT a_BYTE a_DOUBLE a_BOOLEAN a_SHORT a_LONG a_FLOAT a_CHAR a_INT h0 n0 _ T161.heap _
                  rw [e161]
                  exact ⟨rfl, N161⟩
set_option maxRecDepth 65536 in
set_option maxHeartbeats 40000000 in
theorem comes_1 {Post : Tables → Env → Array Value → State → Outcome → State → Prop} (hpost : ∀ tb e args s v u, (limb_1_1.after args s (.returned v) u = true ∧ limb_1_2.after args s (.returned v) u = true ∧ True) → FrameEnd s (.returned v) u (Jvm.fieldLocs frame_1_writes args s ++ Jvm.arrayLocs frame_1_arrays args s ++ Jvm.staticLocs frame_1_statics s) 0 0 → Post tb e args s (.returned v) u) :
    ArmFor flags0 classFile x code maxLocals ret World_1 tables_1 room_1 Calls_1 rest_1 Pre_1 Post := by
  intro l hfl _ _ p e ha hc hk s m args below hf hA hF happ hP
  obtain ⟨hcalls, hrest, hpre⟩ := hP
  obtain ⟨-, -, -, hnamed, -, -, -, hat⟩ := (Spec.applies_iff hf).mp happ
  obtain ⟨hg, hn⟩ := and_e (Cond.before_iff.mp (show (Jvm.Cond.and given_1 narrow_1).before args s = true from hpre))
  obtain ⟨given_1_2, given_1_3⟩ := and_e hg
  obtain ⟨given_1_4, given_1_5⟩ := and_e given_1_3
  obtain ⟨narrow_1_2, narrow_1_3⟩ := and_e hn
  obtain ⟨narrow_1_4, narrow_1_5⟩ := and_e narrow_1_3
  obtain ⟨narrow_1_6, narrow_1_7⟩ := and_e narrow_1_5
  obtain ⟨narrow_1_8, narrow_1_9⟩ := and_e narrow_1_7
  obtain ⟨narrow_1_10, narrow_1_11⟩ := and_e narrow_1_9
  obtain ⟨narrow_1_12, narrow_1_13⟩ := and_e narrow_1_11
  obtain ⟨narrow_1_14, narrow_1_15⟩ := and_e narrow_1_13
  obtain ⟨narrow_1_16, narrow_1_17⟩ := and_e narrow_1_15
  obtain ⟨narrow_1_18, narrow_1_19⟩ := and_e narrow_1_17
  obtain ⟨narrow_1_20, narrow_1_21⟩ := and_e narrow_1_19
  obtain ⟨narrow_1_22, narrow_1_23⟩ := and_e narrow_1_21
  obtain ⟨narrow_1_24, narrow_1_25⟩ := and_e narrow_1_23
  obtain ⟨narrow_1_26, narrow_1_27⟩ := and_e narrow_1_25
  obtain ⟨narrow_1_28, narrow_1_29⟩ := and_e narrow_1_27
  obtain ⟨narrow_1_30, narrow_1_31⟩ := and_e narrow_1_29
  obtain ⟨narrow_1_32, narrow_1_33⟩ := and_e narrow_1_31
  obtain ⟨narrow_1_34, narrow_1_35⟩ := and_e narrow_1_33
  obtain ⟨narrow_1_36, narrow_1_37⟩ := and_e narrow_1_35
  obtain ⟨narrow_1_38, narrow_1_39⟩ := and_e narrow_1_37
  obtain ⟨narrow_1_40, narrow_1_41⟩ := and_e narrow_1_39
  obtain ⟨narrow_1_42, narrow_1_43⟩ := and_e narrow_1_41
  obtain ⟨narrow_1_44, narrow_1_45⟩ := and_e narrow_1_43
  obtain ⟨narrow_1_46, narrow_1_47⟩ := and_e narrow_1_45
  obtain ⟨narrow_1_48, narrow_1_49⟩ := and_e narrow_1_47
  obtain ⟨narrow_1_50, narrow_1_51⟩ := and_e narrow_1_49
  obtain ⟨narrow_1_52, narrow_1_53⟩ := and_e narrow_1_51
  obtain ⟨w0, w1, rfl⟩ : ∃ w0 w1 : Value, args = #[w0, w1] := by
    have hs : args.size = 2 := by simpa [Cond.value, given_1] using given_1_2
    obtain ⟨L⟩ := args
    match L, hs with
    | [w0, w1], _ => exact ⟨w0, w1, rfl⟩
  have hw := fun d (hd : d ∈ tables_1) => atoms_spec (ws := Jvm.Cond.code x code maxLocals ret :: tables_1) hat d (List.mem_cons_of_mem _ hd)
  have hfit : Fit s := fun {y c} hc i hi => by
    obtain ⟨ha, rfl⟩ := Array.getElem?_eq_some_iff.mp hc
    have q := List.all_eq_true.mp ((Array.all_eq_true_iff_forall_mem.mp hF) _ (Array.getElem_mem ha)) i (List.mem_range.mpr hi)
    simpa [Array.getElem?_eq_getElem hi] using q
  obtain ⟨i0, ei0⟩ := is_v given_1_4
  obtain rfl : w0 = (.int i0) := Option.some.inj ei0
  obtain ⟨i1, ei1⟩ := is_v given_1_5
  obtain rfl : w1 = (.int i1) := Option.some.inj ei1
  obtain ⟨a_OBJECT, ev_OBJECT⟩ := exa_v narrow_1_2
  have S_OBJECT : Sta s s.heap "org/reachwatch/BasicType" "OBJECT" "Lorg/reachwatch/BasicType;" (.ref a_OBJECT) := Sta.start ev_OBJECT (Or.inr ⟨(hw _ (List.mem_of_getElem? (i := 2) rfl)), (hw _ (List.mem_of_getElem? (i := 3) rfl))⟩)
  have E_OBJECT : Exa s s.heap a_OBJECT "org/reachwatch/BasicType" := Exa.start ev_OBJECT narrow_1_2
  obtain ⟨a_BYTE, ev_BYTE⟩ := exa_v narrow_1_4
  have S_BYTE : Sta s s.heap "org/reachwatch/BasicType" "BYTE" "Lorg/reachwatch/BasicType;" (.ref a_BYTE) := Sta.start ev_BYTE (Or.inr ⟨(hw _ (List.mem_of_getElem? (i := 2) rfl)), (hw _ (List.mem_of_getElem? (i := 11) rfl))⟩)
  have E_BYTE : Exa s s.heap a_BYTE "org/reachwatch/BasicType" := Exa.start ev_BYTE narrow_1_4
  obtain ⟨a_DOUBLE, ev_DOUBLE⟩ := exa_v narrow_1_12
  have S_DOUBLE : Sta s s.heap "org/reachwatch/BasicType" "DOUBLE" "Lorg/reachwatch/BasicType;" (.ref a_DOUBLE) := Sta.start ev_DOUBLE (Or.inr ⟨(hw _ (List.mem_of_getElem? (i := 2) rfl)), (hw _ (List.mem_of_getElem? (i := 15) rfl))⟩)
  have E_DOUBLE : Exa s s.heap a_DOUBLE "org/reachwatch/BasicType" := Exa.start ev_DOUBLE narrow_1_12
  obtain ⟨a_BOOLEAN, ev_BOOLEAN⟩ := exa_v narrow_1_18
  have S_BOOLEAN : Sta s s.heap "org/reachwatch/BasicType" "BOOLEAN" "Lorg/reachwatch/BasicType;" (.ref a_BOOLEAN) := Sta.start ev_BOOLEAN (Or.inr ⟨(hw _ (List.mem_of_getElem? (i := 2) rfl)), (hw _ (List.mem_of_getElem? (i := 17) rfl))⟩)
  have E_BOOLEAN : Exa s s.heap a_BOOLEAN "org/reachwatch/BasicType" := Exa.start ev_BOOLEAN narrow_1_18
  obtain ⟨a_SHORT, ev_SHORT⟩ := exa_v narrow_1_24
  have S_SHORT : Sta s s.heap "org/reachwatch/BasicType" "SHORT" "Lorg/reachwatch/BasicType;" (.ref a_SHORT) := Sta.start ev_SHORT (Or.inr ⟨(hw _ (List.mem_of_getElem? (i := 2) rfl)), (hw _ (List.mem_of_getElem? (i := 19) rfl))⟩)
  have E_SHORT : Exa s s.heap a_SHORT "org/reachwatch/BasicType" := Exa.start ev_SHORT narrow_1_24
  obtain ⟨a_LONG, ev_LONG⟩ := exa_v narrow_1_30
  have S_LONG : Sta s s.heap "org/reachwatch/BasicType" "LONG" "Lorg/reachwatch/BasicType;" (.ref a_LONG) := Sta.start ev_LONG (Or.inr ⟨(hw _ (List.mem_of_getElem? (i := 2) rfl)), (hw _ (List.mem_of_getElem? (i := 21) rfl))⟩)
  have E_LONG : Exa s s.heap a_LONG "org/reachwatch/BasicType" := Exa.start ev_LONG narrow_1_30
  obtain ⟨a_FLOAT, ev_FLOAT⟩ := exa_v narrow_1_36
  have S_FLOAT : Sta s s.heap "org/reachwatch/BasicType" "FLOAT" "Lorg/reachwatch/BasicType;" (.ref a_FLOAT) := Sta.start ev_FLOAT (Or.inr ⟨(hw _ (List.mem_of_getElem? (i := 2) rfl)), (hw _ (List.mem_of_getElem? (i := 23) rfl))⟩)
  have E_FLOAT : Exa s s.heap a_FLOAT "org/reachwatch/BasicType" := Exa.start ev_FLOAT narrow_1_36
  obtain ⟨a_CHAR, ev_CHAR⟩ := exa_v narrow_1_42
  have S_CHAR : Sta s s.heap "org/reachwatch/BasicType" "CHAR" "Lorg/reachwatch/BasicType;" (.ref a_CHAR) := Sta.start ev_CHAR (Or.inr ⟨(hw _ (List.mem_of_getElem? (i := 2) rfl)), (hw _ (List.mem_of_getElem? (i := 25) rfl))⟩)
  have E_CHAR : Exa s s.heap a_CHAR "org/reachwatch/BasicType" := Exa.start ev_CHAR narrow_1_42
  obtain ⟨a_INT, ev_INT⟩ := exa_v narrow_1_48
  have S_INT : Sta s s.heap "org/reachwatch/BasicType" "INT" "Lorg/reachwatch/BasicType;" (.ref a_INT) := Sta.start ev_INT (Or.inr ⟨(hw _ (List.mem_of_getElem? (i := 2) rfl)), (hw _ (List.mem_of_getElem? (i := 27) rfl))⟩)
  have E_INT : Exa s s.heap a_INT "org/reachwatch/BasicType" := Exa.start ev_INT narrow_1_48
  have P_BYTE_ordinal : Fld s s.heap a_BYTE "java/lang/Enum" "ordinal" "I" (.int (5 : Int32)) := own_fldI ev_BYTE narrow_1_6
  have P_OBJECT_ordinal : Fld s s.heap a_OBJECT "java/lang/Enum" "ordinal" "I" (.int (0 : Int32)) := own_fldI ev_OBJECT narrow_1_8
  have P_BYTE_size : Fld s s.heap a_BYTE "org/reachwatch/BasicType" "size" "I" (.int (1 : Int32)) := own_fldI ev_BYTE narrow_1_10
  have P_DOUBLE_ordinal : Fld s s.heap a_DOUBLE "java/lang/Enum" "ordinal" "I" (.int (4 : Int32)) := own_fldI ev_DOUBLE narrow_1_14
  have P_DOUBLE_size : Fld s s.heap a_DOUBLE "org/reachwatch/BasicType" "size" "I" (.int (8 : Int32)) := own_fldI ev_DOUBLE narrow_1_16
  have P_BOOLEAN_ordinal : Fld s s.heap a_BOOLEAN "java/lang/Enum" "ordinal" "I" (.int (1 : Int32)) := own_fldI ev_BOOLEAN narrow_1_20
  have P_BOOLEAN_size : Fld s s.heap a_BOOLEAN "org/reachwatch/BasicType" "size" "I" (.int (1 : Int32)) := own_fldI ev_BOOLEAN narrow_1_22
  have P_SHORT_ordinal : Fld s s.heap a_SHORT "java/lang/Enum" "ordinal" "I" (.int (6 : Int32)) := own_fldI ev_SHORT narrow_1_26
  have P_SHORT_size : Fld s s.heap a_SHORT "org/reachwatch/BasicType" "size" "I" (.int (2 : Int32)) := own_fldI ev_SHORT narrow_1_28
  have P_LONG_ordinal : Fld s s.heap a_LONG "java/lang/Enum" "ordinal" "I" (.int (8 : Int32)) := own_fldI ev_LONG narrow_1_32
  have P_LONG_size : Fld s s.heap a_LONG "org/reachwatch/BasicType" "size" "I" (.int (8 : Int32)) := own_fldI ev_LONG narrow_1_34
  have P_FLOAT_ordinal : Fld s s.heap a_FLOAT "java/lang/Enum" "ordinal" "I" (.int (3 : Int32)) := own_fldI ev_FLOAT narrow_1_38
  have P_FLOAT_size : Fld s s.heap a_FLOAT "org/reachwatch/BasicType" "size" "I" (.int (4 : Int32)) := own_fldI ev_FLOAT narrow_1_40
  have P_CHAR_ordinal : Fld s s.heap a_CHAR "java/lang/Enum" "ordinal" "I" (.int (2 : Int32)) := own_fldI ev_CHAR narrow_1_44
  have P_CHAR_size : Fld s s.heap a_CHAR "org/reachwatch/BasicType" "size" "I" (.int (2 : Int32)) := own_fldI ev_CHAR narrow_1_46
  have P_INT_ordinal : Fld s s.heap a_INT "java/lang/Enum" "ordinal" "I" (.int (7 : Int32)) := own_fldI ev_INT narrow_1_50
  have P_INT_size : Fld s s.heap a_INT "org/reachwatch/BasicType" "size" "I" (.int (4 : Int32)) := own_fldI ev_INT narrow_1_52
  have P_OBJECT_size : Fld s s.heap a_OBJECT "org/reachwatch/BasicType" "size" "I" (.int (0 : Int32)) := own_fldI ev_OBJECT narrow_1_53
  obtain ⟨n, o, h1, h2, h3, _, L, rfl, ⟨rfl, N⟩, hq⟩ := rm_law l s _ hw tables_1 i0 i1 a_OBJECT a_BYTE a_DOUBLE a_BOOLEAN a_SHORT a_LONG a_FLOAT a_CHAR a_INT s.heap s.heap.size (Old.start s) S_OBJECT E_OBJECT S_BYTE E_BYTE S_DOUBLE E_DOUBLE S_BOOLEAN E_BOOLEAN S_SHORT E_SHORT S_LONG E_LONG S_FLOAT E_FLOAT S_CHAR E_CHAR S_INT E_INT P_BYTE_ordinal P_OBJECT_ordinal P_BYTE_size P_DOUBLE_ordinal P_DOUBLE_size P_BOOLEAN_ordinal P_BOOLEAN_size P_SHORT_ordinal P_SHORT_size P_LONG_ordinal P_LONG_size P_FLOAT_ordinal P_FLOAT_size P_CHAR_ordinal P_CHAR_size P_INT_ordinal P_INT_size P_OBJECT_size p e ha hc hk s m _ below hf ((Spec.applies_iff_loose hf).mp happ).1 ⟨rfl, State.Warmed39.refl s, rfl⟩ trivial
  refine ⟨n, _, h1, h2, h3, hpost _ _ _ _ _ _ ⟨Cond.after_iff.mpr rfl, Cond.after_iff.mpr (eq_i res_at (Term.int_eval (1)) rfl), trivial⟩ ⟨hq.1, hq.2.1, (hq.2.2.sift fun y hy => Or.inr (N y hy)).mono (by decide) (by decide)⟩⟩
theorem main_1_1 : Claimed_1_1 := comes_1 fun _ _ _ _ _ _ h hF => ⟨h.1, hF⟩
theorem main_1_2 : Claimed_1_2 := comes_1 fun _ _ _ _ _ _ h hF => ⟨h.2.1, hF⟩
end Jvm.Pilot.@@N@@
namespace Jvm.Pilot.@@N@@
open Jvm Jvm.ClassFile Sem Op Lib Jvm.Free Jvm.Stand Jvm.Pilot.@@N@@.Jvm.D
/-! MADE BY PROGRAM (witnessworld.py) out of the Statement's table words and the real class files: 10 classes; the members and pool entries that the words name. The judged class is class 1, her method 1. -/
namespace start1
open Jvm.ClassFile
def u (s : String) : CpInfo := .utf8 (stringToUtf16 s)
/-- a pool by its gaps: so many unusable entries, then the entry; so many at the end -/
def gap : Nat → List CpInfo → List CpInfo
  | 0, r => r
  | n + 1, r => .unusable :: gap n r
def poolList (es : List (Nat × CpInfo)) (last : Nat) : List CpInfo := es.foldr (fun e r => gap e.1 (e.2 :: r)) (gap last [])
def pool (es : List (Nat × CpInfo)) (last : Nat) : Array CpInfo := ⟨poolList es last⟩
def fileOf (pool : Array CpInfo) (this : Nat) (attrs : Array Attribute := #[]) (ms : Array MethodInfo := #[]) (fl : Nat := 33) (sup : Nat := 0) (ifs : Array Nat := #[]) (fds : Array FieldInfo := #[]) : ClassFile where
  minorVersion := 0
  majorVersion := 65
  constantPool := pool
  accessFlags := fl
  thisClass := this
  superClass := sup
  interfaces := ifs
  fields := fds
  methods := ms
  attributes := attrs
def plain (name : String) (sup : Option ClassId) : Class where
  name := name
  kind := .ordinary
  loader := none
  accessFlags := 33
  super := sup
  interfaces := #[]
  cf := none
  fields := #[]
  methods := #[]
  instanceTypes := #[]
  staticTypes := #[]
  resolved := #[]
  callSites := []
  init := .initialized
  statics := none
  mirror := none

def pool0 : Array CpInfo := pool [(5, u "<init>"), (0, u "()V"), (1, .class_ 10), (1, u "java/lang/Object")] 113

def k0m0 : Method := { name := "<init>", desc := "()V", sig := { parameters := [], returnType := none }, accessFlags := 1, code := none }
/-- java/lang/Object -/
def k0 : Class := { plain "java/lang/Object" none with
  accessFlags := 33
  interfaces := #[]
  cf := some (fileOf pool0 8 #[] #[{ accessFlags := 1, nameIndex := 5, descriptorIndex := 6, attributes := #[] }] 33 0 #[] #[])
  fields := #[]
  methods := #[k0m0]
  instanceTypes := #[]
  staticTypes := #[]
  resolved := Array.replicate 124 none
  statics := none }

def pool1 : Array CpInfo := pool [(2, .class_ 4), (1, u "java/lang/Object"), (0, u "<init>"), (0, u "()V"), (0, .integer 2147483647), (0, .fieldref 9 10), (0, .class_ 11), (0, .nameAndType 12 13), (0, u "org/reachwatch/BasicType"), (0, u "OBJECT"), (0, u "Lorg/reachwatch/BasicType;"), (0, .fieldref 9 15), (0, .nameAndType 16 13), (0, u "BOOLEAN"), (0, .fieldref 9 18), (0, .nameAndType 19 13), (0, u "CHAR"), (0, .fieldref 9 21), (0, .nameAndType 22 13), (0, u "FLOAT"), (0, .fieldref 9 24), (0, .nameAndType 25 13), (0, u "DOUBLE"), (0, .fieldref 9 27), (0, .nameAndType 28 13), (0, u "BYTE"), (0, .fieldref 9 30), (0, .nameAndType 31 13), (0, u "SHORT"), (0, .fieldref 9 33), (0, .nameAndType 34 13), (0, u "INT"), (0, .fieldref 9 36), (0, .nameAndType 37 13), (0, u "LONG"), (0, .methodref 9 39), (0, .nameAndType 40 41), (0, u "size"), (0, u "(I)I"), (0, .class_ 43), (0, u "org/reachwatch/BasicTypeSizePinLaw"), (2, u "law"), (0, u "(II)Z")] 3

def k1m0 : Method := { name := "<init>", desc := "()V", sig := { parameters := [], returnType := none }, accessFlags := 1, code := none }
def k1c1 : Code := { maxStack := 2, maxLocals := 5, code := code, exceptionTable := #[], attributes := #[] }
def k1m1 : Method := { name := "law", desc := "(II)Z", sig := { parameters := [.int, .int], returnType := some .boolean }, accessFlags := 9, code := some k1c1 }
/-- org/reachwatch/BasicTypeSizePinLaw -/
def k1 : Class := { plain "org/reachwatch/BasicTypeSizePinLaw" (some 0) with
  accessFlags := 49
  interfaces := #[]
  cf := some (fileOf pool1 42 #[] #[{ accessFlags := 1, nameIndex := 5, descriptorIndex := 6, attributes := #[] }, { accessFlags := 9, nameIndex := 46, descriptorIndex := 47, attributes := #[] }] 49 2 #[] #[])
  fields := #[]
  methods := #[k1m0, k1m1]
  instanceTypes := #[]
  staticTypes := #[]
  resolved := Array.replicate 51 none
  statics := none }

def pool2 : Array CpInfo := pool [(1, .class_ 2), (0, u "java/lang/constant/Constable"), (0, .class_ 4), (0, u "java/lang/Object")] 6

/-- java/lang/constant/Constable -/
def k2 : Class := { plain "java/lang/constant/Constable" (some 0) with
  accessFlags := 1537
  interfaces := #[]
  cf := some (fileOf pool2 1 #[] #[] 1537 3 #[] #[])
  fields := #[]
  methods := #[]
  instanceTypes := #[]
  staticTypes := #[]
  resolved := Array.replicate 11 none
  statics := none }

def pool3 : Array CpInfo := pool [(1, .class_ 2), (0, u "java/lang/Comparable"), (0, .class_ 4), (0, u "java/lang/Object")] 7

/-- java/lang/Comparable -/
def k3 : Class := { plain "java/lang/Comparable" (some 0) with
  accessFlags := 1537
  interfaces := #[]
  cf := some (fileOf pool3 1 #[] #[] 1537 3 #[] #[])
  fields := #[]
  methods := #[]
  instanceTypes := #[]
  staticTypes := #[]
  resolved := Array.replicate 12 none
  statics := none }

def pool4 : Array CpInfo := pool [(1, .class_ 2), (0, u "java/io/Serializable"), (0, .class_ 4), (0, u "java/lang/Object")] 2

/-- java/io/Serializable -/
def k4 : Class := { plain "java/io/Serializable" (some 0) with
  accessFlags := 1537
  interfaces := #[]
  cf := some (fileOf pool4 1 #[] #[] 1537 3 #[] #[])
  fields := #[]
  methods := #[]
  instanceTypes := #[]
  staticTypes := #[]
  resolved := Array.replicate 7 none
  statics := none }

def pool5 : Array CpInfo := pool [(2, .class_ 4), (1, u "java/lang/Enum"), (0, u "name"), (0, u "Ljava/lang/String;"), (2, u "ordinal"), (0, u "I"), (1, .class_ 14), (1, u "java/lang/Object"), (4, u "hash"), (86, .class_ 108), (1, u "java/lang/Enum$EnumDesc"), (2, .class_ 112), (0, u "java/lang/constant/Constable"), (0, .class_ 114), (0, u "java/lang/Comparable"), (0, .class_ 116), (0, u "java/io/Serializable")] 87

/-- java/lang/Enum -/
def k5 : Class := { plain "java/lang/Enum" (some 0) with
  accessFlags := 1057
  interfaces := #[2, 3, 4]
  cf := some (fileOf pool5 2 #[.nestMembers #[106]] #[] 1057 12 #[111, 113, 115] #[{ accessFlags := 18, nameIndex := 5, descriptorIndex := 6, attributes := #[] }, { accessFlags := 18, nameIndex := 9, descriptorIndex := 10, attributes := #[] }, { accessFlags := 2, nameIndex := 19, descriptorIndex := 10, attributes := #[] }])
  fields := #[{ name := "name", type := (.object "java/lang/String"), accessFlags := 18, slot := 0, constantValue := 0 }, { name := "ordinal", type := .int, accessFlags := 18, slot := 1, constantValue := 0 }, { name := "hash", type := .int, accessFlags := 2, slot := 2, constantValue := 0 }]
  methods := #[]
  instanceTypes := #[(.object "java/lang/String"), .int, .int]
  staticTypes := #[]
  resolved := Array.replicate 204 none
  statics := none }

def pool6 : Array CpInfo := pool [(1, .class_ 2), (0, u "org/reachwatch/BasicType"), (0, .fieldref 1 4), (0, .nameAndType 5 6), (0, u "OBJECT"), (0, u "Lorg/reachwatch/BasicType;"), (2, u "BOOLEAN"), (2, u "CHAR"), (2, u "FLOAT"), (2, u "DOUBLE"), (2, u "BYTE"), (2, u "SHORT"), (2, u "INT"), (2, u "LONG"), (2, u "$VALUES"), (0, u "[Lorg/reachwatch/BasicType;"), (6, .class_ 43), (1, u "java/lang/Enum"), (8, u "code"), (0, u "I"), (2, u "descriptor"), (0, u "C"), (0, .fieldref 1 59), (0, .nameAndType 60 53), (0, u "size"), (2, u "BY_CODE"), (41, u "(I)I")] 24

def k6c0 : Code := { maxStack := 2, maxLocals := 2, code := prog_1_method_5_code, exceptionTable := #[], attributes := #[] }
def k6m0 : Method := { name := "size", desc := "(I)I", sig := { parameters := [.int], returnType := some .int }, accessFlags := 0, code := some k6c0 }
/-- org/reachwatch/BasicType -/
def k6 : Class := { plain "org/reachwatch/BasicType" (some 5) with
  accessFlags := 16432
  interfaces := #[]
  cf := some (fileOf pool6 1 #[] #[{ accessFlags := 0, nameIndex := 60, descriptorIndex := 105, attributes := #[] }] 16432 41 #[] #[{ accessFlags := 16409, nameIndex := 5, descriptorIndex := 6, attributes := #[] }, { accessFlags := 16409, nameIndex := 9, descriptorIndex := 6, attributes := #[] }, { accessFlags := 16409, nameIndex := 12, descriptorIndex := 6, attributes := #[] }, { accessFlags := 16409, nameIndex := 15, descriptorIndex := 6, attributes := #[] }, { accessFlags := 16409, nameIndex := 18, descriptorIndex := 6, attributes := #[] }, { accessFlags := 16409, nameIndex := 21, descriptorIndex := 6, attributes := #[] }, { accessFlags := 16409, nameIndex := 24, descriptorIndex := 6, attributes := #[] }, { accessFlags := 16409, nameIndex := 27, descriptorIndex := 6, attributes := #[] }, { accessFlags := 16409, nameIndex := 30, descriptorIndex := 6, attributes := #[] }, { accessFlags := 26, nameIndex := 63, descriptorIndex := 34, attributes := #[] }, { accessFlags := 18, nameIndex := 52, descriptorIndex := 53, attributes := #[] }, { accessFlags := 18, nameIndex := 56, descriptorIndex := 57, attributes := #[] }, { accessFlags := 18, nameIndex := 60, descriptorIndex := 53, attributes := #[] }, { accessFlags := 4122, nameIndex := 33, descriptorIndex := 34, attributes := #[] }])
  fields := #[{ name := "OBJECT", type := (.object "org/reachwatch/BasicType"), accessFlags := 16409, slot := 0, constantValue := 0 }, { name := "BOOLEAN", type := (.object "org/reachwatch/BasicType"), accessFlags := 16409, slot := 1, constantValue := 0 }, { name := "CHAR", type := (.object "org/reachwatch/BasicType"), accessFlags := 16409, slot := 2, constantValue := 0 }, { name := "FLOAT", type := (.object "org/reachwatch/BasicType"), accessFlags := 16409, slot := 3, constantValue := 0 }, { name := "DOUBLE", type := (.object "org/reachwatch/BasicType"), accessFlags := 16409, slot := 4, constantValue := 0 }, { name := "BYTE", type := (.object "org/reachwatch/BasicType"), accessFlags := 16409, slot := 5, constantValue := 0 }, { name := "SHORT", type := (.object "org/reachwatch/BasicType"), accessFlags := 16409, slot := 6, constantValue := 0 }, { name := "INT", type := (.object "org/reachwatch/BasicType"), accessFlags := 16409, slot := 7, constantValue := 0 }, { name := "LONG", type := (.object "org/reachwatch/BasicType"), accessFlags := 16409, slot := 8, constantValue := 0 }, { name := "BY_CODE", type := (.array (.object "org/reachwatch/BasicType")), accessFlags := 26, slot := 9, constantValue := 0 }, { name := "code", type := .int, accessFlags := 18, slot := 3, constantValue := 0 }, { name := "descriptor", type := .char, accessFlags := 18, slot := 4, constantValue := 0 }, { name := "size", type := .int, accessFlags := 18, slot := 5, constantValue := 0 }, { name := "$VALUES", type := (.array (.object "org/reachwatch/BasicType")), accessFlags := 4122, slot := 10, constantValue := 0 }]
  methods := #[k6m0]
  instanceTypes := #[(.object "java/lang/String"), .int, .int, .int, .char, .int]
  staticTypes := #[(.object "org/reachwatch/BasicType"), (.object "org/reachwatch/BasicType"), (.object "org/reachwatch/BasicType"), (.object "org/reachwatch/BasicType"), (.object "org/reachwatch/BasicType"), (.object "org/reachwatch/BasicType"), (.object "org/reachwatch/BasicType"), (.object "org/reachwatch/BasicType"), (.object "org/reachwatch/BasicType"), (.array (.object "org/reachwatch/BasicType")), (.array (.object "org/reachwatch/BasicType"))]
  resolved := Array.replicate 130 none
  statics := some 0 }

def pool7 : Array CpInfo := pool [(1, u "java/lang/Cloneable"), (0, .class_ 1), (0, u "java/lang/Object"), (0, .class_ 3)] 3

/-- java/lang/Cloneable -/
def k7 : Class := { plain "java/lang/Cloneable" (some 0) with
  accessFlags := 1537
  interfaces := #[]
  cf := some (fileOf pool7 2 #[] #[] 1537 4 #[] #[])
  fields := #[]
  methods := #[]
  instanceTypes := #[]
  staticTypes := #[]
  resolved := Array.replicate 8 none
  statics := none }

/-- the primitive byte -/
def k8 : Class := { plain "byte" none with kind := .primitive 'B', accessFlags := 0x411 }
/-- [B -/
def k9 : Class := { plain "[B" (some 0) with kind := .array 8 .byte, interfaces := #[7, 4], accessFlags := 1041 }

def heap : Heap := #[{ cls := 6, slots := #[.ref 1, .ref 4, .ref 8, .ref 7, .ref 3, .ref 2, .ref 5, .ref 9, .ref 6, .null, .null], vm := .statics 6 },
  { cls := 6, slots := #[.null, .int 0, .int 0, .int 0, .int 0, .int 0], vm := .none },
  { cls := 6, slots := #[.null, .int 5, .int 0, .int 0, .int 0, .int 1], vm := .none },
  { cls := 6, slots := #[.null, .int 4, .int 0, .int 0, .int 0, .int 8], vm := .none },
  { cls := 6, slots := #[.null, .int 1, .int 0, .int 0, .int 0, .int 1], vm := .none },
  { cls := 6, slots := #[.null, .int 6, .int 0, .int 0, .int 0, .int 2], vm := .none },
  { cls := 6, slots := #[.null, .int 8, .int 0, .int 0, .int 0, .int 8], vm := .none },
  { cls := 6, slots := #[.null, .int 3, .int 0, .int 0, .int 0, .int 4], vm := .none },
  { cls := 6, slots := #[.null, .int 2, .int 0, .int 0, .int 0, .int 2], vm := .none },
  { cls := 6, slots := #[.null, .int 7, .int 0, .int 0, .int 0, .int 4], vm := .none }]
def classes : Array Class := #[k0, k1, k2, k3, k4, k5, k6, k7, k8, k9]
def interned : List (Array UInt16 × Addr) := []
def slotsUsed : Nat := 65
def theMethod : MethodId := ⟨1, 1⟩
def args0 : Array Value := #[.int 5, .int 4]
def aboutOver (below : List Frame) : State where
  vm := { classes := classes, interned := interned.toArray }
  heap := heap
  slotsUsed := slotsUsed
  threads := #[{ frames := .invoking theMethod args0 :: below }]
def below0 : List Frame := [.native { method := ⟨0, 0⟩, args := #[] }]
def about1 : State := aboutOver below0
def p0 : Program := .bare "" "" ""
def e0 : Env := launch0.env 0 0 0
theorem w_frames : about1.frames = Frame.invoking theMethod args0 :: below0 := rfl
set_option maxRecDepth 65536 in
theorem w_args : argsFit about1.vm theMethod args0 = true := by decide +kernel
set_option maxRecDepth 65536 in
theorem w_heap : heapFits about1 = true := by decide +kernel
set_option maxRecDepth 65536 in
theorem w_runnable : about1.curStatus? = some .runnable := by decide +kernel
set_option maxRecDepth 65536 in
theorem w_alone : about1.alone = true := by decide +kernel
set_option maxRecDepth 65536 in
theorem w_named : about1.methodNamed? x = some theMethod := by decide +kernel
set_option maxRecDepth 65536 in
theorem w_hears : about1.hears theMethod below0 = true := by decide +kernel
set_option maxRecDepth 65536 in
theorem w_ripe : about1.ripe theMethod args0 below0 = true := by decide +kernel
theorem w_running : about1.status = .running := rfl
set_option maxRecDepth 65536 in
theorem w_room : about1.hasRoom e0.platform room_1 = true :=
  launch0.hasRoom_least _ room_1 (by decide +kernel) (by decide +kernel) (by decide +kernel) (by decide +kernel) (by decide +kernel) (by decide +kernel)
theorem allAtoms_all (ts : List Jvm.Cond) (a : Array Jvm.Value) (st : Jvm.State) : (allAtoms ts).before a st = ts.all (fun c => c.before a st) := by
  induction ts with
  | nil => rfl
  | cons c t ih =>
    show (Jvm.Cond.and c (allAtoms t)).before a st = _
    rw [Jvm.Cond.before_and, ih, List.all_cons]
def words1 : List Jvm.Cond := Jvm.Cond.code x code maxLocals ret :: tables_1
/-- a 'code' word, met by the world's own term for the bytes: nothing is compared byte by byte -/
theorem code_word {y : MethodName} {bytes : ByteArray} {mx : Nat} {rt : Option FieldType} {a : Array Value} {s : State} {m : MethodId} {meth : Method} {c : Code} (h1 : s.methodNamed? y = some m) (h2 : s.vm.method? m = some meth) (h3 : meth.code = some c) (h4 : c.code = bytes)
    (h5 : (c.maxLocals == mx && c.exceptionTable.isEmpty && decide (c.maxStack ≤ mostOperands) && decide (meth.sig.returnType = rt) && !meth.locks && decide (parseMethodDescriptor y.desc = some meth.sig)) = true) : (Jvm.Cond.code y bytes mx rt).before a s = true := by
  simp only [Bool.and_eq_true, beq_iff_eq, Bool.not_eq_true', decide_eq_true_eq] at h5
  obtain ⟨⟨⟨⟨⟨g1, g2⟩, g3⟩, g4⟩, g5⟩, g6⟩ := h5
  simp [Cond.before, Cond.holds, Cond.value, h1, h2, h3, h4, g1, g2, g3, g4, g5, g6]
def isCode : Jvm.Cond → Bool
  | .code _ _ _ _ => true
  | _ => false
theorem all_split {L : List Jvm.Cond} {P : Jvm.Cond → Bool} (h1 : L.all (fun c => isCode c || P c) = true) (h2 : ∀ c ∈ L.filter isCode, P c = true) : L.all P = true := by
  refine List.all_eq_true.mpr fun c hc => ?_
  have h := List.all_eq_true.mp h1 c hc
  rcases Bool.eq_false_or_eq_true (isCode c) with hi | hi
  · exact h2 c (List.mem_filter.mpr ⟨hc, hi⟩)
  · simpa [hi] using h
set_option maxRecDepth 65536 in
theorem w_c0 : (Jvm.Cond.code x code maxLocals ret).before args0 about1 = true := code_word (m := ⟨1, 1⟩) (meth := k1m1) (c := k1c1) (by decide +kernel) rfl rfl rfl (by decide +kernel)
set_option maxRecDepth 65536 in
theorem w_c1 : (Jvm.Cond.code ({ cls := "org/reachwatch/BasicType", name := "size", desc := "(I)I" } : Jvm.MethodName) prog_1_method_5_code (2 : Nat) (Option.some Jvm.ClassFile.FieldType.int)).before args0 about1 = true := code_word (m := ⟨6, 0⟩) (meth := k6m0) (c := k6c0) (by decide +kernel) rfl rfl rfl (by decide +kernel)
def codes1 : List Jvm.Cond := [Jvm.Cond.code x code maxLocals ret, Jvm.Cond.code ({ cls := "org/reachwatch/BasicType", name := "size", desc := "(I)I" } : Jvm.MethodName) prog_1_method_5_code (2 : Nat) (Option.some Jvm.ClassFile.FieldType.int)]
set_option maxRecDepth 65536 in
theorem codes_eq : words1.filter isCode = codes1 := rfl
theorem w_codes : ∀ c ∈ words1.filter isCode, c.before args0 about1 = true := by
  rw [codes_eq]
  intro c hc
  simp only [codes1, List.mem_cons, List.not_mem_nil, or_false] at hc
  rcases hc with rfl | rfl
  · exact w_c0
  · exact w_c1
set_option maxRecDepth 65536 in
theorem w_t1 : (words1.take 24).all (fun c => isCode c || c.before args0 about1) = true := by decide +kernel
set_option maxRecDepth 65536 in
theorem w_t2 : (words1.drop 24).all (fun c => isCode c || c.before args0 about1) = true := by decide +kernel
theorem w_tables : (allAtoms (Jvm.Cond.code x code maxLocals ret :: tables_1)).before args0 about1 = true := by
  rw [allAtoms_all]
  show words1.all (fun c => c.before args0 about1) = true
  refine all_split ?_ w_codes
  rw [← List.take_append_drop 24 words1, List.all_append, w_t1, w_t2]
  rfl
set_option maxRecDepth 65536 in
theorem w_case : (Jvm.Cond.and given_1 narrow_1).before args0 about1 = true := by decide +kernel
theorem w_applies : (headSpec (Jvm.Cond.code x code maxLocals ret :: tables_1) room_1).applies x e0.platform about1 = true :=
  (Spec.applies_iff w_frames).mpr ⟨w_running, w_runnable, w_alone, w_named, w_hears, w_ripe, w_room, w_tables⟩
theorem atStart : AtStart classFile x code maxLocals ret World_1 tables_1 room_1 Calls_1 rest_1 Pre_1 launch0 p0 e0 about1 theMethod args0 below0 :=
  ⟨lists_1, trivial, launch0.admits_env _ _ _, launch0.least_env, fairChoices_fair.cas, fairChoices_fair.clock, w_frames, w_args, w_heap, w_applies, trivial, trivial, w_case⟩
end start1
theorem witness_1 : WitnessClaimed_1 := ⟨start1.p0, start1.e0, start1.about1, start1.theMethod, start1.args0, start1.below0, start1.atStart⟩
end Jvm.Pilot.@@N@@
