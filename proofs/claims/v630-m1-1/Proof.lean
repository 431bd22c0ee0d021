import JvmDerived
import JvmDerived.Pilot.@@N@@Statement
import JvmDerived.Pilot.@@N@@Code
set_option linter.unusedVariables false
set_option linter.unusedSimpArgs false
@@BLOCK:NumsL.lean.txt@@
namespace Jvm.RoadKit
open Sem ClassFile Op Lib Jvm.Stand Jvm.Free Jvm.LawKit
section New
variable {p : Program} {l : Launch} {e : Env} {R : Room} {s : State} {m : MethodId} {args : Array Value} {below : List Frame} {meth : Method} {c : Code} {T : State} {locs : List Loc} {cells slots : Nat}
theorem retI (X : Stand p l e R s m args below meth c T locs cells slots) (hx : p.tables.exec = Jvm.exec) {pc : Nat} {Ls : Array Slot} {z : Int32} {rest : List Value} (hret : meth.sig.returnType = some .int) (hd : decode c.code pc = .ok (.ireturn, 1)) {fs : List Frame}
    (hl : ∀ (f : JFrame) (acts : List Action), f.method = m → f.locked = none → f.entered = [] → (doReturn e (T.setTop f) acts (some (.int z))).1 = T.setFrames fs) : Steps p.tables e below (T.setTop (mkF m pc Ls (.int z :: rest))) (T.setFrames fs) := by
  have hm' : T.vm.method? m = some meth := X.method'
  have hn : narrow .int (.int z) = .int z := rfl
  show Steps p.tables e below (T.setTop { method := m, pc := pc, locals := Ls, stack := _ :: rest, locked := none }) _
  jvm_step X.here [X.here.top, hx, hd, hm', hret, hn]
  first | (intro acts; rw [hl _ acts rfl rfl rfl]) | rw [hl _ _ rfl rfl rfl]
  exact Steps.refl _
end New
end Jvm.RoadKit
namespace Jvm.Pilot.@@N@@
open Jvm Jvm.ClassFile Sem Op Lib Jvm.Free Jvm.Stand Jvm.LawKit Jvm.RoadKit Bundle Jvm.Pilot.@@N@@.Jvm.D
theorem own_fld_ne {Z : State} {h : Heap} {a b : Addr} {C n d : String} {v w : Value} (F : Fld Z h a C n d v) (G : Fld Z h b C n d w) (q : v ≠ w) : a ≠ b := fun e => by
  subst e
  obtain ⟨c1, cf1, k1, i1, f1, a1, a2, -, -, -, -, a7⟩ := F
  obtain ⟨c2, cf2, k2, i2, f2, b1, b2, -, -, -, -, b7⟩ := G
  cases a1.symm.trans b1
  cases a2.symm.trans b2
  exact q (Option.some.inj (a7.symm.trans b7))
theorem own_fldI {args : Array Value} {s : State} {t : Term} {a : Addr} {C n d : String} {k : Int32} (ht : t.eval args s none [] s = some (.ref a)) (h : (Jvm.Cond.eq (Term.field t C n d) (Term.int k)).value args s none s [] = some true) : Fld s s.heap a C n d (.int k) := by
  apply Fld.start
  have e1 : (Term.field t C n d).eval args s none [] s = s.fieldOf? a C n d := fld_at ht
  have e2 : (Term.int k).eval args s none [] s = some (.int k) := Term.int_eval k
  simp only [Cond.value, e1, e2] at h
  split at h <;> simp_all
theorem own_nm0 {a : Addr} : a ∉ ([] : List Addr) := List.not_mem_nil
theorem own_nm1 {a x : Addr} (h : a ≠ x) : a ∉ [x] := fun q => h (List.mem_singleton.mp q)
theorem own_nm2 {a x y : Addr} (h : a ≠ x) (h2 : a ≠ y) : a ∉ [x, y] := fun q => by
  rcases List.mem_cons.mp q with q | q
  · exact h q
  · exact h2 (List.mem_singleton.mp q)
theorem own_nm3 {a x y z : Addr} (h : a ≠ x) (h2 : a ≠ y) (h3 : a ≠ z) : a ∉ [x, y, z] := fun q => by
  rcases List.mem_cons.mp q with q | q
  · exact h q
  · exact own_nm2 h2 h3 q
theorem own_all0 {P : Addr → Prop} : ∀ x ∈ ([] : List Addr), P x := fun x q => (List.not_mem_nil q).elim
theorem own_all1 {P : Addr → Prop} {a : Addr} (h : P a) : ∀ x ∈ [a], P x := fun x q => by rw [List.mem_singleton.mp q]; exact h
theorem own_all2 {P : Addr → Prop} {a b : Addr} (h : P a) (h2 : P b) : ∀ x ∈ [a, b], P x := fun x q => by
  rcases List.mem_cons.mp q with q | q
  · rw [q]; exact h
  · rw [List.mem_singleton.mp q]; exact h2
theorem own_all3 {P : Addr → Prop} {a b c : Addr} (h : P a) (h2 : P b) (h3 : P c) : ∀ x ∈ [a, b, c], P x := fun x q => by
  rcases List.mem_cons.mp q with q | q
  · rw [q]; exact h
  · exact own_all2 h2 h3 x q
def own_mir (Z : State) (C : String) (m : Addr) : Prop := ∃ (c : ClassId) (k : Class), Z.vm.findClass C = some c ∧ Z.vm.classes[c]? = some k ∧ k.mirror = some m
theorem own_mir_eval {Z s : State} {C : String} {mr : Addr} {args : Array Value} (hZ : Z.Warmed39 s.vm) (M : own_mir Z C mr) : (Term.mirror C).eval args s none [] s = some (.ref mr) := by
  obtain ⟨c, k, h1, h2, h3⟩ := M
  obtain ⟨k', q1, q2⟩ := hZ.alike.2.2 _ _ h2
  have q3 : s.vm.findClass C = some c := by rw [hZ.alike.findClass]; exact h1
  have q4 : k'.mirror = some mr := by rw [q2]; exact h3
  simp [Term.eval, q3, q1, q4]
section Gcls
variable {p : Program} {l : Launch} {e : Env} {R : Room} {s : State} {m : MethodId} {args : Array Value} {below : List Frame} {meth : Method} {c : Code} {T : State} {locs : List Loc} {cells slots : Nat} {Z : State} {a0 : Array Value} {h : Heap}
theorem own_pdgc : parseMethodDescriptor "()Ljava/lang/Class;" = some ⟨[], some (.object "java/lang/Class")⟩ := by decide +kernel
theorem own_gcls (X : Stand p l e R s m args below meth c T locs cells slots) (hx : p.tables.exec = Jvm.exec) (hZ : Z.Warmed39 s.vm) {own C : String} {index : Nat} (hown : s.vm.findClass own = some m.cls)
    (w1 : (Jvm.Cond.methodLink own index ⟨"java/lang/Object", "getClass", "()Ljava/lang/Class;"⟩).before a0 Z = true) (w2 : (Jvm.Cond.declares ⟨"java/lang/Object", "getClass", "()Ljava/lang/Class;"⟩).before a0 Z = true)
    (w4 : (Jvm.Cond.selects C ⟨"java/lang/Object", "getClass", "()Ljava/lang/Class;"⟩ ⟨"java/lang/Object", "getClass", "()Ljava/lang/Class;"⟩).before a0 Z = true)
    (w5 : (Jvm.Cond.instanceMethod ⟨"java/lang/Object", "getClass", "()Ljava/lang/Class;"⟩).before a0 Z = true) (w6 : (Jvm.Cond.native ⟨"java/lang/Object", "getClass", "()Ljava/lang/Class;"⟩).before a0 Z = true) (eT : T.heap = h) {a : Addr} (E : Exa Z h a C) {mr : Addr} (M : own_mir Z C mr)
    {g : JFrame} (hg : g.method = m) (hsize : g.locals.size = c.maxLocals) {rest : List Value} (hs : g.stack = .ref a :: rest) (hd : decode c.code g.pc = .ok (.invokevirtual index, 3)) (hf : 1 ≤ R.frames) {W : Nat} (hW : 2 * g.monitorRoom + (rest.map fun v => v.category).sum ≤ W) (hl : W + 14 ≤ R.locals) :
    ∃ T', Stand p l e R s m args below meth c T' locs cells slots ∧ T'.heap = h ∧ ∀ target, Steps p.tables e below (T'.setTop { g with pc := g.pc + 3, stack := .ref mr :: rest }) target → Steps p.tables e below (T.setTop g) target := by
  obtain ⟨cB, kB, q1, q2, q3⟩ := isOf hZ eT E
  obtain ⟨cM, kM, m1, m2, m3⟩ := M
  have hcc : cB = cM := by
    have := hZ.alike.findClass C none
    rw [this, m1] at q1
    exact (Option.some.inj q1).symm
  subst hcc
  have hP : ∀ vm₁, s.WarmedH vm₁ → Jvm.Free.NT.GetClass.P (a, cB, kM, mr) #[.ref a] (T.setVm vm₁) := fun vm₁ hv => by
    have hal : Z.vm.Alike (T.setVm vm₁).vm := (wtrans (U := T.setVm vm₁) hZ hv).alike
    exact ⟨rfl, q3, (Jvm.Free.NT.RecordOf.of (U := Z) m2).move hal, m3⟩
  obtain ⟨v, vm1, B, hv1, X', ⟨hB, hval⟩, st⟩ := X.virtualBack hx (y := Jvm.Free.NT.getClassN) (z := Jvm.Free.NT.getClassN) hown (mvT hZ w1) (mvT hZ w2) (notFace_of_selects (args := #[]) (mvT hZ w4)) (mvT hZ w4) (mvT hZ w5) (by decide) (Jvm.Free.NT.GetClass.pays (W := W) (mvT hZ w6) (mvT hZ w5) hf hl) q1 q3 hg hsize (Steps.refl _) (argsL := []) (rest := rest) (lenOf own_pdgc rfl) hs hW hd (fun vm₁ hv => ⟨_, hP vm₁ hv⟩)
  have hvv := hval _ (hP vm1 hv1)
  subst hB
  subst hvv
  exact ⟨_, X', eT, fun target k => st.trans k⟩
end Gcls
def own_cache (Z : State) (ac : Addr) : Prop := ∃ cl : Cell, Arr Z Z.heap ac cl (.object "java/lang/Integer") ∧ cl.slots.size = 256 ∧ ∀ j, j < 256 → ∃ r : Addr, cl.slots[j]? = some (.ref r) ∧ Exa Z Z.heap r "java/lang/Integer"
theorem own_eqI {args : Array Value} {s : State} {t : Term} {k : Int32} (h : (Jvm.Cond.eq t (Term.int k)).value args s none s [] = some true) : t.eval args s none [] s = some (.int k) := by
  have e2 : (Term.int k).eval args s none [] s = some (.int k) := Term.int_eval k
  simp only [Cond.value, e2] at h
  split at h <;> simp_all
theorem own_cache_start {args : Array Value} {s : State} {ac : Addr} {C n d : String} (ev : (Term.static C n d).eval args s none [] s = some (.ref ac)) (h1 : (Jvm.Cond.arrayOf (Term.static C n d) (.object "java/lang/Integer")).value args s none s [] = some true)
    (h2 : (Jvm.Cond.eq (Term.length (Term.static C n d)) (Term.int (256 : Int32))).value args s none s [] = some true) {X : Jvm.Cond} (h3 : (Jvm.Cond.all (Term.static C n d) (Jvm.Cond.and (Jvm.Cond.exactly (Term.elem (Term.static C n d) (Term.index 0)) "java/lang/Integer") X)).value args s none s [] = some true) : own_cache s ac := by
  obtain ⟨cl, A⟩ := Arr.start ev h1
  have hat : s.arrayAt? ac = some cl := Jvm.Free.IntBox.arrayAt_of A.1 A.2.1 A.2.2
  obtain ⟨z1, z2⟩ := Jvm.Free.IntBox.length_fwd (args := args) (Cond.before_iff.mpr h2) ev A.1 A.2.1 A.2.2
  have z3 : cl.slots.size = 256 := by
    have := len_toInt z1
    rw [z2] at this
    have c : ((256 : Int32)).toInt = 256 := by decide
    omega
  refine ⟨cl, A, z3, fun j hj => ?_⟩
  have q := Cond.all_elim ev hat h3 j (by omega)
  obtain ⟨q1, -⟩ := and_e q
  obtain ⟨r, cc, cell, k, e1, e2, e3, e4, e5, e6, e7⟩ := Cond.exactly_spec (show (Jvm.Cond.exactly (Term.elem (Term.static C n d) (Term.index 0)) "java/lang/Integer").holds args s none s [j] = true from by simp [Cond.holds, q1])
  have ej : (Term.index 0).eval args s none [j] s = some (.int j.toInt32) := rfl
  obtain ⟨-, g2⟩ := elem_in e1 (show (Term.static C n d).eval args s none [j] s = some (.ref ac) from ev) ej A.1
  rw [(Jvm.Free.IntBox.place_nonneg j hj).2] at g2
  subst e6
  exact ⟨r, g2, cell, k, e3, e2, e4, e5, e7⟩
theorem own_arv0 {args : Array Value} {s : State} {a : Addr} {t : Term} {ty : FieldType} {dv : Value} (hf : Fit s) (ev : t.eval args s none [] s = some (.ref a)) (h1 : (Jvm.Cond.arrayOf t ty).value args s none s [] = some true)
    (h2 : (Jvm.Cond.eq (Term.length t) (Term.int (0 : Int32))).value args s none s [] = some true) : ∃ k : ClassId, Arv s s.heap a k ty (0 : Int32) [] dv := by
  obtain ⟨cl, A⟩ := Arr.start ev h1
  obtain ⟨z1, z2⟩ := Jvm.Free.IntBox.length_fwd (args := args) (Cond.before_iff.mpr h2) ev A.1 A.2.1 A.2.2
  exact ⟨cl.cls, Arv.start hf A z1 z2 (by decide) (by decide) trivial⟩
theorem pn_0 : plainName "java/lang/Integer" = true := by first | (simp [plainName, overriddenIn]; done) | decide +kernel
theorem ef_1 (m : MethodId) (x0 : Int32) : entryFrame m #[(.int x0)] 1 = mkF m 0 #[.val (.int x0)] [] := by first | (simp [entryFrame, mkF, argsToLocals, Value.category]; done) | rfl
theorem d3_0 : decode jdk_33_method_22_code 0 = .ok (.iload_n 0, 1) := by decide +kernel
theorem d3_1 : decode jdk_33_method_22_code 1 = .ok (.bipush (-128), 2) := by decide +kernel
theorem d3_3 : decode jdk_33_method_22_code 3 = .ok (.if_icmp .lt 20, 3) := by decide +kernel
theorem d3_23 : decode jdk_33_method_22_code 23 = .ok (.new 1, 3) := by decide +kernel
theorem d3_26 : decode jdk_33_method_22_code 26 = .ok (.dup, 1) := by decide +kernel
theorem d3_27 : decode jdk_33_method_22_code 27 = .ok (.iload_n 0, 1) := by decide +kernel
theorem d3_28 : decode jdk_33_method_22_code 28 = .ok (.invokespecial 199, 3) := by decide +kernel
theorem d8_0 : decode jdk_33_method_23_code 0 = .ok (.aload_n 0, 1) := by decide +kernel
theorem d8_1 : decode jdk_33_method_23_code 1 = .ok (.invokespecial 202, 3) := by decide +kernel
theorem d9_0 : decode jdk_18_method_1_code 0 = .ok (.aload_n 0, 1) := by decide +kernel
theorem d9_1 : decode jdk_18_method_1_code 1 = .ok (.invokespecial 1, 3) := by decide +kernel
theorem d9_4 : decode jdk_18_method_1_code 4 = .ok (.return_, 1) := by decide +kernel
theorem pn_2 : plainName "java/lang/Number" = true := by first | (simp [plainName, overriddenIn]; done) | decide +kernel
theorem ef_3 (m : MethodId) (x0 : Addr) : entryFrame m #[(.ref x0)] 1 = mkF m 0 #[.val (.ref x0)] [] := by first | (simp [entryFrame, mkF, argsToLocals, Value.category]; done) | rfl
def Q_init9_0 (Z : State) (b4 : Addr) (h0 : Heap) (n0 : Nat) (v : Option Value) (h : Heap) (L : List Loc) : Prop := v = none ∧ Fr n0 L ∧ h = h0
set_option maxRecDepth 65536 in
set_option maxHeartbeats 40000000 in
theorem rm_init9_0 (l : Launch) (Z : State) (a0 : Array Value) (hw : ∀ d ∈ tables_1, d.before a0 Z = true) (ws : List Jvm.Cond) (b4 : Addr) (h0 : Heap) (n0 : Nat) (O0 : Old Z n0 h0) :
    MetFree l (⟨"java/lang/Number", "<init>", "()V"⟩ : MethodName) (head1 (Jvm.Cond.code (⟨"java/lang/Number", "<init>", "()V"⟩ : MethodName) jdk_18_method_1_code 1 none :: ws) ({ frames := 1, cells := 0, slots := 0, locals := 12 } : Room)) (fun a U => a = #[(.ref b4)] ∧ Z.Warmed39 U.vm ∧ U.heap = h0) (fun _ _ _ _ _ => True) (fun _ U o U' => ∃ v L, o = .returned v ∧ Q_init9_0 Z b4 h0 n0 v U'.heap L ∧ FrameEnd U o U' L ({ frames := 1, cells := 0, slots := 0, locals := 12 } : Room).cells ({ frames := 1, cells := 0, slots := 0, locals := 12 } : Room).slots) := by
  refine MetFree.of_bodySF (plainFor_of_name pn_2) hisR ?_
  intro p e s m args below meth c s₁ Bd hml0 hP hK
  have W := fun {d : Jvm.Cond} (i : Nat) (q : tables_1[i]? = some d) => hw d (List.mem_of_getElem? q)
  obtain ⟨rfl, hZ, hh⟩ := hP
  have hx := Bd.exec
  have hby := Bd.bytes
  have hml : c.maxLocals = 1 := hml0
  have hown : s.vm.findClass "java/lang/Number" = some m.cls := findClass_of_methodNamed Bd.named
  have hnm := (name_of_methodNamed Bd.named Bd.method).1
  have X0 : Stand p l e ({ frames := 1, cells := 0, slots := 0, locals := 12 } : Room) s m #[(.ref b4)] below meth c s₁ [] 0 0 := Stand.of_body Bd
  have e0 : s₁.heap = h0 := by rw [← hh, Bd.state]; rfl
  have N0 := Fr.nil n0
  have pre0 : ∀ t, Steps p.tables e below (s₁.setTop (mkF m 0 #[rv b4] [])) t → Steps p.tables e below (s₁.setTop (entryFrame m #[(.ref b4)] 1)) t := fun t k => castTop (ef_3 m b4) k
  have K0 : Keep h0 h0 [] := Keep.refl h0 []
  have pre18 : ∀ t, Steps p.tables e below (s₁.setTop (mkF m 1 #[rv b4] [(.ref b4)])) t → Steps p.tables e below (s₁.setTop (entryFrame m #[(.ref b4)] 1)) t := fun t kt => by
    refine pre0 _ ?_
    show Steps p.tables e below (s₁.setTop (mkF m 0 #[rv b4] [])) _
    refine XS.aloadN X0.here hx rfl (hb hby d9_0) rfl rfl ?_
    exact kt
  obtain ⟨T19, X19, e19, st19⟩ := initO X0 hx hZ hown (W 57 rfl) (W 7 rfl) (W 8 rfl) e0 (g := (mkF m 1 #[rv b4] [(.ref b4)])) rfl (by rw [hml]; rfl) rfl (hb hby d9_1) (by decide) (W := 0) (by show 2 * 0 + _ ≤ _; exact Nat.le_of_eq rfl) (by decide)
  have pre20 : ∀ t, Steps p.tables e below (T19.setTop (mkF m 4 #[rv b4] [])) t → Steps p.tables e below (s₁.setTop (entryFrame m #[(.ref b4)] 1)) t := fun t kt => pre18 _ (st19 _ kt)
  obtain ⟨fs, hr, hrun, hended, hW, hsame⟩ := X19.leave (v := none) (fun _ => rfl)
  refine ⟨_, _, pre20 _ (X19.returnOut hx Bd.returns (hb hby d9_4) hr), hrun, hended, _, _, rfl, ?_, ⟨_, rfl⟩, hW, hsame.mono (by decide) (by decide)⟩
  show Q_init9_0 Z b4 h0 n0 _ T19.heap _
  rw [e19]
  exact ⟨rfl, N0, rfl⟩
theorem pd_4 : parseMethodDescriptor "()V" = some ⟨[], none⟩ := by decide +kernel
theorem d8_4 : decode jdk_33_method_23_code 4 = .ok (.aload_n 0, 1) := by decide +kernel
theorem d8_5 : decode jdk_33_method_23_code 5 = .ok (.iload_n 1, 1) := by decide +kernel
theorem d8_6 : decode jdk_33_method_23_code 6 = .ok (.putfield 205, 3) := by decide +kernel
theorem d8_9 : decode jdk_33_method_23_code 9 = .ok (.return_, 1) := by decide +kernel
theorem ef_5 (m : MethodId) (x0 : Addr) (x1 : Int32) : entryFrame m #[(.ref x0), (.int x1)] 2 = mkF m 0 #[.val (.ref x0), .val (.int x1)] [] := by first | (simp [entryFrame, mkF, argsToLocals, Value.category]; done) | rfl
def Q_init8_0 (Z : State) (b4 : Addr) (pv : Int32) (h0 : Heap) (n0 : Nat) (v : Option Value) (h : Heap) (L : List Loc) : Prop := v = none ∧ Fr n0 L ∧ Keep h0 h [b4] ∧ Old Z n0 h ∧ Exa Z h b4 "java/lang/Integer" ∧ Fld Z h b4 "java/lang/Integer" "value" "I" (.int pv)
set_option maxRecDepth 65536 in
set_option maxHeartbeats 40000000 in
theorem rm_init8_0 (l : Launch) (Z : State) (a0 : Array Value) (hw : ∀ d ∈ tables_1, d.before a0 Z = true) (ws : List Jvm.Cond) (b4 : Addr) (pv : Int32) (h0 : Heap) (n0 : Nat) (O0 : Old Z n0 h0) (g_b4 : n0 ≤ b4) (Fi0 : Exa Z h0 b4 "java/lang/Integer") (Fi1 : Fld Z h0 b4 "java/lang/Integer" "value" "I" (.int (0 : Int32))) :
    MetFree l (⟨"java/lang/Integer", "<init>", "(I)V"⟩ : MethodName) (head1 (Jvm.Cond.code (⟨"java/lang/Integer", "<init>", "(I)V"⟩ : MethodName) jdk_33_method_23_code 2 none :: ws) ({ frames := 2, cells := 0, slots := 0, locals := 24 } : Room)) (fun a U => a = #[(.ref b4), (.int pv)] ∧ Z.Warmed39 U.vm ∧ U.heap = h0) (fun _ _ _ _ _ => True) (fun _ U o U' => ∃ v L, o = .returned v ∧ Q_init8_0 Z b4 pv h0 n0 v U'.heap L ∧ FrameEnd U o U' L ({ frames := 2, cells := 0, slots := 0, locals := 24 } : Room).cells ({ frames := 2, cells := 0, slots := 0, locals := 24 } : Room).slots) := by
  refine MetFree.of_bodySF (plainFor_of_name pn_0) hisR ?_
  intro p e s m args below meth c s₁ Bd hml0 hP hK
  have W := fun {d : Jvm.Cond} (i : Nat) (q : tables_1[i]? = some d) => hw d (List.mem_of_getElem? q)
  obtain ⟨rfl, hZ, hh⟩ := hP
  have hx := Bd.exec
  have hby := Bd.bytes
  have hml : c.maxLocals = 2 := hml0
  have hown : s.vm.findClass "java/lang/Integer" = some m.cls := findClass_of_methodNamed Bd.named
  have hnm := (name_of_methodNamed Bd.named Bd.method).1
  have X0 : Stand p l e ({ frames := 2, cells := 0, slots := 0, locals := 24 } : Room) s m #[(.ref b4), (.int pv)] below meth c s₁ [] 0 0 := Stand.of_body Bd
  have e0 : s₁.heap = h0 := by rw [← hh, Bd.state]; rfl
  have N0 := Fr.nil n0
  have pre0 : ∀ t, Steps p.tables e below (s₁.setTop (mkF m 0 #[rv b4, iv pv] [])) t → Steps p.tables e below (s₁.setTop (entryFrame m #[(.ref b4), (.int pv)] 2)) t := fun t k => castTop (ef_5 m b4 pv) k
  have K0 : Keep h0 h0 [b4] := Keep.refl h0 [b4]
  have pre35 : ∀ t, Steps p.tables e below (s₁.setTop (mkF m 1 #[rv b4, iv pv] [(.ref b4)])) t → Steps p.tables e below (s₁.setTop (entryFrame m #[(.ref b4), (.int pv)] 2)) t := fun t kt => by
    refine pre0 _ ?_
    show Steps p.tables e below (s₁.setTop (mkF m 0 #[rv b4, iv pv] [])) _
    refine XS.aloadN X0.here hx rfl (hb hby d8_0) rfl rfl ?_
    exact kt
  obtain ⟨_, _, ⟨T36, L36, k36, n36⟩, -, X36, ⟨Lc36, hQ36, l36, y36, z36⟩, st36⟩ := X0.specialBack hx (y := (⟨"java/lang/Number", "<init>", "()V"⟩ : MethodName)) rfl hown (mvT hZ (W 51 rfl)) (mvT hZ (W 52 rfl)) (mvT hZ (W 56 rfl)) (by decide) (backOf (W := 0) (rm_init9_0 l Z a0 hw [] b4 h0 n0 O0) hZ (W 56 rfl) (W 55 rfl) (by decide) (by decide)) (g := (mkF m 1 #[rv b4, iv pv] [(.ref b4)])) rfl (by rw [hml]; rfl) (Steps.refl _) (a := b4) (argsL := []) (rest := []) (lenOf pd_4 rfl) rfl (by show 2 * 0 + _ ≤ _; exact Nat.le_of_eq rfl) (hb hby d8_1) (fun _ _ => ⟨rfl, e0, (by decide : 0 + 0 ≤ _), (by decide : 0 + 0 ≤ _)⟩)
  dsimp only [Pt.U, Pt.locs, Pt.cells, Pt.slots] at X36 l36 y36 z36 st36 hQ36
  replace l36 := l36.symm
  replace y36 : 0 = k36 := y36.symm
  replace z36 : 0 = n36 := z36.symm
  subst l36 y36 z36
  obtain ⟨rfl, M36, e36⟩ := hQ36
  have N36 := Fr.app N0 M36
  have pre37 : ∀ t, Steps p.tables e below (T36.setTop (mkF m 4 #[rv b4, iv pv] [])) t → Steps p.tables e below (s₁.setTop (entryFrame m #[(.ref b4), (.int pv)] 2)) t := fun t kt => pre35 _ (st36.trans kt)
  have pre38 : ∀ t, Steps p.tables e below (T36.setTop (mkF m 6 #[rv b4, iv pv] [(.int pv), (.ref b4)])) t → Steps p.tables e below (s₁.setTop (entryFrame m #[(.ref b4), (.int pv)] 2)) t := fun t kt => by
    refine pre37 _ ?_
    show Steps p.tables e below (T36.setTop (mkF m 4 #[rv b4, iv pv] [])) _
    refine XS.aloadN X36.here hx rfl (hb hby d8_4) rfl rfl ?_
    show Steps p.tables e below (T36.setTop (mkF m 5 #[rv b4, iv pv] [(.ref b4)])) _
    refine XS.iloadN X36.here hx rfl (hb hby d8_5) rfl ?_
    exact kt
  obtain ⟨T39, h39, X39, e39, W39, st39⟩ := putF X36 hx hZ hown (host := "") (Or.inl (W 58 rfl)) Via.refl e36 Fi1 Fi0 (Or.inr ⟨(W 59 rfl), rfl, hnm⟩) (W 46 rfl) (ty := .int) (by decide) rfl rfl (g := (mkF m 6 #[rv b4, iv pv] [(.int pv), (.ref b4)])) rfl rfl (hb hby d8_6)
  have pre40 : ∀ t, Steps p.tables e below (T39.setTop (mkF m 9 #[rv b4, iv pv] [])) t → Steps p.tables e below (s₁.setTop (entryFrame m #[(.ref b4), (.int pv)] 2)) t := fun t kt => pre38 _ (st39 _ kt)
  have N39 := Fr.snoc X39 N36 g_b4
  have O39 := O0.wr W39 g_b4
  have K39 : Keep h0 h39 [b4] := K0.wr W39 (Or.inl (List.mem_of_getElem? (i := 0) rfl))
  have F41 := Fi0.wr W39
  have F42 : Fld Z h39 b4 "java/lang/Integer" "value" "I" (.int pv) := Fi1.same W39
  obtain ⟨fs, hr, hrun, hended, hW, hsame⟩ := X39.leave (v := none) (fun _ => rfl)
  refine ⟨_, _, pre40 _ (X39.returnOut hx Bd.returns (hb hby d8_9) hr), hrun, hended, _, _, rfl, ?_, ⟨_, rfl⟩, hW, hsame.mono (by decide) (by decide)⟩
  show Q_init8_0 Z b4 pv h0 n0 _ T39.heap _
  rw [e39]
  exact ⟨rfl, N39, K39, O39, F41, F42⟩
theorem pd_6 : parseMethodDescriptor "(I)V" = some ⟨[.int], none⟩ := by decide +kernel
theorem d3_31 : decode jdk_33_method_22_code 31 = .ok (.areturn, 1) := by decide +kernel
theorem d3_6 : decode jdk_33_method_22_code 6 = .ok (.iload_n 0, 1) := by decide +kernel
theorem d3_7 : decode jdk_33_method_22_code 7 = .ok (.getstatic 191, 3) := by decide +kernel
theorem d3_10 : decode jdk_33_method_22_code 10 = .ok (.if_icmp .gt 13, 3) := by decide +kernel
theorem d3_13 : decode jdk_33_method_22_code 13 = .ok (.getstatic 195, 3) := by decide +kernel
theorem d3_16 : decode jdk_33_method_22_code 16 = .ok (.iload_n 0, 1) := by decide +kernel
theorem d3_17 : decode jdk_33_method_22_code 17 = .ok (.sipush 128, 3) := by decide +kernel
theorem d3_20 : decode jdk_33_method_22_code 20 = .ok (.iadd, 1) := by decide +kernel
theorem d3_21 : decode jdk_33_method_22_code 21 = .ok (.aaload, 1) := by decide +kernel
theorem d3_22 : decode jdk_33_method_22_code 22 = .ok (.areturn, 1) := by decide +kernel
def Q_valueOf (Z : State) (pv : Int32) (ac : Addr) (h0 : Heap) (n0 : Nat) (v : Option Value) (h : Heap) (L : List Loc) : Prop := ∃ (r : Addr), v = some (.ref r) ∧ Fr n0 L ∧ Keep h0 h [] ∧ Old Z n0 h ∧ Exa Z h r "java/lang/Integer"
set_option maxRecDepth 65536 in
set_option maxHeartbeats 40000000 in
theorem rm_valueOf (l : Launch) (Z : State) (a0 : Array Value) (hw : ∀ d ∈ tables_1, d.before a0 Z = true) (ws : List Jvm.Cond) (pv : Int32) (ac : Addr) (h0 : Heap) (n0 : Nat) (O0 : Old Z n0 h0) (G0 : Sta Z Z.heap "java/lang/Integer$IntegerCache" "high" "I" (.int (127 : Int32))) (G1 : Sta Z Z.heap "java/lang/Integer$IntegerCache" "cache" "[Ljava/lang/Integer;" (.ref ac)) (G2 : own_cache Z ac) :
    MetFree l (⟨"java/lang/Integer", "valueOf", "(I)Ljava/lang/Integer;"⟩ : MethodName) (head1 (Jvm.Cond.code (⟨"java/lang/Integer", "valueOf", "(I)Ljava/lang/Integer;"⟩ : MethodName) jdk_33_method_22_code 1 (some (.object "java/lang/Integer")) :: ws) ({ frames := 3, cells := 1, slots := 1, locals := 38 } : Room)) (fun a U => a = #[(.int pv)] ∧ Z.Warmed39 U.vm ∧ U.heap = h0) (fun _ _ _ _ _ => True) (fun _ U o U' => ∃ v L, o = .returned v ∧ Q_valueOf Z pv ac h0 n0 v U'.heap L ∧ FrameEnd U o U' L ({ frames := 3, cells := 1, slots := 1, locals := 38 } : Room).cells ({ frames := 3, cells := 1, slots := 1, locals := 38 } : Room).slots) := by
  refine MetFree.of_bodySF (plainFor_of_name pn_0) hisR ?_
  intro p e s m args below meth c s₁ Bd hml0 hP hK
  have W := fun {d : Jvm.Cond} (i : Nat) (q : tables_1[i]? = some d) => hw d (List.mem_of_getElem? q)
  obtain ⟨rfl, hZ, hh⟩ := hP
  have hx := Bd.exec
  have hby := Bd.bytes
  have hml : c.maxLocals = 1 := hml0
  have hown : s.vm.findClass "java/lang/Integer" = some m.cls := findClass_of_methodNamed Bd.named
  have hnm := (name_of_methodNamed Bd.named Bd.method).1
  have X0 : Stand p l e ({ frames := 3, cells := 1, slots := 1, locals := 38 } : Room) s m #[(.int pv)] below meth c s₁ [] 0 0 := Stand.of_body Bd
  have e0 : s₁.heap = h0 := by rw [← hh, Bd.state]; rfl
  have N0 := Fr.nil n0
  have pre0 : ∀ t, Steps p.tables e below (s₁.setTop (mkF m 0 #[iv pv] [])) t → Steps p.tables e below (s₁.setTop (entryFrame m #[(.int pv)] 1)) t := fun t k => castTop (ef_1 m pv) k
  have K0 : Keep h0 h0 [] := Keep.refl h0 []
  have pre1 : ∀ t, Steps p.tables e below (s₁.setTop (mkF m 3 #[iv pv] [(.int (-128 : Int32)), (.int pv)])) t → Steps p.tables e below (s₁.setTop (entryFrame m #[(.int pv)] 1)) t := fun t kt => by
    refine pre0 _ ?_
    show Steps p.tables e below (s₁.setTop (mkF m 0 #[iv pv] [])) _
    refine XS.iloadN X0.here hx rfl (hb hby d3_0) rfl ?_
    show Steps p.tables e below (s₁.setTop (mkF m 1 #[iv pv] [(.int pv)])) _
    refine XS.bipush X0.here hx rfl (hb hby d3_1) ?_
    exact kt
  by_cases hc2 : pv < (-128 : Int32)
  · have pre3 : ∀ t, Steps p.tables e below (s₁.setTop (mkF m 23 #[iv pv] [])) t → Steps p.tables e below (s₁.setTop (entryFrame m #[(.int pv)] 1)) t := fun t kt => by
      refine pre1 _ ?_
      show Steps p.tables e below (s₁.setTop (mkF m 3 #[iv pv] [(.int (-128 : Int32)), (.int pv)])) _
      refine XS.icmpYes X0.here hx rfl (pc0 := 3) (pc' := 23) rfl (hb hby d3_3) rfl (XT.ii_lt_t hc2) (by decide) (by decide) ?_
      exact kt
    obtain ⟨T4, h4, X4, e4, E4, A4, D4, -, st4⟩ := newO X0 hx hZ hown (W 45 rfl) (W 46 rfl) (W 15 rfl) e0 (g := (mkF m 23 #[iv pv] [])) rfl (hb hby d3_23) (by decide) (by decide)
    obtain ⟨b4, g4⟩ : ∃ z, z = h0.size := ⟨_, rfl⟩
    rw [← g4] at A4 D4 st4
    have pre5 : ∀ t, Steps p.tables e below (T4.setTop (mkF m 26 #[iv pv] [(.ref b4)])) t → Steps p.tables e below (s₁.setTop (entryFrame m #[(.int pv)] 1)) t := fun t kt => pre3 _ (st4 _ kt)
    have O4 := O0.ext E4
    have K4 : Keep h0 h4 [] := K0.ext E4
    have g_b4 : n0 ≤ b4 := Nat.le_trans (Nat.le_trans (Nat.le_of_eq O0.1.symm) O0.2.1) (Nat.le_of_eq g4.symm)
    have sz_b4 : h0.size ≤ b4 := Nat.le_trans K0.1 (Nat.le_of_eq g4.symm)
    have F6 : Exa Z h4 b4 "java/lang/Integer" := A4
    have F7 : Fld Z h4 b4 "java/lang/Integer" "value" "I" (.int (0 : Int32)) := D4 (Or.inr (W 59 rfl)) (ty := .int) (by decide)
    have pre8 : ∀ t, Steps p.tables e below (T4.setTop (mkF m 28 #[iv pv] [(.int pv), (.ref b4), (.ref b4)])) t → Steps p.tables e below (s₁.setTop (entryFrame m #[(.int pv)] 1)) t := fun t kt => by
      refine pre5 _ ?_
      show Steps p.tables e below (T4.setTop (mkF m 26 #[iv pv] [(.ref b4)])) _
      refine XS.dup X4.here hx rfl (hb hby d3_26) rfl rfl ?_
      show Steps p.tables e below (T4.setTop (mkF m 27 #[iv pv] [(.ref b4), (.ref b4)])) _
      refine XS.iloadN X4.here hx rfl (hb hby d3_27) rfl ?_
      exact kt
    obtain ⟨_, _, ⟨T9, L9, k9, n9⟩, -, X9, ⟨Lc9, hQ9, l9, y9, z9⟩, st9⟩ := X4.specialBack hx (y := (⟨"java/lang/Integer", "<init>", "(I)V"⟩ : MethodName)) rfl hown (mvT hZ (W 47 rfl)) (mvT hZ (W 48 rfl)) (mvT hZ (W 50 rfl)) (by decide) (backOf (W := 1) (rm_init8_0 l Z a0 hw [] b4 pv h4 n0 O4 g_b4 F6 F7) hZ (W 50 rfl) (W 15 rfl) (by decide) (by decide)) (g := (mkF m 28 #[iv pv] [(.int pv), (.ref b4), (.ref b4)])) rfl (by rw [hml]; rfl) (Steps.refl _) (a := b4) (argsL := [(.int pv)]) (rest := [(.ref b4)]) (lenOf pd_6 rfl) rfl (by show 2 * 0 + _ ≤ _; exact Nat.le_of_eq rfl) (hb hby d3_28) (fun _ _ => ⟨rfl, e4, (by decide : 1 + 0 ≤ _), (by decide : 1 + 0 ≤ _)⟩)
    dsimp only [Pt.U, Pt.locs, Pt.cells, Pt.slots] at X9 l9 y9 z9 st9 hQ9
    replace l9 := l9.symm
    replace y9 : 1 = k9 := y9.symm
    replace z9 : 1 = n9 := z9.symm
    subst l9 y9 z9
    obtain ⟨rfl, M9, Kc9, O9, J9_0, J9_1⟩ := hQ9
    obtain ⟨h9, e9⟩ : ∃ z, T9.heap = z := ⟨_, rfl⟩
    rw [e9] at Kc9 O9 J9_0 J9_1
    have N9 := Fr.app N0 M9
    have K9 : Keep h0 h9 [] := K4.trans Kc9 (own_all1 (Or.inr sz_b4))
    have pre43 : ∀ t, Steps p.tables e below (T9.setTop (mkF m 31 #[iv pv] [(.ref b4)])) t → Steps p.tables e below (s₁.setTop (entryFrame m #[(.int pv)] 1)) t := fun t kt => pre8 _ (st9.trans kt)
    obtain ⟨fs, hr, hrun, hended, hW, hsame⟩ := X9.leave (v := some (.ref b4)) (fun h => by rw [Bd.returns] at h; cases h)
    refine ⟨_, _, pre43 _ (X9.areturnOut hx rfl Bd.returns rfl (hb hby d3_31) hr), hrun, hended, _, _, rfl, ?_, ⟨_, rfl⟩, hW, hsame.mono (by decide) (by decide)⟩
    show Q_valueOf Z pv ac h0 n0 _ T9.heap _
    rw [e9]
    exact ⟨b4, rfl, N9, K9, O9, J9_0⟩
  · have pre44 : ∀ t, Steps p.tables e below (s₁.setTop (mkF m 7 #[iv pv] [(.int pv)])) t → Steps p.tables e below (s₁.setTop (entryFrame m #[(.int pv)] 1)) t := fun t kt => by
      refine pre1 _ ?_
      show Steps p.tables e below (s₁.setTop (mkF m 3 #[iv pv] [(.int (-128 : Int32)), (.int pv)])) _
      refine XS.icmpNo X0.here hx rfl (hb hby d3_3) rfl (XT.ii_lt_f hc2) ?_
      show Steps p.tables e below (s₁.setTop (mkF m 6 #[iv pv] [])) _
      refine XS.iloadN X0.here hx rfl (hb hby d3_6) rfl ?_
      exact kt
    obtain ⟨T45, X45, e45, st45⟩ := getS2 X0 hx hZ hown (host := "") (Or.inl (W 17 rfl)) Via.refl e0 (G0.ext O0.2) (g := (mkF m 7 #[iv pv] [(.int pv)])) rfl (hb hby d3_7)
    have pre46 : ∀ t, Steps p.tables e below (T45.setTop (mkF m 10 #[iv pv] [(.int (127 : Int32)), (.int pv)])) t → Steps p.tables e below (s₁.setTop (entryFrame m #[(.int pv)] 1)) t := fun t kt => pre44 _ (st45 _ kt)
    by_cases hc47 : (127 : Int32) < pv
    · have pre48 : ∀ t, Steps p.tables e below (T45.setTop (mkF m 23 #[iv pv] [])) t → Steps p.tables e below (s₁.setTop (entryFrame m #[(.int pv)] 1)) t := fun t kt => by
        refine pre46 _ ?_
        show Steps p.tables e below (T45.setTop (mkF m 10 #[iv pv] [(.int (127 : Int32)), (.int pv)])) _
        refine XS.icmpYes X45.here hx rfl (pc0 := 10) (pc' := 23) rfl (hb hby d3_10) rfl (XT.ii_gt_t hc47) (by decide) (by decide) ?_
        exact kt
      obtain ⟨T49, h49, X49, e49, E49, A49, D49, -, st49⟩ := newO X45 hx hZ hown (W 45 rfl) (W 46 rfl) (W 15 rfl) e45 (g := (mkF m 23 #[iv pv] [])) rfl (hb hby d3_23) (by decide) (by decide)
      obtain ⟨b49, g49⟩ : ∃ z, z = h0.size := ⟨_, rfl⟩
      rw [← g49] at A49 D49 st49
      have pre50 : ∀ t, Steps p.tables e below (T49.setTop (mkF m 26 #[iv pv] [(.ref b49)])) t → Steps p.tables e below (s₁.setTop (entryFrame m #[(.int pv)] 1)) t := fun t kt => pre48 _ (st49 _ kt)
      have O49 := O0.ext E49
      have K49 : Keep h0 h49 [] := K0.ext E49
      have g_b49 : n0 ≤ b49 := Nat.le_trans (Nat.le_trans (Nat.le_of_eq O0.1.symm) O0.2.1) (Nat.le_of_eq g49.symm)
      have sz_b49 : h0.size ≤ b49 := Nat.le_trans K0.1 (Nat.le_of_eq g49.symm)
      have F51 : Exa Z h49 b49 "java/lang/Integer" := A49
      have F52 : Fld Z h49 b49 "java/lang/Integer" "value" "I" (.int (0 : Int32)) := D49 (Or.inr (W 59 rfl)) (ty := .int) (by decide)
      have pre53 : ∀ t, Steps p.tables e below (T49.setTop (mkF m 28 #[iv pv] [(.int pv), (.ref b49), (.ref b49)])) t → Steps p.tables e below (s₁.setTop (entryFrame m #[(.int pv)] 1)) t := fun t kt => by
        refine pre50 _ ?_
        show Steps p.tables e below (T49.setTop (mkF m 26 #[iv pv] [(.ref b49)])) _
        refine XS.dup X49.here hx rfl (hb hby d3_26) rfl rfl ?_
        show Steps p.tables e below (T49.setTop (mkF m 27 #[iv pv] [(.ref b49), (.ref b49)])) _
        refine XS.iloadN X49.here hx rfl (hb hby d3_27) rfl ?_
        exact kt
      obtain ⟨_, _, ⟨T54, L54, k54, n54⟩, -, X54, ⟨Lc54, hQ54, l54, y54, z54⟩, st54⟩ := X49.specialBack hx (y := (⟨"java/lang/Integer", "<init>", "(I)V"⟩ : MethodName)) rfl hown (mvT hZ (W 47 rfl)) (mvT hZ (W 48 rfl)) (mvT hZ (W 50 rfl)) (by decide) (backOf (W := 1) (rm_init8_0 l Z a0 hw [] b49 pv h49 n0 O49 g_b49 F51 F52) hZ (W 50 rfl) (W 15 rfl) (by decide) (by decide)) (g := (mkF m 28 #[iv pv] [(.int pv), (.ref b49), (.ref b49)])) rfl (by rw [hml]; rfl) (Steps.refl _) (a := b49) (argsL := [(.int pv)]) (rest := [(.ref b49)]) (lenOf pd_6 rfl) rfl (by show 2 * 0 + _ ≤ _; exact Nat.le_of_eq rfl) (hb hby d3_28) (fun _ _ => ⟨rfl, e49, (by decide : 1 + 0 ≤ _), (by decide : 1 + 0 ≤ _)⟩)
      dsimp only [Pt.U, Pt.locs, Pt.cells, Pt.slots] at X54 l54 y54 z54 st54 hQ54
      replace l54 := l54.symm
      replace y54 : 1 = k54 := y54.symm
      replace z54 : 1 = n54 := z54.symm
      subst l54 y54 z54
      obtain ⟨rfl, M54, Kc54, O54, J54_0, J54_1⟩ := hQ54
      obtain ⟨h54, e54⟩ : ∃ z, T54.heap = z := ⟨_, rfl⟩
      rw [e54] at Kc54 O54 J54_0 J54_1
      have N54 := Fr.app N0 M54
      have K54 : Keep h0 h54 [] := K49.trans Kc54 (own_all1 (Or.inr sz_b49))
      have pre55 : ∀ t, Steps p.tables e below (T54.setTop (mkF m 31 #[iv pv] [(.ref b49)])) t → Steps p.tables e below (s₁.setTop (entryFrame m #[(.int pv)] 1)) t := fun t kt => pre53 _ (st54.trans kt)
      obtain ⟨fs, hr, hrun, hended, hW, hsame⟩ := X54.leave (v := some (.ref b49)) (fun h => by rw [Bd.returns] at h; cases h)
      refine ⟨_, _, pre55 _ (X54.areturnOut hx rfl Bd.returns rfl (hb hby d3_31) hr), hrun, hended, _, _, rfl, ?_, ⟨_, rfl⟩, hW, hsame.mono (by decide) (by decide)⟩
      show Q_valueOf Z pv ac h0 n0 _ T54.heap _
      rw [e54]
      exact ⟨b49, rfl, N54, K54, O54, J54_0⟩
    · have pre56 : ∀ t, Steps p.tables e below (T45.setTop (mkF m 13 #[iv pv] [])) t → Steps p.tables e below (s₁.setTop (entryFrame m #[(.int pv)] 1)) t := fun t kt => by
        refine pre46 _ ?_
        show Steps p.tables e below (T45.setTop (mkF m 10 #[iv pv] [(.int (127 : Int32)), (.int pv)])) _
        refine XS.icmpNo X45.here hx rfl (hb hby d3_10) rfl (XT.ii_gt_f hc47) ?_
        exact kt
      obtain ⟨T57, X57, e57, st57⟩ := getS2 X45 hx hZ hown (host := "") (Or.inl (W 19 rfl)) Via.refl e45 (G1.ext O0.2) (g := (mkF m 13 #[iv pv] [])) rfl (hb hby d3_13)
      have pre58 : ∀ t, Steps p.tables e below (T57.setTop (mkF m 16 #[iv pv] [(.ref ac)])) t → Steps p.tables e below (s₁.setTop (entryFrame m #[(.int pv)] 1)) t := fun t kt => pre56 _ (st57 _ kt)
      have pre59 : ∀ t, Steps p.tables e below (T57.setTop (mkF m 21 #[iv pv] [(.int (pv + (128 : Int32))), (.ref ac)])) t → Steps p.tables e below (s₁.setTop (entryFrame m #[(.int pv)] 1)) t := fun t kt => by
        refine pre58 _ ?_
        show Steps p.tables e below (T57.setTop (mkF m 16 #[iv pv] [(.ref ac)])) _
        refine XS.iloadN X57.here hx rfl (hb hby d3_16) rfl ?_
        show Steps p.tables e below (T57.setTop (mkF m 17 #[iv pv] [(.int pv), (.ref ac)])) _
        refine XS.sipush X57.here hx rfl (hb hby d3_17) ?_
        show Steps p.tables e below (T57.setTop (mkF m 20 #[iv pv] [(.int (128 : Int32)), (.int pv), (.ref ac)])) _
        refine XS.iadd X57.here hx rfl (hb hby d3_20) rfl ?_
        exact kt
      obtain ⟨c60, Ar60, z60, H60⟩ := id G2
      have pl60 := Jvm.Free.IntBox.place_ok pv hc2 hc47
      obtain ⟨r60, t60, E60⟩ := H60 _ pl60.2
      have A60 := Ar60.ext O0.2
      have pre61 : ∀ t, Steps p.tables e below (T57.setTop (mkF m 22 #[iv pv] [(.ref r60)])) t → Steps p.tables e below (s₁.setTop (entryFrame m #[(.int pv)] 1)) t := fun t kt => by
        refine pre59 _ ?_
        show Steps p.tables e below (T57.setTop (mkF m 21 #[iv pv] [(.int (pv + (128 : Int32))), (.ref ac)])) _
        refine X57.aaload hx (j := (pv + (128 : Int32))) (v := (.ref r60)) (by rw [e57]; exact A60.1) (State.isArrayOf_alike hZ.alike A60.2.1) rfl A60.2.2 (by rw [z60]; exact pl60.1) t60 (g := (mkF m 21 #[iv pv] [(.int (pv + (128 : Int32))), (.ref ac)])) rfl rfl (hb hby d3_21) _ ?_
        exact kt
      obtain ⟨fs, hr, hrun, hended, hW, hsame⟩ := X57.leave (v := some (.ref r60)) (fun h => by rw [Bd.returns] at h; cases h)
      refine ⟨_, _, pre61 _ (X57.areturnOut hx rfl Bd.returns rfl (hb hby d3_22) hr), hrun, hended, _, _, rfl, ?_, ⟨_, rfl⟩, hW, hsame.mono (by decide) (by decide)⟩
      show Q_valueOf Z pv ac h0 n0 _ T57.heap _
      rw [e57]
      exact ⟨r60, rfl, N0, K0, O0, (E60.ext O0.2)⟩
theorem pn_7 : plainName "com/example/homethread/homethread/ItemsClearAndTrimPinLaw" = true := by first | (simp [plainName, overriddenIn]; done) | decide +kernel
theorem ef_8 (m : MethodId) (x0 : Int32) (x1 : Int32) (x2 : Int32) : entryFrame m #[(.int x0), (.int x1), (.int x2)] maxLocals = mkF m 0 #[.val (.int x0), .val (.int x1), .val (.int x2), .unset, .unset, .unset, .unset, .unset, .unset, .unset, .unset, .unset, .unset] [] := by first | (simp [entryFrame, mkF, argsToLocals, Value.category, maxLocals]; done) | rfl
theorem d1_0 : decode prog_9_method_1_code 0 = .ok (.aload_n 0, 1) := by decide +kernel
theorem d1_1 : decode prog_9_method_1_code 1 = .ok (.invokespecial 1, 3) := by decide +kernel
theorem d1_4 : decode prog_9_method_1_code 4 = .ok (.aload_n 0, 1) := by decide +kernel
theorem d1_5 : decode prog_9_method_1_code 5 = .ok (.bipush 16, 2) := by decide +kernel
theorem d1_7 : decode prog_9_method_1_code 7 = .ok (.anewarray 2, 3) := by decide +kernel
theorem d1_10 : decode prog_9_method_1_code 10 = .ok (.putfield 9, 3) := by decide +kernel
theorem d1_13 : decode prog_9_method_1_code 13 = .ok (.return_, 1) := by decide +kernel
theorem pn_9 : plainName "com/example/homethread/homethread/Items" = true := by first | (simp [plainName, overriddenIn]; done) | decide +kernel
theorem ef_10 (m : MethodId) (x0 : Addr) : entryFrame m #[(.ref x0)] 1 = mkF m 0 #[.val (.ref x0)] [] := by first | (simp [entryFrame, mkF, argsToLocals, Value.category]; done) | rfl
def Q_init1_0 (Z : State) (b62 : Addr) (h0 : Heap) (n0 : Nat) (v : Option Value) (h : Heap) (L : List Loc) : Prop := ∃ (b109 : Addr) (k109 : ClassId), v = none ∧ Fr n0 L ∧ Keep h0 h [b62] ∧ Old Z n0 h ∧ Exa Z h b62 "com/example/homethread/homethread/Items" ∧ Fld Z h b62 "com/example/homethread/homethread/Items" "size" "I" (.int (0 : Int32)) ∧ Arv Z h b109 k109 (.object "java/lang/Object") (16 : Int32) [.null, .null, .null, .null, .null, .null, .null, .null, .null, .null, .null, .null, .null, .null, .null, .null] .null ∧ Ovr Z k109 "java/lang/Object" ∧ Exa Z h b109 "[Ljava/lang/Object;" ∧ Fld Z h b62 "com/example/homethread/homethread/Items" "slots" "[Ljava/lang/Object;" (.ref b109) ∧ (h0.size ≤ b109)
set_option maxRecDepth 65536 in
set_option maxHeartbeats 40000000 in
theorem rm_init1_0 (l : Launch) (Z : State) (a0 : Array Value) (hw : ∀ d ∈ tables_1, d.before a0 Z = true) (ws : List Jvm.Cond) (b62 : Addr) (h0 : Heap) (n0 : Nat) (O0 : Old Z n0 h0) (g_b62 : n0 ≤ b62) (Fi0 : Exa Z h0 b62 "com/example/homethread/homethread/Items") (Fi1 : Fld Z h0 b62 "com/example/homethread/homethread/Items" "slots" "[Ljava/lang/Object;" .null) (Fi2 : Fld Z h0 b62 "com/example/homethread/homethread/Items" "size" "I" (.int (0 : Int32))) :
    MetFree l (⟨"com/example/homethread/homethread/Items", "<init>", "()V"⟩ : MethodName) (head1 (Jvm.Cond.code (⟨"com/example/homethread/homethread/Items", "<init>", "()V"⟩ : MethodName) prog_9_method_1_code 1 none :: ws) ({ frames := 1, cells := 1, slots := 16, locals := 12 } : Room)) (fun a U => a = #[(.ref b62)] ∧ Z.Warmed39 U.vm ∧ U.heap = h0) (fun _ _ _ _ _ => True) (fun _ U o U' => ∃ v L, o = .returned v ∧ Q_init1_0 Z b62 h0 n0 v U'.heap L ∧ FrameEnd U o U' L ({ frames := 1, cells := 1, slots := 16, locals := 12 } : Room).cells ({ frames := 1, cells := 1, slots := 16, locals := 12 } : Room).slots) := by
  refine MetFree.of_bodySF (plainFor_of_name pn_9) hisR ?_
  intro p e s m args below meth c s₁ Bd hml0 hP hK
  have W := fun {d : Jvm.Cond} (i : Nat) (q : tables_1[i]? = some d) => hw d (List.mem_of_getElem? q)
  obtain ⟨rfl, hZ, hh⟩ := hP
  have hx := Bd.exec
  have hby := Bd.bytes
  have hml : c.maxLocals = 1 := hml0
  have hown : s.vm.findClass "com/example/homethread/homethread/Items" = some m.cls := findClass_of_methodNamed Bd.named
  have hnm := (name_of_methodNamed Bd.named Bd.method).1
  have X0 : Stand p l e ({ frames := 1, cells := 1, slots := 16, locals := 12 } : Room) s m #[(.ref b62)] below meth c s₁ [] 0 0 := Stand.of_body Bd
  have e0 : s₁.heap = h0 := by rw [← hh, Bd.state]; rfl
  have N0 := Fr.nil n0
  have pre0 : ∀ t, Steps p.tables e below (s₁.setTop (mkF m 0 #[rv b62] [])) t → Steps p.tables e below (s₁.setTop (entryFrame m #[(.ref b62)] 1)) t := fun t k => castTop (ef_10 m b62) k
  have K0 : Keep h0 h0 [b62] := Keep.refl h0 [b62]
  have pre105 : ∀ t, Steps p.tables e below (s₁.setTop (mkF m 1 #[rv b62] [(.ref b62)])) t → Steps p.tables e below (s₁.setTop (entryFrame m #[(.ref b62)] 1)) t := fun t kt => by
    refine pre0 _ ?_
    show Steps p.tables e below (s₁.setTop (mkF m 0 #[rv b62] [])) _
    refine XS.aloadN X0.here hx rfl (hb hby d1_0) rfl rfl ?_
    exact kt
  obtain ⟨T106, X106, e106, st106⟩ := initO X0 hx hZ hown (W 6 rfl) (W 7 rfl) (W 8 rfl) e0 (g := (mkF m 1 #[rv b62] [(.ref b62)])) rfl (by rw [hml]; rfl) rfl (hb hby d1_1) (by decide) (W := 0) (by show 2 * 0 + _ ≤ _; exact Nat.le_of_eq rfl) (by decide)
  have pre107 : ∀ t, Steps p.tables e below (T106.setTop (mkF m 4 #[rv b62] [])) t → Steps p.tables e below (s₁.setTop (entryFrame m #[(.ref b62)] 1)) t := fun t kt => pre105 _ (st106 _ kt)
  have pre108 : ∀ t, Steps p.tables e below (T106.setTop (mkF m 7 #[rv b62] [(.int (16 : Int32)), (.ref b62)])) t → Steps p.tables e below (s₁.setTop (entryFrame m #[(.ref b62)] 1)) t := fun t kt => by
    refine pre107 _ ?_
    show Steps p.tables e below (T106.setTop (mkF m 4 #[rv b62] [])) _
    refine XS.aloadN X106.here hx rfl (hb hby d1_4) rfl rfl ?_
    show Steps p.tables e below (T106.setTop (mkF m 5 #[rv b62] [(.ref b62)])) _
    refine XS.bipush X106.here hx rfl (hb hby d1_5) ?_
    exact kt
  obtain ⟨T109, h109, k109, X109, e109, E109, A109, B109, V109, st109⟩ := newRE X106 hx hZ hown (W 9 rfl) (W 10 rfl) e106 (g := (mkF m 7 #[rv b62] [(.int (16 : Int32)), (.ref b62)])) rfl (hb hby d1_7) rfl (by decide) (cap := 16) (by decide) (by decide) (by decide) (by decide) (ad := "[Ljava/lang/Object;") (by decide)
  obtain ⟨b109, g109⟩ : ∃ z, z = h0.size := ⟨_, rfl⟩
  rw [← g109] at A109 B109 st109
  have pre110 : ∀ t, Steps p.tables e below (T109.setTop (mkF m 10 #[rv b62] [(.ref b109), (.ref b62)])) t → Steps p.tables e below (s₁.setTop (entryFrame m #[(.ref b62)] 1)) t := fun t kt => pre108 _ (st109 _ kt)
  have O109 := O0.ext E109
  have K109 : Keep h0 h109 [b62] := K0.ext E109
  have F111 := Fi0.ext E109
  have F112 := Fi1.ext E109
  have F113 := Fi2.ext E109
  have g_b109 : n0 ≤ b109 := Nat.le_trans (Nat.le_trans (Nat.le_of_eq O0.1.symm) O0.2.1) (Nat.le_of_eq g109.symm)
  have sz_b109 : h0.size ≤ b109 := Nat.le_trans K0.1 (Nat.le_of_eq g109.symm)
  have ne_b62_b109 : b62 ≠ b109 := Nat.ne_of_lt (Nat.lt_of_lt_of_le Fi0.lt (Nat.le_of_eq g109.symm))
  have F114 : Arv Z h109 b109 k109 (.object "java/lang/Object") (16 : Int32) [.null, .null, .null, .null, .null, .null, .null, .null, .null, .null, .null, .null, .null, .null, .null, .null] .null := (Arv.new A109 (by decide)).pad (pad_rep [] .null 16)
  have F115 : Exa Z h109 b109 "[Ljava/lang/Object;" := B109
  obtain ⟨T116, h116, X116, e116, W116, st116⟩ := putF X109 hx hZ hown (host := "") (Or.inl (W 11 rfl)) Via.refl e109 F112 F111 (Or.inl (W 12 rfl)) (W 1 rfl) (ty := (.array (.object "java/lang/Object"))) (by decide) rfl rfl (g := (mkF m 10 #[rv b62] [(.ref b109), (.ref b62)])) rfl rfl (hb hby d1_10)
  have pre117 : ∀ t, Steps p.tables e below (T116.setTop (mkF m 13 #[rv b62] [])) t → Steps p.tables e below (s₁.setTop (entryFrame m #[(.ref b62)] 1)) t := fun t kt => pre110 _ (st116 _ kt)
  have N116 := Fr.snoc X116 N0 g_b62
  have O116 := O109.wr W116 g_b62
  have K116 : Keep h0 h116 [b62] := K109.wr W116 (Or.inl (List.mem_of_getElem? (i := 0) rfl))
  have F118 := F111.wr W116
  have F119 := F113.other W116 (Or.inr (slot_ne (Or.inl (W 26 rfl)) (Or.inl (W 12 rfl)) (by decide) (t := .int) (t' := (.array (.object "java/lang/Object"))) (by decide) (by decide)))
  have F120 := F114.other W116 (fun q => ne_b62_b109 q.symm)
  have F121 := F115.wr W116
  have F122 : Fld Z h116 b62 "com/example/homethread/homethread/Items" "slots" "[Ljava/lang/Object;" (.ref b109) := F112.same W116
  obtain ⟨fs, hr, hrun, hended, hW, hsame⟩ := X116.leave (v := none) (fun _ => rfl)
  refine ⟨_, _, pre117 _ (X116.returnOut hx Bd.returns (hb hby d1_13) hr), hrun, hended, _, _, rfl, ?_, ⟨_, rfl⟩, hW, hsame.mono (by decide) (by decide)⟩
  show Q_init1_0 Z b62 h0 n0 _ T116.heap _
  rw [e116]
  exact ⟨b109, k109, rfl, N116, K116, O116, F118, F119, F120, V109, F121, F122, sz_b109⟩
theorem pd_11 : parseMethodDescriptor "(I)Ljava/lang/Integer;" = some ⟨[.int], some (.object "java/lang/Integer")⟩ := by decide +kernel
theorem d4_0 : decode prog_9_method_8_code 0 = .ok (.aload_n 0, 1) := by decide +kernel
theorem d4_1 : decode prog_9_method_8_code 1 = .ok (.getfield 82, 3) := by decide +kernel
theorem d4_4 : decode prog_9_method_8_code 4 = .ok (.aload_n 0, 1) := by decide +kernel
theorem d4_5 : decode prog_9_method_8_code 5 = .ok (.getfield 9, 3) := by decide +kernel
theorem d4_8 : decode prog_9_method_8_code 8 = .ok (.arraylength, 1) := by decide +kernel
theorem d4_9 : decode prog_9_method_8_code 9 = .ok (.if_icmp .ne 41, 3) := by decide +kernel
theorem d4_50 : decode prog_9_method_8_code 50 = .ok (.aload_n 0, 1) := by decide +kernel
theorem d4_51 : decode prog_9_method_8_code 51 = .ok (.getfield 9, 3) := by decide +kernel
theorem d4_54 : decode prog_9_method_8_code 54 = .ok (.aload_n 0, 1) := by decide +kernel
theorem d4_55 : decode prog_9_method_8_code 55 = .ok (.getfield 82, 3) := by decide +kernel
theorem d4_58 : decode prog_9_method_8_code 58 = .ok (.aload_n 1, 1) := by decide +kernel
theorem d4_59 : decode prog_9_method_8_code 59 = .ok (.aastore, 1) := by decide +kernel
theorem d4_60 : decode prog_9_method_8_code 60 = .ok (.aload_n 0, 1) := by decide +kernel
theorem d4_61 : decode prog_9_method_8_code 61 = .ok (.dup, 1) := by decide +kernel
theorem d4_62 : decode prog_9_method_8_code 62 = .ok (.getfield 82, 3) := by decide +kernel
theorem d4_65 : decode prog_9_method_8_code 65 = .ok (.iconst 1, 1) := by decide +kernel
theorem d4_66 : decode prog_9_method_8_code 66 = .ok (.iadd, 1) := by decide +kernel
theorem d4_67 : decode prog_9_method_8_code 67 = .ok (.putfield 82, 3) := by decide +kernel
theorem d4_70 : decode prog_9_method_8_code 70 = .ok (.return_, 1) := by decide +kernel
theorem ef_12 (m : MethodId) (x0 : Addr) (x1 : Addr) : entryFrame m #[(.ref x0), (.ref x1)] 3 = mkF m 0 #[.val (.ref x0), .val (.ref x1), .unset] [] := by first | (simp [entryFrame, mkF, argsToLocals, Value.category]; done) | rfl
def Q_add4_0 (Z : State) (b62 : Addr) (r_132 : Addr) (b109_68 : Addr) (k109_68 : ClassId) (h0 : Heap) (n0 : Nat) (v : Option Value) (h : Heap) (L : List Loc) : Prop := v = none ∧ Fr n0 L ∧ Keep h0 h [b62, b109_68] ∧ Old Z n0 h ∧ Exa Z h b62 "com/example/homethread/homethread/Items" ∧ Exa Z h b109_68 "[Ljava/lang/Object;" ∧ Fld Z h b62 "com/example/homethread/homethread/Items" "slots" "[Ljava/lang/Object;" (.ref b109_68) ∧ Arv Z h b109_68 k109_68 (.object "java/lang/Object") (16 : Int32) [(.ref r_132), .null, .null, .null, .null, .null, .null, .null, .null, .null, .null, .null, .null, .null, .null, .null] .null ∧ Fld Z h b62 "com/example/homethread/homethread/Items" "size" "I" (.int (1 : Int32))
set_option maxRecDepth 65536 in
set_option maxHeartbeats 40000000 in
theorem rm_add4_0 (l : Launch) (Z : State) (a0 : Array Value) (hw : ∀ d ∈ tables_1, d.before a0 Z = true) (ws : List Jvm.Cond) (b62 : Addr) (r_132 : Addr) (b109_68 : Addr) (k109_68 : ClassId) (h0 : Heap) (n0 : Nat) (O0 : Old Z n0 h0) (g_b62 : n0 ≤ b62) (g_b109_68 : n0 ≤ b109_68) (Fi0 : Exa Z h0 b62 "com/example/homethread/homethread/Items") (Fi1 : Fld Z h0 b62 "com/example/homethread/homethread/Items" "size" "I" (.int (0 : Int32))) (Fi2 : Arv Z h0 b109_68 k109_68 (.object "java/lang/Object") (16 : Int32) [.null, .null, .null, .null, .null, .null, .null, .null, .null, .null, .null, .null, .null, .null, .null, .null] .null) (Fi3 : Ovr Z k109_68 "java/lang/Object") (Fi4 : Exa Z h0 b109_68 "[Ljava/lang/Object;") (Fi5 : Fld Z h0 b62 "com/example/homethread/homethread/Items" "slots" "[Ljava/lang/Object;" (.ref b109_68)) (Fi6 : Exa Z h0 r_132 "java/lang/Integer") (q0 : ¬ (b109_68 = b62)) :
    MetFree l (⟨"com/example/homethread/homethread/Items", "add", "(Ljava/lang/Object;)V"⟩ : MethodName) (head1 (Jvm.Cond.code (⟨"com/example/homethread/homethread/Items", "add", "(Ljava/lang/Object;)V"⟩ : MethodName) prog_9_method_8_code 3 none :: ws) ({ frames := 0, cells := 0, slots := 0, locals := 0 } : Room)) (fun a U => a = #[(.ref b62), (.ref r_132)] ∧ Z.Warmed39 U.vm ∧ U.heap = h0) (fun _ _ _ _ _ => True) (fun _ U o U' => ∃ v L, o = .returned v ∧ Q_add4_0 Z b62 r_132 b109_68 k109_68 h0 n0 v U'.heap L ∧ FrameEnd U o U' L ({ frames := 0, cells := 0, slots := 0, locals := 0 } : Room).cells ({ frames := 0, cells := 0, slots := 0, locals := 0 } : Room).slots) := by
  refine MetFree.of_bodySF (plainFor_of_name pn_9) hisR ?_
  intro p e s m args below meth c s₁ Bd hml0 hP hK
  have W := fun {d : Jvm.Cond} (i : Nat) (q : tables_1[i]? = some d) => hw d (List.mem_of_getElem? q)
  obtain ⟨rfl, hZ, hh⟩ := hP
  have hx := Bd.exec
  have hby := Bd.bytes
  have hml : c.maxLocals = 3 := hml0
  have hown : s.vm.findClass "com/example/homethread/homethread/Items" = some m.cls := findClass_of_methodNamed Bd.named
  have hnm := (name_of_methodNamed Bd.named Bd.method).1
  have X0 : Stand p l e ({ frames := 0, cells := 0, slots := 0, locals := 0 } : Room) s m #[(.ref b62), (.ref r_132)] below meth c s₁ [] 0 0 := Stand.of_body Bd
  have e0 : s₁.heap = h0 := by rw [← hh, Bd.state]; rfl
  have N0 := Fr.nil n0
  have pre0 : ∀ t, Steps p.tables e below (s₁.setTop (mkF m 0 #[rv b62, rv r_132, .unset] [])) t → Steps p.tables e below (s₁.setTop (entryFrame m #[(.ref b62), (.ref r_132)] 3)) t := fun t k => castTop (ef_12 m b62 r_132) k
  have K0 : Keep h0 h0 [b62, b109_68] := Keep.refl h0 [b62, b109_68]
  have pre210 : ∀ t, Steps p.tables e below (s₁.setTop (mkF m 1 #[rv b62, rv r_132, .unset] [(.ref b62)])) t → Steps p.tables e below (s₁.setTop (entryFrame m #[(.ref b62), (.ref r_132)] 3)) t := fun t kt => by
    refine pre0 _ ?_
    show Steps p.tables e below (s₁.setTop (mkF m 0 #[rv b62, rv r_132, .unset] [])) _
    refine XS.aloadN X0.here hx rfl (hb hby d4_0) rfl rfl ?_
    exact kt
  obtain ⟨T211, X211, e211, st211⟩ := getF X0 hx hZ hown (host := "") (Or.inl (W 25 rfl)) Via.refl e0 Fi1 (g := (mkF m 1 #[rv b62, rv r_132, .unset] [(.ref b62)])) rfl rfl (hb hby d4_1)
  have pre212 : ∀ t, Steps p.tables e below (T211.setTop (mkF m 4 #[rv b62, rv r_132, .unset] [(.int (0 : Int32))])) t → Steps p.tables e below (s₁.setTop (entryFrame m #[(.ref b62), (.ref r_132)] 3)) t := fun t kt => pre210 _ (st211 _ kt)
  have pre213 : ∀ t, Steps p.tables e below (T211.setTop (mkF m 5 #[rv b62, rv r_132, .unset] [(.ref b62), (.int (0 : Int32))])) t → Steps p.tables e below (s₁.setTop (entryFrame m #[(.ref b62), (.ref r_132)] 3)) t := fun t kt => by
    refine pre212 _ ?_
    show Steps p.tables e below (T211.setTop (mkF m 4 #[rv b62, rv r_132, .unset] [(.int (0 : Int32))])) _
    refine XS.aloadN X211.here hx rfl (hb hby d4_4) rfl rfl ?_
    exact kt
  obtain ⟨T214, X214, e214, st214⟩ := getF X211 hx hZ hown (host := "") (Or.inl (W 11 rfl)) Via.refl e211 Fi5 (g := (mkF m 5 #[rv b62, rv r_132, .unset] [(.ref b62), (.int (0 : Int32))])) rfl rfl (hb hby d4_5)
  have pre215 : ∀ t, Steps p.tables e below (T214.setTop (mkF m 8 #[rv b62, rv r_132, .unset] [(.ref b109_68), (.int (0 : Int32))])) t → Steps p.tables e below (s₁.setTop (entryFrame m #[(.ref b62), (.ref r_132)] 3)) t := fun t kt => pre213 _ (st214 _ kt)
  obtain ⟨c216, Ar216, -, S216, M216, -, -⟩ := id Fi2
  have pre217 : ∀ t, Steps p.tables e below (T214.setTop (mkF m 51 #[rv b62, rv r_132, .unset] [(.ref b62)])) t → Steps p.tables e below (s₁.setTop (entryFrame m #[(.ref b62), (.ref r_132)] 3)) t := fun t kt => by
    refine pre215 _ ?_
    show Steps p.tables e below (T214.setTop (mkF m 8 #[rv b62, rv r_132, .unset] [(.ref b109_68), (.int (0 : Int32))])) _
    refine X214.arraylength hx (by rw [e214]; exact Ar216.1) (State.isArrayOf_alike hZ.alike Ar216.2.1) (g := (mkF m 8 #[rv b62, rv r_132, .unset] [(.ref b109_68), (.int (0 : Int32))])) rfl rfl (hb hby d4_8) _ ?_
    rw [len_of S216 M216]
    show Steps p.tables e below (T214.setTop (mkF m 9 #[rv b62, rv r_132, .unset] [(.int (16 : Int32)), (.int (0 : Int32))])) _
    refine XS.icmpYes X214.here hx rfl (pc0 := 9) (pc' := 50) rfl (hb hby d4_9) rfl (XT.ii_ne_t (by decide)) (by decide) (by decide) ?_
    show Steps p.tables e below (T214.setTop (mkF m 50 #[rv b62, rv r_132, .unset] [])) _
    refine XS.aloadN X214.here hx rfl (hb hby d4_50) rfl rfl ?_
    exact kt
  obtain ⟨T218, X218, e218, st218⟩ := getF X214 hx hZ hown (host := "") (Or.inl (W 11 rfl)) Via.refl e214 Fi5 (g := (mkF m 51 #[rv b62, rv r_132, .unset] [(.ref b62)])) rfl rfl (hb hby d4_51)
  have pre219 : ∀ t, Steps p.tables e below (T218.setTop (mkF m 54 #[rv b62, rv r_132, .unset] [(.ref b109_68)])) t → Steps p.tables e below (s₁.setTop (entryFrame m #[(.ref b62), (.ref r_132)] 3)) t := fun t kt => pre217 _ (st218 _ kt)
  have pre220 : ∀ t, Steps p.tables e below (T218.setTop (mkF m 55 #[rv b62, rv r_132, .unset] [(.ref b62), (.ref b109_68)])) t → Steps p.tables e below (s₁.setTop (entryFrame m #[(.ref b62), (.ref r_132)] 3)) t := fun t kt => by
    refine pre219 _ ?_
    show Steps p.tables e below (T218.setTop (mkF m 54 #[rv b62, rv r_132, .unset] [(.ref b109_68)])) _
    refine XS.aloadN X218.here hx rfl (hb hby d4_54) rfl rfl ?_
    exact kt
  obtain ⟨T221, X221, e221, st221⟩ := getF X218 hx hZ hown (host := "") (Or.inl (W 25 rfl)) Via.refl e218 Fi1 (g := (mkF m 55 #[rv b62, rv r_132, .unset] [(.ref b62), (.ref b109_68)])) rfl rfl (hb hby d4_55)
  have pre222 : ∀ t, Steps p.tables e below (T221.setTop (mkF m 58 #[rv b62, rv r_132, .unset] [(.int (0 : Int32)), (.ref b109_68)])) t → Steps p.tables e below (s₁.setTop (entryFrame m #[(.ref b62), (.ref r_132)] 3)) t := fun t kt => pre220 _ (st221 _ kt)
  have pre223 : ∀ t, Steps p.tables e below (T221.setTop (mkF m 59 #[rv b62, rv r_132, .unset] [(.ref r_132), (.int (0 : Int32)), (.ref b109_68)])) t → Steps p.tables e below (s₁.setTop (entryFrame m #[(.ref b62), (.ref r_132)] 3)) t := fun t kt => by
    refine pre222 _ ?_
    show Steps p.tables e below (T221.setTop (mkF m 58 #[rv b62, rv r_132, .unset] [(.int (0 : Int32)), (.ref b109_68)])) _
    refine XS.aloadN X221.here hx rfl (hb hby d4_58) rfl rfl ?_
    exact kt
  obtain ⟨c224, Ar224, q224, S224, M224, H224, G224⟩ := id Fi2
  have i224 : ¬ ((0 : Int32) < 0 ∨ c224.slots.size ≤ ((0 : Int32)).toNatClampNeg) := inb_of S224 ⟨by decide, by decide⟩
  obtain ⟨T225, h225, X225, e225, W225, st225⟩ := stR X221 hx hZ e221 Ar224 (j := (0 : Int32)) i224 rfl (Sto.ofV Ar224 q224 Fi3 (Ins.of_exa Fi6 (W 27 rfl))) (g := (mkF m 59 #[rv b62, rv r_132, .unset] [(.ref r_132), (.int (0 : Int32)), (.ref b109_68)])) rfl rfl (hb hby d4_59)
  have pre226 : ∀ t, Steps p.tables e below (T225.setTop (mkF m 60 #[rv b62, rv r_132, .unset] [])) t → Steps p.tables e below (s₁.setTop (entryFrame m #[(.ref b62), (.ref r_132)] 3)) t := fun t kt => pre223 _ (st225 _ kt)
  have N225 := Fr.snoc X225 N0 g_b109_68
  have O225 := O0.wr W225 g_b109_68
  have K225 : Keep h0 h225 [b62, b109_68] := K0.wr W225 (Or.inl (List.mem_of_getElem? (i := 1) rfl))
  have F227 := Fi0.wr W225
  have F228 := Fi1.other W225 (Or.inl (fun q => q0 q.symm))
  have F229 := Fi4.wr W225
  have F230 := Fi5.other W225 (Or.inl (fun q => q0 q.symm))
  have F231 := Fi6.wr W225
  have F232 : Arv Z h225 b109_68 k109_68 (.object "java/lang/Object") (16 : Int32) [(.ref r_132), .null, .null, .null, .null, .null, .null, .null, .null, .null, .null, .null, .null, .null, .null, .null] .null := Arv.set Ar224 q224 S224 M224 H224 G224 rfl W225 0 rfl (Nat.le_of_ble_eq_true rfl)
  have pre233 : ∀ t, Steps p.tables e below (T225.setTop (mkF m 62 #[rv b62, rv r_132, .unset] [(.ref b62), (.ref b62)])) t → Steps p.tables e below (s₁.setTop (entryFrame m #[(.ref b62), (.ref r_132)] 3)) t := fun t kt => by
    refine pre226 _ ?_
    show Steps p.tables e below (T225.setTop (mkF m 60 #[rv b62, rv r_132, .unset] [])) _
    refine XS.aloadN X225.here hx rfl (hb hby d4_60) rfl rfl ?_
    show Steps p.tables e below (T225.setTop (mkF m 61 #[rv b62, rv r_132, .unset] [(.ref b62)])) _
    refine XS.dup X225.here hx rfl (hb hby d4_61) rfl rfl ?_
    exact kt
  obtain ⟨T234, X234, e234, st234⟩ := getF X225 hx hZ hown (host := "") (Or.inl (W 25 rfl)) Via.refl e225 F228 (g := (mkF m 62 #[rv b62, rv r_132, .unset] [(.ref b62), (.ref b62)])) rfl rfl (hb hby d4_62)
  have pre235 : ∀ t, Steps p.tables e below (T234.setTop (mkF m 65 #[rv b62, rv r_132, .unset] [(.int (0 : Int32)), (.ref b62)])) t → Steps p.tables e below (s₁.setTop (entryFrame m #[(.ref b62), (.ref r_132)] 3)) t := fun t kt => pre233 _ (st234 _ kt)
  have pre236 : ∀ t, Steps p.tables e below (T234.setTop (mkF m 67 #[rv b62, rv r_132, .unset] [(.int (1 : Int32)), (.ref b62)])) t → Steps p.tables e below (s₁.setTop (entryFrame m #[(.ref b62), (.ref r_132)] 3)) t := fun t kt => by
    refine pre235 _ ?_
    show Steps p.tables e below (T234.setTop (mkF m 65 #[rv b62, rv r_132, .unset] [(.int (0 : Int32)), (.ref b62)])) _
    refine XS.iconst X234.here hx rfl (hb hby d4_65) ?_
    show Steps p.tables e below (T234.setTop (mkF m 66 #[rv b62, rv r_132, .unset] [(.int (1 : Int32)), (.int (0 : Int32)), (.ref b62)])) _
    refine XS.iadd X234.here hx rfl (hb hby d4_66) rfl ?_
    show  Steps p.tables e below (T234.setTop (mkF m 67 #[rv b62, rv r_132, .unset] [(.int ((0 : Int32) + (1 : Int32))), (.ref b62)])) _
    rw [(by decide : (((0 : Int32) + (1 : Int32)) : Int32) = (1 : Int32))]
    exact kt
  obtain ⟨T237, h237, X237, e237, W237, st237⟩ := putF X234 hx hZ hown (host := "") (Or.inl (W 25 rfl)) Via.refl e234 F228 F227 (Or.inl (W 26 rfl)) (W 1 rfl) (ty := .int) (by decide) rfl rfl (g := (mkF m 67 #[rv b62, rv r_132, .unset] [(.int (1 : Int32)), (.ref b62)])) rfl rfl (hb hby d4_67)
  have pre238 : ∀ t, Steps p.tables e below (T237.setTop (mkF m 70 #[rv b62, rv r_132, .unset] [])) t → Steps p.tables e below (s₁.setTop (entryFrame m #[(.ref b62), (.ref r_132)] 3)) t := fun t kt => pre236 _ (st237 _ kt)
  have N237 := Fr.snoc X237 N225 g_b62
  have O237 := O225.wr W237 g_b62
  have K237 : Keep h0 h237 [b62, b109_68] := K225.wr W237 (Or.inl (List.mem_of_getElem? (i := 0) rfl))
  have F239 := F227.wr W237
  have F240 := F229.wr W237
  have F241 := F230.other W237 (Or.inr (slot_ne (Or.inl (W 12 rfl)) (Or.inl (W 26 rfl)) (by decide) (t := (.array (.object "java/lang/Object"))) (t' := .int) (by decide) (by decide)))
  have F242 := F231.wr W237
  have F243 := F232.other W237 q0
  have F244 : Fld Z h237 b62 "com/example/homethread/homethread/Items" "size" "I" (.int (1 : Int32)) := F228.same W237
  obtain ⟨fs, hr, hrun, hended, hW, hsame⟩ := X237.leave (v := none) (fun _ => rfl)
  refine ⟨_, _, pre238 _ (X237.returnOut hx Bd.returns (hb hby d4_70) hr), hrun, hended, _, _, rfl, ?_, ⟨_, rfl⟩, hW, hsame.mono (by decide) (by decide)⟩
  show Q_add4_0 Z b62 r_132 b109_68 k109_68 h0 n0 _ T237.heap _
  rw [e237]
  exact ⟨rfl, N237, K237, O237, F239, F240, F241, F243, F244⟩
theorem pd_13 : parseMethodDescriptor "(Ljava/lang/Object;)V" = some ⟨[(.object "java/lang/Object")], none⟩ := by decide +kernel
def Q_add4_1 (Z : State) (b62 : Addr) (r_262 : Addr) (k109_68 : ClassId) (r_248 : Addr) (b109_68 : Addr) (h0 : Heap) (n0 : Nat) (v : Option Value) (h : Heap) (L : List Loc) : Prop := v = none ∧ Fr n0 L ∧ Keep h0 h [b62, b109_68] ∧ Old Z n0 h ∧ Exa Z h b62 "com/example/homethread/homethread/Items" ∧ Exa Z h b109_68 "[Ljava/lang/Object;" ∧ Fld Z h b62 "com/example/homethread/homethread/Items" "slots" "[Ljava/lang/Object;" (.ref b109_68) ∧ Arv Z h b109_68 k109_68 (.object "java/lang/Object") (16 : Int32) [(.ref r_248), (.ref r_262), .null, .null, .null, .null, .null, .null, .null, .null, .null, .null, .null, .null, .null, .null] .null ∧ Fld Z h b62 "com/example/homethread/homethread/Items" "size" "I" (.int (2 : Int32))
set_option maxRecDepth 65536 in
set_option maxHeartbeats 40000000 in
theorem rm_add4_1 (l : Launch) (Z : State) (a0 : Array Value) (hw : ∀ d ∈ tables_1, d.before a0 Z = true) (ws : List Jvm.Cond) (b62 : Addr) (r_262 : Addr) (k109_68 : ClassId) (r_248 : Addr) (b109_68 : Addr) (h0 : Heap) (n0 : Nat) (O0 : Old Z n0 h0) (g_b62 : n0 ≤ b62) (g_b109_68 : n0 ≤ b109_68) (Fi0 : Ovr Z k109_68 "java/lang/Object") (Fi1 : Exa Z h0 b62 "com/example/homethread/homethread/Items") (Fi2 : Exa Z h0 b109_68 "[Ljava/lang/Object;") (Fi3 : Fld Z h0 b62 "com/example/homethread/homethread/Items" "slots" "[Ljava/lang/Object;" (.ref b109_68)) (Fi4 : Arv Z h0 b109_68 k109_68 (.object "java/lang/Object") (16 : Int32) [(.ref r_248), .null, .null, .null, .null, .null, .null, .null, .null, .null, .null, .null, .null, .null, .null, .null] .null) (Fi5 : Fld Z h0 b62 "com/example/homethread/homethread/Items" "size" "I" (.int (1 : Int32))) (Fi6 : Exa Z h0 r_262 "java/lang/Integer") (q0 : ¬ (b109_68 = b62)) :
    MetFree l (⟨"com/example/homethread/homethread/Items", "add", "(Ljava/lang/Object;)V"⟩ : MethodName) (head1 (Jvm.Cond.code (⟨"com/example/homethread/homethread/Items", "add", "(Ljava/lang/Object;)V"⟩ : MethodName) prog_9_method_8_code 3 none :: ws) ({ frames := 0, cells := 0, slots := 0, locals := 0 } : Room)) (fun a U => a = #[(.ref b62), (.ref r_262)] ∧ Z.Warmed39 U.vm ∧ U.heap = h0) (fun _ _ _ _ _ => True) (fun _ U o U' => ∃ v L, o = .returned v ∧ Q_add4_1 Z b62 r_262 k109_68 r_248 b109_68 h0 n0 v U'.heap L ∧ FrameEnd U o U' L ({ frames := 0, cells := 0, slots := 0, locals := 0 } : Room).cells ({ frames := 0, cells := 0, slots := 0, locals := 0 } : Room).slots) := by
  refine MetFree.of_bodySF (plainFor_of_name pn_9) hisR ?_
  intro p e s m args below meth c s₁ Bd hml0 hP hK
  have W := fun {d : Jvm.Cond} (i : Nat) (q : tables_1[i]? = some d) => hw d (List.mem_of_getElem? q)
  obtain ⟨rfl, hZ, hh⟩ := hP
  have hx := Bd.exec
  have hby := Bd.bytes
  have hml : c.maxLocals = 3 := hml0
  have hown : s.vm.findClass "com/example/homethread/homethread/Items" = some m.cls := findClass_of_methodNamed Bd.named
  have hnm := (name_of_methodNamed Bd.named Bd.method).1
  have X0 : Stand p l e ({ frames := 0, cells := 0, slots := 0, locals := 0 } : Room) s m #[(.ref b62), (.ref r_262)] below meth c s₁ [] 0 0 := Stand.of_body Bd
  have e0 : s₁.heap = h0 := by rw [← hh, Bd.state]; rfl
  have N0 := Fr.nil n0
  have pre0 : ∀ t, Steps p.tables e below (s₁.setTop (mkF m 0 #[rv b62, rv r_262, .unset] [])) t → Steps p.tables e below (s₁.setTop (entryFrame m #[(.ref b62), (.ref r_262)] 3)) t := fun t k => castTop (ef_12 m b62 r_262) k
  have K0 : Keep h0 h0 [b62, b109_68] := Keep.refl h0 [b62, b109_68]
  have pre343 : ∀ t, Steps p.tables e below (s₁.setTop (mkF m 1 #[rv b62, rv r_262, .unset] [(.ref b62)])) t → Steps p.tables e below (s₁.setTop (entryFrame m #[(.ref b62), (.ref r_262)] 3)) t := fun t kt => by
    refine pre0 _ ?_
    show Steps p.tables e below (s₁.setTop (mkF m 0 #[rv b62, rv r_262, .unset] [])) _
    refine XS.aloadN X0.here hx rfl (hb hby d4_0) rfl rfl ?_
    exact kt
  obtain ⟨T344, X344, e344, st344⟩ := getF X0 hx hZ hown (host := "") (Or.inl (W 25 rfl)) Via.refl e0 Fi5 (g := (mkF m 1 #[rv b62, rv r_262, .unset] [(.ref b62)])) rfl rfl (hb hby d4_1)
  have pre345 : ∀ t, Steps p.tables e below (T344.setTop (mkF m 4 #[rv b62, rv r_262, .unset] [(.int (1 : Int32))])) t → Steps p.tables e below (s₁.setTop (entryFrame m #[(.ref b62), (.ref r_262)] 3)) t := fun t kt => pre343 _ (st344 _ kt)
  have pre346 : ∀ t, Steps p.tables e below (T344.setTop (mkF m 5 #[rv b62, rv r_262, .unset] [(.ref b62), (.int (1 : Int32))])) t → Steps p.tables e below (s₁.setTop (entryFrame m #[(.ref b62), (.ref r_262)] 3)) t := fun t kt => by
    refine pre345 _ ?_
    show Steps p.tables e below (T344.setTop (mkF m 4 #[rv b62, rv r_262, .unset] [(.int (1 : Int32))])) _
    refine XS.aloadN X344.here hx rfl (hb hby d4_4) rfl rfl ?_
    exact kt
  obtain ⟨T347, X347, e347, st347⟩ := getF X344 hx hZ hown (host := "") (Or.inl (W 11 rfl)) Via.refl e344 Fi3 (g := (mkF m 5 #[rv b62, rv r_262, .unset] [(.ref b62), (.int (1 : Int32))])) rfl rfl (hb hby d4_5)
  have pre348 : ∀ t, Steps p.tables e below (T347.setTop (mkF m 8 #[rv b62, rv r_262, .unset] [(.ref b109_68), (.int (1 : Int32))])) t → Steps p.tables e below (s₁.setTop (entryFrame m #[(.ref b62), (.ref r_262)] 3)) t := fun t kt => pre346 _ (st347 _ kt)
  obtain ⟨c349, Ar349, -, S349, M349, -, -⟩ := id Fi4
  have pre350 : ∀ t, Steps p.tables e below (T347.setTop (mkF m 51 #[rv b62, rv r_262, .unset] [(.ref b62)])) t → Steps p.tables e below (s₁.setTop (entryFrame m #[(.ref b62), (.ref r_262)] 3)) t := fun t kt => by
    refine pre348 _ ?_
    show Steps p.tables e below (T347.setTop (mkF m 8 #[rv b62, rv r_262, .unset] [(.ref b109_68), (.int (1 : Int32))])) _
    refine X347.arraylength hx (by rw [e347]; exact Ar349.1) (State.isArrayOf_alike hZ.alike Ar349.2.1) (g := (mkF m 8 #[rv b62, rv r_262, .unset] [(.ref b109_68), (.int (1 : Int32))])) rfl rfl (hb hby d4_8) _ ?_
    rw [len_of S349 M349]
    show Steps p.tables e below (T347.setTop (mkF m 9 #[rv b62, rv r_262, .unset] [(.int (16 : Int32)), (.int (1 : Int32))])) _
    refine XS.icmpYes X347.here hx rfl (pc0 := 9) (pc' := 50) rfl (hb hby d4_9) rfl (XT.ii_ne_t (by decide)) (by decide) (by decide) ?_
    show Steps p.tables e below (T347.setTop (mkF m 50 #[rv b62, rv r_262, .unset] [])) _
    refine XS.aloadN X347.here hx rfl (hb hby d4_50) rfl rfl ?_
    exact kt
  obtain ⟨T351, X351, e351, st351⟩ := getF X347 hx hZ hown (host := "") (Or.inl (W 11 rfl)) Via.refl e347 Fi3 (g := (mkF m 51 #[rv b62, rv r_262, .unset] [(.ref b62)])) rfl rfl (hb hby d4_51)
  have pre352 : ∀ t, Steps p.tables e below (T351.setTop (mkF m 54 #[rv b62, rv r_262, .unset] [(.ref b109_68)])) t → Steps p.tables e below (s₁.setTop (entryFrame m #[(.ref b62), (.ref r_262)] 3)) t := fun t kt => pre350 _ (st351 _ kt)
  have pre353 : ∀ t, Steps p.tables e below (T351.setTop (mkF m 55 #[rv b62, rv r_262, .unset] [(.ref b62), (.ref b109_68)])) t → Steps p.tables e below (s₁.setTop (entryFrame m #[(.ref b62), (.ref r_262)] 3)) t := fun t kt => by
    refine pre352 _ ?_
    show Steps p.tables e below (T351.setTop (mkF m 54 #[rv b62, rv r_262, .unset] [(.ref b109_68)])) _
    refine XS.aloadN X351.here hx rfl (hb hby d4_54) rfl rfl ?_
    exact kt
  obtain ⟨T354, X354, e354, st354⟩ := getF X351 hx hZ hown (host := "") (Or.inl (W 25 rfl)) Via.refl e351 Fi5 (g := (mkF m 55 #[rv b62, rv r_262, .unset] [(.ref b62), (.ref b109_68)])) rfl rfl (hb hby d4_55)
  have pre355 : ∀ t, Steps p.tables e below (T354.setTop (mkF m 58 #[rv b62, rv r_262, .unset] [(.int (1 : Int32)), (.ref b109_68)])) t → Steps p.tables e below (s₁.setTop (entryFrame m #[(.ref b62), (.ref r_262)] 3)) t := fun t kt => pre353 _ (st354 _ kt)
  have pre356 : ∀ t, Steps p.tables e below (T354.setTop (mkF m 59 #[rv b62, rv r_262, .unset] [(.ref r_262), (.int (1 : Int32)), (.ref b109_68)])) t → Steps p.tables e below (s₁.setTop (entryFrame m #[(.ref b62), (.ref r_262)] 3)) t := fun t kt => by
    refine pre355 _ ?_
    show Steps p.tables e below (T354.setTop (mkF m 58 #[rv b62, rv r_262, .unset] [(.int (1 : Int32)), (.ref b109_68)])) _
    refine XS.aloadN X354.here hx rfl (hb hby d4_58) rfl rfl ?_
    exact kt
  obtain ⟨c357, Ar357, q357, S357, M357, H357, G357⟩ := id Fi4
  have i357 : ¬ ((1 : Int32) < 0 ∨ c357.slots.size ≤ ((1 : Int32)).toNatClampNeg) := inb_of S357 ⟨by decide, by decide⟩
  obtain ⟨T358, h358, X358, e358, W358, st358⟩ := stR X354 hx hZ e354 Ar357 (j := (1 : Int32)) i357 rfl (Sto.ofV Ar357 q357 Fi0 (Ins.of_exa Fi6 (W 27 rfl))) (g := (mkF m 59 #[rv b62, rv r_262, .unset] [(.ref r_262), (.int (1 : Int32)), (.ref b109_68)])) rfl rfl (hb hby d4_59)
  have pre359 : ∀ t, Steps p.tables e below (T358.setTop (mkF m 60 #[rv b62, rv r_262, .unset] [])) t → Steps p.tables e below (s₁.setTop (entryFrame m #[(.ref b62), (.ref r_262)] 3)) t := fun t kt => pre356 _ (st358 _ kt)
  have N358 := Fr.snoc X358 N0 g_b109_68
  have O358 := O0.wr W358 g_b109_68
  have K358 : Keep h0 h358 [b62, b109_68] := K0.wr W358 (Or.inl (List.mem_of_getElem? (i := 1) rfl))
  have F360 := Fi1.wr W358
  have F361 := Fi2.wr W358
  have F362 := Fi3.other W358 (Or.inl (fun q => q0 q.symm))
  have F363 := Fi5.other W358 (Or.inl (fun q => q0 q.symm))
  have F364 := Fi6.wr W358
  have F365 : Arv Z h358 b109_68 k109_68 (.object "java/lang/Object") (16 : Int32) [(.ref r_248), (.ref r_262), .null, .null, .null, .null, .null, .null, .null, .null, .null, .null, .null, .null, .null, .null] .null := Arv.set Ar357 q357 S357 M357 H357 G357 rfl W358 1 rfl (Nat.le_of_ble_eq_true rfl)
  have pre366 : ∀ t, Steps p.tables e below (T358.setTop (mkF m 62 #[rv b62, rv r_262, .unset] [(.ref b62), (.ref b62)])) t → Steps p.tables e below (s₁.setTop (entryFrame m #[(.ref b62), (.ref r_262)] 3)) t := fun t kt => by
    refine pre359 _ ?_
    show Steps p.tables e below (T358.setTop (mkF m 60 #[rv b62, rv r_262, .unset] [])) _
    refine XS.aloadN X358.here hx rfl (hb hby d4_60) rfl rfl ?_
    show Steps p.tables e below (T358.setTop (mkF m 61 #[rv b62, rv r_262, .unset] [(.ref b62)])) _
    refine XS.dup X358.here hx rfl (hb hby d4_61) rfl rfl ?_
    exact kt
  obtain ⟨T367, X367, e367, st367⟩ := getF X358 hx hZ hown (host := "") (Or.inl (W 25 rfl)) Via.refl e358 F363 (g := (mkF m 62 #[rv b62, rv r_262, .unset] [(.ref b62), (.ref b62)])) rfl rfl (hb hby d4_62)
  have pre368 : ∀ t, Steps p.tables e below (T367.setTop (mkF m 65 #[rv b62, rv r_262, .unset] [(.int (1 : Int32)), (.ref b62)])) t → Steps p.tables e below (s₁.setTop (entryFrame m #[(.ref b62), (.ref r_262)] 3)) t := fun t kt => pre366 _ (st367 _ kt)
  have pre369 : ∀ t, Steps p.tables e below (T367.setTop (mkF m 67 #[rv b62, rv r_262, .unset] [(.int (2 : Int32)), (.ref b62)])) t → Steps p.tables e below (s₁.setTop (entryFrame m #[(.ref b62), (.ref r_262)] 3)) t := fun t kt => by
    refine pre368 _ ?_
    show Steps p.tables e below (T367.setTop (mkF m 65 #[rv b62, rv r_262, .unset] [(.int (1 : Int32)), (.ref b62)])) _
    refine XS.iconst X367.here hx rfl (hb hby d4_65) ?_
    show Steps p.tables e below (T367.setTop (mkF m 66 #[rv b62, rv r_262, .unset] [(.int (1 : Int32)), (.int (1 : Int32)), (.ref b62)])) _
    refine XS.iadd X367.here hx rfl (hb hby d4_66) rfl ?_
    show  Steps p.tables e below (T367.setTop (mkF m 67 #[rv b62, rv r_262, .unset] [(.int ((1 : Int32) + (1 : Int32))), (.ref b62)])) _
    rw [(by decide : (((1 : Int32) + (1 : Int32)) : Int32) = (2 : Int32))]
    exact kt
  obtain ⟨T370, h370, X370, e370, W370, st370⟩ := putF X367 hx hZ hown (host := "") (Or.inl (W 25 rfl)) Via.refl e367 F363 F360 (Or.inl (W 26 rfl)) (W 1 rfl) (ty := .int) (by decide) rfl rfl (g := (mkF m 67 #[rv b62, rv r_262, .unset] [(.int (2 : Int32)), (.ref b62)])) rfl rfl (hb hby d4_67)
  have pre371 : ∀ t, Steps p.tables e below (T370.setTop (mkF m 70 #[rv b62, rv r_262, .unset] [])) t → Steps p.tables e below (s₁.setTop (entryFrame m #[(.ref b62), (.ref r_262)] 3)) t := fun t kt => pre369 _ (st370 _ kt)
  have N370 := Fr.snoc X370 N358 g_b62
  have O370 := O358.wr W370 g_b62
  have K370 : Keep h0 h370 [b62, b109_68] := K358.wr W370 (Or.inl (List.mem_of_getElem? (i := 0) rfl))
  have F372 := F360.wr W370
  have F373 := F361.wr W370
  have F374 := F362.other W370 (Or.inr (slot_ne (Or.inl (W 12 rfl)) (Or.inl (W 26 rfl)) (by decide) (t := (.array (.object "java/lang/Object"))) (t' := .int) (by decide) (by decide)))
  have F375 := F364.wr W370
  have F376 := F365.other W370 q0
  have F377 : Fld Z h370 b62 "com/example/homethread/homethread/Items" "size" "I" (.int (2 : Int32)) := F363.same W370
  obtain ⟨fs, hr, hrun, hended, hW, hsame⟩ := X370.leave (v := none) (fun _ => rfl)
  refine ⟨_, _, pre371 _ (X370.returnOut hx Bd.returns (hb hby d4_70) hr), hrun, hended, _, _, rfl, ?_, ⟨_, rfl⟩, hW, hsame.mono (by decide) (by decide)⟩
  show Q_add4_1 Z b62 r_262 k109_68 r_248 b109_68 h0 n0 _ T370.heap _
  rw [e370]
  exact ⟨rfl, N370, K370, O370, F372, F373, F374, F376, F377⟩
theorem d5_0 : decode prog_9_method_9_code 0 = .ok (.aload_n 0, 1) := by decide +kernel
theorem d5_1 : decode prog_9_method_9_code 1 = .ok (.getfield 9, 3) := by decide +kernel
theorem d5_4 : decode prog_9_method_9_code 4 = .ok (.areturn, 1) := by decide +kernel
theorem ef_14 (m : MethodId) (x0 : Addr) : entryFrame m #[(.ref x0)] 1 = mkF m 0 #[.val (.ref x0)] [] := by first | (simp [entryFrame, mkF, argsToLocals, Value.category]; done) | rfl
def Q_slots5_0 (Z : State) (b62 : Addr) (b109_68 : Addr) (h0 : Heap) (n0 : Nat) (v : Option Value) (h : Heap) (L : List Loc) : Prop := v = some (.ref b109_68) ∧ Fr n0 L ∧ h = h0
set_option maxRecDepth 65536 in
set_option maxHeartbeats 40000000 in
theorem rm_slots5_0 (l : Launch) (Z : State) (a0 : Array Value) (hw : ∀ d ∈ tables_1, d.before a0 Z = true) (ws : List Jvm.Cond) (b62 : Addr) (b109_68 : Addr) (h0 : Heap) (n0 : Nat) (O0 : Old Z n0 h0) (Fi0 : Fld Z h0 b62 "com/example/homethread/homethread/Items" "slots" "[Ljava/lang/Object;" (.ref b109_68)) :
    MetFree l (⟨"com/example/homethread/homethread/Items", "slots", "()[Ljava/lang/Object;"⟩ : MethodName) (head1 (Jvm.Cond.code (⟨"com/example/homethread/homethread/Items", "slots", "()[Ljava/lang/Object;"⟩ : MethodName) prog_9_method_9_code 1 (some (.array (.object "java/lang/Object"))) :: ws) ({ frames := 0, cells := 0, slots := 0, locals := 0 } : Room)) (fun a U => a = #[(.ref b62)] ∧ Z.Warmed39 U.vm ∧ U.heap = h0) (fun _ _ _ _ _ => True) (fun _ U o U' => ∃ v L, o = .returned v ∧ Q_slots5_0 Z b62 b109_68 h0 n0 v U'.heap L ∧ FrameEnd U o U' L ({ frames := 0, cells := 0, slots := 0, locals := 0 } : Room).cells ({ frames := 0, cells := 0, slots := 0, locals := 0 } : Room).slots) := by
  refine MetFree.of_bodySF (plainFor_of_name pn_9) hisR ?_
  intro p e s m args below meth c s₁ Bd hml0 hP hK
  have W := fun {d : Jvm.Cond} (i : Nat) (q : tables_1[i]? = some d) => hw d (List.mem_of_getElem? q)
  obtain ⟨rfl, hZ, hh⟩ := hP
  have hx := Bd.exec
  have hby := Bd.bytes
  have hml : c.maxLocals = 1 := hml0
  have hown : s.vm.findClass "com/example/homethread/homethread/Items" = some m.cls := findClass_of_methodNamed Bd.named
  have hnm := (name_of_methodNamed Bd.named Bd.method).1
  have X0 : Stand p l e ({ frames := 0, cells := 0, slots := 0, locals := 0 } : Room) s m #[(.ref b62)] below meth c s₁ [] 0 0 := Stand.of_body Bd
  have e0 : s₁.heap = h0 := by rw [← hh, Bd.state]; rfl
  have N0 := Fr.nil n0
  have pre0 : ∀ t, Steps p.tables e below (s₁.setTop (mkF m 0 #[rv b62] [])) t → Steps p.tables e below (s₁.setTop (entryFrame m #[(.ref b62)] 1)) t := fun t k => castTop (ef_14 m b62) k
  have K0 : Keep h0 h0 [] := Keep.refl h0 []
  have pre395 : ∀ t, Steps p.tables e below (s₁.setTop (mkF m 1 #[rv b62] [(.ref b62)])) t → Steps p.tables e below (s₁.setTop (entryFrame m #[(.ref b62)] 1)) t := fun t kt => by
    refine pre0 _ ?_
    show Steps p.tables e below (s₁.setTop (mkF m 0 #[rv b62] [])) _
    refine XS.aloadN X0.here hx rfl (hb hby d5_0) rfl rfl ?_
    exact kt
  obtain ⟨T396, X396, e396, st396⟩ := getF X0 hx hZ hown (host := "") (Or.inl (W 11 rfl)) Via.refl e0 Fi0 (g := (mkF m 1 #[rv b62] [(.ref b62)])) rfl rfl (hb hby d5_1)
  have pre397 : ∀ t, Steps p.tables e below (T396.setTop (mkF m 4 #[rv b62] [(.ref b109_68)])) t → Steps p.tables e below (s₁.setTop (entryFrame m #[(.ref b62)] 1)) t := fun t kt => pre395 _ (st396 _ kt)
  obtain ⟨fs, hr, hrun, hended, hW, hsame⟩ := X396.leave (v := some (.ref b109_68)) (fun h => by rw [Bd.returns] at h; cases h)
  refine ⟨_, _, pre397 _ (X396.areturnOut hx rfl Bd.returns rfl (hb hby d5_4) hr), hrun, hended, _, _, rfl, ?_, ⟨_, rfl⟩, hW, hsame.mono (by decide) (by decide)⟩
  show Q_slots5_0 Z b62 b109_68 h0 n0 _ T396.heap _
  rw [e396]
  exact ⟨rfl, N0, rfl⟩
theorem pd_15 : parseMethodDescriptor "()[Ljava/lang/Object;" = some ⟨[], some (.array (.object "java/lang/Object"))⟩ := by decide +kernel
theorem d6_0 : decode prog_9_method_11_code 0 = .ok (.aload_n 0, 1) := by decide +kernel
theorem d6_1 : decode prog_9_method_11_code 1 = .ok (.getfield 9, 3) := by decide +kernel
theorem d6_4 : decode prog_9_method_11_code 4 = .ok (.arraylength, 1) := by decide +kernel
theorem d6_5 : decode prog_9_method_11_code 5 = .ok (.iload_n 1, 1) := by decide +kernel
theorem d6_6 : decode prog_9_method_11_code 6 = .ok (.if_icmp .le 10, 3) := by decide +kernel
theorem d6_9 : decode prog_9_method_11_code 9 = .ok (.aload_n 0, 1) := by decide +kernel
theorem d6_10 : decode prog_9_method_11_code 10 = .ok (.getstatic 101, 3) := by decide +kernel
theorem d6_13 : decode prog_9_method_11_code 13 = .ok (.putfield 9, 3) := by decide +kernel
theorem d6_16 : decode prog_9_method_11_code 16 = .ok (.aload_n 0, 1) := by decide +kernel
theorem d6_17 : decode prog_9_method_11_code 17 = .ok (.iconst 0, 1) := by decide +kernel
theorem d6_18 : decode prog_9_method_11_code 18 = .ok (.putfield 82, 3) := by decide +kernel
theorem d6_21 : decode prog_9_method_11_code 21 = .ok (.return_, 1) := by decide +kernel
theorem ef_16 (m : MethodId) (x0 : Addr) (x1 : Int32) : entryFrame m #[(.ref x0), (.int x1)] 2 = mkF m 0 #[.val (.ref x0), .val (.int x1)] [] := by first | (simp [entryFrame, mkF, argsToLocals, Value.category]; done) | rfl
def Q_clearAndTrim6_1 (Z : State) (b62 : Addr) (p0 : Int32) (a_NO_SLOTS : Addr) (k109_68 : ClassId) (j125_0 : Int32) (j125_1 : Value) (j125_2 : Value) (b109_68 : Addr) (h0 : Heap) (n0 : Nat) (v : Option Value) (h : Heap) (L : List Loc) : Prop := v = none ∧ Fr n0 L ∧ Keep h0 h [b62] ∧ Old Z n0 h ∧ Exa Z h b62 "com/example/homethread/homethread/Items" ∧ Fld Z h b62 "com/example/homethread/homethread/Items" "slots" "[Ljava/lang/Object;" (.ref a_NO_SLOTS) ∧ Fld Z h b62 "com/example/homethread/homethread/Items" "size" "I" (.int (0 : Int32))
set_option maxRecDepth 65536 in
set_option maxHeartbeats 40000000 in
theorem rm_clearAndTrim6_1 (l : Launch) (Z : State) (a0 : Array Value) (hw : ∀ d ∈ tables_1, d.before a0 Z = true) (ws : List Jvm.Cond) (b62 : Addr) (p0 : Int32) (a_NO_SLOTS : Addr) (k109_68 : ClassId) (j125_0 : Int32) (j125_1 : Value) (j125_2 : Value) (b109_68 : Addr) (h0 : Heap) (n0 : Nat) (O0 : Old Z n0 h0) (G0 : Sta Z Z.heap "com/example/homethread/homethread/Items" "NO_SLOTS" "[Ljava/lang/Object;" (.ref a_NO_SLOTS)) (g_b62 : n0 ≤ b62) (Fi0 : Exa Z h0 b62 "com/example/homethread/homethread/Items") (Fi1 : Fld Z h0 b62 "com/example/homethread/homethread/Items" "size" "I" (.int j125_0)) (Fi2 : Arv Z h0 b109_68 k109_68 (.object "java/lang/Object") (16 : Int32) [j125_1, j125_2, .null, .null, .null, .null, .null, .null, .null, .null, .null, .null, .null, .null, .null, .null] .null) (Fi3 : Fld Z h0 b62 "com/example/homethread/homethread/Items" "slots" "[Ljava/lang/Object;" (.ref b109_68)) (q0 : ¬ (b109_68 = b62)) (q1 : p0 < (16 : Int32)) :
    MetFree l (⟨"com/example/homethread/homethread/Items", "clearAndTrim", "(I)V"⟩ : MethodName) (head1 (Jvm.Cond.code (⟨"com/example/homethread/homethread/Items", "clearAndTrim", "(I)V"⟩ : MethodName) prog_9_method_11_code 2 none :: ws) ({ frames := 0, cells := 0, slots := 0, locals := 0 } : Room)) (fun a U => a = #[(.ref b62), (.int p0)] ∧ Z.Warmed39 U.vm ∧ U.heap = h0) (fun _ _ _ _ _ => True) (fun _ U o U' => ∃ v L, o = .returned v ∧ Q_clearAndTrim6_1 Z b62 p0 a_NO_SLOTS k109_68 j125_0 j125_1 j125_2 b109_68 h0 n0 v U'.heap L ∧ FrameEnd U o U' L ({ frames := 0, cells := 0, slots := 0, locals := 0 } : Room).cells ({ frames := 0, cells := 0, slots := 0, locals := 0 } : Room).slots) := by
  refine MetFree.of_bodySF (plainFor_of_name pn_9) hisR ?_
  intro p e s m args below meth c s₁ Bd hml0 hP hK
  have W := fun {d : Jvm.Cond} (i : Nat) (q : tables_1[i]? = some d) => hw d (List.mem_of_getElem? q)
  obtain ⟨rfl, hZ, hh⟩ := hP
  have hx := Bd.exec
  have hby := Bd.bytes
  have hml : c.maxLocals = 2 := hml0
  have hown : s.vm.findClass "com/example/homethread/homethread/Items" = some m.cls := findClass_of_methodNamed Bd.named
  have hnm := (name_of_methodNamed Bd.named Bd.method).1
  have X0 : Stand p l e ({ frames := 0, cells := 0, slots := 0, locals := 0 } : Room) s m #[(.ref b62), (.int p0)] below meth c s₁ [] 0 0 := Stand.of_body Bd
  have e0 : s₁.heap = h0 := by rw [← hh, Bd.state]; rfl
  have N0 := Fr.nil n0
  have pre0 : ∀ t, Steps p.tables e below (s₁.setTop (mkF m 0 #[rv b62, iv p0] [])) t → Steps p.tables e below (s₁.setTop (entryFrame m #[(.ref b62), (.int p0)] 2)) t := fun t k => castTop (ef_16 m b62 p0) k
  have K0 : Keep h0 h0 [b62] := Keep.refl h0 [b62]
  have pre451 : ∀ t, Steps p.tables e below (s₁.setTop (mkF m 1 #[rv b62, iv p0] [(.ref b62)])) t → Steps p.tables e below (s₁.setTop (entryFrame m #[(.ref b62), (.int p0)] 2)) t := fun t kt => by
    refine pre0 _ ?_
    show Steps p.tables e below (s₁.setTop (mkF m 0 #[rv b62, iv p0] [])) _
    refine XS.aloadN X0.here hx rfl (hb hby d6_0) rfl rfl ?_
    exact kt
  obtain ⟨T452, X452, e452, st452⟩ := getF X0 hx hZ hown (host := "") (Or.inl (W 11 rfl)) Via.refl e0 Fi3 (g := (mkF m 1 #[rv b62, iv p0] [(.ref b62)])) rfl rfl (hb hby d6_1)
  have pre453 : ∀ t, Steps p.tables e below (T452.setTop (mkF m 4 #[rv b62, iv p0] [(.ref b109_68)])) t → Steps p.tables e below (s₁.setTop (entryFrame m #[(.ref b62), (.int p0)] 2)) t := fun t kt => pre451 _ (st452 _ kt)
  obtain ⟨c454, Ar454, -, S454, M454, -, -⟩ := id Fi2
  have pre455 : ∀ t, Steps p.tables e below (T452.setTop (mkF m 10 #[rv b62, iv p0] [(.ref b62)])) t → Steps p.tables e below (s₁.setTop (entryFrame m #[(.ref b62), (.int p0)] 2)) t := fun t kt => by
    refine pre453 _ ?_
    show Steps p.tables e below (T452.setTop (mkF m 4 #[rv b62, iv p0] [(.ref b109_68)])) _
    refine X452.arraylength hx (by rw [e452]; exact Ar454.1) (State.isArrayOf_alike hZ.alike Ar454.2.1) (g := (mkF m 4 #[rv b62, iv p0] [(.ref b109_68)])) rfl rfl (hb hby d6_4) _ ?_
    rw [len_of S454 M454]
    show Steps p.tables e below (T452.setTop (mkF m 5 #[rv b62, iv p0] [(.int (16 : Int32))])) _
    refine XS.iloadN X452.here hx rfl (hb hby d6_5) rfl ?_
    show Steps p.tables e below (T452.setTop (mkF m 6 #[rv b62, iv p0] [(.int p0), (.int (16 : Int32))])) _
    refine XS.icmpNo X452.here hx rfl (hb hby d6_6) rfl (XT.ii_le_f q1) ?_
    show Steps p.tables e below (T452.setTop (mkF m 9 #[rv b62, iv p0] [])) _
    refine XS.aloadN X452.here hx rfl (hb hby d6_9) rfl rfl ?_
    exact kt
  obtain ⟨T456, X456, e456, st456⟩ := getS2 X452 hx hZ hown (host := "") (Or.inl (W 38 rfl)) Via.refl e452 (G0.ext O0.2) (g := (mkF m 10 #[rv b62, iv p0] [(.ref b62)])) rfl (hb hby d6_10)
  have pre457 : ∀ t, Steps p.tables e below (T456.setTop (mkF m 13 #[rv b62, iv p0] [(.ref a_NO_SLOTS), (.ref b62)])) t → Steps p.tables e below (s₁.setTop (entryFrame m #[(.ref b62), (.int p0)] 2)) t := fun t kt => pre455 _ (st456 _ kt)
  obtain ⟨T458, h458, X458, e458, W458, st458⟩ := putF X456 hx hZ hown (host := "") (Or.inl (W 11 rfl)) Via.refl e456 Fi3 Fi0 (Or.inl (W 12 rfl)) (W 1 rfl) (ty := (.array (.object "java/lang/Object"))) (by decide) rfl rfl (g := (mkF m 13 #[rv b62, iv p0] [(.ref a_NO_SLOTS), (.ref b62)])) rfl rfl (hb hby d6_13)
  have pre459 : ∀ t, Steps p.tables e below (T458.setTop (mkF m 16 #[rv b62, iv p0] [])) t → Steps p.tables e below (s₁.setTop (entryFrame m #[(.ref b62), (.int p0)] 2)) t := fun t kt => pre457 _ (st458 _ kt)
  have N458 := Fr.snoc X458 N0 g_b62
  have O458 := O0.wr W458 g_b62
  have K458 : Keep h0 h458 [b62] := K0.wr W458 (Or.inl (List.mem_of_getElem? (i := 0) rfl))
  have F460 := Fi0.wr W458
  have F461 := Fi1.other W458 (Or.inr (slot_ne (Or.inl (W 26 rfl)) (Or.inl (W 12 rfl)) (by decide) (t := .int) (t' := (.array (.object "java/lang/Object"))) (by decide) (by decide)))
  have F462 := Fi2.other W458 q0
  have F463 : Fld Z h458 b62 "com/example/homethread/homethread/Items" "slots" "[Ljava/lang/Object;" (.ref a_NO_SLOTS) := Fi3.same W458
  have pre464 : ∀ t, Steps p.tables e below (T458.setTop (mkF m 18 #[rv b62, iv p0] [(.int (0 : Int32)), (.ref b62)])) t → Steps p.tables e below (s₁.setTop (entryFrame m #[(.ref b62), (.int p0)] 2)) t := fun t kt => by
    refine pre459 _ ?_
    show Steps p.tables e below (T458.setTop (mkF m 16 #[rv b62, iv p0] [])) _
    refine XS.aloadN X458.here hx rfl (hb hby d6_16) rfl rfl ?_
    show Steps p.tables e below (T458.setTop (mkF m 17 #[rv b62, iv p0] [(.ref b62)])) _
    refine XS.iconst X458.here hx rfl (hb hby d6_17) ?_
    exact kt
  obtain ⟨T465, h465, X465, e465, W465, st465⟩ := putF X458 hx hZ hown (host := "") (Or.inl (W 25 rfl)) Via.refl e458 F461 F460 (Or.inl (W 26 rfl)) (W 1 rfl) (ty := .int) (by decide) rfl rfl (g := (mkF m 18 #[rv b62, iv p0] [(.int (0 : Int32)), (.ref b62)])) rfl rfl (hb hby d6_18)
  have pre466 : ∀ t, Steps p.tables e below (T465.setTop (mkF m 21 #[rv b62, iv p0] [])) t → Steps p.tables e below (s₁.setTop (entryFrame m #[(.ref b62), (.int p0)] 2)) t := fun t kt => pre464 _ (st465 _ kt)
  have N465 := Fr.snoc X465 N458 g_b62
  have O465 := O458.wr W465 g_b62
  have K465 : Keep h0 h465 [b62] := K458.wr W465 (Or.inl (List.mem_of_getElem? (i := 0) rfl))
  have F467 := F460.wr W465
  have F468 := F462.other W465 q0
  have F469 := F463.other W465 (Or.inr (slot_ne (Or.inl (W 12 rfl)) (Or.inl (W 26 rfl)) (by decide) (t := (.array (.object "java/lang/Object"))) (t' := .int) (by decide) (by decide)))
  have F470 : Fld Z h465 b62 "com/example/homethread/homethread/Items" "size" "I" (.int (0 : Int32)) := F461.same W465
  obtain ⟨fs, hr, hrun, hended, hW, hsame⟩ := X465.leave (v := none) (fun _ => rfl)
  refine ⟨_, _, pre466 _ (X465.returnOut hx Bd.returns (hb hby d6_21) hr), hrun, hended, _, _, rfl, ?_, ⟨_, rfl⟩, hW, hsame.mono (by decide) (by decide)⟩
  show Q_clearAndTrim6_1 Z b62 p0 a_NO_SLOTS k109_68 j125_0 j125_1 j125_2 b109_68 h0 n0 _ T465.heap _
  rw [e465]
  exact ⟨rfl, N465, K465, O465, F467, F469, F470⟩
theorem d7_0 : decode prog_9_method_7_code 0 = .ok (.aload_n 0, 1) := by decide +kernel
theorem d7_1 : decode prog_9_method_7_code 1 = .ok (.getfield 82, 3) := by decide +kernel
theorem d7_4 : decode prog_9_method_7_code 4 = .ok (.ireturn, 1) := by decide +kernel
theorem ef_17 (m : MethodId) (x0 : Addr) : entryFrame m #[(.ref x0)] 1 = mkF m 0 #[.val (.ref x0)] [] := by first | (simp [entryFrame, mkF, argsToLocals, Value.category]; done) | rfl
def Q_size7_0 (Z : State) (b62 : Addr) (h0 : Heap) (n0 : Nat) (v : Option Value) (h : Heap) (L : List Loc) : Prop := v = some (.int (0 : Int32)) ∧ Fr n0 L ∧ h = h0
set_option maxRecDepth 65536 in
set_option maxHeartbeats 40000000 in
theorem rm_size7_0 (l : Launch) (Z : State) (a0 : Array Value) (hw : ∀ d ∈ tables_1, d.before a0 Z = true) (ws : List Jvm.Cond) (b62 : Addr) (h0 : Heap) (n0 : Nat) (O0 : Old Z n0 h0) (Fi0 : Fld Z h0 b62 "com/example/homethread/homethread/Items" "size" "I" (.int (0 : Int32))) :
    MetFree l (⟨"com/example/homethread/homethread/Items", "size", "()I"⟩ : MethodName) (head1 (Jvm.Cond.code (⟨"com/example/homethread/homethread/Items", "size", "()I"⟩ : MethodName) prog_9_method_7_code 1 (some .int) :: ws) ({ frames := 0, cells := 0, slots := 0, locals := 0 } : Room)) (fun a U => a = #[(.ref b62)] ∧ Z.Warmed39 U.vm ∧ U.heap = h0) (fun _ _ _ _ _ => True) (fun _ U o U' => ∃ v L, o = .returned v ∧ Q_size7_0 Z b62 h0 n0 v U'.heap L ∧ FrameEnd U o U' L ({ frames := 0, cells := 0, slots := 0, locals := 0 } : Room).cells ({ frames := 0, cells := 0, slots := 0, locals := 0 } : Room).slots) := by
  refine MetFree.of_bodySF (plainFor_of_name pn_9) hisR ?_
  intro p e s m args below meth c s₁ Bd hml0 hP hK
  have W := fun {d : Jvm.Cond} (i : Nat) (q : tables_1[i]? = some d) => hw d (List.mem_of_getElem? q)
  obtain ⟨rfl, hZ, hh⟩ := hP
  have hx := Bd.exec
  have hby := Bd.bytes
  have hml : c.maxLocals = 1 := hml0
  have hown : s.vm.findClass "com/example/homethread/homethread/Items" = some m.cls := findClass_of_methodNamed Bd.named
  have hnm := (name_of_methodNamed Bd.named Bd.method).1
  have X0 : Stand p l e ({ frames := 0, cells := 0, slots := 0, locals := 0 } : Room) s m #[(.ref b62)] below meth c s₁ [] 0 0 := Stand.of_body Bd
  have e0 : s₁.heap = h0 := by rw [← hh, Bd.state]; rfl
  have N0 := Fr.nil n0
  have pre0 : ∀ t, Steps p.tables e below (s₁.setTop (mkF m 0 #[rv b62] [])) t → Steps p.tables e below (s₁.setTop (entryFrame m #[(.ref b62)] 1)) t := fun t k => castTop (ef_17 m b62) k
  have K0 : Keep h0 h0 [] := Keep.refl h0 []
  have pre485 : ∀ t, Steps p.tables e below (s₁.setTop (mkF m 1 #[rv b62] [(.ref b62)])) t → Steps p.tables e below (s₁.setTop (entryFrame m #[(.ref b62)] 1)) t := fun t kt => by
    refine pre0 _ ?_
    show Steps p.tables e below (s₁.setTop (mkF m 0 #[rv b62] [])) _
    refine XS.aloadN X0.here hx rfl (hb hby d7_0) rfl rfl ?_
    exact kt
  obtain ⟨T486, X486, e486, st486⟩ := getF X0 hx hZ hown (host := "") (Or.inl (W 25 rfl)) Via.refl e0 Fi0 (g := (mkF m 1 #[rv b62] [(.ref b62)])) rfl rfl (hb hby d7_1)
  have pre487 : ∀ t, Steps p.tables e below (T486.setTop (mkF m 4 #[rv b62] [(.int (0 : Int32))])) t → Steps p.tables e below (s₁.setTop (entryFrame m #[(.ref b62)] 1)) t := fun t kt => pre485 _ (st486 _ kt)
  obtain ⟨fs, hr, hrun, hended, hW, hsame⟩ := X486.leave (v := some (.int (0 : Int32))) (fun h => by rw [Bd.returns] at h; cases h)
  refine ⟨_, _, pre487 _ (retI X486 hx Bd.returns (hb hby d7_4) hr), hrun, hended, _, _, rfl, ?_, ⟨_, rfl⟩, hW, hsame.mono (by decide) (by decide)⟩
  show Q_size7_0 Z b62 h0 n0 _ T486.heap _
  rw [e486]
  exact ⟨rfl, N0, rfl⟩
theorem pd_18 : parseMethodDescriptor "()I" = some ⟨[], some .int⟩ := by decide +kernel
def Q_clearAndTrim6_3 (Z : State) (b62 : Addr) (p1 : Int32) (a_NO_SLOTS : Addr) (kn : ClassId) (h0 : Heap) (n0 : Nat) (v : Option Value) (h : Heap) (L : List Loc) : Prop := v = none ∧ Fr n0 L ∧ Keep h0 h [b62] ∧ Old Z n0 h ∧ Exa Z h b62 "com/example/homethread/homethread/Items" ∧ Fld Z h b62 "com/example/homethread/homethread/Items" "slots" "[Ljava/lang/Object;" (.ref a_NO_SLOTS) ∧ Fld Z h b62 "com/example/homethread/homethread/Items" "size" "I" (.int (0 : Int32))
set_option maxRecDepth 65536 in
set_option maxHeartbeats 40000000 in
theorem rm_clearAndTrim6_3 (l : Launch) (Z : State) (a0 : Array Value) (hw : ∀ d ∈ tables_1, d.before a0 Z = true) (ws : List Jvm.Cond) (b62 : Addr) (p1 : Int32) (a_NO_SLOTS : Addr) (kn : ClassId) (h0 : Heap) (n0 : Nat) (O0 : Old Z n0 h0) (G0 : Sta Z Z.heap "com/example/homethread/homethread/Items" "NO_SLOTS" "[Ljava/lang/Object;" (.ref a_NO_SLOTS)) (G1 : Arv Z Z.heap a_NO_SLOTS kn (.object "java/lang/Object") (0 : Int32) [] .null) (g_b62 : n0 ≤ b62) (Fi0 : Exa Z h0 b62 "com/example/homethread/homethread/Items") (Fi1 : Fld Z h0 b62 "com/example/homethread/homethread/Items" "slots" "[Ljava/lang/Object;" (.ref a_NO_SLOTS)) (Fi2 : Fld Z h0 b62 "com/example/homethread/homethread/Items" "size" "I" (.int (0 : Int32))) (q0 : p1 < (0 : Int32)) :
    MetFree l (⟨"com/example/homethread/homethread/Items", "clearAndTrim", "(I)V"⟩ : MethodName) (head1 (Jvm.Cond.code (⟨"com/example/homethread/homethread/Items", "clearAndTrim", "(I)V"⟩ : MethodName) prog_9_method_11_code 2 none :: ws) ({ frames := 0, cells := 0, slots := 0, locals := 0 } : Room)) (fun a U => a = #[(.ref b62), (.int p1)] ∧ Z.Warmed39 U.vm ∧ U.heap = h0) (fun _ _ _ _ _ => True) (fun _ U o U' => ∃ v L, o = .returned v ∧ Q_clearAndTrim6_3 Z b62 p1 a_NO_SLOTS kn h0 n0 v U'.heap L ∧ FrameEnd U o U' L ({ frames := 0, cells := 0, slots := 0, locals := 0 } : Room).cells ({ frames := 0, cells := 0, slots := 0, locals := 0 } : Room).slots) := by
  refine MetFree.of_bodySF (plainFor_of_name pn_9) hisR ?_
  intro p e s m args below meth c s₁ Bd hml0 hP hK
  have W := fun {d : Jvm.Cond} (i : Nat) (q : tables_1[i]? = some d) => hw d (List.mem_of_getElem? q)
  obtain ⟨rfl, hZ, hh⟩ := hP
  have hx := Bd.exec
  have hby := Bd.bytes
  have hml : c.maxLocals = 2 := hml0
  have hown : s.vm.findClass "com/example/homethread/homethread/Items" = some m.cls := findClass_of_methodNamed Bd.named
  have hnm := (name_of_methodNamed Bd.named Bd.method).1
  have X0 : Stand p l e ({ frames := 0, cells := 0, slots := 0, locals := 0 } : Room) s m #[(.ref b62), (.int p1)] below meth c s₁ [] 0 0 := Stand.of_body Bd
  have e0 : s₁.heap = h0 := by rw [← hh, Bd.state]; rfl
  have N0 := Fr.nil n0
  have pre0 : ∀ t, Steps p.tables e below (s₁.setTop (mkF m 0 #[rv b62, iv p1] [])) t → Steps p.tables e below (s₁.setTop (entryFrame m #[(.ref b62), (.int p1)] 2)) t := fun t k => castTop (ef_16 m b62 p1) k
  have K0 : Keep h0 h0 [b62] := Keep.refl h0 [b62]
  have pre564 : ∀ t, Steps p.tables e below (s₁.setTop (mkF m 1 #[rv b62, iv p1] [(.ref b62)])) t → Steps p.tables e below (s₁.setTop (entryFrame m #[(.ref b62), (.int p1)] 2)) t := fun t kt => by
    refine pre0 _ ?_
    show Steps p.tables e below (s₁.setTop (mkF m 0 #[rv b62, iv p1] [])) _
    refine XS.aloadN X0.here hx rfl (hb hby d6_0) rfl rfl ?_
    exact kt
  obtain ⟨T565, X565, e565, st565⟩ := getF X0 hx hZ hown (host := "") (Or.inl (W 11 rfl)) Via.refl e0 Fi1 (g := (mkF m 1 #[rv b62, iv p1] [(.ref b62)])) rfl rfl (hb hby d6_1)
  have pre566 : ∀ t, Steps p.tables e below (T565.setTop (mkF m 4 #[rv b62, iv p1] [(.ref a_NO_SLOTS)])) t → Steps p.tables e below (s₁.setTop (entryFrame m #[(.ref b62), (.int p1)] 2)) t := fun t kt => pre564 _ (st565 _ kt)
  obtain ⟨c567, Ar567, -, S567, M567, -, -⟩ := id (G1.ext O0.2)
  have pre568 : ∀ t, Steps p.tables e below (T565.setTop (mkF m 10 #[rv b62, iv p1] [(.ref b62)])) t → Steps p.tables e below (s₁.setTop (entryFrame m #[(.ref b62), (.int p1)] 2)) t := fun t kt => by
    refine pre566 _ ?_
    show Steps p.tables e below (T565.setTop (mkF m 4 #[rv b62, iv p1] [(.ref a_NO_SLOTS)])) _
    refine X565.arraylength hx (by rw [e565]; exact Ar567.1) (State.isArrayOf_alike hZ.alike Ar567.2.1) (g := (mkF m 4 #[rv b62, iv p1] [(.ref a_NO_SLOTS)])) rfl rfl (hb hby d6_4) _ ?_
    rw [len_of S567 M567]
    show Steps p.tables e below (T565.setTop (mkF m 5 #[rv b62, iv p1] [(.int (0 : Int32))])) _
    refine XS.iloadN X565.here hx rfl (hb hby d6_5) rfl ?_
    show Steps p.tables e below (T565.setTop (mkF m 6 #[rv b62, iv p1] [(.int p1), (.int (0 : Int32))])) _
    refine XS.icmpNo X565.here hx rfl (hb hby d6_6) rfl (XT.ii_le_f q0) ?_
    show Steps p.tables e below (T565.setTop (mkF m 9 #[rv b62, iv p1] [])) _
    refine XS.aloadN X565.here hx rfl (hb hby d6_9) rfl rfl ?_
    exact kt
  obtain ⟨T569, X569, e569, st569⟩ := getS2 X565 hx hZ hown (host := "") (Or.inl (W 38 rfl)) Via.refl e565 (G0.ext O0.2) (g := (mkF m 10 #[rv b62, iv p1] [(.ref b62)])) rfl (hb hby d6_10)
  have pre570 : ∀ t, Steps p.tables e below (T569.setTop (mkF m 13 #[rv b62, iv p1] [(.ref a_NO_SLOTS), (.ref b62)])) t → Steps p.tables e below (s₁.setTop (entryFrame m #[(.ref b62), (.int p1)] 2)) t := fun t kt => pre568 _ (st569 _ kt)
  obtain ⟨T571, h571, X571, e571, W571, st571⟩ := putF X569 hx hZ hown (host := "") (Or.inl (W 11 rfl)) Via.refl e569 Fi1 Fi0 (Or.inl (W 12 rfl)) (W 1 rfl) (ty := (.array (.object "java/lang/Object"))) (by decide) rfl rfl (g := (mkF m 13 #[rv b62, iv p1] [(.ref a_NO_SLOTS), (.ref b62)])) rfl rfl (hb hby d6_13)
  have pre572 : ∀ t, Steps p.tables e below (T571.setTop (mkF m 16 #[rv b62, iv p1] [])) t → Steps p.tables e below (s₁.setTop (entryFrame m #[(.ref b62), (.int p1)] 2)) t := fun t kt => pre570 _ (st571 _ kt)
  have N571 := Fr.snoc X571 N0 g_b62
  have O571 := O0.wr W571 g_b62
  have K571 : Keep h0 h571 [b62] := K0.wr W571 (Or.inl (List.mem_of_getElem? (i := 0) rfl))
  have F573 := Fi0.wr W571
  have F574 := Fi2.other W571 (Or.inr (slot_ne (Or.inl (W 26 rfl)) (Or.inl (W 12 rfl)) (by decide) (t := .int) (t' := (.array (.object "java/lang/Object"))) (by decide) (by decide)))
  have F575 : Fld Z h571 b62 "com/example/homethread/homethread/Items" "slots" "[Ljava/lang/Object;" (.ref a_NO_SLOTS) := Fi1.same W571
  have pre576 : ∀ t, Steps p.tables e below (T571.setTop (mkF m 18 #[rv b62, iv p1] [(.int (0 : Int32)), (.ref b62)])) t → Steps p.tables e below (s₁.setTop (entryFrame m #[(.ref b62), (.int p1)] 2)) t := fun t kt => by
    refine pre572 _ ?_
    show Steps p.tables e below (T571.setTop (mkF m 16 #[rv b62, iv p1] [])) _
    refine XS.aloadN X571.here hx rfl (hb hby d6_16) rfl rfl ?_
    show Steps p.tables e below (T571.setTop (mkF m 17 #[rv b62, iv p1] [(.ref b62)])) _
    refine XS.iconst X571.here hx rfl (hb hby d6_17) ?_
    exact kt
  obtain ⟨T577, h577, X577, e577, W577, st577⟩ := putF X571 hx hZ hown (host := "") (Or.inl (W 25 rfl)) Via.refl e571 F574 F573 (Or.inl (W 26 rfl)) (W 1 rfl) (ty := .int) (by decide) rfl rfl (g := (mkF m 18 #[rv b62, iv p1] [(.int (0 : Int32)), (.ref b62)])) rfl rfl (hb hby d6_18)
  have pre578 : ∀ t, Steps p.tables e below (T577.setTop (mkF m 21 #[rv b62, iv p1] [])) t → Steps p.tables e below (s₁.setTop (entryFrame m #[(.ref b62), (.int p1)] 2)) t := fun t kt => pre576 _ (st577 _ kt)
  have N577 := Fr.snoc X577 N571 g_b62
  have O577 := O571.wr W577 g_b62
  have K577 : Keep h0 h577 [b62] := K571.wr W577 (Or.inl (List.mem_of_getElem? (i := 0) rfl))
  have F579 := F573.wr W577
  have F580 := F575.other W577 (Or.inr (slot_ne (Or.inl (W 12 rfl)) (Or.inl (W 26 rfl)) (by decide) (t := (.array (.object "java/lang/Object"))) (t' := .int) (by decide) (by decide)))
  have F581 : Fld Z h577 b62 "com/example/homethread/homethread/Items" "size" "I" (.int (0 : Int32)) := F574.same W577
  obtain ⟨fs, hr, hrun, hended, hW, hsame⟩ := X577.leave (v := none) (fun _ => rfl)
  refine ⟨_, _, pre578 _ (X577.returnOut hx Bd.returns (hb hby d6_21) hr), hrun, hended, _, _, rfl, ?_, ⟨_, rfl⟩, hW, hsame.mono (by decide) (by decide)⟩
  show Q_clearAndTrim6_3 Z b62 p1 a_NO_SLOTS kn h0 n0 _ T577.heap _
  rw [e577]
  exact ⟨rfl, N577, K577, O577, F579, F580, F581⟩
def Q_clearAndTrim6_4 (Z : State) (b62 : Addr) (p1 : Int32) (a_NO_SLOTS : Addr) (kn : ClassId) (h0 : Heap) (n0 : Nat) (v : Option Value) (h : Heap) (L : List Loc) : Prop := v = none ∧ Fr n0 L ∧ Keep h0 h [b62] ∧ Old Z n0 h ∧ Exa Z h b62 "com/example/homethread/homethread/Items" ∧ Fld Z h b62 "com/example/homethread/homethread/Items" "slots" "[Ljava/lang/Object;" (.ref a_NO_SLOTS) ∧ Fld Z h b62 "com/example/homethread/homethread/Items" "size" "I" (.int (0 : Int32))
set_option maxRecDepth 65536 in
set_option maxHeartbeats 40000000 in
theorem rm_clearAndTrim6_4 (l : Launch) (Z : State) (a0 : Array Value) (hw : ∀ d ∈ tables_1, d.before a0 Z = true) (ws : List Jvm.Cond) (b62 : Addr) (p1 : Int32) (a_NO_SLOTS : Addr) (kn : ClassId) (h0 : Heap) (n0 : Nat) (O0 : Old Z n0 h0) (G0 : Arv Z Z.heap a_NO_SLOTS kn (.object "java/lang/Object") (0 : Int32) [] .null) (g_b62 : n0 ≤ b62) (Fi0 : Exa Z h0 b62 "com/example/homethread/homethread/Items") (Fi1 : Fld Z h0 b62 "com/example/homethread/homethread/Items" "slots" "[Ljava/lang/Object;" (.ref a_NO_SLOTS)) (Fi2 : Fld Z h0 b62 "com/example/homethread/homethread/Items" "size" "I" (.int (0 : Int32))) (q0 : ¬ (p1 < (0 : Int32))) :
    MetFree l (⟨"com/example/homethread/homethread/Items", "clearAndTrim", "(I)V"⟩ : MethodName) (head1 (Jvm.Cond.code (⟨"com/example/homethread/homethread/Items", "clearAndTrim", "(I)V"⟩ : MethodName) prog_9_method_11_code 2 none :: ws) ({ frames := 0, cells := 0, slots := 0, locals := 0 } : Room)) (fun a U => a = #[(.ref b62), (.int p1)] ∧ Z.Warmed39 U.vm ∧ U.heap = h0) (fun _ _ _ _ _ => True) (fun _ U o U' => ∃ v L, o = .returned v ∧ Q_clearAndTrim6_4 Z b62 p1 a_NO_SLOTS kn h0 n0 v U'.heap L ∧ FrameEnd U o U' L ({ frames := 0, cells := 0, slots := 0, locals := 0 } : Room).cells ({ frames := 0, cells := 0, slots := 0, locals := 0 } : Room).slots) := by
  refine MetFree.of_bodySF (plainFor_of_name pn_9) hisR ?_
  intro p e s m args below meth c s₁ Bd hml0 hP hK
  have W := fun {d : Jvm.Cond} (i : Nat) (q : tables_1[i]? = some d) => hw d (List.mem_of_getElem? q)
  obtain ⟨rfl, hZ, hh⟩ := hP
  have hx := Bd.exec
  have hby := Bd.bytes
  have hml : c.maxLocals = 2 := hml0
  have hown : s.vm.findClass "com/example/homethread/homethread/Items" = some m.cls := findClass_of_methodNamed Bd.named
  have hnm := (name_of_methodNamed Bd.named Bd.method).1
  have X0 : Stand p l e ({ frames := 0, cells := 0, slots := 0, locals := 0 } : Room) s m #[(.ref b62), (.int p1)] below meth c s₁ [] 0 0 := Stand.of_body Bd
  have e0 : s₁.heap = h0 := by rw [← hh, Bd.state]; rfl
  have N0 := Fr.nil n0
  have pre0 : ∀ t, Steps p.tables e below (s₁.setTop (mkF m 0 #[rv b62, iv p1] [])) t → Steps p.tables e below (s₁.setTop (entryFrame m #[(.ref b62), (.int p1)] 2)) t := fun t k => castTop (ef_16 m b62 p1) k
  have K0 : Keep h0 h0 [b62] := Keep.refl h0 [b62]
  have pre626 : ∀ t, Steps p.tables e below (s₁.setTop (mkF m 1 #[rv b62, iv p1] [(.ref b62)])) t → Steps p.tables e below (s₁.setTop (entryFrame m #[(.ref b62), (.int p1)] 2)) t := fun t kt => by
    refine pre0 _ ?_
    show Steps p.tables e below (s₁.setTop (mkF m 0 #[rv b62, iv p1] [])) _
    refine XS.aloadN X0.here hx rfl (hb hby d6_0) rfl rfl ?_
    exact kt
  obtain ⟨T627, X627, e627, st627⟩ := getF X0 hx hZ hown (host := "") (Or.inl (W 11 rfl)) Via.refl e0 Fi1 (g := (mkF m 1 #[rv b62, iv p1] [(.ref b62)])) rfl rfl (hb hby d6_1)
  have pre628 : ∀ t, Steps p.tables e below (T627.setTop (mkF m 4 #[rv b62, iv p1] [(.ref a_NO_SLOTS)])) t → Steps p.tables e below (s₁.setTop (entryFrame m #[(.ref b62), (.int p1)] 2)) t := fun t kt => pre626 _ (st627 _ kt)
  obtain ⟨c629, Ar629, -, S629, M629, -, -⟩ := id (G0.ext O0.2)
  have pre630 : ∀ t, Steps p.tables e below (T627.setTop (mkF m 18 #[rv b62, iv p1] [(.int (0 : Int32)), (.ref b62)])) t → Steps p.tables e below (s₁.setTop (entryFrame m #[(.ref b62), (.int p1)] 2)) t := fun t kt => by
    refine pre628 _ ?_
    show Steps p.tables e below (T627.setTop (mkF m 4 #[rv b62, iv p1] [(.ref a_NO_SLOTS)])) _
    refine X627.arraylength hx (by rw [e627]; exact Ar629.1) (State.isArrayOf_alike hZ.alike Ar629.2.1) (g := (mkF m 4 #[rv b62, iv p1] [(.ref a_NO_SLOTS)])) rfl rfl (hb hby d6_4) _ ?_
    rw [len_of S629 M629]
    show Steps p.tables e below (T627.setTop (mkF m 5 #[rv b62, iv p1] [(.int (0 : Int32))])) _
    refine XS.iloadN X627.here hx rfl (hb hby d6_5) rfl ?_
    show Steps p.tables e below (T627.setTop (mkF m 6 #[rv b62, iv p1] [(.int p1), (.int (0 : Int32))])) _
    refine XS.icmpYes X627.here hx rfl (pc0 := 6) (pc' := 16) rfl (hb hby d6_6) rfl (XT.ii_le_t q0) (by decide) (by decide) ?_
    show Steps p.tables e below (T627.setTop (mkF m 16 #[rv b62, iv p1] [])) _
    refine XS.aloadN X627.here hx rfl (hb hby d6_16) rfl rfl ?_
    show Steps p.tables e below (T627.setTop (mkF m 17 #[rv b62, iv p1] [(.ref b62)])) _
    refine XS.iconst X627.here hx rfl (hb hby d6_17) ?_
    exact kt
  obtain ⟨T631, h631, X631, e631, W631, st631⟩ := putF X627 hx hZ hown (host := "") (Or.inl (W 25 rfl)) Via.refl e627 Fi2 Fi0 (Or.inl (W 26 rfl)) (W 1 rfl) (ty := .int) (by decide) rfl rfl (g := (mkF m 18 #[rv b62, iv p1] [(.int (0 : Int32)), (.ref b62)])) rfl rfl (hb hby d6_18)
  have pre632 : ∀ t, Steps p.tables e below (T631.setTop (mkF m 21 #[rv b62, iv p1] [])) t → Steps p.tables e below (s₁.setTop (entryFrame m #[(.ref b62), (.int p1)] 2)) t := fun t kt => pre630 _ (st631 _ kt)
  have N631 := Fr.snoc X631 N0 g_b62
  have O631 := O0.wr W631 g_b62
  have K631 : Keep h0 h631 [b62] := K0.wr W631 (Or.inl (List.mem_of_getElem? (i := 0) rfl))
  have F633 := Fi0.wr W631
  have F634 := Fi1.other W631 (Or.inr (slot_ne (Or.inl (W 12 rfl)) (Or.inl (W 26 rfl)) (by decide) (t := (.array (.object "java/lang/Object"))) (t' := .int) (by decide) (by decide)))
  have F635 : Fld Z h631 b62 "com/example/homethread/homethread/Items" "size" "I" (.int (0 : Int32)) := Fi2.same W631
  obtain ⟨fs, hr, hrun, hended, hW, hsame⟩ := X631.leave (v := none) (fun _ => rfl)
  refine ⟨_, _, pre632 _ (X631.returnOut hx Bd.returns (hb hby d6_21) hr), hrun, hended, _, _, rfl, ?_, ⟨_, rfl⟩, hW, hsame.mono (by decide) (by decide)⟩
  show Q_clearAndTrim6_4 Z b62 p1 a_NO_SLOTS kn h0 n0 _ T631.heap _
  rw [e631]
  exact ⟨rfl, N631, K631, O631, F633, F634, F635⟩
theorem d4_12 : decode prog_9_method_8_code 12 = .ok (.bipush 16, 2) := by decide +kernel
theorem d4_14 : decode prog_9_method_8_code 14 = .ok (.aload_n 0, 1) := by decide +kernel
theorem d4_15 : decode prog_9_method_8_code 15 = .ok (.getfield 82, 3) := by decide +kernel
theorem d4_18 : decode prog_9_method_8_code 18 = .ok (.aload_n 0, 1) := by decide +kernel
theorem d4_19 : decode prog_9_method_8_code 19 = .ok (.getfield 82, 3) := by decide +kernel
theorem d4_22 : decode prog_9_method_8_code 22 = .ok (.iconst 1, 1) := by decide +kernel
theorem d4_23 : decode prog_9_method_8_code 23 = .ok (.ishr, 1) := by decide +kernel
theorem d4_24 : decode prog_9_method_8_code 24 = .ok (.iadd, 1) := by decide +kernel
theorem d4_25 : decode prog_9_method_8_code 25 = .ok (.invokestatic 86, 3) := by decide +kernel
theorem d10_0 : decode jdk_29_method_65_code 0 = .ok (.iload_n 0, 1) := by decide +kernel
theorem d10_1 : decode jdk_29_method_65_code 1 = .ok (.iload_n 1, 1) := by decide +kernel
theorem d10_2 : decode jdk_29_method_65_code 2 = .ok (.if_icmp .lt 7, 3) := by decide +kernel
theorem d10_5 : decode jdk_29_method_65_code 5 = .ok (.iload_n 0, 1) := by decide +kernel
theorem d10_6 : decode jdk_29_method_65_code 6 = .ok (.goto 4, 3) := by decide +kernel
theorem d10_10 : decode jdk_29_method_65_code 10 = .ok (.ireturn, 1) := by decide +kernel
theorem ef_20 (m : MethodId) (x0 : Int32) (x1 : Int32) : entryFrame m #[(.int x0), (.int x1)] 2 = mkF m 0 #[.val (.int x0), .val (.int x1)] [] := by first | (simp [entryFrame, mkF, argsToLocals, Value.category]; done) | rfl
def Q_max10_0 (Z : State)  (h0 : Heap) (n0 : Nat) (v : Option Value) (h : Heap) (L : List Loc) : Prop := v = some (.int (16 : Int32)) ∧ Fr n0 L ∧ h = h0
set_option maxRecDepth 65536 in
set_option maxHeartbeats 40000000 in
theorem rm_max10_0 (l : Launch) (Z : State) (a0 : Array Value) (hw : ∀ d ∈ tables_1, d.before a0 Z = true) (ws : List Jvm.Cond)  (h0 : Heap) (n0 : Nat) (O0 : Old Z n0 h0) :
    MetFree l (⟨"java/lang/Math", "max", "(II)I"⟩ : MethodName) (head1 (Jvm.Cond.code (⟨"java/lang/Math", "max", "(II)I"⟩ : MethodName) jdk_29_method_65_code 2 (some .int) :: ws) ({ frames := 0, cells := 0, slots := 0, locals := 0 } : Room)) (fun a U => a = #[(.int (16 : Int32)), (.int (0 : Int32))] ∧ Z.Warmed39 U.vm ∧ U.heap = h0) (fun _ _ _ _ _ => True) (fun _ U o U' => ∃ v L, o = .returned v ∧ Q_max10_0 Z  h0 n0 v U'.heap L ∧ FrameEnd U o U' L ({ frames := 0, cells := 0, slots := 0, locals := 0 } : Room).cells ({ frames := 0, cells := 0, slots := 0, locals := 0 } : Room).slots) := by
  refine MetFree.of_bodySF (Jvm.Free.JP.mathPlain rfl (by decide +kernel)) hisR ?_
  intro p e s m args below meth c s₁ Bd hml0 hP hK
  have W := fun {d : Jvm.Cond} (i : Nat) (q : tables_1[i]? = some d) => hw d (List.mem_of_getElem? q)
  obtain ⟨rfl, hZ, hh⟩ := hP
  have hx := Bd.exec
  have hby := Bd.bytes
  have hml : c.maxLocals = 2 := hml0
  have hown : s.vm.findClass "java/lang/Math" = some m.cls := findClass_of_methodNamed Bd.named
  have hnm := (name_of_methodNamed Bd.named Bd.method).1
  have X0 : Stand p l e ({ frames := 0, cells := 0, slots := 0, locals := 0 } : Room) s m #[(.int (16 : Int32)), (.int (0 : Int32))] below meth c s₁ [] 0 0 := Stand.of_body Bd
  have e0 : s₁.heap = h0 := by rw [← hh, Bd.state]; rfl
  have N0 := Fr.nil n0
  have pre0 : ∀ t, Steps p.tables e below (s₁.setTop (mkF m 0 #[iv (16 : Int32), iv (0 : Int32)] [])) t → Steps p.tables e below (s₁.setTop (entryFrame m #[(.int (16 : Int32)), (.int (0 : Int32))] 2)) t := fun t k => castTop (ef_20 m (16 : Int32) (0 : Int32)) k
  have K0 : Keep h0 h0 [] := Keep.refl h0 []
  have pre672 : ∀ t, Steps p.tables e below (s₁.setTop (mkF m 10 #[iv (16 : Int32), iv (0 : Int32)] [(.int (16 : Int32))])) t → Steps p.tables e below (s₁.setTop (entryFrame m #[(.int (16 : Int32)), (.int (0 : Int32))] 2)) t := fun t kt => by
    refine pre0 _ ?_
    show Steps p.tables e below (s₁.setTop (mkF m 0 #[iv (16 : Int32), iv (0 : Int32)] [])) _
    refine XS.iloadN X0.here hx rfl (hb hby d10_0) rfl ?_
    show Steps p.tables e below (s₁.setTop (mkF m 1 #[iv (16 : Int32), iv (0 : Int32)] [(.int (16 : Int32))])) _
    refine XS.iloadN X0.here hx rfl (hb hby d10_1) rfl ?_
    show Steps p.tables e below (s₁.setTop (mkF m 2 #[iv (16 : Int32), iv (0 : Int32)] [(.int (0 : Int32)), (.int (16 : Int32))])) _
    refine XS.icmpNo X0.here hx rfl (hb hby d10_2) rfl (XT.ii_lt_f (by decide)) ?_
    show Steps p.tables e below (s₁.setTop (mkF m 5 #[iv (16 : Int32), iv (0 : Int32)] [])) _
    refine XS.iloadN X0.here hx rfl (hb hby d10_5) rfl ?_
    show Steps p.tables e below (s₁.setTop (mkF m 6 #[iv (16 : Int32), iv (0 : Int32)] [(.int (16 : Int32))])) _
    refine XS.goto X0.here hx rfl (pc0 := 6) (pc' := 10) rfl (hb hby d10_6) (by decide) (by decide) ?_
    exact kt
  obtain ⟨fs, hr, hrun, hended, hW, hsame⟩ := X0.leave (v := some (.int (16 : Int32))) (fun h => by rw [Bd.returns] at h; cases h)
  refine ⟨_, _, pre672 _ (retI X0 hx Bd.returns (hb hby d10_10) hr), hrun, hended, _, _, rfl, ?_, ⟨_, rfl⟩, hW, hsame.mono (by decide) (by decide)⟩
  show Q_max10_0 Z  h0 n0 _ s₁.heap _
  rw [e0]
  exact ⟨rfl, N0, rfl⟩
theorem pd_21 : parseMethodDescriptor "(II)I" = some ⟨[.int, .int], some .int⟩ := by decide +kernel
theorem d4_28 : decode prog_9_method_8_code 28 = .ok (.istore_n 2, 1) := by decide +kernel
theorem d4_29 : decode prog_9_method_8_code 29 = .ok (.aload_n 0, 1) := by decide +kernel
theorem d4_30 : decode prog_9_method_8_code 30 = .ok (.aload_n 0, 1) := by decide +kernel
theorem d4_31 : decode prog_9_method_8_code 31 = .ok (.getfield 9, 3) := by decide +kernel
theorem d4_34 : decode prog_9_method_8_code 34 = .ok (.iload_n 2, 1) := by decide +kernel
theorem d4_35 : decode prog_9_method_8_code 35 = .ok (.ifCond .ge 8, 3) := by decide +kernel
theorem d4_43 : decode prog_9_method_8_code 43 = .ok (.iload_n 2, 1) := by decide +kernel
theorem d4_44 : decode prog_9_method_8_code 44 = .ok (.invokestatic 95, 3) := by decide +kernel
theorem d11_0 : decode jdk_65_method_119_code 0 = .ok (.aload_n 0, 1) := by decide +kernel
theorem d11_1 : decode jdk_65_method_119_code 1 = .ok (.iload_n 1, 1) := by decide +kernel
theorem d11_2 : decode jdk_65_method_119_code 2 = .ok (.aload_n 0, 1) := by decide +kernel
theorem d11_3 : decode jdk_65_method_119_code 3 = .ok (.invokevirtual 86, 3) := by decide +kernel
theorem d11_6 : decode jdk_65_method_119_code 6 = .ok (.invokestatic 300, 3) := by decide +kernel
theorem d12_0 : decode jdk_65_method_120_code 0 = .ok (.aload_n 2, 1) := by decide +kernel
theorem d12_1 : decode jdk_65_method_120_code 1 = .ok (.ldc 110, 2) := by decide +kernel
theorem d12_3 : decode jdk_65_method_120_code 3 = .ok (.if_acmp .ne 10, 3) := by decide +kernel
theorem d12_6 : decode jdk_65_method_120_code 6 = .ok (.iload_n 1, 1) := by decide +kernel
theorem d12_7 : decode jdk_65_method_120_code 7 = .ok (.anewarray 2, 3) := by decide +kernel
theorem d12_10 : decode jdk_65_method_120_code 10 = .ok (.goto 14, 3) := by decide +kernel
theorem d12_24 : decode jdk_65_method_120_code 24 = .ok (.astore_n 3, 1) := by decide +kernel
theorem d12_25 : decode jdk_65_method_120_code 25 = .ok (.aload_n 0, 1) := by decide +kernel
theorem d12_26 : decode jdk_65_method_120_code 26 = .ok (.iconst 0, 1) := by decide +kernel
theorem d12_27 : decode jdk_65_method_120_code 27 = .ok (.aload_n 3, 1) := by decide +kernel
theorem d12_28 : decode jdk_65_method_120_code 28 = .ok (.iconst 0, 1) := by decide +kernel
theorem d12_29 : decode jdk_65_method_120_code 29 = .ok (.aload_n 0, 1) := by decide +kernel
theorem d12_30 : decode jdk_65_method_120_code 30 = .ok (.arraylength, 1) := by decide +kernel
theorem d12_31 : decode jdk_65_method_120_code 31 = .ok (.iload_n 1, 1) := by decide +kernel
theorem d12_32 : decode jdk_65_method_120_code 32 = .ok (.invokestatic 304, 3) := by decide +kernel
theorem d13_0 : decode jdk_29_method_69_code 0 = .ok (.iload_n 0, 1) := by decide +kernel
theorem d13_1 : decode jdk_29_method_69_code 1 = .ok (.iload_n 1, 1) := by decide +kernel
theorem d13_2 : decode jdk_29_method_69_code 2 = .ok (.if_icmp .gt 7, 3) := by decide +kernel
theorem d13_5 : decode jdk_29_method_69_code 5 = .ok (.iload_n 0, 1) := by decide +kernel
theorem d13_6 : decode jdk_29_method_69_code 6 = .ok (.goto 4, 3) := by decide +kernel
theorem d13_10 : decode jdk_29_method_69_code 10 = .ok (.ireturn, 1) := by decide +kernel
theorem ef_23 (m : MethodId) (x0 : Int32) (x1 : Int32) : entryFrame m #[(.int x0), (.int x1)] 2 = mkF m 0 #[.val (.int x0), .val (.int x1)] [] := by first | (simp [entryFrame, mkF, argsToLocals, Value.category]; done) | rfl
def Q_min13_0 (Z : State)  (h0 : Heap) (n0 : Nat) (v : Option Value) (h : Heap) (L : List Loc) : Prop := v = some (.int (0 : Int32)) ∧ Fr n0 L ∧ h = h0
set_option maxRecDepth 65536 in
set_option maxHeartbeats 40000000 in
theorem rm_min13_0 (l : Launch) (Z : State) (a0 : Array Value) (hw : ∀ d ∈ tables_1, d.before a0 Z = true) (ws : List Jvm.Cond)  (h0 : Heap) (n0 : Nat) (O0 : Old Z n0 h0) :
    MetFree l (⟨"java/lang/Math", "min", "(II)I"⟩ : MethodName) (head1 (Jvm.Cond.code (⟨"java/lang/Math", "min", "(II)I"⟩ : MethodName) jdk_29_method_69_code 2 (some .int) :: ws) ({ frames := 0, cells := 0, slots := 0, locals := 0 } : Room)) (fun a U => a = #[(.int (0 : Int32)), (.int (16 : Int32))] ∧ Z.Warmed39 U.vm ∧ U.heap = h0) (fun _ _ _ _ _ => True) (fun _ U o U' => ∃ v L, o = .returned v ∧ Q_min13_0 Z  h0 n0 v U'.heap L ∧ FrameEnd U o U' L ({ frames := 0, cells := 0, slots := 0, locals := 0 } : Room).cells ({ frames := 0, cells := 0, slots := 0, locals := 0 } : Room).slots) := by
  refine MetFree.of_bodySF (Jvm.Free.JP.mathPlain rfl (by decide +kernel)) hisR ?_
  intro p e s m args below meth c s₁ Bd hml0 hP hK
  have W := fun {d : Jvm.Cond} (i : Nat) (q : tables_1[i]? = some d) => hw d (List.mem_of_getElem? q)
  obtain ⟨rfl, hZ, hh⟩ := hP
  have hx := Bd.exec
  have hby := Bd.bytes
  have hml : c.maxLocals = 2 := hml0
  have hown : s.vm.findClass "java/lang/Math" = some m.cls := findClass_of_methodNamed Bd.named
  have hnm := (name_of_methodNamed Bd.named Bd.method).1
  have X0 : Stand p l e ({ frames := 0, cells := 0, slots := 0, locals := 0 } : Room) s m #[(.int (0 : Int32)), (.int (16 : Int32))] below meth c s₁ [] 0 0 := Stand.of_body Bd
  have e0 : s₁.heap = h0 := by rw [← hh, Bd.state]; rfl
  have N0 := Fr.nil n0
  have pre0 : ∀ t, Steps p.tables e below (s₁.setTop (mkF m 0 #[iv (0 : Int32), iv (16 : Int32)] [])) t → Steps p.tables e below (s₁.setTop (entryFrame m #[(.int (0 : Int32)), (.int (16 : Int32))] 2)) t := fun t k => castTop (ef_23 m (0 : Int32) (16 : Int32)) k
  have K0 : Keep h0 h0 [] := Keep.refl h0 []
  have pre703 : ∀ t, Steps p.tables e below (s₁.setTop (mkF m 10 #[iv (0 : Int32), iv (16 : Int32)] [(.int (0 : Int32))])) t → Steps p.tables e below (s₁.setTop (entryFrame m #[(.int (0 : Int32)), (.int (16 : Int32))] 2)) t := fun t kt => by
    refine pre0 _ ?_
    show Steps p.tables e below (s₁.setTop (mkF m 0 #[iv (0 : Int32), iv (16 : Int32)] [])) _
    refine XS.iloadN X0.here hx rfl (hb hby d13_0) rfl ?_
    show Steps p.tables e below (s₁.setTop (mkF m 1 #[iv (0 : Int32), iv (16 : Int32)] [(.int (0 : Int32))])) _
    refine XS.iloadN X0.here hx rfl (hb hby d13_1) rfl ?_
    show Steps p.tables e below (s₁.setTop (mkF m 2 #[iv (0 : Int32), iv (16 : Int32)] [(.int (16 : Int32)), (.int (0 : Int32))])) _
    refine XS.icmpNo X0.here hx rfl (hb hby d13_2) rfl (XT.ii_gt_f (by decide)) ?_
    show Steps p.tables e below (s₁.setTop (mkF m 5 #[iv (0 : Int32), iv (16 : Int32)] [])) _
    refine XS.iloadN X0.here hx rfl (hb hby d13_5) rfl ?_
    show Steps p.tables e below (s₁.setTop (mkF m 6 #[iv (0 : Int32), iv (16 : Int32)] [(.int (0 : Int32))])) _
    refine XS.goto X0.here hx rfl (pc0 := 6) (pc' := 10) rfl (hb hby d13_6) (by decide) (by decide) ?_
    exact kt
  obtain ⟨fs, hr, hrun, hended, hW, hsame⟩ := X0.leave (v := some (.int (0 : Int32))) (fun h => by rw [Bd.returns] at h; cases h)
  refine ⟨_, _, pre703 _ (retI X0 hx Bd.returns (hb hby d13_10) hr), hrun, hended, _, _, rfl, ?_, ⟨_, rfl⟩, hW, hsame.mono (by decide) (by decide)⟩
  show Q_min13_0 Z  h0 n0 _ s₁.heap _
  rw [e0]
  exact ⟨rfl, N0, rfl⟩
theorem d12_35 : decode jdk_65_method_120_code 35 = .ok (.invokestatic 150, 3) := by decide +kernel
theorem d12_38 : decode jdk_65_method_120_code 38 = .ok (.aload_n 3, 1) := by decide +kernel
theorem d12_39 : decode jdk_65_method_120_code 39 = .ok (.areturn, 1) := by decide +kernel
theorem pn_24 : plainName "java/util/Arrays" = true := by first | (simp [plainName, overriddenIn]; done) | decide +kernel
theorem ef_25 (m : MethodId) (x0 : Addr) (x1 : Int32) (x2 : Addr) : entryFrame m #[(.ref x0), (.int x1), (.ref x2)] 4 = mkF m 0 #[.val (.ref x0), .val (.int x1), .val (.ref x2), .unset] [] := by first | (simp [entryFrame, mkF, argsToLocals, Value.category]; done) | rfl
def Q_copyOf12_0 (Z : State) (a_NO_SLOTS : Addr) (mr : Addr) (kn : ClassId) (k109_68 : ClassId) (j125_1 : Value) (j125_2 : Value) (b109_68 : Addr) (h0 : Heap) (n0 : Nat) (v : Option Value) (h : Heap) (L : List Loc) : Prop := ∃ (k762 : ClassId) (b762 : Addr), v = some (.ref b762) ∧ Fr n0 L ∧ Keep h0 h [] ∧ Old Z n0 h ∧ Ovr Z k762 "java/lang/Object" ∧ Exa Z h b762 "[Ljava/lang/Object;" ∧ Arv Z h b762 k762 (.object "java/lang/Object") (16 : Int32) [.null, .null, .null, .null, .null, .null, .null, .null, .null, .null, .null, .null, .null, .null, .null, .null] .null ∧ (h0.size ≤ b762)
set_option maxRecDepth 65536 in
set_option maxHeartbeats 40000000 in
theorem rm_copyOf12_0 (l : Launch) (Z : State) (a0 : Array Value) (hw : ∀ d ∈ tables_1, d.before a0 Z = true) (ws : List Jvm.Cond) (a_NO_SLOTS : Addr) (mr : Addr) (kn : ClassId) (k109_68 : ClassId) (j125_1 : Value) (j125_2 : Value) (b109_68 : Addr) (h0 : Heap) (n0 : Nat) (O0 : Old Z n0 h0) (G0 : own_mir Z "[Ljava/lang/Object;" mr) (G1 : Arv Z Z.heap a_NO_SLOTS kn (.object "java/lang/Object") (0 : Int32) [] .null) (Fi0 : Arv Z h0 b109_68 k109_68 (.object "java/lang/Object") (16 : Int32) [j125_1, j125_2, .null, .null, .null, .null, .null, .null, .null, .null, .null, .null, .null, .null, .null, .null] .null) :
    MetFree l (⟨"java/util/Arrays", "copyOf", "([Ljava/lang/Object;ILjava/lang/Class;)[Ljava/lang/Object;"⟩ : MethodName) (head1 (Jvm.Cond.code (⟨"java/util/Arrays", "copyOf", "([Ljava/lang/Object;ILjava/lang/Class;)[Ljava/lang/Object;"⟩ : MethodName) jdk_65_method_120_code 4 (some (.array (.object "java/lang/Object"))) :: ws) ({ frames := 1, cells := 1, slots := 16, locals := 24 } : Room)) (fun a U => a = #[(.ref a_NO_SLOTS), (.int (16 : Int32)), (.ref mr)] ∧ Z.Warmed39 U.vm ∧ U.heap = h0) (fun _ _ _ _ _ => True) (fun _ U o U' => ∃ v L, o = .returned v ∧ Q_copyOf12_0 Z a_NO_SLOTS mr kn k109_68 j125_1 j125_2 b109_68 h0 n0 v U'.heap L ∧ FrameEnd U o U' L ({ frames := 1, cells := 1, slots := 16, locals := 24 } : Room).cells ({ frames := 1, cells := 1, slots := 16, locals := 24 } : Room).slots) := by
  refine MetFree.of_bodySF (plainFor_of_name pn_24) hisR ?_
  intro p e s m args below meth c s₁ Bd hml0 hP hK
  have W := fun {d : Jvm.Cond} (i : Nat) (q : tables_1[i]? = some d) => hw d (List.mem_of_getElem? q)
  obtain ⟨rfl, hZ, hh⟩ := hP
  have hx := Bd.exec
  have hby := Bd.bytes
  have hml : c.maxLocals = 4 := hml0
  have hown : s.vm.findClass "java/util/Arrays" = some m.cls := findClass_of_methodNamed Bd.named
  have hnm := (name_of_methodNamed Bd.named Bd.method).1
  have X0 : Stand p l e ({ frames := 1, cells := 1, slots := 16, locals := 24 } : Room) s m #[(.ref a_NO_SLOTS), (.int (16 : Int32)), (.ref mr)] below meth c s₁ [] 0 0 := Stand.of_body Bd
  have e0 : s₁.heap = h0 := by rw [← hh, Bd.state]; rfl
  have N0 := Fr.nil n0
  have pre0 : ∀ t, Steps p.tables e below (s₁.setTop (mkF m 0 #[rv a_NO_SLOTS, iv (16 : Int32), rv mr, .unset] [])) t → Steps p.tables e below (s₁.setTop (entryFrame m #[(.ref a_NO_SLOTS), (.int (16 : Int32)), (.ref mr)] 4)) t := fun t k => castTop (ef_25 m a_NO_SLOTS (16 : Int32) mr) k
  have K0 : Keep h0 h0 [] := Keep.refl h0 []
  have pre758 : ∀ t, Steps p.tables e below (s₁.setTop (mkF m 1 #[rv a_NO_SLOTS, iv (16 : Int32), rv mr, .unset] [(.ref mr)])) t → Steps p.tables e below (s₁.setTop (entryFrame m #[(.ref a_NO_SLOTS), (.int (16 : Int32)), (.ref mr)] 4)) t := fun t kt => by
    refine pre0 _ ?_
    show Steps p.tables e below (s₁.setTop (mkF m 0 #[rv a_NO_SLOTS, iv (16 : Int32), rv mr, .unset] [])) _
    refine XS.aloadN X0.here hx rfl (hb hby d12_0) rfl rfl ?_
    exact kt
  obtain ⟨vm759, X759, st759⟩ := X0.ldcMirror hx hown (mvT hZ (W 77 rfl)) (own_mir_eval hZ G0) (g := (mkF m 1 #[rv a_NO_SLOTS, iv (16 : Int32), rv mr, .unset] [(.ref mr)])) rfl (hb hby d12_1)
  obtain ⟨T759, hT759⟩ : ∃ z, z = s₁.setVm vm759 := ⟨_, rfl⟩
  rw [← hT759] at X759 st759
  have e759 : T759.heap = h0 := by rw [hT759]; exact e0
  have pre760 : ∀ t, Steps p.tables e below (T759.setTop (mkF m 3 #[rv a_NO_SLOTS, iv (16 : Int32), rv mr, .unset] [(.ref mr), (.ref mr)])) t → Steps p.tables e below (s₁.setTop (entryFrame m #[(.ref a_NO_SLOTS), (.int (16 : Int32)), (.ref mr)] 4)) t := fun t kt => pre758 _ (st759 _ kt)
  have pre761 : ∀ t, Steps p.tables e below (T759.setTop (mkF m 7 #[rv a_NO_SLOTS, iv (16 : Int32), rv mr, .unset] [(.int (16 : Int32))])) t → Steps p.tables e below (s₁.setTop (entryFrame m #[(.ref a_NO_SLOTS), (.int (16 : Int32)), (.ref mr)] 4)) t := fun t kt => by
    refine pre760 _ ?_
    show Steps p.tables e below (T759.setTop (mkF m 3 #[rv a_NO_SLOTS, iv (16 : Int32), rv mr, .unset] [(.ref mr), (.ref mr)])) _
    refine Jvm.RoadKit.acmp (g := (mkF m 3 #[rv a_NO_SLOTS, iv (16 : Int32), rv mr, .unset] [(.ref mr), (.ref mr)])) X759 hx rfl rfl rfl (pc0 := 3) (pc' := 6) (same := true) rfl (hb hby d12_3) rfl (decide_eq_true rfl) (by decide) (by decide) ?_
    show Steps p.tables e below (T759.setTop (mkF m 6 #[rv a_NO_SLOTS, iv (16 : Int32), rv mr, .unset] [])) _
    refine XS.iloadN X759.here hx rfl (hb hby d12_6) rfl ?_
    exact kt
  obtain ⟨T762, h762, k762, X762, e762, E762, A762, B762, V762, st762⟩ := newRE X759 hx hZ hown (W 78 rfl) (W 10 rfl) e759 (g := (mkF m 7 #[rv a_NO_SLOTS, iv (16 : Int32), rv mr, .unset] [(.int (16 : Int32))])) rfl (hb hby d12_7) rfl (by decide) (cap := 16) (by decide) (by decide) (by decide) (by decide) (ad := "[Ljava/lang/Object;") (by decide)
  obtain ⟨b762, g762⟩ : ∃ z, z = h0.size := ⟨_, rfl⟩
  rw [← g762] at A762 B762 st762
  have pre763 : ∀ t, Steps p.tables e below (T762.setTop (mkF m 10 #[rv a_NO_SLOTS, iv (16 : Int32), rv mr, .unset] [(.ref b762)])) t → Steps p.tables e below (s₁.setTop (entryFrame m #[(.ref a_NO_SLOTS), (.int (16 : Int32)), (.ref mr)] 4)) t := fun t kt => pre761 _ (st762 _ kt)
  have O762 := O0.ext E762
  have K762 : Keep h0 h762 [] := K0.ext E762
  have F764 := Fi0.ext E762
  have g_b762 : n0 ≤ b762 := Nat.le_trans (Nat.le_trans (Nat.le_of_eq O0.1.symm) O0.2.1) (Nat.le_of_eq g762.symm)
  have sz_b762 : h0.size ≤ b762 := Nat.le_trans K0.1 (Nat.le_of_eq g762.symm)
  have ne_a_NO_SLOTS_b762 : a_NO_SLOTS ≠ b762 := Nat.ne_of_lt (Nat.lt_of_lt_of_le (G1.ext O0.2).lt (Nat.le_of_eq g762.symm))
  have ne_b109_68_b762 : b109_68 ≠ b762 := Nat.ne_of_lt (Nat.lt_of_lt_of_le Fi0.lt (Nat.le_of_eq g762.symm))
  have F765 : Arv Z h762 b762 k762 (.object "java/lang/Object") (16 : Int32) [.null, .null, .null, .null, .null, .null, .null, .null, .null, .null, .null, .null, .null, .null, .null, .null] .null := (Arv.new A762 (by decide)).pad (pad_rep [] .null 16)
  have F766 : Exa Z h762 b762 "[Ljava/lang/Object;" := B762
  have pre768 : ∀ t, Steps p.tables e below (T762.setTop (mkF m 30 #[rv a_NO_SLOTS, iv (16 : Int32), rv mr, rv b762] [(.ref a_NO_SLOTS), (.int (0 : Int32)), (.ref b762), (.int (0 : Int32)), (.ref a_NO_SLOTS)])) t → Steps p.tables e below (s₁.setTop (entryFrame m #[(.ref a_NO_SLOTS), (.int (16 : Int32)), (.ref mr)] 4)) t := fun t kt => by
    refine pre763 _ ?_
    show Steps p.tables e below (T762.setTop (mkF m 10 #[rv a_NO_SLOTS, iv (16 : Int32), rv mr, .unset] [(.ref b762)])) _
    refine XS.goto X762.here hx rfl (pc0 := 10) (pc' := 24) rfl (hb hby d12_10) (by decide) (by decide) ?_
    show Steps p.tables e below (T762.setTop (mkF m 24 #[rv a_NO_SLOTS, iv (16 : Int32), rv mr, .unset] [(.ref b762)])) _
    refine XS.astoreN X762.here hx rfl (hb hby d12_24) rfl rfl (l' := #[rv a_NO_SLOTS, iv (16 : Int32), rv mr, rv b762]) rfl ?_
    show Steps p.tables e below (T762.setTop (mkF m 25 #[rv a_NO_SLOTS, iv (16 : Int32), rv mr, rv b762] [])) _
    refine XS.aloadN X762.here hx rfl (hb hby d12_25) rfl rfl ?_
    show Steps p.tables e below (T762.setTop (mkF m 26 #[rv a_NO_SLOTS, iv (16 : Int32), rv mr, rv b762] [(.ref a_NO_SLOTS)])) _
    refine XS.iconst X762.here hx rfl (hb hby d12_26) ?_
    show Steps p.tables e below (T762.setTop (mkF m 27 #[rv a_NO_SLOTS, iv (16 : Int32), rv mr, rv b762] [(.int (0 : Int32)), (.ref a_NO_SLOTS)])) _
    refine XS.aloadN X762.here hx rfl (hb hby d12_27) rfl rfl ?_
    show Steps p.tables e below (T762.setTop (mkF m 28 #[rv a_NO_SLOTS, iv (16 : Int32), rv mr, rv b762] [(.ref b762), (.int (0 : Int32)), (.ref a_NO_SLOTS)])) _
    refine XS.iconst X762.here hx rfl (hb hby d12_28) ?_
    show Steps p.tables e below (T762.setTop (mkF m 29 #[rv a_NO_SLOTS, iv (16 : Int32), rv mr, rv b762] [(.int (0 : Int32)), (.ref b762), (.int (0 : Int32)), (.ref a_NO_SLOTS)])) _
    refine XS.aloadN X762.here hx rfl (hb hby d12_29) rfl rfl ?_
    exact kt
  obtain ⟨c767, Ar767, -, S767, M767, -, -⟩ := id (G1.ext O762.2)
  have pre769 : ∀ t, Steps p.tables e below (T762.setTop (mkF m 32 #[rv a_NO_SLOTS, iv (16 : Int32), rv mr, rv b762] [(.int (16 : Int32)), (.int (0 : Int32)), (.int (0 : Int32)), (.ref b762), (.int (0 : Int32)), (.ref a_NO_SLOTS)])) t → Steps p.tables e below (s₁.setTop (entryFrame m #[(.ref a_NO_SLOTS), (.int (16 : Int32)), (.ref mr)] 4)) t := fun t kt => by
    refine pre768 _ ?_
    show Steps p.tables e below (T762.setTop (mkF m 30 #[rv a_NO_SLOTS, iv (16 : Int32), rv mr, rv b762] [(.ref a_NO_SLOTS), (.int (0 : Int32)), (.ref b762), (.int (0 : Int32)), (.ref a_NO_SLOTS)])) _
    refine X762.arraylength hx (by rw [e762]; exact Ar767.1) (State.isArrayOf_alike hZ.alike Ar767.2.1) (g := (mkF m 30 #[rv a_NO_SLOTS, iv (16 : Int32), rv mr, rv b762] [(.ref a_NO_SLOTS), (.int (0 : Int32)), (.ref b762), (.int (0 : Int32)), (.ref a_NO_SLOTS)])) rfl rfl (hb hby d12_30) _ ?_
    rw [len_of S767 M767]
    show Steps p.tables e below (T762.setTop (mkF m 31 #[rv a_NO_SLOTS, iv (16 : Int32), rv mr, rv b762] [(.int (0 : Int32)), (.int (0 : Int32)), (.ref b762), (.int (0 : Int32)), (.ref a_NO_SLOTS)])) _
    refine XS.iloadN X762.here hx rfl (hb hby d12_31) rfl ?_
    exact kt
  obtain ⟨_, _, ⟨T770, L770, k770, n770⟩, -, X770, ⟨Lc770, hQ770, l770, y770, z770⟩, st770⟩ := Jvm.LawKit.callS X762 hx (y := (⟨"java/lang/Math", "min", "(II)I"⟩ : MethodName)) hown (mvT hZ (W 79 rfl)) (mvT hZ (W 80 rfl)) (mvT hZ (W 62 rfl)) (mvT hZ (W 81 rfl)) (by decide) (backOf (W := 4) (rm_min13_0 l Z a0 hw [] h762 n0 O762) hZ (W 81 rfl) (W 62 rfl) (by decide) (by decide)) (g := (mkF m 32 #[rv a_NO_SLOTS, iv (16 : Int32), rv mr, rv b762] [(.int (16 : Int32)), (.int (0 : Int32)), (.int (0 : Int32)), (.ref b762), (.int (0 : Int32)), (.ref a_NO_SLOTS)])) rfl (by rw [hml]; rfl) (argsL := [(.int (0 : Int32)), (.int (16 : Int32))]) (rest := [(.int (0 : Int32)), (.ref b762), (.int (0 : Int32)), (.ref a_NO_SLOTS)]) (lenOf pd_21 rfl) rfl (by show 2 * 0 + _ ≤ _; exact Nat.le_of_eq rfl) (hb hby d12_32) (fun _ _ => ⟨rfl, e762, (by decide : 1 + 0 ≤ _), (by decide : 16 + 0 ≤ _)⟩)
  dsimp only [Pt.U, Pt.locs, Pt.cells, Pt.slots] at X770 l770 y770 z770 st770 hQ770
  replace l770 := l770.symm
  replace y770 : 1 = k770 := y770.symm
  replace z770 : 16 = n770 := z770.symm
  subst l770 y770 z770
  obtain ⟨rfl, M770, e770⟩ := hQ770
  have N770 := Fr.app N0 M770
  have pre771 : ∀ t, Steps p.tables e below (T770.setTop (mkF m 35 #[rv a_NO_SLOTS, iv (16 : Int32), rv mr, rv b762] [(.int (0 : Int32)), (.int (0 : Int32)), (.ref b762), (.int (0 : Int32)), (.ref a_NO_SLOTS)])) t → Steps p.tables e below (s₁.setTop (entryFrame m #[(.ref a_NO_SLOTS), (.int (16 : Int32)), (.ref mr)] 4)) t := fun t kt => pre769 _ (st770 _ kt)
  obtain ⟨T772, h772, L772, X772, e772, N772, Kc772, V772, st772⟩ := cpA X770 hx hZ hown (W 82 rfl) (W 85 rfl) (W 83 rfl) (W 84 rfl) e770 (G1.ext O762.2) F765  (sp := (0 : Int32)) (dp := (0 : Int32)) (nn := (0 : Int32)) (us := []) (Or.inr ⟨rfl, rfl, trivial⟩) (by decide) (by decide) (by decide) (by decide) (by decide) rfl (Nat.le_of_ble_eq_true rfl) N770 g_b762 (g := (mkF m 35 #[rv a_NO_SLOTS, iv (16 : Int32), rv mr, rv b762] [(.int (0 : Int32)), (.int (0 : Int32)), (.ref b762), (.int (0 : Int32)), (.ref a_NO_SLOTS)])) rfl (by rw [hml]; rfl) (rest := []) rfl (hb hby d12_35) (by decide) (W := 0) (by show 2 * 0 + _ ≤ _; exact Nat.le_of_eq rfl) (by decide)
  have pre773 : ∀ t, Steps p.tables e below (T772.setTop (mkF m 38 #[rv a_NO_SLOTS, iv (16 : Int32), rv mr, rv b762] [])) t → Steps p.tables e below (s₁.setTop (entryFrame m #[(.ref a_NO_SLOTS), (.int (16 : Int32)), (.ref mr)] 4)) t := fun t kt => pre771 _ (st772 _ kt)
  have O772 := O762.keep Kc772 (own_all1 g_b762)
  have K772 : Keep h0 h772 [] := K762.trans Kc772 (own_all1 (Or.inr sz_b762))
  have F774 := F764.keep Kc772 (own_nm1 ne_b109_68_b762)
  have F775 := F766.keep Kc772
  have F776 : Arv Z h772 b762 k762 (.object "java/lang/Object") (16 : Int32) [.null, .null, .null, .null, .null, .null, .null, .null, .null, .null, .null, .null, .null, .null, .null, .null] .null := V772
  have pre777 : ∀ t, Steps p.tables e below (T772.setTop (mkF m 39 #[rv a_NO_SLOTS, iv (16 : Int32), rv mr, rv b762] [(.ref b762)])) t → Steps p.tables e below (s₁.setTop (entryFrame m #[(.ref a_NO_SLOTS), (.int (16 : Int32)), (.ref mr)] 4)) t := fun t kt => by
    refine pre773 _ ?_
    show Steps p.tables e below (T772.setTop (mkF m 38 #[rv a_NO_SLOTS, iv (16 : Int32), rv mr, rv b762] [])) _
    refine XS.aloadN X772.here hx rfl (hb hby d12_38) rfl rfl ?_
    exact kt
  obtain ⟨fs, hr, hrun, hended, hW, hsame⟩ := X772.leave (v := some (.ref b762)) (fun h => by rw [Bd.returns] at h; cases h)
  refine ⟨_, _, pre777 _ (X772.areturnOut hx rfl Bd.returns rfl (hb hby d12_39) hr), hrun, hended, _, _, rfl, ?_, ⟨_, rfl⟩, hW, hsame.mono (by decide) (by decide)⟩
  show Q_copyOf12_0 Z a_NO_SLOTS mr kn k109_68 j125_1 j125_2 b109_68 h0 n0 _ T772.heap _
  rw [e772]
  exact ⟨k762, b762, rfl, N772, K772, O772, V762, F775, F776, sz_b762⟩
theorem pd_26 : parseMethodDescriptor "([Ljava/lang/Object;ILjava/lang/Class;)[Ljava/lang/Object;" = some ⟨[(.array (.object "java/lang/Object")), .int, (.object "java/lang/Class")], some (.array (.object "java/lang/Object"))⟩ := by decide +kernel
theorem d11_9 : decode jdk_65_method_119_code 9 = .ok (.areturn, 1) := by decide +kernel
theorem ef_27 (m : MethodId) (x0 : Addr) (x1 : Int32) : entryFrame m #[(.ref x0), (.int x1)] 2 = mkF m 0 #[.val (.ref x0), .val (.int x1)] [] := by first | (simp [entryFrame, mkF, argsToLocals, Value.category]; done) | rfl
def Q_copyOf11_0 (Z : State) (a_NO_SLOTS : Addr) (mr : Addr) (kn : ClassId) (k109_68 : ClassId) (j125_1 : Value) (j125_2 : Value) (b109_68 : Addr) (h0 : Heap) (n0 : Nat) (v : Option Value) (h : Heap) (L : List Loc) : Prop := ∃ (k762_794 : ClassId) (b762_794 : Addr), v = some (.ref b762_794) ∧ Fr n0 L ∧ Keep h0 h [] ∧ Old Z n0 h ∧ Ovr Z k762_794 "java/lang/Object" ∧ Exa Z h b762_794 "[Ljava/lang/Object;" ∧ Arv Z h b762_794 k762_794 (.object "java/lang/Object") (16 : Int32) [.null, .null, .null, .null, .null, .null, .null, .null, .null, .null, .null, .null, .null, .null, .null, .null] .null ∧ (h0.size ≤ b762_794)
set_option maxRecDepth 65536 in
set_option maxHeartbeats 40000000 in
theorem rm_copyOf11_0 (l : Launch) (Z : State) (a0 : Array Value) (hw : ∀ d ∈ tables_1, d.before a0 Z = true) (ws : List Jvm.Cond) (a_NO_SLOTS : Addr) (mr : Addr) (kn : ClassId) (k109_68 : ClassId) (j125_1 : Value) (j125_2 : Value) (b109_68 : Addr) (h0 : Heap) (n0 : Nat) (O0 : Old Z n0 h0) (G0 : own_mir Z "[Ljava/lang/Object;" mr) (G1 : Exa Z Z.heap a_NO_SLOTS "[Ljava/lang/Object;") (G2 : Arv Z Z.heap a_NO_SLOTS kn (.object "java/lang/Object") (0 : Int32) [] .null) (Fi0 : Arv Z h0 b109_68 k109_68 (.object "java/lang/Object") (16 : Int32) [j125_1, j125_2, .null, .null, .null, .null, .null, .null, .null, .null, .null, .null, .null, .null, .null, .null] .null) :
    MetFree l (⟨"java/util/Arrays", "copyOf", "([Ljava/lang/Object;I)[Ljava/lang/Object;"⟩ : MethodName) (head1 (Jvm.Cond.code (⟨"java/util/Arrays", "copyOf", "([Ljava/lang/Object;I)[Ljava/lang/Object;"⟩ : MethodName) jdk_65_method_119_code 2 (some (.array (.object "java/lang/Object"))) :: ws) ({ frames := 2, cells := 1, slots := 16, locals := 39 } : Room)) (fun a U => a = #[(.ref a_NO_SLOTS), (.int (16 : Int32))] ∧ Z.Warmed39 U.vm ∧ U.heap = h0) (fun _ _ _ _ _ => True) (fun _ U o U' => ∃ v L, o = .returned v ∧ Q_copyOf11_0 Z a_NO_SLOTS mr kn k109_68 j125_1 j125_2 b109_68 h0 n0 v U'.heap L ∧ FrameEnd U o U' L ({ frames := 2, cells := 1, slots := 16, locals := 39 } : Room).cells ({ frames := 2, cells := 1, slots := 16, locals := 39 } : Room).slots) := by
  refine MetFree.of_bodySF (plainFor_of_name pn_24) hisR ?_
  intro p e s m args below meth c s₁ Bd hml0 hP hK
  have W := fun {d : Jvm.Cond} (i : Nat) (q : tables_1[i]? = some d) => hw d (List.mem_of_getElem? q)
  obtain ⟨rfl, hZ, hh⟩ := hP
  have hx := Bd.exec
  have hby := Bd.bytes
  have hml : c.maxLocals = 2 := hml0
  have hown : s.vm.findClass "java/util/Arrays" = some m.cls := findClass_of_methodNamed Bd.named
  have hnm := (name_of_methodNamed Bd.named Bd.method).1
  have X0 : Stand p l e ({ frames := 2, cells := 1, slots := 16, locals := 39 } : Room) s m #[(.ref a_NO_SLOTS), (.int (16 : Int32))] below meth c s₁ [] 0 0 := Stand.of_body Bd
  have e0 : s₁.heap = h0 := by rw [← hh, Bd.state]; rfl
  have N0 := Fr.nil n0
  have pre0 : ∀ t, Steps p.tables e below (s₁.setTop (mkF m 0 #[rv a_NO_SLOTS, iv (16 : Int32)] [])) t → Steps p.tables e below (s₁.setTop (entryFrame m #[(.ref a_NO_SLOTS), (.int (16 : Int32))] 2)) t := fun t k => castTop (ef_27 m a_NO_SLOTS (16 : Int32)) k
  have K0 : Keep h0 h0 [] := Keep.refl h0 []
  have pre791 : ∀ t, Steps p.tables e below (s₁.setTop (mkF m 3 #[rv a_NO_SLOTS, iv (16 : Int32)] [(.ref a_NO_SLOTS), (.int (16 : Int32)), (.ref a_NO_SLOTS)])) t → Steps p.tables e below (s₁.setTop (entryFrame m #[(.ref a_NO_SLOTS), (.int (16 : Int32))] 2)) t := fun t kt => by
    refine pre0 _ ?_
    show Steps p.tables e below (s₁.setTop (mkF m 0 #[rv a_NO_SLOTS, iv (16 : Int32)] [])) _
    refine XS.aloadN X0.here hx rfl (hb hby d11_0) rfl rfl ?_
    show Steps p.tables e below (s₁.setTop (mkF m 1 #[rv a_NO_SLOTS, iv (16 : Int32)] [(.ref a_NO_SLOTS)])) _
    refine XS.iloadN X0.here hx rfl (hb hby d11_1) rfl ?_
    show Steps p.tables e below (s₁.setTop (mkF m 2 #[rv a_NO_SLOTS, iv (16 : Int32)] [(.int (16 : Int32)), (.ref a_NO_SLOTS)])) _
    refine XS.aloadN X0.here hx rfl (hb hby d11_2) rfl rfl ?_
    exact kt
  obtain ⟨T792, X792, e792, st792⟩ := own_gcls X0 hx hZ hown (W 68 rfl) (W 69 rfl) (W 71 rfl) (W 70 rfl) (W 72 rfl) e0 (G1.ext O0.2) G0 (g := (mkF m 3 #[rv a_NO_SLOTS, iv (16 : Int32)] [(.ref a_NO_SLOTS), (.int (16 : Int32)), (.ref a_NO_SLOTS)])) rfl (by rw [hml]; rfl) (rest := [(.int (16 : Int32)), (.ref a_NO_SLOTS)]) rfl (hb hby d11_3) (by decide) (W := 2) (by show 2 * 0 + _ ≤ _; exact Nat.le_of_eq rfl) (by decide)
  have pre793 : ∀ t, Steps p.tables e below (T792.setTop (mkF m 6 #[rv a_NO_SLOTS, iv (16 : Int32)] [(.ref mr), (.int (16 : Int32)), (.ref a_NO_SLOTS)])) t → Steps p.tables e below (s₁.setTop (entryFrame m #[(.ref a_NO_SLOTS), (.int (16 : Int32))] 2)) t := fun t kt => pre791 _ (st792 _ kt)
  obtain ⟨_, _, ⟨T794, L794, k794, n794⟩, -, X794, ⟨Lc794, hQ794, l794, y794, z794⟩, st794⟩ := Jvm.LawKit.callS X792 hx (y := (⟨"java/util/Arrays", "copyOf", "([Ljava/lang/Object;ILjava/lang/Class;)[Ljava/lang/Object;"⟩ : MethodName)) hown (mvT hZ (W 74 rfl)) (mvT hZ (W 75 rfl)) (mvT hZ (W 66 rfl)) (mvT hZ (W 76 rfl)) (by decide) (backOf (W := 0) (rm_copyOf12_0 l Z a0 hw [] a_NO_SLOTS mr kn k109_68 j125_1 j125_2 b109_68 h0 n0 O0 G0 G2 Fi0) hZ (W 76 rfl) (W 66 rfl) (by decide) (by decide)) (g := (mkF m 6 #[rv a_NO_SLOTS, iv (16 : Int32)] [(.ref mr), (.int (16 : Int32)), (.ref a_NO_SLOTS)])) rfl (by rw [hml]; rfl) (argsL := [(.ref a_NO_SLOTS), (.int (16 : Int32)), (.ref mr)]) (rest := []) (lenOf pd_26 rfl) rfl (by show 2 * 0 + _ ≤ _; exact Nat.le_of_eq rfl) (hb hby d11_6) (fun _ _ => ⟨rfl, e792, (by decide : 0 + 1 ≤ _), (by decide : 0 + 16 ≤ _)⟩)
  dsimp only [Pt.U, Pt.locs, Pt.cells, Pt.slots] at X794 l794 y794 z794 st794 hQ794
  replace l794 := l794.symm
  replace y794 : 1 = k794 := y794.symm
  replace z794 : 16 = n794 := z794.symm
  subst l794 y794 z794
  obtain ⟨k762_794, b762_794, rfl, M794, Kc794, O794, J794_0, J794_1, J794_2, P794_0⟩ := hQ794
  obtain ⟨h794, e794⟩ : ∃ z, T794.heap = z := ⟨_, rfl⟩
  rw [e794] at Kc794 O794 J794_1 J794_2
  try rw [e794] at P794_0
  have N794 := Fr.app N0 M794
  have K794 : Keep h0 h794 [] := K0.trans Kc794 (own_all0 )
  have pre795 : ∀ t, Steps p.tables e below (T794.setTop (mkF m 9 #[rv a_NO_SLOTS, iv (16 : Int32)] [(.ref b762_794)])) t → Steps p.tables e below (s₁.setTop (entryFrame m #[(.ref a_NO_SLOTS), (.int (16 : Int32))] 2)) t := fun t kt => pre793 _ (st794 _ kt)
  have F796 := Fi0.keep Kc794 (own_nm0 )
  have sz_b762_794 : h0.size ≤ b762_794 := Nat.le_trans K0.1 P794_0
  have ne_a_NO_SLOTS_b762_794 : a_NO_SLOTS ≠ b762_794 := Nat.ne_of_lt (Nat.lt_of_lt_of_le (G1.ext O0.2).lt P794_0)
  have ne_b109_68_b762_794 : b109_68 ≠ b762_794 := Nat.ne_of_lt (Nat.lt_of_lt_of_le Fi0.lt P794_0)
  have g_b762_794 : n0 ≤ b762_794 := Nat.le_trans (Nat.le_trans (Nat.le_of_eq O0.1.symm) O0.2.1) sz_b762_794
  obtain ⟨fs, hr, hrun, hended, hW, hsame⟩ := X794.leave (v := some (.ref b762_794)) (fun h => by rw [Bd.returns] at h; cases h)
  refine ⟨_, _, pre795 _ (X794.areturnOut hx rfl Bd.returns rfl (hb hby d11_9) hr), hrun, hended, _, _, rfl, ?_, ⟨_, rfl⟩, hW, hsame.mono (by decide) (by decide)⟩
  show Q_copyOf11_0 Z a_NO_SLOTS mr kn k109_68 j125_1 j125_2 b109_68 h0 n0 _ T794.heap _
  rw [e794]
  exact ⟨k762_794, b762_794, rfl, N794, K794, O794, J794_0, J794_1, J794_2, sz_b762_794⟩
theorem pd_28 : parseMethodDescriptor "([Ljava/lang/Object;I)[Ljava/lang/Object;" = some ⟨[(.array (.object "java/lang/Object")), .int], some (.array (.object "java/lang/Object"))⟩ := by decide +kernel
theorem d4_47 : decode prog_9_method_8_code 47 = .ok (.putfield 9, 3) := by decide +kernel
def Q_add4_2 (Z : State) (b62 : Addr) (r_647 : Addr) (mr : Addr) (a_NO_SLOTS : Addr) (kn : ClassId) (k109_68 : ClassId) (j125_1 : Value) (j125_2 : Value) (b109_68 : Addr) (h0 : Heap) (n0 : Nat) (v : Option Value) (h : Heap) (L : List Loc) : Prop := ∃ (k762_932 : ClassId) (b762_932 : Addr), v = none ∧ Fr n0 L ∧ Keep h0 h [b62] ∧ Old Z n0 h ∧ Exa Z h b62 "com/example/homethread/homethread/Items" ∧ Ovr Z k762_932 "java/lang/Object" ∧ Exa Z h b762_932 "[Ljava/lang/Object;" ∧ Fld Z h b62 "com/example/homethread/homethread/Items" "slots" "[Ljava/lang/Object;" (.ref b762_932) ∧ Arv Z h b762_932 k762_932 (.object "java/lang/Object") (16 : Int32) [(.ref r_647), .null, .null, .null, .null, .null, .null, .null, .null, .null, .null, .null, .null, .null, .null, .null] .null ∧ Fld Z h b62 "com/example/homethread/homethread/Items" "size" "I" (.int (1 : Int32)) ∧ (h0.size ≤ b762_932)
set_option maxRecDepth 65536 in
set_option maxHeartbeats 40000000 in
theorem rm_add4_2 (l : Launch) (Z : State) (a0 : Array Value) (hw : ∀ d ∈ tables_1, d.before a0 Z = true) (ws : List Jvm.Cond) (b62 : Addr) (r_647 : Addr) (mr : Addr) (a_NO_SLOTS : Addr) (kn : ClassId) (k109_68 : ClassId) (j125_1 : Value) (j125_2 : Value) (b109_68 : Addr) (h0 : Heap) (n0 : Nat) (O0 : Old Z n0 h0) (G0 : own_mir Z "[Ljava/lang/Object;" mr) (G1 : Exa Z Z.heap a_NO_SLOTS "[Ljava/lang/Object;") (G2 : Arv Z Z.heap a_NO_SLOTS kn (.object "java/lang/Object") (0 : Int32) [] .null) (g_b62 : n0 ≤ b62) (Fi0 : Arv Z h0 b109_68 k109_68 (.object "java/lang/Object") (16 : Int32) [j125_1, j125_2, .null, .null, .null, .null, .null, .null, .null, .null, .null, .null, .null, .null, .null, .null] .null) (Fi1 : Exa Z h0 b62 "com/example/homethread/homethread/Items") (Fi2 : Fld Z h0 b62 "com/example/homethread/homethread/Items" "slots" "[Ljava/lang/Object;" (.ref a_NO_SLOTS)) (Fi3 : Fld Z h0 b62 "com/example/homethread/homethread/Items" "size" "I" (.int (0 : Int32))) (Fi4 : Exa Z h0 r_647 "java/lang/Integer") (q0 : ¬ (b109_68 = b62)) :
    MetFree l (⟨"com/example/homethread/homethread/Items", "add", "(Ljava/lang/Object;)V"⟩ : MethodName) (head1 (Jvm.Cond.code (⟨"com/example/homethread/homethread/Items", "add", "(Ljava/lang/Object;)V"⟩ : MethodName) prog_9_method_8_code 3 none :: ws) ({ frames := 3, cells := 1, slots := 16, locals := 53 } : Room)) (fun a U => a = #[(.ref b62), (.ref r_647)] ∧ Z.Warmed39 U.vm ∧ U.heap = h0) (fun _ _ _ _ _ => True) (fun _ U o U' => ∃ v L, o = .returned v ∧ Q_add4_2 Z b62 r_647 mr a_NO_SLOTS kn k109_68 j125_1 j125_2 b109_68 h0 n0 v U'.heap L ∧ FrameEnd U o U' L ({ frames := 3, cells := 1, slots := 16, locals := 53 } : Room).cells ({ frames := 3, cells := 1, slots := 16, locals := 53 } : Room).slots) := by
  refine MetFree.of_bodySF (plainFor_of_name pn_9) hisR ?_
  intro p e s m args below meth c s₁ Bd hml0 hP hK
  have W := fun {d : Jvm.Cond} (i : Nat) (q : tables_1[i]? = some d) => hw d (List.mem_of_getElem? q)
  obtain ⟨rfl, hZ, hh⟩ := hP
  have hx := Bd.exec
  have hby := Bd.bytes
  have hml : c.maxLocals = 3 := hml0
  have hown : s.vm.findClass "com/example/homethread/homethread/Items" = some m.cls := findClass_of_methodNamed Bd.named
  have hnm := (name_of_methodNamed Bd.named Bd.method).1
  have X0 : Stand p l e ({ frames := 3, cells := 1, slots := 16, locals := 53 } : Room) s m #[(.ref b62), (.ref r_647)] below meth c s₁ [] 0 0 := Stand.of_body Bd
  have e0 : s₁.heap = h0 := by rw [← hh, Bd.state]; rfl
  have N0 := Fr.nil n0
  have pre0 : ∀ t, Steps p.tables e below (s₁.setTop (mkF m 0 #[rv b62, rv r_647, .unset] [])) t → Steps p.tables e below (s₁.setTop (entryFrame m #[(.ref b62), (.ref r_647)] 3)) t := fun t k => castTop (ef_12 m b62 r_647) k
  have K0 : Keep h0 h0 [b62] := Keep.refl h0 [b62]
  have pre912 : ∀ t, Steps p.tables e below (s₁.setTop (mkF m 1 #[rv b62, rv r_647, .unset] [(.ref b62)])) t → Steps p.tables e below (s₁.setTop (entryFrame m #[(.ref b62), (.ref r_647)] 3)) t := fun t kt => by
    refine pre0 _ ?_
    show Steps p.tables e below (s₁.setTop (mkF m 0 #[rv b62, rv r_647, .unset] [])) _
    refine XS.aloadN X0.here hx rfl (hb hby d4_0) rfl rfl ?_
    exact kt
  obtain ⟨T913, X913, e913, st913⟩ := getF X0 hx hZ hown (host := "") (Or.inl (W 25 rfl)) Via.refl e0 Fi3 (g := (mkF m 1 #[rv b62, rv r_647, .unset] [(.ref b62)])) rfl rfl (hb hby d4_1)
  have pre914 : ∀ t, Steps p.tables e below (T913.setTop (mkF m 4 #[rv b62, rv r_647, .unset] [(.int (0 : Int32))])) t → Steps p.tables e below (s₁.setTop (entryFrame m #[(.ref b62), (.ref r_647)] 3)) t := fun t kt => pre912 _ (st913 _ kt)
  have pre915 : ∀ t, Steps p.tables e below (T913.setTop (mkF m 5 #[rv b62, rv r_647, .unset] [(.ref b62), (.int (0 : Int32))])) t → Steps p.tables e below (s₁.setTop (entryFrame m #[(.ref b62), (.ref r_647)] 3)) t := fun t kt => by
    refine pre914 _ ?_
    show Steps p.tables e below (T913.setTop (mkF m 4 #[rv b62, rv r_647, .unset] [(.int (0 : Int32))])) _
    refine XS.aloadN X913.here hx rfl (hb hby d4_4) rfl rfl ?_
    exact kt
  obtain ⟨T916, X916, e916, st916⟩ := getF X913 hx hZ hown (host := "") (Or.inl (W 11 rfl)) Via.refl e913 Fi2 (g := (mkF m 5 #[rv b62, rv r_647, .unset] [(.ref b62), (.int (0 : Int32))])) rfl rfl (hb hby d4_5)
  have pre917 : ∀ t, Steps p.tables e below (T916.setTop (mkF m 8 #[rv b62, rv r_647, .unset] [(.ref a_NO_SLOTS), (.int (0 : Int32))])) t → Steps p.tables e below (s₁.setTop (entryFrame m #[(.ref b62), (.ref r_647)] 3)) t := fun t kt => pre915 _ (st916 _ kt)
  obtain ⟨c918, Ar918, -, S918, M918, -, -⟩ := id (G2.ext O0.2)
  have pre919 : ∀ t, Steps p.tables e below (T916.setTop (mkF m 15 #[rv b62, rv r_647, .unset] [(.ref b62), (.int (16 : Int32))])) t → Steps p.tables e below (s₁.setTop (entryFrame m #[(.ref b62), (.ref r_647)] 3)) t := fun t kt => by
    refine pre917 _ ?_
    show Steps p.tables e below (T916.setTop (mkF m 8 #[rv b62, rv r_647, .unset] [(.ref a_NO_SLOTS), (.int (0 : Int32))])) _
    refine X916.arraylength hx (by rw [e916]; exact Ar918.1) (State.isArrayOf_alike hZ.alike Ar918.2.1) (g := (mkF m 8 #[rv b62, rv r_647, .unset] [(.ref a_NO_SLOTS), (.int (0 : Int32))])) rfl rfl (hb hby d4_8) _ ?_
    rw [len_of S918 M918]
    show Steps p.tables e below (T916.setTop (mkF m 9 #[rv b62, rv r_647, .unset] [(.int (0 : Int32)), (.int (0 : Int32))])) _
    refine XS.icmpNo X916.here hx rfl (hb hby d4_9) rfl (XT.ii_ne_f (by decide)) ?_
    show Steps p.tables e below (T916.setTop (mkF m 12 #[rv b62, rv r_647, .unset] [])) _
    refine XS.bipush X916.here hx rfl (hb hby d4_12) ?_
    show Steps p.tables e below (T916.setTop (mkF m 14 #[rv b62, rv r_647, .unset] [(.int (16 : Int32))])) _
    refine XS.aloadN X916.here hx rfl (hb hby d4_14) rfl rfl ?_
    exact kt
  obtain ⟨T920, X920, e920, st920⟩ := getF X916 hx hZ hown (host := "") (Or.inl (W 25 rfl)) Via.refl e916 Fi3 (g := (mkF m 15 #[rv b62, rv r_647, .unset] [(.ref b62), (.int (16 : Int32))])) rfl rfl (hb hby d4_15)
  have pre921 : ∀ t, Steps p.tables e below (T920.setTop (mkF m 18 #[rv b62, rv r_647, .unset] [(.int (0 : Int32)), (.int (16 : Int32))])) t → Steps p.tables e below (s₁.setTop (entryFrame m #[(.ref b62), (.ref r_647)] 3)) t := fun t kt => pre919 _ (st920 _ kt)
  have pre922 : ∀ t, Steps p.tables e below (T920.setTop (mkF m 19 #[rv b62, rv r_647, .unset] [(.ref b62), (.int (0 : Int32)), (.int (16 : Int32))])) t → Steps p.tables e below (s₁.setTop (entryFrame m #[(.ref b62), (.ref r_647)] 3)) t := fun t kt => by
    refine pre921 _ ?_
    show Steps p.tables e below (T920.setTop (mkF m 18 #[rv b62, rv r_647, .unset] [(.int (0 : Int32)), (.int (16 : Int32))])) _
    refine XS.aloadN X920.here hx rfl (hb hby d4_18) rfl rfl ?_
    exact kt
  obtain ⟨T923, X923, e923, st923⟩ := getF X920 hx hZ hown (host := "") (Or.inl (W 25 rfl)) Via.refl e920 Fi3 (g := (mkF m 19 #[rv b62, rv r_647, .unset] [(.ref b62), (.int (0 : Int32)), (.int (16 : Int32))])) rfl rfl (hb hby d4_19)
  have pre924 : ∀ t, Steps p.tables e below (T923.setTop (mkF m 22 #[rv b62, rv r_647, .unset] [(.int (0 : Int32)), (.int (0 : Int32)), (.int (16 : Int32))])) t → Steps p.tables e below (s₁.setTop (entryFrame m #[(.ref b62), (.ref r_647)] 3)) t := fun t kt => pre922 _ (st923 _ kt)
  have pre925 : ∀ t, Steps p.tables e below (T923.setTop (mkF m 25 #[rv b62, rv r_647, .unset] [(.int (0 : Int32)), (.int (16 : Int32))])) t → Steps p.tables e below (s₁.setTop (entryFrame m #[(.ref b62), (.ref r_647)] 3)) t := fun t kt => by
    refine pre924 _ ?_
    show Steps p.tables e below (T923.setTop (mkF m 22 #[rv b62, rv r_647, .unset] [(.int (0 : Int32)), (.int (0 : Int32)), (.int (16 : Int32))])) _
    refine XS.iconst X923.here hx rfl (hb hby d4_22) ?_
    show Steps p.tables e below (T923.setTop (mkF m 23 #[rv b62, rv r_647, .unset] [(.int (1 : Int32)), (.int (0 : Int32)), (.int (0 : Int32)), (.int (16 : Int32))])) _
    refine XS.ishr X923.here hx rfl (hb hby d4_23) rfl ?_
    show  Steps p.tables e below (T923.setTop (mkF m 24 #[rv b62, rv r_647, .unset] [(.int ((0 : Int32) >>> ((1 : Int32) &&& 31))), (.int (0 : Int32)), (.int (16 : Int32))])) _
    rw [(by decide : (((0 : Int32) >>> ((1 : Int32) &&& 31)) : Int32) = (0 : Int32))]
    show Steps p.tables e below (T923.setTop (mkF m 24 #[rv b62, rv r_647, .unset] [(.int (0 : Int32)), (.int (0 : Int32)), (.int (16 : Int32))])) _
    refine XS.iadd X923.here hx rfl (hb hby d4_24) rfl ?_
    show  Steps p.tables e below (T923.setTop (mkF m 25 #[rv b62, rv r_647, .unset] [(.int ((0 : Int32) + (0 : Int32))), (.int (16 : Int32))])) _
    rw [(by decide : (((0 : Int32) + (0 : Int32)) : Int32) = (0 : Int32))]
    exact kt
  obtain ⟨_, _, ⟨T926, L926, k926, n926⟩, -, X926, ⟨Lc926, hQ926, l926, y926, z926⟩, st926⟩ := Jvm.LawKit.callS X923 hx (y := (⟨"java/lang/Math", "max", "(II)I"⟩ : MethodName)) hown (mvT hZ (W 60 rfl)) (mvT hZ (W 61 rfl)) (mvT hZ (W 62 rfl)) (mvT hZ (W 63 rfl)) (by decide) (backOf (W := 0) (rm_max10_0 l Z a0 hw [] h0 n0 O0) hZ (W 63 rfl) (W 62 rfl) (by decide) (by decide)) (g := (mkF m 25 #[rv b62, rv r_647, .unset] [(.int (0 : Int32)), (.int (16 : Int32))])) rfl (by rw [hml]; rfl) (argsL := [(.int (16 : Int32)), (.int (0 : Int32))]) (rest := []) (lenOf pd_21 rfl) rfl (by show 2 * 0 + _ ≤ _; exact Nat.le_of_eq rfl) (hb hby d4_25) (fun _ _ => ⟨rfl, e923, (by decide : 0 + 0 ≤ _), (by decide : 0 + 0 ≤ _)⟩)
  dsimp only [Pt.U, Pt.locs, Pt.cells, Pt.slots] at X926 l926 y926 z926 st926 hQ926
  replace l926 := l926.symm
  replace y926 : 0 = k926 := y926.symm
  replace z926 : 0 = n926 := z926.symm
  subst l926 y926 z926
  obtain ⟨rfl, M926, e926⟩ := hQ926
  have N926 := Fr.app N0 M926
  have pre927 : ∀ t, Steps p.tables e below (T926.setTop (mkF m 28 #[rv b62, rv r_647, .unset] [(.int (16 : Int32))])) t → Steps p.tables e below (s₁.setTop (entryFrame m #[(.ref b62), (.ref r_647)] 3)) t := fun t kt => pre925 _ (st926 _ kt)
  have pre928 : ∀ t, Steps p.tables e below (T926.setTop (mkF m 31 #[rv b62, rv r_647, iv (16 : Int32)] [(.ref b62), (.ref b62)])) t → Steps p.tables e below (s₁.setTop (entryFrame m #[(.ref b62), (.ref r_647)] 3)) t := fun t kt => by
    refine pre927 _ ?_
    show Steps p.tables e below (T926.setTop (mkF m 28 #[rv b62, rv r_647, .unset] [(.int (16 : Int32))])) _
    refine XS.istoreN X926.here hx rfl (hb hby d4_28) rfl (l' := #[rv b62, rv r_647, iv (16 : Int32)]) rfl ?_
    show Steps p.tables e below (T926.setTop (mkF m 29 #[rv b62, rv r_647, iv (16 : Int32)] [])) _
    refine XS.aloadN X926.here hx rfl (hb hby d4_29) rfl rfl ?_
    show Steps p.tables e below (T926.setTop (mkF m 30 #[rv b62, rv r_647, iv (16 : Int32)] [(.ref b62)])) _
    refine XS.aloadN X926.here hx rfl (hb hby d4_30) rfl rfl ?_
    exact kt
  obtain ⟨T929, X929, e929, st929⟩ := getF X926 hx hZ hown (host := "") (Or.inl (W 11 rfl)) Via.refl e926 Fi2 (g := (mkF m 31 #[rv b62, rv r_647, iv (16 : Int32)] [(.ref b62), (.ref b62)])) rfl rfl (hb hby d4_31)
  have pre930 : ∀ t, Steps p.tables e below (T929.setTop (mkF m 34 #[rv b62, rv r_647, iv (16 : Int32)] [(.ref a_NO_SLOTS), (.ref b62)])) t → Steps p.tables e below (s₁.setTop (entryFrame m #[(.ref b62), (.ref r_647)] 3)) t := fun t kt => pre928 _ (st929 _ kt)
  have pre931 : ∀ t, Steps p.tables e below (T929.setTop (mkF m 44 #[rv b62, rv r_647, iv (16 : Int32)] [(.int (16 : Int32)), (.ref a_NO_SLOTS), (.ref b62)])) t → Steps p.tables e below (s₁.setTop (entryFrame m #[(.ref b62), (.ref r_647)] 3)) t := fun t kt => by
    refine pre930 _ ?_
    show Steps p.tables e below (T929.setTop (mkF m 34 #[rv b62, rv r_647, iv (16 : Int32)] [(.ref a_NO_SLOTS), (.ref b62)])) _
    refine XS.iloadN X929.here hx rfl (hb hby d4_34) rfl ?_
    show Steps p.tables e below (T929.setTop (mkF m 35 #[rv b62, rv r_647, iv (16 : Int32)] [(.int (16 : Int32)), (.ref a_NO_SLOTS), (.ref b62)])) _
    refine XS.ifYes X929.here hx rfl (pc0 := 35) (pc' := 43) rfl (hb hby d4_35) rfl (XT.i0_ge_t (by decide)) (by decide) (by decide) ?_
    show Steps p.tables e below (T929.setTop (mkF m 43 #[rv b62, rv r_647, iv (16 : Int32)] [(.ref a_NO_SLOTS), (.ref b62)])) _
    refine XS.iloadN X929.here hx rfl (hb hby d4_43) rfl ?_
    exact kt
  obtain ⟨_, _, ⟨T932, L932, k932, n932⟩, -, X932, ⟨Lc932, hQ932, l932, y932, z932⟩, st932⟩ := Jvm.LawKit.callS X929 hx (y := (⟨"java/util/Arrays", "copyOf", "([Ljava/lang/Object;I)[Ljava/lang/Object;"⟩ : MethodName)) hown (mvT hZ (W 64 rfl)) (mvT hZ (W 65 rfl)) (mvT hZ (W 66 rfl)) (mvT hZ (W 67 rfl)) (by decide) (backOf (W := 1) (rm_copyOf11_0 l Z a0 hw [] a_NO_SLOTS mr kn k109_68 j125_1 j125_2 b109_68 h0 n0 O0 G0 G1 G2 Fi0) hZ (W 67 rfl) (W 66 rfl) (by decide) (by decide)) (g := (mkF m 44 #[rv b62, rv r_647, iv (16 : Int32)] [(.int (16 : Int32)), (.ref a_NO_SLOTS), (.ref b62)])) rfl (by rw [hml]; rfl) (argsL := [(.ref a_NO_SLOTS), (.int (16 : Int32))]) (rest := [(.ref b62)]) (lenOf pd_28 rfl) rfl (by show 2 * 0 + _ ≤ _; exact Nat.le_of_eq rfl) (hb hby d4_44) (fun _ _ => ⟨rfl, e929, (by decide : 0 + 1 ≤ _), (by decide : 0 + 16 ≤ _)⟩)
  dsimp only [Pt.U, Pt.locs, Pt.cells, Pt.slots] at X932 l932 y932 z932 st932 hQ932
  replace l932 := l932.symm
  replace y932 : 1 = k932 := y932.symm
  replace z932 : 16 = n932 := z932.symm
  subst l932 y932 z932
  obtain ⟨k762_932, b762_932, rfl, M932, Kc932, O932, J932_0, J932_1, J932_2, P932_0⟩ := hQ932
  obtain ⟨h932, e932⟩ : ∃ z, T932.heap = z := ⟨_, rfl⟩
  rw [e932] at Kc932 O932 J932_1 J932_2
  try rw [e932] at P932_0
  have N932 := Fr.app N926 M932
  have K932 : Keep h0 h932 [b62] := K0.trans Kc932 (own_all0 )
  have pre933 : ∀ t, Steps p.tables e below (T932.setTop (mkF m 47 #[rv b62, rv r_647, iv (16 : Int32)] [(.ref b762_932), (.ref b62)])) t → Steps p.tables e below (s₁.setTop (entryFrame m #[(.ref b62), (.ref r_647)] 3)) t := fun t kt => pre931 _ (st932 _ kt)
  have F934 := Fi0.keep Kc932 (own_nm0 )
  have F935 := Fi1.keep Kc932
  have F936 := Fi2.keep Kc932 (own_nm0 )
  have F937 := Fi3.keep Kc932 (own_nm0 )
  have F938 := Fi4.keep Kc932
  have sz_b762_932 : h0.size ≤ b762_932 := Nat.le_trans K0.1 P932_0
  have ne_a_NO_SLOTS_b762_932 : a_NO_SLOTS ≠ b762_932 := Nat.ne_of_lt (Nat.lt_of_lt_of_le (G1.ext O0.2).lt P932_0)
  have ne_b109_68_b762_932 : b109_68 ≠ b762_932 := Nat.ne_of_lt (Nat.lt_of_lt_of_le Fi0.lt P932_0)
  have ne_b62_b762_932 : b62 ≠ b762_932 := Nat.ne_of_lt (Nat.lt_of_lt_of_le Fi1.lt P932_0)
  have ne_r_647_b762_932 : r_647 ≠ b762_932 := Nat.ne_of_lt (Nat.lt_of_lt_of_le Fi4.lt P932_0)
  have g_b762_932 : n0 ≤ b762_932 := Nat.le_trans (Nat.le_trans (Nat.le_of_eq O0.1.symm) O0.2.1) sz_b762_932
  obtain ⟨T939, h939, X939, e939, W939, st939⟩ := putF X932 hx hZ hown (host := "") (Or.inl (W 11 rfl)) Via.refl e932 F936 F935 (Or.inl (W 12 rfl)) (W 1 rfl) (ty := (.array (.object "java/lang/Object"))) (by decide) rfl rfl (g := (mkF m 47 #[rv b62, rv r_647, iv (16 : Int32)] [(.ref b762_932), (.ref b62)])) rfl rfl (hb hby d4_47)
  have pre940 : ∀ t, Steps p.tables e below (T939.setTop (mkF m 50 #[rv b62, rv r_647, iv (16 : Int32)] [])) t → Steps p.tables e below (s₁.setTop (entryFrame m #[(.ref b62), (.ref r_647)] 3)) t := fun t kt => pre933 _ (st939 _ kt)
  have N939 := Fr.snoc X939 N932 g_b62
  have O939 := O932.wr W939 g_b62
  have K939 : Keep h0 h939 [b62] := K932.wr W939 (Or.inl (List.mem_of_getElem? (i := 0) rfl))
  have F941 := F934.other W939 q0
  have F942 := F935.wr W939
  have F943 := F937.other W939 (Or.inr (slot_ne (Or.inl (W 26 rfl)) (Or.inl (W 12 rfl)) (by decide) (t := .int) (t' := (.array (.object "java/lang/Object"))) (by decide) (by decide)))
  have F944 := F938.wr W939
  have F945 := J932_1.wr W939
  have F946 := J932_2.other W939 (fun q => ne_b62_b762_932 q.symm)
  have F947 : Fld Z h939 b62 "com/example/homethread/homethread/Items" "slots" "[Ljava/lang/Object;" (.ref b762_932) := F936.same W939
  have pre948 : ∀ t, Steps p.tables e below (T939.setTop (mkF m 51 #[rv b62, rv r_647, iv (16 : Int32)] [(.ref b62)])) t → Steps p.tables e below (s₁.setTop (entryFrame m #[(.ref b62), (.ref r_647)] 3)) t := fun t kt => by
    refine pre940 _ ?_
    show Steps p.tables e below (T939.setTop (mkF m 50 #[rv b62, rv r_647, iv (16 : Int32)] [])) _
    refine XS.aloadN X939.here hx rfl (hb hby d4_50) rfl rfl ?_
    exact kt
  obtain ⟨T949, X949, e949, st949⟩ := getF X939 hx hZ hown (host := "") (Or.inl (W 11 rfl)) Via.refl e939 F947 (g := (mkF m 51 #[rv b62, rv r_647, iv (16 : Int32)] [(.ref b62)])) rfl rfl (hb hby d4_51)
  have pre950 : ∀ t, Steps p.tables e below (T949.setTop (mkF m 54 #[rv b62, rv r_647, iv (16 : Int32)] [(.ref b762_932)])) t → Steps p.tables e below (s₁.setTop (entryFrame m #[(.ref b62), (.ref r_647)] 3)) t := fun t kt => pre948 _ (st949 _ kt)
  have pre951 : ∀ t, Steps p.tables e below (T949.setTop (mkF m 55 #[rv b62, rv r_647, iv (16 : Int32)] [(.ref b62), (.ref b762_932)])) t → Steps p.tables e below (s₁.setTop (entryFrame m #[(.ref b62), (.ref r_647)] 3)) t := fun t kt => by
    refine pre950 _ ?_
    show Steps p.tables e below (T949.setTop (mkF m 54 #[rv b62, rv r_647, iv (16 : Int32)] [(.ref b762_932)])) _
    refine XS.aloadN X949.here hx rfl (hb hby d4_54) rfl rfl ?_
    exact kt
  obtain ⟨T952, X952, e952, st952⟩ := getF X949 hx hZ hown (host := "") (Or.inl (W 25 rfl)) Via.refl e949 F943 (g := (mkF m 55 #[rv b62, rv r_647, iv (16 : Int32)] [(.ref b62), (.ref b762_932)])) rfl rfl (hb hby d4_55)
  have pre953 : ∀ t, Steps p.tables e below (T952.setTop (mkF m 58 #[rv b62, rv r_647, iv (16 : Int32)] [(.int (0 : Int32)), (.ref b762_932)])) t → Steps p.tables e below (s₁.setTop (entryFrame m #[(.ref b62), (.ref r_647)] 3)) t := fun t kt => pre951 _ (st952 _ kt)
  have pre954 : ∀ t, Steps p.tables e below (T952.setTop (mkF m 59 #[rv b62, rv r_647, iv (16 : Int32)] [(.ref r_647), (.int (0 : Int32)), (.ref b762_932)])) t → Steps p.tables e below (s₁.setTop (entryFrame m #[(.ref b62), (.ref r_647)] 3)) t := fun t kt => by
    refine pre953 _ ?_
    show Steps p.tables e below (T952.setTop (mkF m 58 #[rv b62, rv r_647, iv (16 : Int32)] [(.int (0 : Int32)), (.ref b762_932)])) _
    refine XS.aloadN X952.here hx rfl (hb hby d4_58) rfl rfl ?_
    exact kt
  obtain ⟨c955, Ar955, q955, S955, M955, H955, G955⟩ := id F946
  have i955 : ¬ ((0 : Int32) < 0 ∨ c955.slots.size ≤ ((0 : Int32)).toNatClampNeg) := inb_of S955 ⟨by decide, by decide⟩
  obtain ⟨T956, h956, X956, e956, W956, st956⟩ := stR X952 hx hZ e952 Ar955 (j := (0 : Int32)) i955 rfl (Sto.ofV Ar955 q955 J932_0 (Ins.of_exa F944 (W 27 rfl))) (g := (mkF m 59 #[rv b62, rv r_647, iv (16 : Int32)] [(.ref r_647), (.int (0 : Int32)), (.ref b762_932)])) rfl rfl (hb hby d4_59)
  have pre957 : ∀ t, Steps p.tables e below (T956.setTop (mkF m 60 #[rv b62, rv r_647, iv (16 : Int32)] [])) t → Steps p.tables e below (s₁.setTop (entryFrame m #[(.ref b62), (.ref r_647)] 3)) t := fun t kt => pre954 _ (st956 _ kt)
  have N956 := Fr.snoc X956 N939 g_b762_932
  have O956 := O939.wr W956 g_b762_932
  have K956 : Keep h0 h956 [b62] := K939.wr W956 (Or.inr sz_b762_932)
  have F958 := F941.other W956 ne_b109_68_b762_932
  have F959 := F942.wr W956
  have F960 := F943.other W956 (Or.inl ne_b62_b762_932)
  have F961 := F944.wr W956
  have F962 := F945.wr W956
  have F963 := F947.other W956 (Or.inl ne_b62_b762_932)
  have F964 : Arv Z h956 b762_932 k762_932 (.object "java/lang/Object") (16 : Int32) [(.ref r_647), .null, .null, .null, .null, .null, .null, .null, .null, .null, .null, .null, .null, .null, .null, .null] .null := Arv.set Ar955 q955 S955 M955 H955 G955 rfl W956 0 rfl (Nat.le_of_ble_eq_true rfl)
  have pre965 : ∀ t, Steps p.tables e below (T956.setTop (mkF m 62 #[rv b62, rv r_647, iv (16 : Int32)] [(.ref b62), (.ref b62)])) t → Steps p.tables e below (s₁.setTop (entryFrame m #[(.ref b62), (.ref r_647)] 3)) t := fun t kt => by
    refine pre957 _ ?_
    show Steps p.tables e below (T956.setTop (mkF m 60 #[rv b62, rv r_647, iv (16 : Int32)] [])) _
    refine XS.aloadN X956.here hx rfl (hb hby d4_60) rfl rfl ?_
    show Steps p.tables e below (T956.setTop (mkF m 61 #[rv b62, rv r_647, iv (16 : Int32)] [(.ref b62)])) _
    refine XS.dup X956.here hx rfl (hb hby d4_61) rfl rfl ?_
    exact kt
  obtain ⟨T966, X966, e966, st966⟩ := getF X956 hx hZ hown (host := "") (Or.inl (W 25 rfl)) Via.refl e956 F960 (g := (mkF m 62 #[rv b62, rv r_647, iv (16 : Int32)] [(.ref b62), (.ref b62)])) rfl rfl (hb hby d4_62)
  have pre967 : ∀ t, Steps p.tables e below (T966.setTop (mkF m 65 #[rv b62, rv r_647, iv (16 : Int32)] [(.int (0 : Int32)), (.ref b62)])) t → Steps p.tables e below (s₁.setTop (entryFrame m #[(.ref b62), (.ref r_647)] 3)) t := fun t kt => pre965 _ (st966 _ kt)
  have pre968 : ∀ t, Steps p.tables e below (T966.setTop (mkF m 67 #[rv b62, rv r_647, iv (16 : Int32)] [(.int (1 : Int32)), (.ref b62)])) t → Steps p.tables e below (s₁.setTop (entryFrame m #[(.ref b62), (.ref r_647)] 3)) t := fun t kt => by
    refine pre967 _ ?_
    show Steps p.tables e below (T966.setTop (mkF m 65 #[rv b62, rv r_647, iv (16 : Int32)] [(.int (0 : Int32)), (.ref b62)])) _
    refine XS.iconst X966.here hx rfl (hb hby d4_65) ?_
    show Steps p.tables e below (T966.setTop (mkF m 66 #[rv b62, rv r_647, iv (16 : Int32)] [(.int (1 : Int32)), (.int (0 : Int32)), (.ref b62)])) _
    refine XS.iadd X966.here hx rfl (hb hby d4_66) rfl ?_
    show  Steps p.tables e below (T966.setTop (mkF m 67 #[rv b62, rv r_647, iv (16 : Int32)] [(.int ((0 : Int32) + (1 : Int32))), (.ref b62)])) _
    rw [(by decide : (((0 : Int32) + (1 : Int32)) : Int32) = (1 : Int32))]
    exact kt
  obtain ⟨T969, h969, X969, e969, W969, st969⟩ := putF X966 hx hZ hown (host := "") (Or.inl (W 25 rfl)) Via.refl e966 F960 F959 (Or.inl (W 26 rfl)) (W 1 rfl) (ty := .int) (by decide) rfl rfl (g := (mkF m 67 #[rv b62, rv r_647, iv (16 : Int32)] [(.int (1 : Int32)), (.ref b62)])) rfl rfl (hb hby d4_67)
  have pre970 : ∀ t, Steps p.tables e below (T969.setTop (mkF m 70 #[rv b62, rv r_647, iv (16 : Int32)] [])) t → Steps p.tables e below (s₁.setTop (entryFrame m #[(.ref b62), (.ref r_647)] 3)) t := fun t kt => pre968 _ (st969 _ kt)
  have N969 := Fr.snoc X969 N956 g_b62
  have O969 := O956.wr W969 g_b62
  have K969 : Keep h0 h969 [b62] := K956.wr W969 (Or.inl (List.mem_of_getElem? (i := 0) rfl))
  have F971 := F958.other W969 q0
  have F972 := F959.wr W969
  have F973 := F961.wr W969
  have F974 := F962.wr W969
  have F975 := F963.other W969 (Or.inr (slot_ne (Or.inl (W 12 rfl)) (Or.inl (W 26 rfl)) (by decide) (t := (.array (.object "java/lang/Object"))) (t' := .int) (by decide) (by decide)))
  have F976 := F964.other W969 (fun q => ne_b62_b762_932 q.symm)
  have F977 : Fld Z h969 b62 "com/example/homethread/homethread/Items" "size" "I" (.int (1 : Int32)) := F960.same W969
  obtain ⟨fs, hr, hrun, hended, hW, hsame⟩ := X969.leave (v := none) (fun _ => rfl)
  refine ⟨_, _, pre970 _ (X969.returnOut hx Bd.returns (hb hby d4_70) hr), hrun, hended, _, _, rfl, ?_, ⟨_, rfl⟩, hW, hsame.mono (by decide) (by decide)⟩
  show Q_add4_2 Z b62 r_647 mr a_NO_SLOTS kn k109_68 j125_1 j125_2 b109_68 h0 n0 _ T969.heap _
  rw [e969]
  exact ⟨k762_932, b762_932, rfl, N969, K969, O969, F972, J932_0, F974, F975, F976, F977, sz_b762_932⟩
def Q_clearAndTrim6_6 (Z : State) (b62 : Addr) (p1 : Int32) (r_647 : Addr) (k762_654 : ClassId) (b762_654 : Addr) (h0 : Heap) (n0 : Nat) (v : Option Value) (h : Heap) (L : List Loc) : Prop := v = none ∧ Fr n0 L ∧ Keep h0 h [b62] ∧ Old Z n0 h ∧ Exa Z h b62 "com/example/homethread/homethread/Items" ∧ Fld Z h b62 "com/example/homethread/homethread/Items" "slots" "[Ljava/lang/Object;" (.ref b762_654) ∧ Fld Z h b62 "com/example/homethread/homethread/Items" "size" "I" (.int (0 : Int32))
set_option maxRecDepth 65536 in
set_option maxHeartbeats 40000000 in
theorem rm_clearAndTrim6_6 (l : Launch) (Z : State) (a0 : Array Value) (hw : ∀ d ∈ tables_1, d.before a0 Z = true) (ws : List Jvm.Cond) (b62 : Addr) (p1 : Int32) (r_647 : Addr) (k762_654 : ClassId) (b762_654 : Addr) (h0 : Heap) (n0 : Nat) (O0 : Old Z n0 h0) (g_b62 : n0 ≤ b62) (Fi0 : Exa Z h0 b62 "com/example/homethread/homethread/Items") (Fi1 : Fld Z h0 b62 "com/example/homethread/homethread/Items" "slots" "[Ljava/lang/Object;" (.ref b762_654)) (Fi2 : Arv Z h0 b762_654 k762_654 (.object "java/lang/Object") (16 : Int32) [(.ref r_647), .null, .null, .null, .null, .null, .null, .null, .null, .null, .null, .null, .null, .null, .null, .null] .null) (Fi3 : Fld Z h0 b62 "com/example/homethread/homethread/Items" "size" "I" (.int (1 : Int32))) (q0 : ¬ (b762_654 = b62)) (q1 : ¬ (p1 < (16 : Int32))) :
    MetFree l (⟨"com/example/homethread/homethread/Items", "clearAndTrim", "(I)V"⟩ : MethodName) (head1 (Jvm.Cond.code (⟨"com/example/homethread/homethread/Items", "clearAndTrim", "(I)V"⟩ : MethodName) prog_9_method_11_code 2 none :: ws) ({ frames := 0, cells := 0, slots := 0, locals := 0 } : Room)) (fun a U => a = #[(.ref b62), (.int p1)] ∧ Z.Warmed39 U.vm ∧ U.heap = h0) (fun _ _ _ _ _ => True) (fun _ U o U' => ∃ v L, o = .returned v ∧ Q_clearAndTrim6_6 Z b62 p1 r_647 k762_654 b762_654 h0 n0 v U'.heap L ∧ FrameEnd U o U' L ({ frames := 0, cells := 0, slots := 0, locals := 0 } : Room).cells ({ frames := 0, cells := 0, slots := 0, locals := 0 } : Room).slots) := by
  refine MetFree.of_bodySF (plainFor_of_name pn_9) hisR ?_
  intro p e s m args below meth c s₁ Bd hml0 hP hK
  have W := fun {d : Jvm.Cond} (i : Nat) (q : tables_1[i]? = some d) => hw d (List.mem_of_getElem? q)
  obtain ⟨rfl, hZ, hh⟩ := hP
  have hx := Bd.exec
  have hby := Bd.bytes
  have hml : c.maxLocals = 2 := hml0
  have hown : s.vm.findClass "com/example/homethread/homethread/Items" = some m.cls := findClass_of_methodNamed Bd.named
  have hnm := (name_of_methodNamed Bd.named Bd.method).1
  have X0 : Stand p l e ({ frames := 0, cells := 0, slots := 0, locals := 0 } : Room) s m #[(.ref b62), (.int p1)] below meth c s₁ [] 0 0 := Stand.of_body Bd
  have e0 : s₁.heap = h0 := by rw [← hh, Bd.state]; rfl
  have N0 := Fr.nil n0
  have pre0 : ∀ t, Steps p.tables e below (s₁.setTop (mkF m 0 #[rv b62, iv p1] [])) t → Steps p.tables e below (s₁.setTop (entryFrame m #[(.ref b62), (.int p1)] 2)) t := fun t k => castTop (ef_16 m b62 p1) k
  have K0 : Keep h0 h0 [b62] := Keep.refl h0 [b62]
  have pre1047 : ∀ t, Steps p.tables e below (s₁.setTop (mkF m 1 #[rv b62, iv p1] [(.ref b62)])) t → Steps p.tables e below (s₁.setTop (entryFrame m #[(.ref b62), (.int p1)] 2)) t := fun t kt => by
    refine pre0 _ ?_
    show Steps p.tables e below (s₁.setTop (mkF m 0 #[rv b62, iv p1] [])) _
    refine XS.aloadN X0.here hx rfl (hb hby d6_0) rfl rfl ?_
    exact kt
  obtain ⟨T1048, X1048, e1048, st1048⟩ := getF X0 hx hZ hown (host := "") (Or.inl (W 11 rfl)) Via.refl e0 Fi1 (g := (mkF m 1 #[rv b62, iv p1] [(.ref b62)])) rfl rfl (hb hby d6_1)
  have pre1049 : ∀ t, Steps p.tables e below (T1048.setTop (mkF m 4 #[rv b62, iv p1] [(.ref b762_654)])) t → Steps p.tables e below (s₁.setTop (entryFrame m #[(.ref b62), (.int p1)] 2)) t := fun t kt => pre1047 _ (st1048 _ kt)
  obtain ⟨c1050, Ar1050, -, S1050, M1050, -, -⟩ := id Fi2
  have pre1051 : ∀ t, Steps p.tables e below (T1048.setTop (mkF m 18 #[rv b62, iv p1] [(.int (0 : Int32)), (.ref b62)])) t → Steps p.tables e below (s₁.setTop (entryFrame m #[(.ref b62), (.int p1)] 2)) t := fun t kt => by
    refine pre1049 _ ?_
    show Steps p.tables e below (T1048.setTop (mkF m 4 #[rv b62, iv p1] [(.ref b762_654)])) _
    refine X1048.arraylength hx (by rw [e1048]; exact Ar1050.1) (State.isArrayOf_alike hZ.alike Ar1050.2.1) (g := (mkF m 4 #[rv b62, iv p1] [(.ref b762_654)])) rfl rfl (hb hby d6_4) _ ?_
    rw [len_of S1050 M1050]
    show Steps p.tables e below (T1048.setTop (mkF m 5 #[rv b62, iv p1] [(.int (16 : Int32))])) _
    refine XS.iloadN X1048.here hx rfl (hb hby d6_5) rfl ?_
    show Steps p.tables e below (T1048.setTop (mkF m 6 #[rv b62, iv p1] [(.int p1), (.int (16 : Int32))])) _
    refine XS.icmpYes X1048.here hx rfl (pc0 := 6) (pc' := 16) rfl (hb hby d6_6) rfl (XT.ii_le_t q1) (by decide) (by decide) ?_
    show Steps p.tables e below (T1048.setTop (mkF m 16 #[rv b62, iv p1] [])) _
    refine XS.aloadN X1048.here hx rfl (hb hby d6_16) rfl rfl ?_
    show Steps p.tables e below (T1048.setTop (mkF m 17 #[rv b62, iv p1] [(.ref b62)])) _
    refine XS.iconst X1048.here hx rfl (hb hby d6_17) ?_
    exact kt
  obtain ⟨T1052, h1052, X1052, e1052, W1052, st1052⟩ := putF X1048 hx hZ hown (host := "") (Or.inl (W 25 rfl)) Via.refl e1048 Fi3 Fi0 (Or.inl (W 26 rfl)) (W 1 rfl) (ty := .int) (by decide) rfl rfl (g := (mkF m 18 #[rv b62, iv p1] [(.int (0 : Int32)), (.ref b62)])) rfl rfl (hb hby d6_18)
  have pre1053 : ∀ t, Steps p.tables e below (T1052.setTop (mkF m 21 #[rv b62, iv p1] [])) t → Steps p.tables e below (s₁.setTop (entryFrame m #[(.ref b62), (.int p1)] 2)) t := fun t kt => pre1051 _ (st1052 _ kt)
  have N1052 := Fr.snoc X1052 N0 g_b62
  have O1052 := O0.wr W1052 g_b62
  have K1052 : Keep h0 h1052 [b62] := K0.wr W1052 (Or.inl (List.mem_of_getElem? (i := 0) rfl))
  have F1054 := Fi0.wr W1052
  have F1055 := Fi1.other W1052 (Or.inr (slot_ne (Or.inl (W 12 rfl)) (Or.inl (W 26 rfl)) (by decide) (t := (.array (.object "java/lang/Object"))) (t' := .int) (by decide) (by decide)))
  have F1056 := Fi2.other W1052 q0
  have F1057 : Fld Z h1052 b62 "com/example/homethread/homethread/Items" "size" "I" (.int (0 : Int32)) := Fi3.same W1052
  obtain ⟨fs, hr, hrun, hended, hW, hsame⟩ := X1052.leave (v := none) (fun _ => rfl)
  refine ⟨_, _, pre1053 _ (X1052.returnOut hx Bd.returns (hb hby d6_21) hr), hrun, hended, _, _, rfl, ?_, ⟨_, rfl⟩, hW, hsame.mono (by decide) (by decide)⟩
  show Q_clearAndTrim6_6 Z b62 p1 r_647 k762_654 b762_654 h0 n0 _ T1052.heap _
  rw [e1052]
  exact ⟨rfl, N1052, K1052, O1052, F1054, F1055, F1057⟩
def Q_clearAndTrim6_7 (Z : State) (b62 : Addr) (p0 : Int32) (k109_68 : ClassId) (j125_0 : Int32) (j125_1 : Value) (j125_2 : Value) (b109_68 : Addr) (h0 : Heap) (n0 : Nat) (v : Option Value) (h : Heap) (L : List Loc) : Prop := v = none ∧ Fr n0 L ∧ Keep h0 h [b62] ∧ Old Z n0 h ∧ Exa Z h b62 "com/example/homethread/homethread/Items" ∧ Fld Z h b62 "com/example/homethread/homethread/Items" "slots" "[Ljava/lang/Object;" (.ref b109_68) ∧ Fld Z h b62 "com/example/homethread/homethread/Items" "size" "I" (.int (0 : Int32))
set_option maxRecDepth 65536 in
set_option maxHeartbeats 40000000 in
theorem rm_clearAndTrim6_7 (l : Launch) (Z : State) (a0 : Array Value) (hw : ∀ d ∈ tables_1, d.before a0 Z = true) (ws : List Jvm.Cond) (b62 : Addr) (p0 : Int32) (k109_68 : ClassId) (j125_0 : Int32) (j125_1 : Value) (j125_2 : Value) (b109_68 : Addr) (h0 : Heap) (n0 : Nat) (O0 : Old Z n0 h0) (g_b62 : n0 ≤ b62) (Fi0 : Exa Z h0 b62 "com/example/homethread/homethread/Items") (Fi1 : Fld Z h0 b62 "com/example/homethread/homethread/Items" "size" "I" (.int j125_0)) (Fi2 : Arv Z h0 b109_68 k109_68 (.object "java/lang/Object") (16 : Int32) [j125_1, j125_2, .null, .null, .null, .null, .null, .null, .null, .null, .null, .null, .null, .null, .null, .null] .null) (Fi3 : Fld Z h0 b62 "com/example/homethread/homethread/Items" "slots" "[Ljava/lang/Object;" (.ref b109_68)) (q0 : ¬ (b109_68 = b62)) (q1 : ¬ (p0 < (16 : Int32))) :
    MetFree l (⟨"com/example/homethread/homethread/Items", "clearAndTrim", "(I)V"⟩ : MethodName) (head1 (Jvm.Cond.code (⟨"com/example/homethread/homethread/Items", "clearAndTrim", "(I)V"⟩ : MethodName) prog_9_method_11_code 2 none :: ws) ({ frames := 0, cells := 0, slots := 0, locals := 0 } : Room)) (fun a U => a = #[(.ref b62), (.int p0)] ∧ Z.Warmed39 U.vm ∧ U.heap = h0) (fun _ _ _ _ _ => True) (fun _ U o U' => ∃ v L, o = .returned v ∧ Q_clearAndTrim6_7 Z b62 p0 k109_68 j125_0 j125_1 j125_2 b109_68 h0 n0 v U'.heap L ∧ FrameEnd U o U' L ({ frames := 0, cells := 0, slots := 0, locals := 0 } : Room).cells ({ frames := 0, cells := 0, slots := 0, locals := 0 } : Room).slots) := by
  refine MetFree.of_bodySF (plainFor_of_name pn_9) hisR ?_
  intro p e s m args below meth c s₁ Bd hml0 hP hK
  have W := fun {d : Jvm.Cond} (i : Nat) (q : tables_1[i]? = some d) => hw d (List.mem_of_getElem? q)
  obtain ⟨rfl, hZ, hh⟩ := hP
  have hx := Bd.exec
  have hby := Bd.bytes
  have hml : c.maxLocals = 2 := hml0
  have hown : s.vm.findClass "com/example/homethread/homethread/Items" = some m.cls := findClass_of_methodNamed Bd.named
  have hnm := (name_of_methodNamed Bd.named Bd.method).1
  have X0 : Stand p l e ({ frames := 0, cells := 0, slots := 0, locals := 0 } : Room) s m #[(.ref b62), (.int p0)] below meth c s₁ [] 0 0 := Stand.of_body Bd
  have e0 : s₁.heap = h0 := by rw [← hh, Bd.state]; rfl
  have N0 := Fr.nil n0
  have pre0 : ∀ t, Steps p.tables e below (s₁.setTop (mkF m 0 #[rv b62, iv p0] [])) t → Steps p.tables e below (s₁.setTop (entryFrame m #[(.ref b62), (.int p0)] 2)) t := fun t k => castTop (ef_16 m b62 p0) k
  have K0 : Keep h0 h0 [b62] := Keep.refl h0 [b62]
  have pre1095 : ∀ t, Steps p.tables e below (s₁.setTop (mkF m 1 #[rv b62, iv p0] [(.ref b62)])) t → Steps p.tables e below (s₁.setTop (entryFrame m #[(.ref b62), (.int p0)] 2)) t := fun t kt => by
    refine pre0 _ ?_
    show Steps p.tables e below (s₁.setTop (mkF m 0 #[rv b62, iv p0] [])) _
    refine XS.aloadN X0.here hx rfl (hb hby d6_0) rfl rfl ?_
    exact kt
  obtain ⟨T1096, X1096, e1096, st1096⟩ := getF X0 hx hZ hown (host := "") (Or.inl (W 11 rfl)) Via.refl e0 Fi3 (g := (mkF m 1 #[rv b62, iv p0] [(.ref b62)])) rfl rfl (hb hby d6_1)
  have pre1097 : ∀ t, Steps p.tables e below (T1096.setTop (mkF m 4 #[rv b62, iv p0] [(.ref b109_68)])) t → Steps p.tables e below (s₁.setTop (entryFrame m #[(.ref b62), (.int p0)] 2)) t := fun t kt => pre1095 _ (st1096 _ kt)
  obtain ⟨c1098, Ar1098, -, S1098, M1098, -, -⟩ := id Fi2
  have pre1099 : ∀ t, Steps p.tables e below (T1096.setTop (mkF m 18 #[rv b62, iv p0] [(.int (0 : Int32)), (.ref b62)])) t → Steps p.tables e below (s₁.setTop (entryFrame m #[(.ref b62), (.int p0)] 2)) t := fun t kt => by
    refine pre1097 _ ?_
    show Steps p.tables e below (T1096.setTop (mkF m 4 #[rv b62, iv p0] [(.ref b109_68)])) _
    refine X1096.arraylength hx (by rw [e1096]; exact Ar1098.1) (State.isArrayOf_alike hZ.alike Ar1098.2.1) (g := (mkF m 4 #[rv b62, iv p0] [(.ref b109_68)])) rfl rfl (hb hby d6_4) _ ?_
    rw [len_of S1098 M1098]
    show Steps p.tables e below (T1096.setTop (mkF m 5 #[rv b62, iv p0] [(.int (16 : Int32))])) _
    refine XS.iloadN X1096.here hx rfl (hb hby d6_5) rfl ?_
    show Steps p.tables e below (T1096.setTop (mkF m 6 #[rv b62, iv p0] [(.int p0), (.int (16 : Int32))])) _
    refine XS.icmpYes X1096.here hx rfl (pc0 := 6) (pc' := 16) rfl (hb hby d6_6) rfl (XT.ii_le_t q1) (by decide) (by decide) ?_
    show Steps p.tables e below (T1096.setTop (mkF m 16 #[rv b62, iv p0] [])) _
    refine XS.aloadN X1096.here hx rfl (hb hby d6_16) rfl rfl ?_
    show Steps p.tables e below (T1096.setTop (mkF m 17 #[rv b62, iv p0] [(.ref b62)])) _
    refine XS.iconst X1096.here hx rfl (hb hby d6_17) ?_
    exact kt
  obtain ⟨T1100, h1100, X1100, e1100, W1100, st1100⟩ := putF X1096 hx hZ hown (host := "") (Or.inl (W 25 rfl)) Via.refl e1096 Fi1 Fi0 (Or.inl (W 26 rfl)) (W 1 rfl) (ty := .int) (by decide) rfl rfl (g := (mkF m 18 #[rv b62, iv p0] [(.int (0 : Int32)), (.ref b62)])) rfl rfl (hb hby d6_18)
  have pre1101 : ∀ t, Steps p.tables e below (T1100.setTop (mkF m 21 #[rv b62, iv p0] [])) t → Steps p.tables e below (s₁.setTop (entryFrame m #[(.ref b62), (.int p0)] 2)) t := fun t kt => pre1099 _ (st1100 _ kt)
  have N1100 := Fr.snoc X1100 N0 g_b62
  have O1100 := O0.wr W1100 g_b62
  have K1100 : Keep h0 h1100 [b62] := K0.wr W1100 (Or.inl (List.mem_of_getElem? (i := 0) rfl))
  have F1102 := Fi0.wr W1100
  have F1103 := Fi2.other W1100 q0
  have F1104 := Fi3.other W1100 (Or.inr (slot_ne (Or.inl (W 12 rfl)) (Or.inl (W 26 rfl)) (by decide) (t := (.array (.object "java/lang/Object"))) (t' := .int) (by decide) (by decide)))
  have F1105 : Fld Z h1100 b62 "com/example/homethread/homethread/Items" "size" "I" (.int (0 : Int32)) := Fi1.same W1100
  obtain ⟨fs, hr, hrun, hended, hW, hsame⟩ := X1100.leave (v := none) (fun _ => rfl)
  refine ⟨_, _, pre1101 _ (X1100.returnOut hx Bd.returns (hb hby d6_21) hr), hrun, hended, _, _, rfl, ?_, ⟨_, rfl⟩, hW, hsame.mono (by decide) (by decide)⟩
  show Q_clearAndTrim6_7 Z b62 p0 k109_68 j125_0 j125_1 j125_2 b109_68 h0 n0 _ T1100.heap _
  rw [e1100]
  exact ⟨rfl, N1100, K1100, O1100, F1102, F1104, F1105⟩
def Q_add4_3 (Z : State) (b62 : Addr) (r_1153 : Addr) (k109_68 : ClassId) (j125_1 : Value) (j125_2 : Value) (b109_68 : Addr) (h0 : Heap) (n0 : Nat) (v : Option Value) (h : Heap) (L : List Loc) : Prop := v = none ∧ Fr n0 L ∧ Keep h0 h [b109_68, b62] ∧ Old Z n0 h ∧ Exa Z h b109_68 "[Ljava/lang/Object;" ∧ Exa Z h b62 "com/example/homethread/homethread/Items" ∧ Fld Z h b62 "com/example/homethread/homethread/Items" "slots" "[Ljava/lang/Object;" (.ref b109_68) ∧ Arv Z h b109_68 k109_68 (.object "java/lang/Object") (16 : Int32) [(.ref r_1153), j125_2, .null, .null, .null, .null, .null, .null, .null, .null, .null, .null, .null, .null, .null, .null] .null ∧ Fld Z h b62 "com/example/homethread/homethread/Items" "size" "I" (.int (1 : Int32))
set_option maxRecDepth 65536 in
set_option maxHeartbeats 40000000 in
theorem rm_add4_3 (l : Launch) (Z : State) (a0 : Array Value) (hw : ∀ d ∈ tables_1, d.before a0 Z = true) (ws : List Jvm.Cond) (b62 : Addr) (r_1153 : Addr) (k109_68 : ClassId) (j125_1 : Value) (j125_2 : Value) (b109_68 : Addr) (h0 : Heap) (n0 : Nat) (O0 : Old Z n0 h0) (g_b109_68 : n0 ≤ b109_68) (g_b62 : n0 ≤ b62) (Fi0 : Ovr Z k109_68 "java/lang/Object") (Fi1 : Arv Z h0 b109_68 k109_68 (.object "java/lang/Object") (16 : Int32) [j125_1, j125_2, .null, .null, .null, .null, .null, .null, .null, .null, .null, .null, .null, .null, .null, .null] .null) (Fi2 : Exa Z h0 b109_68 "[Ljava/lang/Object;") (Fi3 : Exa Z h0 b62 "com/example/homethread/homethread/Items") (Fi4 : Fld Z h0 b62 "com/example/homethread/homethread/Items" "slots" "[Ljava/lang/Object;" (.ref b109_68)) (Fi5 : Fld Z h0 b62 "com/example/homethread/homethread/Items" "size" "I" (.int (0 : Int32))) (Fi6 : Exa Z h0 r_1153 "java/lang/Integer") (q0 : ¬ (b109_68 = b62)) :
    MetFree l (⟨"com/example/homethread/homethread/Items", "add", "(Ljava/lang/Object;)V"⟩ : MethodName) (head1 (Jvm.Cond.code (⟨"com/example/homethread/homethread/Items", "add", "(Ljava/lang/Object;)V"⟩ : MethodName) prog_9_method_8_code 3 none :: ws) ({ frames := 0, cells := 0, slots := 0, locals := 0 } : Room)) (fun a U => a = #[(.ref b62), (.ref r_1153)] ∧ Z.Warmed39 U.vm ∧ U.heap = h0) (fun _ _ _ _ _ => True) (fun _ U o U' => ∃ v L, o = .returned v ∧ Q_add4_3 Z b62 r_1153 k109_68 j125_1 j125_2 b109_68 h0 n0 v U'.heap L ∧ FrameEnd U o U' L ({ frames := 0, cells := 0, slots := 0, locals := 0 } : Room).cells ({ frames := 0, cells := 0, slots := 0, locals := 0 } : Room).slots) := by
  refine MetFree.of_bodySF (plainFor_of_name pn_9) hisR ?_
  intro p e s m args below meth c s₁ Bd hml0 hP hK
  have W := fun {d : Jvm.Cond} (i : Nat) (q : tables_1[i]? = some d) => hw d (List.mem_of_getElem? q)
  obtain ⟨rfl, hZ, hh⟩ := hP
  have hx := Bd.exec
  have hby := Bd.bytes
  have hml : c.maxLocals = 3 := hml0
  have hown : s.vm.findClass "com/example/homethread/homethread/Items" = some m.cls := findClass_of_methodNamed Bd.named
  have hnm := (name_of_methodNamed Bd.named Bd.method).1
  have X0 : Stand p l e ({ frames := 0, cells := 0, slots := 0, locals := 0 } : Room) s m #[(.ref b62), (.ref r_1153)] below meth c s₁ [] 0 0 := Stand.of_body Bd
  have e0 : s₁.heap = h0 := by rw [← hh, Bd.state]; rfl
  have N0 := Fr.nil n0
  have pre0 : ∀ t, Steps p.tables e below (s₁.setTop (mkF m 0 #[rv b62, rv r_1153, .unset] [])) t → Steps p.tables e below (s₁.setTop (entryFrame m #[(.ref b62), (.ref r_1153)] 3)) t := fun t k => castTop (ef_12 m b62 r_1153) k
  have K0 : Keep h0 h0 [b109_68, b62] := Keep.refl h0 [b109_68, b62]
  have pre1231 : ∀ t, Steps p.tables e below (s₁.setTop (mkF m 1 #[rv b62, rv r_1153, .unset] [(.ref b62)])) t → Steps p.tables e below (s₁.setTop (entryFrame m #[(.ref b62), (.ref r_1153)] 3)) t := fun t kt => by
    refine pre0 _ ?_
    show Steps p.tables e below (s₁.setTop (mkF m 0 #[rv b62, rv r_1153, .unset] [])) _
    refine XS.aloadN X0.here hx rfl (hb hby d4_0) rfl rfl ?_
    exact kt
  obtain ⟨T1232, X1232, e1232, st1232⟩ := getF X0 hx hZ hown (host := "") (Or.inl (W 25 rfl)) Via.refl e0 Fi5 (g := (mkF m 1 #[rv b62, rv r_1153, .unset] [(.ref b62)])) rfl rfl (hb hby d4_1)
  have pre1233 : ∀ t, Steps p.tables e below (T1232.setTop (mkF m 4 #[rv b62, rv r_1153, .unset] [(.int (0 : Int32))])) t → Steps p.tables e below (s₁.setTop (entryFrame m #[(.ref b62), (.ref r_1153)] 3)) t := fun t kt => pre1231 _ (st1232 _ kt)
  have pre1234 : ∀ t, Steps p.tables e below (T1232.setTop (mkF m 5 #[rv b62, rv r_1153, .unset] [(.ref b62), (.int (0 : Int32))])) t → Steps p.tables e below (s₁.setTop (entryFrame m #[(.ref b62), (.ref r_1153)] 3)) t := fun t kt => by
    refine pre1233 _ ?_
    show Steps p.tables e below (T1232.setTop (mkF m 4 #[rv b62, rv r_1153, .unset] [(.int (0 : Int32))])) _
    refine XS.aloadN X1232.here hx rfl (hb hby d4_4) rfl rfl ?_
    exact kt
  obtain ⟨T1235, X1235, e1235, st1235⟩ := getF X1232 hx hZ hown (host := "") (Or.inl (W 11 rfl)) Via.refl e1232 Fi4 (g := (mkF m 5 #[rv b62, rv r_1153, .unset] [(.ref b62), (.int (0 : Int32))])) rfl rfl (hb hby d4_5)
  have pre1236 : ∀ t, Steps p.tables e below (T1235.setTop (mkF m 8 #[rv b62, rv r_1153, .unset] [(.ref b109_68), (.int (0 : Int32))])) t → Steps p.tables e below (s₁.setTop (entryFrame m #[(.ref b62), (.ref r_1153)] 3)) t := fun t kt => pre1234 _ (st1235 _ kt)
  obtain ⟨c1237, Ar1237, -, S1237, M1237, -, -⟩ := id Fi1
  have pre1238 : ∀ t, Steps p.tables e below (T1235.setTop (mkF m 51 #[rv b62, rv r_1153, .unset] [(.ref b62)])) t → Steps p.tables e below (s₁.setTop (entryFrame m #[(.ref b62), (.ref r_1153)] 3)) t := fun t kt => by
    refine pre1236 _ ?_
    show Steps p.tables e below (T1235.setTop (mkF m 8 #[rv b62, rv r_1153, .unset] [(.ref b109_68), (.int (0 : Int32))])) _
    refine X1235.arraylength hx (by rw [e1235]; exact Ar1237.1) (State.isArrayOf_alike hZ.alike Ar1237.2.1) (g := (mkF m 8 #[rv b62, rv r_1153, .unset] [(.ref b109_68), (.int (0 : Int32))])) rfl rfl (hb hby d4_8) _ ?_
    rw [len_of S1237 M1237]
    show Steps p.tables e below (T1235.setTop (mkF m 9 #[rv b62, rv r_1153, .unset] [(.int (16 : Int32)), (.int (0 : Int32))])) _
    refine XS.icmpYes X1235.here hx rfl (pc0 := 9) (pc' := 50) rfl (hb hby d4_9) rfl (XT.ii_ne_t (by decide)) (by decide) (by decide) ?_
    show Steps p.tables e below (T1235.setTop (mkF m 50 #[rv b62, rv r_1153, .unset] [])) _
    refine XS.aloadN X1235.here hx rfl (hb hby d4_50) rfl rfl ?_
    exact kt
  obtain ⟨T1239, X1239, e1239, st1239⟩ := getF X1235 hx hZ hown (host := "") (Or.inl (W 11 rfl)) Via.refl e1235 Fi4 (g := (mkF m 51 #[rv b62, rv r_1153, .unset] [(.ref b62)])) rfl rfl (hb hby d4_51)
  have pre1240 : ∀ t, Steps p.tables e below (T1239.setTop (mkF m 54 #[rv b62, rv r_1153, .unset] [(.ref b109_68)])) t → Steps p.tables e below (s₁.setTop (entryFrame m #[(.ref b62), (.ref r_1153)] 3)) t := fun t kt => pre1238 _ (st1239 _ kt)
  have pre1241 : ∀ t, Steps p.tables e below (T1239.setTop (mkF m 55 #[rv b62, rv r_1153, .unset] [(.ref b62), (.ref b109_68)])) t → Steps p.tables e below (s₁.setTop (entryFrame m #[(.ref b62), (.ref r_1153)] 3)) t := fun t kt => by
    refine pre1240 _ ?_
    show Steps p.tables e below (T1239.setTop (mkF m 54 #[rv b62, rv r_1153, .unset] [(.ref b109_68)])) _
    refine XS.aloadN X1239.here hx rfl (hb hby d4_54) rfl rfl ?_
    exact kt
  obtain ⟨T1242, X1242, e1242, st1242⟩ := getF X1239 hx hZ hown (host := "") (Or.inl (W 25 rfl)) Via.refl e1239 Fi5 (g := (mkF m 55 #[rv b62, rv r_1153, .unset] [(.ref b62), (.ref b109_68)])) rfl rfl (hb hby d4_55)
  have pre1243 : ∀ t, Steps p.tables e below (T1242.setTop (mkF m 58 #[rv b62, rv r_1153, .unset] [(.int (0 : Int32)), (.ref b109_68)])) t → Steps p.tables e below (s₁.setTop (entryFrame m #[(.ref b62), (.ref r_1153)] 3)) t := fun t kt => pre1241 _ (st1242 _ kt)
  have pre1244 : ∀ t, Steps p.tables e below (T1242.setTop (mkF m 59 #[rv b62, rv r_1153, .unset] [(.ref r_1153), (.int (0 : Int32)), (.ref b109_68)])) t → Steps p.tables e below (s₁.setTop (entryFrame m #[(.ref b62), (.ref r_1153)] 3)) t := fun t kt => by
    refine pre1243 _ ?_
    show Steps p.tables e below (T1242.setTop (mkF m 58 #[rv b62, rv r_1153, .unset] [(.int (0 : Int32)), (.ref b109_68)])) _
    refine XS.aloadN X1242.here hx rfl (hb hby d4_58) rfl rfl ?_
    exact kt
  obtain ⟨c1245, Ar1245, q1245, S1245, M1245, H1245, G1245⟩ := id Fi1
  have i1245 : ¬ ((0 : Int32) < 0 ∨ c1245.slots.size ≤ ((0 : Int32)).toNatClampNeg) := inb_of S1245 ⟨by decide, by decide⟩
  obtain ⟨T1246, h1246, X1246, e1246, W1246, st1246⟩ := stR X1242 hx hZ e1242 Ar1245 (j := (0 : Int32)) i1245 rfl (Sto.ofV Ar1245 q1245 Fi0 (Ins.of_exa Fi6 (W 27 rfl))) (g := (mkF m 59 #[rv b62, rv r_1153, .unset] [(.ref r_1153), (.int (0 : Int32)), (.ref b109_68)])) rfl rfl (hb hby d4_59)
  have pre1247 : ∀ t, Steps p.tables e below (T1246.setTop (mkF m 60 #[rv b62, rv r_1153, .unset] [])) t → Steps p.tables e below (s₁.setTop (entryFrame m #[(.ref b62), (.ref r_1153)] 3)) t := fun t kt => pre1244 _ (st1246 _ kt)
  have N1246 := Fr.snoc X1246 N0 g_b109_68
  have O1246 := O0.wr W1246 g_b109_68
  have K1246 : Keep h0 h1246 [b109_68, b62] := K0.wr W1246 (Or.inl (List.mem_of_getElem? (i := 0) rfl))
  have F1248 := Fi2.wr W1246
  have F1249 := Fi3.wr W1246
  have F1250 := Fi4.other W1246 (Or.inl (fun q => q0 q.symm))
  have F1251 := Fi5.other W1246 (Or.inl (fun q => q0 q.symm))
  have F1252 := Fi6.wr W1246
  have F1253 : Arv Z h1246 b109_68 k109_68 (.object "java/lang/Object") (16 : Int32) [(.ref r_1153), j125_2, .null, .null, .null, .null, .null, .null, .null, .null, .null, .null, .null, .null, .null, .null] .null := Arv.set Ar1245 q1245 S1245 M1245 H1245 G1245 rfl W1246 0 rfl (Nat.le_of_ble_eq_true rfl)
  have pre1254 : ∀ t, Steps p.tables e below (T1246.setTop (mkF m 62 #[rv b62, rv r_1153, .unset] [(.ref b62), (.ref b62)])) t → Steps p.tables e below (s₁.setTop (entryFrame m #[(.ref b62), (.ref r_1153)] 3)) t := fun t kt => by
    refine pre1247 _ ?_
    show Steps p.tables e below (T1246.setTop (mkF m 60 #[rv b62, rv r_1153, .unset] [])) _
    refine XS.aloadN X1246.here hx rfl (hb hby d4_60) rfl rfl ?_
    show Steps p.tables e below (T1246.setTop (mkF m 61 #[rv b62, rv r_1153, .unset] [(.ref b62)])) _
    refine XS.dup X1246.here hx rfl (hb hby d4_61) rfl rfl ?_
    exact kt
  obtain ⟨T1255, X1255, e1255, st1255⟩ := getF X1246 hx hZ hown (host := "") (Or.inl (W 25 rfl)) Via.refl e1246 F1251 (g := (mkF m 62 #[rv b62, rv r_1153, .unset] [(.ref b62), (.ref b62)])) rfl rfl (hb hby d4_62)
  have pre1256 : ∀ t, Steps p.tables e below (T1255.setTop (mkF m 65 #[rv b62, rv r_1153, .unset] [(.int (0 : Int32)), (.ref b62)])) t → Steps p.tables e below (s₁.setTop (entryFrame m #[(.ref b62), (.ref r_1153)] 3)) t := fun t kt => pre1254 _ (st1255 _ kt)
  have pre1257 : ∀ t, Steps p.tables e below (T1255.setTop (mkF m 67 #[rv b62, rv r_1153, .unset] [(.int (1 : Int32)), (.ref b62)])) t → Steps p.tables e below (s₁.setTop (entryFrame m #[(.ref b62), (.ref r_1153)] 3)) t := fun t kt => by
    refine pre1256 _ ?_
    show Steps p.tables e below (T1255.setTop (mkF m 65 #[rv b62, rv r_1153, .unset] [(.int (0 : Int32)), (.ref b62)])) _
    refine XS.iconst X1255.here hx rfl (hb hby d4_65) ?_
    show Steps p.tables e below (T1255.setTop (mkF m 66 #[rv b62, rv r_1153, .unset] [(.int (1 : Int32)), (.int (0 : Int32)), (.ref b62)])) _
    refine XS.iadd X1255.here hx rfl (hb hby d4_66) rfl ?_
    show  Steps p.tables e below (T1255.setTop (mkF m 67 #[rv b62, rv r_1153, .unset] [(.int ((0 : Int32) + (1 : Int32))), (.ref b62)])) _
    rw [(by decide : (((0 : Int32) + (1 : Int32)) : Int32) = (1 : Int32))]
    exact kt
  obtain ⟨T1258, h1258, X1258, e1258, W1258, st1258⟩ := putF X1255 hx hZ hown (host := "") (Or.inl (W 25 rfl)) Via.refl e1255 F1251 F1249 (Or.inl (W 26 rfl)) (W 1 rfl) (ty := .int) (by decide) rfl rfl (g := (mkF m 67 #[rv b62, rv r_1153, .unset] [(.int (1 : Int32)), (.ref b62)])) rfl rfl (hb hby d4_67)
  have pre1259 : ∀ t, Steps p.tables e below (T1258.setTop (mkF m 70 #[rv b62, rv r_1153, .unset] [])) t → Steps p.tables e below (s₁.setTop (entryFrame m #[(.ref b62), (.ref r_1153)] 3)) t := fun t kt => pre1257 _ (st1258 _ kt)
  have N1258 := Fr.snoc X1258 N1246 g_b62
  have O1258 := O1246.wr W1258 g_b62
  have K1258 : Keep h0 h1258 [b109_68, b62] := K1246.wr W1258 (Or.inl (List.mem_of_getElem? (i := 1) rfl))
  have F1260 := F1248.wr W1258
  have F1261 := F1249.wr W1258
  have F1262 := F1250.other W1258 (Or.inr (slot_ne (Or.inl (W 12 rfl)) (Or.inl (W 26 rfl)) (by decide) (t := (.array (.object "java/lang/Object"))) (t' := .int) (by decide) (by decide)))
  have F1263 := F1252.wr W1258
  have F1264 := F1253.other W1258 q0
  have F1265 : Fld Z h1258 b62 "com/example/homethread/homethread/Items" "size" "I" (.int (1 : Int32)) := F1251.same W1258
  obtain ⟨fs, hr, hrun, hended, hW, hsame⟩ := X1258.leave (v := none) (fun _ => rfl)
  refine ⟨_, _, pre1259 _ (X1258.returnOut hx Bd.returns (hb hby d4_70) hr), hrun, hended, _, _, rfl, ?_, ⟨_, rfl⟩, hW, hsame.mono (by decide) (by decide)⟩
  show Q_add4_3 Z b62 r_1153 k109_68 j125_1 j125_2 b109_68 h0 n0 _ T1258.heap _
  rw [e1258]
  exact ⟨rfl, N1258, K1258, O1258, F1260, F1261, F1262, F1264, F1265⟩
def Q_law (Z : State) (p0 : Int32) (p1 : Int32) (p2 : Int32) (ac : Addr) (mr : Addr) (a_NO_SLOTS : Addr) (kn : ClassId) (h0 : Heap) (n0 : Nat) (v : Option Value) (h : Heap) (L : List Loc) : Prop := v = some (.int (1 : Int32)) ∧ Fr n0 L
set_option maxRecDepth 65536 in
set_option maxHeartbeats 40000000 in
theorem rm_law (l : Launch) (Z : State) (a0 : Array Value) (hw : ∀ d ∈ tables_1, d.before a0 Z = true) (ws : List Jvm.Cond) (p0 : Int32) (p1 : Int32) (p2 : Int32) (ac : Addr) (mr : Addr) (a_NO_SLOTS : Addr) (kn : ClassId) (h0 : Heap) (n0 : Nat) (O0 : Old Z n0 h0) (G0 : Sta Z Z.heap "java/lang/Integer$IntegerCache" "high" "I" (.int (127 : Int32))) (G1 : Sta Z Z.heap "java/lang/Integer$IntegerCache" "cache" "[Ljava/lang/Integer;" (.ref ac)) (G2 : own_cache Z ac) (G3 : own_mir Z "[Ljava/lang/Object;" mr) (G4 : Sta Z Z.heap "com/example/homethread/homethread/Items" "NO_SLOTS" "[Ljava/lang/Object;" (.ref a_NO_SLOTS)) (G5 : Exa Z Z.heap a_NO_SLOTS "[Ljava/lang/Object;") (G6 : Arv Z Z.heap a_NO_SLOTS kn (.object "java/lang/Object") (0 : Int32) [] .null) :
    MetFree l x (head1 (Jvm.Cond.code x code maxLocals ret :: ws) room_1) (fun a U => a = #[(.int p0), (.int p1), (.int p2)] ∧ Z.Warmed39 U.vm ∧ U.heap = h0) (fun _ _ _ _ _ => True) (fun _ U o U' => ∃ v L, o = .returned v ∧ Q_law Z p0 p1 p2 ac mr a_NO_SLOTS kn h0 n0 v U'.heap L ∧ FrameEnd U o U' L room_1.cells room_1.slots) := by
  refine MetFree.of_bodySF (plainFor_of_name pn_7) hisR ?_
  intro p e s m args below meth c s₁ Bd hml0 hP hK
  have W := fun {d : Jvm.Cond} (i : Nat) (q : tables_1[i]? = some d) => hw d (List.mem_of_getElem? q)
  obtain ⟨rfl, hZ, hh⟩ := hP
  have hx := Bd.exec
  have hby := Bd.bytes
  have hml : c.maxLocals = 13 := hml0
  have hown : s.vm.findClass "com/example/homethread/homethread/ItemsClearAndTrimPinLaw" = some m.cls := findClass_of_methodNamed Bd.named
  have hnm := (name_of_methodNamed Bd.named Bd.method).1
  have X0 : Stand p l e room_1 s m #[(.int p0), (.int p1), (.int p2)] below meth c s₁ [] 0 0 := Stand.of_body Bd
  have e0 : s₁.heap = h0 := by rw [← hh, Bd.state]; rfl
  have N0 := Fr.nil n0
  have pre0 : ∀ t, Steps p.tables e below (s₁.setTop (mkF m 0 #[iv p0, iv p1, iv p2, .unset, .unset, .unset, .unset, .unset, .unset, .unset, .unset, .unset, .unset] [])) t → Steps p.tables e below (s₁.setTop (entryFrame m #[(.int p0), (.int p1), (.int p2)] maxLocals)) t := fun t k => castTop (ef_8 m p0 p1 p2) k
  have K0 : Keep h0 h0 [] := Keep.refl h0 []
  obtain ⟨T62, h62, X62, e62, E62, A62, D62, -, st62⟩ := newO X0 hx hZ hown (W 0 rfl) (W 1 rfl) (W 2 rfl) e0 (g := (mkF m 0 #[iv p0, iv p1, iv p2, .unset, .unset, .unset, .unset, .unset, .unset, .unset, .unset, .unset, .unset] [])) rfl (hb hby at_0) (by decide) (by decide)
  obtain ⟨b62, g62⟩ : ∃ z, z = h0.size := ⟨_, rfl⟩
  rw [← g62] at A62 D62 st62
  have pre63 : ∀ t, Steps p.tables e below (T62.setTop (mkF m 3 #[iv p0, iv p1, iv p2, .unset, .unset, .unset, .unset, .unset, .unset, .unset, .unset, .unset, .unset] [(.ref b62)])) t → Steps p.tables e below (s₁.setTop (entryFrame m #[(.int p0), (.int p1), (.int p2)] maxLocals)) t := fun t kt => pre0 _ (st62 _ kt)
  have O62 := O0.ext E62
  have K62 : Keep h0 h62 [] := K0.ext E62
  have g_b62 : n0 ≤ b62 := Nat.le_trans (Nat.le_trans (Nat.le_of_eq O0.1.symm) O0.2.1) (Nat.le_of_eq g62.symm)
  have sz_b62 : h0.size ≤ b62 := Nat.le_trans K0.1 (Nat.le_of_eq g62.symm)
  have ne_a_NO_SLOTS_b62 : a_NO_SLOTS ≠ b62 := Nat.ne_of_lt (Nat.lt_of_lt_of_le (G5.ext O0.2).lt (Nat.le_of_eq g62.symm))
  have F64 : Exa Z h62 b62 "com/example/homethread/homethread/Items" := A62
  have F65 : Fld Z h62 b62 "com/example/homethread/homethread/Items" "slots" "[Ljava/lang/Object;" .null := D62 (Or.inl (W 12 rfl)) (ty := (.array (.object "java/lang/Object"))) (by decide)
  have F66 : Fld Z h62 b62 "com/example/homethread/homethread/Items" "size" "I" (.int (0 : Int32)) := D62 (Or.inl (W 26 rfl)) (ty := .int) (by decide)
  have pre67 : ∀ t, Steps p.tables e below (T62.setTop (mkF m 4 #[iv p0, iv p1, iv p2, .unset, .unset, .unset, .unset, .unset, .unset, .unset, .unset, .unset, .unset] [(.ref b62), (.ref b62)])) t → Steps p.tables e below (s₁.setTop (entryFrame m #[(.int p0), (.int p1), (.int p2)] maxLocals)) t := fun t kt => by
    refine pre63 _ ?_
    show Steps p.tables e below (T62.setTop (mkF m 3 #[iv p0, iv p1, iv p2, .unset, .unset, .unset, .unset, .unset, .unset, .unset, .unset, .unset, .unset] [(.ref b62)])) _
    refine XS.dup X62.here hx rfl (hb hby at_3) rfl rfl ?_
    exact kt
  obtain ⟨_, _, ⟨T68, L68, k68, n68⟩, -, X68, ⟨Lc68, hQ68, l68, y68, z68⟩, st68⟩ := X62.specialBack hx (y := (⟨"com/example/homethread/homethread/Items", "<init>", "()V"⟩ : MethodName)) rfl hown (mvT hZ (W 3 rfl)) (mvT hZ (W 4 rfl)) (mvT hZ (W 5 rfl)) (by decide) (backOf (W := 1) (rm_init1_0 l Z a0 hw [] b62 h62 n0 O62 g_b62 F64 F65 F66) hZ (W 5 rfl) (W 2 rfl) (by decide) (by decide)) (g := (mkF m 4 #[iv p0, iv p1, iv p2, .unset, .unset, .unset, .unset, .unset, .unset, .unset, .unset, .unset, .unset] [(.ref b62), (.ref b62)])) rfl (by rw [hml]; rfl) (Steps.refl _) (a := b62) (argsL := []) (rest := [(.ref b62)]) (lenOf pd_4 rfl) rfl (by show 2 * 0 + _ ≤ _; exact Nat.le_of_eq rfl) (hb hby at_4) (fun _ _ => ⟨rfl, e62, (by decide : 1 + 1 ≤ _), (by decide : 2 + 16 ≤ _)⟩)
  dsimp only [Pt.U, Pt.locs, Pt.cells, Pt.slots] at X68 l68 y68 z68 st68 hQ68
  replace l68 := l68.symm
  replace y68 : 2 = k68 := y68.symm
  replace z68 : 18 = n68 := z68.symm
  subst l68 y68 z68
  obtain ⟨b109_68, k109_68, rfl, M68, Kc68, O68, J68_0, J68_1, J68_2, J68_3, J68_4, J68_5, P68_0⟩ := hQ68
  obtain ⟨h68, e68⟩ : ∃ z, T68.heap = z := ⟨_, rfl⟩
  rw [e68] at Kc68 O68 J68_0 J68_1 J68_2 J68_4 J68_5
  try rw [e68] at P68_0
  have N68 := Fr.app N0 M68
  have K68 : Keep h0 h68 [] := K62.trans Kc68 (own_all1 (Or.inr sz_b62))
  have pre123 : ∀ t, Steps p.tables e below (T68.setTop (mkF m 7 #[iv p0, iv p1, iv p2, .unset, .unset, .unset, .unset, .unset, .unset, .unset, .unset, .unset, .unset] [(.ref b62)])) t → Steps p.tables e below (s₁.setTop (entryFrame m #[(.int p0), (.int p1), (.int p2)] maxLocals)) t := fun t kt => pre67 _ (st68.trans kt)
  have sz_b109_68 : h0.size ≤ b109_68 := Nat.le_trans K62.1 P68_0
  have ne_a_NO_SLOTS_b109_68 : a_NO_SLOTS ≠ b109_68 := Nat.ne_of_lt (Nat.lt_of_lt_of_le (G5.ext O62.2).lt P68_0)
  have ne_b62_b109_68 : b62 ≠ b109_68 := Nat.ne_of_lt (Nat.lt_of_lt_of_le F64.lt P68_0)
  have g_b109_68 : n0 ≤ b109_68 := Nat.le_trans (Nat.le_trans (Nat.le_of_eq O0.1.symm) O0.2.1) sz_b109_68
  have pre124 : ∀ t, Steps p.tables e below (T68.setTop (mkF m 8 #[iv p0, iv p1, iv p2, rv b62, .unset, .unset, .unset, .unset, .unset, .unset, .unset, .unset, .unset] [])) t → Steps p.tables e below (s₁.setTop (entryFrame m #[(.int p0), (.int p1), (.int p2)] maxLocals)) t := fun t kt => by
    refine pre123 _ ?_
    show Steps p.tables e below (T68.setTop (mkF m 7 #[iv p0, iv p1, iv p2, .unset, .unset, .unset, .unset, .unset, .unset, .unset, .unset, .unset, .unset] [(.ref b62)])) _
    refine XS.astoreN X68.here hx rfl (hb hby at_7) rfl rfl (l' := #[iv p0, iv p1, iv p2, rv b62, .unset, .unset, .unset, .unset, .unset, .unset, .unset, .unset, .unset]) rfl ?_
    exact kt
  obtain ⟨T125, h125, Lj125, j125_0, j125_1, j125_2, X125, e125, N125, K125, O125, F381, F382, F383, F384, F385, F386, pre125⟩ : ∃ (T125 : State) (h125 : Heap) (Lj125 : List Loc) (j125_0 : Int32) (j125_1 : Value) (j125_2 : Value), Stand p l e room_1 s m #[(.int p0), (.int p1), (.int p2)] below meth c T125 Lj125 4 20 ∧ T125.heap = h125 ∧ Fr n0 Lj125 ∧ Keep h0 h125 [] ∧ Old Z n0 h125 ∧ Exa Z h125 b62 "com/example/homethread/homethread/Items" ∧ Fld Z h125 b62 "com/example/homethread/homethread/Items" "size" "I" (.int j125_0) ∧ Arv Z h125 b109_68 k109_68 (.object "java/lang/Object") (16 : Int32) [j125_1, j125_2, .null, .null, .null, .null, .null, .null, .null, .null, .null, .null, .null, .null, .null, .null] .null ∧ Ovr Z k109_68 "java/lang/Object" ∧ Exa Z h125 b109_68 "[Ljava/lang/Object;" ∧ Fld Z h125 b62 "com/example/homethread/homethread/Items" "slots" "[Ljava/lang/Object;" (.ref b109_68) ∧ ∀ t, Steps p.tables e below (T125.setTop (mkF m 36 #[iv p0, iv p1, iv p2, rv b62, .unset, .unset, .unset, .unset, .unset, .unset, .unset, .unset, .unset] [])) t → Steps p.tables e below (s₁.setTop (entryFrame m #[(.int p0), (.int p1), (.int p2)] maxLocals)) t := by
    have pre126 : ∀ t, Steps p.tables e below (T68.setTop (mkF m 11 #[iv p0, iv p1, iv p2, rv b62, .unset, .unset, .unset, .unset, .unset, .unset, .unset, .unset, .unset] [(.int (p2 &&& (1 : Int32)))])) t → Steps p.tables e below (s₁.setTop (entryFrame m #[(.int p0), (.int p1), (.int p2)] maxLocals)) t := fun t kt => by
      refine pre124 _ ?_
      show Steps p.tables e below (T68.setTop (mkF m 8 #[iv p0, iv p1, iv p2, rv b62, .unset, .unset, .unset, .unset, .unset, .unset, .unset, .unset, .unset] [])) _
      refine XS.iloadN X68.here hx rfl (hb hby at_8) rfl ?_
      show Steps p.tables e below (T68.setTop (mkF m 9 #[iv p0, iv p1, iv p2, rv b62, .unset, .unset, .unset, .unset, .unset, .unset, .unset, .unset, .unset] [(.int p2)])) _
      refine XS.iconst X68.here hx rfl (hb hby at_9) ?_
      show Steps p.tables e below (T68.setTop (mkF m 10 #[iv p0, iv p1, iv p2, rv b62, .unset, .unset, .unset, .unset, .unset, .unset, .unset, .unset, .unset] [(.int (1 : Int32)), (.int p2)])) _
      refine XS.iand X68.here hx rfl (hb hby at_10) rfl ?_
      exact kt
    by_cases hc127 : (p2 &&& (1 : Int32)) = (0 : Int32)
    · have pre128 : ∀ t, Steps p.tables e below (T68.setTop (mkF m 25 #[iv p0, iv p1, iv p2, rv b62, .unset, .unset, .unset, .unset, .unset, .unset, .unset, .unset, .unset] [(.int (p2 &&& (2 : Int32)))])) t → Steps p.tables e below (s₁.setTop (entryFrame m #[(.int p0), (.int p1), (.int p2)] maxLocals)) t := fun t kt => by
        refine pre126 _ ?_
        show Steps p.tables e below (T68.setTop (mkF m 11 #[iv p0, iv p1, iv p2, rv b62, .unset, .unset, .unset, .unset, .unset, .unset, .unset, .unset, .unset] [(.int (p2 &&& (1 : Int32)))])) _
        refine XS.ifYes X68.here hx rfl (pc0 := 11) (pc' := 22) rfl (hb hby at_11) rfl (XT.i0_eq_t hc127) (by decide) (by decide) ?_
        show Steps p.tables e below (T68.setTop (mkF m 22 #[iv p0, iv p1, iv p2, rv b62, .unset, .unset, .unset, .unset, .unset, .unset, .unset, .unset, .unset] [])) _
        refine XS.iloadN X68.here hx rfl (hb hby at_22) rfl ?_
        show Steps p.tables e below (T68.setTop (mkF m 23 #[iv p0, iv p1, iv p2, rv b62, .unset, .unset, .unset, .unset, .unset, .unset, .unset, .unset, .unset] [(.int p2)])) _
        refine XS.iconst X68.here hx rfl (hb hby at_23) ?_
        show Steps p.tables e below (T68.setTop (mkF m 24 #[iv p0, iv p1, iv p2, rv b62, .unset, .unset, .unset, .unset, .unset, .unset, .unset, .unset, .unset] [(.int (2 : Int32)), (.int p2)])) _
        refine XS.iand X68.here hx rfl (hb hby at_24) rfl ?_
        exact kt
      by_cases hc129 : (p2 &&& (2 : Int32)) = (0 : Int32)
      · have pre130 : ∀ t, Steps p.tables e below (T68.setTop (mkF m 36 #[iv p0, iv p1, iv p2, rv b62, .unset, .unset, .unset, .unset, .unset, .unset, .unset, .unset, .unset] [])) t → Steps p.tables e below (s₁.setTop (entryFrame m #[(.int p0), (.int p1), (.int p2)] maxLocals)) t := fun t kt => by
          refine pre128 _ ?_
          show Steps p.tables e below (T68.setTop (mkF m 25 #[iv p0, iv p1, iv p2, rv b62, .unset, .unset, .unset, .unset, .unset, .unset, .unset, .unset, .unset] [(.int (p2 &&& (2 : Int32)))])) _
          refine XS.ifYes X68.here hx rfl (pc0 := 25) (pc' := 36) rfl (hb hby at_25) rfl (XT.i0_eq_t hc129) (by decide) (by decide) ?_
          exact kt
        exact ⟨_, _, _, (0 : Int32), .null, .null, X68.more (by decide) (by decide), e68, N68, K68, O68, J68_0, J68_1, J68_2, J68_3, J68_4, J68_5, pre130⟩
      · have pre131 : ∀ t, Steps p.tables e below (T68.setTop (mkF m 30 #[iv p0, iv p1, iv p2, rv b62, .unset, .unset, .unset, .unset, .unset, .unset, .unset, .unset, .unset] [(.int p0), (.ref b62)])) t → Steps p.tables e below (s₁.setTop (entryFrame m #[(.int p0), (.int p1), (.int p2)] maxLocals)) t := fun t kt => by
          refine pre128 _ ?_
          show Steps p.tables e below (T68.setTop (mkF m 25 #[iv p0, iv p1, iv p2, rv b62, .unset, .unset, .unset, .unset, .unset, .unset, .unset, .unset, .unset] [(.int (p2 &&& (2 : Int32)))])) _
          refine XS.ifNo X68.here hx rfl (hb hby at_25) rfl (XT.i0_eq_f hc129) ?_
          show Steps p.tables e below (T68.setTop (mkF m 28 #[iv p0, iv p1, iv p2, rv b62, .unset, .unset, .unset, .unset, .unset, .unset, .unset, .unset, .unset] [])) _
          refine XS.aloadN X68.here hx rfl (hb hby at_28) rfl rfl ?_
          show Steps p.tables e below (T68.setTop (mkF m 29 #[iv p0, iv p1, iv p2, rv b62, .unset, .unset, .unset, .unset, .unset, .unset, .unset, .unset, .unset] [(.ref b62)])) _
          refine XS.iloadN X68.here hx rfl (hb hby at_29) rfl ?_
          exact kt
        obtain ⟨_, _, ⟨T132, L132, k132, n132⟩, -, X132, ⟨Lc132, hQ132, l132, y132, z132⟩, st132⟩ := Jvm.LawKit.callS X68 hx (y := (⟨"java/lang/Integer", "valueOf", "(I)Ljava/lang/Integer;"⟩ : MethodName)) hown (mvT hZ (W 13 rfl)) (mvT hZ (W 14 rfl)) (mvT hZ (W 15 rfl)) (mvT hZ (W 16 rfl)) (by decide) (backOf (W := 1) (rm_valueOf l Z a0 hw [] p0 ac h68 n0 O68 G0 G1 G2) hZ (W 16 rfl) (W 15 rfl) (by decide) (by decide)) (g := (mkF m 30 #[iv p0, iv p1, iv p2, rv b62, .unset, .unset, .unset, .unset, .unset, .unset, .unset, .unset, .unset] [(.int p0), (.ref b62)])) rfl (by rw [hml]; rfl) (argsL := [(.int p0)]) (rest := [(.ref b62)]) (lenOf pd_11 rfl) rfl (by show 2 * 0 + _ ≤ _; exact Nat.le_of_eq rfl) (hb hby at_30) (fun _ _ => ⟨rfl, e68, (by decide : 2 + 1 ≤ _), (by decide : 18 + 1 ≤ _)⟩)
        dsimp only [Pt.U, Pt.locs, Pt.cells, Pt.slots] at X132 l132 y132 z132 st132 hQ132
        replace l132 := l132.symm
        replace y132 : 3 = k132 := y132.symm
        replace z132 : 19 = n132 := z132.symm
        subst l132 y132 z132
        obtain ⟨r_132, rfl, M132, Kc132, O132, J132_0⟩ := hQ132
        obtain ⟨h132, e132⟩ : ∃ z, T132.heap = z := ⟨_, rfl⟩
        rw [e132] at Kc132 O132 J132_0
        have N132 := Fr.app N68 M132
        have K132 : Keep h0 h132 [] := K68.trans Kc132 (own_all0 )
        have pre133 : ∀ t, Steps p.tables e below (T132.setTop (mkF m 33 #[iv p0, iv p1, iv p2, rv b62, .unset, .unset, .unset, .unset, .unset, .unset, .unset, .unset, .unset] [(.ref r_132), (.ref b62)])) t → Steps p.tables e below (s₁.setTop (entryFrame m #[(.int p0), (.int p1), (.int p2)] maxLocals)) t := fun t kt => pre131 _ (st132 _ kt)
        have F134 := J68_0.keep Kc132
        have F135 := J68_1.keep Kc132 (own_nm0 )
        have F136 := J68_2.keep Kc132 (own_nm0 )
        have F137 := J68_4.keep Kc132
        have F138 := J68_5.keep Kc132 (own_nm0 )
        obtain ⟨cq139, kq139, q139a, q139b, q139c⟩ := isOf hZ e132 F134
        obtain ⟨_, _, ⟨T139, L139, k139, n139⟩, -, X139, ⟨Lc139, hQ139, l139, y139, z139⟩, st139⟩ := X132.virtualBack hx (y := (⟨"com/example/homethread/homethread/Items", "add", "(Ljava/lang/Object;)V"⟩ : MethodName)) (z := (⟨"com/example/homethread/homethread/Items", "add", "(Ljava/lang/Object;)V"⟩ : MethodName)) hown (mvT hZ (W 20 rfl)) (mvT hZ (W 21 rfl)) (notFace_of_selects (args := #[]) (mvT hZ (W 23 rfl))) (mvT hZ (W 23 rfl)) (mvT hZ (W 22 rfl)) (by decide) (backOf (W := 0) (rm_add4_0 l Z a0 hw [] b62 r_132 b109_68 k109_68 h132 n0 O132 g_b62 g_b109_68 F134 F135 F136 J68_3 F137 F138 J132_0 (fun q => ne_b62_b109_68 q.symm)) hZ (W 24 rfl) (W 2 rfl) (by decide) (by decide)) q139a q139c (g := (mkF m 33 #[iv p0, iv p1, iv p2, rv b62, .unset, .unset, .unset, .unset, .unset, .unset, .unset, .unset, .unset] [(.ref r_132), (.ref b62)])) rfl (by rw [hml]; rfl) (Steps.refl _) (argsL := [(.ref r_132)]) (rest := []) (lenOf pd_13 rfl) rfl (by show 2 * 0 + _ ≤ _; exact Nat.le_of_eq rfl) (hb hby at_33) (fun _ _ => ⟨rfl, e132, (by decide : 3 + 0 ≤ _), (by decide : 19 + 0 ≤ _)⟩)
        dsimp only [Pt.U, Pt.locs, Pt.cells, Pt.slots] at X139 l139 y139 z139 st139 hQ139
        replace l139 := l139.symm
        replace y139 : 3 = k139 := y139.symm
        replace z139 : 19 = n139 := z139.symm
        subst l139 y139 z139
        obtain ⟨rfl, M139, Kc139, O139, J139_0, J139_1, J139_2, J139_3, J139_4⟩ := hQ139
        obtain ⟨h139, e139⟩ : ∃ z, T139.heap = z := ⟨_, rfl⟩
        rw [e139] at Kc139 O139 J139_0 J139_1 J139_2 J139_3 J139_4
        have N139 := Fr.app N132 M139
        have K139 : Keep h0 h139 [] := K132.trans Kc139 (own_all2 (Or.inr sz_b62) (Or.inr sz_b109_68))
        have pre245 : ∀ t, Steps p.tables e below (T139.setTop (mkF m 36 #[iv p0, iv p1, iv p2, rv b62, .unset, .unset, .unset, .unset, .unset, .unset, .unset, .unset, .unset] [])) t → Steps p.tables e below (s₁.setTop (entryFrame m #[(.int p0), (.int p1), (.int p2)] maxLocals)) t := fun t kt => pre133 _ (st139.trans kt)
        have F246 := J132_0.keep Kc139
        exact ⟨_, _, _, (1 : Int32), (.ref r_132), .null, X139.more (by decide) (by decide), e139, N139, K139, O139, J139_0, J139_4, J139_3, J68_3, J139_1, J139_2, pre245⟩
    · have pre247 : ∀ t, Steps p.tables e below (T68.setTop (mkF m 16 #[iv p0, iv p1, iv p2, rv b62, .unset, .unset, .unset, .unset, .unset, .unset, .unset, .unset, .unset] [(.int p2), (.ref b62)])) t → Steps p.tables e below (s₁.setTop (entryFrame m #[(.int p0), (.int p1), (.int p2)] maxLocals)) t := fun t kt => by
        refine pre126 _ ?_
        show Steps p.tables e below (T68.setTop (mkF m 11 #[iv p0, iv p1, iv p2, rv b62, .unset, .unset, .unset, .unset, .unset, .unset, .unset, .unset, .unset] [(.int (p2 &&& (1 : Int32)))])) _
        refine XS.ifNo X68.here hx rfl (hb hby at_11) rfl (XT.i0_eq_f hc127) ?_
        show Steps p.tables e below (T68.setTop (mkF m 14 #[iv p0, iv p1, iv p2, rv b62, .unset, .unset, .unset, .unset, .unset, .unset, .unset, .unset, .unset] [])) _
        refine XS.aloadN X68.here hx rfl (hb hby at_14) rfl rfl ?_
        show Steps p.tables e below (T68.setTop (mkF m 15 #[iv p0, iv p1, iv p2, rv b62, .unset, .unset, .unset, .unset, .unset, .unset, .unset, .unset, .unset] [(.ref b62)])) _
        refine XS.iloadN X68.here hx rfl (hb hby at_15) rfl ?_
        exact kt
      obtain ⟨_, _, ⟨T248, L248, k248, n248⟩, -, X248, ⟨Lc248, hQ248, l248, y248, z248⟩, st248⟩ := Jvm.LawKit.callS X68 hx (y := (⟨"java/lang/Integer", "valueOf", "(I)Ljava/lang/Integer;"⟩ : MethodName)) hown (mvT hZ (W 13 rfl)) (mvT hZ (W 14 rfl)) (mvT hZ (W 15 rfl)) (mvT hZ (W 16 rfl)) (by decide) (backOf (W := 1) (rm_valueOf l Z a0 hw [] p2 ac h68 n0 O68 G0 G1 G2) hZ (W 16 rfl) (W 15 rfl) (by decide) (by decide)) (g := (mkF m 16 #[iv p0, iv p1, iv p2, rv b62, .unset, .unset, .unset, .unset, .unset, .unset, .unset, .unset, .unset] [(.int p2), (.ref b62)])) rfl (by rw [hml]; rfl) (argsL := [(.int p2)]) (rest := [(.ref b62)]) (lenOf pd_11 rfl) rfl (by show 2 * 0 + _ ≤ _; exact Nat.le_of_eq rfl) (hb hby at_16) (fun _ _ => ⟨rfl, e68, (by decide : 2 + 1 ≤ _), (by decide : 18 + 1 ≤ _)⟩)
      dsimp only [Pt.U, Pt.locs, Pt.cells, Pt.slots] at X248 l248 y248 z248 st248 hQ248
      replace l248 := l248.symm
      replace y248 : 3 = k248 := y248.symm
      replace z248 : 19 = n248 := z248.symm
      subst l248 y248 z248
      obtain ⟨r_248, rfl, M248, Kc248, O248, J248_0⟩ := hQ248
      obtain ⟨h248, e248⟩ : ∃ z, T248.heap = z := ⟨_, rfl⟩
      rw [e248] at Kc248 O248 J248_0
      have N248 := Fr.app N68 M248
      have K248 : Keep h0 h248 [] := K68.trans Kc248 (own_all0 )
      have pre249 : ∀ t, Steps p.tables e below (T248.setTop (mkF m 19 #[iv p0, iv p1, iv p2, rv b62, .unset, .unset, .unset, .unset, .unset, .unset, .unset, .unset, .unset] [(.ref r_248), (.ref b62)])) t → Steps p.tables e below (s₁.setTop (entryFrame m #[(.int p0), (.int p1), (.int p2)] maxLocals)) t := fun t kt => pre247 _ (st248 _ kt)
      have F250 := J68_0.keep Kc248
      have F251 := J68_1.keep Kc248 (own_nm0 )
      have F252 := J68_2.keep Kc248 (own_nm0 )
      have F253 := J68_4.keep Kc248
      have F254 := J68_5.keep Kc248 (own_nm0 )
      obtain ⟨cq255, kq255, q255a, q255b, q255c⟩ := isOf hZ e248 F250
      obtain ⟨_, _, ⟨T255, L255, k255, n255⟩, -, X255, ⟨Lc255, hQ255, l255, y255, z255⟩, st255⟩ := X248.virtualBack hx (y := (⟨"com/example/homethread/homethread/Items", "add", "(Ljava/lang/Object;)V"⟩ : MethodName)) (z := (⟨"com/example/homethread/homethread/Items", "add", "(Ljava/lang/Object;)V"⟩ : MethodName)) hown (mvT hZ (W 20 rfl)) (mvT hZ (W 21 rfl)) (notFace_of_selects (args := #[]) (mvT hZ (W 23 rfl))) (mvT hZ (W 23 rfl)) (mvT hZ (W 22 rfl)) (by decide) (backOf (W := 0) (rm_add4_0 l Z a0 hw [] b62 r_248 b109_68 k109_68 h248 n0 O248 g_b62 g_b109_68 F250 F251 F252 J68_3 F253 F254 J248_0 (fun q => ne_b62_b109_68 q.symm)) hZ (W 24 rfl) (W 2 rfl) (by decide) (by decide)) q255a q255c (g := (mkF m 19 #[iv p0, iv p1, iv p2, rv b62, .unset, .unset, .unset, .unset, .unset, .unset, .unset, .unset, .unset] [(.ref r_248), (.ref b62)])) rfl (by rw [hml]; rfl) (Steps.refl _) (argsL := [(.ref r_248)]) (rest := []) (lenOf pd_13 rfl) rfl (by show 2 * 0 + _ ≤ _; exact Nat.le_of_eq rfl) (hb hby at_19) (fun _ _ => ⟨rfl, e248, (by decide : 3 + 0 ≤ _), (by decide : 19 + 0 ≤ _)⟩)
      dsimp only [Pt.U, Pt.locs, Pt.cells, Pt.slots] at X255 l255 y255 z255 st255 hQ255
      replace l255 := l255.symm
      replace y255 : 3 = k255 := y255.symm
      replace z255 : 19 = n255 := z255.symm
      subst l255 y255 z255
      obtain ⟨rfl, M255, Kc255, O255, J255_0, J255_1, J255_2, J255_3, J255_4⟩ := hQ255
      obtain ⟨h255, e255⟩ : ∃ z, T255.heap = z := ⟨_, rfl⟩
      rw [e255] at Kc255 O255 J255_0 J255_1 J255_2 J255_3 J255_4
      have N255 := Fr.app N248 M255
      have K255 : Keep h0 h255 [] := K248.trans Kc255 (own_all2 (Or.inr sz_b62) (Or.inr sz_b109_68))
      have pre256 : ∀ t, Steps p.tables e below (T255.setTop (mkF m 22 #[iv p0, iv p1, iv p2, rv b62, .unset, .unset, .unset, .unset, .unset, .unset, .unset, .unset, .unset] [])) t → Steps p.tables e below (s₁.setTop (entryFrame m #[(.int p0), (.int p1), (.int p2)] maxLocals)) t := fun t kt => pre249 _ (st255.trans kt)
      have F257 := J248_0.keep Kc255
      have pre258 : ∀ t, Steps p.tables e below (T255.setTop (mkF m 25 #[iv p0, iv p1, iv p2, rv b62, .unset, .unset, .unset, .unset, .unset, .unset, .unset, .unset, .unset] [(.int (p2 &&& (2 : Int32)))])) t → Steps p.tables e below (s₁.setTop (entryFrame m #[(.int p0), (.int p1), (.int p2)] maxLocals)) t := fun t kt => by
        refine pre256 _ ?_
        show Steps p.tables e below (T255.setTop (mkF m 22 #[iv p0, iv p1, iv p2, rv b62, .unset, .unset, .unset, .unset, .unset, .unset, .unset, .unset, .unset] [])) _
        refine XS.iloadN X255.here hx rfl (hb hby at_22) rfl ?_
        show Steps p.tables e below (T255.setTop (mkF m 23 #[iv p0, iv p1, iv p2, rv b62, .unset, .unset, .unset, .unset, .unset, .unset, .unset, .unset, .unset] [(.int p2)])) _
        refine XS.iconst X255.here hx rfl (hb hby at_23) ?_
        show Steps p.tables e below (T255.setTop (mkF m 24 #[iv p0, iv p1, iv p2, rv b62, .unset, .unset, .unset, .unset, .unset, .unset, .unset, .unset, .unset] [(.int (2 : Int32)), (.int p2)])) _
        refine XS.iand X255.here hx rfl (hb hby at_24) rfl ?_
        exact kt
      by_cases hc259 : (p2 &&& (2 : Int32)) = (0 : Int32)
      · have pre260 : ∀ t, Steps p.tables e below (T255.setTop (mkF m 36 #[iv p0, iv p1, iv p2, rv b62, .unset, .unset, .unset, .unset, .unset, .unset, .unset, .unset, .unset] [])) t → Steps p.tables e below (s₁.setTop (entryFrame m #[(.int p0), (.int p1), (.int p2)] maxLocals)) t := fun t kt => by
          refine pre258 _ ?_
          show Steps p.tables e below (T255.setTop (mkF m 25 #[iv p0, iv p1, iv p2, rv b62, .unset, .unset, .unset, .unset, .unset, .unset, .unset, .unset, .unset] [(.int (p2 &&& (2 : Int32)))])) _
          refine XS.ifYes X255.here hx rfl (pc0 := 25) (pc' := 36) rfl (hb hby at_25) rfl (XT.i0_eq_t hc259) (by decide) (by decide) ?_
          exact kt
        exact ⟨_, _, _, (1 : Int32), (.ref r_248), .null, X255.more (by decide) (by decide), e255, N255, K255, O255, J255_0, J255_4, J255_3, J68_3, J255_1, J255_2, pre260⟩
      · have pre261 : ∀ t, Steps p.tables e below (T255.setTop (mkF m 30 #[iv p0, iv p1, iv p2, rv b62, .unset, .unset, .unset, .unset, .unset, .unset, .unset, .unset, .unset] [(.int p0), (.ref b62)])) t → Steps p.tables e below (s₁.setTop (entryFrame m #[(.int p0), (.int p1), (.int p2)] maxLocals)) t := fun t kt => by
          refine pre258 _ ?_
          show Steps p.tables e below (T255.setTop (mkF m 25 #[iv p0, iv p1, iv p2, rv b62, .unset, .unset, .unset, .unset, .unset, .unset, .unset, .unset, .unset] [(.int (p2 &&& (2 : Int32)))])) _
          refine XS.ifNo X255.here hx rfl (hb hby at_25) rfl (XT.i0_eq_f hc259) ?_
          show Steps p.tables e below (T255.setTop (mkF m 28 #[iv p0, iv p1, iv p2, rv b62, .unset, .unset, .unset, .unset, .unset, .unset, .unset, .unset, .unset] [])) _
          refine XS.aloadN X255.here hx rfl (hb hby at_28) rfl rfl ?_
          show Steps p.tables e below (T255.setTop (mkF m 29 #[iv p0, iv p1, iv p2, rv b62, .unset, .unset, .unset, .unset, .unset, .unset, .unset, .unset, .unset] [(.ref b62)])) _
          refine XS.iloadN X255.here hx rfl (hb hby at_29) rfl ?_
          exact kt
        obtain ⟨_, _, ⟨T262, L262, k262, n262⟩, -, X262, ⟨Lc262, hQ262, l262, y262, z262⟩, st262⟩ := Jvm.LawKit.callS X255 hx (y := (⟨"java/lang/Integer", "valueOf", "(I)Ljava/lang/Integer;"⟩ : MethodName)) hown (mvT hZ (W 13 rfl)) (mvT hZ (W 14 rfl)) (mvT hZ (W 15 rfl)) (mvT hZ (W 16 rfl)) (by decide) (backOf (W := 1) (rm_valueOf l Z a0 hw [] p0 ac h255 n0 O255 G0 G1 G2) hZ (W 16 rfl) (W 15 rfl) (by decide) (by decide)) (g := (mkF m 30 #[iv p0, iv p1, iv p2, rv b62, .unset, .unset, .unset, .unset, .unset, .unset, .unset, .unset, .unset] [(.int p0), (.ref b62)])) rfl (by rw [hml]; rfl) (argsL := [(.int p0)]) (rest := [(.ref b62)]) (lenOf pd_11 rfl) rfl (by show 2 * 0 + _ ≤ _; exact Nat.le_of_eq rfl) (hb hby at_30) (fun _ _ => ⟨rfl, e255, (by decide : 3 + 1 ≤ _), (by decide : 19 + 1 ≤ _)⟩)
        dsimp only [Pt.U, Pt.locs, Pt.cells, Pt.slots] at X262 l262 y262 z262 st262 hQ262
        replace l262 := l262.symm
        replace y262 : 4 = k262 := y262.symm
        replace z262 : 20 = n262 := z262.symm
        subst l262 y262 z262
        obtain ⟨r_262, rfl, M262, Kc262, O262, J262_0⟩ := hQ262
        obtain ⟨h262, e262⟩ : ∃ z, T262.heap = z := ⟨_, rfl⟩
        rw [e262] at Kc262 O262 J262_0
        have N262 := Fr.app N255 M262
        have K262 : Keep h0 h262 [] := K255.trans Kc262 (own_all0 )
        have pre263 : ∀ t, Steps p.tables e below (T262.setTop (mkF m 33 #[iv p0, iv p1, iv p2, rv b62, .unset, .unset, .unset, .unset, .unset, .unset, .unset, .unset, .unset] [(.ref r_262), (.ref b62)])) t → Steps p.tables e below (s₁.setTop (entryFrame m #[(.int p0), (.int p1), (.int p2)] maxLocals)) t := fun t kt => pre261 _ (st262 _ kt)
        have F264 := F257.keep Kc262
        have F265 := J255_0.keep Kc262
        have F266 := J255_1.keep Kc262
        have F267 := J255_2.keep Kc262 (own_nm0 )
        have F268 := J255_3.keep Kc262 (own_nm0 )
        have F269 := J255_4.keep Kc262 (own_nm0 )
        obtain ⟨cq270, kq270, q270a, q270b, q270c⟩ := isOf hZ e262 F265
        obtain ⟨_, _, ⟨T270, L270, k270, n270⟩, -, X270, ⟨Lc270, hQ270, l270, y270, z270⟩, st270⟩ := X262.virtualBack hx (y := (⟨"com/example/homethread/homethread/Items", "add", "(Ljava/lang/Object;)V"⟩ : MethodName)) (z := (⟨"com/example/homethread/homethread/Items", "add", "(Ljava/lang/Object;)V"⟩ : MethodName)) hown (mvT hZ (W 20 rfl)) (mvT hZ (W 21 rfl)) (notFace_of_selects (args := #[]) (mvT hZ (W 23 rfl))) (mvT hZ (W 23 rfl)) (mvT hZ (W 22 rfl)) (by decide) (backOf (W := 0) (rm_add4_1 l Z a0 hw [] b62 r_262 k109_68 r_248 b109_68 h262 n0 O262 g_b62 g_b109_68 J68_3 F265 F266 F267 F268 F269 J262_0 (fun q => ne_b62_b109_68 q.symm)) hZ (W 24 rfl) (W 2 rfl) (by decide) (by decide)) q270a q270c (g := (mkF m 33 #[iv p0, iv p1, iv p2, rv b62, .unset, .unset, .unset, .unset, .unset, .unset, .unset, .unset, .unset] [(.ref r_262), (.ref b62)])) rfl (by rw [hml]; rfl) (Steps.refl _) (argsL := [(.ref r_262)]) (rest := []) (lenOf pd_13 rfl) rfl (by show 2 * 0 + _ ≤ _; exact Nat.le_of_eq rfl) (hb hby at_33) (fun _ _ => ⟨rfl, e262, (by decide : 4 + 0 ≤ _), (by decide : 20 + 0 ≤ _)⟩)
        dsimp only [Pt.U, Pt.locs, Pt.cells, Pt.slots] at X270 l270 y270 z270 st270 hQ270
        replace l270 := l270.symm
        replace y270 : 4 = k270 := y270.symm
        replace z270 : 20 = n270 := z270.symm
        subst l270 y270 z270
        obtain ⟨rfl, M270, Kc270, O270, J270_0, J270_1, J270_2, J270_3, J270_4⟩ := hQ270
        obtain ⟨h270, e270⟩ : ∃ z, T270.heap = z := ⟨_, rfl⟩
        rw [e270] at Kc270 O270 J270_0 J270_1 J270_2 J270_3 J270_4
        have N270 := Fr.app N262 M270
        have K270 : Keep h0 h270 [] := K262.trans Kc270 (own_all2 (Or.inr sz_b62) (Or.inr sz_b109_68))
        have pre378 : ∀ t, Steps p.tables e below (T270.setTop (mkF m 36 #[iv p0, iv p1, iv p2, rv b62, .unset, .unset, .unset, .unset, .unset, .unset, .unset, .unset, .unset] [])) t → Steps p.tables e below (s₁.setTop (entryFrame m #[(.int p0), (.int p1), (.int p2)] maxLocals)) t := fun t kt => pre263 _ (st270.trans kt)
        have F379 := F264.keep Kc270
        have F380 := J262_0.keep Kc270
        exact ⟨_, _, _, (2 : Int32), (.ref r_248), (.ref r_262), X270.more (by decide) (by decide), e270, N270, K270, O270, J270_0, J270_4, J270_3, J68_3, J270_1, J270_2, pre378⟩
  have pre387 : ∀ t, Steps p.tables e below (T125.setTop (mkF m 37 #[iv p0, iv p1, iv p2, rv b62, .unset, .unset, .unset, .unset, .unset, .unset, .unset, .unset, .unset] [(.ref b62)])) t → Steps p.tables e below (s₁.setTop (entryFrame m #[(.int p0), (.int p1), (.int p2)] maxLocals)) t := fun t kt => by
    refine pre125 _ ?_
    show Steps p.tables e below (T125.setTop (mkF m 36 #[iv p0, iv p1, iv p2, rv b62, .unset, .unset, .unset, .unset, .unset, .unset, .unset, .unset, .unset] [])) _
    refine XS.aloadN X125.here hx rfl (hb hby at_36) rfl rfl ?_
    exact kt
  obtain ⟨cq388, kq388, q388a, q388b, q388c⟩ := isOf hZ e125 F381
  obtain ⟨_, _, ⟨T388, L388, k388, n388⟩, -, X388, ⟨Lc388, hQ388, l388, y388, z388⟩, st388⟩ := X125.virtualBack hx (y := (⟨"com/example/homethread/homethread/Items", "slots", "()[Ljava/lang/Object;"⟩ : MethodName)) (z := (⟨"com/example/homethread/homethread/Items", "slots", "()[Ljava/lang/Object;"⟩ : MethodName)) hown (mvT hZ (W 28 rfl)) (mvT hZ (W 29 rfl)) (notFace_of_selects (args := #[]) (mvT hZ (W 31 rfl))) (mvT hZ (W 31 rfl)) (mvT hZ (W 30 rfl)) (by decide) (backOf (W := 0) (rm_slots5_0 l Z a0 hw [] b62 b109_68 h125 n0 O125 F386) hZ (W 32 rfl) (W 2 rfl) (by decide) (by decide)) q388a q388c (g := (mkF m 37 #[iv p0, iv p1, iv p2, rv b62, .unset, .unset, .unset, .unset, .unset, .unset, .unset, .unset, .unset] [(.ref b62)])) rfl (by rw [hml]; rfl) (Steps.refl _) (argsL := []) (rest := []) (lenOf pd_15 rfl) rfl (by show 2 * 0 + _ ≤ _; exact Nat.le_of_eq rfl) (hb hby at_37) (fun _ _ => ⟨rfl, e125, (by decide : 4 + 0 ≤ _), (by decide : 20 + 0 ≤ _)⟩)
  dsimp only [Pt.U, Pt.locs, Pt.cells, Pt.slots] at X388 l388 y388 z388 st388 hQ388
  replace l388 := l388.symm
  replace y388 : 4 = k388 := y388.symm
  replace z388 : 20 = n388 := z388.symm
  subst l388 y388 z388
  obtain ⟨rfl, M388, e388⟩ := hQ388
  have N388 := Fr.app N125 M388
  have pre398 : ∀ t, Steps p.tables e below (T388.setTop (mkF m 40 #[iv p0, iv p1, iv p2, rv b62, .unset, .unset, .unset, .unset, .unset, .unset, .unset, .unset, .unset] [(.ref b109_68)])) t → Steps p.tables e below (s₁.setTop (entryFrame m #[(.int p0), (.int p1), (.int p2)] maxLocals)) t := fun t kt => pre387 _ (st388.trans kt)
  have pre400 : ∀ t, Steps p.tables e below (T388.setTop (mkF m 44 #[iv p0, iv p1, iv p2, rv b62, rv b109_68, .unset, .unset, .unset, .unset, .unset, .unset, .unset, .unset] [(.ref b109_68)])) t → Steps p.tables e below (s₁.setTop (entryFrame m #[(.int p0), (.int p1), (.int p2)] maxLocals)) t := fun t kt => by
    refine pre398 _ ?_
    show Steps p.tables e below (T388.setTop (mkF m 40 #[iv p0, iv p1, iv p2, rv b62, .unset, .unset, .unset, .unset, .unset, .unset, .unset, .unset, .unset] [(.ref b109_68)])) _
    refine XS.astore X388.here hx rfl (hb hby at_40) rfl rfl (l' := #[iv p0, iv p1, iv p2, rv b62, rv b109_68, .unset, .unset, .unset, .unset, .unset, .unset, .unset, .unset]) rfl ?_
    show Steps p.tables e below (T388.setTop (mkF m 42 #[iv p0, iv p1, iv p2, rv b62, rv b109_68, .unset, .unset, .unset, .unset, .unset, .unset, .unset, .unset] [])) _
    refine XS.aload X388.here hx rfl (hb hby at_42) rfl rfl ?_
    exact kt
  obtain ⟨c399, Ar399, -, S399, M399, -, -⟩ := id F383
  have pre401 : ∀ t, Steps p.tables e below (T388.setTop (mkF m 49 #[iv p0, iv p1, iv p2, rv b62, rv b109_68, iv (16 : Int32), .unset, .unset, .unset, .unset, .unset, .unset, .unset] [(.int p0), (.ref b62)])) t → Steps p.tables e below (s₁.setTop (entryFrame m #[(.int p0), (.int p1), (.int p2)] maxLocals)) t := fun t kt => by
    refine pre400 _ ?_
    show Steps p.tables e below (T388.setTop (mkF m 44 #[iv p0, iv p1, iv p2, rv b62, rv b109_68, .unset, .unset, .unset, .unset, .unset, .unset, .unset, .unset] [(.ref b109_68)])) _
    refine X388.arraylength hx (by rw [e388]; exact Ar399.1) (State.isArrayOf_alike hZ.alike Ar399.2.1) (g := (mkF m 44 #[iv p0, iv p1, iv p2, rv b62, rv b109_68, .unset, .unset, .unset, .unset, .unset, .unset, .unset, .unset] [(.ref b109_68)])) rfl rfl (hb hby at_44) _ ?_
    rw [len_of S399 M399]
    show Steps p.tables e below (T388.setTop (mkF m 45 #[iv p0, iv p1, iv p2, rv b62, rv b109_68, .unset, .unset, .unset, .unset, .unset, .unset, .unset, .unset] [(.int (16 : Int32))])) _
    refine XS.istore X388.here hx rfl (hb hby at_45) rfl (l' := #[iv p0, iv p1, iv p2, rv b62, rv b109_68, iv (16 : Int32), .unset, .unset, .unset, .unset, .unset, .unset, .unset]) rfl ?_
    show Steps p.tables e below (T388.setTop (mkF m 47 #[iv p0, iv p1, iv p2, rv b62, rv b109_68, iv (16 : Int32), .unset, .unset, .unset, .unset, .unset, .unset, .unset] [])) _
    refine XS.aloadN X388.here hx rfl (hb hby at_47) rfl rfl ?_
    show Steps p.tables e below (T388.setTop (mkF m 48 #[iv p0, iv p1, iv p2, rv b62, rv b109_68, iv (16 : Int32), .unset, .unset, .unset, .unset, .unset, .unset, .unset] [(.ref b62)])) _
    refine XS.iloadN X388.here hx rfl (hb hby at_48) rfl ?_
    exact kt
  by_cases hc407 : p0 < (16 : Int32)
  · obtain ⟨cq408, kq408, q408a, q408b, q408c⟩ := isOf hZ e388 F381
    obtain ⟨_, _, ⟨T408, L408, k408, n408⟩, -, X408, ⟨Lc408, hQ408, l408, y408, z408⟩, st408⟩ := X388.virtualBack hx (y := (⟨"com/example/homethread/homethread/Items", "clearAndTrim", "(I)V"⟩ : MethodName)) (z := (⟨"com/example/homethread/homethread/Items", "clearAndTrim", "(I)V"⟩ : MethodName)) hown (mvT hZ (W 33 rfl)) (mvT hZ (W 34 rfl)) (notFace_of_selects (args := #[]) (mvT hZ (W 36 rfl))) (mvT hZ (W 36 rfl)) (mvT hZ (W 35 rfl)) (by decide) (backOf (W := 0) (rm_clearAndTrim6_1 l Z a0 hw [] b62 p0 a_NO_SLOTS k109_68 j125_0 j125_1 j125_2 b109_68 h125 n0 O125 G4 g_b62 F381 F382 F383 F386 (fun q => ne_b62_b109_68 q.symm) hc407) hZ (W 37 rfl) (W 2 rfl) (by decide) (by decide)) q408a q408c (g := (mkF m 49 #[iv p0, iv p1, iv p2, rv b62, rv b109_68, iv (16 : Int32), .unset, .unset, .unset, .unset, .unset, .unset, .unset] [(.int p0), (.ref b62)])) rfl (by rw [hml]; rfl) (Steps.refl _) (argsL := [(.int p0)]) (rest := []) (lenOf pd_6 rfl) rfl (by show 2 * 0 + _ ≤ _; exact Nat.le_of_eq rfl) (hb hby at_49) (fun _ _ => ⟨rfl, e388, (by decide : 4 + 0 ≤ _), (by decide : 20 + 0 ≤ _)⟩)
    dsimp only [Pt.U, Pt.locs, Pt.cells, Pt.slots] at X408 l408 y408 z408 st408 hQ408
    replace l408 := l408.symm
    replace y408 : 4 = k408 := y408.symm
    replace z408 : 20 = n408 := z408.symm
    subst l408 y408 z408
    obtain ⟨rfl, M408, Kc408, O408, J408_0, J408_1, J408_2⟩ := hQ408
    obtain ⟨h408, e408⟩ : ∃ z, T408.heap = z := ⟨_, rfl⟩
    rw [e408] at Kc408 O408 J408_0 J408_1 J408_2
    have N408 := Fr.app N388 M408
    have K408 : Keep h0 h408 [] := K125.trans Kc408 (own_all1 (Or.inr sz_b62))
    have pre471 : ∀ t, Steps p.tables e below (T408.setTop (mkF m 52 #[iv p0, iv p1, iv p2, rv b62, rv b109_68, iv (16 : Int32), .unset, .unset, .unset, .unset, .unset, .unset, .unset] [])) t → Steps p.tables e below (s₁.setTop (entryFrame m #[(.int p0), (.int p1), (.int p2)] maxLocals)) t := fun t kt => pre401 _ (st408.trans kt)
    have F472 := F383.keep Kc408 (own_nm1 (fun q => ne_b62_b109_68 q.symm))
    have F473 := F385.keep Kc408
    have pre474 : ∀ t, Steps p.tables e below (T408.setTop (mkF m 53 #[iv p0, iv p1, iv p2, rv b62, rv b109_68, iv (16 : Int32), .unset, .unset, .unset, .unset, .unset, .unset, .unset] [(.ref b62)])) t → Steps p.tables e below (s₁.setTop (entryFrame m #[(.int p0), (.int p1), (.int p2)] maxLocals)) t := fun t kt => by
      refine pre471 _ ?_
      show Steps p.tables e below (T408.setTop (mkF m 52 #[iv p0, iv p1, iv p2, rv b62, rv b109_68, iv (16 : Int32), .unset, .unset, .unset, .unset, .unset, .unset, .unset] [])) _
      refine XS.aloadN X408.here hx rfl (hb hby at_52) rfl rfl ?_
      exact kt
    obtain ⟨cq475, kq475, q475a, q475b, q475c⟩ := isOf hZ e408 J408_0
    obtain ⟨_, _, ⟨T475, L475, k475, n475⟩, -, X475, ⟨Lc475, hQ475, l475, y475, z475⟩, st475⟩ := X408.virtualBack hx (y := (⟨"com/example/homethread/homethread/Items", "slots", "()[Ljava/lang/Object;"⟩ : MethodName)) (z := (⟨"com/example/homethread/homethread/Items", "slots", "()[Ljava/lang/Object;"⟩ : MethodName)) hown (mvT hZ (W 28 rfl)) (mvT hZ (W 29 rfl)) (notFace_of_selects (args := #[]) (mvT hZ (W 31 rfl))) (mvT hZ (W 31 rfl)) (mvT hZ (W 30 rfl)) (by decide) (backOf (W := 0) (rm_slots5_0 l Z a0 hw [] b62 a_NO_SLOTS h408 n0 O408 J408_1) hZ (W 32 rfl) (W 2 rfl) (by decide) (by decide)) q475a q475c (g := (mkF m 53 #[iv p0, iv p1, iv p2, rv b62, rv b109_68, iv (16 : Int32), .unset, .unset, .unset, .unset, .unset, .unset, .unset] [(.ref b62)])) rfl (by rw [hml]; rfl) (Steps.refl _) (argsL := []) (rest := []) (lenOf pd_15 rfl) rfl (by show 2 * 0 + _ ≤ _; exact Nat.le_of_eq rfl) (hb hby at_53) (fun _ _ => ⟨rfl, e408, (by decide : 4 + 0 ≤ _), (by decide : 20 + 0 ≤ _)⟩)
    dsimp only [Pt.U, Pt.locs, Pt.cells, Pt.slots] at X475 l475 y475 z475 st475 hQ475
    replace l475 := l475.symm
    replace y475 : 4 = k475 := y475.symm
    replace z475 : 20 = n475 := z475.symm
    subst l475 y475 z475
    obtain ⟨rfl, M475, e475⟩ := hQ475
    have N475 := Fr.app N408 M475
    have pre476 : ∀ t, Steps p.tables e below (T475.setTop (mkF m 56 #[iv p0, iv p1, iv p2, rv b62, rv b109_68, iv (16 : Int32), .unset, .unset, .unset, .unset, .unset, .unset, .unset] [(.ref a_NO_SLOTS)])) t → Steps p.tables e below (s₁.setTop (entryFrame m #[(.int p0), (.int p1), (.int p2)] maxLocals)) t := fun t kt => pre474 _ (st475.trans kt)
    have pre477 : ∀ t, Steps p.tables e below (T475.setTop (mkF m 79 #[iv p0, iv p1, iv p2, rv b62, rv b109_68, iv (16 : Int32), rv a_NO_SLOTS, iv (1 : Int32), .unset, .unset, .unset, .unset, .unset] [(.ref b62)])) t → Steps p.tables e below (s₁.setTop (entryFrame m #[(.int p0), (.int p1), (.int p2)] maxLocals)) t := fun t kt => by
      refine pre476 _ ?_
      show Steps p.tables e below (T475.setTop (mkF m 56 #[iv p0, iv p1, iv p2, rv b62, rv b109_68, iv (16 : Int32), .unset, .unset, .unset, .unset, .unset, .unset, .unset] [(.ref a_NO_SLOTS)])) _
      refine XS.astore X475.here hx rfl (hb hby at_56) rfl rfl (l' := #[iv p0, iv p1, iv p2, rv b62, rv b109_68, iv (16 : Int32), rv a_NO_SLOTS, .unset, .unset, .unset, .unset, .unset, .unset]) rfl ?_
      show Steps p.tables e below (T475.setTop (mkF m 58 #[iv p0, iv p1, iv p2, rv b62, rv b109_68, iv (16 : Int32), rv a_NO_SLOTS, .unset, .unset, .unset, .unset, .unset, .unset] [])) _
      refine XS.iload X475.here hx rfl (hb hby at_58) rfl ?_
      show Steps p.tables e below (T475.setTop (mkF m 60 #[iv p0, iv p1, iv p2, rv b62, rv b109_68, iv (16 : Int32), rv a_NO_SLOTS, .unset, .unset, .unset, .unset, .unset, .unset] [(.int (16 : Int32))])) _
      refine XS.iloadN X475.here hx rfl (hb hby at_60) rfl ?_
      show Steps p.tables e below (T475.setTop (mkF m 61 #[iv p0, iv p1, iv p2, rv b62, rv b109_68, iv (16 : Int32), rv a_NO_SLOTS, .unset, .unset, .unset, .unset, .unset, .unset] [(.int p0), (.int (16 : Int32))])) _
      refine XS.icmpNo X475.here hx rfl (hb hby at_61) rfl (XT.ii_le_f hc407) ?_
      show Steps p.tables e below (T475.setTop (mkF m 64 #[iv p0, iv p1, iv p2, rv b62, rv b109_68, iv (16 : Int32), rv a_NO_SLOTS, .unset, .unset, .unset, .unset, .unset, .unset] [])) _
      refine XS.iconst X475.here hx rfl (hb hby at_64) ?_
      show Steps p.tables e below (T475.setTop (mkF m 65 #[iv p0, iv p1, iv p2, rv b62, rv b109_68, iv (16 : Int32), rv a_NO_SLOTS, .unset, .unset, .unset, .unset, .unset, .unset] [(.int (1 : Int32))])) _
      refine XS.goto X475.here hx rfl (pc0 := 65) (pc' := 69) rfl (hb hby at_65) (by decide) (by decide) ?_
      show Steps p.tables e below (T475.setTop (mkF m 69 #[iv p0, iv p1, iv p2, rv b62, rv b109_68, iv (16 : Int32), rv a_NO_SLOTS, .unset, .unset, .unset, .unset, .unset, .unset] [(.int (1 : Int32))])) _
      refine XS.istore X475.here hx rfl (hb hby at_69) rfl (l' := #[iv p0, iv p1, iv p2, rv b62, rv b109_68, iv (16 : Int32), rv a_NO_SLOTS, iv (1 : Int32), .unset, .unset, .unset, .unset, .unset]) rfl ?_
      show Steps p.tables e below (T475.setTop (mkF m 71 #[iv p0, iv p1, iv p2, rv b62, rv b109_68, iv (16 : Int32), rv a_NO_SLOTS, iv (1 : Int32), .unset, .unset, .unset, .unset, .unset] [])) _
      refine XS.iload X475.here hx rfl (hb hby at_71) rfl ?_
      show Steps p.tables e below (T475.setTop (mkF m 73 #[iv p0, iv p1, iv p2, rv b62, rv b109_68, iv (16 : Int32), rv a_NO_SLOTS, iv (1 : Int32), .unset, .unset, .unset, .unset, .unset] [(.int (16 : Int32))])) _
      refine XS.bipush X475.here hx rfl (hb hby at_73) ?_
      show Steps p.tables e below (T475.setTop (mkF m 75 #[iv p0, iv p1, iv p2, rv b62, rv b109_68, iv (16 : Int32), rv a_NO_SLOTS, iv (1 : Int32), .unset, .unset, .unset, .unset, .unset] [(.int (16 : Int32)), (.int (16 : Int32))])) _
      refine XS.icmpNo X475.here hx rfl (hb hby at_75) rfl (XT.ii_ne_f (by decide)) ?_
      show Steps p.tables e below (T475.setTop (mkF m 78 #[iv p0, iv p1, iv p2, rv b62, rv b109_68, iv (16 : Int32), rv a_NO_SLOTS, iv (1 : Int32), .unset, .unset, .unset, .unset, .unset] [])) _
      refine XS.aloadN X475.here hx rfl (hb hby at_78) rfl rfl ?_
      exact kt
    obtain ⟨cq478, kq478, q478a, q478b, q478c⟩ := isOf hZ e475 J408_0
    obtain ⟨_, _, ⟨T478, L478, k478, n478⟩, -, X478, ⟨Lc478, hQ478, l478, y478, z478⟩, st478⟩ := X475.virtualBack hx (y := (⟨"com/example/homethread/homethread/Items", "size", "()I"⟩ : MethodName)) (z := (⟨"com/example/homethread/homethread/Items", "size", "()I"⟩ : MethodName)) hown (mvT hZ (W 40 rfl)) (mvT hZ (W 41 rfl)) (notFace_of_selects (args := #[]) (mvT hZ (W 43 rfl))) (mvT hZ (W 43 rfl)) (mvT hZ (W 42 rfl)) (by decide) (backOf (W := 0) (rm_size7_0 l Z a0 hw [] b62 h408 n0 O408 J408_2) hZ (W 44 rfl) (W 2 rfl) (by decide) (by decide)) q478a q478c (g := (mkF m 79 #[iv p0, iv p1, iv p2, rv b62, rv b109_68, iv (16 : Int32), rv a_NO_SLOTS, iv (1 : Int32), .unset, .unset, .unset, .unset, .unset] [(.ref b62)])) rfl (by rw [hml]; rfl) (Steps.refl _) (argsL := []) (rest := []) (lenOf pd_18 rfl) rfl (by show 2 * 0 + _ ≤ _; exact Nat.le_of_eq rfl) (hb hby at_79) (fun _ _ => ⟨rfl, e475, (by decide : 4 + 0 ≤ _), (by decide : 20 + 0 ≤ _)⟩)
    dsimp only [Pt.U, Pt.locs, Pt.cells, Pt.slots] at X478 l478 y478 z478 st478 hQ478
    replace l478 := l478.symm
    replace y478 : 4 = k478 := y478.symm
    replace z478 : 20 = n478 := z478.symm
    subst l478 y478 z478
    obtain ⟨rfl, M478, e478⟩ := hQ478
    have N478 := Fr.app N475 M478
    have pre488 : ∀ t, Steps p.tables e below (T478.setTop (mkF m 82 #[iv p0, iv p1, iv p2, rv b62, rv b109_68, iv (16 : Int32), rv a_NO_SLOTS, iv (1 : Int32), .unset, .unset, .unset, .unset, .unset] [(.int (0 : Int32))])) t → Steps p.tables e below (s₁.setTop (entryFrame m #[(.int p0), (.int p1), (.int p2)] maxLocals)) t := fun t kt => pre477 _ (st478.trans kt)
    have pre490 : ∀ t, Steps p.tables e below (T478.setTop (mkF m 92 #[iv p0, iv p1, iv p2, rv b62, rv b109_68, iv (16 : Int32), rv a_NO_SLOTS, iv (1 : Int32), .unset, .unset, .unset, .unset, .unset] [(.ref a_NO_SLOTS)])) t → Steps p.tables e below (s₁.setTop (entryFrame m #[(.int p0), (.int p1), (.int p2)] maxLocals)) t := fun t kt => by
      refine pre488 _ ?_
      show Steps p.tables e below (T478.setTop (mkF m 82 #[iv p0, iv p1, iv p2, rv b62, rv b109_68, iv (16 : Int32), rv a_NO_SLOTS, iv (1 : Int32), .unset, .unset, .unset, .unset, .unset] [(.int (0 : Int32))])) _
      refine XS.ifNo X478.here hx rfl (hb hby at_82) rfl (XT.i0_ne_f (by decide)) ?_
      show Steps p.tables e below (T478.setTop (mkF m 85 #[iv p0, iv p1, iv p2, rv b62, rv b109_68, iv (16 : Int32), rv a_NO_SLOTS, iv (1 : Int32), .unset, .unset, .unset, .unset, .unset] [])) _
      refine XS.iload X478.here hx rfl (hb hby at_85) rfl ?_
      show Steps p.tables e below (T478.setTop (mkF m 87 #[iv p0, iv p1, iv p2, rv b62, rv b109_68, iv (16 : Int32), rv a_NO_SLOTS, iv (1 : Int32), .unset, .unset, .unset, .unset, .unset] [(.int (1 : Int32))])) _
      refine XS.ifNo X478.here hx rfl (hb hby at_87) rfl (XT.i0_eq_f (by decide)) ?_
      show Steps p.tables e below (T478.setTop (mkF m 90 #[iv p0, iv p1, iv p2, rv b62, rv b109_68, iv (16 : Int32), rv a_NO_SLOTS, iv (1 : Int32), .unset, .unset, .unset, .unset, .unset] [])) _
      refine XS.aload X478.here hx rfl (hb hby at_90) rfl rfl ?_
      exact kt
    obtain ⟨c489, Ar489, -, S489, M489, -, -⟩ := id (G6.ext O408.2)
    have pre491 : ∀ t, Steps p.tables e below (T478.setTop (mkF m 116 #[iv p0, iv p1, iv p2, rv b62, rv b109_68, iv (16 : Int32), rv a_NO_SLOTS, iv (1 : Int32), iv (1 : Int32), .unset, .unset, .unset, .unset] [(.int (p2 &&& (4 : Int32)))])) t → Steps p.tables e below (s₁.setTop (entryFrame m #[(.int p0), (.int p1), (.int p2)] maxLocals)) t := fun t kt => by
      refine pre490 _ ?_
      show Steps p.tables e below (T478.setTop (mkF m 92 #[iv p0, iv p1, iv p2, rv b62, rv b109_68, iv (16 : Int32), rv a_NO_SLOTS, iv (1 : Int32), .unset, .unset, .unset, .unset, .unset] [(.ref a_NO_SLOTS)])) _
      refine X478.arraylength hx (by rw [e478]; exact Ar489.1) (State.isArrayOf_alike hZ.alike Ar489.2.1) (g := (mkF m 92 #[iv p0, iv p1, iv p2, rv b62, rv b109_68, iv (16 : Int32), rv a_NO_SLOTS, iv (1 : Int32), .unset, .unset, .unset, .unset, .unset] [(.ref a_NO_SLOTS)])) rfl rfl (hb hby at_92) _ ?_
      rw [len_of S489 M489]
      show Steps p.tables e below (T478.setTop (mkF m 93 #[iv p0, iv p1, iv p2, rv b62, rv b109_68, iv (16 : Int32), rv a_NO_SLOTS, iv (1 : Int32), .unset, .unset, .unset, .unset, .unset] [(.int (0 : Int32))])) _
      refine XS.ifNo X478.here hx rfl (hb hby at_93) rfl (XT.i0_ne_f (by decide)) ?_
      show Steps p.tables e below (T478.setTop (mkF m 96 #[iv p0, iv p1, iv p2, rv b62, rv b109_68, iv (16 : Int32), rv a_NO_SLOTS, iv (1 : Int32), .unset, .unset, .unset, .unset, .unset] [])) _
      refine XS.goto X478.here hx rfl (pc0 := 96) (pc' := 106) rfl (hb hby at_96) (by decide) (by decide) ?_
      show Steps p.tables e below (T478.setTop (mkF m 106 #[iv p0, iv p1, iv p2, rv b62, rv b109_68, iv (16 : Int32), rv a_NO_SLOTS, iv (1 : Int32), .unset, .unset, .unset, .unset, .unset] [])) _
      refine XS.iconst X478.here hx rfl (hb hby at_106) ?_
      show Steps p.tables e below (T478.setTop (mkF m 107 #[iv p0, iv p1, iv p2, rv b62, rv b109_68, iv (16 : Int32), rv a_NO_SLOTS, iv (1 : Int32), .unset, .unset, .unset, .unset, .unset] [(.int (1 : Int32))])) _
      refine XS.goto X478.here hx rfl (pc0 := 107) (pc' := 111) rfl (hb hby at_107) (by decide) (by decide) ?_
      show Steps p.tables e below (T478.setTop (mkF m 111 #[iv p0, iv p1, iv p2, rv b62, rv b109_68, iv (16 : Int32), rv a_NO_SLOTS, iv (1 : Int32), .unset, .unset, .unset, .unset, .unset] [(.int (1 : Int32))])) _
      refine XS.istore X478.here hx rfl (hb hby at_111) rfl (l' := #[iv p0, iv p1, iv p2, rv b62, rv b109_68, iv (16 : Int32), rv a_NO_SLOTS, iv (1 : Int32), iv (1 : Int32), .unset, .unset, .unset, .unset]) rfl ?_
      show Steps p.tables e below (T478.setTop (mkF m 113 #[iv p0, iv p1, iv p2, rv b62, rv b109_68, iv (16 : Int32), rv a_NO_SLOTS, iv (1 : Int32), iv (1 : Int32), .unset, .unset, .unset, .unset] [])) _
      refine XS.iloadN X478.here hx rfl (hb hby at_113) rfl ?_
      show Steps p.tables e below (T478.setTop (mkF m 114 #[iv p0, iv p1, iv p2, rv b62, rv b109_68, iv (16 : Int32), rv a_NO_SLOTS, iv (1 : Int32), iv (1 : Int32), .unset, .unset, .unset, .unset] [(.int p2)])) _
      refine XS.iconst X478.here hx rfl (hb hby at_114) ?_
      show Steps p.tables e below (T478.setTop (mkF m 115 #[iv p0, iv p1, iv p2, rv b62, rv b109_68, iv (16 : Int32), rv a_NO_SLOTS, iv (1 : Int32), iv (1 : Int32), .unset, .unset, .unset, .unset] [(.int (4 : Int32)), (.int p2)])) _
      refine XS.iand X478.here hx rfl (hb hby at_115) rfl ?_
      exact kt
    by_cases hc492 : (p2 &&& (4 : Int32)) = (0 : Int32)
    · have pre493 : ∀ t, Steps p.tables e below (T478.setTop (mkF m 128 #[iv p0, iv p1, iv p2, rv b62, rv b109_68, iv (16 : Int32), rv a_NO_SLOTS, iv (1 : Int32), iv (1 : Int32), .unset, .unset, .unset, .unset] [(.ref b62)])) t → Steps p.tables e below (s₁.setTop (entryFrame m #[(.int p0), (.int p1), (.int p2)] maxLocals)) t := fun t kt => by
        refine pre491 _ ?_
        show Steps p.tables e below (T478.setTop (mkF m 116 #[iv p0, iv p1, iv p2, rv b62, rv b109_68, iv (16 : Int32), rv a_NO_SLOTS, iv (1 : Int32), iv (1 : Int32), .unset, .unset, .unset, .unset] [(.int (p2 &&& (4 : Int32)))])) _
        refine XS.ifYes X478.here hx rfl (pc0 := 116) (pc' := 127) rfl (hb hby at_116) rfl (XT.i0_eq_t hc492) (by decide) (by decide) ?_
        show Steps p.tables e below (T478.setTop (mkF m 127 #[iv p0, iv p1, iv p2, rv b62, rv b109_68, iv (16 : Int32), rv a_NO_SLOTS, iv (1 : Int32), iv (1 : Int32), .unset, .unset, .unset, .unset] [])) _
        refine XS.aloadN X478.here hx rfl (hb hby at_127) rfl rfl ?_
        exact kt
      obtain ⟨cq494, kq494, q494a, q494b, q494c⟩ := isOf hZ e478 J408_0
      obtain ⟨_, _, ⟨T494, L494, k494, n494⟩, -, X494, ⟨Lc494, hQ494, l494, y494, z494⟩, st494⟩ := X478.virtualBack hx (y := (⟨"com/example/homethread/homethread/Items", "slots", "()[Ljava/lang/Object;"⟩ : MethodName)) (z := (⟨"com/example/homethread/homethread/Items", "slots", "()[Ljava/lang/Object;"⟩ : MethodName)) hown (mvT hZ (W 28 rfl)) (mvT hZ (W 29 rfl)) (notFace_of_selects (args := #[]) (mvT hZ (W 31 rfl))) (mvT hZ (W 31 rfl)) (mvT hZ (W 30 rfl)) (by decide) (backOf (W := 0) (rm_slots5_0 l Z a0 hw [] b62 a_NO_SLOTS h408 n0 O408 J408_1) hZ (W 32 rfl) (W 2 rfl) (by decide) (by decide)) q494a q494c (g := (mkF m 128 #[iv p0, iv p1, iv p2, rv b62, rv b109_68, iv (16 : Int32), rv a_NO_SLOTS, iv (1 : Int32), iv (1 : Int32), .unset, .unset, .unset, .unset] [(.ref b62)])) rfl (by rw [hml]; rfl) (Steps.refl _) (argsL := []) (rest := []) (lenOf pd_15 rfl) rfl (by show 2 * 0 + _ ≤ _; exact Nat.le_of_eq rfl) (hb hby at_128) (fun _ _ => ⟨rfl, e478, (by decide : 4 + 0 ≤ _), (by decide : 20 + 0 ≤ _)⟩)
      dsimp only [Pt.U, Pt.locs, Pt.cells, Pt.slots] at X494 l494 y494 z494 st494 hQ494
      replace l494 := l494.symm
      replace y494 : 4 = k494 := y494.symm
      replace z494 : 20 = n494 := z494.symm
      subst l494 y494 z494
      obtain ⟨rfl, M494, e494⟩ := hQ494
      have N494 := Fr.app N478 M494
      have pre495 : ∀ t, Steps p.tables e below (T494.setTop (mkF m 131 #[iv p0, iv p1, iv p2, rv b62, rv b109_68, iv (16 : Int32), rv a_NO_SLOTS, iv (1 : Int32), iv (1 : Int32), .unset, .unset, .unset, .unset] [(.ref a_NO_SLOTS)])) t → Steps p.tables e below (s₁.setTop (entryFrame m #[(.int p0), (.int p1), (.int p2)] maxLocals)) t := fun t kt => pre493 _ (st494.trans kt)
      have pre497 : ∀ t, Steps p.tables e below (T494.setTop (mkF m 135 #[iv p0, iv p1, iv p2, rv b62, rv b109_68, iv (16 : Int32), rv a_NO_SLOTS, iv (1 : Int32), iv (1 : Int32), rv a_NO_SLOTS, .unset, .unset, .unset] [(.ref a_NO_SLOTS)])) t → Steps p.tables e below (s₁.setTop (entryFrame m #[(.int p0), (.int p1), (.int p2)] maxLocals)) t := fun t kt => by
        refine pre495 _ ?_
        show Steps p.tables e below (T494.setTop (mkF m 131 #[iv p0, iv p1, iv p2, rv b62, rv b109_68, iv (16 : Int32), rv a_NO_SLOTS, iv (1 : Int32), iv (1 : Int32), .unset, .unset, .unset, .unset] [(.ref a_NO_SLOTS)])) _
        refine XS.astore X494.here hx rfl (hb hby at_131) rfl rfl (l' := #[iv p0, iv p1, iv p2, rv b62, rv b109_68, iv (16 : Int32), rv a_NO_SLOTS, iv (1 : Int32), iv (1 : Int32), rv a_NO_SLOTS, .unset, .unset, .unset]) rfl ?_
        show Steps p.tables e below (T494.setTop (mkF m 133 #[iv p0, iv p1, iv p2, rv b62, rv b109_68, iv (16 : Int32), rv a_NO_SLOTS, iv (1 : Int32), iv (1 : Int32), rv a_NO_SLOTS, .unset, .unset, .unset] [])) _
        refine XS.aload X494.here hx rfl (hb hby at_133) rfl rfl ?_
        exact kt
      obtain ⟨c496, Ar496, -, S496, M496, -, -⟩ := id (G6.ext O408.2)
      have pre498 : ∀ t, Steps p.tables e below (T494.setTop (mkF m 140 #[iv p0, iv p1, iv p2, rv b62, rv b109_68, iv (16 : Int32), rv a_NO_SLOTS, iv (1 : Int32), iv (1 : Int32), rv a_NO_SLOTS, iv (0 : Int32), .unset, .unset] [(.int p1), (.ref b62)])) t → Steps p.tables e below (s₁.setTop (entryFrame m #[(.int p0), (.int p1), (.int p2)] maxLocals)) t := fun t kt => by
        refine pre497 _ ?_
        show Steps p.tables e below (T494.setTop (mkF m 135 #[iv p0, iv p1, iv p2, rv b62, rv b109_68, iv (16 : Int32), rv a_NO_SLOTS, iv (1 : Int32), iv (1 : Int32), rv a_NO_SLOTS, .unset, .unset, .unset] [(.ref a_NO_SLOTS)])) _
        refine X494.arraylength hx (by rw [e494]; exact Ar496.1) (State.isArrayOf_alike hZ.alike Ar496.2.1) (g := (mkF m 135 #[iv p0, iv p1, iv p2, rv b62, rv b109_68, iv (16 : Int32), rv a_NO_SLOTS, iv (1 : Int32), iv (1 : Int32), rv a_NO_SLOTS, .unset, .unset, .unset] [(.ref a_NO_SLOTS)])) rfl rfl (hb hby at_135) _ ?_
        rw [len_of S496 M496]
        show Steps p.tables e below (T494.setTop (mkF m 136 #[iv p0, iv p1, iv p2, rv b62, rv b109_68, iv (16 : Int32), rv a_NO_SLOTS, iv (1 : Int32), iv (1 : Int32), rv a_NO_SLOTS, .unset, .unset, .unset] [(.int (0 : Int32))])) _
        refine XS.istore X494.here hx rfl (hb hby at_136) rfl (l' := #[iv p0, iv p1, iv p2, rv b62, rv b109_68, iv (16 : Int32), rv a_NO_SLOTS, iv (1 : Int32), iv (1 : Int32), rv a_NO_SLOTS, iv (0 : Int32), .unset, .unset]) rfl ?_
        show Steps p.tables e below (T494.setTop (mkF m 138 #[iv p0, iv p1, iv p2, rv b62, rv b109_68, iv (16 : Int32), rv a_NO_SLOTS, iv (1 : Int32), iv (1 : Int32), rv a_NO_SLOTS, iv (0 : Int32), .unset, .unset] [])) _
        refine XS.aloadN X494.here hx rfl (hb hby at_138) rfl rfl ?_
        show Steps p.tables e below (T494.setTop (mkF m 139 #[iv p0, iv p1, iv p2, rv b62, rv b109_68, iv (16 : Int32), rv a_NO_SLOTS, iv (1 : Int32), iv (1 : Int32), rv a_NO_SLOTS, iv (0 : Int32), .unset, .unset] [(.ref b62)])) _
        refine XS.iloadN X494.here hx rfl (hb hby at_139) rfl ?_
        exact kt
      by_cases hc504 : p1 < (0 : Int32)
      · obtain ⟨cq505, kq505, q505a, q505b, q505c⟩ := isOf hZ e494 J408_0
        obtain ⟨_, _, ⟨T505, L505, k505, n505⟩, -, X505, ⟨Lc505, hQ505, l505, y505, z505⟩, st505⟩ := X494.virtualBack hx (y := (⟨"com/example/homethread/homethread/Items", "clearAndTrim", "(I)V"⟩ : MethodName)) (z := (⟨"com/example/homethread/homethread/Items", "clearAndTrim", "(I)V"⟩ : MethodName)) hown (mvT hZ (W 33 rfl)) (mvT hZ (W 34 rfl)) (notFace_of_selects (args := #[]) (mvT hZ (W 36 rfl))) (mvT hZ (W 36 rfl)) (mvT hZ (W 35 rfl)) (by decide) (backOf (W := 0) (rm_clearAndTrim6_3 l Z a0 hw [] b62 p1 a_NO_SLOTS kn h408 n0 O408 G4 G6 g_b62 J408_0 J408_1 J408_2 hc504) hZ (W 37 rfl) (W 2 rfl) (by decide) (by decide)) q505a q505c (g := (mkF m 140 #[iv p0, iv p1, iv p2, rv b62, rv b109_68, iv (16 : Int32), rv a_NO_SLOTS, iv (1 : Int32), iv (1 : Int32), rv a_NO_SLOTS, iv (0 : Int32), .unset, .unset] [(.int p1), (.ref b62)])) rfl (by rw [hml]; rfl) (Steps.refl _) (argsL := [(.int p1)]) (rest := []) (lenOf pd_6 rfl) rfl (by show 2 * 0 + _ ≤ _; exact Nat.le_of_eq rfl) (hb hby at_140) (fun _ _ => ⟨rfl, e494, (by decide : 4 + 0 ≤ _), (by decide : 20 + 0 ≤ _)⟩)
        dsimp only [Pt.U, Pt.locs, Pt.cells, Pt.slots] at X505 l505 y505 z505 st505 hQ505
        replace l505 := l505.symm
        replace y505 : 4 = k505 := y505.symm
        replace z505 : 20 = n505 := z505.symm
        subst l505 y505 z505
        obtain ⟨rfl, M505, Kc505, O505, J505_0, J505_1, J505_2⟩ := hQ505
        obtain ⟨h505, e505⟩ : ∃ z, T505.heap = z := ⟨_, rfl⟩
        rw [e505] at Kc505 O505 J505_0 J505_1 J505_2
        have N505 := Fr.app N494 M505
        have K505 : Keep h0 h505 [] := K408.trans Kc505 (own_all1 (Or.inr sz_b62))
        have pre582 : ∀ t, Steps p.tables e below (T505.setTop (mkF m 143 #[iv p0, iv p1, iv p2, rv b62, rv b109_68, iv (16 : Int32), rv a_NO_SLOTS, iv (1 : Int32), iv (1 : Int32), rv a_NO_SLOTS, iv (0 : Int32), .unset, .unset] [])) t → Steps p.tables e below (s₁.setTop (entryFrame m #[(.int p0), (.int p1), (.int p2)] maxLocals)) t := fun t kt => pre498 _ (st505.trans kt)
        have F583 := F472.keep Kc505 (own_nm1 (fun q => ne_b62_b109_68 q.symm))
        have F584 := F473.keep Kc505
        have pre585 : ∀ t, Steps p.tables e below (T505.setTop (mkF m 157 #[iv p0, iv p1, iv p2, rv b62, rv b109_68, iv (16 : Int32), rv a_NO_SLOTS, iv (1 : Int32), iv (1 : Int32), rv a_NO_SLOTS, iv (0 : Int32), iv (1 : Int32), .unset] [(.ref b62)])) t → Steps p.tables e below (s₁.setTop (entryFrame m #[(.int p0), (.int p1), (.int p2)] maxLocals)) t := fun t kt => by
          refine pre582 _ ?_
          show Steps p.tables e below (T505.setTop (mkF m 143 #[iv p0, iv p1, iv p2, rv b62, rv b109_68, iv (16 : Int32), rv a_NO_SLOTS, iv (1 : Int32), iv (1 : Int32), rv a_NO_SLOTS, iv (0 : Int32), .unset, .unset] [])) _
          refine XS.iload X505.here hx rfl (hb hby at_143) rfl ?_
          show Steps p.tables e below (T505.setTop (mkF m 145 #[iv p0, iv p1, iv p2, rv b62, rv b109_68, iv (16 : Int32), rv a_NO_SLOTS, iv (1 : Int32), iv (1 : Int32), rv a_NO_SLOTS, iv (0 : Int32), .unset, .unset] [(.int (0 : Int32))])) _
          refine XS.iloadN X505.here hx rfl (hb hby at_145) rfl ?_
          show Steps p.tables e below (T505.setTop (mkF m 146 #[iv p0, iv p1, iv p2, rv b62, rv b109_68, iv (16 : Int32), rv a_NO_SLOTS, iv (1 : Int32), iv (1 : Int32), rv a_NO_SLOTS, iv (0 : Int32), .unset, .unset] [(.int p1), (.int (0 : Int32))])) _
          refine XS.icmpNo X505.here hx rfl (hb hby at_146) rfl (XT.ii_le_f hc504) ?_
          show Steps p.tables e below (T505.setTop (mkF m 149 #[iv p0, iv p1, iv p2, rv b62, rv b109_68, iv (16 : Int32), rv a_NO_SLOTS, iv (1 : Int32), iv (1 : Int32), rv a_NO_SLOTS, iv (0 : Int32), .unset, .unset] [])) _
          refine XS.iconst X505.here hx rfl (hb hby at_149) ?_
          show Steps p.tables e below (T505.setTop (mkF m 150 #[iv p0, iv p1, iv p2, rv b62, rv b109_68, iv (16 : Int32), rv a_NO_SLOTS, iv (1 : Int32), iv (1 : Int32), rv a_NO_SLOTS, iv (0 : Int32), .unset, .unset] [(.int (1 : Int32))])) _
          refine XS.goto X505.here hx rfl (pc0 := 150) (pc' := 154) rfl (hb hby at_150) (by decide) (by decide) ?_
          show Steps p.tables e below (T505.setTop (mkF m 154 #[iv p0, iv p1, iv p2, rv b62, rv b109_68, iv (16 : Int32), rv a_NO_SLOTS, iv (1 : Int32), iv (1 : Int32), rv a_NO_SLOTS, iv (0 : Int32), .unset, .unset] [(.int (1 : Int32))])) _
          refine XS.istore X505.here hx rfl (hb hby at_154) rfl (l' := #[iv p0, iv p1, iv p2, rv b62, rv b109_68, iv (16 : Int32), rv a_NO_SLOTS, iv (1 : Int32), iv (1 : Int32), rv a_NO_SLOTS, iv (0 : Int32), iv (1 : Int32), .unset]) rfl ?_
          show Steps p.tables e below (T505.setTop (mkF m 156 #[iv p0, iv p1, iv p2, rv b62, rv b109_68, iv (16 : Int32), rv a_NO_SLOTS, iv (1 : Int32), iv (1 : Int32), rv a_NO_SLOTS, iv (0 : Int32), iv (1 : Int32), .unset] [])) _
          refine XS.aloadN X505.here hx rfl (hb hby at_156) rfl rfl ?_
          exact kt
        obtain ⟨cq586, kq586, q586a, q586b, q586c⟩ := isOf hZ e505 J505_0
        obtain ⟨_, _, ⟨T586, L586, k586, n586⟩, -, X586, ⟨Lc586, hQ586, l586, y586, z586⟩, st586⟩ := X505.virtualBack hx (y := (⟨"com/example/homethread/homethread/Items", "size", "()I"⟩ : MethodName)) (z := (⟨"com/example/homethread/homethread/Items", "size", "()I"⟩ : MethodName)) hown (mvT hZ (W 40 rfl)) (mvT hZ (W 41 rfl)) (notFace_of_selects (args := #[]) (mvT hZ (W 43 rfl))) (mvT hZ (W 43 rfl)) (mvT hZ (W 42 rfl)) (by decide) (backOf (W := 0) (rm_size7_0 l Z a0 hw [] b62 h505 n0 O505 J505_2) hZ (W 44 rfl) (W 2 rfl) (by decide) (by decide)) q586a q586c (g := (mkF m 157 #[iv p0, iv p1, iv p2, rv b62, rv b109_68, iv (16 : Int32), rv a_NO_SLOTS, iv (1 : Int32), iv (1 : Int32), rv a_NO_SLOTS, iv (0 : Int32), iv (1 : Int32), .unset] [(.ref b62)])) rfl (by rw [hml]; rfl) (Steps.refl _) (argsL := []) (rest := []) (lenOf pd_18 rfl) rfl (by show 2 * 0 + _ ≤ _; exact Nat.le_of_eq rfl) (hb hby at_157) (fun _ _ => ⟨rfl, e505, (by decide : 4 + 0 ≤ _), (by decide : 20 + 0 ≤ _)⟩)
        dsimp only [Pt.U, Pt.locs, Pt.cells, Pt.slots] at X586 l586 y586 z586 st586 hQ586
        replace l586 := l586.symm
        replace y586 : 4 = k586 := y586.symm
        replace z586 : 20 = n586 := z586.symm
        subst l586 y586 z586
        obtain ⟨rfl, M586, e586⟩ := hQ586
        have N586 := Fr.app N505 M586
        have pre587 : ∀ t, Steps p.tables e below (T586.setTop (mkF m 160 #[iv p0, iv p1, iv p2, rv b62, rv b109_68, iv (16 : Int32), rv a_NO_SLOTS, iv (1 : Int32), iv (1 : Int32), rv a_NO_SLOTS, iv (0 : Int32), iv (1 : Int32), .unset] [(.int (0 : Int32))])) t → Steps p.tables e below (s₁.setTop (entryFrame m #[(.int p0), (.int p1), (.int p2)] maxLocals)) t := fun t kt => pre585 _ (st586.trans kt)
        have pre588 : ∀ t, Steps p.tables e below (T586.setTop (mkF m 169 #[iv p0, iv p1, iv p2, rv b62, rv b109_68, iv (16 : Int32), rv a_NO_SLOTS, iv (1 : Int32), iv (1 : Int32), rv a_NO_SLOTS, iv (0 : Int32), iv (1 : Int32), .unset] [(.ref b62)])) t → Steps p.tables e below (s₁.setTop (entryFrame m #[(.int p0), (.int p1), (.int p2)] maxLocals)) t := fun t kt => by
          refine pre587 _ ?_
          show Steps p.tables e below (T586.setTop (mkF m 160 #[iv p0, iv p1, iv p2, rv b62, rv b109_68, iv (16 : Int32), rv a_NO_SLOTS, iv (1 : Int32), iv (1 : Int32), rv a_NO_SLOTS, iv (0 : Int32), iv (1 : Int32), .unset] [(.int (0 : Int32))])) _
          refine XS.ifNo X586.here hx rfl (hb hby at_160) rfl (XT.i0_ne_f (by decide)) ?_
          show Steps p.tables e below (T586.setTop (mkF m 163 #[iv p0, iv p1, iv p2, rv b62, rv b109_68, iv (16 : Int32), rv a_NO_SLOTS, iv (1 : Int32), iv (1 : Int32), rv a_NO_SLOTS, iv (0 : Int32), iv (1 : Int32), .unset] [])) _
          refine XS.iload X586.here hx rfl (hb hby at_163) rfl ?_
          show Steps p.tables e below (T586.setTop (mkF m 165 #[iv p0, iv p1, iv p2, rv b62, rv b109_68, iv (16 : Int32), rv a_NO_SLOTS, iv (1 : Int32), iv (1 : Int32), rv a_NO_SLOTS, iv (0 : Int32), iv (1 : Int32), .unset] [(.int (1 : Int32))])) _
          refine XS.ifNo X586.here hx rfl (hb hby at_165) rfl (XT.i0_eq_f (by decide)) ?_
          show Steps p.tables e below (T586.setTop (mkF m 168 #[iv p0, iv p1, iv p2, rv b62, rv b109_68, iv (16 : Int32), rv a_NO_SLOTS, iv (1 : Int32), iv (1 : Int32), rv a_NO_SLOTS, iv (0 : Int32), iv (1 : Int32), .unset] [])) _
          refine XS.aloadN X586.here hx rfl (hb hby at_168) rfl rfl ?_
          exact kt
        obtain ⟨cq589, kq589, q589a, q589b, q589c⟩ := isOf hZ e586 J505_0
        obtain ⟨_, _, ⟨T589, L589, k589, n589⟩, -, X589, ⟨Lc589, hQ589, l589, y589, z589⟩, st589⟩ := X586.virtualBack hx (y := (⟨"com/example/homethread/homethread/Items", "slots", "()[Ljava/lang/Object;"⟩ : MethodName)) (z := (⟨"com/example/homethread/homethread/Items", "slots", "()[Ljava/lang/Object;"⟩ : MethodName)) hown (mvT hZ (W 28 rfl)) (mvT hZ (W 29 rfl)) (notFace_of_selects (args := #[]) (mvT hZ (W 31 rfl))) (mvT hZ (W 31 rfl)) (mvT hZ (W 30 rfl)) (by decide) (backOf (W := 0) (rm_slots5_0 l Z a0 hw [] b62 a_NO_SLOTS h505 n0 O505 J505_1) hZ (W 32 rfl) (W 2 rfl) (by decide) (by decide)) q589a q589c (g := (mkF m 169 #[iv p0, iv p1, iv p2, rv b62, rv b109_68, iv (16 : Int32), rv a_NO_SLOTS, iv (1 : Int32), iv (1 : Int32), rv a_NO_SLOTS, iv (0 : Int32), iv (1 : Int32), .unset] [(.ref b62)])) rfl (by rw [hml]; rfl) (Steps.refl _) (argsL := []) (rest := []) (lenOf pd_15 rfl) rfl (by show 2 * 0 + _ ≤ _; exact Nat.le_of_eq rfl) (hb hby at_169) (fun _ _ => ⟨rfl, e586, (by decide : 4 + 0 ≤ _), (by decide : 20 + 0 ≤ _)⟩)
        dsimp only [Pt.U, Pt.locs, Pt.cells, Pt.slots] at X589 l589 y589 z589 st589 hQ589
        replace l589 := l589.symm
        replace y589 : 4 = k589 := y589.symm
        replace z589 : 20 = n589 := z589.symm
        subst l589 y589 z589
        obtain ⟨rfl, M589, e589⟩ := hQ589
        have N589 := Fr.app N586 M589
        have pre590 : ∀ t, Steps p.tables e below (T589.setTop (mkF m 172 #[iv p0, iv p1, iv p2, rv b62, rv b109_68, iv (16 : Int32), rv a_NO_SLOTS, iv (1 : Int32), iv (1 : Int32), rv a_NO_SLOTS, iv (0 : Int32), iv (1 : Int32), .unset] [(.ref a_NO_SLOTS)])) t → Steps p.tables e below (s₁.setTop (entryFrame m #[(.int p0), (.int p1), (.int p2)] maxLocals)) t := fun t kt => pre588 _ (st589.trans kt)
        obtain ⟨c591, Ar591, -, S591, M591, -, -⟩ := id (G6.ext O505.2)
        have pre592 : ∀ t, Steps p.tables e below (T589.setTop (mkF m 210 #[iv p0, iv p1, iv p2, rv b62, rv b109_68, iv (16 : Int32), rv a_NO_SLOTS, iv (1 : Int32), iv (1 : Int32), rv a_NO_SLOTS, iv (0 : Int32), iv (1 : Int32), iv (1 : Int32)] [(.int (1 : Int32))])) t → Steps p.tables e below (s₁.setTop (entryFrame m #[(.int p0), (.int p1), (.int p2)] maxLocals)) t := fun t kt => by
          refine pre590 _ ?_
          show Steps p.tables e below (T589.setTop (mkF m 172 #[iv p0, iv p1, iv p2, rv b62, rv b109_68, iv (16 : Int32), rv a_NO_SLOTS, iv (1 : Int32), iv (1 : Int32), rv a_NO_SLOTS, iv (0 : Int32), iv (1 : Int32), .unset] [(.ref a_NO_SLOTS)])) _
          refine X589.arraylength hx (by rw [e589]; exact Ar591.1) (State.isArrayOf_alike hZ.alike Ar591.2.1) (g := (mkF m 172 #[iv p0, iv p1, iv p2, rv b62, rv b109_68, iv (16 : Int32), rv a_NO_SLOTS, iv (1 : Int32), iv (1 : Int32), rv a_NO_SLOTS, iv (0 : Int32), iv (1 : Int32), .unset] [(.ref a_NO_SLOTS)])) rfl rfl (hb hby at_172) _ ?_
          rw [len_of S591 M591]
          show Steps p.tables e below (T589.setTop (mkF m 173 #[iv p0, iv p1, iv p2, rv b62, rv b109_68, iv (16 : Int32), rv a_NO_SLOTS, iv (1 : Int32), iv (1 : Int32), rv a_NO_SLOTS, iv (0 : Int32), iv (1 : Int32), .unset] [(.int (0 : Int32))])) _
          refine XS.ifNo X589.here hx rfl (hb hby at_173) rfl (XT.i0_ne_f (by decide)) ?_
          show Steps p.tables e below (T589.setTop (mkF m 176 #[iv p0, iv p1, iv p2, rv b62, rv b109_68, iv (16 : Int32), rv a_NO_SLOTS, iv (1 : Int32), iv (1 : Int32), rv a_NO_SLOTS, iv (0 : Int32), iv (1 : Int32), .unset] [])) _
          refine XS.goto X589.here hx rfl (pc0 := 176) (pc' := 188) rfl (hb hby at_176) (by decide) (by decide) ?_
          show Steps p.tables e below (T589.setTop (mkF m 188 #[iv p0, iv p1, iv p2, rv b62, rv b109_68, iv (16 : Int32), rv a_NO_SLOTS, iv (1 : Int32), iv (1 : Int32), rv a_NO_SLOTS, iv (0 : Int32), iv (1 : Int32), .unset] [])) _
          refine XS.iconst X589.here hx rfl (hb hby at_188) ?_
          show Steps p.tables e below (T589.setTop (mkF m 189 #[iv p0, iv p1, iv p2, rv b62, rv b109_68, iv (16 : Int32), rv a_NO_SLOTS, iv (1 : Int32), iv (1 : Int32), rv a_NO_SLOTS, iv (0 : Int32), iv (1 : Int32), .unset] [(.int (1 : Int32))])) _
          refine XS.goto X589.here hx rfl (pc0 := 189) (pc' := 193) rfl (hb hby at_189) (by decide) (by decide) ?_
          show Steps p.tables e below (T589.setTop (mkF m 193 #[iv p0, iv p1, iv p2, rv b62, rv b109_68, iv (16 : Int32), rv a_NO_SLOTS, iv (1 : Int32), iv (1 : Int32), rv a_NO_SLOTS, iv (0 : Int32), iv (1 : Int32), .unset] [(.int (1 : Int32))])) _
          refine XS.istore X589.here hx rfl (hb hby at_193) rfl (l' := #[iv p0, iv p1, iv p2, rv b62, rv b109_68, iv (16 : Int32), rv a_NO_SLOTS, iv (1 : Int32), iv (1 : Int32), rv a_NO_SLOTS, iv (0 : Int32), iv (1 : Int32), iv (1 : Int32)]) rfl ?_
          show Steps p.tables e below (T589.setTop (mkF m 195 #[iv p0, iv p1, iv p2, rv b62, rv b109_68, iv (16 : Int32), rv a_NO_SLOTS, iv (1 : Int32), iv (1 : Int32), rv a_NO_SLOTS, iv (0 : Int32), iv (1 : Int32), iv (1 : Int32)] [])) _
          refine XS.iload X589.here hx rfl (hb hby at_195) rfl ?_
          show Steps p.tables e below (T589.setTop (mkF m 197 #[iv p0, iv p1, iv p2, rv b62, rv b109_68, iv (16 : Int32), rv a_NO_SLOTS, iv (1 : Int32), iv (1 : Int32), rv a_NO_SLOTS, iv (0 : Int32), iv (1 : Int32), iv (1 : Int32)] [(.int (1 : Int32))])) _
          refine XS.ifNo X589.here hx rfl (hb hby at_197) rfl (XT.i0_eq_f (by decide)) ?_
          show Steps p.tables e below (T589.setTop (mkF m 200 #[iv p0, iv p1, iv p2, rv b62, rv b109_68, iv (16 : Int32), rv a_NO_SLOTS, iv (1 : Int32), iv (1 : Int32), rv a_NO_SLOTS, iv (0 : Int32), iv (1 : Int32), iv (1 : Int32)] [])) _
          refine XS.iload X589.here hx rfl (hb hby at_200) rfl ?_
          show Steps p.tables e below (T589.setTop (mkF m 202 #[iv p0, iv p1, iv p2, rv b62, rv b109_68, iv (16 : Int32), rv a_NO_SLOTS, iv (1 : Int32), iv (1 : Int32), rv a_NO_SLOTS, iv (0 : Int32), iv (1 : Int32), iv (1 : Int32)] [(.int (1 : Int32))])) _
          refine XS.ifNo X589.here hx rfl (hb hby at_202) rfl (XT.i0_eq_f (by decide)) ?_
          show Steps p.tables e below (T589.setTop (mkF m 205 #[iv p0, iv p1, iv p2, rv b62, rv b109_68, iv (16 : Int32), rv a_NO_SLOTS, iv (1 : Int32), iv (1 : Int32), rv a_NO_SLOTS, iv (0 : Int32), iv (1 : Int32), iv (1 : Int32)] [])) _
          refine XS.iconst X589.here hx rfl (hb hby at_205) ?_
          show Steps p.tables e below (T589.setTop (mkF m 206 #[iv p0, iv p1, iv p2, rv b62, rv b109_68, iv (16 : Int32), rv a_NO_SLOTS, iv (1 : Int32), iv (1 : Int32), rv a_NO_SLOTS, iv (0 : Int32), iv (1 : Int32), iv (1 : Int32)] [(.int (1 : Int32))])) _
          refine XS.goto X589.here hx rfl (pc0 := 206) (pc' := 210) rfl (hb hby at_206) (by decide) (by decide) ?_
          exact kt
        obtain ⟨fs, hr, hrun, hended, hW, hsame⟩ := X589.leave (v := some (.int (1 : Int32))) (fun h => by rw [Bd.returns] at h; cases h)
        refine ⟨_, _, pre592 _ (retN X589 hx (t := .boolean) Bd.returns (by simp) (hb hby at_210) hr), hrun, hended, _, _, rfl, ?_, ⟨_, rfl⟩, hW, hsame.mono (by decide) (by decide)⟩
        show Q_law Z p0 p1 p2 ac mr a_NO_SLOTS kn h0 n0 _ T589.heap _
        rw [e589]
        exact ⟨rfl, N589⟩
      · obtain ⟨cq593, kq593, q593a, q593b, q593c⟩ := isOf hZ e494 J408_0
        obtain ⟨_, _, ⟨T593, L593, k593, n593⟩, -, X593, ⟨Lc593, hQ593, l593, y593, z593⟩, st593⟩ := X494.virtualBack hx (y := (⟨"com/example/homethread/homethread/Items", "clearAndTrim", "(I)V"⟩ : MethodName)) (z := (⟨"com/example/homethread/homethread/Items", "clearAndTrim", "(I)V"⟩ : MethodName)) hown (mvT hZ (W 33 rfl)) (mvT hZ (W 34 rfl)) (notFace_of_selects (args := #[]) (mvT hZ (W 36 rfl))) (mvT hZ (W 36 rfl)) (mvT hZ (W 35 rfl)) (by decide) (backOf (W := 0) (rm_clearAndTrim6_4 l Z a0 hw [] b62 p1 a_NO_SLOTS kn h408 n0 O408 G6 g_b62 J408_0 J408_1 J408_2 hc504) hZ (W 37 rfl) (W 2 rfl) (by decide) (by decide)) q593a q593c (g := (mkF m 140 #[iv p0, iv p1, iv p2, rv b62, rv b109_68, iv (16 : Int32), rv a_NO_SLOTS, iv (1 : Int32), iv (1 : Int32), rv a_NO_SLOTS, iv (0 : Int32), .unset, .unset] [(.int p1), (.ref b62)])) rfl (by rw [hml]; rfl) (Steps.refl _) (argsL := [(.int p1)]) (rest := []) (lenOf pd_6 rfl) rfl (by show 2 * 0 + _ ≤ _; exact Nat.le_of_eq rfl) (hb hby at_140) (fun _ _ => ⟨rfl, e494, (by decide : 4 + 0 ≤ _), (by decide : 20 + 0 ≤ _)⟩)
        dsimp only [Pt.U, Pt.locs, Pt.cells, Pt.slots] at X593 l593 y593 z593 st593 hQ593
        replace l593 := l593.symm
        replace y593 : 4 = k593 := y593.symm
        replace z593 : 20 = n593 := z593.symm
        subst l593 y593 z593
        obtain ⟨rfl, M593, Kc593, O593, J593_0, J593_1, J593_2⟩ := hQ593
        obtain ⟨h593, e593⟩ : ∃ z, T593.heap = z := ⟨_, rfl⟩
        rw [e593] at Kc593 O593 J593_0 J593_1 J593_2
        have N593 := Fr.app N494 M593
        have K593 : Keep h0 h593 [] := K408.trans Kc593 (own_all1 (Or.inr sz_b62))
        have pre636 : ∀ t, Steps p.tables e below (T593.setTop (mkF m 143 #[iv p0, iv p1, iv p2, rv b62, rv b109_68, iv (16 : Int32), rv a_NO_SLOTS, iv (1 : Int32), iv (1 : Int32), rv a_NO_SLOTS, iv (0 : Int32), .unset, .unset] [])) t → Steps p.tables e below (s₁.setTop (entryFrame m #[(.int p0), (.int p1), (.int p2)] maxLocals)) t := fun t kt => pre498 _ (st593.trans kt)
        have F637 := F472.keep Kc593 (own_nm1 (fun q => ne_b62_b109_68 q.symm))
        have F638 := F473.keep Kc593
        have pre639 : ∀ t, Steps p.tables e below (T593.setTop (mkF m 157 #[iv p0, iv p1, iv p2, rv b62, rv b109_68, iv (16 : Int32), rv a_NO_SLOTS, iv (1 : Int32), iv (1 : Int32), rv a_NO_SLOTS, iv (0 : Int32), iv (0 : Int32), .unset] [(.ref b62)])) t → Steps p.tables e below (s₁.setTop (entryFrame m #[(.int p0), (.int p1), (.int p2)] maxLocals)) t := fun t kt => by
          refine pre636 _ ?_
          show Steps p.tables e below (T593.setTop (mkF m 143 #[iv p0, iv p1, iv p2, rv b62, rv b109_68, iv (16 : Int32), rv a_NO_SLOTS, iv (1 : Int32), iv (1 : Int32), rv a_NO_SLOTS, iv (0 : Int32), .unset, .unset] [])) _
          refine XS.iload X593.here hx rfl (hb hby at_143) rfl ?_
          show Steps p.tables e below (T593.setTop (mkF m 145 #[iv p0, iv p1, iv p2, rv b62, rv b109_68, iv (16 : Int32), rv a_NO_SLOTS, iv (1 : Int32), iv (1 : Int32), rv a_NO_SLOTS, iv (0 : Int32), .unset, .unset] [(.int (0 : Int32))])) _
          refine XS.iloadN X593.here hx rfl (hb hby at_145) rfl ?_
          show Steps p.tables e below (T593.setTop (mkF m 146 #[iv p0, iv p1, iv p2, rv b62, rv b109_68, iv (16 : Int32), rv a_NO_SLOTS, iv (1 : Int32), iv (1 : Int32), rv a_NO_SLOTS, iv (0 : Int32), .unset, .unset] [(.int p1), (.int (0 : Int32))])) _
          refine XS.icmpYes X593.here hx rfl (pc0 := 146) (pc' := 153) rfl (hb hby at_146) rfl (XT.ii_le_t hc504) (by decide) (by decide) ?_
          show Steps p.tables e below (T593.setTop (mkF m 153 #[iv p0, iv p1, iv p2, rv b62, rv b109_68, iv (16 : Int32), rv a_NO_SLOTS, iv (1 : Int32), iv (1 : Int32), rv a_NO_SLOTS, iv (0 : Int32), .unset, .unset] [])) _
          refine XS.iconst X593.here hx rfl (hb hby at_153) ?_
          show Steps p.tables e below (T593.setTop (mkF m 154 #[iv p0, iv p1, iv p2, rv b62, rv b109_68, iv (16 : Int32), rv a_NO_SLOTS, iv (1 : Int32), iv (1 : Int32), rv a_NO_SLOTS, iv (0 : Int32), .unset, .unset] [(.int (0 : Int32))])) _
          refine XS.istore X593.here hx rfl (hb hby at_154) rfl (l' := #[iv p0, iv p1, iv p2, rv b62, rv b109_68, iv (16 : Int32), rv a_NO_SLOTS, iv (1 : Int32), iv (1 : Int32), rv a_NO_SLOTS, iv (0 : Int32), iv (0 : Int32), .unset]) rfl ?_
          show Steps p.tables e below (T593.setTop (mkF m 156 #[iv p0, iv p1, iv p2, rv b62, rv b109_68, iv (16 : Int32), rv a_NO_SLOTS, iv (1 : Int32), iv (1 : Int32), rv a_NO_SLOTS, iv (0 : Int32), iv (0 : Int32), .unset] [])) _
          refine XS.aloadN X593.here hx rfl (hb hby at_156) rfl rfl ?_
          exact kt
        obtain ⟨cq640, kq640, q640a, q640b, q640c⟩ := isOf hZ e593 J593_0
        obtain ⟨_, _, ⟨T640, L640, k640, n640⟩, -, X640, ⟨Lc640, hQ640, l640, y640, z640⟩, st640⟩ := X593.virtualBack hx (y := (⟨"com/example/homethread/homethread/Items", "size", "()I"⟩ : MethodName)) (z := (⟨"com/example/homethread/homethread/Items", "size", "()I"⟩ : MethodName)) hown (mvT hZ (W 40 rfl)) (mvT hZ (W 41 rfl)) (notFace_of_selects (args := #[]) (mvT hZ (W 43 rfl))) (mvT hZ (W 43 rfl)) (mvT hZ (W 42 rfl)) (by decide) (backOf (W := 0) (rm_size7_0 l Z a0 hw [] b62 h593 n0 O593 J593_2) hZ (W 44 rfl) (W 2 rfl) (by decide) (by decide)) q640a q640c (g := (mkF m 157 #[iv p0, iv p1, iv p2, rv b62, rv b109_68, iv (16 : Int32), rv a_NO_SLOTS, iv (1 : Int32), iv (1 : Int32), rv a_NO_SLOTS, iv (0 : Int32), iv (0 : Int32), .unset] [(.ref b62)])) rfl (by rw [hml]; rfl) (Steps.refl _) (argsL := []) (rest := []) (lenOf pd_18 rfl) rfl (by show 2 * 0 + _ ≤ _; exact Nat.le_of_eq rfl) (hb hby at_157) (fun _ _ => ⟨rfl, e593, (by decide : 4 + 0 ≤ _), (by decide : 20 + 0 ≤ _)⟩)
        dsimp only [Pt.U, Pt.locs, Pt.cells, Pt.slots] at X640 l640 y640 z640 st640 hQ640
        replace l640 := l640.symm
        replace y640 : 4 = k640 := y640.symm
        replace z640 : 20 = n640 := z640.symm
        subst l640 y640 z640
        obtain ⟨rfl, M640, e640⟩ := hQ640
        have N640 := Fr.app N593 M640
        have pre641 : ∀ t, Steps p.tables e below (T640.setTop (mkF m 160 #[iv p0, iv p1, iv p2, rv b62, rv b109_68, iv (16 : Int32), rv a_NO_SLOTS, iv (1 : Int32), iv (1 : Int32), rv a_NO_SLOTS, iv (0 : Int32), iv (0 : Int32), .unset] [(.int (0 : Int32))])) t → Steps p.tables e below (s₁.setTop (entryFrame m #[(.int p0), (.int p1), (.int p2)] maxLocals)) t := fun t kt => pre639 _ (st640.trans kt)
        have pre642 : ∀ t, Steps p.tables e below (T640.setTop (mkF m 180 #[iv p0, iv p1, iv p2, rv b62, rv b109_68, iv (16 : Int32), rv a_NO_SLOTS, iv (1 : Int32), iv (1 : Int32), rv a_NO_SLOTS, iv (0 : Int32), iv (0 : Int32), .unset] [(.ref b62)])) t → Steps p.tables e below (s₁.setTop (entryFrame m #[(.int p0), (.int p1), (.int p2)] maxLocals)) t := fun t kt => by
          refine pre641 _ ?_
          show Steps p.tables e below (T640.setTop (mkF m 160 #[iv p0, iv p1, iv p2, rv b62, rv b109_68, iv (16 : Int32), rv a_NO_SLOTS, iv (1 : Int32), iv (1 : Int32), rv a_NO_SLOTS, iv (0 : Int32), iv (0 : Int32), .unset] [(.int (0 : Int32))])) _
          refine XS.ifNo X640.here hx rfl (hb hby at_160) rfl (XT.i0_ne_f (by decide)) ?_
          show Steps p.tables e below (T640.setTop (mkF m 163 #[iv p0, iv p1, iv p2, rv b62, rv b109_68, iv (16 : Int32), rv a_NO_SLOTS, iv (1 : Int32), iv (1 : Int32), rv a_NO_SLOTS, iv (0 : Int32), iv (0 : Int32), .unset] [])) _
          refine XS.iload X640.here hx rfl (hb hby at_163) rfl ?_
          show Steps p.tables e below (T640.setTop (mkF m 165 #[iv p0, iv p1, iv p2, rv b62, rv b109_68, iv (16 : Int32), rv a_NO_SLOTS, iv (1 : Int32), iv (1 : Int32), rv a_NO_SLOTS, iv (0 : Int32), iv (0 : Int32), .unset] [(.int (0 : Int32))])) _
          refine XS.ifYes X640.here hx rfl (pc0 := 165) (pc' := 179) rfl (hb hby at_165) rfl (XT.i0_eq_t (by decide)) (by decide) (by decide) ?_
          show Steps p.tables e below (T640.setTop (mkF m 179 #[iv p0, iv p1, iv p2, rv b62, rv b109_68, iv (16 : Int32), rv a_NO_SLOTS, iv (1 : Int32), iv (1 : Int32), rv a_NO_SLOTS, iv (0 : Int32), iv (0 : Int32), .unset] [])) _
          refine XS.aloadN X640.here hx rfl (hb hby at_179) rfl rfl ?_
          exact kt
        obtain ⟨cq643, kq643, q643a, q643b, q643c⟩ := isOf hZ e640 J593_0
        obtain ⟨_, _, ⟨T643, L643, k643, n643⟩, -, X643, ⟨Lc643, hQ643, l643, y643, z643⟩, st643⟩ := X640.virtualBack hx (y := (⟨"com/example/homethread/homethread/Items", "slots", "()[Ljava/lang/Object;"⟩ : MethodName)) (z := (⟨"com/example/homethread/homethread/Items", "slots", "()[Ljava/lang/Object;"⟩ : MethodName)) hown (mvT hZ (W 28 rfl)) (mvT hZ (W 29 rfl)) (notFace_of_selects (args := #[]) (mvT hZ (W 31 rfl))) (mvT hZ (W 31 rfl)) (mvT hZ (W 30 rfl)) (by decide) (backOf (W := 0) (rm_slots5_0 l Z a0 hw [] b62 a_NO_SLOTS h593 n0 O593 J593_1) hZ (W 32 rfl) (W 2 rfl) (by decide) (by decide)) q643a q643c (g := (mkF m 180 #[iv p0, iv p1, iv p2, rv b62, rv b109_68, iv (16 : Int32), rv a_NO_SLOTS, iv (1 : Int32), iv (1 : Int32), rv a_NO_SLOTS, iv (0 : Int32), iv (0 : Int32), .unset] [(.ref b62)])) rfl (by rw [hml]; rfl) (Steps.refl _) (argsL := []) (rest := []) (lenOf pd_15 rfl) rfl (by show 2 * 0 + _ ≤ _; exact Nat.le_of_eq rfl) (hb hby at_180) (fun _ _ => ⟨rfl, e640, (by decide : 4 + 0 ≤ _), (by decide : 20 + 0 ≤ _)⟩)
        dsimp only [Pt.U, Pt.locs, Pt.cells, Pt.slots] at X643 l643 y643 z643 st643 hQ643
        replace l643 := l643.symm
        replace y643 : 4 = k643 := y643.symm
        replace z643 : 20 = n643 := z643.symm
        subst l643 y643 z643
        obtain ⟨rfl, M643, e643⟩ := hQ643
        have N643 := Fr.app N640 M643
        have pre644 : ∀ t, Steps p.tables e below (T643.setTop (mkF m 183 #[iv p0, iv p1, iv p2, rv b62, rv b109_68, iv (16 : Int32), rv a_NO_SLOTS, iv (1 : Int32), iv (1 : Int32), rv a_NO_SLOTS, iv (0 : Int32), iv (0 : Int32), .unset] [(.ref a_NO_SLOTS)])) t → Steps p.tables e below (s₁.setTop (entryFrame m #[(.int p0), (.int p1), (.int p2)] maxLocals)) t := fun t kt => pre642 _ (st643.trans kt)
        have pre645 : ∀ t, Steps p.tables e below (T643.setTop (mkF m 210 #[iv p0, iv p1, iv p2, rv b62, rv b109_68, iv (16 : Int32), rv a_NO_SLOTS, iv (1 : Int32), iv (1 : Int32), rv a_NO_SLOTS, iv (0 : Int32), iv (0 : Int32), iv (1 : Int32)] [(.int (1 : Int32))])) t → Steps p.tables e below (s₁.setTop (entryFrame m #[(.int p0), (.int p1), (.int p2)] maxLocals)) t := fun t kt => by
          refine pre644 _ ?_
          show Steps p.tables e below (T643.setTop (mkF m 183 #[iv p0, iv p1, iv p2, rv b62, rv b109_68, iv (16 : Int32), rv a_NO_SLOTS, iv (1 : Int32), iv (1 : Int32), rv a_NO_SLOTS, iv (0 : Int32), iv (0 : Int32), .unset] [(.ref a_NO_SLOTS)])) _
          refine XS.aload X643.here hx rfl (hb hby at_183) rfl rfl ?_
          show Steps p.tables e below (T643.setTop (mkF m 185 #[iv p0, iv p1, iv p2, rv b62, rv b109_68, iv (16 : Int32), rv a_NO_SLOTS, iv (1 : Int32), iv (1 : Int32), rv a_NO_SLOTS, iv (0 : Int32), iv (0 : Int32), .unset] [(.ref a_NO_SLOTS), (.ref a_NO_SLOTS)])) _
          refine Jvm.RoadKit.acmp (g := (mkF m 185 #[iv p0, iv p1, iv p2, rv b62, rv b109_68, iv (16 : Int32), rv a_NO_SLOTS, iv (1 : Int32), iv (1 : Int32), rv a_NO_SLOTS, iv (0 : Int32), iv (0 : Int32), .unset] [(.ref a_NO_SLOTS), (.ref a_NO_SLOTS)])) X643 hx rfl rfl rfl (pc0 := 185) (pc' := 188) (same := true) rfl (hb hby at_185) rfl (decide_eq_true rfl) (by decide) (by decide) ?_
          show Steps p.tables e below (T643.setTop (mkF m 188 #[iv p0, iv p1, iv p2, rv b62, rv b109_68, iv (16 : Int32), rv a_NO_SLOTS, iv (1 : Int32), iv (1 : Int32), rv a_NO_SLOTS, iv (0 : Int32), iv (0 : Int32), .unset] [])) _
          refine XS.iconst X643.here hx rfl (hb hby at_188) ?_
          show Steps p.tables e below (T643.setTop (mkF m 189 #[iv p0, iv p1, iv p2, rv b62, rv b109_68, iv (16 : Int32), rv a_NO_SLOTS, iv (1 : Int32), iv (1 : Int32), rv a_NO_SLOTS, iv (0 : Int32), iv (0 : Int32), .unset] [(.int (1 : Int32))])) _
          refine XS.goto X643.here hx rfl (pc0 := 189) (pc' := 193) rfl (hb hby at_189) (by decide) (by decide) ?_
          show Steps p.tables e below (T643.setTop (mkF m 193 #[iv p0, iv p1, iv p2, rv b62, rv b109_68, iv (16 : Int32), rv a_NO_SLOTS, iv (1 : Int32), iv (1 : Int32), rv a_NO_SLOTS, iv (0 : Int32), iv (0 : Int32), .unset] [(.int (1 : Int32))])) _
          refine XS.istore X643.here hx rfl (hb hby at_193) rfl (l' := #[iv p0, iv p1, iv p2, rv b62, rv b109_68, iv (16 : Int32), rv a_NO_SLOTS, iv (1 : Int32), iv (1 : Int32), rv a_NO_SLOTS, iv (0 : Int32), iv (0 : Int32), iv (1 : Int32)]) rfl ?_
          show Steps p.tables e below (T643.setTop (mkF m 195 #[iv p0, iv p1, iv p2, rv b62, rv b109_68, iv (16 : Int32), rv a_NO_SLOTS, iv (1 : Int32), iv (1 : Int32), rv a_NO_SLOTS, iv (0 : Int32), iv (0 : Int32), iv (1 : Int32)] [])) _
          refine XS.iload X643.here hx rfl (hb hby at_195) rfl ?_
          show Steps p.tables e below (T643.setTop (mkF m 197 #[iv p0, iv p1, iv p2, rv b62, rv b109_68, iv (16 : Int32), rv a_NO_SLOTS, iv (1 : Int32), iv (1 : Int32), rv a_NO_SLOTS, iv (0 : Int32), iv (0 : Int32), iv (1 : Int32)] [(.int (1 : Int32))])) _
          refine XS.ifNo X643.here hx rfl (hb hby at_197) rfl (XT.i0_eq_f (by decide)) ?_
          show Steps p.tables e below (T643.setTop (mkF m 200 #[iv p0, iv p1, iv p2, rv b62, rv b109_68, iv (16 : Int32), rv a_NO_SLOTS, iv (1 : Int32), iv (1 : Int32), rv a_NO_SLOTS, iv (0 : Int32), iv (0 : Int32), iv (1 : Int32)] [])) _
          refine XS.iload X643.here hx rfl (hb hby at_200) rfl ?_
          show Steps p.tables e below (T643.setTop (mkF m 202 #[iv p0, iv p1, iv p2, rv b62, rv b109_68, iv (16 : Int32), rv a_NO_SLOTS, iv (1 : Int32), iv (1 : Int32), rv a_NO_SLOTS, iv (0 : Int32), iv (0 : Int32), iv (1 : Int32)] [(.int (1 : Int32))])) _
          refine XS.ifNo X643.here hx rfl (hb hby at_202) rfl (XT.i0_eq_f (by decide)) ?_
          show Steps p.tables e below (T643.setTop (mkF m 205 #[iv p0, iv p1, iv p2, rv b62, rv b109_68, iv (16 : Int32), rv a_NO_SLOTS, iv (1 : Int32), iv (1 : Int32), rv a_NO_SLOTS, iv (0 : Int32), iv (0 : Int32), iv (1 : Int32)] [])) _
          refine XS.iconst X643.here hx rfl (hb hby at_205) ?_
          show Steps p.tables e below (T643.setTop (mkF m 206 #[iv p0, iv p1, iv p2, rv b62, rv b109_68, iv (16 : Int32), rv a_NO_SLOTS, iv (1 : Int32), iv (1 : Int32), rv a_NO_SLOTS, iv (0 : Int32), iv (0 : Int32), iv (1 : Int32)] [(.int (1 : Int32))])) _
          refine XS.goto X643.here hx rfl (pc0 := 206) (pc' := 210) rfl (hb hby at_206) (by decide) (by decide) ?_
          exact kt
        obtain ⟨fs, hr, hrun, hended, hW, hsame⟩ := X643.leave (v := some (.int (1 : Int32))) (fun h => by rw [Bd.returns] at h; cases h)
        refine ⟨_, _, pre645 _ (retN X643 hx (t := .boolean) Bd.returns (by simp) (hb hby at_210) hr), hrun, hended, _, _, rfl, ?_, ⟨_, rfl⟩, hW, hsame.mono (by decide) (by decide)⟩
        show Q_law Z p0 p1 p2 ac mr a_NO_SLOTS kn h0 n0 _ T643.heap _
        rw [e643]
        exact ⟨rfl, N643⟩
    · have pre646 : ∀ t, Steps p.tables e below (T478.setTop (mkF m 121 #[iv p0, iv p1, iv p2, rv b62, rv b109_68, iv (16 : Int32), rv a_NO_SLOTS, iv (1 : Int32), iv (1 : Int32), .unset, .unset, .unset, .unset] [(.int p1), (.ref b62)])) t → Steps p.tables e below (s₁.setTop (entryFrame m #[(.int p0), (.int p1), (.int p2)] maxLocals)) t := fun t kt => by
        refine pre491 _ ?_
        show Steps p.tables e below (T478.setTop (mkF m 116 #[iv p0, iv p1, iv p2, rv b62, rv b109_68, iv (16 : Int32), rv a_NO_SLOTS, iv (1 : Int32), iv (1 : Int32), .unset, .unset, .unset, .unset] [(.int (p2 &&& (4 : Int32)))])) _
        refine XS.ifNo X478.here hx rfl (hb hby at_116) rfl (XT.i0_eq_f hc492) ?_
        show Steps p.tables e below (T478.setTop (mkF m 119 #[iv p0, iv p1, iv p2, rv b62, rv b109_68, iv (16 : Int32), rv a_NO_SLOTS, iv (1 : Int32), iv (1 : Int32), .unset, .unset, .unset, .unset] [])) _
        refine XS.aloadN X478.here hx rfl (hb hby at_119) rfl rfl ?_
        show Steps p.tables e below (T478.setTop (mkF m 120 #[iv p0, iv p1, iv p2, rv b62, rv b109_68, iv (16 : Int32), rv a_NO_SLOTS, iv (1 : Int32), iv (1 : Int32), .unset, .unset, .unset, .unset] [(.ref b62)])) _
        refine XS.iloadN X478.here hx rfl (hb hby at_120) rfl ?_
        exact kt
      obtain ⟨_, _, ⟨T647, L647, k647, n647⟩, -, X647, ⟨Lc647, hQ647, l647, y647, z647⟩, st647⟩ := Jvm.LawKit.callS X478 hx (y := (⟨"java/lang/Integer", "valueOf", "(I)Ljava/lang/Integer;"⟩ : MethodName)) hown (mvT hZ (W 13 rfl)) (mvT hZ (W 14 rfl)) (mvT hZ (W 15 rfl)) (mvT hZ (W 16 rfl)) (by decide) (backOf (W := 1) (rm_valueOf l Z a0 hw [] p1 ac h408 n0 O408 G0 G1 G2) hZ (W 16 rfl) (W 15 rfl) (by decide) (by decide)) (g := (mkF m 121 #[iv p0, iv p1, iv p2, rv b62, rv b109_68, iv (16 : Int32), rv a_NO_SLOTS, iv (1 : Int32), iv (1 : Int32), .unset, .unset, .unset, .unset] [(.int p1), (.ref b62)])) rfl (by rw [hml]; rfl) (argsL := [(.int p1)]) (rest := [(.ref b62)]) (lenOf pd_11 rfl) rfl (by show 2 * 0 + _ ≤ _; exact Nat.le_of_eq rfl) (hb hby at_121) (fun _ _ => ⟨rfl, e478, (by decide : 4 + 1 ≤ _), (by decide : 20 + 1 ≤ _)⟩)
      dsimp only [Pt.U, Pt.locs, Pt.cells, Pt.slots] at X647 l647 y647 z647 st647 hQ647
      replace l647 := l647.symm
      replace y647 : 5 = k647 := y647.symm
      replace z647 : 21 = n647 := z647.symm
      subst l647 y647 z647
      obtain ⟨r_647, rfl, M647, Kc647, O647, J647_0⟩ := hQ647
      obtain ⟨h647, e647⟩ : ∃ z, T647.heap = z := ⟨_, rfl⟩
      rw [e647] at Kc647 O647 J647_0
      have N647 := Fr.app N478 M647
      have K647 : Keep h0 h647 [] := K408.trans Kc647 (own_all0 )
      have pre648 : ∀ t, Steps p.tables e below (T647.setTop (mkF m 124 #[iv p0, iv p1, iv p2, rv b62, rv b109_68, iv (16 : Int32), rv a_NO_SLOTS, iv (1 : Int32), iv (1 : Int32), .unset, .unset, .unset, .unset] [(.ref r_647), (.ref b62)])) t → Steps p.tables e below (s₁.setTop (entryFrame m #[(.int p0), (.int p1), (.int p2)] maxLocals)) t := fun t kt => pre646 _ (st647 _ kt)
      have F649 := F472.keep Kc647 (own_nm0 )
      have F650 := F473.keep Kc647
      have F651 := J408_0.keep Kc647
      have F652 := J408_1.keep Kc647 (own_nm0 )
      have F653 := J408_2.keep Kc647 (own_nm0 )
      obtain ⟨cq654, kq654, q654a, q654b, q654c⟩ := isOf hZ e647 F651
      obtain ⟨_, _, ⟨T654, L654, k654, n654⟩, -, X654, ⟨Lc654, hQ654, l654, y654, z654⟩, st654⟩ := X647.virtualBack hx (y := (⟨"com/example/homethread/homethread/Items", "add", "(Ljava/lang/Object;)V"⟩ : MethodName)) (z := (⟨"com/example/homethread/homethread/Items", "add", "(Ljava/lang/Object;)V"⟩ : MethodName)) hown (mvT hZ (W 20 rfl)) (mvT hZ (W 21 rfl)) (notFace_of_selects (args := #[]) (mvT hZ (W 23 rfl))) (mvT hZ (W 23 rfl)) (mvT hZ (W 22 rfl)) (by decide) (backOf (W := 0) (rm_add4_2 l Z a0 hw [] b62 r_647 mr a_NO_SLOTS kn k109_68 j125_1 j125_2 b109_68 h647 n0 O647 G3 G5 G6 g_b62 F649 F651 F652 F653 J647_0 (fun q => ne_b62_b109_68 q.symm)) hZ (W 24 rfl) (W 2 rfl) (by decide) (by decide)) q654a q654c (g := (mkF m 124 #[iv p0, iv p1, iv p2, rv b62, rv b109_68, iv (16 : Int32), rv a_NO_SLOTS, iv (1 : Int32), iv (1 : Int32), .unset, .unset, .unset, .unset] [(.ref r_647), (.ref b62)])) rfl (by rw [hml]; rfl) (Steps.refl _) (argsL := [(.ref r_647)]) (rest := []) (lenOf pd_13 rfl) rfl (by show 2 * 0 + _ ≤ _; exact Nat.le_of_eq rfl) (hb hby at_124) (fun _ _ => ⟨rfl, e647, (by decide : 5 + 1 ≤ _), (by decide : 21 + 16 ≤ _)⟩)
      dsimp only [Pt.U, Pt.locs, Pt.cells, Pt.slots] at X654 l654 y654 z654 st654 hQ654
      replace l654 := l654.symm
      replace y654 : 6 = k654 := y654.symm
      replace z654 : 37 = n654 := z654.symm
      subst l654 y654 z654
      obtain ⟨k762_654, b762_654, rfl, M654, Kc654, O654, J654_0, J654_1, J654_2, J654_3, J654_4, J654_5, P654_0⟩ := hQ654
      obtain ⟨h654, e654⟩ : ∃ z, T654.heap = z := ⟨_, rfl⟩
      rw [e654] at Kc654 O654 J654_0 J654_2 J654_3 J654_4 J654_5
      try rw [e654] at P654_0
      have N654 := Fr.app N647 M654
      have K654 : Keep h0 h654 [] := K647.trans Kc654 (own_all1 (Or.inr sz_b62))
      have pre978 : ∀ t, Steps p.tables e below (T654.setTop (mkF m 127 #[iv p0, iv p1, iv p2, rv b62, rv b109_68, iv (16 : Int32), rv a_NO_SLOTS, iv (1 : Int32), iv (1 : Int32), .unset, .unset, .unset, .unset] [])) t → Steps p.tables e below (s₁.setTop (entryFrame m #[(.int p0), (.int p1), (.int p2)] maxLocals)) t := fun t kt => pre648 _ (st654.trans kt)
      have F979 := F649.keep Kc654 (own_nm1 (fun q => ne_b62_b109_68 q.symm))
      have F980 := F650.keep Kc654
      have F981 := J647_0.keep Kc654
      have sz_b762_654 : h0.size ≤ b762_654 := Nat.le_trans K647.1 P654_0
      have ne_a_NO_SLOTS_b762_654 : a_NO_SLOTS ≠ b762_654 := Nat.ne_of_lt (Nat.lt_of_lt_of_le (G5.ext O647.2).lt P654_0)
      have ne_b109_68_b762_654 : b109_68 ≠ b762_654 := Nat.ne_of_lt (Nat.lt_of_lt_of_le F649.lt P654_0)
      have ne_b62_b762_654 : b62 ≠ b762_654 := Nat.ne_of_lt (Nat.lt_of_lt_of_le F651.lt P654_0)
      have ne_r_647_b762_654 : r_647 ≠ b762_654 := Nat.ne_of_lt (Nat.lt_of_lt_of_le J647_0.lt P654_0)
      have g_b762_654 : n0 ≤ b762_654 := Nat.le_trans (Nat.le_trans (Nat.le_of_eq O0.1.symm) O0.2.1) sz_b762_654
      have pre982 : ∀ t, Steps p.tables e below (T654.setTop (mkF m 128 #[iv p0, iv p1, iv p2, rv b62, rv b109_68, iv (16 : Int32), rv a_NO_SLOTS, iv (1 : Int32), iv (1 : Int32), .unset, .unset, .unset, .unset] [(.ref b62)])) t → Steps p.tables e below (s₁.setTop (entryFrame m #[(.int p0), (.int p1), (.int p2)] maxLocals)) t := fun t kt => by
        refine pre978 _ ?_
        show Steps p.tables e below (T654.setTop (mkF m 127 #[iv p0, iv p1, iv p2, rv b62, rv b109_68, iv (16 : Int32), rv a_NO_SLOTS, iv (1 : Int32), iv (1 : Int32), .unset, .unset, .unset, .unset] [])) _
        refine XS.aloadN X654.here hx rfl (hb hby at_127) rfl rfl ?_
        exact kt
      obtain ⟨cq983, kq983, q983a, q983b, q983c⟩ := isOf hZ e654 J654_0
      obtain ⟨_, _, ⟨T983, L983, k983, n983⟩, -, X983, ⟨Lc983, hQ983, l983, y983, z983⟩, st983⟩ := X654.virtualBack hx (y := (⟨"com/example/homethread/homethread/Items", "slots", "()[Ljava/lang/Object;"⟩ : MethodName)) (z := (⟨"com/example/homethread/homethread/Items", "slots", "()[Ljava/lang/Object;"⟩ : MethodName)) hown (mvT hZ (W 28 rfl)) (mvT hZ (W 29 rfl)) (notFace_of_selects (args := #[]) (mvT hZ (W 31 rfl))) (mvT hZ (W 31 rfl)) (mvT hZ (W 30 rfl)) (by decide) (backOf (W := 0) (rm_slots5_0 l Z a0 hw [] b62 b762_654 h654 n0 O654 J654_3) hZ (W 32 rfl) (W 2 rfl) (by decide) (by decide)) q983a q983c (g := (mkF m 128 #[iv p0, iv p1, iv p2, rv b62, rv b109_68, iv (16 : Int32), rv a_NO_SLOTS, iv (1 : Int32), iv (1 : Int32), .unset, .unset, .unset, .unset] [(.ref b62)])) rfl (by rw [hml]; rfl) (Steps.refl _) (argsL := []) (rest := []) (lenOf pd_15 rfl) rfl (by show 2 * 0 + _ ≤ _; exact Nat.le_of_eq rfl) (hb hby at_128) (fun _ _ => ⟨rfl, e654, (by decide : 6 + 0 ≤ _), (by decide : 37 + 0 ≤ _)⟩)
      dsimp only [Pt.U, Pt.locs, Pt.cells, Pt.slots] at X983 l983 y983 z983 st983 hQ983
      replace l983 := l983.symm
      replace y983 : 6 = k983 := y983.symm
      replace z983 : 37 = n983 := z983.symm
      subst l983 y983 z983
      obtain ⟨rfl, M983, e983⟩ := hQ983
      have N983 := Fr.app N654 M983
      have pre984 : ∀ t, Steps p.tables e below (T983.setTop (mkF m 131 #[iv p0, iv p1, iv p2, rv b62, rv b109_68, iv (16 : Int32), rv a_NO_SLOTS, iv (1 : Int32), iv (1 : Int32), .unset, .unset, .unset, .unset] [(.ref b762_654)])) t → Steps p.tables e below (s₁.setTop (entryFrame m #[(.int p0), (.int p1), (.int p2)] maxLocals)) t := fun t kt => pre982 _ (st983.trans kt)
      have pre986 : ∀ t, Steps p.tables e below (T983.setTop (mkF m 135 #[iv p0, iv p1, iv p2, rv b62, rv b109_68, iv (16 : Int32), rv a_NO_SLOTS, iv (1 : Int32), iv (1 : Int32), rv b762_654, .unset, .unset, .unset] [(.ref b762_654)])) t → Steps p.tables e below (s₁.setTop (entryFrame m #[(.int p0), (.int p1), (.int p2)] maxLocals)) t := fun t kt => by
        refine pre984 _ ?_
        show Steps p.tables e below (T983.setTop (mkF m 131 #[iv p0, iv p1, iv p2, rv b62, rv b109_68, iv (16 : Int32), rv a_NO_SLOTS, iv (1 : Int32), iv (1 : Int32), .unset, .unset, .unset, .unset] [(.ref b762_654)])) _
        refine XS.astore X983.here hx rfl (hb hby at_131) rfl rfl (l' := #[iv p0, iv p1, iv p2, rv b62, rv b109_68, iv (16 : Int32), rv a_NO_SLOTS, iv (1 : Int32), iv (1 : Int32), rv b762_654, .unset, .unset, .unset]) rfl ?_
        show Steps p.tables e below (T983.setTop (mkF m 133 #[iv p0, iv p1, iv p2, rv b62, rv b109_68, iv (16 : Int32), rv a_NO_SLOTS, iv (1 : Int32), iv (1 : Int32), rv b762_654, .unset, .unset, .unset] [])) _
        refine XS.aload X983.here hx rfl (hb hby at_133) rfl rfl ?_
        exact kt
      obtain ⟨c985, Ar985, -, S985, M985, -, -⟩ := id J654_4
      have pre987 : ∀ t, Steps p.tables e below (T983.setTop (mkF m 140 #[iv p0, iv p1, iv p2, rv b62, rv b109_68, iv (16 : Int32), rv a_NO_SLOTS, iv (1 : Int32), iv (1 : Int32), rv b762_654, iv (16 : Int32), .unset, .unset] [(.int p1), (.ref b62)])) t → Steps p.tables e below (s₁.setTop (entryFrame m #[(.int p0), (.int p1), (.int p2)] maxLocals)) t := fun t kt => by
        refine pre986 _ ?_
        show Steps p.tables e below (T983.setTop (mkF m 135 #[iv p0, iv p1, iv p2, rv b62, rv b109_68, iv (16 : Int32), rv a_NO_SLOTS, iv (1 : Int32), iv (1 : Int32), rv b762_654, .unset, .unset, .unset] [(.ref b762_654)])) _
        refine X983.arraylength hx (by rw [e983]; exact Ar985.1) (State.isArrayOf_alike hZ.alike Ar985.2.1) (g := (mkF m 135 #[iv p0, iv p1, iv p2, rv b62, rv b109_68, iv (16 : Int32), rv a_NO_SLOTS, iv (1 : Int32), iv (1 : Int32), rv b762_654, .unset, .unset, .unset] [(.ref b762_654)])) rfl rfl (hb hby at_135) _ ?_
        rw [len_of S985 M985]
        show Steps p.tables e below (T983.setTop (mkF m 136 #[iv p0, iv p1, iv p2, rv b62, rv b109_68, iv (16 : Int32), rv a_NO_SLOTS, iv (1 : Int32), iv (1 : Int32), rv b762_654, .unset, .unset, .unset] [(.int (16 : Int32))])) _
        refine XS.istore X983.here hx rfl (hb hby at_136) rfl (l' := #[iv p0, iv p1, iv p2, rv b62, rv b109_68, iv (16 : Int32), rv a_NO_SLOTS, iv (1 : Int32), iv (1 : Int32), rv b762_654, iv (16 : Int32), .unset, .unset]) rfl ?_
        show Steps p.tables e below (T983.setTop (mkF m 138 #[iv p0, iv p1, iv p2, rv b62, rv b109_68, iv (16 : Int32), rv a_NO_SLOTS, iv (1 : Int32), iv (1 : Int32), rv b762_654, iv (16 : Int32), .unset, .unset] [])) _
        refine XS.aloadN X983.here hx rfl (hb hby at_138) rfl rfl ?_
        show Steps p.tables e below (T983.setTop (mkF m 139 #[iv p0, iv p1, iv p2, rv b62, rv b109_68, iv (16 : Int32), rv a_NO_SLOTS, iv (1 : Int32), iv (1 : Int32), rv b762_654, iv (16 : Int32), .unset, .unset] [(.ref b62)])) _
        refine XS.iloadN X983.here hx rfl (hb hby at_139) rfl ?_
        exact kt
      by_cases hc993 : p1 < (16 : Int32)
      · obtain ⟨cq994, kq994, q994a, q994b, q994c⟩ := isOf hZ e983 J654_0
        obtain ⟨_, _, ⟨T994, L994, k994, n994⟩, -, X994, ⟨Lc994, hQ994, l994, y994, z994⟩, st994⟩ := X983.virtualBack hx (y := (⟨"com/example/homethread/homethread/Items", "clearAndTrim", "(I)V"⟩ : MethodName)) (z := (⟨"com/example/homethread/homethread/Items", "clearAndTrim", "(I)V"⟩ : MethodName)) hown (mvT hZ (W 33 rfl)) (mvT hZ (W 34 rfl)) (notFace_of_selects (args := #[]) (mvT hZ (W 36 rfl))) (mvT hZ (W 36 rfl)) (mvT hZ (W 35 rfl)) (by decide) (backOf (W := 0) (rm_clearAndTrim6_1 l Z a0 hw [] b62 p1 a_NO_SLOTS k762_654 ((1 : Int32)) ((.ref r_647)) .null b762_654 h654 n0 O654 G4 g_b62 J654_0 J654_5 J654_4 J654_3 (fun q => ne_b62_b762_654 q.symm) hc993) hZ (W 37 rfl) (W 2 rfl) (by decide) (by decide)) q994a q994c (g := (mkF m 140 #[iv p0, iv p1, iv p2, rv b62, rv b109_68, iv (16 : Int32), rv a_NO_SLOTS, iv (1 : Int32), iv (1 : Int32), rv b762_654, iv (16 : Int32), .unset, .unset] [(.int p1), (.ref b62)])) rfl (by rw [hml]; rfl) (Steps.refl _) (argsL := [(.int p1)]) (rest := []) (lenOf pd_6 rfl) rfl (by show 2 * 0 + _ ≤ _; exact Nat.le_of_eq rfl) (hb hby at_140) (fun _ _ => ⟨rfl, e983, (by decide : 6 + 0 ≤ _), (by decide : 37 + 0 ≤ _)⟩)
        dsimp only [Pt.U, Pt.locs, Pt.cells, Pt.slots] at X994 l994 y994 z994 st994 hQ994
        replace l994 := l994.symm
        replace y994 : 6 = k994 := y994.symm
        replace z994 : 37 = n994 := z994.symm
        subst l994 y994 z994
        obtain ⟨rfl, M994, Kc994, O994, J994_0, J994_1, J994_2⟩ := hQ994
        obtain ⟨h994, e994⟩ : ∃ z, T994.heap = z := ⟨_, rfl⟩
        rw [e994] at Kc994 O994 J994_0 J994_1 J994_2
        have N994 := Fr.app N983 M994
        have K994 : Keep h0 h994 [] := K654.trans Kc994 (own_all1 (Or.inr sz_b62))
        have pre995 : ∀ t, Steps p.tables e below (T994.setTop (mkF m 143 #[iv p0, iv p1, iv p2, rv b62, rv b109_68, iv (16 : Int32), rv a_NO_SLOTS, iv (1 : Int32), iv (1 : Int32), rv b762_654, iv (16 : Int32), .unset, .unset] [])) t → Steps p.tables e below (s₁.setTop (entryFrame m #[(.int p0), (.int p1), (.int p2)] maxLocals)) t := fun t kt => pre987 _ (st994.trans kt)
        have F996 := F979.keep Kc994 (own_nm1 (fun q => ne_b62_b109_68 q.symm))
        have F997 := F980.keep Kc994
        have F998 := F981.keep Kc994
        have F999 := J654_2.keep Kc994
        have F1000 := J654_4.keep Kc994 (own_nm1 (fun q => ne_b62_b762_654 q.symm))
        have pre1001 : ∀ t, Steps p.tables e below (T994.setTop (mkF m 157 #[iv p0, iv p1, iv p2, rv b62, rv b109_68, iv (16 : Int32), rv a_NO_SLOTS, iv (1 : Int32), iv (1 : Int32), rv b762_654, iv (16 : Int32), iv (1 : Int32), .unset] [(.ref b62)])) t → Steps p.tables e below (s₁.setTop (entryFrame m #[(.int p0), (.int p1), (.int p2)] maxLocals)) t := fun t kt => by
          refine pre995 _ ?_
          show Steps p.tables e below (T994.setTop (mkF m 143 #[iv p0, iv p1, iv p2, rv b62, rv b109_68, iv (16 : Int32), rv a_NO_SLOTS, iv (1 : Int32), iv (1 : Int32), rv b762_654, iv (16 : Int32), .unset, .unset] [])) _
          refine XS.iload X994.here hx rfl (hb hby at_143) rfl ?_
          show Steps p.tables e below (T994.setTop (mkF m 145 #[iv p0, iv p1, iv p2, rv b62, rv b109_68, iv (16 : Int32), rv a_NO_SLOTS, iv (1 : Int32), iv (1 : Int32), rv b762_654, iv (16 : Int32), .unset, .unset] [(.int (16 : Int32))])) _
          refine XS.iloadN X994.here hx rfl (hb hby at_145) rfl ?_
          show Steps p.tables e below (T994.setTop (mkF m 146 #[iv p0, iv p1, iv p2, rv b62, rv b109_68, iv (16 : Int32), rv a_NO_SLOTS, iv (1 : Int32), iv (1 : Int32), rv b762_654, iv (16 : Int32), .unset, .unset] [(.int p1), (.int (16 : Int32))])) _
          refine XS.icmpNo X994.here hx rfl (hb hby at_146) rfl (XT.ii_le_f hc993) ?_
          show Steps p.tables e below (T994.setTop (mkF m 149 #[iv p0, iv p1, iv p2, rv b62, rv b109_68, iv (16 : Int32), rv a_NO_SLOTS, iv (1 : Int32), iv (1 : Int32), rv b762_654, iv (16 : Int32), .unset, .unset] [])) _
          refine XS.iconst X994.here hx rfl (hb hby at_149) ?_
          show Steps p.tables e below (T994.setTop (mkF m 150 #[iv p0, iv p1, iv p2, rv b62, rv b109_68, iv (16 : Int32), rv a_NO_SLOTS, iv (1 : Int32), iv (1 : Int32), rv b762_654, iv (16 : Int32), .unset, .unset] [(.int (1 : Int32))])) _
          refine XS.goto X994.here hx rfl (pc0 := 150) (pc' := 154) rfl (hb hby at_150) (by decide) (by decide) ?_
          show Steps p.tables e below (T994.setTop (mkF m 154 #[iv p0, iv p1, iv p2, rv b62, rv b109_68, iv (16 : Int32), rv a_NO_SLOTS, iv (1 : Int32), iv (1 : Int32), rv b762_654, iv (16 : Int32), .unset, .unset] [(.int (1 : Int32))])) _
          refine XS.istore X994.here hx rfl (hb hby at_154) rfl (l' := #[iv p0, iv p1, iv p2, rv b62, rv b109_68, iv (16 : Int32), rv a_NO_SLOTS, iv (1 : Int32), iv (1 : Int32), rv b762_654, iv (16 : Int32), iv (1 : Int32), .unset]) rfl ?_
          show Steps p.tables e below (T994.setTop (mkF m 156 #[iv p0, iv p1, iv p2, rv b62, rv b109_68, iv (16 : Int32), rv a_NO_SLOTS, iv (1 : Int32), iv (1 : Int32), rv b762_654, iv (16 : Int32), iv (1 : Int32), .unset] [])) _
          refine XS.aloadN X994.here hx rfl (hb hby at_156) rfl rfl ?_
          exact kt
        obtain ⟨cq1002, kq1002, q1002a, q1002b, q1002c⟩ := isOf hZ e994 J994_0
        obtain ⟨_, _, ⟨T1002, L1002, k1002, n1002⟩, -, X1002, ⟨Lc1002, hQ1002, l1002, y1002, z1002⟩, st1002⟩ := X994.virtualBack hx (y := (⟨"com/example/homethread/homethread/Items", "size", "()I"⟩ : MethodName)) (z := (⟨"com/example/homethread/homethread/Items", "size", "()I"⟩ : MethodName)) hown (mvT hZ (W 40 rfl)) (mvT hZ (W 41 rfl)) (notFace_of_selects (args := #[]) (mvT hZ (W 43 rfl))) (mvT hZ (W 43 rfl)) (mvT hZ (W 42 rfl)) (by decide) (backOf (W := 0) (rm_size7_0 l Z a0 hw [] b62 h994 n0 O994 J994_2) hZ (W 44 rfl) (W 2 rfl) (by decide) (by decide)) q1002a q1002c (g := (mkF m 157 #[iv p0, iv p1, iv p2, rv b62, rv b109_68, iv (16 : Int32), rv a_NO_SLOTS, iv (1 : Int32), iv (1 : Int32), rv b762_654, iv (16 : Int32), iv (1 : Int32), .unset] [(.ref b62)])) rfl (by rw [hml]; rfl) (Steps.refl _) (argsL := []) (rest := []) (lenOf pd_18 rfl) rfl (by show 2 * 0 + _ ≤ _; exact Nat.le_of_eq rfl) (hb hby at_157) (fun _ _ => ⟨rfl, e994, (by decide : 6 + 0 ≤ _), (by decide : 37 + 0 ≤ _)⟩)
        dsimp only [Pt.U, Pt.locs, Pt.cells, Pt.slots] at X1002 l1002 y1002 z1002 st1002 hQ1002
        replace l1002 := l1002.symm
        replace y1002 : 6 = k1002 := y1002.symm
        replace z1002 : 37 = n1002 := z1002.symm
        subst l1002 y1002 z1002
        obtain ⟨rfl, M1002, e1002⟩ := hQ1002
        have N1002 := Fr.app N994 M1002
        have pre1003 : ∀ t, Steps p.tables e below (T1002.setTop (mkF m 160 #[iv p0, iv p1, iv p2, rv b62, rv b109_68, iv (16 : Int32), rv a_NO_SLOTS, iv (1 : Int32), iv (1 : Int32), rv b762_654, iv (16 : Int32), iv (1 : Int32), .unset] [(.int (0 : Int32))])) t → Steps p.tables e below (s₁.setTop (entryFrame m #[(.int p0), (.int p1), (.int p2)] maxLocals)) t := fun t kt => pre1001 _ (st1002.trans kt)
        have pre1004 : ∀ t, Steps p.tables e below (T1002.setTop (mkF m 169 #[iv p0, iv p1, iv p2, rv b62, rv b109_68, iv (16 : Int32), rv a_NO_SLOTS, iv (1 : Int32), iv (1 : Int32), rv b762_654, iv (16 : Int32), iv (1 : Int32), .unset] [(.ref b62)])) t → Steps p.tables e below (s₁.setTop (entryFrame m #[(.int p0), (.int p1), (.int p2)] maxLocals)) t := fun t kt => by
          refine pre1003 _ ?_
          show Steps p.tables e below (T1002.setTop (mkF m 160 #[iv p0, iv p1, iv p2, rv b62, rv b109_68, iv (16 : Int32), rv a_NO_SLOTS, iv (1 : Int32), iv (1 : Int32), rv b762_654, iv (16 : Int32), iv (1 : Int32), .unset] [(.int (0 : Int32))])) _
          refine XS.ifNo X1002.here hx rfl (hb hby at_160) rfl (XT.i0_ne_f (by decide)) ?_
          show Steps p.tables e below (T1002.setTop (mkF m 163 #[iv p0, iv p1, iv p2, rv b62, rv b109_68, iv (16 : Int32), rv a_NO_SLOTS, iv (1 : Int32), iv (1 : Int32), rv b762_654, iv (16 : Int32), iv (1 : Int32), .unset] [])) _
          refine XS.iload X1002.here hx rfl (hb hby at_163) rfl ?_
          show Steps p.tables e below (T1002.setTop (mkF m 165 #[iv p0, iv p1, iv p2, rv b62, rv b109_68, iv (16 : Int32), rv a_NO_SLOTS, iv (1 : Int32), iv (1 : Int32), rv b762_654, iv (16 : Int32), iv (1 : Int32), .unset] [(.int (1 : Int32))])) _
          refine XS.ifNo X1002.here hx rfl (hb hby at_165) rfl (XT.i0_eq_f (by decide)) ?_
          show Steps p.tables e below (T1002.setTop (mkF m 168 #[iv p0, iv p1, iv p2, rv b62, rv b109_68, iv (16 : Int32), rv a_NO_SLOTS, iv (1 : Int32), iv (1 : Int32), rv b762_654, iv (16 : Int32), iv (1 : Int32), .unset] [])) _
          refine XS.aloadN X1002.here hx rfl (hb hby at_168) rfl rfl ?_
          exact kt
        obtain ⟨cq1005, kq1005, q1005a, q1005b, q1005c⟩ := isOf hZ e1002 J994_0
        obtain ⟨_, _, ⟨T1005, L1005, k1005, n1005⟩, -, X1005, ⟨Lc1005, hQ1005, l1005, y1005, z1005⟩, st1005⟩ := X1002.virtualBack hx (y := (⟨"com/example/homethread/homethread/Items", "slots", "()[Ljava/lang/Object;"⟩ : MethodName)) (z := (⟨"com/example/homethread/homethread/Items", "slots", "()[Ljava/lang/Object;"⟩ : MethodName)) hown (mvT hZ (W 28 rfl)) (mvT hZ (W 29 rfl)) (notFace_of_selects (args := #[]) (mvT hZ (W 31 rfl))) (mvT hZ (W 31 rfl)) (mvT hZ (W 30 rfl)) (by decide) (backOf (W := 0) (rm_slots5_0 l Z a0 hw [] b62 a_NO_SLOTS h994 n0 O994 J994_1) hZ (W 32 rfl) (W 2 rfl) (by decide) (by decide)) q1005a q1005c (g := (mkF m 169 #[iv p0, iv p1, iv p2, rv b62, rv b109_68, iv (16 : Int32), rv a_NO_SLOTS, iv (1 : Int32), iv (1 : Int32), rv b762_654, iv (16 : Int32), iv (1 : Int32), .unset] [(.ref b62)])) rfl (by rw [hml]; rfl) (Steps.refl _) (argsL := []) (rest := []) (lenOf pd_15 rfl) rfl (by show 2 * 0 + _ ≤ _; exact Nat.le_of_eq rfl) (hb hby at_169) (fun _ _ => ⟨rfl, e1002, (by decide : 6 + 0 ≤ _), (by decide : 37 + 0 ≤ _)⟩)
        dsimp only [Pt.U, Pt.locs, Pt.cells, Pt.slots] at X1005 l1005 y1005 z1005 st1005 hQ1005
        replace l1005 := l1005.symm
        replace y1005 : 6 = k1005 := y1005.symm
        replace z1005 : 37 = n1005 := z1005.symm
        subst l1005 y1005 z1005
        obtain ⟨rfl, M1005, e1005⟩ := hQ1005
        have N1005 := Fr.app N1002 M1005
        have pre1006 : ∀ t, Steps p.tables e below (T1005.setTop (mkF m 172 #[iv p0, iv p1, iv p2, rv b62, rv b109_68, iv (16 : Int32), rv a_NO_SLOTS, iv (1 : Int32), iv (1 : Int32), rv b762_654, iv (16 : Int32), iv (1 : Int32), .unset] [(.ref a_NO_SLOTS)])) t → Steps p.tables e below (s₁.setTop (entryFrame m #[(.int p0), (.int p1), (.int p2)] maxLocals)) t := fun t kt => pre1004 _ (st1005.trans kt)
        obtain ⟨c1007, Ar1007, -, S1007, M1007, -, -⟩ := id (G6.ext O994.2)
        have pre1008 : ∀ t, Steps p.tables e below (T1005.setTop (mkF m 210 #[iv p0, iv p1, iv p2, rv b62, rv b109_68, iv (16 : Int32), rv a_NO_SLOTS, iv (1 : Int32), iv (1 : Int32), rv b762_654, iv (16 : Int32), iv (1 : Int32), iv (1 : Int32)] [(.int (1 : Int32))])) t → Steps p.tables e below (s₁.setTop (entryFrame m #[(.int p0), (.int p1), (.int p2)] maxLocals)) t := fun t kt => by
          refine pre1006 _ ?_
          show Steps p.tables e below (T1005.setTop (mkF m 172 #[iv p0, iv p1, iv p2, rv b62, rv b109_68, iv (16 : Int32), rv a_NO_SLOTS, iv (1 : Int32), iv (1 : Int32), rv b762_654, iv (16 : Int32), iv (1 : Int32), .unset] [(.ref a_NO_SLOTS)])) _
          refine X1005.arraylength hx (by rw [e1005]; exact Ar1007.1) (State.isArrayOf_alike hZ.alike Ar1007.2.1) (g := (mkF m 172 #[iv p0, iv p1, iv p2, rv b62, rv b109_68, iv (16 : Int32), rv a_NO_SLOTS, iv (1 : Int32), iv (1 : Int32), rv b762_654, iv (16 : Int32), iv (1 : Int32), .unset] [(.ref a_NO_SLOTS)])) rfl rfl (hb hby at_172) _ ?_
          rw [len_of S1007 M1007]
          show Steps p.tables e below (T1005.setTop (mkF m 173 #[iv p0, iv p1, iv p2, rv b62, rv b109_68, iv (16 : Int32), rv a_NO_SLOTS, iv (1 : Int32), iv (1 : Int32), rv b762_654, iv (16 : Int32), iv (1 : Int32), .unset] [(.int (0 : Int32))])) _
          refine XS.ifNo X1005.here hx rfl (hb hby at_173) rfl (XT.i0_ne_f (by decide)) ?_
          show Steps p.tables e below (T1005.setTop (mkF m 176 #[iv p0, iv p1, iv p2, rv b62, rv b109_68, iv (16 : Int32), rv a_NO_SLOTS, iv (1 : Int32), iv (1 : Int32), rv b762_654, iv (16 : Int32), iv (1 : Int32), .unset] [])) _
          refine XS.goto X1005.here hx rfl (pc0 := 176) (pc' := 188) rfl (hb hby at_176) (by decide) (by decide) ?_
          show Steps p.tables e below (T1005.setTop (mkF m 188 #[iv p0, iv p1, iv p2, rv b62, rv b109_68, iv (16 : Int32), rv a_NO_SLOTS, iv (1 : Int32), iv (1 : Int32), rv b762_654, iv (16 : Int32), iv (1 : Int32), .unset] [])) _
          refine XS.iconst X1005.here hx rfl (hb hby at_188) ?_
          show Steps p.tables e below (T1005.setTop (mkF m 189 #[iv p0, iv p1, iv p2, rv b62, rv b109_68, iv (16 : Int32), rv a_NO_SLOTS, iv (1 : Int32), iv (1 : Int32), rv b762_654, iv (16 : Int32), iv (1 : Int32), .unset] [(.int (1 : Int32))])) _
          refine XS.goto X1005.here hx rfl (pc0 := 189) (pc' := 193) rfl (hb hby at_189) (by decide) (by decide) ?_
          show Steps p.tables e below (T1005.setTop (mkF m 193 #[iv p0, iv p1, iv p2, rv b62, rv b109_68, iv (16 : Int32), rv a_NO_SLOTS, iv (1 : Int32), iv (1 : Int32), rv b762_654, iv (16 : Int32), iv (1 : Int32), .unset] [(.int (1 : Int32))])) _
          refine XS.istore X1005.here hx rfl (hb hby at_193) rfl (l' := #[iv p0, iv p1, iv p2, rv b62, rv b109_68, iv (16 : Int32), rv a_NO_SLOTS, iv (1 : Int32), iv (1 : Int32), rv b762_654, iv (16 : Int32), iv (1 : Int32), iv (1 : Int32)]) rfl ?_
          show Steps p.tables e below (T1005.setTop (mkF m 195 #[iv p0, iv p1, iv p2, rv b62, rv b109_68, iv (16 : Int32), rv a_NO_SLOTS, iv (1 : Int32), iv (1 : Int32), rv b762_654, iv (16 : Int32), iv (1 : Int32), iv (1 : Int32)] [])) _
          refine XS.iload X1005.here hx rfl (hb hby at_195) rfl ?_
          show Steps p.tables e below (T1005.setTop (mkF m 197 #[iv p0, iv p1, iv p2, rv b62, rv b109_68, iv (16 : Int32), rv a_NO_SLOTS, iv (1 : Int32), iv (1 : Int32), rv b762_654, iv (16 : Int32), iv (1 : Int32), iv (1 : Int32)] [(.int (1 : Int32))])) _
          refine XS.ifNo X1005.here hx rfl (hb hby at_197) rfl (XT.i0_eq_f (by decide)) ?_
          show Steps p.tables e below (T1005.setTop (mkF m 200 #[iv p0, iv p1, iv p2, rv b62, rv b109_68, iv (16 : Int32), rv a_NO_SLOTS, iv (1 : Int32), iv (1 : Int32), rv b762_654, iv (16 : Int32), iv (1 : Int32), iv (1 : Int32)] [])) _
          refine XS.iload X1005.here hx rfl (hb hby at_200) rfl ?_
          show Steps p.tables e below (T1005.setTop (mkF m 202 #[iv p0, iv p1, iv p2, rv b62, rv b109_68, iv (16 : Int32), rv a_NO_SLOTS, iv (1 : Int32), iv (1 : Int32), rv b762_654, iv (16 : Int32), iv (1 : Int32), iv (1 : Int32)] [(.int (1 : Int32))])) _
          refine XS.ifNo X1005.here hx rfl (hb hby at_202) rfl (XT.i0_eq_f (by decide)) ?_
          show Steps p.tables e below (T1005.setTop (mkF m 205 #[iv p0, iv p1, iv p2, rv b62, rv b109_68, iv (16 : Int32), rv a_NO_SLOTS, iv (1 : Int32), iv (1 : Int32), rv b762_654, iv (16 : Int32), iv (1 : Int32), iv (1 : Int32)] [])) _
          refine XS.iconst X1005.here hx rfl (hb hby at_205) ?_
          show Steps p.tables e below (T1005.setTop (mkF m 206 #[iv p0, iv p1, iv p2, rv b62, rv b109_68, iv (16 : Int32), rv a_NO_SLOTS, iv (1 : Int32), iv (1 : Int32), rv b762_654, iv (16 : Int32), iv (1 : Int32), iv (1 : Int32)] [(.int (1 : Int32))])) _
          refine XS.goto X1005.here hx rfl (pc0 := 206) (pc' := 210) rfl (hb hby at_206) (by decide) (by decide) ?_
          exact kt
        obtain ⟨fs, hr, hrun, hended, hW, hsame⟩ := X1005.leave (v := some (.int (1 : Int32))) (fun h => by rw [Bd.returns] at h; cases h)
        refine ⟨_, _, pre1008 _ (retN X1005 hx (t := .boolean) Bd.returns (by simp) (hb hby at_210) hr), hrun, hended, _, _, rfl, ?_, ⟨_, rfl⟩, hW, hsame.mono (by decide) (by decide)⟩
        show Q_law Z p0 p1 p2 ac mr a_NO_SLOTS kn h0 n0 _ T1005.heap _
        rw [e1005]
        exact ⟨rfl, N1005⟩
      · obtain ⟨cq1009, kq1009, q1009a, q1009b, q1009c⟩ := isOf hZ e983 J654_0
        obtain ⟨_, _, ⟨T1009, L1009, k1009, n1009⟩, -, X1009, ⟨Lc1009, hQ1009, l1009, y1009, z1009⟩, st1009⟩ := X983.virtualBack hx (y := (⟨"com/example/homethread/homethread/Items", "clearAndTrim", "(I)V"⟩ : MethodName)) (z := (⟨"com/example/homethread/homethread/Items", "clearAndTrim", "(I)V"⟩ : MethodName)) hown (mvT hZ (W 33 rfl)) (mvT hZ (W 34 rfl)) (notFace_of_selects (args := #[]) (mvT hZ (W 36 rfl))) (mvT hZ (W 36 rfl)) (mvT hZ (W 35 rfl)) (by decide) (backOf (W := 0) (rm_clearAndTrim6_6 l Z a0 hw [] b62 p1 r_647 k762_654 b762_654 h654 n0 O654 g_b62 J654_0 J654_3 J654_4 J654_5 (fun q => ne_b62_b762_654 q.symm) hc993) hZ (W 37 rfl) (W 2 rfl) (by decide) (by decide)) q1009a q1009c (g := (mkF m 140 #[iv p0, iv p1, iv p2, rv b62, rv b109_68, iv (16 : Int32), rv a_NO_SLOTS, iv (1 : Int32), iv (1 : Int32), rv b762_654, iv (16 : Int32), .unset, .unset] [(.int p1), (.ref b62)])) rfl (by rw [hml]; rfl) (Steps.refl _) (argsL := [(.int p1)]) (rest := []) (lenOf pd_6 rfl) rfl (by show 2 * 0 + _ ≤ _; exact Nat.le_of_eq rfl) (hb hby at_140) (fun _ _ => ⟨rfl, e983, (by decide : 6 + 0 ≤ _), (by decide : 37 + 0 ≤ _)⟩)
        dsimp only [Pt.U, Pt.locs, Pt.cells, Pt.slots] at X1009 l1009 y1009 z1009 st1009 hQ1009
        replace l1009 := l1009.symm
        replace y1009 : 6 = k1009 := y1009.symm
        replace z1009 : 37 = n1009 := z1009.symm
        subst l1009 y1009 z1009
        obtain ⟨rfl, M1009, Kc1009, O1009, J1009_0, J1009_1, J1009_2⟩ := hQ1009
        obtain ⟨h1009, e1009⟩ : ∃ z, T1009.heap = z := ⟨_, rfl⟩
        rw [e1009] at Kc1009 O1009 J1009_0 J1009_1 J1009_2
        have N1009 := Fr.app N983 M1009
        have K1009 : Keep h0 h1009 [] := K654.trans Kc1009 (own_all1 (Or.inr sz_b62))
        have pre1058 : ∀ t, Steps p.tables e below (T1009.setTop (mkF m 143 #[iv p0, iv p1, iv p2, rv b62, rv b109_68, iv (16 : Int32), rv a_NO_SLOTS, iv (1 : Int32), iv (1 : Int32), rv b762_654, iv (16 : Int32), .unset, .unset] [])) t → Steps p.tables e below (s₁.setTop (entryFrame m #[(.int p0), (.int p1), (.int p2)] maxLocals)) t := fun t kt => pre987 _ (st1009.trans kt)
        have F1059 := F979.keep Kc1009 (own_nm1 (fun q => ne_b62_b109_68 q.symm))
        have F1060 := F980.keep Kc1009
        have F1061 := F981.keep Kc1009
        have F1062 := J654_2.keep Kc1009
        have F1063 := J654_4.keep Kc1009 (own_nm1 (fun q => ne_b62_b762_654 q.symm))
        have pre1064 : ∀ t, Steps p.tables e below (T1009.setTop (mkF m 157 #[iv p0, iv p1, iv p2, rv b62, rv b109_68, iv (16 : Int32), rv a_NO_SLOTS, iv (1 : Int32), iv (1 : Int32), rv b762_654, iv (16 : Int32), iv (0 : Int32), .unset] [(.ref b62)])) t → Steps p.tables e below (s₁.setTop (entryFrame m #[(.int p0), (.int p1), (.int p2)] maxLocals)) t := fun t kt => by
          refine pre1058 _ ?_
          show Steps p.tables e below (T1009.setTop (mkF m 143 #[iv p0, iv p1, iv p2, rv b62, rv b109_68, iv (16 : Int32), rv a_NO_SLOTS, iv (1 : Int32), iv (1 : Int32), rv b762_654, iv (16 : Int32), .unset, .unset] [])) _
          refine XS.iload X1009.here hx rfl (hb hby at_143) rfl ?_
          show Steps p.tables e below (T1009.setTop (mkF m 145 #[iv p0, iv p1, iv p2, rv b62, rv b109_68, iv (16 : Int32), rv a_NO_SLOTS, iv (1 : Int32), iv (1 : Int32), rv b762_654, iv (16 : Int32), .unset, .unset] [(.int (16 : Int32))])) _
          refine XS.iloadN X1009.here hx rfl (hb hby at_145) rfl ?_
          show Steps p.tables e below (T1009.setTop (mkF m 146 #[iv p0, iv p1, iv p2, rv b62, rv b109_68, iv (16 : Int32), rv a_NO_SLOTS, iv (1 : Int32), iv (1 : Int32), rv b762_654, iv (16 : Int32), .unset, .unset] [(.int p1), (.int (16 : Int32))])) _
          refine XS.icmpYes X1009.here hx rfl (pc0 := 146) (pc' := 153) rfl (hb hby at_146) rfl (XT.ii_le_t hc993) (by decide) (by decide) ?_
          show Steps p.tables e below (T1009.setTop (mkF m 153 #[iv p0, iv p1, iv p2, rv b62, rv b109_68, iv (16 : Int32), rv a_NO_SLOTS, iv (1 : Int32), iv (1 : Int32), rv b762_654, iv (16 : Int32), .unset, .unset] [])) _
          refine XS.iconst X1009.here hx rfl (hb hby at_153) ?_
          show Steps p.tables e below (T1009.setTop (mkF m 154 #[iv p0, iv p1, iv p2, rv b62, rv b109_68, iv (16 : Int32), rv a_NO_SLOTS, iv (1 : Int32), iv (1 : Int32), rv b762_654, iv (16 : Int32), .unset, .unset] [(.int (0 : Int32))])) _
          refine XS.istore X1009.here hx rfl (hb hby at_154) rfl (l' := #[iv p0, iv p1, iv p2, rv b62, rv b109_68, iv (16 : Int32), rv a_NO_SLOTS, iv (1 : Int32), iv (1 : Int32), rv b762_654, iv (16 : Int32), iv (0 : Int32), .unset]) rfl ?_
          show Steps p.tables e below (T1009.setTop (mkF m 156 #[iv p0, iv p1, iv p2, rv b62, rv b109_68, iv (16 : Int32), rv a_NO_SLOTS, iv (1 : Int32), iv (1 : Int32), rv b762_654, iv (16 : Int32), iv (0 : Int32), .unset] [])) _
          refine XS.aloadN X1009.here hx rfl (hb hby at_156) rfl rfl ?_
          exact kt
        obtain ⟨cq1065, kq1065, q1065a, q1065b, q1065c⟩ := isOf hZ e1009 J1009_0
        obtain ⟨_, _, ⟨T1065, L1065, k1065, n1065⟩, -, X1065, ⟨Lc1065, hQ1065, l1065, y1065, z1065⟩, st1065⟩ := X1009.virtualBack hx (y := (⟨"com/example/homethread/homethread/Items", "size", "()I"⟩ : MethodName)) (z := (⟨"com/example/homethread/homethread/Items", "size", "()I"⟩ : MethodName)) hown (mvT hZ (W 40 rfl)) (mvT hZ (W 41 rfl)) (notFace_of_selects (args := #[]) (mvT hZ (W 43 rfl))) (mvT hZ (W 43 rfl)) (mvT hZ (W 42 rfl)) (by decide) (backOf (W := 0) (rm_size7_0 l Z a0 hw [] b62 h1009 n0 O1009 J1009_2) hZ (W 44 rfl) (W 2 rfl) (by decide) (by decide)) q1065a q1065c (g := (mkF m 157 #[iv p0, iv p1, iv p2, rv b62, rv b109_68, iv (16 : Int32), rv a_NO_SLOTS, iv (1 : Int32), iv (1 : Int32), rv b762_654, iv (16 : Int32), iv (0 : Int32), .unset] [(.ref b62)])) rfl (by rw [hml]; rfl) (Steps.refl _) (argsL := []) (rest := []) (lenOf pd_18 rfl) rfl (by show 2 * 0 + _ ≤ _; exact Nat.le_of_eq rfl) (hb hby at_157) (fun _ _ => ⟨rfl, e1009, (by decide : 6 + 0 ≤ _), (by decide : 37 + 0 ≤ _)⟩)
        dsimp only [Pt.U, Pt.locs, Pt.cells, Pt.slots] at X1065 l1065 y1065 z1065 st1065 hQ1065
        replace l1065 := l1065.symm
        replace y1065 : 6 = k1065 := y1065.symm
        replace z1065 : 37 = n1065 := z1065.symm
        subst l1065 y1065 z1065
        obtain ⟨rfl, M1065, e1065⟩ := hQ1065
        have N1065 := Fr.app N1009 M1065
        have pre1066 : ∀ t, Steps p.tables e below (T1065.setTop (mkF m 160 #[iv p0, iv p1, iv p2, rv b62, rv b109_68, iv (16 : Int32), rv a_NO_SLOTS, iv (1 : Int32), iv (1 : Int32), rv b762_654, iv (16 : Int32), iv (0 : Int32), .unset] [(.int (0 : Int32))])) t → Steps p.tables e below (s₁.setTop (entryFrame m #[(.int p0), (.int p1), (.int p2)] maxLocals)) t := fun t kt => pre1064 _ (st1065.trans kt)
        have pre1067 : ∀ t, Steps p.tables e below (T1065.setTop (mkF m 180 #[iv p0, iv p1, iv p2, rv b62, rv b109_68, iv (16 : Int32), rv a_NO_SLOTS, iv (1 : Int32), iv (1 : Int32), rv b762_654, iv (16 : Int32), iv (0 : Int32), .unset] [(.ref b62)])) t → Steps p.tables e below (s₁.setTop (entryFrame m #[(.int p0), (.int p1), (.int p2)] maxLocals)) t := fun t kt => by
          refine pre1066 _ ?_
          show Steps p.tables e below (T1065.setTop (mkF m 160 #[iv p0, iv p1, iv p2, rv b62, rv b109_68, iv (16 : Int32), rv a_NO_SLOTS, iv (1 : Int32), iv (1 : Int32), rv b762_654, iv (16 : Int32), iv (0 : Int32), .unset] [(.int (0 : Int32))])) _
          refine XS.ifNo X1065.here hx rfl (hb hby at_160) rfl (XT.i0_ne_f (by decide)) ?_
          show Steps p.tables e below (T1065.setTop (mkF m 163 #[iv p0, iv p1, iv p2, rv b62, rv b109_68, iv (16 : Int32), rv a_NO_SLOTS, iv (1 : Int32), iv (1 : Int32), rv b762_654, iv (16 : Int32), iv (0 : Int32), .unset] [])) _
          refine XS.iload X1065.here hx rfl (hb hby at_163) rfl ?_
          show Steps p.tables e below (T1065.setTop (mkF m 165 #[iv p0, iv p1, iv p2, rv b62, rv b109_68, iv (16 : Int32), rv a_NO_SLOTS, iv (1 : Int32), iv (1 : Int32), rv b762_654, iv (16 : Int32), iv (0 : Int32), .unset] [(.int (0 : Int32))])) _
          refine XS.ifYes X1065.here hx rfl (pc0 := 165) (pc' := 179) rfl (hb hby at_165) rfl (XT.i0_eq_t (by decide)) (by decide) (by decide) ?_
          show Steps p.tables e below (T1065.setTop (mkF m 179 #[iv p0, iv p1, iv p2, rv b62, rv b109_68, iv (16 : Int32), rv a_NO_SLOTS, iv (1 : Int32), iv (1 : Int32), rv b762_654, iv (16 : Int32), iv (0 : Int32), .unset] [])) _
          refine XS.aloadN X1065.here hx rfl (hb hby at_179) rfl rfl ?_
          exact kt
        obtain ⟨cq1068, kq1068, q1068a, q1068b, q1068c⟩ := isOf hZ e1065 J1009_0
        obtain ⟨_, _, ⟨T1068, L1068, k1068, n1068⟩, -, X1068, ⟨Lc1068, hQ1068, l1068, y1068, z1068⟩, st1068⟩ := X1065.virtualBack hx (y := (⟨"com/example/homethread/homethread/Items", "slots", "()[Ljava/lang/Object;"⟩ : MethodName)) (z := (⟨"com/example/homethread/homethread/Items", "slots", "()[Ljava/lang/Object;"⟩ : MethodName)) hown (mvT hZ (W 28 rfl)) (mvT hZ (W 29 rfl)) (notFace_of_selects (args := #[]) (mvT hZ (W 31 rfl))) (mvT hZ (W 31 rfl)) (mvT hZ (W 30 rfl)) (by decide) (backOf (W := 0) (rm_slots5_0 l Z a0 hw [] b62 b762_654 h1009 n0 O1009 J1009_1) hZ (W 32 rfl) (W 2 rfl) (by decide) (by decide)) q1068a q1068c (g := (mkF m 180 #[iv p0, iv p1, iv p2, rv b62, rv b109_68, iv (16 : Int32), rv a_NO_SLOTS, iv (1 : Int32), iv (1 : Int32), rv b762_654, iv (16 : Int32), iv (0 : Int32), .unset] [(.ref b62)])) rfl (by rw [hml]; rfl) (Steps.refl _) (argsL := []) (rest := []) (lenOf pd_15 rfl) rfl (by show 2 * 0 + _ ≤ _; exact Nat.le_of_eq rfl) (hb hby at_180) (fun _ _ => ⟨rfl, e1065, (by decide : 6 + 0 ≤ _), (by decide : 37 + 0 ≤ _)⟩)
        dsimp only [Pt.U, Pt.locs, Pt.cells, Pt.slots] at X1068 l1068 y1068 z1068 st1068 hQ1068
        replace l1068 := l1068.symm
        replace y1068 : 6 = k1068 := y1068.symm
        replace z1068 : 37 = n1068 := z1068.symm
        subst l1068 y1068 z1068
        obtain ⟨rfl, M1068, e1068⟩ := hQ1068
        have N1068 := Fr.app N1065 M1068
        have pre1069 : ∀ t, Steps p.tables e below (T1068.setTop (mkF m 183 #[iv p0, iv p1, iv p2, rv b62, rv b109_68, iv (16 : Int32), rv a_NO_SLOTS, iv (1 : Int32), iv (1 : Int32), rv b762_654, iv (16 : Int32), iv (0 : Int32), .unset] [(.ref b762_654)])) t → Steps p.tables e below (s₁.setTop (entryFrame m #[(.int p0), (.int p1), (.int p2)] maxLocals)) t := fun t kt => pre1067 _ (st1068.trans kt)
        have pre1070 : ∀ t, Steps p.tables e below (T1068.setTop (mkF m 210 #[iv p0, iv p1, iv p2, rv b62, rv b109_68, iv (16 : Int32), rv a_NO_SLOTS, iv (1 : Int32), iv (1 : Int32), rv b762_654, iv (16 : Int32), iv (0 : Int32), iv (1 : Int32)] [(.int (1 : Int32))])) t → Steps p.tables e below (s₁.setTop (entryFrame m #[(.int p0), (.int p1), (.int p2)] maxLocals)) t := fun t kt => by
          refine pre1069 _ ?_
          show Steps p.tables e below (T1068.setTop (mkF m 183 #[iv p0, iv p1, iv p2, rv b62, rv b109_68, iv (16 : Int32), rv a_NO_SLOTS, iv (1 : Int32), iv (1 : Int32), rv b762_654, iv (16 : Int32), iv (0 : Int32), .unset] [(.ref b762_654)])) _
          refine XS.aload X1068.here hx rfl (hb hby at_183) rfl rfl ?_
          show Steps p.tables e below (T1068.setTop (mkF m 185 #[iv p0, iv p1, iv p2, rv b62, rv b109_68, iv (16 : Int32), rv a_NO_SLOTS, iv (1 : Int32), iv (1 : Int32), rv b762_654, iv (16 : Int32), iv (0 : Int32), .unset] [(.ref b762_654), (.ref b762_654)])) _
          refine Jvm.RoadKit.acmp (g := (mkF m 185 #[iv p0, iv p1, iv p2, rv b62, rv b109_68, iv (16 : Int32), rv a_NO_SLOTS, iv (1 : Int32), iv (1 : Int32), rv b762_654, iv (16 : Int32), iv (0 : Int32), .unset] [(.ref b762_654), (.ref b762_654)])) X1068 hx rfl rfl rfl (pc0 := 185) (pc' := 188) (same := true) rfl (hb hby at_185) rfl (decide_eq_true rfl) (by decide) (by decide) ?_
          show Steps p.tables e below (T1068.setTop (mkF m 188 #[iv p0, iv p1, iv p2, rv b62, rv b109_68, iv (16 : Int32), rv a_NO_SLOTS, iv (1 : Int32), iv (1 : Int32), rv b762_654, iv (16 : Int32), iv (0 : Int32), .unset] [])) _
          refine XS.iconst X1068.here hx rfl (hb hby at_188) ?_
          show Steps p.tables e below (T1068.setTop (mkF m 189 #[iv p0, iv p1, iv p2, rv b62, rv b109_68, iv (16 : Int32), rv a_NO_SLOTS, iv (1 : Int32), iv (1 : Int32), rv b762_654, iv (16 : Int32), iv (0 : Int32), .unset] [(.int (1 : Int32))])) _
          refine XS.goto X1068.here hx rfl (pc0 := 189) (pc' := 193) rfl (hb hby at_189) (by decide) (by decide) ?_
          show Steps p.tables e below (T1068.setTop (mkF m 193 #[iv p0, iv p1, iv p2, rv b62, rv b109_68, iv (16 : Int32), rv a_NO_SLOTS, iv (1 : Int32), iv (1 : Int32), rv b762_654, iv (16 : Int32), iv (0 : Int32), .unset] [(.int (1 : Int32))])) _
          refine XS.istore X1068.here hx rfl (hb hby at_193) rfl (l' := #[iv p0, iv p1, iv p2, rv b62, rv b109_68, iv (16 : Int32), rv a_NO_SLOTS, iv (1 : Int32), iv (1 : Int32), rv b762_654, iv (16 : Int32), iv (0 : Int32), iv (1 : Int32)]) rfl ?_
          show Steps p.tables e below (T1068.setTop (mkF m 195 #[iv p0, iv p1, iv p2, rv b62, rv b109_68, iv (16 : Int32), rv a_NO_SLOTS, iv (1 : Int32), iv (1 : Int32), rv b762_654, iv (16 : Int32), iv (0 : Int32), iv (1 : Int32)] [])) _
          refine XS.iload X1068.here hx rfl (hb hby at_195) rfl ?_
          show Steps p.tables e below (T1068.setTop (mkF m 197 #[iv p0, iv p1, iv p2, rv b62, rv b109_68, iv (16 : Int32), rv a_NO_SLOTS, iv (1 : Int32), iv (1 : Int32), rv b762_654, iv (16 : Int32), iv (0 : Int32), iv (1 : Int32)] [(.int (1 : Int32))])) _
          refine XS.ifNo X1068.here hx rfl (hb hby at_197) rfl (XT.i0_eq_f (by decide)) ?_
          show Steps p.tables e below (T1068.setTop (mkF m 200 #[iv p0, iv p1, iv p2, rv b62, rv b109_68, iv (16 : Int32), rv a_NO_SLOTS, iv (1 : Int32), iv (1 : Int32), rv b762_654, iv (16 : Int32), iv (0 : Int32), iv (1 : Int32)] [])) _
          refine XS.iload X1068.here hx rfl (hb hby at_200) rfl ?_
          show Steps p.tables e below (T1068.setTop (mkF m 202 #[iv p0, iv p1, iv p2, rv b62, rv b109_68, iv (16 : Int32), rv a_NO_SLOTS, iv (1 : Int32), iv (1 : Int32), rv b762_654, iv (16 : Int32), iv (0 : Int32), iv (1 : Int32)] [(.int (1 : Int32))])) _
          refine XS.ifNo X1068.here hx rfl (hb hby at_202) rfl (XT.i0_eq_f (by decide)) ?_
          show Steps p.tables e below (T1068.setTop (mkF m 205 #[iv p0, iv p1, iv p2, rv b62, rv b109_68, iv (16 : Int32), rv a_NO_SLOTS, iv (1 : Int32), iv (1 : Int32), rv b762_654, iv (16 : Int32), iv (0 : Int32), iv (1 : Int32)] [])) _
          refine XS.iconst X1068.here hx rfl (hb hby at_205) ?_
          show Steps p.tables e below (T1068.setTop (mkF m 206 #[iv p0, iv p1, iv p2, rv b62, rv b109_68, iv (16 : Int32), rv a_NO_SLOTS, iv (1 : Int32), iv (1 : Int32), rv b762_654, iv (16 : Int32), iv (0 : Int32), iv (1 : Int32)] [(.int (1 : Int32))])) _
          refine XS.goto X1068.here hx rfl (pc0 := 206) (pc' := 210) rfl (hb hby at_206) (by decide) (by decide) ?_
          exact kt
        obtain ⟨fs, hr, hrun, hended, hW, hsame⟩ := X1068.leave (v := some (.int (1 : Int32))) (fun h => by rw [Bd.returns] at h; cases h)
        refine ⟨_, _, pre1070 _ (retN X1068 hx (t := .boolean) Bd.returns (by simp) (hb hby at_210) hr), hrun, hended, _, _, rfl, ?_, ⟨_, rfl⟩, hW, hsame.mono (by decide) (by decide)⟩
        show Q_law Z p0 p1 p2 ac mr a_NO_SLOTS kn h0 n0 _ T1068.heap _
        rw [e1068]
        exact ⟨rfl, N1068⟩
  · obtain ⟨cq1071, kq1071, q1071a, q1071b, q1071c⟩ := isOf hZ e388 F381
    obtain ⟨_, _, ⟨T1071, L1071, k1071, n1071⟩, -, X1071, ⟨Lc1071, hQ1071, l1071, y1071, z1071⟩, st1071⟩ := X388.virtualBack hx (y := (⟨"com/example/homethread/homethread/Items", "clearAndTrim", "(I)V"⟩ : MethodName)) (z := (⟨"com/example/homethread/homethread/Items", "clearAndTrim", "(I)V"⟩ : MethodName)) hown (mvT hZ (W 33 rfl)) (mvT hZ (W 34 rfl)) (notFace_of_selects (args := #[]) (mvT hZ (W 36 rfl))) (mvT hZ (W 36 rfl)) (mvT hZ (W 35 rfl)) (by decide) (backOf (W := 0) (rm_clearAndTrim6_7 l Z a0 hw [] b62 p0 k109_68 j125_0 j125_1 j125_2 b109_68 h125 n0 O125 g_b62 F381 F382 F383 F386 (fun q => ne_b62_b109_68 q.symm) hc407) hZ (W 37 rfl) (W 2 rfl) (by decide) (by decide)) q1071a q1071c (g := (mkF m 49 #[iv p0, iv p1, iv p2, rv b62, rv b109_68, iv (16 : Int32), .unset, .unset, .unset, .unset, .unset, .unset, .unset] [(.int p0), (.ref b62)])) rfl (by rw [hml]; rfl) (Steps.refl _) (argsL := [(.int p0)]) (rest := []) (lenOf pd_6 rfl) rfl (by show 2 * 0 + _ ≤ _; exact Nat.le_of_eq rfl) (hb hby at_49) (fun _ _ => ⟨rfl, e388, (by decide : 4 + 0 ≤ _), (by decide : 20 + 0 ≤ _)⟩)
    dsimp only [Pt.U, Pt.locs, Pt.cells, Pt.slots] at X1071 l1071 y1071 z1071 st1071 hQ1071
    replace l1071 := l1071.symm
    replace y1071 : 4 = k1071 := y1071.symm
    replace z1071 : 20 = n1071 := z1071.symm
    subst l1071 y1071 z1071
    obtain ⟨rfl, M1071, Kc1071, O1071, J1071_0, J1071_1, J1071_2⟩ := hQ1071
    obtain ⟨h1071, e1071⟩ : ∃ z, T1071.heap = z := ⟨_, rfl⟩
    rw [e1071] at Kc1071 O1071 J1071_0 J1071_1 J1071_2
    have N1071 := Fr.app N388 M1071
    have K1071 : Keep h0 h1071 [] := K125.trans Kc1071 (own_all1 (Or.inr sz_b62))
    have pre1106 : ∀ t, Steps p.tables e below (T1071.setTop (mkF m 52 #[iv p0, iv p1, iv p2, rv b62, rv b109_68, iv (16 : Int32), .unset, .unset, .unset, .unset, .unset, .unset, .unset] [])) t → Steps p.tables e below (s₁.setTop (entryFrame m #[(.int p0), (.int p1), (.int p2)] maxLocals)) t := fun t kt => pre401 _ (st1071.trans kt)
    have F1107 := F383.keep Kc1071 (own_nm1 (fun q => ne_b62_b109_68 q.symm))
    have F1108 := F385.keep Kc1071
    have pre1109 : ∀ t, Steps p.tables e below (T1071.setTop (mkF m 53 #[iv p0, iv p1, iv p2, rv b62, rv b109_68, iv (16 : Int32), .unset, .unset, .unset, .unset, .unset, .unset, .unset] [(.ref b62)])) t → Steps p.tables e below (s₁.setTop (entryFrame m #[(.int p0), (.int p1), (.int p2)] maxLocals)) t := fun t kt => by
      refine pre1106 _ ?_
      show Steps p.tables e below (T1071.setTop (mkF m 52 #[iv p0, iv p1, iv p2, rv b62, rv b109_68, iv (16 : Int32), .unset, .unset, .unset, .unset, .unset, .unset, .unset] [])) _
      refine XS.aloadN X1071.here hx rfl (hb hby at_52) rfl rfl ?_
      exact kt
    obtain ⟨cq1110, kq1110, q1110a, q1110b, q1110c⟩ := isOf hZ e1071 J1071_0
    obtain ⟨_, _, ⟨T1110, L1110, k1110, n1110⟩, -, X1110, ⟨Lc1110, hQ1110, l1110, y1110, z1110⟩, st1110⟩ := X1071.virtualBack hx (y := (⟨"com/example/homethread/homethread/Items", "slots", "()[Ljava/lang/Object;"⟩ : MethodName)) (z := (⟨"com/example/homethread/homethread/Items", "slots", "()[Ljava/lang/Object;"⟩ : MethodName)) hown (mvT hZ (W 28 rfl)) (mvT hZ (W 29 rfl)) (notFace_of_selects (args := #[]) (mvT hZ (W 31 rfl))) (mvT hZ (W 31 rfl)) (mvT hZ (W 30 rfl)) (by decide) (backOf (W := 0) (rm_slots5_0 l Z a0 hw [] b62 b109_68 h1071 n0 O1071 J1071_1) hZ (W 32 rfl) (W 2 rfl) (by decide) (by decide)) q1110a q1110c (g := (mkF m 53 #[iv p0, iv p1, iv p2, rv b62, rv b109_68, iv (16 : Int32), .unset, .unset, .unset, .unset, .unset, .unset, .unset] [(.ref b62)])) rfl (by rw [hml]; rfl) (Steps.refl _) (argsL := []) (rest := []) (lenOf pd_15 rfl) rfl (by show 2 * 0 + _ ≤ _; exact Nat.le_of_eq rfl) (hb hby at_53) (fun _ _ => ⟨rfl, e1071, (by decide : 4 + 0 ≤ _), (by decide : 20 + 0 ≤ _)⟩)
    dsimp only [Pt.U, Pt.locs, Pt.cells, Pt.slots] at X1110 l1110 y1110 z1110 st1110 hQ1110
    replace l1110 := l1110.symm
    replace y1110 : 4 = k1110 := y1110.symm
    replace z1110 : 20 = n1110 := z1110.symm
    subst l1110 y1110 z1110
    obtain ⟨rfl, M1110, e1110⟩ := hQ1110
    have N1110 := Fr.app N1071 M1110
    have pre1111 : ∀ t, Steps p.tables e below (T1110.setTop (mkF m 56 #[iv p0, iv p1, iv p2, rv b62, rv b109_68, iv (16 : Int32), .unset, .unset, .unset, .unset, .unset, .unset, .unset] [(.ref b109_68)])) t → Steps p.tables e below (s₁.setTop (entryFrame m #[(.int p0), (.int p1), (.int p2)] maxLocals)) t := fun t kt => pre1109 _ (st1110.trans kt)
    have pre1112 : ∀ t, Steps p.tables e below (T1110.setTop (mkF m 79 #[iv p0, iv p1, iv p2, rv b62, rv b109_68, iv (16 : Int32), rv b109_68, iv (0 : Int32), .unset, .unset, .unset, .unset, .unset] [(.ref b62)])) t → Steps p.tables e below (s₁.setTop (entryFrame m #[(.int p0), (.int p1), (.int p2)] maxLocals)) t := fun t kt => by
      refine pre1111 _ ?_
      show Steps p.tables e below (T1110.setTop (mkF m 56 #[iv p0, iv p1, iv p2, rv b62, rv b109_68, iv (16 : Int32), .unset, .unset, .unset, .unset, .unset, .unset, .unset] [(.ref b109_68)])) _
      refine XS.astore X1110.here hx rfl (hb hby at_56) rfl rfl (l' := #[iv p0, iv p1, iv p2, rv b62, rv b109_68, iv (16 : Int32), rv b109_68, .unset, .unset, .unset, .unset, .unset, .unset]) rfl ?_
      show Steps p.tables e below (T1110.setTop (mkF m 58 #[iv p0, iv p1, iv p2, rv b62, rv b109_68, iv (16 : Int32), rv b109_68, .unset, .unset, .unset, .unset, .unset, .unset] [])) _
      refine XS.iload X1110.here hx rfl (hb hby at_58) rfl ?_
      show Steps p.tables e below (T1110.setTop (mkF m 60 #[iv p0, iv p1, iv p2, rv b62, rv b109_68, iv (16 : Int32), rv b109_68, .unset, .unset, .unset, .unset, .unset, .unset] [(.int (16 : Int32))])) _
      refine XS.iloadN X1110.here hx rfl (hb hby at_60) rfl ?_
      show Steps p.tables e below (T1110.setTop (mkF m 61 #[iv p0, iv p1, iv p2, rv b62, rv b109_68, iv (16 : Int32), rv b109_68, .unset, .unset, .unset, .unset, .unset, .unset] [(.int p0), (.int (16 : Int32))])) _
      refine XS.icmpYes X1110.here hx rfl (pc0 := 61) (pc' := 68) rfl (hb hby at_61) rfl (XT.ii_le_t hc407) (by decide) (by decide) ?_
      show Steps p.tables e below (T1110.setTop (mkF m 68 #[iv p0, iv p1, iv p2, rv b62, rv b109_68, iv (16 : Int32), rv b109_68, .unset, .unset, .unset, .unset, .unset, .unset] [])) _
      refine XS.iconst X1110.here hx rfl (hb hby at_68) ?_
      show Steps p.tables e below (T1110.setTop (mkF m 69 #[iv p0, iv p1, iv p2, rv b62, rv b109_68, iv (16 : Int32), rv b109_68, .unset, .unset, .unset, .unset, .unset, .unset] [(.int (0 : Int32))])) _
      refine XS.istore X1110.here hx rfl (hb hby at_69) rfl (l' := #[iv p0, iv p1, iv p2, rv b62, rv b109_68, iv (16 : Int32), rv b109_68, iv (0 : Int32), .unset, .unset, .unset, .unset, .unset]) rfl ?_
      show Steps p.tables e below (T1110.setTop (mkF m 71 #[iv p0, iv p1, iv p2, rv b62, rv b109_68, iv (16 : Int32), rv b109_68, iv (0 : Int32), .unset, .unset, .unset, .unset, .unset] [])) _
      refine XS.iload X1110.here hx rfl (hb hby at_71) rfl ?_
      show Steps p.tables e below (T1110.setTop (mkF m 73 #[iv p0, iv p1, iv p2, rv b62, rv b109_68, iv (16 : Int32), rv b109_68, iv (0 : Int32), .unset, .unset, .unset, .unset, .unset] [(.int (16 : Int32))])) _
      refine XS.bipush X1110.here hx rfl (hb hby at_73) ?_
      show Steps p.tables e below (T1110.setTop (mkF m 75 #[iv p0, iv p1, iv p2, rv b62, rv b109_68, iv (16 : Int32), rv b109_68, iv (0 : Int32), .unset, .unset, .unset, .unset, .unset] [(.int (16 : Int32)), (.int (16 : Int32))])) _
      refine XS.icmpNo X1110.here hx rfl (hb hby at_75) rfl (XT.ii_ne_f (by decide)) ?_
      show Steps p.tables e below (T1110.setTop (mkF m 78 #[iv p0, iv p1, iv p2, rv b62, rv b109_68, iv (16 : Int32), rv b109_68, iv (0 : Int32), .unset, .unset, .unset, .unset, .unset] [])) _
      refine XS.aloadN X1110.here hx rfl (hb hby at_78) rfl rfl ?_
      exact kt
    obtain ⟨cq1113, kq1113, q1113a, q1113b, q1113c⟩ := isOf hZ e1110 J1071_0
    obtain ⟨_, _, ⟨T1113, L1113, k1113, n1113⟩, -, X1113, ⟨Lc1113, hQ1113, l1113, y1113, z1113⟩, st1113⟩ := X1110.virtualBack hx (y := (⟨"com/example/homethread/homethread/Items", "size", "()I"⟩ : MethodName)) (z := (⟨"com/example/homethread/homethread/Items", "size", "()I"⟩ : MethodName)) hown (mvT hZ (W 40 rfl)) (mvT hZ (W 41 rfl)) (notFace_of_selects (args := #[]) (mvT hZ (W 43 rfl))) (mvT hZ (W 43 rfl)) (mvT hZ (W 42 rfl)) (by decide) (backOf (W := 0) (rm_size7_0 l Z a0 hw [] b62 h1071 n0 O1071 J1071_2) hZ (W 44 rfl) (W 2 rfl) (by decide) (by decide)) q1113a q1113c (g := (mkF m 79 #[iv p0, iv p1, iv p2, rv b62, rv b109_68, iv (16 : Int32), rv b109_68, iv (0 : Int32), .unset, .unset, .unset, .unset, .unset] [(.ref b62)])) rfl (by rw [hml]; rfl) (Steps.refl _) (argsL := []) (rest := []) (lenOf pd_18 rfl) rfl (by show 2 * 0 + _ ≤ _; exact Nat.le_of_eq rfl) (hb hby at_79) (fun _ _ => ⟨rfl, e1110, (by decide : 4 + 0 ≤ _), (by decide : 20 + 0 ≤ _)⟩)
    dsimp only [Pt.U, Pt.locs, Pt.cells, Pt.slots] at X1113 l1113 y1113 z1113 st1113 hQ1113
    replace l1113 := l1113.symm
    replace y1113 : 4 = k1113 := y1113.symm
    replace z1113 : 20 = n1113 := z1113.symm
    subst l1113 y1113 z1113
    obtain ⟨rfl, M1113, e1113⟩ := hQ1113
    have N1113 := Fr.app N1110 M1113
    have pre1114 : ∀ t, Steps p.tables e below (T1113.setTop (mkF m 82 #[iv p0, iv p1, iv p2, rv b62, rv b109_68, iv (16 : Int32), rv b109_68, iv (0 : Int32), .unset, .unset, .unset, .unset, .unset] [(.int (0 : Int32))])) t → Steps p.tables e below (s₁.setTop (entryFrame m #[(.int p0), (.int p1), (.int p2)] maxLocals)) t := fun t kt => pre1112 _ (st1113.trans kt)
    have pre1115 : ∀ t, Steps p.tables e below (T1113.setTop (mkF m 116 #[iv p0, iv p1, iv p2, rv b62, rv b109_68, iv (16 : Int32), rv b109_68, iv (0 : Int32), iv (1 : Int32), .unset, .unset, .unset, .unset] [(.int (p2 &&& (4 : Int32)))])) t → Steps p.tables e below (s₁.setTop (entryFrame m #[(.int p0), (.int p1), (.int p2)] maxLocals)) t := fun t kt => by
      refine pre1114 _ ?_
      show Steps p.tables e below (T1113.setTop (mkF m 82 #[iv p0, iv p1, iv p2, rv b62, rv b109_68, iv (16 : Int32), rv b109_68, iv (0 : Int32), .unset, .unset, .unset, .unset, .unset] [(.int (0 : Int32))])) _
      refine XS.ifNo X1113.here hx rfl (hb hby at_82) rfl (XT.i0_ne_f (by decide)) ?_
      show Steps p.tables e below (T1113.setTop (mkF m 85 #[iv p0, iv p1, iv p2, rv b62, rv b109_68, iv (16 : Int32), rv b109_68, iv (0 : Int32), .unset, .unset, .unset, .unset, .unset] [])) _
      refine XS.iload X1113.here hx rfl (hb hby at_85) rfl ?_
      show Steps p.tables e below (T1113.setTop (mkF m 87 #[iv p0, iv p1, iv p2, rv b62, rv b109_68, iv (16 : Int32), rv b109_68, iv (0 : Int32), .unset, .unset, .unset, .unset, .unset] [(.int (0 : Int32))])) _
      refine XS.ifYes X1113.here hx rfl (pc0 := 87) (pc' := 99) rfl (hb hby at_87) rfl (XT.i0_eq_t (by decide)) (by decide) (by decide) ?_
      show Steps p.tables e below (T1113.setTop (mkF m 99 #[iv p0, iv p1, iv p2, rv b62, rv b109_68, iv (16 : Int32), rv b109_68, iv (0 : Int32), .unset, .unset, .unset, .unset, .unset] [])) _
      refine XS.aload X1113.here hx rfl (hb hby at_99) rfl rfl ?_
      show Steps p.tables e below (T1113.setTop (mkF m 101 #[iv p0, iv p1, iv p2, rv b62, rv b109_68, iv (16 : Int32), rv b109_68, iv (0 : Int32), .unset, .unset, .unset, .unset, .unset] [(.ref b109_68)])) _
      refine XS.aload X1113.here hx rfl (hb hby at_101) rfl rfl ?_
      show Steps p.tables e below (T1113.setTop (mkF m 103 #[iv p0, iv p1, iv p2, rv b62, rv b109_68, iv (16 : Int32), rv b109_68, iv (0 : Int32), .unset, .unset, .unset, .unset, .unset] [(.ref b109_68), (.ref b109_68)])) _
      refine Jvm.RoadKit.acmp (g := (mkF m 103 #[iv p0, iv p1, iv p2, rv b62, rv b109_68, iv (16 : Int32), rv b109_68, iv (0 : Int32), .unset, .unset, .unset, .unset, .unset] [(.ref b109_68), (.ref b109_68)])) X1113 hx rfl rfl rfl (pc0 := 103) (pc' := 106) (same := true) rfl (hb hby at_103) rfl (decide_eq_true rfl) (by decide) (by decide) ?_
      show Steps p.tables e below (T1113.setTop (mkF m 106 #[iv p0, iv p1, iv p2, rv b62, rv b109_68, iv (16 : Int32), rv b109_68, iv (0 : Int32), .unset, .unset, .unset, .unset, .unset] [])) _
      refine XS.iconst X1113.here hx rfl (hb hby at_106) ?_
      show Steps p.tables e below (T1113.setTop (mkF m 107 #[iv p0, iv p1, iv p2, rv b62, rv b109_68, iv (16 : Int32), rv b109_68, iv (0 : Int32), .unset, .unset, .unset, .unset, .unset] [(.int (1 : Int32))])) _
      refine XS.goto X1113.here hx rfl (pc0 := 107) (pc' := 111) rfl (hb hby at_107) (by decide) (by decide) ?_
      show Steps p.tables e below (T1113.setTop (mkF m 111 #[iv p0, iv p1, iv p2, rv b62, rv b109_68, iv (16 : Int32), rv b109_68, iv (0 : Int32), .unset, .unset, .unset, .unset, .unset] [(.int (1 : Int32))])) _
      refine XS.istore X1113.here hx rfl (hb hby at_111) rfl (l' := #[iv p0, iv p1, iv p2, rv b62, rv b109_68, iv (16 : Int32), rv b109_68, iv (0 : Int32), iv (1 : Int32), .unset, .unset, .unset, .unset]) rfl ?_
      show Steps p.tables e below (T1113.setTop (mkF m 113 #[iv p0, iv p1, iv p2, rv b62, rv b109_68, iv (16 : Int32), rv b109_68, iv (0 : Int32), iv (1 : Int32), .unset, .unset, .unset, .unset] [])) _
      refine XS.iloadN X1113.here hx rfl (hb hby at_113) rfl ?_
      show Steps p.tables e below (T1113.setTop (mkF m 114 #[iv p0, iv p1, iv p2, rv b62, rv b109_68, iv (16 : Int32), rv b109_68, iv (0 : Int32), iv (1 : Int32), .unset, .unset, .unset, .unset] [(.int p2)])) _
      refine XS.iconst X1113.here hx rfl (hb hby at_114) ?_
      show Steps p.tables e below (T1113.setTop (mkF m 115 #[iv p0, iv p1, iv p2, rv b62, rv b109_68, iv (16 : Int32), rv b109_68, iv (0 : Int32), iv (1 : Int32), .unset, .unset, .unset, .unset] [(.int (4 : Int32)), (.int p2)])) _
      refine XS.iand X1113.here hx rfl (hb hby at_115) rfl ?_
      exact kt
    by_cases hc1116 : (p2 &&& (4 : Int32)) = (0 : Int32)
    · have pre1117 : ∀ t, Steps p.tables e below (T1113.setTop (mkF m 128 #[iv p0, iv p1, iv p2, rv b62, rv b109_68, iv (16 : Int32), rv b109_68, iv (0 : Int32), iv (1 : Int32), .unset, .unset, .unset, .unset] [(.ref b62)])) t → Steps p.tables e below (s₁.setTop (entryFrame m #[(.int p0), (.int p1), (.int p2)] maxLocals)) t := fun t kt => by
        refine pre1115 _ ?_
        show Steps p.tables e below (T1113.setTop (mkF m 116 #[iv p0, iv p1, iv p2, rv b62, rv b109_68, iv (16 : Int32), rv b109_68, iv (0 : Int32), iv (1 : Int32), .unset, .unset, .unset, .unset] [(.int (p2 &&& (4 : Int32)))])) _
        refine XS.ifYes X1113.here hx rfl (pc0 := 116) (pc' := 127) rfl (hb hby at_116) rfl (XT.i0_eq_t hc1116) (by decide) (by decide) ?_
        show Steps p.tables e below (T1113.setTop (mkF m 127 #[iv p0, iv p1, iv p2, rv b62, rv b109_68, iv (16 : Int32), rv b109_68, iv (0 : Int32), iv (1 : Int32), .unset, .unset, .unset, .unset] [])) _
        refine XS.aloadN X1113.here hx rfl (hb hby at_127) rfl rfl ?_
        exact kt
      obtain ⟨cq1118, kq1118, q1118a, q1118b, q1118c⟩ := isOf hZ e1113 J1071_0
      obtain ⟨_, _, ⟨T1118, L1118, k1118, n1118⟩, -, X1118, ⟨Lc1118, hQ1118, l1118, y1118, z1118⟩, st1118⟩ := X1113.virtualBack hx (y := (⟨"com/example/homethread/homethread/Items", "slots", "()[Ljava/lang/Object;"⟩ : MethodName)) (z := (⟨"com/example/homethread/homethread/Items", "slots", "()[Ljava/lang/Object;"⟩ : MethodName)) hown (mvT hZ (W 28 rfl)) (mvT hZ (W 29 rfl)) (notFace_of_selects (args := #[]) (mvT hZ (W 31 rfl))) (mvT hZ (W 31 rfl)) (mvT hZ (W 30 rfl)) (by decide) (backOf (W := 0) (rm_slots5_0 l Z a0 hw [] b62 b109_68 h1071 n0 O1071 J1071_1) hZ (W 32 rfl) (W 2 rfl) (by decide) (by decide)) q1118a q1118c (g := (mkF m 128 #[iv p0, iv p1, iv p2, rv b62, rv b109_68, iv (16 : Int32), rv b109_68, iv (0 : Int32), iv (1 : Int32), .unset, .unset, .unset, .unset] [(.ref b62)])) rfl (by rw [hml]; rfl) (Steps.refl _) (argsL := []) (rest := []) (lenOf pd_15 rfl) rfl (by show 2 * 0 + _ ≤ _; exact Nat.le_of_eq rfl) (hb hby at_128) (fun _ _ => ⟨rfl, e1113, (by decide : 4 + 0 ≤ _), (by decide : 20 + 0 ≤ _)⟩)
      dsimp only [Pt.U, Pt.locs, Pt.cells, Pt.slots] at X1118 l1118 y1118 z1118 st1118 hQ1118
      replace l1118 := l1118.symm
      replace y1118 : 4 = k1118 := y1118.symm
      replace z1118 : 20 = n1118 := z1118.symm
      subst l1118 y1118 z1118
      obtain ⟨rfl, M1118, e1118⟩ := hQ1118
      have N1118 := Fr.app N1113 M1118
      have pre1119 : ∀ t, Steps p.tables e below (T1118.setTop (mkF m 131 #[iv p0, iv p1, iv p2, rv b62, rv b109_68, iv (16 : Int32), rv b109_68, iv (0 : Int32), iv (1 : Int32), .unset, .unset, .unset, .unset] [(.ref b109_68)])) t → Steps p.tables e below (s₁.setTop (entryFrame m #[(.int p0), (.int p1), (.int p2)] maxLocals)) t := fun t kt => pre1117 _ (st1118.trans kt)
      have pre1121 : ∀ t, Steps p.tables e below (T1118.setTop (mkF m 135 #[iv p0, iv p1, iv p2, rv b62, rv b109_68, iv (16 : Int32), rv b109_68, iv (0 : Int32), iv (1 : Int32), rv b109_68, .unset, .unset, .unset] [(.ref b109_68)])) t → Steps p.tables e below (s₁.setTop (entryFrame m #[(.int p0), (.int p1), (.int p2)] maxLocals)) t := fun t kt => by
        refine pre1119 _ ?_
        show Steps p.tables e below (T1118.setTop (mkF m 131 #[iv p0, iv p1, iv p2, rv b62, rv b109_68, iv (16 : Int32), rv b109_68, iv (0 : Int32), iv (1 : Int32), .unset, .unset, .unset, .unset] [(.ref b109_68)])) _
        refine XS.astore X1118.here hx rfl (hb hby at_131) rfl rfl (l' := #[iv p0, iv p1, iv p2, rv b62, rv b109_68, iv (16 : Int32), rv b109_68, iv (0 : Int32), iv (1 : Int32), rv b109_68, .unset, .unset, .unset]) rfl ?_
        show Steps p.tables e below (T1118.setTop (mkF m 133 #[iv p0, iv p1, iv p2, rv b62, rv b109_68, iv (16 : Int32), rv b109_68, iv (0 : Int32), iv (1 : Int32), rv b109_68, .unset, .unset, .unset] [])) _
        refine XS.aload X1118.here hx rfl (hb hby at_133) rfl rfl ?_
        exact kt
      obtain ⟨c1120, Ar1120, -, S1120, M1120, -, -⟩ := id F1107
      have pre1122 : ∀ t, Steps p.tables e below (T1118.setTop (mkF m 140 #[iv p0, iv p1, iv p2, rv b62, rv b109_68, iv (16 : Int32), rv b109_68, iv (0 : Int32), iv (1 : Int32), rv b109_68, iv (16 : Int32), .unset, .unset] [(.int p1), (.ref b62)])) t → Steps p.tables e below (s₁.setTop (entryFrame m #[(.int p0), (.int p1), (.int p2)] maxLocals)) t := fun t kt => by
        refine pre1121 _ ?_
        show Steps p.tables e below (T1118.setTop (mkF m 135 #[iv p0, iv p1, iv p2, rv b62, rv b109_68, iv (16 : Int32), rv b109_68, iv (0 : Int32), iv (1 : Int32), rv b109_68, .unset, .unset, .unset] [(.ref b109_68)])) _
        refine X1118.arraylength hx (by rw [e1118]; exact Ar1120.1) (State.isArrayOf_alike hZ.alike Ar1120.2.1) (g := (mkF m 135 #[iv p0, iv p1, iv p2, rv b62, rv b109_68, iv (16 : Int32), rv b109_68, iv (0 : Int32), iv (1 : Int32), rv b109_68, .unset, .unset, .unset] [(.ref b109_68)])) rfl rfl (hb hby at_135) _ ?_
        rw [len_of S1120 M1120]
        show Steps p.tables e below (T1118.setTop (mkF m 136 #[iv p0, iv p1, iv p2, rv b62, rv b109_68, iv (16 : Int32), rv b109_68, iv (0 : Int32), iv (1 : Int32), rv b109_68, .unset, .unset, .unset] [(.int (16 : Int32))])) _
        refine XS.istore X1118.here hx rfl (hb hby at_136) rfl (l' := #[iv p0, iv p1, iv p2, rv b62, rv b109_68, iv (16 : Int32), rv b109_68, iv (0 : Int32), iv (1 : Int32), rv b109_68, iv (16 : Int32), .unset, .unset]) rfl ?_
        show Steps p.tables e below (T1118.setTop (mkF m 138 #[iv p0, iv p1, iv p2, rv b62, rv b109_68, iv (16 : Int32), rv b109_68, iv (0 : Int32), iv (1 : Int32), rv b109_68, iv (16 : Int32), .unset, .unset] [])) _
        refine XS.aloadN X1118.here hx rfl (hb hby at_138) rfl rfl ?_
        show Steps p.tables e below (T1118.setTop (mkF m 139 #[iv p0, iv p1, iv p2, rv b62, rv b109_68, iv (16 : Int32), rv b109_68, iv (0 : Int32), iv (1 : Int32), rv b109_68, iv (16 : Int32), .unset, .unset] [(.ref b62)])) _
        refine XS.iloadN X1118.here hx rfl (hb hby at_139) rfl ?_
        exact kt
      by_cases hc1128 : p1 < (16 : Int32)
      · obtain ⟨cq1129, kq1129, q1129a, q1129b, q1129c⟩ := isOf hZ e1118 J1071_0
        obtain ⟨_, _, ⟨T1129, L1129, k1129, n1129⟩, -, X1129, ⟨Lc1129, hQ1129, l1129, y1129, z1129⟩, st1129⟩ := X1118.virtualBack hx (y := (⟨"com/example/homethread/homethread/Items", "clearAndTrim", "(I)V"⟩ : MethodName)) (z := (⟨"com/example/homethread/homethread/Items", "clearAndTrim", "(I)V"⟩ : MethodName)) hown (mvT hZ (W 33 rfl)) (mvT hZ (W 34 rfl)) (notFace_of_selects (args := #[]) (mvT hZ (W 36 rfl))) (mvT hZ (W 36 rfl)) (mvT hZ (W 35 rfl)) (by decide) (backOf (W := 0) (rm_clearAndTrim6_1 l Z a0 hw [] b62 p1 a_NO_SLOTS k109_68 ((0 : Int32)) j125_1 j125_2 b109_68 h1071 n0 O1071 G4 g_b62 J1071_0 J1071_2 F1107 J1071_1 (fun q => ne_b62_b109_68 q.symm) hc1128) hZ (W 37 rfl) (W 2 rfl) (by decide) (by decide)) q1129a q1129c (g := (mkF m 140 #[iv p0, iv p1, iv p2, rv b62, rv b109_68, iv (16 : Int32), rv b109_68, iv (0 : Int32), iv (1 : Int32), rv b109_68, iv (16 : Int32), .unset, .unset] [(.int p1), (.ref b62)])) rfl (by rw [hml]; rfl) (Steps.refl _) (argsL := [(.int p1)]) (rest := []) (lenOf pd_6 rfl) rfl (by show 2 * 0 + _ ≤ _; exact Nat.le_of_eq rfl) (hb hby at_140) (fun _ _ => ⟨rfl, e1118, (by decide : 4 + 0 ≤ _), (by decide : 20 + 0 ≤ _)⟩)
        dsimp only [Pt.U, Pt.locs, Pt.cells, Pt.slots] at X1129 l1129 y1129 z1129 st1129 hQ1129
        replace l1129 := l1129.symm
        replace y1129 : 4 = k1129 := y1129.symm
        replace z1129 : 20 = n1129 := z1129.symm
        subst l1129 y1129 z1129
        obtain ⟨rfl, M1129, Kc1129, O1129, J1129_0, J1129_1, J1129_2⟩ := hQ1129
        obtain ⟨h1129, e1129⟩ : ∃ z, T1129.heap = z := ⟨_, rfl⟩
        rw [e1129] at Kc1129 O1129 J1129_0 J1129_1 J1129_2
        have N1129 := Fr.app N1118 M1129
        have K1129 : Keep h0 h1129 [] := K1071.trans Kc1129 (own_all1 (Or.inr sz_b62))
        have pre1130 : ∀ t, Steps p.tables e below (T1129.setTop (mkF m 143 #[iv p0, iv p1, iv p2, rv b62, rv b109_68, iv (16 : Int32), rv b109_68, iv (0 : Int32), iv (1 : Int32), rv b109_68, iv (16 : Int32), .unset, .unset] [])) t → Steps p.tables e below (s₁.setTop (entryFrame m #[(.int p0), (.int p1), (.int p2)] maxLocals)) t := fun t kt => pre1122 _ (st1129.trans kt)
        have F1131 := F1107.keep Kc1129 (own_nm1 (fun q => ne_b62_b109_68 q.symm))
        have F1132 := F1108.keep Kc1129
        have pre1133 : ∀ t, Steps p.tables e below (T1129.setTop (mkF m 157 #[iv p0, iv p1, iv p2, rv b62, rv b109_68, iv (16 : Int32), rv b109_68, iv (0 : Int32), iv (1 : Int32), rv b109_68, iv (16 : Int32), iv (1 : Int32), .unset] [(.ref b62)])) t → Steps p.tables e below (s₁.setTop (entryFrame m #[(.int p0), (.int p1), (.int p2)] maxLocals)) t := fun t kt => by
          refine pre1130 _ ?_
          show Steps p.tables e below (T1129.setTop (mkF m 143 #[iv p0, iv p1, iv p2, rv b62, rv b109_68, iv (16 : Int32), rv b109_68, iv (0 : Int32), iv (1 : Int32), rv b109_68, iv (16 : Int32), .unset, .unset] [])) _
          refine XS.iload X1129.here hx rfl (hb hby at_143) rfl ?_
          show Steps p.tables e below (T1129.setTop (mkF m 145 #[iv p0, iv p1, iv p2, rv b62, rv b109_68, iv (16 : Int32), rv b109_68, iv (0 : Int32), iv (1 : Int32), rv b109_68, iv (16 : Int32), .unset, .unset] [(.int (16 : Int32))])) _
          refine XS.iloadN X1129.here hx rfl (hb hby at_145) rfl ?_
          show Steps p.tables e below (T1129.setTop (mkF m 146 #[iv p0, iv p1, iv p2, rv b62, rv b109_68, iv (16 : Int32), rv b109_68, iv (0 : Int32), iv (1 : Int32), rv b109_68, iv (16 : Int32), .unset, .unset] [(.int p1), (.int (16 : Int32))])) _
          refine XS.icmpNo X1129.here hx rfl (hb hby at_146) rfl (XT.ii_le_f hc1128) ?_
          show Steps p.tables e below (T1129.setTop (mkF m 149 #[iv p0, iv p1, iv p2, rv b62, rv b109_68, iv (16 : Int32), rv b109_68, iv (0 : Int32), iv (1 : Int32), rv b109_68, iv (16 : Int32), .unset, .unset] [])) _
          refine XS.iconst X1129.here hx rfl (hb hby at_149) ?_
          show Steps p.tables e below (T1129.setTop (mkF m 150 #[iv p0, iv p1, iv p2, rv b62, rv b109_68, iv (16 : Int32), rv b109_68, iv (0 : Int32), iv (1 : Int32), rv b109_68, iv (16 : Int32), .unset, .unset] [(.int (1 : Int32))])) _
          refine XS.goto X1129.here hx rfl (pc0 := 150) (pc' := 154) rfl (hb hby at_150) (by decide) (by decide) ?_
          show Steps p.tables e below (T1129.setTop (mkF m 154 #[iv p0, iv p1, iv p2, rv b62, rv b109_68, iv (16 : Int32), rv b109_68, iv (0 : Int32), iv (1 : Int32), rv b109_68, iv (16 : Int32), .unset, .unset] [(.int (1 : Int32))])) _
          refine XS.istore X1129.here hx rfl (hb hby at_154) rfl (l' := #[iv p0, iv p1, iv p2, rv b62, rv b109_68, iv (16 : Int32), rv b109_68, iv (0 : Int32), iv (1 : Int32), rv b109_68, iv (16 : Int32), iv (1 : Int32), .unset]) rfl ?_
          show Steps p.tables e below (T1129.setTop (mkF m 156 #[iv p0, iv p1, iv p2, rv b62, rv b109_68, iv (16 : Int32), rv b109_68, iv (0 : Int32), iv (1 : Int32), rv b109_68, iv (16 : Int32), iv (1 : Int32), .unset] [])) _
          refine XS.aloadN X1129.here hx rfl (hb hby at_156) rfl rfl ?_
          exact kt
        obtain ⟨cq1134, kq1134, q1134a, q1134b, q1134c⟩ := isOf hZ e1129 J1129_0
        obtain ⟨_, _, ⟨T1134, L1134, k1134, n1134⟩, -, X1134, ⟨Lc1134, hQ1134, l1134, y1134, z1134⟩, st1134⟩ := X1129.virtualBack hx (y := (⟨"com/example/homethread/homethread/Items", "size", "()I"⟩ : MethodName)) (z := (⟨"com/example/homethread/homethread/Items", "size", "()I"⟩ : MethodName)) hown (mvT hZ (W 40 rfl)) (mvT hZ (W 41 rfl)) (notFace_of_selects (args := #[]) (mvT hZ (W 43 rfl))) (mvT hZ (W 43 rfl)) (mvT hZ (W 42 rfl)) (by decide) (backOf (W := 0) (rm_size7_0 l Z a0 hw [] b62 h1129 n0 O1129 J1129_2) hZ (W 44 rfl) (W 2 rfl) (by decide) (by decide)) q1134a q1134c (g := (mkF m 157 #[iv p0, iv p1, iv p2, rv b62, rv b109_68, iv (16 : Int32), rv b109_68, iv (0 : Int32), iv (1 : Int32), rv b109_68, iv (16 : Int32), iv (1 : Int32), .unset] [(.ref b62)])) rfl (by rw [hml]; rfl) (Steps.refl _) (argsL := []) (rest := []) (lenOf pd_18 rfl) rfl (by show 2 * 0 + _ ≤ _; exact Nat.le_of_eq rfl) (hb hby at_157) (fun _ _ => ⟨rfl, e1129, (by decide : 4 + 0 ≤ _), (by decide : 20 + 0 ≤ _)⟩)
        dsimp only [Pt.U, Pt.locs, Pt.cells, Pt.slots] at X1134 l1134 y1134 z1134 st1134 hQ1134
        replace l1134 := l1134.symm
        replace y1134 : 4 = k1134 := y1134.symm
        replace z1134 : 20 = n1134 := z1134.symm
        subst l1134 y1134 z1134
        obtain ⟨rfl, M1134, e1134⟩ := hQ1134
        have N1134 := Fr.app N1129 M1134
        have pre1135 : ∀ t, Steps p.tables e below (T1134.setTop (mkF m 160 #[iv p0, iv p1, iv p2, rv b62, rv b109_68, iv (16 : Int32), rv b109_68, iv (0 : Int32), iv (1 : Int32), rv b109_68, iv (16 : Int32), iv (1 : Int32), .unset] [(.int (0 : Int32))])) t → Steps p.tables e below (s₁.setTop (entryFrame m #[(.int p0), (.int p1), (.int p2)] maxLocals)) t := fun t kt => pre1133 _ (st1134.trans kt)
        have pre1136 : ∀ t, Steps p.tables e below (T1134.setTop (mkF m 169 #[iv p0, iv p1, iv p2, rv b62, rv b109_68, iv (16 : Int32), rv b109_68, iv (0 : Int32), iv (1 : Int32), rv b109_68, iv (16 : Int32), iv (1 : Int32), .unset] [(.ref b62)])) t → Steps p.tables e below (s₁.setTop (entryFrame m #[(.int p0), (.int p1), (.int p2)] maxLocals)) t := fun t kt => by
          refine pre1135 _ ?_
          show Steps p.tables e below (T1134.setTop (mkF m 160 #[iv p0, iv p1, iv p2, rv b62, rv b109_68, iv (16 : Int32), rv b109_68, iv (0 : Int32), iv (1 : Int32), rv b109_68, iv (16 : Int32), iv (1 : Int32), .unset] [(.int (0 : Int32))])) _
          refine XS.ifNo X1134.here hx rfl (hb hby at_160) rfl (XT.i0_ne_f (by decide)) ?_
          show Steps p.tables e below (T1134.setTop (mkF m 163 #[iv p0, iv p1, iv p2, rv b62, rv b109_68, iv (16 : Int32), rv b109_68, iv (0 : Int32), iv (1 : Int32), rv b109_68, iv (16 : Int32), iv (1 : Int32), .unset] [])) _
          refine XS.iload X1134.here hx rfl (hb hby at_163) rfl ?_
          show Steps p.tables e below (T1134.setTop (mkF m 165 #[iv p0, iv p1, iv p2, rv b62, rv b109_68, iv (16 : Int32), rv b109_68, iv (0 : Int32), iv (1 : Int32), rv b109_68, iv (16 : Int32), iv (1 : Int32), .unset] [(.int (1 : Int32))])) _
          refine XS.ifNo X1134.here hx rfl (hb hby at_165) rfl (XT.i0_eq_f (by decide)) ?_
          show Steps p.tables e below (T1134.setTop (mkF m 168 #[iv p0, iv p1, iv p2, rv b62, rv b109_68, iv (16 : Int32), rv b109_68, iv (0 : Int32), iv (1 : Int32), rv b109_68, iv (16 : Int32), iv (1 : Int32), .unset] [])) _
          refine XS.aloadN X1134.here hx rfl (hb hby at_168) rfl rfl ?_
          exact kt
        obtain ⟨cq1137, kq1137, q1137a, q1137b, q1137c⟩ := isOf hZ e1134 J1129_0
        obtain ⟨_, _, ⟨T1137, L1137, k1137, n1137⟩, -, X1137, ⟨Lc1137, hQ1137, l1137, y1137, z1137⟩, st1137⟩ := X1134.virtualBack hx (y := (⟨"com/example/homethread/homethread/Items", "slots", "()[Ljava/lang/Object;"⟩ : MethodName)) (z := (⟨"com/example/homethread/homethread/Items", "slots", "()[Ljava/lang/Object;"⟩ : MethodName)) hown (mvT hZ (W 28 rfl)) (mvT hZ (W 29 rfl)) (notFace_of_selects (args := #[]) (mvT hZ (W 31 rfl))) (mvT hZ (W 31 rfl)) (mvT hZ (W 30 rfl)) (by decide) (backOf (W := 0) (rm_slots5_0 l Z a0 hw [] b62 a_NO_SLOTS h1129 n0 O1129 J1129_1) hZ (W 32 rfl) (W 2 rfl) (by decide) (by decide)) q1137a q1137c (g := (mkF m 169 #[iv p0, iv p1, iv p2, rv b62, rv b109_68, iv (16 : Int32), rv b109_68, iv (0 : Int32), iv (1 : Int32), rv b109_68, iv (16 : Int32), iv (1 : Int32), .unset] [(.ref b62)])) rfl (by rw [hml]; rfl) (Steps.refl _) (argsL := []) (rest := []) (lenOf pd_15 rfl) rfl (by show 2 * 0 + _ ≤ _; exact Nat.le_of_eq rfl) (hb hby at_169) (fun _ _ => ⟨rfl, e1134, (by decide : 4 + 0 ≤ _), (by decide : 20 + 0 ≤ _)⟩)
        dsimp only [Pt.U, Pt.locs, Pt.cells, Pt.slots] at X1137 l1137 y1137 z1137 st1137 hQ1137
        replace l1137 := l1137.symm
        replace y1137 : 4 = k1137 := y1137.symm
        replace z1137 : 20 = n1137 := z1137.symm
        subst l1137 y1137 z1137
        obtain ⟨rfl, M1137, e1137⟩ := hQ1137
        have N1137 := Fr.app N1134 M1137
        have pre1138 : ∀ t, Steps p.tables e below (T1137.setTop (mkF m 172 #[iv p0, iv p1, iv p2, rv b62, rv b109_68, iv (16 : Int32), rv b109_68, iv (0 : Int32), iv (1 : Int32), rv b109_68, iv (16 : Int32), iv (1 : Int32), .unset] [(.ref a_NO_SLOTS)])) t → Steps p.tables e below (s₁.setTop (entryFrame m #[(.int p0), (.int p1), (.int p2)] maxLocals)) t := fun t kt => pre1136 _ (st1137.trans kt)
        obtain ⟨c1139, Ar1139, -, S1139, M1139, -, -⟩ := id (G6.ext O1129.2)
        have pre1140 : ∀ t, Steps p.tables e below (T1137.setTop (mkF m 210 #[iv p0, iv p1, iv p2, rv b62, rv b109_68, iv (16 : Int32), rv b109_68, iv (0 : Int32), iv (1 : Int32), rv b109_68, iv (16 : Int32), iv (1 : Int32), iv (1 : Int32)] [(.int (1 : Int32))])) t → Steps p.tables e below (s₁.setTop (entryFrame m #[(.int p0), (.int p1), (.int p2)] maxLocals)) t := fun t kt => by
          refine pre1138 _ ?_
          show Steps p.tables e below (T1137.setTop (mkF m 172 #[iv p0, iv p1, iv p2, rv b62, rv b109_68, iv (16 : Int32), rv b109_68, iv (0 : Int32), iv (1 : Int32), rv b109_68, iv (16 : Int32), iv (1 : Int32), .unset] [(.ref a_NO_SLOTS)])) _
          refine X1137.arraylength hx (by rw [e1137]; exact Ar1139.1) (State.isArrayOf_alike hZ.alike Ar1139.2.1) (g := (mkF m 172 #[iv p0, iv p1, iv p2, rv b62, rv b109_68, iv (16 : Int32), rv b109_68, iv (0 : Int32), iv (1 : Int32), rv b109_68, iv (16 : Int32), iv (1 : Int32), .unset] [(.ref a_NO_SLOTS)])) rfl rfl (hb hby at_172) _ ?_
          rw [len_of S1139 M1139]
          show Steps p.tables e below (T1137.setTop (mkF m 173 #[iv p0, iv p1, iv p2, rv b62, rv b109_68, iv (16 : Int32), rv b109_68, iv (0 : Int32), iv (1 : Int32), rv b109_68, iv (16 : Int32), iv (1 : Int32), .unset] [(.int (0 : Int32))])) _
          refine XS.ifNo X1137.here hx rfl (hb hby at_173) rfl (XT.i0_ne_f (by decide)) ?_
          show Steps p.tables e below (T1137.setTop (mkF m 176 #[iv p0, iv p1, iv p2, rv b62, rv b109_68, iv (16 : Int32), rv b109_68, iv (0 : Int32), iv (1 : Int32), rv b109_68, iv (16 : Int32), iv (1 : Int32), .unset] [])) _
          refine XS.goto X1137.here hx rfl (pc0 := 176) (pc' := 188) rfl (hb hby at_176) (by decide) (by decide) ?_
          show Steps p.tables e below (T1137.setTop (mkF m 188 #[iv p0, iv p1, iv p2, rv b62, rv b109_68, iv (16 : Int32), rv b109_68, iv (0 : Int32), iv (1 : Int32), rv b109_68, iv (16 : Int32), iv (1 : Int32), .unset] [])) _
          refine XS.iconst X1137.here hx rfl (hb hby at_188) ?_
          show Steps p.tables e below (T1137.setTop (mkF m 189 #[iv p0, iv p1, iv p2, rv b62, rv b109_68, iv (16 : Int32), rv b109_68, iv (0 : Int32), iv (1 : Int32), rv b109_68, iv (16 : Int32), iv (1 : Int32), .unset] [(.int (1 : Int32))])) _
          refine XS.goto X1137.here hx rfl (pc0 := 189) (pc' := 193) rfl (hb hby at_189) (by decide) (by decide) ?_
          show Steps p.tables e below (T1137.setTop (mkF m 193 #[iv p0, iv p1, iv p2, rv b62, rv b109_68, iv (16 : Int32), rv b109_68, iv (0 : Int32), iv (1 : Int32), rv b109_68, iv (16 : Int32), iv (1 : Int32), .unset] [(.int (1 : Int32))])) _
          refine XS.istore X1137.here hx rfl (hb hby at_193) rfl (l' := #[iv p0, iv p1, iv p2, rv b62, rv b109_68, iv (16 : Int32), rv b109_68, iv (0 : Int32), iv (1 : Int32), rv b109_68, iv (16 : Int32), iv (1 : Int32), iv (1 : Int32)]) rfl ?_
          show Steps p.tables e below (T1137.setTop (mkF m 195 #[iv p0, iv p1, iv p2, rv b62, rv b109_68, iv (16 : Int32), rv b109_68, iv (0 : Int32), iv (1 : Int32), rv b109_68, iv (16 : Int32), iv (1 : Int32), iv (1 : Int32)] [])) _
          refine XS.iload X1137.here hx rfl (hb hby at_195) rfl ?_
          show Steps p.tables e below (T1137.setTop (mkF m 197 #[iv p0, iv p1, iv p2, rv b62, rv b109_68, iv (16 : Int32), rv b109_68, iv (0 : Int32), iv (1 : Int32), rv b109_68, iv (16 : Int32), iv (1 : Int32), iv (1 : Int32)] [(.int (1 : Int32))])) _
          refine XS.ifNo X1137.here hx rfl (hb hby at_197) rfl (XT.i0_eq_f (by decide)) ?_
          show Steps p.tables e below (T1137.setTop (mkF m 200 #[iv p0, iv p1, iv p2, rv b62, rv b109_68, iv (16 : Int32), rv b109_68, iv (0 : Int32), iv (1 : Int32), rv b109_68, iv (16 : Int32), iv (1 : Int32), iv (1 : Int32)] [])) _
          refine XS.iload X1137.here hx rfl (hb hby at_200) rfl ?_
          show Steps p.tables e below (T1137.setTop (mkF m 202 #[iv p0, iv p1, iv p2, rv b62, rv b109_68, iv (16 : Int32), rv b109_68, iv (0 : Int32), iv (1 : Int32), rv b109_68, iv (16 : Int32), iv (1 : Int32), iv (1 : Int32)] [(.int (1 : Int32))])) _
          refine XS.ifNo X1137.here hx rfl (hb hby at_202) rfl (XT.i0_eq_f (by decide)) ?_
          show Steps p.tables e below (T1137.setTop (mkF m 205 #[iv p0, iv p1, iv p2, rv b62, rv b109_68, iv (16 : Int32), rv b109_68, iv (0 : Int32), iv (1 : Int32), rv b109_68, iv (16 : Int32), iv (1 : Int32), iv (1 : Int32)] [])) _
          refine XS.iconst X1137.here hx rfl (hb hby at_205) ?_
          show Steps p.tables e below (T1137.setTop (mkF m 206 #[iv p0, iv p1, iv p2, rv b62, rv b109_68, iv (16 : Int32), rv b109_68, iv (0 : Int32), iv (1 : Int32), rv b109_68, iv (16 : Int32), iv (1 : Int32), iv (1 : Int32)] [(.int (1 : Int32))])) _
          refine XS.goto X1137.here hx rfl (pc0 := 206) (pc' := 210) rfl (hb hby at_206) (by decide) (by decide) ?_
          exact kt
        obtain ⟨fs, hr, hrun, hended, hW, hsame⟩ := X1137.leave (v := some (.int (1 : Int32))) (fun h => by rw [Bd.returns] at h; cases h)
        refine ⟨_, _, pre1140 _ (retN X1137 hx (t := .boolean) Bd.returns (by simp) (hb hby at_210) hr), hrun, hended, _, _, rfl, ?_, ⟨_, rfl⟩, hW, hsame.mono (by decide) (by decide)⟩
        show Q_law Z p0 p1 p2 ac mr a_NO_SLOTS kn h0 n0 _ T1137.heap _
        rw [e1137]
        exact ⟨rfl, N1137⟩
      · obtain ⟨cq1141, kq1141, q1141a, q1141b, q1141c⟩ := isOf hZ e1118 J1071_0
        obtain ⟨_, _, ⟨T1141, L1141, k1141, n1141⟩, -, X1141, ⟨Lc1141, hQ1141, l1141, y1141, z1141⟩, st1141⟩ := X1118.virtualBack hx (y := (⟨"com/example/homethread/homethread/Items", "clearAndTrim", "(I)V"⟩ : MethodName)) (z := (⟨"com/example/homethread/homethread/Items", "clearAndTrim", "(I)V"⟩ : MethodName)) hown (mvT hZ (W 33 rfl)) (mvT hZ (W 34 rfl)) (notFace_of_selects (args := #[]) (mvT hZ (W 36 rfl))) (mvT hZ (W 36 rfl)) (mvT hZ (W 35 rfl)) (by decide) (backOf (W := 0) (rm_clearAndTrim6_7 l Z a0 hw [] b62 p1 k109_68 ((0 : Int32)) j125_1 j125_2 b109_68 h1071 n0 O1071 g_b62 J1071_0 J1071_2 F1107 J1071_1 (fun q => ne_b62_b109_68 q.symm) hc1128) hZ (W 37 rfl) (W 2 rfl) (by decide) (by decide)) q1141a q1141c (g := (mkF m 140 #[iv p0, iv p1, iv p2, rv b62, rv b109_68, iv (16 : Int32), rv b109_68, iv (0 : Int32), iv (1 : Int32), rv b109_68, iv (16 : Int32), .unset, .unset] [(.int p1), (.ref b62)])) rfl (by rw [hml]; rfl) (Steps.refl _) (argsL := [(.int p1)]) (rest := []) (lenOf pd_6 rfl) rfl (by show 2 * 0 + _ ≤ _; exact Nat.le_of_eq rfl) (hb hby at_140) (fun _ _ => ⟨rfl, e1118, (by decide : 4 + 0 ≤ _), (by decide : 20 + 0 ≤ _)⟩)
        dsimp only [Pt.U, Pt.locs, Pt.cells, Pt.slots] at X1141 l1141 y1141 z1141 st1141 hQ1141
        replace l1141 := l1141.symm
        replace y1141 : 4 = k1141 := y1141.symm
        replace z1141 : 20 = n1141 := z1141.symm
        subst l1141 y1141 z1141
        obtain ⟨rfl, M1141, Kc1141, O1141, J1141_0, J1141_1, J1141_2⟩ := hQ1141
        obtain ⟨h1141, e1141⟩ : ∃ z, T1141.heap = z := ⟨_, rfl⟩
        rw [e1141] at Kc1141 O1141 J1141_0 J1141_1 J1141_2
        have N1141 := Fr.app N1118 M1141
        have K1141 : Keep h0 h1141 [] := K1071.trans Kc1141 (own_all1 (Or.inr sz_b62))
        have pre1142 : ∀ t, Steps p.tables e below (T1141.setTop (mkF m 143 #[iv p0, iv p1, iv p2, rv b62, rv b109_68, iv (16 : Int32), rv b109_68, iv (0 : Int32), iv (1 : Int32), rv b109_68, iv (16 : Int32), .unset, .unset] [])) t → Steps p.tables e below (s₁.setTop (entryFrame m #[(.int p0), (.int p1), (.int p2)] maxLocals)) t := fun t kt => pre1122 _ (st1141.trans kt)
        have F1143 := F1107.keep Kc1141 (own_nm1 (fun q => ne_b62_b109_68 q.symm))
        have F1144 := F1108.keep Kc1141
        have pre1145 : ∀ t, Steps p.tables e below (T1141.setTop (mkF m 157 #[iv p0, iv p1, iv p2, rv b62, rv b109_68, iv (16 : Int32), rv b109_68, iv (0 : Int32), iv (1 : Int32), rv b109_68, iv (16 : Int32), iv (0 : Int32), .unset] [(.ref b62)])) t → Steps p.tables e below (s₁.setTop (entryFrame m #[(.int p0), (.int p1), (.int p2)] maxLocals)) t := fun t kt => by
          refine pre1142 _ ?_
          show Steps p.tables e below (T1141.setTop (mkF m 143 #[iv p0, iv p1, iv p2, rv b62, rv b109_68, iv (16 : Int32), rv b109_68, iv (0 : Int32), iv (1 : Int32), rv b109_68, iv (16 : Int32), .unset, .unset] [])) _
          refine XS.iload X1141.here hx rfl (hb hby at_143) rfl ?_
          show Steps p.tables e below (T1141.setTop (mkF m 145 #[iv p0, iv p1, iv p2, rv b62, rv b109_68, iv (16 : Int32), rv b109_68, iv (0 : Int32), iv (1 : Int32), rv b109_68, iv (16 : Int32), .unset, .unset] [(.int (16 : Int32))])) _
          refine XS.iloadN X1141.here hx rfl (hb hby at_145) rfl ?_
          show Steps p.tables e below (T1141.setTop (mkF m 146 #[iv p0, iv p1, iv p2, rv b62, rv b109_68, iv (16 : Int32), rv b109_68, iv (0 : Int32), iv (1 : Int32), rv b109_68, iv (16 : Int32), .unset, .unset] [(.int p1), (.int (16 : Int32))])) _
          refine XS.icmpYes X1141.here hx rfl (pc0 := 146) (pc' := 153) rfl (hb hby at_146) rfl (XT.ii_le_t hc1128) (by decide) (by decide) ?_
          show Steps p.tables e below (T1141.setTop (mkF m 153 #[iv p0, iv p1, iv p2, rv b62, rv b109_68, iv (16 : Int32), rv b109_68, iv (0 : Int32), iv (1 : Int32), rv b109_68, iv (16 : Int32), .unset, .unset] [])) _
          refine XS.iconst X1141.here hx rfl (hb hby at_153) ?_
          show Steps p.tables e below (T1141.setTop (mkF m 154 #[iv p0, iv p1, iv p2, rv b62, rv b109_68, iv (16 : Int32), rv b109_68, iv (0 : Int32), iv (1 : Int32), rv b109_68, iv (16 : Int32), .unset, .unset] [(.int (0 : Int32))])) _
          refine XS.istore X1141.here hx rfl (hb hby at_154) rfl (l' := #[iv p0, iv p1, iv p2, rv b62, rv b109_68, iv (16 : Int32), rv b109_68, iv (0 : Int32), iv (1 : Int32), rv b109_68, iv (16 : Int32), iv (0 : Int32), .unset]) rfl ?_
          show Steps p.tables e below (T1141.setTop (mkF m 156 #[iv p0, iv p1, iv p2, rv b62, rv b109_68, iv (16 : Int32), rv b109_68, iv (0 : Int32), iv (1 : Int32), rv b109_68, iv (16 : Int32), iv (0 : Int32), .unset] [])) _
          refine XS.aloadN X1141.here hx rfl (hb hby at_156) rfl rfl ?_
          exact kt
        obtain ⟨cq1146, kq1146, q1146a, q1146b, q1146c⟩ := isOf hZ e1141 J1141_0
        obtain ⟨_, _, ⟨T1146, L1146, k1146, n1146⟩, -, X1146, ⟨Lc1146, hQ1146, l1146, y1146, z1146⟩, st1146⟩ := X1141.virtualBack hx (y := (⟨"com/example/homethread/homethread/Items", "size", "()I"⟩ : MethodName)) (z := (⟨"com/example/homethread/homethread/Items", "size", "()I"⟩ : MethodName)) hown (mvT hZ (W 40 rfl)) (mvT hZ (W 41 rfl)) (notFace_of_selects (args := #[]) (mvT hZ (W 43 rfl))) (mvT hZ (W 43 rfl)) (mvT hZ (W 42 rfl)) (by decide) (backOf (W := 0) (rm_size7_0 l Z a0 hw [] b62 h1141 n0 O1141 J1141_2) hZ (W 44 rfl) (W 2 rfl) (by decide) (by decide)) q1146a q1146c (g := (mkF m 157 #[iv p0, iv p1, iv p2, rv b62, rv b109_68, iv (16 : Int32), rv b109_68, iv (0 : Int32), iv (1 : Int32), rv b109_68, iv (16 : Int32), iv (0 : Int32), .unset] [(.ref b62)])) rfl (by rw [hml]; rfl) (Steps.refl _) (argsL := []) (rest := []) (lenOf pd_18 rfl) rfl (by show 2 * 0 + _ ≤ _; exact Nat.le_of_eq rfl) (hb hby at_157) (fun _ _ => ⟨rfl, e1141, (by decide : 4 + 0 ≤ _), (by decide : 20 + 0 ≤ _)⟩)
        dsimp only [Pt.U, Pt.locs, Pt.cells, Pt.slots] at X1146 l1146 y1146 z1146 st1146 hQ1146
        replace l1146 := l1146.symm
        replace y1146 : 4 = k1146 := y1146.symm
        replace z1146 : 20 = n1146 := z1146.symm
        subst l1146 y1146 z1146
        obtain ⟨rfl, M1146, e1146⟩ := hQ1146
        have N1146 := Fr.app N1141 M1146
        have pre1147 : ∀ t, Steps p.tables e below (T1146.setTop (mkF m 160 #[iv p0, iv p1, iv p2, rv b62, rv b109_68, iv (16 : Int32), rv b109_68, iv (0 : Int32), iv (1 : Int32), rv b109_68, iv (16 : Int32), iv (0 : Int32), .unset] [(.int (0 : Int32))])) t → Steps p.tables e below (s₁.setTop (entryFrame m #[(.int p0), (.int p1), (.int p2)] maxLocals)) t := fun t kt => pre1145 _ (st1146.trans kt)
        have pre1148 : ∀ t, Steps p.tables e below (T1146.setTop (mkF m 180 #[iv p0, iv p1, iv p2, rv b62, rv b109_68, iv (16 : Int32), rv b109_68, iv (0 : Int32), iv (1 : Int32), rv b109_68, iv (16 : Int32), iv (0 : Int32), .unset] [(.ref b62)])) t → Steps p.tables e below (s₁.setTop (entryFrame m #[(.int p0), (.int p1), (.int p2)] maxLocals)) t := fun t kt => by
          refine pre1147 _ ?_
          show Steps p.tables e below (T1146.setTop (mkF m 160 #[iv p0, iv p1, iv p2, rv b62, rv b109_68, iv (16 : Int32), rv b109_68, iv (0 : Int32), iv (1 : Int32), rv b109_68, iv (16 : Int32), iv (0 : Int32), .unset] [(.int (0 : Int32))])) _
          refine XS.ifNo X1146.here hx rfl (hb hby at_160) rfl (XT.i0_ne_f (by decide)) ?_
          show Steps p.tables e below (T1146.setTop (mkF m 163 #[iv p0, iv p1, iv p2, rv b62, rv b109_68, iv (16 : Int32), rv b109_68, iv (0 : Int32), iv (1 : Int32), rv b109_68, iv (16 : Int32), iv (0 : Int32), .unset] [])) _
          refine XS.iload X1146.here hx rfl (hb hby at_163) rfl ?_
          show Steps p.tables e below (T1146.setTop (mkF m 165 #[iv p0, iv p1, iv p2, rv b62, rv b109_68, iv (16 : Int32), rv b109_68, iv (0 : Int32), iv (1 : Int32), rv b109_68, iv (16 : Int32), iv (0 : Int32), .unset] [(.int (0 : Int32))])) _
          refine XS.ifYes X1146.here hx rfl (pc0 := 165) (pc' := 179) rfl (hb hby at_165) rfl (XT.i0_eq_t (by decide)) (by decide) (by decide) ?_
          show Steps p.tables e below (T1146.setTop (mkF m 179 #[iv p0, iv p1, iv p2, rv b62, rv b109_68, iv (16 : Int32), rv b109_68, iv (0 : Int32), iv (1 : Int32), rv b109_68, iv (16 : Int32), iv (0 : Int32), .unset] [])) _
          refine XS.aloadN X1146.here hx rfl (hb hby at_179) rfl rfl ?_
          exact kt
        obtain ⟨cq1149, kq1149, q1149a, q1149b, q1149c⟩ := isOf hZ e1146 J1141_0
        obtain ⟨_, _, ⟨T1149, L1149, k1149, n1149⟩, -, X1149, ⟨Lc1149, hQ1149, l1149, y1149, z1149⟩, st1149⟩ := X1146.virtualBack hx (y := (⟨"com/example/homethread/homethread/Items", "slots", "()[Ljava/lang/Object;"⟩ : MethodName)) (z := (⟨"com/example/homethread/homethread/Items", "slots", "()[Ljava/lang/Object;"⟩ : MethodName)) hown (mvT hZ (W 28 rfl)) (mvT hZ (W 29 rfl)) (notFace_of_selects (args := #[]) (mvT hZ (W 31 rfl))) (mvT hZ (W 31 rfl)) (mvT hZ (W 30 rfl)) (by decide) (backOf (W := 0) (rm_slots5_0 l Z a0 hw [] b62 b109_68 h1141 n0 O1141 J1141_1) hZ (W 32 rfl) (W 2 rfl) (by decide) (by decide)) q1149a q1149c (g := (mkF m 180 #[iv p0, iv p1, iv p2, rv b62, rv b109_68, iv (16 : Int32), rv b109_68, iv (0 : Int32), iv (1 : Int32), rv b109_68, iv (16 : Int32), iv (0 : Int32), .unset] [(.ref b62)])) rfl (by rw [hml]; rfl) (Steps.refl _) (argsL := []) (rest := []) (lenOf pd_15 rfl) rfl (by show 2 * 0 + _ ≤ _; exact Nat.le_of_eq rfl) (hb hby at_180) (fun _ _ => ⟨rfl, e1146, (by decide : 4 + 0 ≤ _), (by decide : 20 + 0 ≤ _)⟩)
        dsimp only [Pt.U, Pt.locs, Pt.cells, Pt.slots] at X1149 l1149 y1149 z1149 st1149 hQ1149
        replace l1149 := l1149.symm
        replace y1149 : 4 = k1149 := y1149.symm
        replace z1149 : 20 = n1149 := z1149.symm
        subst l1149 y1149 z1149
        obtain ⟨rfl, M1149, e1149⟩ := hQ1149
        have N1149 := Fr.app N1146 M1149
        have pre1150 : ∀ t, Steps p.tables e below (T1149.setTop (mkF m 183 #[iv p0, iv p1, iv p2, rv b62, rv b109_68, iv (16 : Int32), rv b109_68, iv (0 : Int32), iv (1 : Int32), rv b109_68, iv (16 : Int32), iv (0 : Int32), .unset] [(.ref b109_68)])) t → Steps p.tables e below (s₁.setTop (entryFrame m #[(.int p0), (.int p1), (.int p2)] maxLocals)) t := fun t kt => pre1148 _ (st1149.trans kt)
        have pre1151 : ∀ t, Steps p.tables e below (T1149.setTop (mkF m 210 #[iv p0, iv p1, iv p2, rv b62, rv b109_68, iv (16 : Int32), rv b109_68, iv (0 : Int32), iv (1 : Int32), rv b109_68, iv (16 : Int32), iv (0 : Int32), iv (1 : Int32)] [(.int (1 : Int32))])) t → Steps p.tables e below (s₁.setTop (entryFrame m #[(.int p0), (.int p1), (.int p2)] maxLocals)) t := fun t kt => by
          refine pre1150 _ ?_
          show Steps p.tables e below (T1149.setTop (mkF m 183 #[iv p0, iv p1, iv p2, rv b62, rv b109_68, iv (16 : Int32), rv b109_68, iv (0 : Int32), iv (1 : Int32), rv b109_68, iv (16 : Int32), iv (0 : Int32), .unset] [(.ref b109_68)])) _
          refine XS.aload X1149.here hx rfl (hb hby at_183) rfl rfl ?_
          show Steps p.tables e below (T1149.setTop (mkF m 185 #[iv p0, iv p1, iv p2, rv b62, rv b109_68, iv (16 : Int32), rv b109_68, iv (0 : Int32), iv (1 : Int32), rv b109_68, iv (16 : Int32), iv (0 : Int32), .unset] [(.ref b109_68), (.ref b109_68)])) _
          refine Jvm.RoadKit.acmp (g := (mkF m 185 #[iv p0, iv p1, iv p2, rv b62, rv b109_68, iv (16 : Int32), rv b109_68, iv (0 : Int32), iv (1 : Int32), rv b109_68, iv (16 : Int32), iv (0 : Int32), .unset] [(.ref b109_68), (.ref b109_68)])) X1149 hx rfl rfl rfl (pc0 := 185) (pc' := 188) (same := true) rfl (hb hby at_185) rfl (decide_eq_true rfl) (by decide) (by decide) ?_
          show Steps p.tables e below (T1149.setTop (mkF m 188 #[iv p0, iv p1, iv p2, rv b62, rv b109_68, iv (16 : Int32), rv b109_68, iv (0 : Int32), iv (1 : Int32), rv b109_68, iv (16 : Int32), iv (0 : Int32), .unset] [])) _
          refine XS.iconst X1149.here hx rfl (hb hby at_188) ?_
          show Steps p.tables e below (T1149.setTop (mkF m 189 #[iv p0, iv p1, iv p2, rv b62, rv b109_68, iv (16 : Int32), rv b109_68, iv (0 : Int32), iv (1 : Int32), rv b109_68, iv (16 : Int32), iv (0 : Int32), .unset] [(.int (1 : Int32))])) _
          refine XS.goto X1149.here hx rfl (pc0 := 189) (pc' := 193) rfl (hb hby at_189) (by decide) (by decide) ?_
          show Steps p.tables e below (T1149.setTop (mkF m 193 #[iv p0, iv p1, iv p2, rv b62, rv b109_68, iv (16 : Int32), rv b109_68, iv (0 : Int32), iv (1 : Int32), rv b109_68, iv (16 : Int32), iv (0 : Int32), .unset] [(.int (1 : Int32))])) _
          refine XS.istore X1149.here hx rfl (hb hby at_193) rfl (l' := #[iv p0, iv p1, iv p2, rv b62, rv b109_68, iv (16 : Int32), rv b109_68, iv (0 : Int32), iv (1 : Int32), rv b109_68, iv (16 : Int32), iv (0 : Int32), iv (1 : Int32)]) rfl ?_
          show Steps p.tables e below (T1149.setTop (mkF m 195 #[iv p0, iv p1, iv p2, rv b62, rv b109_68, iv (16 : Int32), rv b109_68, iv (0 : Int32), iv (1 : Int32), rv b109_68, iv (16 : Int32), iv (0 : Int32), iv (1 : Int32)] [])) _
          refine XS.iload X1149.here hx rfl (hb hby at_195) rfl ?_
          show Steps p.tables e below (T1149.setTop (mkF m 197 #[iv p0, iv p1, iv p2, rv b62, rv b109_68, iv (16 : Int32), rv b109_68, iv (0 : Int32), iv (1 : Int32), rv b109_68, iv (16 : Int32), iv (0 : Int32), iv (1 : Int32)] [(.int (1 : Int32))])) _
          refine XS.ifNo X1149.here hx rfl (hb hby at_197) rfl (XT.i0_eq_f (by decide)) ?_
          show Steps p.tables e below (T1149.setTop (mkF m 200 #[iv p0, iv p1, iv p2, rv b62, rv b109_68, iv (16 : Int32), rv b109_68, iv (0 : Int32), iv (1 : Int32), rv b109_68, iv (16 : Int32), iv (0 : Int32), iv (1 : Int32)] [])) _
          refine XS.iload X1149.here hx rfl (hb hby at_200) rfl ?_
          show Steps p.tables e below (T1149.setTop (mkF m 202 #[iv p0, iv p1, iv p2, rv b62, rv b109_68, iv (16 : Int32), rv b109_68, iv (0 : Int32), iv (1 : Int32), rv b109_68, iv (16 : Int32), iv (0 : Int32), iv (1 : Int32)] [(.int (1 : Int32))])) _
          refine XS.ifNo X1149.here hx rfl (hb hby at_202) rfl (XT.i0_eq_f (by decide)) ?_
          show Steps p.tables e below (T1149.setTop (mkF m 205 #[iv p0, iv p1, iv p2, rv b62, rv b109_68, iv (16 : Int32), rv b109_68, iv (0 : Int32), iv (1 : Int32), rv b109_68, iv (16 : Int32), iv (0 : Int32), iv (1 : Int32)] [])) _
          refine XS.iconst X1149.here hx rfl (hb hby at_205) ?_
          show Steps p.tables e below (T1149.setTop (mkF m 206 #[iv p0, iv p1, iv p2, rv b62, rv b109_68, iv (16 : Int32), rv b109_68, iv (0 : Int32), iv (1 : Int32), rv b109_68, iv (16 : Int32), iv (0 : Int32), iv (1 : Int32)] [(.int (1 : Int32))])) _
          refine XS.goto X1149.here hx rfl (pc0 := 206) (pc' := 210) rfl (hb hby at_206) (by decide) (by decide) ?_
          exact kt
        obtain ⟨fs, hr, hrun, hended, hW, hsame⟩ := X1149.leave (v := some (.int (1 : Int32))) (fun h => by rw [Bd.returns] at h; cases h)
        refine ⟨_, _, pre1151 _ (retN X1149 hx (t := .boolean) Bd.returns (by simp) (hb hby at_210) hr), hrun, hended, _, _, rfl, ?_, ⟨_, rfl⟩, hW, hsame.mono (by decide) (by decide)⟩
        show Q_law Z p0 p1 p2 ac mr a_NO_SLOTS kn h0 n0 _ T1149.heap _
        rw [e1149]
        exact ⟨rfl, N1149⟩
    · have pre1152 : ∀ t, Steps p.tables e below (T1113.setTop (mkF m 121 #[iv p0, iv p1, iv p2, rv b62, rv b109_68, iv (16 : Int32), rv b109_68, iv (0 : Int32), iv (1 : Int32), .unset, .unset, .unset, .unset] [(.int p1), (.ref b62)])) t → Steps p.tables e below (s₁.setTop (entryFrame m #[(.int p0), (.int p1), (.int p2)] maxLocals)) t := fun t kt => by
        refine pre1115 _ ?_
        show Steps p.tables e below (T1113.setTop (mkF m 116 #[iv p0, iv p1, iv p2, rv b62, rv b109_68, iv (16 : Int32), rv b109_68, iv (0 : Int32), iv (1 : Int32), .unset, .unset, .unset, .unset] [(.int (p2 &&& (4 : Int32)))])) _
        refine XS.ifNo X1113.here hx rfl (hb hby at_116) rfl (XT.i0_eq_f hc1116) ?_
        show Steps p.tables e below (T1113.setTop (mkF m 119 #[iv p0, iv p1, iv p2, rv b62, rv b109_68, iv (16 : Int32), rv b109_68, iv (0 : Int32), iv (1 : Int32), .unset, .unset, .unset, .unset] [])) _
        refine XS.aloadN X1113.here hx rfl (hb hby at_119) rfl rfl ?_
        show Steps p.tables e below (T1113.setTop (mkF m 120 #[iv p0, iv p1, iv p2, rv b62, rv b109_68, iv (16 : Int32), rv b109_68, iv (0 : Int32), iv (1 : Int32), .unset, .unset, .unset, .unset] [(.ref b62)])) _
        refine XS.iloadN X1113.here hx rfl (hb hby at_120) rfl ?_
        exact kt
      obtain ⟨_, _, ⟨T1153, L1153, k1153, n1153⟩, -, X1153, ⟨Lc1153, hQ1153, l1153, y1153, z1153⟩, st1153⟩ := Jvm.LawKit.callS X1113 hx (y := (⟨"java/lang/Integer", "valueOf", "(I)Ljava/lang/Integer;"⟩ : MethodName)) hown (mvT hZ (W 13 rfl)) (mvT hZ (W 14 rfl)) (mvT hZ (W 15 rfl)) (mvT hZ (W 16 rfl)) (by decide) (backOf (W := 1) (rm_valueOf l Z a0 hw [] p1 ac h1071 n0 O1071 G0 G1 G2) hZ (W 16 rfl) (W 15 rfl) (by decide) (by decide)) (g := (mkF m 121 #[iv p0, iv p1, iv p2, rv b62, rv b109_68, iv (16 : Int32), rv b109_68, iv (0 : Int32), iv (1 : Int32), .unset, .unset, .unset, .unset] [(.int p1), (.ref b62)])) rfl (by rw [hml]; rfl) (argsL := [(.int p1)]) (rest := [(.ref b62)]) (lenOf pd_11 rfl) rfl (by show 2 * 0 + _ ≤ _; exact Nat.le_of_eq rfl) (hb hby at_121) (fun _ _ => ⟨rfl, e1113, (by decide : 4 + 1 ≤ _), (by decide : 20 + 1 ≤ _)⟩)
      dsimp only [Pt.U, Pt.locs, Pt.cells, Pt.slots] at X1153 l1153 y1153 z1153 st1153 hQ1153
      replace l1153 := l1153.symm
      replace y1153 : 5 = k1153 := y1153.symm
      replace z1153 : 21 = n1153 := z1153.symm
      subst l1153 y1153 z1153
      obtain ⟨r_1153, rfl, M1153, Kc1153, O1153, J1153_0⟩ := hQ1153
      obtain ⟨h1153, e1153⟩ : ∃ z, T1153.heap = z := ⟨_, rfl⟩
      rw [e1153] at Kc1153 O1153 J1153_0
      have N1153 := Fr.app N1113 M1153
      have K1153 : Keep h0 h1153 [] := K1071.trans Kc1153 (own_all0 )
      have pre1154 : ∀ t, Steps p.tables e below (T1153.setTop (mkF m 124 #[iv p0, iv p1, iv p2, rv b62, rv b109_68, iv (16 : Int32), rv b109_68, iv (0 : Int32), iv (1 : Int32), .unset, .unset, .unset, .unset] [(.ref r_1153), (.ref b62)])) t → Steps p.tables e below (s₁.setTop (entryFrame m #[(.int p0), (.int p1), (.int p2)] maxLocals)) t := fun t kt => pre1152 _ (st1153 _ kt)
      have F1155 := F1107.keep Kc1153 (own_nm0 )
      have F1156 := F1108.keep Kc1153
      have F1157 := J1071_0.keep Kc1153
      have F1158 := J1071_1.keep Kc1153 (own_nm0 )
      have F1159 := J1071_2.keep Kc1153 (own_nm0 )
      obtain ⟨cq1160, kq1160, q1160a, q1160b, q1160c⟩ := isOf hZ e1153 F1157
      obtain ⟨_, _, ⟨T1160, L1160, k1160, n1160⟩, -, X1160, ⟨Lc1160, hQ1160, l1160, y1160, z1160⟩, st1160⟩ := X1153.virtualBack hx (y := (⟨"com/example/homethread/homethread/Items", "add", "(Ljava/lang/Object;)V"⟩ : MethodName)) (z := (⟨"com/example/homethread/homethread/Items", "add", "(Ljava/lang/Object;)V"⟩ : MethodName)) hown (mvT hZ (W 20 rfl)) (mvT hZ (W 21 rfl)) (notFace_of_selects (args := #[]) (mvT hZ (W 23 rfl))) (mvT hZ (W 23 rfl)) (mvT hZ (W 22 rfl)) (by decide) (backOf (W := 0) (rm_add4_3 l Z a0 hw [] b62 r_1153 k109_68 j125_1 j125_2 b109_68 h1153 n0 O1153 g_b109_68 g_b62 F384 F1155 F1156 F1157 F1158 F1159 J1153_0 (fun q => ne_b62_b109_68 q.symm)) hZ (W 24 rfl) (W 2 rfl) (by decide) (by decide)) q1160a q1160c (g := (mkF m 124 #[iv p0, iv p1, iv p2, rv b62, rv b109_68, iv (16 : Int32), rv b109_68, iv (0 : Int32), iv (1 : Int32), .unset, .unset, .unset, .unset] [(.ref r_1153), (.ref b62)])) rfl (by rw [hml]; rfl) (Steps.refl _) (argsL := [(.ref r_1153)]) (rest := []) (lenOf pd_13 rfl) rfl (by show 2 * 0 + _ ≤ _; exact Nat.le_of_eq rfl) (hb hby at_124) (fun _ _ => ⟨rfl, e1153, (by decide : 5 + 0 ≤ _), (by decide : 21 + 0 ≤ _)⟩)
      dsimp only [Pt.U, Pt.locs, Pt.cells, Pt.slots] at X1160 l1160 y1160 z1160 st1160 hQ1160
      replace l1160 := l1160.symm
      replace y1160 : 5 = k1160 := y1160.symm
      replace z1160 : 21 = n1160 := z1160.symm
      subst l1160 y1160 z1160
      obtain ⟨rfl, M1160, Kc1160, O1160, J1160_0, J1160_1, J1160_2, J1160_3, J1160_4⟩ := hQ1160
      obtain ⟨h1160, e1160⟩ : ∃ z, T1160.heap = z := ⟨_, rfl⟩
      rw [e1160] at Kc1160 O1160 J1160_0 J1160_1 J1160_2 J1160_3 J1160_4
      have N1160 := Fr.app N1153 M1160
      have K1160 : Keep h0 h1160 [] := K1153.trans Kc1160 (own_all2 (Or.inr sz_b109_68) (Or.inr sz_b62))
      have pre1266 : ∀ t, Steps p.tables e below (T1160.setTop (mkF m 127 #[iv p0, iv p1, iv p2, rv b62, rv b109_68, iv (16 : Int32), rv b109_68, iv (0 : Int32), iv (1 : Int32), .unset, .unset, .unset, .unset] [])) t → Steps p.tables e below (s₁.setTop (entryFrame m #[(.int p0), (.int p1), (.int p2)] maxLocals)) t := fun t kt => pre1154 _ (st1160.trans kt)
      have F1267 := J1153_0.keep Kc1160
      have pre1268 : ∀ t, Steps p.tables e below (T1160.setTop (mkF m 128 #[iv p0, iv p1, iv p2, rv b62, rv b109_68, iv (16 : Int32), rv b109_68, iv (0 : Int32), iv (1 : Int32), .unset, .unset, .unset, .unset] [(.ref b62)])) t → Steps p.tables e below (s₁.setTop (entryFrame m #[(.int p0), (.int p1), (.int p2)] maxLocals)) t := fun t kt => by
        refine pre1266 _ ?_
        show Steps p.tables e below (T1160.setTop (mkF m 127 #[iv p0, iv p1, iv p2, rv b62, rv b109_68, iv (16 : Int32), rv b109_68, iv (0 : Int32), iv (1 : Int32), .unset, .unset, .unset, .unset] [])) _
        refine XS.aloadN X1160.here hx rfl (hb hby at_127) rfl rfl ?_
        exact kt
      obtain ⟨cq1269, kq1269, q1269a, q1269b, q1269c⟩ := isOf hZ e1160 J1160_1
      obtain ⟨_, _, ⟨T1269, L1269, k1269, n1269⟩, -, X1269, ⟨Lc1269, hQ1269, l1269, y1269, z1269⟩, st1269⟩ := X1160.virtualBack hx (y := (⟨"com/example/homethread/homethread/Items", "slots", "()[Ljava/lang/Object;"⟩ : MethodName)) (z := (⟨"com/example/homethread/homethread/Items", "slots", "()[Ljava/lang/Object;"⟩ : MethodName)) hown (mvT hZ (W 28 rfl)) (mvT hZ (W 29 rfl)) (notFace_of_selects (args := #[]) (mvT hZ (W 31 rfl))) (mvT hZ (W 31 rfl)) (mvT hZ (W 30 rfl)) (by decide) (backOf (W := 0) (rm_slots5_0 l Z a0 hw [] b62 b109_68 h1160 n0 O1160 J1160_2) hZ (W 32 rfl) (W 2 rfl) (by decide) (by decide)) q1269a q1269c (g := (mkF m 128 #[iv p0, iv p1, iv p2, rv b62, rv b109_68, iv (16 : Int32), rv b109_68, iv (0 : Int32), iv (1 : Int32), .unset, .unset, .unset, .unset] [(.ref b62)])) rfl (by rw [hml]; rfl) (Steps.refl _) (argsL := []) (rest := []) (lenOf pd_15 rfl) rfl (by show 2 * 0 + _ ≤ _; exact Nat.le_of_eq rfl) (hb hby at_128) (fun _ _ => ⟨rfl, e1160, (by decide : 5 + 0 ≤ _), (by decide : 21 + 0 ≤ _)⟩)
      dsimp only [Pt.U, Pt.locs, Pt.cells, Pt.slots] at X1269 l1269 y1269 z1269 st1269 hQ1269
      replace l1269 := l1269.symm
      replace y1269 : 5 = k1269 := y1269.symm
      replace z1269 : 21 = n1269 := z1269.symm
      subst l1269 y1269 z1269
      obtain ⟨rfl, M1269, e1269⟩ := hQ1269
      have N1269 := Fr.app N1160 M1269
      have pre1270 : ∀ t, Steps p.tables e below (T1269.setTop (mkF m 131 #[iv p0, iv p1, iv p2, rv b62, rv b109_68, iv (16 : Int32), rv b109_68, iv (0 : Int32), iv (1 : Int32), .unset, .unset, .unset, .unset] [(.ref b109_68)])) t → Steps p.tables e below (s₁.setTop (entryFrame m #[(.int p0), (.int p1), (.int p2)] maxLocals)) t := fun t kt => pre1268 _ (st1269.trans kt)
      have pre1272 : ∀ t, Steps p.tables e below (T1269.setTop (mkF m 135 #[iv p0, iv p1, iv p2, rv b62, rv b109_68, iv (16 : Int32), rv b109_68, iv (0 : Int32), iv (1 : Int32), rv b109_68, .unset, .unset, .unset] [(.ref b109_68)])) t → Steps p.tables e below (s₁.setTop (entryFrame m #[(.int p0), (.int p1), (.int p2)] maxLocals)) t := fun t kt => by
        refine pre1270 _ ?_
        show Steps p.tables e below (T1269.setTop (mkF m 131 #[iv p0, iv p1, iv p2, rv b62, rv b109_68, iv (16 : Int32), rv b109_68, iv (0 : Int32), iv (1 : Int32), .unset, .unset, .unset, .unset] [(.ref b109_68)])) _
        refine XS.astore X1269.here hx rfl (hb hby at_131) rfl rfl (l' := #[iv p0, iv p1, iv p2, rv b62, rv b109_68, iv (16 : Int32), rv b109_68, iv (0 : Int32), iv (1 : Int32), rv b109_68, .unset, .unset, .unset]) rfl ?_
        show Steps p.tables e below (T1269.setTop (mkF m 133 #[iv p0, iv p1, iv p2, rv b62, rv b109_68, iv (16 : Int32), rv b109_68, iv (0 : Int32), iv (1 : Int32), rv b109_68, .unset, .unset, .unset] [])) _
        refine XS.aload X1269.here hx rfl (hb hby at_133) rfl rfl ?_
        exact kt
      obtain ⟨c1271, Ar1271, -, S1271, M1271, -, -⟩ := id J1160_3
      have pre1273 : ∀ t, Steps p.tables e below (T1269.setTop (mkF m 140 #[iv p0, iv p1, iv p2, rv b62, rv b109_68, iv (16 : Int32), rv b109_68, iv (0 : Int32), iv (1 : Int32), rv b109_68, iv (16 : Int32), .unset, .unset] [(.int p1), (.ref b62)])) t → Steps p.tables e below (s₁.setTop (entryFrame m #[(.int p0), (.int p1), (.int p2)] maxLocals)) t := fun t kt => by
        refine pre1272 _ ?_
        show Steps p.tables e below (T1269.setTop (mkF m 135 #[iv p0, iv p1, iv p2, rv b62, rv b109_68, iv (16 : Int32), rv b109_68, iv (0 : Int32), iv (1 : Int32), rv b109_68, .unset, .unset, .unset] [(.ref b109_68)])) _
        refine X1269.arraylength hx (by rw [e1269]; exact Ar1271.1) (State.isArrayOf_alike hZ.alike Ar1271.2.1) (g := (mkF m 135 #[iv p0, iv p1, iv p2, rv b62, rv b109_68, iv (16 : Int32), rv b109_68, iv (0 : Int32), iv (1 : Int32), rv b109_68, .unset, .unset, .unset] [(.ref b109_68)])) rfl rfl (hb hby at_135) _ ?_
        rw [len_of S1271 M1271]
        show Steps p.tables e below (T1269.setTop (mkF m 136 #[iv p0, iv p1, iv p2, rv b62, rv b109_68, iv (16 : Int32), rv b109_68, iv (0 : Int32), iv (1 : Int32), rv b109_68, .unset, .unset, .unset] [(.int (16 : Int32))])) _
        refine XS.istore X1269.here hx rfl (hb hby at_136) rfl (l' := #[iv p0, iv p1, iv p2, rv b62, rv b109_68, iv (16 : Int32), rv b109_68, iv (0 : Int32), iv (1 : Int32), rv b109_68, iv (16 : Int32), .unset, .unset]) rfl ?_
        show Steps p.tables e below (T1269.setTop (mkF m 138 #[iv p0, iv p1, iv p2, rv b62, rv b109_68, iv (16 : Int32), rv b109_68, iv (0 : Int32), iv (1 : Int32), rv b109_68, iv (16 : Int32), .unset, .unset] [])) _
        refine XS.aloadN X1269.here hx rfl (hb hby at_138) rfl rfl ?_
        show Steps p.tables e below (T1269.setTop (mkF m 139 #[iv p0, iv p1, iv p2, rv b62, rv b109_68, iv (16 : Int32), rv b109_68, iv (0 : Int32), iv (1 : Int32), rv b109_68, iv (16 : Int32), .unset, .unset] [(.ref b62)])) _
        refine XS.iloadN X1269.here hx rfl (hb hby at_139) rfl ?_
        exact kt
      by_cases hc1279 : p1 < (16 : Int32)
      · obtain ⟨cq1280, kq1280, q1280a, q1280b, q1280c⟩ := isOf hZ e1269 J1160_1
        obtain ⟨_, _, ⟨T1280, L1280, k1280, n1280⟩, -, X1280, ⟨Lc1280, hQ1280, l1280, y1280, z1280⟩, st1280⟩ := X1269.virtualBack hx (y := (⟨"com/example/homethread/homethread/Items", "clearAndTrim", "(I)V"⟩ : MethodName)) (z := (⟨"com/example/homethread/homethread/Items", "clearAndTrim", "(I)V"⟩ : MethodName)) hown (mvT hZ (W 33 rfl)) (mvT hZ (W 34 rfl)) (notFace_of_selects (args := #[]) (mvT hZ (W 36 rfl))) (mvT hZ (W 36 rfl)) (mvT hZ (W 35 rfl)) (by decide) (backOf (W := 0) (rm_clearAndTrim6_1 l Z a0 hw [] b62 p1 a_NO_SLOTS k109_68 ((1 : Int32)) ((.ref r_1153)) j125_2 b109_68 h1160 n0 O1160 G4 g_b62 J1160_1 J1160_4 J1160_3 J1160_2 (fun q => ne_b62_b109_68 q.symm) hc1279) hZ (W 37 rfl) (W 2 rfl) (by decide) (by decide)) q1280a q1280c (g := (mkF m 140 #[iv p0, iv p1, iv p2, rv b62, rv b109_68, iv (16 : Int32), rv b109_68, iv (0 : Int32), iv (1 : Int32), rv b109_68, iv (16 : Int32), .unset, .unset] [(.int p1), (.ref b62)])) rfl (by rw [hml]; rfl) (Steps.refl _) (argsL := [(.int p1)]) (rest := []) (lenOf pd_6 rfl) rfl (by show 2 * 0 + _ ≤ _; exact Nat.le_of_eq rfl) (hb hby at_140) (fun _ _ => ⟨rfl, e1269, (by decide : 5 + 0 ≤ _), (by decide : 21 + 0 ≤ _)⟩)
        dsimp only [Pt.U, Pt.locs, Pt.cells, Pt.slots] at X1280 l1280 y1280 z1280 st1280 hQ1280
        replace l1280 := l1280.symm
        replace y1280 : 5 = k1280 := y1280.symm
        replace z1280 : 21 = n1280 := z1280.symm
        subst l1280 y1280 z1280
        obtain ⟨rfl, M1280, Kc1280, O1280, J1280_0, J1280_1, J1280_2⟩ := hQ1280
        obtain ⟨h1280, e1280⟩ : ∃ z, T1280.heap = z := ⟨_, rfl⟩
        rw [e1280] at Kc1280 O1280 J1280_0 J1280_1 J1280_2
        have N1280 := Fr.app N1269 M1280
        have K1280 : Keep h0 h1280 [] := K1160.trans Kc1280 (own_all1 (Or.inr sz_b62))
        have pre1281 : ∀ t, Steps p.tables e below (T1280.setTop (mkF m 143 #[iv p0, iv p1, iv p2, rv b62, rv b109_68, iv (16 : Int32), rv b109_68, iv (0 : Int32), iv (1 : Int32), rv b109_68, iv (16 : Int32), .unset, .unset] [])) t → Steps p.tables e below (s₁.setTop (entryFrame m #[(.int p0), (.int p1), (.int p2)] maxLocals)) t := fun t kt => pre1273 _ (st1280.trans kt)
        have F1282 := F1267.keep Kc1280
        have F1283 := J1160_0.keep Kc1280
        have F1284 := J1160_3.keep Kc1280 (own_nm1 (fun q => ne_b62_b109_68 q.symm))
        have pre1285 : ∀ t, Steps p.tables e below (T1280.setTop (mkF m 157 #[iv p0, iv p1, iv p2, rv b62, rv b109_68, iv (16 : Int32), rv b109_68, iv (0 : Int32), iv (1 : Int32), rv b109_68, iv (16 : Int32), iv (1 : Int32), .unset] [(.ref b62)])) t → Steps p.tables e below (s₁.setTop (entryFrame m #[(.int p0), (.int p1), (.int p2)] maxLocals)) t := fun t kt => by
          refine pre1281 _ ?_
          show Steps p.tables e below (T1280.setTop (mkF m 143 #[iv p0, iv p1, iv p2, rv b62, rv b109_68, iv (16 : Int32), rv b109_68, iv (0 : Int32), iv (1 : Int32), rv b109_68, iv (16 : Int32), .unset, .unset] [])) _
          refine XS.iload X1280.here hx rfl (hb hby at_143) rfl ?_
          show Steps p.tables e below (T1280.setTop (mkF m 145 #[iv p0, iv p1, iv p2, rv b62, rv b109_68, iv (16 : Int32), rv b109_68, iv (0 : Int32), iv (1 : Int32), rv b109_68, iv (16 : Int32), .unset, .unset] [(.int (16 : Int32))])) _
          refine XS.iloadN X1280.here hx rfl (hb hby at_145) rfl ?_
          show Steps p.tables e below (T1280.setTop (mkF m 146 #[iv p0, iv p1, iv p2, rv b62, rv b109_68, iv (16 : Int32), rv b109_68, iv (0 : Int32), iv (1 : Int32), rv b109_68, iv (16 : Int32), .unset, .unset] [(.int p1), (.int (16 : Int32))])) _
          refine XS.icmpNo X1280.here hx rfl (hb hby at_146) rfl (XT.ii_le_f hc1279) ?_
          show Steps p.tables e below (T1280.setTop (mkF m 149 #[iv p0, iv p1, iv p2, rv b62, rv b109_68, iv (16 : Int32), rv b109_68, iv (0 : Int32), iv (1 : Int32), rv b109_68, iv (16 : Int32), .unset, .unset] [])) _
          refine XS.iconst X1280.here hx rfl (hb hby at_149) ?_
          show Steps p.tables e below (T1280.setTop (mkF m 150 #[iv p0, iv p1, iv p2, rv b62, rv b109_68, iv (16 : Int32), rv b109_68, iv (0 : Int32), iv (1 : Int32), rv b109_68, iv (16 : Int32), .unset, .unset] [(.int (1 : Int32))])) _
          refine XS.goto X1280.here hx rfl (pc0 := 150) (pc' := 154) rfl (hb hby at_150) (by decide) (by decide) ?_
          show Steps p.tables e below (T1280.setTop (mkF m 154 #[iv p0, iv p1, iv p2, rv b62, rv b109_68, iv (16 : Int32), rv b109_68, iv (0 : Int32), iv (1 : Int32), rv b109_68, iv (16 : Int32), .unset, .unset] [(.int (1 : Int32))])) _
          refine XS.istore X1280.here hx rfl (hb hby at_154) rfl (l' := #[iv p0, iv p1, iv p2, rv b62, rv b109_68, iv (16 : Int32), rv b109_68, iv (0 : Int32), iv (1 : Int32), rv b109_68, iv (16 : Int32), iv (1 : Int32), .unset]) rfl ?_
          show Steps p.tables e below (T1280.setTop (mkF m 156 #[iv p0, iv p1, iv p2, rv b62, rv b109_68, iv (16 : Int32), rv b109_68, iv (0 : Int32), iv (1 : Int32), rv b109_68, iv (16 : Int32), iv (1 : Int32), .unset] [])) _
          refine XS.aloadN X1280.here hx rfl (hb hby at_156) rfl rfl ?_
          exact kt
        obtain ⟨cq1286, kq1286, q1286a, q1286b, q1286c⟩ := isOf hZ e1280 J1280_0
        obtain ⟨_, _, ⟨T1286, L1286, k1286, n1286⟩, -, X1286, ⟨Lc1286, hQ1286, l1286, y1286, z1286⟩, st1286⟩ := X1280.virtualBack hx (y := (⟨"com/example/homethread/homethread/Items", "size", "()I"⟩ : MethodName)) (z := (⟨"com/example/homethread/homethread/Items", "size", "()I"⟩ : MethodName)) hown (mvT hZ (W 40 rfl)) (mvT hZ (W 41 rfl)) (notFace_of_selects (args := #[]) (mvT hZ (W 43 rfl))) (mvT hZ (W 43 rfl)) (mvT hZ (W 42 rfl)) (by decide) (backOf (W := 0) (rm_size7_0 l Z a0 hw [] b62 h1280 n0 O1280 J1280_2) hZ (W 44 rfl) (W 2 rfl) (by decide) (by decide)) q1286a q1286c (g := (mkF m 157 #[iv p0, iv p1, iv p2, rv b62, rv b109_68, iv (16 : Int32), rv b109_68, iv (0 : Int32), iv (1 : Int32), rv b109_68, iv (16 : Int32), iv (1 : Int32), .unset] [(.ref b62)])) rfl (by rw [hml]; rfl) (Steps.refl _) (argsL := []) (rest := []) (lenOf pd_18 rfl) rfl (by show 2 * 0 + _ ≤ _; exact Nat.le_of_eq rfl) (hb hby at_157) (fun _ _ => ⟨rfl, e1280, (by decide : 5 + 0 ≤ _), (by decide : 21 + 0 ≤ _)⟩)
        dsimp only [Pt.U, Pt.locs, Pt.cells, Pt.slots] at X1286 l1286 y1286 z1286 st1286 hQ1286
        replace l1286 := l1286.symm
        replace y1286 : 5 = k1286 := y1286.symm
        replace z1286 : 21 = n1286 := z1286.symm
        subst l1286 y1286 z1286
        obtain ⟨rfl, M1286, e1286⟩ := hQ1286
        have N1286 := Fr.app N1280 M1286
        have pre1287 : ∀ t, Steps p.tables e below (T1286.setTop (mkF m 160 #[iv p0, iv p1, iv p2, rv b62, rv b109_68, iv (16 : Int32), rv b109_68, iv (0 : Int32), iv (1 : Int32), rv b109_68, iv (16 : Int32), iv (1 : Int32), .unset] [(.int (0 : Int32))])) t → Steps p.tables e below (s₁.setTop (entryFrame m #[(.int p0), (.int p1), (.int p2)] maxLocals)) t := fun t kt => pre1285 _ (st1286.trans kt)
        have pre1288 : ∀ t, Steps p.tables e below (T1286.setTop (mkF m 169 #[iv p0, iv p1, iv p2, rv b62, rv b109_68, iv (16 : Int32), rv b109_68, iv (0 : Int32), iv (1 : Int32), rv b109_68, iv (16 : Int32), iv (1 : Int32), .unset] [(.ref b62)])) t → Steps p.tables e below (s₁.setTop (entryFrame m #[(.int p0), (.int p1), (.int p2)] maxLocals)) t := fun t kt => by
          refine pre1287 _ ?_
          show Steps p.tables e below (T1286.setTop (mkF m 160 #[iv p0, iv p1, iv p2, rv b62, rv b109_68, iv (16 : Int32), rv b109_68, iv (0 : Int32), iv (1 : Int32), rv b109_68, iv (16 : Int32), iv (1 : Int32), .unset] [(.int (0 : Int32))])) _
          refine XS.ifNo X1286.here hx rfl (hb hby at_160) rfl (XT.i0_ne_f (by decide)) ?_
          show Steps p.tables e below (T1286.setTop (mkF m 163 #[iv p0, iv p1, iv p2, rv b62, rv b109_68, iv (16 : Int32), rv b109_68, iv (0 : Int32), iv (1 : Int32), rv b109_68, iv (16 : Int32), iv (1 : Int32), .unset] [])) _
          refine XS.iload X1286.here hx rfl (hb hby at_163) rfl ?_
          show Steps p.tables e below (T1286.setTop (mkF m 165 #[iv p0, iv p1, iv p2, rv b62, rv b109_68, iv (16 : Int32), rv b109_68, iv (0 : Int32), iv (1 : Int32), rv b109_68, iv (16 : Int32), iv (1 : Int32), .unset] [(.int (1 : Int32))])) _
          refine XS.ifNo X1286.here hx rfl (hb hby at_165) rfl (XT.i0_eq_f (by decide)) ?_
          show Steps p.tables e below (T1286.setTop (mkF m 168 #[iv p0, iv p1, iv p2, rv b62, rv b109_68, iv (16 : Int32), rv b109_68, iv (0 : Int32), iv (1 : Int32), rv b109_68, iv (16 : Int32), iv (1 : Int32), .unset] [])) _
          refine XS.aloadN X1286.here hx rfl (hb hby at_168) rfl rfl ?_
          exact kt
        obtain ⟨cq1289, kq1289, q1289a, q1289b, q1289c⟩ := isOf hZ e1286 J1280_0
        obtain ⟨_, _, ⟨T1289, L1289, k1289, n1289⟩, -, X1289, ⟨Lc1289, hQ1289, l1289, y1289, z1289⟩, st1289⟩ := X1286.virtualBack hx (y := (⟨"com/example/homethread/homethread/Items", "slots", "()[Ljava/lang/Object;"⟩ : MethodName)) (z := (⟨"com/example/homethread/homethread/Items", "slots", "()[Ljava/lang/Object;"⟩ : MethodName)) hown (mvT hZ (W 28 rfl)) (mvT hZ (W 29 rfl)) (notFace_of_selects (args := #[]) (mvT hZ (W 31 rfl))) (mvT hZ (W 31 rfl)) (mvT hZ (W 30 rfl)) (by decide) (backOf (W := 0) (rm_slots5_0 l Z a0 hw [] b62 a_NO_SLOTS h1280 n0 O1280 J1280_1) hZ (W 32 rfl) (W 2 rfl) (by decide) (by decide)) q1289a q1289c (g := (mkF m 169 #[iv p0, iv p1, iv p2, rv b62, rv b109_68, iv (16 : Int32), rv b109_68, iv (0 : Int32), iv (1 : Int32), rv b109_68, iv (16 : Int32), iv (1 : Int32), .unset] [(.ref b62)])) rfl (by rw [hml]; rfl) (Steps.refl _) (argsL := []) (rest := []) (lenOf pd_15 rfl) rfl (by show 2 * 0 + _ ≤ _; exact Nat.le_of_eq rfl) (hb hby at_169) (fun _ _ => ⟨rfl, e1286, (by decide : 5 + 0 ≤ _), (by decide : 21 + 0 ≤ _)⟩)
        dsimp only [Pt.U, Pt.locs, Pt.cells, Pt.slots] at X1289 l1289 y1289 z1289 st1289 hQ1289
        replace l1289 := l1289.symm
        replace y1289 : 5 = k1289 := y1289.symm
        replace z1289 : 21 = n1289 := z1289.symm
        subst l1289 y1289 z1289
        obtain ⟨rfl, M1289, e1289⟩ := hQ1289
        have N1289 := Fr.app N1286 M1289
        have pre1290 : ∀ t, Steps p.tables e below (T1289.setTop (mkF m 172 #[iv p0, iv p1, iv p2, rv b62, rv b109_68, iv (16 : Int32), rv b109_68, iv (0 : Int32), iv (1 : Int32), rv b109_68, iv (16 : Int32), iv (1 : Int32), .unset] [(.ref a_NO_SLOTS)])) t → Steps p.tables e below (s₁.setTop (entryFrame m #[(.int p0), (.int p1), (.int p2)] maxLocals)) t := fun t kt => pre1288 _ (st1289.trans kt)
        obtain ⟨c1291, Ar1291, -, S1291, M1291, -, -⟩ := id (G6.ext O1280.2)
        have pre1292 : ∀ t, Steps p.tables e below (T1289.setTop (mkF m 210 #[iv p0, iv p1, iv p2, rv b62, rv b109_68, iv (16 : Int32), rv b109_68, iv (0 : Int32), iv (1 : Int32), rv b109_68, iv (16 : Int32), iv (1 : Int32), iv (1 : Int32)] [(.int (1 : Int32))])) t → Steps p.tables e below (s₁.setTop (entryFrame m #[(.int p0), (.int p1), (.int p2)] maxLocals)) t := fun t kt => by
          refine pre1290 _ ?_
          show Steps p.tables e below (T1289.setTop (mkF m 172 #[iv p0, iv p1, iv p2, rv b62, rv b109_68, iv (16 : Int32), rv b109_68, iv (0 : Int32), iv (1 : Int32), rv b109_68, iv (16 : Int32), iv (1 : Int32), .unset] [(.ref a_NO_SLOTS)])) _
          refine X1289.arraylength hx (by rw [e1289]; exact Ar1291.1) (State.isArrayOf_alike hZ.alike Ar1291.2.1) (g := (mkF m 172 #[iv p0, iv p1, iv p2, rv b62, rv b109_68, iv (16 : Int32), rv b109_68, iv (0 : Int32), iv (1 : Int32), rv b109_68, iv (16 : Int32), iv (1 : Int32), .unset] [(.ref a_NO_SLOTS)])) rfl rfl (hb hby at_172) _ ?_
          rw [len_of S1291 M1291]
          show Steps p.tables e below (T1289.setTop (mkF m 173 #[iv p0, iv p1, iv p2, rv b62, rv b109_68, iv (16 : Int32), rv b109_68, iv (0 : Int32), iv (1 : Int32), rv b109_68, iv (16 : Int32), iv (1 : Int32), .unset] [(.int (0 : Int32))])) _
          refine XS.ifNo X1289.here hx rfl (hb hby at_173) rfl (XT.i0_ne_f (by decide)) ?_
          show Steps p.tables e below (T1289.setTop (mkF m 176 #[iv p0, iv p1, iv p2, rv b62, rv b109_68, iv (16 : Int32), rv b109_68, iv (0 : Int32), iv (1 : Int32), rv b109_68, iv (16 : Int32), iv (1 : Int32), .unset] [])) _
          refine XS.goto X1289.here hx rfl (pc0 := 176) (pc' := 188) rfl (hb hby at_176) (by decide) (by decide) ?_
          show Steps p.tables e below (T1289.setTop (mkF m 188 #[iv p0, iv p1, iv p2, rv b62, rv b109_68, iv (16 : Int32), rv b109_68, iv (0 : Int32), iv (1 : Int32), rv b109_68, iv (16 : Int32), iv (1 : Int32), .unset] [])) _
          refine XS.iconst X1289.here hx rfl (hb hby at_188) ?_
          show Steps p.tables e below (T1289.setTop (mkF m 189 #[iv p0, iv p1, iv p2, rv b62, rv b109_68, iv (16 : Int32), rv b109_68, iv (0 : Int32), iv (1 : Int32), rv b109_68, iv (16 : Int32), iv (1 : Int32), .unset] [(.int (1 : Int32))])) _
          refine XS.goto X1289.here hx rfl (pc0 := 189) (pc' := 193) rfl (hb hby at_189) (by decide) (by decide) ?_
          show Steps p.tables e below (T1289.setTop (mkF m 193 #[iv p0, iv p1, iv p2, rv b62, rv b109_68, iv (16 : Int32), rv b109_68, iv (0 : Int32), iv (1 : Int32), rv b109_68, iv (16 : Int32), iv (1 : Int32), .unset] [(.int (1 : Int32))])) _
          refine XS.istore X1289.here hx rfl (hb hby at_193) rfl (l' := #[iv p0, iv p1, iv p2, rv b62, rv b109_68, iv (16 : Int32), rv b109_68, iv (0 : Int32), iv (1 : Int32), rv b109_68, iv (16 : Int32), iv (1 : Int32), iv (1 : Int32)]) rfl ?_
          show Steps p.tables e below (T1289.setTop (mkF m 195 #[iv p0, iv p1, iv p2, rv b62, rv b109_68, iv (16 : Int32), rv b109_68, iv (0 : Int32), iv (1 : Int32), rv b109_68, iv (16 : Int32), iv (1 : Int32), iv (1 : Int32)] [])) _
          refine XS.iload X1289.here hx rfl (hb hby at_195) rfl ?_
          show Steps p.tables e below (T1289.setTop (mkF m 197 #[iv p0, iv p1, iv p2, rv b62, rv b109_68, iv (16 : Int32), rv b109_68, iv (0 : Int32), iv (1 : Int32), rv b109_68, iv (16 : Int32), iv (1 : Int32), iv (1 : Int32)] [(.int (1 : Int32))])) _
          refine XS.ifNo X1289.here hx rfl (hb hby at_197) rfl (XT.i0_eq_f (by decide)) ?_
          show Steps p.tables e below (T1289.setTop (mkF m 200 #[iv p0, iv p1, iv p2, rv b62, rv b109_68, iv (16 : Int32), rv b109_68, iv (0 : Int32), iv (1 : Int32), rv b109_68, iv (16 : Int32), iv (1 : Int32), iv (1 : Int32)] [])) _
          refine XS.iload X1289.here hx rfl (hb hby at_200) rfl ?_
          show Steps p.tables e below (T1289.setTop (mkF m 202 #[iv p0, iv p1, iv p2, rv b62, rv b109_68, iv (16 : Int32), rv b109_68, iv (0 : Int32), iv (1 : Int32), rv b109_68, iv (16 : Int32), iv (1 : Int32), iv (1 : Int32)] [(.int (1 : Int32))])) _
          refine XS.ifNo X1289.here hx rfl (hb hby at_202) rfl (XT.i0_eq_f (by decide)) ?_
          show Steps p.tables e below (T1289.setTop (mkF m 205 #[iv p0, iv p1, iv p2, rv b62, rv b109_68, iv (16 : Int32), rv b109_68, iv (0 : Int32), iv (1 : Int32), rv b109_68, iv (16 : Int32), iv (1 : Int32), iv (1 : Int32)] [])) _
          refine XS.iconst X1289.here hx rfl (hb hby at_205) ?_
          show Steps p.tables e below (T1289.setTop (mkF m 206 #[iv p0, iv p1, iv p2, rv b62, rv b109_68, iv (16 : Int32), rv b109_68, iv (0 : Int32), iv (1 : Int32), rv b109_68, iv (16 : Int32), iv (1 : Int32), iv (1 : Int32)] [(.int (1 : Int32))])) _
          refine XS.goto X1289.here hx rfl (pc0 := 206) (pc' := 210) rfl (hb hby at_206) (by decide) (by decide) ?_
          exact kt
        obtain ⟨fs, hr, hrun, hended, hW, hsame⟩ := X1289.leave (v := some (.int (1 : Int32))) (fun h => by rw [Bd.returns] at h; cases h)
        refine ⟨_, _, pre1292 _ (retN X1289 hx (t := .boolean) Bd.returns (by simp) (hb hby at_210) hr), hrun, hended, _, _, rfl, ?_, ⟨_, rfl⟩, hW, hsame.mono (by decide) (by decide)⟩
        show Q_law Z p0 p1 p2 ac mr a_NO_SLOTS kn h0 n0 _ T1289.heap _
        rw [e1289]
        exact ⟨rfl, N1289⟩
      · obtain ⟨cq1293, kq1293, q1293a, q1293b, q1293c⟩ := isOf hZ e1269 J1160_1
        obtain ⟨_, _, ⟨T1293, L1293, k1293, n1293⟩, -, X1293, ⟨Lc1293, hQ1293, l1293, y1293, z1293⟩, st1293⟩ := X1269.virtualBack hx (y := (⟨"com/example/homethread/homethread/Items", "clearAndTrim", "(I)V"⟩ : MethodName)) (z := (⟨"com/example/homethread/homethread/Items", "clearAndTrim", "(I)V"⟩ : MethodName)) hown (mvT hZ (W 33 rfl)) (mvT hZ (W 34 rfl)) (notFace_of_selects (args := #[]) (mvT hZ (W 36 rfl))) (mvT hZ (W 36 rfl)) (mvT hZ (W 35 rfl)) (by decide) (backOf (W := 0) (rm_clearAndTrim6_7 l Z a0 hw [] b62 p1 k109_68 ((1 : Int32)) ((.ref r_1153)) j125_2 b109_68 h1160 n0 O1160 g_b62 J1160_1 J1160_4 J1160_3 J1160_2 (fun q => ne_b62_b109_68 q.symm) hc1279) hZ (W 37 rfl) (W 2 rfl) (by decide) (by decide)) q1293a q1293c (g := (mkF m 140 #[iv p0, iv p1, iv p2, rv b62, rv b109_68, iv (16 : Int32), rv b109_68, iv (0 : Int32), iv (1 : Int32), rv b109_68, iv (16 : Int32), .unset, .unset] [(.int p1), (.ref b62)])) rfl (by rw [hml]; rfl) (Steps.refl _) (argsL := [(.int p1)]) (rest := []) (lenOf pd_6 rfl) rfl (by show 2 * 0 + _ ≤ _; exact Nat.le_of_eq rfl) (hb hby at_140) (fun _ _ => ⟨rfl, e1269, (by decide : 5 + 0 ≤ _), (by decide : 21 + 0 ≤ _)⟩)
        dsimp only [Pt.U, Pt.locs, Pt.cells, Pt.slots] at X1293 l1293 y1293 z1293 st1293 hQ1293
        replace l1293 := l1293.symm
        replace y1293 : 5 = k1293 := y1293.symm
        replace z1293 : 21 = n1293 := z1293.symm
        subst l1293 y1293 z1293
        obtain ⟨rfl, M1293, Kc1293, O1293, J1293_0, J1293_1, J1293_2⟩ := hQ1293
        obtain ⟨h1293, e1293⟩ : ∃ z, T1293.heap = z := ⟨_, rfl⟩
        rw [e1293] at Kc1293 O1293 J1293_0 J1293_1 J1293_2
        have N1293 := Fr.app N1269 M1293
        have K1293 : Keep h0 h1293 [] := K1160.trans Kc1293 (own_all1 (Or.inr sz_b62))
        have pre1294 : ∀ t, Steps p.tables e below (T1293.setTop (mkF m 143 #[iv p0, iv p1, iv p2, rv b62, rv b109_68, iv (16 : Int32), rv b109_68, iv (0 : Int32), iv (1 : Int32), rv b109_68, iv (16 : Int32), .unset, .unset] [])) t → Steps p.tables e below (s₁.setTop (entryFrame m #[(.int p0), (.int p1), (.int p2)] maxLocals)) t := fun t kt => pre1273 _ (st1293.trans kt)
        have F1295 := F1267.keep Kc1293
        have F1296 := J1160_0.keep Kc1293
        have F1297 := J1160_3.keep Kc1293 (own_nm1 (fun q => ne_b62_b109_68 q.symm))
        have pre1298 : ∀ t, Steps p.tables e below (T1293.setTop (mkF m 157 #[iv p0, iv p1, iv p2, rv b62, rv b109_68, iv (16 : Int32), rv b109_68, iv (0 : Int32), iv (1 : Int32), rv b109_68, iv (16 : Int32), iv (0 : Int32), .unset] [(.ref b62)])) t → Steps p.tables e below (s₁.setTop (entryFrame m #[(.int p0), (.int p1), (.int p2)] maxLocals)) t := fun t kt => by
          refine pre1294 _ ?_
          show Steps p.tables e below (T1293.setTop (mkF m 143 #[iv p0, iv p1, iv p2, rv b62, rv b109_68, iv (16 : Int32), rv b109_68, iv (0 : Int32), iv (1 : Int32), rv b109_68, iv (16 : Int32), .unset, .unset] [])) _
          refine XS.iload X1293.here hx rfl (hb hby at_143) rfl ?_
          show Steps p.tables e below (T1293.setTop (mkF m 145 #[iv p0, iv p1, iv p2, rv b62, rv b109_68, iv (16 : Int32), rv b109_68, iv (0 : Int32), iv (1 : Int32), rv b109_68, iv (16 : Int32), .unset, .unset] [(.int (16 : Int32))])) _
          refine XS.iloadN X1293.here hx rfl (hb hby at_145) rfl ?_
          show Steps p.tables e below (T1293.setTop (mkF m 146 #[iv p0, iv p1, iv p2, rv b62, rv b109_68, iv (16 : Int32), rv b109_68, iv (0 : Int32), iv (1 : Int32), rv b109_68, iv (16 : Int32), .unset, .unset] [(.int p1), (.int (16 : Int32))])) _
          refine XS.icmpYes X1293.here hx rfl (pc0 := 146) (pc' := 153) rfl (hb hby at_146) rfl (XT.ii_le_t hc1279) (by decide) (by decide) ?_
          show Steps p.tables e below (T1293.setTop (mkF m 153 #[iv p0, iv p1, iv p2, rv b62, rv b109_68, iv (16 : Int32), rv b109_68, iv (0 : Int32), iv (1 : Int32), rv b109_68, iv (16 : Int32), .unset, .unset] [])) _
          refine XS.iconst X1293.here hx rfl (hb hby at_153) ?_
          show Steps p.tables e below (T1293.setTop (mkF m 154 #[iv p0, iv p1, iv p2, rv b62, rv b109_68, iv (16 : Int32), rv b109_68, iv (0 : Int32), iv (1 : Int32), rv b109_68, iv (16 : Int32), .unset, .unset] [(.int (0 : Int32))])) _
          refine XS.istore X1293.here hx rfl (hb hby at_154) rfl (l' := #[iv p0, iv p1, iv p2, rv b62, rv b109_68, iv (16 : Int32), rv b109_68, iv (0 : Int32), iv (1 : Int32), rv b109_68, iv (16 : Int32), iv (0 : Int32), .unset]) rfl ?_
          show Steps p.tables e below (T1293.setTop (mkF m 156 #[iv p0, iv p1, iv p2, rv b62, rv b109_68, iv (16 : Int32), rv b109_68, iv (0 : Int32), iv (1 : Int32), rv b109_68, iv (16 : Int32), iv (0 : Int32), .unset] [])) _
          refine XS.aloadN X1293.here hx rfl (hb hby at_156) rfl rfl ?_
          exact kt
        obtain ⟨cq1299, kq1299, q1299a, q1299b, q1299c⟩ := isOf hZ e1293 J1293_0
        obtain ⟨_, _, ⟨T1299, L1299, k1299, n1299⟩, -, X1299, ⟨Lc1299, hQ1299, l1299, y1299, z1299⟩, st1299⟩ := X1293.virtualBack hx (y := (⟨"com/example/homethread/homethread/Items", "size", "()I"⟩ : MethodName)) (z := (⟨"com/example/homethread/homethread/Items", "size", "()I"⟩ : MethodName)) hown (mvT hZ (W 40 rfl)) (mvT hZ (W 41 rfl)) (notFace_of_selects (args := #[]) (mvT hZ (W 43 rfl))) (mvT hZ (W 43 rfl)) (mvT hZ (W 42 rfl)) (by decide) (backOf (W := 0) (rm_size7_0 l Z a0 hw [] b62 h1293 n0 O1293 J1293_2) hZ (W 44 rfl) (W 2 rfl) (by decide) (by decide)) q1299a q1299c (g := (mkF m 157 #[iv p0, iv p1, iv p2, rv b62, rv b109_68, iv (16 : Int32), rv b109_68, iv (0 : Int32), iv (1 : Int32), rv b109_68, iv (16 : Int32), iv (0 : Int32), .unset] [(.ref b62)])) rfl (by rw [hml]; rfl) (Steps.refl _) (argsL := []) (rest := []) (lenOf pd_18 rfl) rfl (by show 2 * 0 + _ ≤ _; exact Nat.le_of_eq rfl) (hb hby at_157) (fun _ _ => ⟨rfl, e1293, (by decide : 5 + 0 ≤ _), (by decide : 21 + 0 ≤ _)⟩)
        dsimp only [Pt.U, Pt.locs, Pt.cells, Pt.slots] at X1299 l1299 y1299 z1299 st1299 hQ1299
        replace l1299 := l1299.symm
        replace y1299 : 5 = k1299 := y1299.symm
        replace z1299 : 21 = n1299 := z1299.symm
        subst l1299 y1299 z1299
        obtain ⟨rfl, M1299, e1299⟩ := hQ1299
        have N1299 := Fr.app N1293 M1299
        have pre1300 : ∀ t, Steps p.tables e below (T1299.setTop (mkF m 160 #[iv p0, iv p1, iv p2, rv b62, rv b109_68, iv (16 : Int32), rv b109_68, iv (0 : Int32), iv (1 : Int32), rv b109_68, iv (16 : Int32), iv (0 : Int32), .unset] [(.int (0 : Int32))])) t → Steps p.tables e below (s₁.setTop (entryFrame m #[(.int p0), (.int p1), (.int p2)] maxLocals)) t := fun t kt => pre1298 _ (st1299.trans kt)
        have pre1301 : ∀ t, Steps p.tables e below (T1299.setTop (mkF m 180 #[iv p0, iv p1, iv p2, rv b62, rv b109_68, iv (16 : Int32), rv b109_68, iv (0 : Int32), iv (1 : Int32), rv b109_68, iv (16 : Int32), iv (0 : Int32), .unset] [(.ref b62)])) t → Steps p.tables e below (s₁.setTop (entryFrame m #[(.int p0), (.int p1), (.int p2)] maxLocals)) t := fun t kt => by
          refine pre1300 _ ?_
          show Steps p.tables e below (T1299.setTop (mkF m 160 #[iv p0, iv p1, iv p2, rv b62, rv b109_68, iv (16 : Int32), rv b109_68, iv (0 : Int32), iv (1 : Int32), rv b109_68, iv (16 : Int32), iv (0 : Int32), .unset] [(.int (0 : Int32))])) _
          refine XS.ifNo X1299.here hx rfl (hb hby at_160) rfl (XT.i0_ne_f (by decide)) ?_
          show Steps p.tables e below (T1299.setTop (mkF m 163 #[iv p0, iv p1, iv p2, rv b62, rv b109_68, iv (16 : Int32), rv b109_68, iv (0 : Int32), iv (1 : Int32), rv b109_68, iv (16 : Int32), iv (0 : Int32), .unset] [])) _
          refine XS.iload X1299.here hx rfl (hb hby at_163) rfl ?_
          show Steps p.tables e below (T1299.setTop (mkF m 165 #[iv p0, iv p1, iv p2, rv b62, rv b109_68, iv (16 : Int32), rv b109_68, iv (0 : Int32), iv (1 : Int32), rv b109_68, iv (16 : Int32), iv (0 : Int32), .unset] [(.int (0 : Int32))])) _
          refine XS.ifYes X1299.here hx rfl (pc0 := 165) (pc' := 179) rfl (hb hby at_165) rfl (XT.i0_eq_t (by decide)) (by decide) (by decide) ?_
          show Steps p.tables e below (T1299.setTop (mkF m 179 #[iv p0, iv p1, iv p2, rv b62, rv b109_68, iv (16 : Int32), rv b109_68, iv (0 : Int32), iv (1 : Int32), rv b109_68, iv (16 : Int32), iv (0 : Int32), .unset] [])) _
          refine XS.aloadN X1299.here hx rfl (hb hby at_179) rfl rfl ?_
          exact kt
        obtain ⟨cq1302, kq1302, q1302a, q1302b, q1302c⟩ := isOf hZ e1299 J1293_0
        obtain ⟨_, _, ⟨T1302, L1302, k1302, n1302⟩, -, X1302, ⟨Lc1302, hQ1302, l1302, y1302, z1302⟩, st1302⟩ := X1299.virtualBack hx (y := (⟨"com/example/homethread/homethread/Items", "slots", "()[Ljava/lang/Object;"⟩ : MethodName)) (z := (⟨"com/example/homethread/homethread/Items", "slots", "()[Ljava/lang/Object;"⟩ : MethodName)) hown (mvT hZ (W 28 rfl)) (mvT hZ (W 29 rfl)) (notFace_of_selects (args := #[]) (mvT hZ (W 31 rfl))) (mvT hZ (W 31 rfl)) (mvT hZ (W 30 rfl)) (by decide) (backOf (W := 0) (rm_slots5_0 l Z a0 hw [] b62 b109_68 h1293 n0 O1293 J1293_1) hZ (W 32 rfl) (W 2 rfl) (by decide) (by decide)) q1302a q1302c (g := (mkF m 180 #[iv p0, iv p1, iv p2, rv b62, rv b109_68, iv (16 : Int32), rv b109_68, iv (0 : Int32), iv (1 : Int32), rv b109_68, iv (16 : Int32), iv (0 : Int32), .unset] [(.ref b62)])) rfl (by rw [hml]; rfl) (Steps.refl _) (argsL := []) (rest := []) (lenOf pd_15 rfl) rfl (by show 2 * 0 + _ ≤ _; exact Nat.le_of_eq rfl) (hb hby at_180) (fun _ _ => ⟨rfl, e1299, (by decide : 5 + 0 ≤ _), (by decide : 21 + 0 ≤ _)⟩)
        dsimp only [Pt.U, Pt.locs, Pt.cells, Pt.slots] at X1302 l1302 y1302 z1302 st1302 hQ1302
        replace l1302 := l1302.symm
        replace y1302 : 5 = k1302 := y1302.symm
        replace z1302 : 21 = n1302 := z1302.symm
        subst l1302 y1302 z1302
        obtain ⟨rfl, M1302, e1302⟩ := hQ1302
        have N1302 := Fr.app N1299 M1302
        have pre1303 : ∀ t, Steps p.tables e below (T1302.setTop (mkF m 183 #[iv p0, iv p1, iv p2, rv b62, rv b109_68, iv (16 : Int32), rv b109_68, iv (0 : Int32), iv (1 : Int32), rv b109_68, iv (16 : Int32), iv (0 : Int32), .unset] [(.ref b109_68)])) t → Steps p.tables e below (s₁.setTop (entryFrame m #[(.int p0), (.int p1), (.int p2)] maxLocals)) t := fun t kt => pre1301 _ (st1302.trans kt)
        have pre1304 : ∀ t, Steps p.tables e below (T1302.setTop (mkF m 210 #[iv p0, iv p1, iv p2, rv b62, rv b109_68, iv (16 : Int32), rv b109_68, iv (0 : Int32), iv (1 : Int32), rv b109_68, iv (16 : Int32), iv (0 : Int32), iv (1 : Int32)] [(.int (1 : Int32))])) t → Steps p.tables e below (s₁.setTop (entryFrame m #[(.int p0), (.int p1), (.int p2)] maxLocals)) t := fun t kt => by
          refine pre1303 _ ?_
          show Steps p.tables e below (T1302.setTop (mkF m 183 #[iv p0, iv p1, iv p2, rv b62, rv b109_68, iv (16 : Int32), rv b109_68, iv (0 : Int32), iv (1 : Int32), rv b109_68, iv (16 : Int32), iv (0 : Int32), .unset] [(.ref b109_68)])) _
          refine XS.aload X1302.here hx rfl (hb hby at_183) rfl rfl ?_
          show Steps p.tables e below (T1302.setTop (mkF m 185 #[iv p0, iv p1, iv p2, rv b62, rv b109_68, iv (16 : Int32), rv b109_68, iv (0 : Int32), iv (1 : Int32), rv b109_68, iv (16 : Int32), iv (0 : Int32), .unset] [(.ref b109_68), (.ref b109_68)])) _
          refine Jvm.RoadKit.acmp (g := (mkF m 185 #[iv p0, iv p1, iv p2, rv b62, rv b109_68, iv (16 : Int32), rv b109_68, iv (0 : Int32), iv (1 : Int32), rv b109_68, iv (16 : Int32), iv (0 : Int32), .unset] [(.ref b109_68), (.ref b109_68)])) X1302 hx rfl rfl rfl (pc0 := 185) (pc' := 188) (same := true) rfl (hb hby at_185) rfl (decide_eq_true rfl) (by decide) (by decide) ?_
          show Steps p.tables e below (T1302.setTop (mkF m 188 #[iv p0, iv p1, iv p2, rv b62, rv b109_68, iv (16 : Int32), rv b109_68, iv (0 : Int32), iv (1 : Int32), rv b109_68, iv (16 : Int32), iv (0 : Int32), .unset] [])) _
          refine XS.iconst X1302.here hx rfl (hb hby at_188) ?_
          show Steps p.tables e below (T1302.setTop (mkF m 189 #[iv p0, iv p1, iv p2, rv b62, rv b109_68, iv (16 : Int32), rv b109_68, iv (0 : Int32), iv (1 : Int32), rv b109_68, iv (16 : Int32), iv (0 : Int32), .unset] [(.int (1 : Int32))])) _
          refine XS.goto X1302.here hx rfl (pc0 := 189) (pc' := 193) rfl (hb hby at_189) (by decide) (by decide) ?_
          show Steps p.tables e below (T1302.setTop (mkF m 193 #[iv p0, iv p1, iv p2, rv b62, rv b109_68, iv (16 : Int32), rv b109_68, iv (0 : Int32), iv (1 : Int32), rv b109_68, iv (16 : Int32), iv (0 : Int32), .unset] [(.int (1 : Int32))])) _
          refine XS.istore X1302.here hx rfl (hb hby at_193) rfl (l' := #[iv p0, iv p1, iv p2, rv b62, rv b109_68, iv (16 : Int32), rv b109_68, iv (0 : Int32), iv (1 : Int32), rv b109_68, iv (16 : Int32), iv (0 : Int32), iv (1 : Int32)]) rfl ?_
          show Steps p.tables e below (T1302.setTop (mkF m 195 #[iv p0, iv p1, iv p2, rv b62, rv b109_68, iv (16 : Int32), rv b109_68, iv (0 : Int32), iv (1 : Int32), rv b109_68, iv (16 : Int32), iv (0 : Int32), iv (1 : Int32)] [])) _
          refine XS.iload X1302.here hx rfl (hb hby at_195) rfl ?_
          show Steps p.tables e below (T1302.setTop (mkF m 197 #[iv p0, iv p1, iv p2, rv b62, rv b109_68, iv (16 : Int32), rv b109_68, iv (0 : Int32), iv (1 : Int32), rv b109_68, iv (16 : Int32), iv (0 : Int32), iv (1 : Int32)] [(.int (1 : Int32))])) _
          refine XS.ifNo X1302.here hx rfl (hb hby at_197) rfl (XT.i0_eq_f (by decide)) ?_
          show Steps p.tables e below (T1302.setTop (mkF m 200 #[iv p0, iv p1, iv p2, rv b62, rv b109_68, iv (16 : Int32), rv b109_68, iv (0 : Int32), iv (1 : Int32), rv b109_68, iv (16 : Int32), iv (0 : Int32), iv (1 : Int32)] [])) _
          refine XS.iload X1302.here hx rfl (hb hby at_200) rfl ?_
          show Steps p.tables e below (T1302.setTop (mkF m 202 #[iv p0, iv p1, iv p2, rv b62, rv b109_68, iv (16 : Int32), rv b109_68, iv (0 : Int32), iv (1 : Int32), rv b109_68, iv (16 : Int32), iv (0 : Int32), iv (1 : Int32)] [(.int (1 : Int32))])) _
          refine XS.ifNo X1302.here hx rfl (hb hby at_202) rfl (XT.i0_eq_f (by decide)) ?_
          show Steps p.tables e below (T1302.setTop (mkF m 205 #[iv p0, iv p1, iv p2, rv b62, rv b109_68, iv (16 : Int32), rv b109_68, iv (0 : Int32), iv (1 : Int32), rv b109_68, iv (16 : Int32), iv (0 : Int32), iv (1 : Int32)] [])) _
          refine XS.iconst X1302.here hx rfl (hb hby at_205) ?_
          show Steps p.tables e below (T1302.setTop (mkF m 206 #[iv p0, iv p1, iv p2, rv b62, rv b109_68, iv (16 : Int32), rv b109_68, iv (0 : Int32), iv (1 : Int32), rv b109_68, iv (16 : Int32), iv (0 : Int32), iv (1 : Int32)] [(.int (1 : Int32))])) _
          refine XS.goto X1302.here hx rfl (pc0 := 206) (pc' := 210) rfl (hb hby at_206) (by decide) (by decide) ?_
          exact kt
        obtain ⟨fs, hr, hrun, hended, hW, hsame⟩ := X1302.leave (v := some (.int (1 : Int32))) (fun h => by rw [Bd.returns] at h; cases h)
        refine ⟨_, _, pre1304 _ (retN X1302 hx (t := .boolean) Bd.returns (by simp) (hb hby at_210) hr), hrun, hended, _, _, rfl, ?_, ⟨_, rfl⟩, hW, hsame.mono (by decide) (by decide)⟩
        show Q_law Z p0 p1 p2 ac mr a_NO_SLOTS kn h0 n0 _ T1302.heap _
        rw [e1302]
        exact ⟨rfl, N1302⟩
set_option maxRecDepth 65536 in
set_option maxHeartbeats 40000000 in
theorem comes_1 {Post : Tables → Env → Array Value → State → Outcome → State → Prop} (hpost : ∀ tb e args s v u, (limb_1_1.after args s (.returned v) u = true ∧ limb_1_2.after args s (.returned v) u = true ∧ True) → FrameEnd s (.returned v) u (Jvm.fieldLocs frame_1_writes args s ++ Jvm.arrayLocs frame_1_arrays args s ++ Jvm.staticLocs frame_1_statics s) 24 192 → Post tb e args s (.returned v) u) :
    ArmFor flags0 classFile x code maxLocals ret World_1 tables_1 room_1 Calls_1 rest_1 Pre_1 Post := by
  intro l hfl _ _ p e ha hc hk s m args below hf hA hF happ hP
  obtain ⟨hcalls, hrest, hpre⟩ := hP
  obtain ⟨-, -, -, hnamed, -, -, -, hat⟩ := (Spec.applies_iff hf).mp happ
  obtain ⟨hg, hn⟩ := and_e (Cond.before_iff.mp (show (Jvm.Cond.and given_1 narrow_1).before args s = true from hpre))
  obtain ⟨given_1_2, given_1_3⟩ := and_e hg
  obtain ⟨given_1_4, given_1_5⟩ := and_e given_1_3
  obtain ⟨given_1_6, given_1_7⟩ := and_e given_1_5
  obtain ⟨narrow_1_2, narrow_1_3⟩ := and_e hn
  obtain ⟨narrow_1_4, narrow_1_5⟩ := and_e narrow_1_3
  obtain ⟨w0, w1, w2, rfl⟩ : ∃ w0 w1 w2 : Value, args = #[w0, w1, w2] := by
    have hs : args.size = 3 := by simpa [Cond.value, given_1] using given_1_2
    obtain ⟨L⟩ := args
    match L, hs with
    | [w0, w1, w2], _ => exact ⟨w0, w1, w2, rfl⟩
  have hw := fun d (hd : d ∈ tables_1) => atoms_spec (ws := Jvm.Cond.code x code maxLocals ret :: tables_1) hat d (List.mem_cons_of_mem _ hd)
  have W := fun {d : Jvm.Cond} (i : Nat) (q : tables_1[i]? = some d) => hw d (List.mem_of_getElem? q)
  have hfit : Fit s := fun {y c} hc i hi => by
    obtain ⟨ha, rfl⟩ := Array.getElem?_eq_some_iff.mp hc
    have q := List.all_eq_true.mp ((Array.all_eq_true_iff_forall_mem.mp hF) _ (Array.getElem_mem ha)) i (List.mem_range.mpr hi)
    simpa [Array.getElem?_eq_getElem hi] using q
  obtain ⟨hsets, hown0⟩ := atoms_of _ (rest_1_c_eq ▸ (show rest_1_c.before _ s = true from hrest))
  have hr0 := Cond.before_iff.mp hown0
  obtain ⟨i0, ei0⟩ := is_v given_1_4
  obtain rfl : w0 = (.int i0) := Option.some.inj ei0
  obtain ⟨i1, ei1⟩ := is_v given_1_6
  obtain rfl : w1 = (.int i1) := Option.some.inj ei1
  obtain ⟨i2, ei2⟩ := is_v given_1_7
  obtain rfl : w2 = (.int i2) := Option.some.inj ei2
  obtain ⟨a_NO_SLOTS, ev_NO_SLOTS⟩ := exa_v narrow_1_4
  have S_NO_SLOTS : Sta s s.heap "com/example/homethread/homethread/Items" "NO_SLOTS" "[Ljava/lang/Object;" (.ref a_NO_SLOTS) := Sta.start ev_NO_SLOTS (Or.inr ⟨(W 2 rfl), (W 39 rfl)⟩)
  have E_NO_SLOTS : Exa s s.heap a_NO_SLOTS "[Ljava/lang/Object;" := Exa.start ev_NO_SLOTS narrow_1_4
  have S_high : Sta s s.heap "java/lang/Integer$IntegerCache" "high" "I" (.int (127 : Int32)) := Sta.start (own_eqI (Cond.before_iff.mp (hsets _ (List.mem_of_getElem? (i := 3) rfl)))) (Or.inl (hsets _ (List.mem_of_getElem? (i := 1) rfl)))
  obtain ⟨ac, ev_cache⟩ := arr_v (Cond.before_iff.mp (hsets _ (List.mem_of_getElem? (i := 4) rfl)))
  have S_cache : Sta s s.heap "java/lang/Integer$IntegerCache" "cache" "[Ljava/lang/Integer;" (.ref ac) := Sta.start ev_cache (Or.inr ⟨(W 18 rfl), (hsets _ (List.mem_of_getElem? (i := 2) rfl))⟩)
  have H_cache : own_cache s ac := own_cache_start ev_cache (Cond.before_iff.mp (hsets _ (List.mem_of_getElem? (i := 4) rfl))) (Cond.before_iff.mp (hsets _ (List.mem_of_getElem? (i := 6) rfl))) (Cond.before_iff.mp (hsets _ (List.mem_of_getElem? (i := 7) rfl)))
  obtain ⟨⟨cM, kM, mr, hm1, hm2, hm3, -⟩, -⟩ := hcalls
  have M_oa : own_mir s "[Ljava/lang/Object;" mr := ⟨cM, kM, hm1, hm2, hm3⟩
  obtain ⟨kn, V_ns⟩ := own_arv0 (dv := .null) hfit ev_NO_SLOTS narrow_1_2 narrow_1_5
  obtain ⟨n, o, h1, h2, h3, _, L, rfl, ⟨rfl, N⟩, hq⟩ := rm_law l s _ hw tables_1 i0 i1 i2 ac mr a_NO_SLOTS kn s.heap s.heap.size (Old.start s) S_high S_cache H_cache M_oa S_NO_SLOTS E_NO_SLOTS V_ns p e ha hc hk s m _ below hf ((Spec.applies_iff_loose hf).mp happ).1 ⟨rfl, State.Warmed39.refl s, rfl⟩ trivial
  refine ⟨n, _, h1, h2, h3, hpost _ _ _ _ _ _ ⟨Cond.after_iff.mpr rfl, Cond.after_iff.mpr (eq_i res_at (Term.int_eval (1)) rfl), trivial⟩ ⟨hq.1, hq.2.1, (hq.2.2.sift fun y hy => Or.inr (N y hy)).mono (by decide) (by decide)⟩⟩
theorem main_1_1 : Claimed_1_1 := comes_1 fun _ _ _ _ _ _ h hF => ⟨h.1, hF⟩
theorem main_1_2 : Claimed_1_2 := comes_1 fun _ _ _ _ _ _ h hF => ⟨h.2.1, hF⟩
end Jvm.Pilot.@@N@@
namespace Jvm.Pilot.@@N@@
open Jvm Jvm.ClassFile Sem Op Lib Jvm.Free Jvm.Stand Jvm.Pilot.@@N@@.Jvm.D
/-! MADE BY PROGRAM (witnessworld.py) out of the Statement's table words and the real class files: 19 classes; the members and pool entries that the words name. The judged class is class 1, her method 1. -/
namespace start1
open Jvm.ClassFile
def u (s : String) : CpInfo := .utf8 (stringToUtf16 s)
/-- a pool by its gaps: so many unusable entries, then the entry; so many at the end -/
def gap : Nat → List CpInfo → List CpInfo
  | 0, r => r
  | n + 1, r => .unusable :: gap n r
def poolList (es : List (Nat × CpInfo)) (last : Nat) : List CpInfo := es.foldr (fun e r => gap e.1 (e.2 :: r)) (gap last [])
def pool (es : List (Nat × CpInfo)) (last : Nat) : Array CpInfo := ⟨poolList es last⟩
def fileOf (pool : Array CpInfo) (this : Nat) (attrs : Array Attribute := #[]) (ms : Array MethodInfo := #[]) (fl : Nat := 33) (sup : Nat := 0) (ifs : Array Nat := #[]) (fds : Array FieldInfo := #[]) : ClassFile where
  minorVersion := 0
  majorVersion := 65
  constantPool := pool
  accessFlags := fl
  thisClass := this
  superClass := sup
  interfaces := ifs
  fields := fds
  methods := ms
  attributes := attrs
def plain (name : String) (sup : Option ClassId) : Class where
  name := name
  kind := .ordinary
  loader := none
  accessFlags := 33
  super := sup
  interfaces := #[]
  cf := none
  fields := #[]
  methods := #[]
  instanceTypes := #[]
  staticTypes := #[]
  resolved := #[]
  callSites := []
  init := .initialized
  statics := none
  mirror := none

def pool0 : Array CpInfo := pool [(5, u "<init>"), (0, u "()V"), (1, .class_ 10), (1, u "java/lang/Object"), (0, u "getClass"), (0, u "()Ljava/lang/Class;")] 111

def k0c0 : Code := { maxStack := 0, maxLocals := 1, code := object_method_1_code, exceptionTable := #[], attributes := #[] }
def k0m0 : Method := { name := "<init>", desc := "()V", sig := { parameters := [], returnType := none }, accessFlags := 1, code := some k0c0 }
def k0m1 : Method := { name := "getClass", desc := "()Ljava/lang/Class;", sig := { parameters := [], returnType := some (.object "java/lang/Class") }, accessFlags := 273, code := none }
/-- java/lang/Object -/
def k0 : Class := { plain "java/lang/Object" none with
  accessFlags := 33
  interfaces := #[]
  cf := some (fileOf pool0 8 #[] #[{ accessFlags := 1, nameIndex := 5, descriptorIndex := 6, attributes := #[] }, { accessFlags := 273, nameIndex := 11, descriptorIndex := 12, attributes := #[] }] 33 0 #[] #[])
  fields := #[]
  methods := #[k0m0, k0m1]
  instanceTypes := #[]
  staticTypes := #[]
  resolved := Array.replicate 124 none
  statics := none }

def pool1 : Array CpInfo := pool [(2, .class_ 4), (0, .nameAndType 5 6), (0, u "java/lang/Object"), (0, u "<init>"), (0, u "()V"), (0, .class_ 8), (0, u "com/example/homethread/homethread/Items"), (0, .methodref 7 3), (0, .methodref 11 12), (0, .class_ 13), (0, .nameAndType 14 15), (0, u "java/lang/Integer"), (0, u "valueOf"), (0, u "(I)Ljava/lang/Integer;"), (0, .methodref 7 17), (0, .nameAndType 18 19), (0, u "add"), (0, u "(Ljava/lang/Object;)V"), (0, .methodref 7 21), (0, .nameAndType 22 23), (0, u "slots"), (0, u "()[Ljava/lang/Object;"), (0, .methodref 7 25), (0, .nameAndType 26 27), (0, u "clearAndTrim"), (0, u "(I)V"), (0, .methodref 7 29), (0, .nameAndType 30 31), (0, u "size"), (0, u "()I"), (0, .class_ 33), (0, u "com/example/homethread/homethread/ItemsClearAndTrimPinLaw"), (2, u "law"), (0, u "(III)Z")] 5

def k1m0 : Method := { name := "<init>", desc := "()V", sig := { parameters := [], returnType := none }, accessFlags := 1, code := none }
def k1c1 : Code := { maxStack := 2, maxLocals := 13, code := code, exceptionTable := #[], attributes := #[] }
def k1m1 : Method := { name := "law", desc := "(III)Z", sig := { parameters := [.int, .int, .int], returnType := some .boolean }, accessFlags := 9, code := some k1c1 }
/-- com/example/homethread/homethread/ItemsClearAndTrimPinLaw -/
def k1 : Class := { plain "com/example/homethread/homethread/ItemsClearAndTrimPinLaw" (some 0) with
  accessFlags := 49
  interfaces := #[]
  cf := some (fileOf pool1 32 #[] #[{ accessFlags := 1, nameIndex := 5, descriptorIndex := 6, attributes := #[] }, { accessFlags := 9, nameIndex := 36, descriptorIndex := 37, attributes := #[] }] 49 2 #[] #[])
  fields := #[]
  methods := #[k1m0, k1m1]
  instanceTypes := #[]
  staticTypes := #[]
  resolved := Array.replicate 43 none
  statics := none }

def pool2 : Array CpInfo := pool [(1, .methodref 2 3), (0, .class_ 4), (0, .nameAndType 5 6), (0, u "java/lang/Object"), (0, u "<init>"), (0, u "()V"), (0, .class_ 8), (0, u "com/example/homethread/homethread/Items"), (0, .fieldref 7 10), (0, .nameAndType 11 12), (0, u "slots"), (0, u "[Ljava/lang/Object;"), (69, .fieldref 7 83), (0, .nameAndType 84 85), (0, u "size"), (0, u "I"), (0, .methodref 87 88), (0, .class_ 89), (0, .nameAndType 90 91), (0, u "java/lang/Math"), (0, u "max"), (0, u "(II)I"), (2, .integer 2147483647), (0, .methodref 96 97), (0, .class_ 98), (0, .nameAndType 99 100), (0, u "java/util/Arrays"), (0, u "copyOf"), (0, u "([Ljava/lang/Object;I)[Ljava/lang/Object;"), (0, .fieldref 7 102), (0, .nameAndType 103 12), (0, u "NO_SLOTS"), (6, u "FIRST_SLOTS"), (17, u "()I"), (0, u "add"), (0, u "(Ljava/lang/Object;)V"), (2, u "()[Ljava/lang/Object;"), (1, u "clearAndTrim"), (0, u "(I)V")] 8

def k2c0 : Code := { maxStack := 2, maxLocals := 1, code := prog_9_method_1_code, exceptionTable := #[], attributes := #[] }
def k2m0 : Method := { name := "<init>", desc := "()V", sig := { parameters := [], returnType := none }, accessFlags := 0, code := some k2c0 }
def k2c1 : Code := { maxStack := 1, maxLocals := 1, code := prog_9_method_7_code, exceptionTable := #[], attributes := #[] }
def k2m1 : Method := { name := "size", desc := "()I", sig := { parameters := [], returnType := some .int }, accessFlags := 0, code := some k2c1 }
def k2c2 : Code := { maxStack := 4, maxLocals := 3, code := prog_9_method_8_code, exceptionTable := #[], attributes := #[] }
def k2m2 : Method := { name := "add", desc := "(Ljava/lang/Object;)V", sig := { parameters := [(.object "java/lang/Object")], returnType := none }, accessFlags := 0, code := some k2c2 }
def k2c3 : Code := { maxStack := 1, maxLocals := 1, code := prog_9_method_9_code, exceptionTable := #[], attributes := #[] }
def k2m3 : Method := { name := "slots", desc := "()[Ljava/lang/Object;", sig := { parameters := [], returnType := some (.array (.object "java/lang/Object")) }, accessFlags := 0, code := some k2c3 }
def k2c4 : Code := { maxStack := 2, maxLocals := 2, code := prog_9_method_11_code, exceptionTable := #[], attributes := #[] }
def k2m4 : Method := { name := "clearAndTrim", desc := "(I)V", sig := { parameters := [.int], returnType := none }, accessFlags := 0, code := some k2c4 }
/-- com/example/homethread/homethread/Items -/
def k2 : Class := { plain "com/example/homethread/homethread/Items" (some 0) with
  accessFlags := 48
  interfaces := #[]
  cf := some (fileOf pool2 7 #[] #[{ accessFlags := 0, nameIndex := 5, descriptorIndex := 6, attributes := #[] }, { accessFlags := 0, nameIndex := 84, descriptorIndex := 128, attributes := #[] }, { accessFlags := 0, nameIndex := 129, descriptorIndex := 130, attributes := #[] }, { accessFlags := 0, nameIndex := 11, descriptorIndex := 133, attributes := #[] }, { accessFlags := 0, nameIndex := 135, descriptorIndex := 136, attributes := #[] }] 48 2 #[] #[{ accessFlags := 26, nameIndex := 110, descriptorIndex := 85, attributes := #[] }, { accessFlags := 26, nameIndex := 103, descriptorIndex := 12, attributes := #[] }, { accessFlags := 2, nameIndex := 11, descriptorIndex := 12, attributes := #[] }, { accessFlags := 2, nameIndex := 84, descriptorIndex := 85, attributes := #[] }])
  fields := #[{ name := "FIRST_SLOTS", type := .int, accessFlags := 26, slot := 0, constantValue := 0 }, { name := "NO_SLOTS", type := (.array (.object "java/lang/Object")), accessFlags := 26, slot := 1, constantValue := 0 }, { name := "slots", type := (.array (.object "java/lang/Object")), accessFlags := 2, slot := 0, constantValue := 0 }, { name := "size", type := .int, accessFlags := 2, slot := 1, constantValue := 0 }]
  methods := #[k2m0, k2m1, k2m2, k2m3, k2m4]
  instanceTypes := #[(.array (.object "java/lang/Object")), .int]
  staticTypes := #[.int, (.array (.object "java/lang/Object"))]
  resolved := Array.replicate 145 none
  statics := some 0 }

def pool3 : Array CpInfo := pool [(1, .class_ 2), (0, u "java/io/Serializable"), (0, .class_ 4), (0, u "java/lang/Object")] 2

/-- java/io/Serializable -/
def k3 : Class := { plain "java/io/Serializable" (some 0) with
  accessFlags := 1537
  interfaces := #[]
  cf := some (fileOf pool3 1 #[] #[] 1537 3 #[] #[])
  fields := #[]
  methods := #[]
  instanceTypes := #[]
  staticTypes := #[]
  resolved := Array.replicate 7 none
  statics := none }

def pool4 : Array CpInfo := pool [(1, .methodref 2 3), (0, .class_ 4), (0, .nameAndType 5 6), (0, u "java/lang/Object"), (0, u "<init>"), (0, u "()V"), (1, .class_ 10), (1, u "java/lang/Number"), (2, .class_ 14), (0, u "java/io/Serializable"), (0, u "serialVersionUID"), (0, u "J")] 20

def k4c0 : Code := { maxStack := 1, maxLocals := 1, code := jdk_18_method_1_code, exceptionTable := #[], attributes := #[] }
def k4m0 : Method := { name := "<init>", desc := "()V", sig := { parameters := [], returnType := none }, accessFlags := 1, code := some k4c0 }
/-- java/lang/Number -/
def k4 : Class := { plain "java/lang/Number" (some 0) with
  accessFlags := 1057
  interfaces := #[3]
  cf := some (fileOf pool4 8 #[] #[{ accessFlags := 1, nameIndex := 5, descriptorIndex := 6, attributes := #[] }] 1057 2 #[13] #[{ accessFlags := 26, nameIndex := 15, descriptorIndex := 16, attributes := #[] }])
  fields := #[{ name := "serialVersionUID", type := .long, accessFlags := 26, slot := 0, constantValue := 0 }]
  methods := #[k4m0]
  instanceTypes := #[]
  staticTypes := #[.long]
  resolved := Array.replicate 37 none
  statics := none }

def pool5 : Array CpInfo := pool [(1, .class_ 2), (0, u "java/lang/Comparable"), (0, .class_ 4), (0, u "java/lang/Object")] 7

/-- java/lang/Comparable -/
def k5 : Class := { plain "java/lang/Comparable" (some 0) with
  accessFlags := 1537
  interfaces := #[]
  cf := some (fileOf pool5 1 #[] #[] 1537 3 #[] #[])
  fields := #[]
  methods := #[]
  instanceTypes := #[]
  staticTypes := #[]
  resolved := Array.replicate 12 none
  statics := none }

def pool6 : Array CpInfo := pool [(1, .class_ 2), (0, u "java/lang/constant/Constable"), (0, .class_ 4), (0, u "java/lang/Object")] 6

/-- java/lang/constant/Constable -/
def k6 : Class := { plain "java/lang/constant/Constable" (some 0) with
  accessFlags := 1537
  interfaces := #[]
  cf := some (fileOf pool6 1 #[] #[] 1537 3 #[] #[])
  fields := #[]
  methods := #[]
  instanceTypes := #[]
  staticTypes := #[]
  resolved := Array.replicate 11 none
  statics := none }

def pool7 : Array CpInfo := pool [(1, .class_ 2), (0, u "java/lang/constant/ConstantDesc"), (0, .class_ 4), (0, u "java/lang/Object")] 32

/-- java/lang/constant/ConstantDesc -/
def k7 : Class := { plain "java/lang/constant/ConstantDesc" (some 0) with
  accessFlags := 1537
  interfaces := #[]
  cf := some (fileOf pool7 1 #[] #[] 1537 3 #[] #[])
  fields := #[]
  methods := #[]
  instanceTypes := #[]
  staticTypes := #[]
  resolved := Array.replicate 37 none
  statics := none }

def pool8 : Array CpInfo := pool [(1, .class_ 2), (0, u "java/lang/Integer"), (16, u "digits"), (0, u "[C"), (46, u "<init>"), (17, u "DigitOnes"), (0, u "[B"), (2, u "DigitTens"), (10, .nameAndType 67 101), (0, u "()V"), (85, u "valueOf"), (0, u "(I)Ljava/lang/Integer;"), (0, .class_ 190), (0, u "java/lang/Integer$IntegerCache"), (0, .fieldref 189 192), (0, .nameAndType 193 194), (0, u "high"), (0, u "I"), (0, .fieldref 189 196), (0, .nameAndType 197 198), (0, u "cache"), (0, u "[Ljava/lang/Integer;"), (0, .methodref 1 200), (0, .nameAndType 67 201), (0, u "(I)V"), (0, .methodref 203 100), (0, .class_ 204), (0, u "java/lang/Number"), (0, .fieldref 1 206), (0, .nameAndType 207 194), (0, u "value"), (94, u "TYPE"), (0, u "Ljava/lang/Class;"), (0, .class_ 305), (0, u "java/lang/Comparable"), (0, .class_ 307), (0, u "java/lang/constant/Constable"), (0, .class_ 309), (0, u "java/lang/constant/ConstantDesc"), (0, u "MIN_VALUE"), (1, u "MAX_VALUE"), (3, u "SIZE"), (1, u "BYTES"), (1, u "serialVersionUID"), (0, u "J")] 131

def k8c0 : Code := { maxStack := 3, maxLocals := 1, code := jdk_33_method_22_code, exceptionTable := #[], attributes := #[] }
def k8m0 : Method := { name := "valueOf", desc := "(I)Ljava/lang/Integer;", sig := { parameters := [.int], returnType := some (.object "java/lang/Integer") }, accessFlags := 9, code := some k8c0 }
def k8c1 : Code := { maxStack := 2, maxLocals := 2, code := jdk_33_method_23_code, exceptionTable := #[], attributes := #[] }
def k8m1 : Method := { name := "<init>", desc := "(I)V", sig := { parameters := [.int], returnType := none }, accessFlags := 1, code := some k8c1 }
/-- java/lang/Integer -/
def k8 : Class := { plain "java/lang/Integer" (some 4) with
  accessFlags := 49
  interfaces := #[5, 6, 7]
  cf := some (fileOf pool8 1 #[.nestMembers #[189]] #[{ accessFlags := 9, nameIndex := 187, descriptorIndex := 188, attributes := #[] }, { accessFlags := 1, nameIndex := 67, descriptorIndex := 201, attributes := #[] }] 49 203 #[304, 306, 308] #[{ accessFlags := 25, nameIndex := 310, descriptorIndex := 194, attributes := #[] }, { accessFlags := 25, nameIndex := 312, descriptorIndex := 194, attributes := #[] }, { accessFlags := 25, nameIndex := 302, descriptorIndex := 303, attributes := #[] }, { accessFlags := 24, nameIndex := 19, descriptorIndex := 20, attributes := #[] }, { accessFlags := 24, nameIndex := 89, descriptorIndex := 86, attributes := #[] }, { accessFlags := 24, nameIndex := 85, descriptorIndex := 86, attributes := #[] }, { accessFlags := 18, nameIndex := 207, descriptorIndex := 194, attributes := #[] }, { accessFlags := 25, nameIndex := 316, descriptorIndex := 194, attributes := #[] }, { accessFlags := 25, nameIndex := 318, descriptorIndex := 194, attributes := #[] }, { accessFlags := 26, nameIndex := 320, descriptorIndex := 321, attributes := #[] }])
  fields := #[{ name := "MIN_VALUE", type := .int, accessFlags := 25, slot := 0, constantValue := 0 }, { name := "MAX_VALUE", type := .int, accessFlags := 25, slot := 1, constantValue := 0 }, { name := "TYPE", type := (.object "java/lang/Class"), accessFlags := 25, slot := 2, constantValue := 0 }, { name := "digits", type := (.array .char), accessFlags := 24, slot := 3, constantValue := 0 }, { name := "DigitTens", type := (.array .byte), accessFlags := 24, slot := 4, constantValue := 0 }, { name := "DigitOnes", type := (.array .byte), accessFlags := 24, slot := 5, constantValue := 0 }, { name := "value", type := .int, accessFlags := 18, slot := 0, constantValue := 0 }, { name := "SIZE", type := .int, accessFlags := 25, slot := 6, constantValue := 0 }, { name := "BYTES", type := .int, accessFlags := 25, slot := 7, constantValue := 0 }, { name := "serialVersionUID", type := .long, accessFlags := 26, slot := 8, constantValue := 0 }]
  methods := #[k8m0, k8m1]
  instanceTypes := #[.int]
  staticTypes := #[.int, .int, (.object "java/lang/Class"), (.array .char), (.array .byte), (.array .byte), .int, .int, .long]
  resolved := Array.replicate 453 none
  statics := none }

def pool9 : Array CpInfo := pool [(2, .class_ 4), (1, u "java/lang/Object"), (0, u "<init>"), (0, u "()V"), (0, .class_ 8), (0, u "java/lang/Integer"), (7, .class_ 18), (1, u "java/lang/Integer$IntegerCache"), (0, u "$assertionsDisabled"), (0, u "Z"), (26, u "high"), (0, u "I"), (8, u "archivedCache"), (0, u "[Ljava/lang/Integer;"), (12, u "cache"), (0, u "low")] 27

def k9m0 : Method := { name := "<init>", desc := "()V", sig := { parameters := [], returnType := none }, accessFlags := 2, code := none }
/-- java/lang/Integer$IntegerCache -/
def k9 : Class := { plain "java/lang/Integer$IntegerCache" (some 0) with
  accessFlags := 48
  interfaces := #[]
  cf := some (fileOf pool9 16 #[.nestHost 7] #[{ accessFlags := 2, nameIndex := 5, descriptorIndex := 6, attributes := #[] }] 48 2 #[] #[{ accessFlags := 24, nameIndex := 72, descriptorIndex := 48, attributes := #[] }, { accessFlags := 24, nameIndex := 47, descriptorIndex := 48, attributes := #[] }, { accessFlags := 24, nameIndex := 71, descriptorIndex := 58, attributes := #[] }, { accessFlags := 8, nameIndex := 57, descriptorIndex := 58, attributes := #[] }, { accessFlags := 4120, nameIndex := 19, descriptorIndex := 20, attributes := #[] }])
  fields := #[{ name := "low", type := .int, accessFlags := 24, slot := 0, constantValue := 0 }, { name := "high", type := .int, accessFlags := 24, slot := 1, constantValue := 0 }, { name := "cache", type := (.array (.object "java/lang/Integer")), accessFlags := 24, slot := 2, constantValue := 0 }, { name := "archivedCache", type := (.array (.object "java/lang/Integer")), accessFlags := 8, slot := 3, constantValue := 0 }, { name := "$assertionsDisabled", type := .boolean, accessFlags := 4120, slot := 4, constantValue := 0 }]
  methods := #[k9m0]
  instanceTypes := #[]
  staticTypes := #[.int, .int, (.array (.object "java/lang/Integer")), (.array (.object "java/lang/Integer")), .boolean]
  resolved := Array.replicate 100 none
  statics := some 1 }

def pool10 : Array CpInfo := pool [(1, .class_ 2), (0, u "java/lang/Math"), (1, .class_ 6), (1, u "java/lang/Object"), (0, u "<init>"), (0, u "()V"), (89, .class_ 100), (1, u "java/lang/Math$RandomNumberGeneratorHolder"), (71, u "negativeZeroFloatBits"), (0, u "J"), (2, u "negativeZeroDoubleBits"), (21, u "max"), (2, u "min"), (43, u "$assertionsDisabled"), (0, u "Z"), (88, u "(II)I"), (2, u "twoToTheDoubleScaleDown"), (0, u "D"), (4, u "twoToTheDoubleScaleUp"), (9, u "E"), (3, u "PI"), (2, u "TAU"), (2, u "DEGREES_TO_RADIANS"), (0, u "RADIANS_TO_DEGREES")] 94

def k10m0 : Method := { name := "<init>", desc := "()V", sig := { parameters := [], returnType := none }, accessFlags := 2, code := none }
def k10c1 : Code := { maxStack := 2, maxLocals := 2, code := jdk_29_method_65_code, exceptionTable := #[], attributes := #[] }
def k10m1 : Method := { name := "max", desc := "(II)I", sig := { parameters := [.int, .int], returnType := some .int }, accessFlags := 9, code := some k10c1 }
def k10c2 : Code := { maxStack := 2, maxLocals := 2, code := jdk_29_method_69_code, exceptionTable := #[], attributes := #[] }
def k10m2 : Method := { name := "min", desc := "(II)I", sig := { parameters := [.int, .int], returnType := some .int }, accessFlags := 9, code := some k10c2 }
/-- java/lang/Math -/
def k10 : Class := { plain "java/lang/Math" (some 0) with
  accessFlags := 49
  interfaces := #[]
  cf := some (fileOf pool10 1 #[.nestMembers #[98]] #[{ accessFlags := 2, nameIndex := 7, descriptorIndex := 8, attributes := #[] }, { accessFlags := 9, nameIndex := 198, descriptorIndex := 335, attributes := #[] }, { accessFlags := 9, nameIndex := 201, descriptorIndex := 335, attributes := #[] }] 49 4 #[] #[{ accessFlags := 25, nameIndex := 354, descriptorIndex := 339, attributes := #[] }, { accessFlags := 25, nameIndex := 358, descriptorIndex := 339, attributes := #[] }, { accessFlags := 25, nameIndex := 361, descriptorIndex := 339, attributes := #[] }, { accessFlags := 26, nameIndex := 364, descriptorIndex := 339, attributes := #[] }, { accessFlags := 26, nameIndex := 365, descriptorIndex := 339, attributes := #[] }, { accessFlags := 26, nameIndex := 172, descriptorIndex := 173, attributes := #[] }, { accessFlags := 26, nameIndex := 176, descriptorIndex := 173, attributes := #[] }, { accessFlags := 8, nameIndex := 344, descriptorIndex := 339, attributes := #[] }, { accessFlags := 8, nameIndex := 338, descriptorIndex := 339, attributes := #[] }, { accessFlags := 4120, nameIndex := 245, descriptorIndex := 246, attributes := #[] }])
  fields := #[{ name := "E", type := .double, accessFlags := 25, slot := 0, constantValue := 0 }, { name := "PI", type := .double, accessFlags := 25, slot := 1, constantValue := 0 }, { name := "TAU", type := .double, accessFlags := 25, slot := 2, constantValue := 0 }, { name := "DEGREES_TO_RADIANS", type := .double, accessFlags := 26, slot := 3, constantValue := 0 }, { name := "RADIANS_TO_DEGREES", type := .double, accessFlags := 26, slot := 4, constantValue := 0 }, { name := "negativeZeroFloatBits", type := .long, accessFlags := 26, slot := 5, constantValue := 0 }, { name := "negativeZeroDoubleBits", type := .long, accessFlags := 26, slot := 6, constantValue := 0 }, { name := "twoToTheDoubleScaleUp", type := .double, accessFlags := 8, slot := 7, constantValue := 0 }, { name := "twoToTheDoubleScaleDown", type := .double, accessFlags := 8, slot := 8, constantValue := 0 }, { name := "$assertionsDisabled", type := .boolean, accessFlags := 4120, slot := 9, constantValue := 0 }]
  methods := #[k10m0, k10m1, k10m2]
  instanceTypes := #[]
  staticTypes := #[.double, .double, .double, .double, .double, .long, .long, .double, .double, .boolean]
  resolved := Array.replicate 460 none
  statics := none }

def pool11 : Array CpInfo := pool [(2, .class_ 4), (1, u "java/lang/Object"), (0, u "<init>"), (0, u "()V"), (7, .class_ 16), (1, u "java/util/Arrays"), (57, .class_ 76), (1, u "java/util/Arrays$NaturalOrder"), (9, .methodref 2 87), (0, .nameAndType 88 89), (0, u "getClass"), (0, u "()Ljava/lang/Class;"), (20, .class_ 111), (0, u "[Ljava/lang/Object;"), (1, .class_ 115), (1, u "java/util/Arrays$LegacyMergeSort"), (1, u "Z"), (32, .methodref 151 152), (0, .class_ 153), (0, .nameAndType 154 155), (0, u "java/lang/System"), (0, u "arraycopy"), (0, u "(Ljava/lang/Object;ILjava/lang/Object;II)V"), (144, .methodref 14 301), (0, .nameAndType 302 303), (0, u "copyOf"), (0, u "([Ljava/lang/Object;ILjava/lang/Class;)[Ljava/lang/Object;"), (0, .methodref 305 306), (0, .class_ 307), (0, .nameAndType 308 309), (0, u "java/lang/Math"), (0, u "min"), (0, u "(II)I"), (65, .class_ 376), (0, u "java/util/Arrays$ArrayList"), (68, u "$assertionsDisabled"), (269, u "MIN_ARRAY_SORT_GRAN"), (0, u "I"), (2, u "INSERTIONSORT_THRESHOLD"), (140, u "([Ljava/lang/Object;I)[Ljava/lang/Object;"), (114, .class_ 976), (0, u "java/util/Arrays$ArrayItr")] 52

def k11m0 : Method := { name := "<init>", desc := "()V", sig := { parameters := [], returnType := none }, accessFlags := 2, code := none }
def k11c1 : Code := { maxStack := 3, maxLocals := 2, code := jdk_65_method_119_code, exceptionTable := #[], attributes := #[] }
def k11m1 : Method := { name := "copyOf", desc := "([Ljava/lang/Object;I)[Ljava/lang/Object;", sig := { parameters := [(.array (.object "java/lang/Object")), .int], returnType := some (.array (.object "java/lang/Object")) }, accessFlags := 9, code := some k11c1 }
def k11c2 : Code := { maxStack := 6, maxLocals := 4, code := jdk_65_method_120_code, exceptionTable := #[], attributes := #[] }
def k11m2 : Method := { name := "copyOf", desc := "([Ljava/lang/Object;ILjava/lang/Class;)[Ljava/lang/Object;", sig := { parameters := [(.array (.object "java/lang/Object")), .int, (.object "java/lang/Class")], returnType := some (.array (.object "java/lang/Object")) }, accessFlags := 9, code := some k11c2 }
/-- java/util/Arrays -/
def k11 : Class := { plain "java/util/Arrays" (some 0) with
  accessFlags := 49
  interfaces := #[]
  cf := some (fileOf pool11 14 #[.nestMembers #[975, 375, 113, 74]] #[{ accessFlags := 2, nameIndex := 5, descriptorIndex := 6, attributes := #[] }, { accessFlags := 9, nameIndex := 302, descriptorIndex := 860, attributes := #[] }, { accessFlags := 9, nameIndex := 302, descriptorIndex := 303, attributes := #[] }] 49 2 #[] #[{ accessFlags := 26, nameIndex := 715, descriptorIndex := 716, attributes := #[] }, { accessFlags := 26, nameIndex := 719, descriptorIndex := 716, attributes := #[] }, { accessFlags := 4120, nameIndex := 445, descriptorIndex := 117, attributes := #[] }])
  fields := #[{ name := "MIN_ARRAY_SORT_GRAN", type := .int, accessFlags := 26, slot := 0, constantValue := 0 }, { name := "INSERTIONSORT_THRESHOLD", type := .int, accessFlags := 26, slot := 1, constantValue := 0 }, { name := "$assertionsDisabled", type := .boolean, accessFlags := 4120, slot := 2, constantValue := 0 }]
  methods := #[k11m0, k11m1, k11m2]
  instanceTypes := #[]
  staticTypes := #[.int, .int, .boolean]
  resolved := Array.replicate 1029 none
  statics := none }

def pool12 : Array CpInfo := pool [(2, .class_ 4), (1, u "java/lang/Object"), (0, u "<init>"), (0, u "()V"), (1, .class_ 10), (1, u "java/lang/System"), (0, u "allowSecurityManager"), (0, u "I"), (16, u "cons"), (0, u "Ljava/io/Console;"), (77, .class_ 110), (1, u "java/lang/System$CallersHolder"), (43, u "initialErrStream"), (0, u "Ljava/io/PrintStream;"), (19, u "security"), (0, u "Ljava/lang/SecurityManager;"), (31, .class_ 209), (0, u "java/lang/System$1"), (7, u "props"), (0, u "Ljava/util/Properties;"), (2, u "lineSeparator"), (0, u "Ljava/lang/String;"), (96, .class_ 321), (1, u "java/lang/System$LoggerFinder"), (5, .class_ 328), (0, u "java/lang/System$Logger"), (67, u "err"), (2, u "out"), (91, u "notSupportedJnuEncoding"), (15, u "in"), (17, u "initialIn"), (0, u "Ljava/io/InputStream;"), (35, u "bootLayer"), (0, u "Ljava/lang/ModuleLayer;"), (99, .class_ 664), (0, u "java/lang/System$2"), (9, u "NEVER"), (2, u "MAYBE"), (49, u "arraycopy"), (0, u "(Ljava/lang/Object;ILjava/lang/Object;II)V"), (72, .class_ 802), (0, u "java/lang/System$Logger$Level")] 31

def k12m0 : Method := { name := "<init>", desc := "()V", sig := { parameters := [], returnType := none }, accessFlags := 2, code := none }
def k12m1 : Method := { name := "arraycopy", desc := "(Ljava/lang/Object;ILjava/lang/Object;II)V", sig := { parameters := [(.object "java/lang/Object"), .int, (.object "java/lang/Object"), .int, .int], returnType := none }, accessFlags := 265, code := none }
/-- java/lang/System -/
def k12 : Class := { plain "java/lang/System" (some 0) with
  accessFlags := 49
  interfaces := #[]
  cf := some (fileOf pool12 8 #[.nestMembers #[319, 327, 801, 108, 663, 208]] #[{ accessFlags := 2, nameIndex := 5, descriptorIndex := 6, attributes := #[] }, { accessFlags := 265, nameIndex := 727, descriptorIndex := 728, attributes := #[] }] 49 2 #[] #[{ accessFlags := 25, nameIndex := 507, descriptorIndex := 526, attributes := #[] }, { accessFlags := 25, nameIndex := 399, descriptorIndex := 155, attributes := #[] }, { accessFlags := 25, nameIndex := 396, descriptorIndex := 155, attributes := #[] }, { accessFlags := 10, nameIndex := 525, descriptorIndex := 526, attributes := #[] }, { accessFlags := 26, nameIndex := 674, descriptorIndex := 12, attributes := #[] }, { accessFlags := 26, nameIndex := 677, descriptorIndex := 12, attributes := #[] }, { accessFlags := 10, nameIndex := 11, descriptorIndex := 12, attributes := #[] }, { accessFlags := 74, nameIndex := 175, descriptorIndex := 176, attributes := #[] }, { accessFlags := 10, nameIndex := 491, descriptorIndex := 222, attributes := #[] }, { accessFlags := 74, nameIndex := 29, descriptorIndex := 30, attributes := #[] }, { accessFlags := 74, nameIndex := 154, descriptorIndex := 155, attributes := #[] }, { accessFlags := 10, nameIndex := 217, descriptorIndex := 218, attributes := #[] }, { accessFlags := 10, nameIndex := 221, descriptorIndex := 222, attributes := #[] }, { accessFlags := 8, nameIndex := 562, descriptorIndex := 563, attributes := #[] }])
  fields := #[{ name := "in", type := (.object "java/io/InputStream"), accessFlags := 25, slot := 0, constantValue := 0 }, { name := "out", type := (.object "java/io/PrintStream"), accessFlags := 25, slot := 1, constantValue := 0 }, { name := "err", type := (.object "java/io/PrintStream"), accessFlags := 25, slot := 2, constantValue := 0 }, { name := "initialIn", type := (.object "java/io/InputStream"), accessFlags := 10, slot := 3, constantValue := 0 }, { name := "NEVER", type := .int, accessFlags := 26, slot := 4, constantValue := 0 }, { name := "MAYBE", type := .int, accessFlags := 26, slot := 5, constantValue := 0 }, { name := "allowSecurityManager", type := .int, accessFlags := 10, slot := 6, constantValue := 0 }, { name := "security", type := (.object "java/lang/SecurityManager"), accessFlags := 74, slot := 7, constantValue := 0 }, { name := "notSupportedJnuEncoding", type := (.object "java/lang/String"), accessFlags := 10, slot := 8, constantValue := 0 }, { name := "cons", type := (.object "java/io/Console"), accessFlags := 74, slot := 9, constantValue := 0 }, { name := "initialErrStream", type := (.object "java/io/PrintStream"), accessFlags := 74, slot := 10, constantValue := 0 }, { name := "props", type := (.object "java/util/Properties"), accessFlags := 10, slot := 11, constantValue := 0 }, { name := "lineSeparator", type := (.object "java/lang/String"), accessFlags := 10, slot := 12, constantValue := 0 }, { name := "bootLayer", type := (.object "java/lang/ModuleLayer"), accessFlags := 8, slot := 13, constantValue := 0 }]
  methods := #[k12m0, k12m1]
  instanceTypes := #[]
  staticTypes := #[(.object "java/io/InputStream"), (.object "java/io/PrintStream"), (.object "java/io/PrintStream"), (.object "java/io/InputStream"), .int, .int, .int, (.object "java/lang/SecurityManager"), (.object "java/lang/String"), (.object "java/io/Console"), (.object "java/io/PrintStream"), (.object "java/util/Properties"), (.object "java/lang/String"), (.object "java/lang/ModuleLayer")]
  resolved := Array.replicate 834 none
  statics := none }

def pool13 : Array CpInfo := pool [(1, u "java/lang/Class"), (0, .class_ 1), (0, u "java/lang/Object"), (0, .class_ 3)] 0

/-- java/lang/Class -/
def k13 : Class := { plain "java/lang/Class" (some 0) with
  accessFlags := 49
  interfaces := #[]
  cf := some (fileOf pool13 2 #[] #[] 49 4 #[] #[])
  fields := #[]
  methods := #[]
  instanceTypes := #[]
  staticTypes := #[]
  resolved := Array.replicate 5 none
  statics := none }

def pool14 : Array CpInfo := pool [(1, u "java/lang/Cloneable"), (0, .class_ 1), (0, u "java/lang/Object"), (0, .class_ 3)] 3

/-- java/lang/Cloneable -/
def k14 : Class := { plain "java/lang/Cloneable" (some 0) with
  accessFlags := 1537
  interfaces := #[]
  cf := some (fileOf pool14 2 #[] #[] 1537 4 #[] #[])
  fields := #[]
  methods := #[]
  instanceTypes := #[]
  staticTypes := #[]
  resolved := Array.replicate 8 none
  statics := none }

/-- the primitive byte -/
def k15 : Class := { plain "byte" none with kind := .primitive 'B', accessFlags := 0x411 }
/-- [B -/
def k16 : Class := { plain "[B" (some 0) with kind := .array 15 .byte, interfaces := #[14, 3], accessFlags := 1041 }

/-- [Ljava/lang/Integer; -/
def k17 : Class := { plain "[Ljava/lang/Integer;" (some 0) with kind := .array 8 (.object "java/lang/Integer"), interfaces := #[14, 3], accessFlags := 1041 }

/-- [Ljava/lang/Object; -/
def k18 : Class := { plain "[Ljava/lang/Object;" (some 0) with kind := .array 0 (.object "java/lang/Object"), interfaces := #[14, 3], accessFlags := 1041, mirror := some 2 }

def heap : Heap := #[{ cls := 2, slots := #[.int 0, .ref 4], vm := .statics 2 },
  { cls := 9, slots := #[.int 0, .int 127, .ref 3, .null, .int 0], vm := .statics 9 },
  { cls := 13, slots := #[], vm := .mirror 18 },
  { cls := 17, slots := #[.ref 5, .ref 6, .ref 7, .ref 8, .ref 9, .ref 10, .ref 11, .ref 12, .ref 13, .ref 14, .ref 15, .ref 16, .ref 17, .ref 18, .ref 19, .ref 20, .ref 21, .ref 22, .ref 23, .ref 24, .ref 25, .ref 26, .ref 27, .ref 28, .ref 29, .ref 30, .ref 31, .ref 32, .ref 33, .ref 34, .ref 35, .ref 36, .ref 37, .ref 38, .ref 39, .ref 40, .ref 41, .ref 42, .ref 43, .ref 44, .ref 45, .ref 46, .ref 47, .ref 48, .ref 49, .ref 50, .ref 51, .ref 52, .ref 53, .ref 54, .ref 55, .ref 56, .ref 57, .ref 58, .ref 59, .ref 60, .ref 61, .ref 62, .ref 63, .ref 64, .ref 65, .ref 66, .ref 67, .ref 68, .ref 69, .ref 70, .ref 71, .ref 72, .ref 73, .ref 74, .ref 75, .ref 76, .ref 77, .ref 78, .ref 79, .ref 80, .ref 81, .ref 82, .ref 83, .ref 84, .ref 85, .ref 86, .ref 87, .ref 88, .ref 89, .ref 90, .ref 91, .ref 92, .ref 93, .ref 94, .ref 95, .ref 96, .ref 97, .ref 98, .ref 99, .ref 100, .ref 101, .ref 102, .ref 103, .ref 104, .ref 105, .ref 106, .ref 107, .ref 108, .ref 109, .ref 110, .ref 111, .ref 112, .ref 113, .ref 114, .ref 115, .ref 116, .ref 117, .ref 118, .ref 119, .ref 120, .ref 121, .ref 122, .ref 123, .ref 124, .ref 125, .ref 126, .ref 127, .ref 128, .ref 129, .ref 130, .ref 131, .ref 132, .ref 133, .ref 134, .ref 135, .ref 136, .ref 137, .ref 138, .ref 139, .ref 140, .ref 141, .ref 142, .ref 143, .ref 144, .ref 145, .ref 146, .ref 147, .ref 148, .ref 149, .ref 150, .ref 151, .ref 152, .ref 153, .ref 154, .ref 155, .ref 156, .ref 157, .ref 158, .ref 159, .ref 160, .ref 161, .ref 162, .ref 163, .ref 164, .ref 165, .ref 166, .ref 167, .ref 168, .ref 169, .ref 170, .ref 171, .ref 172, .ref 173, .ref 174, .ref 175, .ref 176, .ref 177, .ref 178, .ref 179, .ref 180, .ref 181, .ref 182, .ref 183, .ref 184, .ref 185, .ref 186, .ref 187, .ref 188, .ref 189, .ref 190, .ref 191, .ref 192, .ref 193, .ref 194, .ref 195, .ref 196, .ref 197, .ref 198, .ref 199, .ref 200, .ref 201, .ref 202, .ref 203, .ref 204, .ref 205, .ref 206, .ref 207, .ref 208, .ref 209, .ref 210, .ref 211, .ref 212, .ref 213, .ref 214, .ref 215, .ref 216, .ref 217, .ref 218, .ref 219, .ref 220, .ref 221, .ref 222, .ref 223, .ref 224, .ref 225, .ref 226, .ref 227, .ref 228, .ref 229, .ref 230, .ref 231, .ref 232, .ref 233, .ref 234, .ref 235, .ref 236, .ref 237, .ref 238, .ref 239, .ref 240, .ref 241, .ref 242, .ref 243, .ref 244, .ref 245, .ref 246, .ref 247, .ref 248, .ref 249, .ref 250, .ref 251, .ref 252, .ref 253, .ref 254, .ref 255, .ref 256, .ref 257, .ref 258, .ref 259, .ref 260], vm := .none },
  { cls := 18, slots := #[], vm := .none },
  { cls := 8, slots := #[.int (-128)], vm := .none },
  { cls := 8, slots := #[.int (-127)], vm := .none },
  { cls := 8, slots := #[.int (-126)], vm := .none },
  { cls := 8, slots := #[.int (-125)], vm := .none },
  { cls := 8, slots := #[.int (-124)], vm := .none },
  { cls := 8, slots := #[.int (-123)], vm := .none },
  { cls := 8, slots := #[.int (-122)], vm := .none },
  { cls := 8, slots := #[.int (-121)], vm := .none },
  { cls := 8, slots := #[.int (-120)], vm := .none },
  { cls := 8, slots := #[.int (-119)], vm := .none },
  { cls := 8, slots := #[.int (-118)], vm := .none },
  { cls := 8, slots := #[.int (-117)], vm := .none },
  { cls := 8, slots := #[.int (-116)], vm := .none },
  { cls := 8, slots := #[.int (-115)], vm := .none },
  { cls := 8, slots := #[.int (-114)], vm := .none },
  { cls := 8, slots := #[.int (-113)], vm := .none },
  { cls := 8, slots := #[.int (-112)], vm := .none },
  { cls := 8, slots := #[.int (-111)], vm := .none },
  { cls := 8, slots := #[.int (-110)], vm := .none },
  { cls := 8, slots := #[.int (-109)], vm := .none },
  { cls := 8, slots := #[.int (-108)], vm := .none },
  { cls := 8, slots := #[.int (-107)], vm := .none },
  { cls := 8, slots := #[.int (-106)], vm := .none },
  { cls := 8, slots := #[.int (-105)], vm := .none },
  { cls := 8, slots := #[.int (-104)], vm := .none },
  { cls := 8, slots := #[.int (-103)], vm := .none },
  { cls := 8, slots := #[.int (-102)], vm := .none },
  { cls := 8, slots := #[.int (-101)], vm := .none },
  { cls := 8, slots := #[.int (-100)], vm := .none },
  { cls := 8, slots := #[.int (-99)], vm := .none },
  { cls := 8, slots := #[.int (-98)], vm := .none },
  { cls := 8, slots := #[.int (-97)], vm := .none },
  { cls := 8, slots := #[.int (-96)], vm := .none },
  { cls := 8, slots := #[.int (-95)], vm := .none },
  { cls := 8, slots := #[.int (-94)], vm := .none },
  { cls := 8, slots := #[.int (-93)], vm := .none },
  { cls := 8, slots := #[.int (-92)], vm := .none },
  { cls := 8, slots := #[.int (-91)], vm := .none },
  { cls := 8, slots := #[.int (-90)], vm := .none },
  { cls := 8, slots := #[.int (-89)], vm := .none },
  { cls := 8, slots := #[.int (-88)], vm := .none },
  { cls := 8, slots := #[.int (-87)], vm := .none },
  { cls := 8, slots := #[.int (-86)], vm := .none },
  { cls := 8, slots := #[.int (-85)], vm := .none },
  { cls := 8, slots := #[.int (-84)], vm := .none },
  { cls := 8, slots := #[.int (-83)], vm := .none },
  { cls := 8, slots := #[.int (-82)], vm := .none },
  { cls := 8, slots := #[.int (-81)], vm := .none },
  { cls := 8, slots := #[.int (-80)], vm := .none },
  { cls := 8, slots := #[.int (-79)], vm := .none },
  { cls := 8, slots := #[.int (-78)], vm := .none },
  { cls := 8, slots := #[.int (-77)], vm := .none },
  { cls := 8, slots := #[.int (-76)], vm := .none },
  { cls := 8, slots := #[.int (-75)], vm := .none },
  { cls := 8, slots := #[.int (-74)], vm := .none },
  { cls := 8, slots := #[.int (-73)], vm := .none },
  { cls := 8, slots := #[.int (-72)], vm := .none },
  { cls := 8, slots := #[.int (-71)], vm := .none },
  { cls := 8, slots := #[.int (-70)], vm := .none },
  { cls := 8, slots := #[.int (-69)], vm := .none },
  { cls := 8, slots := #[.int (-68)], vm := .none },
  { cls := 8, slots := #[.int (-67)], vm := .none },
  { cls := 8, slots := #[.int (-66)], vm := .none },
  { cls := 8, slots := #[.int (-65)], vm := .none },
  { cls := 8, slots := #[.int (-64)], vm := .none },
  { cls := 8, slots := #[.int (-63)], vm := .none },
  { cls := 8, slots := #[.int (-62)], vm := .none },
  { cls := 8, slots := #[.int (-61)], vm := .none },
  { cls := 8, slots := #[.int (-60)], vm := .none },
  { cls := 8, slots := #[.int (-59)], vm := .none },
  { cls := 8, slots := #[.int (-58)], vm := .none },
  { cls := 8, slots := #[.int (-57)], vm := .none },
  { cls := 8, slots := #[.int (-56)], vm := .none },
  { cls := 8, slots := #[.int (-55)], vm := .none },
  { cls := 8, slots := #[.int (-54)], vm := .none },
  { cls := 8, slots := #[.int (-53)], vm := .none },
  { cls := 8, slots := #[.int (-52)], vm := .none },
  { cls := 8, slots := #[.int (-51)], vm := .none },
  { cls := 8, slots := #[.int (-50)], vm := .none },
  { cls := 8, slots := #[.int (-49)], vm := .none },
  { cls := 8, slots := #[.int (-48)], vm := .none },
  { cls := 8, slots := #[.int (-47)], vm := .none },
  { cls := 8, slots := #[.int (-46)], vm := .none },
  { cls := 8, slots := #[.int (-45)], vm := .none },
  { cls := 8, slots := #[.int (-44)], vm := .none },
  { cls := 8, slots := #[.int (-43)], vm := .none },
  { cls := 8, slots := #[.int (-42)], vm := .none },
  { cls := 8, slots := #[.int (-41)], vm := .none },
  { cls := 8, slots := #[.int (-40)], vm := .none },
  { cls := 8, slots := #[.int (-39)], vm := .none },
  { cls := 8, slots := #[.int (-38)], vm := .none },
  { cls := 8, slots := #[.int (-37)], vm := .none },
  { cls := 8, slots := #[.int (-36)], vm := .none },
  { cls := 8, slots := #[.int (-35)], vm := .none },
  { cls := 8, slots := #[.int (-34)], vm := .none },
  { cls := 8, slots := #[.int (-33)], vm := .none },
  { cls := 8, slots := #[.int (-32)], vm := .none },
  { cls := 8, slots := #[.int (-31)], vm := .none },
  { cls := 8, slots := #[.int (-30)], vm := .none },
  { cls := 8, slots := #[.int (-29)], vm := .none },
  { cls := 8, slots := #[.int (-28)], vm := .none },
  { cls := 8, slots := #[.int (-27)], vm := .none },
  { cls := 8, slots := #[.int (-26)], vm := .none },
  { cls := 8, slots := #[.int (-25)], vm := .none },
  { cls := 8, slots := #[.int (-24)], vm := .none },
  { cls := 8, slots := #[.int (-23)], vm := .none },
  { cls := 8, slots := #[.int (-22)], vm := .none },
  { cls := 8, slots := #[.int (-21)], vm := .none },
  { cls := 8, slots := #[.int (-20)], vm := .none },
  { cls := 8, slots := #[.int (-19)], vm := .none },
  { cls := 8, slots := #[.int (-18)], vm := .none },
  { cls := 8, slots := #[.int (-17)], vm := .none },
  { cls := 8, slots := #[.int (-16)], vm := .none },
  { cls := 8, slots := #[.int (-15)], vm := .none },
  { cls := 8, slots := #[.int (-14)], vm := .none },
  { cls := 8, slots := #[.int (-13)], vm := .none },
  { cls := 8, slots := #[.int (-12)], vm := .none },
  { cls := 8, slots := #[.int (-11)], vm := .none },
  { cls := 8, slots := #[.int (-10)], vm := .none },
  { cls := 8, slots := #[.int (-9)], vm := .none },
  { cls := 8, slots := #[.int (-8)], vm := .none },
  { cls := 8, slots := #[.int (-7)], vm := .none },
  { cls := 8, slots := #[.int (-6)], vm := .none },
  { cls := 8, slots := #[.int (-5)], vm := .none },
  { cls := 8, slots := #[.int (-4)], vm := .none },
  { cls := 8, slots := #[.int (-3)], vm := .none },
  { cls := 8, slots := #[.int (-2)], vm := .none },
  { cls := 8, slots := #[.int (-1)], vm := .none },
  { cls := 8, slots := #[.int 0], vm := .none },
  { cls := 8, slots := #[.int 1], vm := .none },
  { cls := 8, slots := #[.int 2], vm := .none },
  { cls := 8, slots := #[.int 3], vm := .none },
  { cls := 8, slots := #[.int 4], vm := .none },
  { cls := 8, slots := #[.int 5], vm := .none },
  { cls := 8, slots := #[.int 6], vm := .none },
  { cls := 8, slots := #[.int 7], vm := .none },
  { cls := 8, slots := #[.int 8], vm := .none },
  { cls := 8, slots := #[.int 9], vm := .none },
  { cls := 8, slots := #[.int 10], vm := .none },
  { cls := 8, slots := #[.int 11], vm := .none },
  { cls := 8, slots := #[.int 12], vm := .none },
  { cls := 8, slots := #[.int 13], vm := .none },
  { cls := 8, slots := #[.int 14], vm := .none },
  { cls := 8, slots := #[.int 15], vm := .none },
  { cls := 8, slots := #[.int 16], vm := .none },
  { cls := 8, slots := #[.int 17], vm := .none },
  { cls := 8, slots := #[.int 18], vm := .none },
  { cls := 8, slots := #[.int 19], vm := .none },
  { cls := 8, slots := #[.int 20], vm := .none },
  { cls := 8, slots := #[.int 21], vm := .none },
  { cls := 8, slots := #[.int 22], vm := .none },
  { cls := 8, slots := #[.int 23], vm := .none },
  { cls := 8, slots := #[.int 24], vm := .none },
  { cls := 8, slots := #[.int 25], vm := .none },
  { cls := 8, slots := #[.int 26], vm := .none },
  { cls := 8, slots := #[.int 27], vm := .none },
  { cls := 8, slots := #[.int 28], vm := .none },
  { cls := 8, slots := #[.int 29], vm := .none },
  { cls := 8, slots := #[.int 30], vm := .none },
  { cls := 8, slots := #[.int 31], vm := .none },
  { cls := 8, slots := #[.int 32], vm := .none },
  { cls := 8, slots := #[.int 33], vm := .none },
  { cls := 8, slots := #[.int 34], vm := .none },
  { cls := 8, slots := #[.int 35], vm := .none },
  { cls := 8, slots := #[.int 36], vm := .none },
  { cls := 8, slots := #[.int 37], vm := .none },
  { cls := 8, slots := #[.int 38], vm := .none },
  { cls := 8, slots := #[.int 39], vm := .none },
  { cls := 8, slots := #[.int 40], vm := .none },
  { cls := 8, slots := #[.int 41], vm := .none },
  { cls := 8, slots := #[.int 42], vm := .none },
  { cls := 8, slots := #[.int 43], vm := .none },
  { cls := 8, slots := #[.int 44], vm := .none },
  { cls := 8, slots := #[.int 45], vm := .none },
  { cls := 8, slots := #[.int 46], vm := .none },
  { cls := 8, slots := #[.int 47], vm := .none },
  { cls := 8, slots := #[.int 48], vm := .none },
  { cls := 8, slots := #[.int 49], vm := .none },
  { cls := 8, slots := #[.int 50], vm := .none },
  { cls := 8, slots := #[.int 51], vm := .none },
  { cls := 8, slots := #[.int 52], vm := .none },
  { cls := 8, slots := #[.int 53], vm := .none },
  { cls := 8, slots := #[.int 54], vm := .none },
  { cls := 8, slots := #[.int 55], vm := .none },
  { cls := 8, slots := #[.int 56], vm := .none },
  { cls := 8, slots := #[.int 57], vm := .none },
  { cls := 8, slots := #[.int 58], vm := .none },
  { cls := 8, slots := #[.int 59], vm := .none },
  { cls := 8, slots := #[.int 60], vm := .none },
  { cls := 8, slots := #[.int 61], vm := .none },
  { cls := 8, slots := #[.int 62], vm := .none },
  { cls := 8, slots := #[.int 63], vm := .none },
  { cls := 8, slots := #[.int 64], vm := .none },
  { cls := 8, slots := #[.int 65], vm := .none },
  { cls := 8, slots := #[.int 66], vm := .none },
  { cls := 8, slots := #[.int 67], vm := .none },
  { cls := 8, slots := #[.int 68], vm := .none },
  { cls := 8, slots := #[.int 69], vm := .none },
  { cls := 8, slots := #[.int 70], vm := .none },
  { cls := 8, slots := #[.int 71], vm := .none },
  { cls := 8, slots := #[.int 72], vm := .none },
  { cls := 8, slots := #[.int 73], vm := .none },
  { cls := 8, slots := #[.int 74], vm := .none },
  { cls := 8, slots := #[.int 75], vm := .none },
  { cls := 8, slots := #[.int 76], vm := .none },
  { cls := 8, slots := #[.int 77], vm := .none },
  { cls := 8, slots := #[.int 78], vm := .none },
  { cls := 8, slots := #[.int 79], vm := .none },
  { cls := 8, slots := #[.int 80], vm := .none },
  { cls := 8, slots := #[.int 81], vm := .none },
  { cls := 8, slots := #[.int 82], vm := .none },
  { cls := 8, slots := #[.int 83], vm := .none },
  { cls := 8, slots := #[.int 84], vm := .none },
  { cls := 8, slots := #[.int 85], vm := .none },
  { cls := 8, slots := #[.int 86], vm := .none },
  { cls := 8, slots := #[.int 87], vm := .none },
  { cls := 8, slots := #[.int 88], vm := .none },
  { cls := 8, slots := #[.int 89], vm := .none },
  { cls := 8, slots := #[.int 90], vm := .none },
  { cls := 8, slots := #[.int 91], vm := .none },
  { cls := 8, slots := #[.int 92], vm := .none },
  { cls := 8, slots := #[.int 93], vm := .none },
  { cls := 8, slots := #[.int 94], vm := .none },
  { cls := 8, slots := #[.int 95], vm := .none },
  { cls := 8, slots := #[.int 96], vm := .none },
  { cls := 8, slots := #[.int 97], vm := .none },
  { cls := 8, slots := #[.int 98], vm := .none },
  { cls := 8, slots := #[.int 99], vm := .none },
  { cls := 8, slots := #[.int 100], vm := .none },
  { cls := 8, slots := #[.int 101], vm := .none },
  { cls := 8, slots := #[.int 102], vm := .none },
  { cls := 8, slots := #[.int 103], vm := .none },
  { cls := 8, slots := #[.int 104], vm := .none },
  { cls := 8, slots := #[.int 105], vm := .none },
  { cls := 8, slots := #[.int 106], vm := .none },
  { cls := 8, slots := #[.int 107], vm := .none },
  { cls := 8, slots := #[.int 108], vm := .none },
  { cls := 8, slots := #[.int 109], vm := .none },
  { cls := 8, slots := #[.int 110], vm := .none },
  { cls := 8, slots := #[.int 111], vm := .none },
  { cls := 8, slots := #[.int 112], vm := .none },
  { cls := 8, slots := #[.int 113], vm := .none },
  { cls := 8, slots := #[.int 114], vm := .none },
  { cls := 8, slots := #[.int 115], vm := .none },
  { cls := 8, slots := #[.int 116], vm := .none },
  { cls := 8, slots := #[.int 117], vm := .none },
  { cls := 8, slots := #[.int 118], vm := .none },
  { cls := 8, slots := #[.int 119], vm := .none },
  { cls := 8, slots := #[.int 120], vm := .none },
  { cls := 8, slots := #[.int 121], vm := .none },
  { cls := 8, slots := #[.int 122], vm := .none },
  { cls := 8, slots := #[.int 123], vm := .none },
  { cls := 8, slots := #[.int 124], vm := .none },
  { cls := 8, slots := #[.int 125], vm := .none },
  { cls := 8, slots := #[.int 126], vm := .none },
  { cls := 8, slots := #[.int 127], vm := .none }]
def classes : Array Class := #[k0, k1, k2, k3, k4, k5, k6, k7, k8, k9, k10, k11, k12, k13, k14, k15, k16, k17, k18]
def interned : List (Array UInt16 × Addr) := []
def slotsUsed : Nat := 519
def theMethod : MethodId := ⟨1, 1⟩
def args0 : Array Value := #[.int 5, .int 4, .int 5]
def aboutOver (below : List Frame) : State where
  vm := { classes := classes, interned := interned.toArray }
  heap := heap
  slotsUsed := slotsUsed
  threads := #[{ frames := .invoking theMethod args0 :: below }]
def below0 : List Frame := [.native { method := ⟨0, 0⟩, args := #[] }]
def about1 : State := aboutOver below0
def p0 : Program := .bare "" "" ""
def e0 : Env := launch0.env 0 0 0
theorem w_frames : about1.frames = Frame.invoking theMethod args0 :: below0 := rfl
set_option maxRecDepth 65536 in
theorem w_args : argsFit about1.vm theMethod args0 = true := by decide +kernel
set_option maxRecDepth 65536 in
theorem w_heap : heapFits about1 = true := by decide +kernel
set_option maxRecDepth 65536 in
theorem w_runnable : about1.curStatus? = some .runnable := by decide +kernel
set_option maxRecDepth 65536 in
theorem w_alone : about1.alone = true := by decide +kernel
set_option maxRecDepth 65536 in
theorem w_named : about1.methodNamed? x = some theMethod := by decide +kernel
set_option maxRecDepth 65536 in
theorem w_hears : about1.hears theMethod below0 = true := by decide +kernel
set_option maxRecDepth 65536 in
theorem w_ripe : about1.ripe theMethod args0 below0 = true := by decide +kernel
theorem w_running : about1.status = .running := rfl
set_option maxRecDepth 65536 in
theorem w_room : about1.hasRoom e0.platform room_1 = true :=
  launch0.hasRoom_least _ room_1 (by decide +kernel) (by decide +kernel) (by decide +kernel) (by decide +kernel) (by decide +kernel) (by decide +kernel)
theorem allAtoms_all (ts : List Jvm.Cond) (a : Array Jvm.Value) (st : Jvm.State) : (allAtoms ts).before a st = ts.all (fun c => c.before a st) := by
  induction ts with
  | nil => rfl
  | cons c t ih =>
    show (Jvm.Cond.and c (allAtoms t)).before a st = _
    rw [Jvm.Cond.before_and, ih, List.all_cons]
def words1 : List Jvm.Cond := Jvm.Cond.code x code maxLocals ret :: tables_1
/-- a 'code' word, met by the world's own term for the bytes: nothing is compared byte by byte -/
theorem code_word {y : MethodName} {bytes : ByteArray} {mx : Nat} {rt : Option FieldType} {a : Array Value} {s : State} {m : MethodId} {meth : Method} {c : Code} (h1 : s.methodNamed? y = some m) (h2 : s.vm.method? m = some meth) (h3 : meth.code = some c) (h4 : c.code = bytes)
    (h5 : (c.maxLocals == mx && c.exceptionTable.isEmpty && decide (c.maxStack ≤ mostOperands) && decide (meth.sig.returnType = rt) && !meth.locks && decide (parseMethodDescriptor y.desc = some meth.sig)) = true) : (Jvm.Cond.code y bytes mx rt).before a s = true := by
  simp only [Bool.and_eq_true, beq_iff_eq, Bool.not_eq_true', decide_eq_true_eq] at h5
  obtain ⟨⟨⟨⟨⟨g1, g2⟩, g3⟩, g4⟩, g5⟩, g6⟩ := h5
  simp [Cond.before, Cond.holds, Cond.value, h1, h2, h3, h4, g1, g2, g3, g4, g5, g6]
def isCode : Jvm.Cond → Bool
  | .code _ _ _ _ => true
  | _ => false
theorem all_split {L : List Jvm.Cond} {P : Jvm.Cond → Bool} (h1 : L.all (fun c => isCode c || P c) = true) (h2 : ∀ c ∈ L.filter isCode, P c = true) : L.all P = true := by
  refine List.all_eq_true.mpr fun c hc => ?_
  have h := List.all_eq_true.mp h1 c hc
  rcases Bool.eq_false_or_eq_true (isCode c) with hi | hi
  · exact h2 c (List.mem_filter.mpr ⟨hc, hi⟩)
  · simpa [hi] using h
set_option maxRecDepth 65536 in
theorem w_c0 : (Jvm.Cond.code x code maxLocals ret).before args0 about1 = true := code_word (m := ⟨1, 1⟩) (meth := k1m1) (c := k1c1) (by decide +kernel) rfl rfl rfl (by decide +kernel)
set_option maxRecDepth 65536 in
theorem w_c1 : (Jvm.Cond.code ({ cls := "com/example/homethread/homethread/Items", name := "<init>", desc := "()V" } : Jvm.MethodName) prog_9_method_1_code (1 : Nat) (Option.none : Option Jvm.ClassFile.FieldType)).before args0 about1 = true := code_word (m := ⟨2, 0⟩) (meth := k2m0) (c := k2c0) (by decide +kernel) rfl rfl rfl (by decide +kernel)
set_option maxRecDepth 65536 in
theorem w_c2 : (Jvm.Cond.code ({ cls := "java/lang/Object", name := "<init>", desc := "()V" } : Jvm.MethodName) object_method_1_code (1 : Nat) (Option.none : Option Jvm.ClassFile.FieldType)).before args0 about1 = true := code_word (m := ⟨0, 0⟩) (meth := k0m0) (c := k0c0) (by decide +kernel) rfl rfl rfl (by decide +kernel)
set_option maxRecDepth 65536 in
theorem w_c3 : (Jvm.Cond.code ({ cls := "java/lang/Integer", name := "valueOf", desc := "(I)Ljava/lang/Integer;" } : Jvm.MethodName) jdk_33_method_22_code (1 : Nat) (Option.some (Jvm.ClassFile.FieldType.object "java/lang/Integer"))).before args0 about1 = true := code_word (m := ⟨8, 0⟩) (meth := k8m0) (c := k8c0) (by decide +kernel) rfl rfl rfl (by decide +kernel)
set_option maxRecDepth 65536 in
theorem w_c4 : (Jvm.Cond.code ({ cls := "com/example/homethread/homethread/Items", name := "add", desc := "(Ljava/lang/Object;)V" } : Jvm.MethodName) prog_9_method_8_code (3 : Nat) (Option.none : Option Jvm.ClassFile.FieldType)).before args0 about1 = true := code_word (m := ⟨2, 2⟩) (meth := k2m2) (c := k2c2) (by decide +kernel) rfl rfl rfl (by decide +kernel)
set_option maxRecDepth 65536 in
theorem w_c5 : (Jvm.Cond.code ({ cls := "com/example/homethread/homethread/Items", name := "slots", desc := "()[Ljava/lang/Object;" } : Jvm.MethodName) prog_9_method_9_code (1 : Nat) (Option.some (Jvm.ClassFile.FieldType.array (Jvm.ClassFile.FieldType.object "java/lang/Object")))).before args0 about1 = true := code_word (m := ⟨2, 3⟩) (meth := k2m3) (c := k2c3) (by decide +kernel) rfl rfl rfl (by decide +kernel)
set_option maxRecDepth 65536 in
theorem w_c6 : (Jvm.Cond.code ({ cls := "com/example/homethread/homethread/Items", name := "clearAndTrim", desc := "(I)V" } : Jvm.MethodName) prog_9_method_11_code (2 : Nat) (Option.none : Option Jvm.ClassFile.FieldType)).before args0 about1 = true := code_word (m := ⟨2, 4⟩) (meth := k2m4) (c := k2c4) (by decide +kernel) rfl rfl rfl (by decide +kernel)
set_option maxRecDepth 65536 in
theorem w_c7 : (Jvm.Cond.code ({ cls := "com/example/homethread/homethread/Items", name := "size", desc := "()I" } : Jvm.MethodName) prog_9_method_7_code (1 : Nat) (Option.some Jvm.ClassFile.FieldType.int)).before args0 about1 = true := code_word (m := ⟨2, 1⟩) (meth := k2m1) (c := k2c1) (by decide +kernel) rfl rfl rfl (by decide +kernel)
set_option maxRecDepth 65536 in
theorem w_c8 : (Jvm.Cond.code ({ cls := "java/lang/Integer", name := "<init>", desc := "(I)V" } : Jvm.MethodName) jdk_33_method_23_code (2 : Nat) (Option.none : Option Jvm.ClassFile.FieldType)).before args0 about1 = true := code_word (m := ⟨8, 1⟩) (meth := k8m1) (c := k8c1) (by decide +kernel) rfl rfl rfl (by decide +kernel)
set_option maxRecDepth 65536 in
theorem w_c9 : (Jvm.Cond.code ({ cls := "java/lang/Number", name := "<init>", desc := "()V" } : Jvm.MethodName) jdk_18_method_1_code (1 : Nat) (Option.none : Option Jvm.ClassFile.FieldType)).before args0 about1 = true := code_word (m := ⟨4, 0⟩) (meth := k4m0) (c := k4c0) (by decide +kernel) rfl rfl rfl (by decide +kernel)
set_option maxRecDepth 65536 in
theorem w_c10 : (Jvm.Cond.code ({ cls := "java/lang/Math", name := "max", desc := "(II)I" } : Jvm.MethodName) jdk_29_method_65_code (2 : Nat) (Option.some Jvm.ClassFile.FieldType.int)).before args0 about1 = true := code_word (m := ⟨10, 1⟩) (meth := k10m1) (c := k10c1) (by decide +kernel) rfl rfl rfl (by decide +kernel)
set_option maxRecDepth 65536 in
theorem w_c11 : (Jvm.Cond.code ({ cls := "java/util/Arrays", name := "copyOf", desc := "([Ljava/lang/Object;I)[Ljava/lang/Object;" } : Jvm.MethodName) jdk_65_method_119_code (2 : Nat) (Option.some (Jvm.ClassFile.FieldType.array (Jvm.ClassFile.FieldType.object "java/lang/Object")))).before args0 about1 = true := code_word (m := ⟨11, 1⟩) (meth := k11m1) (c := k11c1) (by decide +kernel) rfl rfl rfl (by decide +kernel)
set_option maxRecDepth 65536 in
theorem w_c12 : (Jvm.Cond.code ({ cls := "java/util/Arrays", name := "copyOf", desc := "([Ljava/lang/Object;ILjava/lang/Class;)[Ljava/lang/Object;" } : Jvm.MethodName) jdk_65_method_120_code (4 : Nat) (Option.some (Jvm.ClassFile.FieldType.array (Jvm.ClassFile.FieldType.object "java/lang/Object")))).before args0 about1 = true := code_word (m := ⟨11, 2⟩) (meth := k11m2) (c := k11c2) (by decide +kernel) rfl rfl rfl (by decide +kernel)
set_option maxRecDepth 65536 in
theorem w_c13 : (Jvm.Cond.code ({ cls := "java/lang/Math", name := "min", desc := "(II)I" } : Jvm.MethodName) jdk_29_method_69_code (2 : Nat) (Option.some Jvm.ClassFile.FieldType.int)).before args0 about1 = true := code_word (m := ⟨10, 2⟩) (meth := k10m2) (c := k10c2) (by decide +kernel) rfl rfl rfl (by decide +kernel)
def codes1 : List Jvm.Cond := [Jvm.Cond.code x code maxLocals ret, Jvm.Cond.code ({ cls := "com/example/homethread/homethread/Items", name := "<init>", desc := "()V" } : Jvm.MethodName) prog_9_method_1_code (1 : Nat) (Option.none : Option Jvm.ClassFile.FieldType), Jvm.Cond.code ({ cls := "java/lang/Object", name := "<init>", desc := "()V" } : Jvm.MethodName) object_method_1_code (1 : Nat) (Option.none : Option Jvm.ClassFile.FieldType), Jvm.Cond.code ({ cls := "java/lang/Integer", name := "valueOf", desc := "(I)Ljava/lang/Integer;" } : Jvm.MethodName) jdk_33_method_22_code (1 : Nat) (Option.some (Jvm.ClassFile.FieldType.object "java/lang/Integer")), Jvm.Cond.code ({ cls := "com/example/homethread/homethread/Items", name := "add", desc := "(Ljava/lang/Object;)V" } : Jvm.MethodName) prog_9_method_8_code (3 : Nat) (Option.none : Option Jvm.ClassFile.FieldType), Jvm.Cond.code ({ cls := "com/example/homethread/homethread/Items", name := "slots", desc := "()[Ljava/lang/Object;" } : Jvm.MethodName) prog_9_method_9_code (1 : Nat) (Option.some (Jvm.ClassFile.FieldType.array (Jvm.ClassFile.FieldType.object "java/lang/Object"))), Jvm.Cond.code ({ cls := "com/example/homethread/homethread/Items", name := "clearAndTrim", desc := "(I)V" } : Jvm.MethodName) prog_9_method_11_code (2 : Nat) (Option.none : Option Jvm.ClassFile.FieldType), Jvm.Cond.code ({ cls := "com/example/homethread/homethread/Items", name := "size", desc := "()I" } : Jvm.MethodName) prog_9_method_7_code (1 : Nat) (Option.some Jvm.ClassFile.FieldType.int), Jvm.Cond.code ({ cls := "java/lang/Integer", name := "<init>", desc := "(I)V" } : Jvm.MethodName) jdk_33_method_23_code (2 : Nat) (Option.none : Option Jvm.ClassFile.FieldType), Jvm.Cond.code ({ cls := "java/lang/Number", name := "<init>", desc := "()V" } : Jvm.MethodName) jdk_18_method_1_code (1 : Nat) (Option.none : Option Jvm.ClassFile.FieldType), Jvm.Cond.code ({ cls := "java/lang/Math", name := "max", desc := "(II)I" } : Jvm.MethodName) jdk_29_method_65_code (2 : Nat) (Option.some Jvm.ClassFile.FieldType.int), Jvm.Cond.code ({ cls := "java/util/Arrays", name := "copyOf", desc := "([Ljava/lang/Object;I)[Ljava/lang/Object;" } : Jvm.MethodName) jdk_65_method_119_code (2 : Nat) (Option.some (Jvm.ClassFile.FieldType.array (Jvm.ClassFile.FieldType.object "java/lang/Object"))), Jvm.Cond.code ({ cls := "java/util/Arrays", name := "copyOf", desc := "([Ljava/lang/Object;ILjava/lang/Class;)[Ljava/lang/Object;" } : Jvm.MethodName) jdk_65_method_120_code (4 : Nat) (Option.some (Jvm.ClassFile.FieldType.array (Jvm.ClassFile.FieldType.object "java/lang/Object"))), Jvm.Cond.code ({ cls := "java/lang/Math", name := "min", desc := "(II)I" } : Jvm.MethodName) jdk_29_method_69_code (2 : Nat) (Option.some Jvm.ClassFile.FieldType.int)]
set_option maxRecDepth 65536 in
theorem codes_eq : words1.filter isCode = codes1 := rfl
theorem w_codes : ∀ c ∈ words1.filter isCode, c.before args0 about1 = true := by
  rw [codes_eq]
  intro c hc
  simp only [codes1, List.mem_cons, List.not_mem_nil, or_false] at hc
  rcases hc with rfl | rfl | rfl | rfl | rfl | rfl | rfl | rfl | rfl | rfl | rfl | rfl | rfl | rfl
  · exact w_c0
  · exact w_c1
  · exact w_c2
  · exact w_c3
  · exact w_c4
  · exact w_c5
  · exact w_c6
  · exact w_c7
  · exact w_c8
  · exact w_c9
  · exact w_c10
  · exact w_c11
  · exact w_c12
  · exact w_c13
set_option maxRecDepth 65536 in
theorem w_t1 : (words1.take 24).all (fun c => isCode c || c.before args0 about1) = true := by decide +kernel
set_option maxRecDepth 65536 in
theorem w_t2 : ((words1.drop 24).take 24).all (fun c => isCode c || c.before args0 about1) = true := by decide +kernel
set_option maxRecDepth 65536 in
theorem w_t3 : (((words1.drop 24).drop 24).take 24).all (fun c => isCode c || c.before args0 about1) = true := by decide +kernel
set_option maxRecDepth 65536 in
theorem w_t4 : (((words1.drop 24).drop 24).drop 24).all (fun c => isCode c || c.before args0 about1) = true := by decide +kernel
theorem w_tables : (allAtoms (Jvm.Cond.code x code maxLocals ret :: tables_1)).before args0 about1 = true := by
  rw [allAtoms_all]
  show words1.all (fun c => c.before args0 about1) = true
  refine all_split ?_ w_codes
  rw [← List.take_append_drop 24 words1, List.all_append, w_t1, ← List.take_append_drop 24 (words1.drop 24), List.all_append, w_t2, ← List.take_append_drop 24 ((words1.drop 24).drop 24), List.all_append, w_t3, w_t4]
  rfl
set_option maxRecDepth 65536 in
theorem w_rest : rest_1_c.before args0 about1 = true := by decide +kernel
set_option maxRecDepth 65536 in
theorem w_case : (Jvm.Cond.and given_1 narrow_1).before args0 about1 = true := by decide +kernel
theorem w_applies : (headSpec (Jvm.Cond.code x code maxLocals ret :: tables_1) room_1).applies x e0.platform about1 = true :=
  (Spec.applies_iff w_frames).mpr ⟨w_running, w_runnable, w_alone, w_named, w_hears, w_ripe, w_room, w_tables⟩
set_option maxRecDepth 65536 in
theorem atStart : AtStart classFile x code maxLocals ret World_1 tables_1 room_1 Calls_1 rest_1 Pre_1 launch0 p0 e0 about1 theMethod args0 below0 :=
  ⟨lists_1, trivial, launch0.admits_env _ _ _, launch0.least_env, fairChoices_fair.cas, fairChoices_fair.clock, w_frames, w_args, w_heap, w_applies, ⟨⟨18, k18, 2, by decide +kernel, rfl, rfl, _, rfl, rfl⟩, trivial⟩, w_rest, w_case⟩
end start1
theorem witness_1 : WitnessClaimed_1 := ⟨start1.p0, start1.e0, start1.about1, start1.theMethod, start1.args0, start1.below0, start1.atStart⟩
end Jvm.Pilot.@@N@@
