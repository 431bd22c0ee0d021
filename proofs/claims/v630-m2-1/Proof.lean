import JvmDerived
import JvmDerived.Pilot.@@N@@Statement
import JvmDerived.Pilot.@@N@@Code
set_option linter.unusedVariables false
set_option linter.unusedSimpArgs false
@@BLOCK:NumsL.lean.txt@@
namespace Jvm.RoadKit
open Sem ClassFile Op Lib Jvm.Stand Jvm.Free Jvm.LawKit
section New
variable {p : Program} {l : Launch} {e : Env} {R : Room} {s : State} {m : MethodId} {args : Array Value} {below : List Frame} {meth : Method} {c : Code} {T : State} {locs : List Loc} {cells slots : Nat}
theorem retI (X : Stand p l e R s m args below meth c T locs cells slots) (hx : p.tables.exec = Jvm.exec) {pc : Nat} {Ls : Array Slot} {z : Int32} {rest : List Value} (hret : meth.sig.returnType = some .int) (hd : decode c.code pc = .ok (.ireturn, 1)) {fs : List Frame}
    (hl : ∀ (f : JFrame) (acts : List Action), f.method = m → f.locked = none → f.entered = [] → (doReturn e (T.setTop f) acts (some (.int z))).1 = T.setFrames fs) : Steps p.tables e below (T.setTop (mkF m pc Ls (.int z :: rest))) (T.setFrames fs) := by
  have hm' : T.vm.method? m = some meth := X.method'
  have hn : narrow .int (.int z) = .int z := rfl
  show Steps p.tables e below (T.setTop { method := m, pc := pc, locals := Ls, stack := _ :: rest, locked := none }) _
  jvm_step X.here [X.here.top, hx, hd, hm', hret, hn]
  first | (intro acts; rw [hl _ acts rfl rfl rfl]) | rw [hl _ _ rfl rfl rfl]
  exact Steps.refl _
end New
end Jvm.RoadKit
namespace Jvm.Pilot.@@N@@
open Jvm Jvm.ClassFile Sem Op Lib Jvm.Free Jvm.Stand Jvm.LawKit Jvm.RoadKit Bundle Jvm.Pilot.@@N@@.Jvm.D
theorem own_fld_ne {Z : State} {h : Heap} {a b : Addr} {C n d : String} {v w : Value} (F : Fld Z h a C n d v) (G : Fld Z h b C n d w) (q : v ≠ w) : a ≠ b := fun e => by
  subst e
  obtain ⟨c1, cf1, k1, i1, f1, a1, a2, -, -, -, -, a7⟩ := F
  obtain ⟨c2, cf2, k2, i2, f2, b1, b2, -, -, -, -, b7⟩ := G
  cases a1.symm.trans b1
  cases a2.symm.trans b2
  exact q (Option.some.inj (a7.symm.trans b7))
theorem own_fldI {args : Array Value} {s : State} {t : Term} {a : Addr} {C n d : String} {k : Int32} (ht : t.eval args s none [] s = some (.ref a)) (h : (Jvm.Cond.eq (Term.field t C n d) (Term.int k)).value args s none s [] = some true) : Fld s s.heap a C n d (.int k) := by
  apply Fld.start
  have e1 : (Term.field t C n d).eval args s none [] s = s.fieldOf? a C n d := fld_at ht
  have e2 : (Term.int k).eval args s none [] s = some (.int k) := Term.int_eval k
  simp only [Cond.value, e1, e2] at h
  split at h <;> simp_all
theorem own_nm0 {a : Addr} : a ∉ ([] : List Addr) := List.not_mem_nil
theorem own_nm1 {a x : Addr} (h : a ≠ x) : a ∉ [x] := fun q => h (List.mem_singleton.mp q)
theorem own_nm2 {a x y : Addr} (h : a ≠ x) (h2 : a ≠ y) : a ∉ [x, y] := fun q => by
  rcases List.mem_cons.mp q with q | q
  · exact h q
  · exact h2 (List.mem_singleton.mp q)
theorem own_nm3 {a x y z : Addr} (h : a ≠ x) (h2 : a ≠ y) (h3 : a ≠ z) : a ∉ [x, y, z] := fun q => by
  rcases List.mem_cons.mp q with q | q
  · exact h q
  · exact own_nm2 h2 h3 q
theorem own_all0 {P : Addr → Prop} : ∀ x ∈ ([] : List Addr), P x := fun x q => (List.not_mem_nil q).elim
theorem own_all1 {P : Addr → Prop} {a : Addr} (h : P a) : ∀ x ∈ [a], P x := fun x q => by rw [List.mem_singleton.mp q]; exact h
theorem own_all2 {P : Addr → Prop} {a b : Addr} (h : P a) (h2 : P b) : ∀ x ∈ [a, b], P x := fun x q => by
  rcases List.mem_cons.mp q with q | q
  · rw [q]; exact h
  · rw [List.mem_singleton.mp q]; exact h2
theorem own_all3 {P : Addr → Prop} {a b c : Addr} (h : P a) (h2 : P b) (h3 : P c) : ∀ x ∈ [a, b, c], P x := fun x q => by
  rcases List.mem_cons.mp q with q | q
  · rw [q]; exact h
  · exact own_all2 h2 h3 x q
def own_mir (Z : State) (C : String) (m : Addr) : Prop := ∃ (c : ClassId) (k : Class), Z.vm.findClass C = some c ∧ Z.vm.classes[c]? = some k ∧ k.mirror = some m
theorem own_mir_eval {Z s : State} {C : String} {mr : Addr} {args : Array Value} (hZ : Z.Warmed39 s.vm) (M : own_mir Z C mr) : (Term.mirror C).eval args s none [] s = some (.ref mr) := by
  obtain ⟨c, k, h1, h2, h3⟩ := M
  obtain ⟨k', q1, q2⟩ := hZ.alike.2.2 _ _ h2
  have q3 : s.vm.findClass C = some c := by rw [hZ.alike.findClass]; exact h1
  have q4 : k'.mirror = some mr := by rw [q2]; exact h3
  simp [Term.eval, q3, q1, q4]
section Gcls
variable {p : Program} {l : Launch} {e : Env} {R : Room} {s : State} {m : MethodId} {args : Array Value} {below : List Frame} {meth : Method} {c : Code} {T : State} {locs : List Loc} {cells slots : Nat} {Z : State} {a0 : Array Value} {h : Heap}
theorem own_pdgc : parseMethodDescriptor "()Ljava/lang/Class;" = some ⟨[], some (.object "java/lang/Class")⟩ := by decide +kernel
theorem own_gcls (X : Stand p l e R s m args below meth c T locs cells slots) (hx : p.tables.exec = Jvm.exec) (hZ : Z.Warmed39 s.vm) {own C : String} {index : Nat} (hown : s.vm.findClass own = some m.cls)
    (w1 : (Jvm.Cond.methodLink own index ⟨"java/lang/Object", "getClass", "()Ljava/lang/Class;"⟩).before a0 Z = true) (w2 : (Jvm.Cond.declares ⟨"java/lang/Object", "getClass", "()Ljava/lang/Class;"⟩).before a0 Z = true)
    (w4 : (Jvm.Cond.selects C ⟨"java/lang/Object", "getClass", "()Ljava/lang/Class;"⟩ ⟨"java/lang/Object", "getClass", "()Ljava/lang/Class;"⟩).before a0 Z = true)
    (w5 : (Jvm.Cond.instanceMethod ⟨"java/lang/Object", "getClass", "()Ljava/lang/Class;"⟩).before a0 Z = true) (w6 : (Jvm.Cond.native ⟨"java/lang/Object", "getClass", "()Ljava/lang/Class;"⟩).before a0 Z = true) (eT : T.heap = h) {a : Addr} (E : Exa Z h a C) {mr : Addr} (M : own_mir Z C mr)
    {g : JFrame} (hg : g.method = m) (hsize : g.locals.size = c.maxLocals) {rest : List Value} (hs : g.stack = .ref a :: rest) (hd : decode c.code g.pc = .ok (.invokevirtual index, 3)) (hf : 1 ≤ R.frames) {W : Nat} (hW : 2 * g.monitorRoom + (rest.map fun v => v.category).sum ≤ W) (hl : W + 14 ≤ R.locals) :
    ∃ T', Stand p l e R s m args below meth c T' locs cells slots ∧ T'.heap = h ∧ ∀ target, Steps p.tables e below (T'.setTop { g with pc := g.pc + 3, stack := .ref mr :: rest }) target → Steps p.tables e below (T.setTop g) target := by
  obtain ⟨cB, kB, q1, q2, q3⟩ := isOf hZ eT E
  obtain ⟨cM, kM, m1, m2, m3⟩ := M
  have hcc : cB = cM := by
    have := hZ.alike.findClass C none
    rw [this, m1] at q1
    exact (Option.some.inj q1).symm
  subst hcc
  have hP : ∀ vm₁, s.WarmedH vm₁ → Jvm.Free.NT.GetClass.P (a, cB, kM, mr) #[.ref a] (T.setVm vm₁) := fun vm₁ hv => by
    have hal : Z.vm.Alike (T.setVm vm₁).vm := (wtrans (U := T.setVm vm₁) hZ hv).alike
    exact ⟨rfl, q3, (Jvm.Free.NT.RecordOf.of (U := Z) m2).move hal, m3⟩
  obtain ⟨v, vm1, B, hv1, X', ⟨hB, hval⟩, st⟩ := X.virtualBack hx (y := Jvm.Free.NT.getClassN) (z := Jvm.Free.NT.getClassN) hown (mvT hZ w1) (mvT hZ w2) (notFace_of_selects (args := #[]) (mvT hZ w4)) (mvT hZ w4) (mvT hZ w5) (by decide) (Jvm.Free.NT.GetClass.pays (W := W) (mvT hZ w6) (mvT hZ w5) hf hl) q1 q3 hg hsize (Steps.refl _) (argsL := []) (rest := rest) (lenOf own_pdgc rfl) hs hW hd (fun vm₁ hv => ⟨_, hP vm₁ hv⟩)
  have hvv := hval _ (hP vm1 hv1)
  subst hB
  subst hvv
  exact ⟨_, X', eT, fun target k => st.trans k⟩
end Gcls
def own_cache (Z : State) (ac : Addr) : Prop := ∃ cl : Cell, Arr Z Z.heap ac cl (.object "java/lang/Integer") ∧ cl.slots.size = 256 ∧ ∀ j, j < 256 → ∃ r : Addr, cl.slots[j]? = some (.ref r) ∧ Exa Z Z.heap r "java/lang/Integer"
theorem own_eqI {args : Array Value} {s : State} {t : Term} {k : Int32} (h : (Jvm.Cond.eq t (Term.int k)).value args s none s [] = some true) : t.eval args s none [] s = some (.int k) := by
  have e2 : (Term.int k).eval args s none [] s = some (.int k) := Term.int_eval k
  simp only [Cond.value, e2] at h
  split at h <;> simp_all
theorem own_cache_start {args : Array Value} {s : State} {ac : Addr} {C n d : String} (ev : (Term.static C n d).eval args s none [] s = some (.ref ac)) (h1 : (Jvm.Cond.arrayOf (Term.static C n d) (.object "java/lang/Integer")).value args s none s [] = some true)
    (h2 : (Jvm.Cond.eq (Term.length (Term.static C n d)) (Term.int (256 : Int32))).value args s none s [] = some true) {X : Jvm.Cond} (h3 : (Jvm.Cond.all (Term.static C n d) (Jvm.Cond.and (Jvm.Cond.exactly (Term.elem (Term.static C n d) (Term.index 0)) "java/lang/Integer") X)).value args s none s [] = some true) : own_cache s ac := by
  obtain ⟨cl, A⟩ := Arr.start ev h1
  have hat : s.arrayAt? ac = some cl := Jvm.Free.IntBox.arrayAt_of A.1 A.2.1 A.2.2
  obtain ⟨z1, z2⟩ := Jvm.Free.IntBox.length_fwd (args := args) (Cond.before_iff.mpr h2) ev A.1 A.2.1 A.2.2
  have z3 : cl.slots.size = 256 := by
    have := len_toInt z1
    rw [z2] at this
    have c : ((256 : Int32)).toInt = 256 := by decide
    omega
  refine ⟨cl, A, z3, fun j hj => ?_⟩
  have q := Cond.all_elim ev hat h3 j (by omega)
  obtain ⟨q1, -⟩ := and_e q
  obtain ⟨r, cc, cell, k, e1, e2, e3, e4, e5, e6, e7⟩ := Cond.exactly_spec (show (Jvm.Cond.exactly (Term.elem (Term.static C n d) (Term.index 0)) "java/lang/Integer").holds args s none s [j] = true from by simp [Cond.holds, q1])
  have ej : (Term.index 0).eval args s none [j] s = some (.int j.toInt32) := rfl
  obtain ⟨-, g2⟩ := elem_in e1 (show (Term.static C n d).eval args s none [j] s = some (.ref ac) from ev) ej A.1
  rw [(Jvm.Free.IntBox.place_nonneg j hj).2] at g2
  subst e6
  exact ⟨r, g2, cell, k, e3, e2, e4, e5, e7⟩
theorem own_arv0 {args : Array Value} {s : State} {a : Addr} {t : Term} {ty : FieldType} {dv : Value} (hf : Fit s) (ev : t.eval args s none [] s = some (.ref a)) (h1 : (Jvm.Cond.arrayOf t ty).value args s none s [] = some true)
    (h2 : (Jvm.Cond.eq (Term.length t) (Term.int (0 : Int32))).value args s none s [] = some true) : ∃ k : ClassId, Arv s s.heap a k ty (0 : Int32) [] dv := by
  obtain ⟨cl, A⟩ := Arr.start ev h1
  obtain ⟨z1, z2⟩ := Jvm.Free.IntBox.length_fwd (args := args) (Cond.before_iff.mpr h2) ev A.1 A.2.1 A.2.2
  exact ⟨cl.cls, Arv.start hf A z1 z2 (by decide) (by decide) trivial⟩
theorem own_mask3 (x : Int32) : (x &&& (3 : Int32)) = (0 : Int32) ∨ (x &&& (3 : Int32)) = (1 : Int32) ∨ (x &&& (3 : Int32)) = (2 : Int32) ∨ (x &&& (3 : Int32)) = (3 : Int32) := by
  have e : (x &&& 3).toInt = x.toInt % 2 ^ 2 := Jvm.Kit.i32_mask x 3 (k := 2) (by decide) (by decide)
  have h : (x &&& 3).toInt = 0 ∨ (x &&& 3).toInt = 1 ∨ (x &&& 3).toInt = 2 ∨ (x &&& 3).toInt = 3 := by omega
  rcases h with h | h | h | h
  · exact Or.inl (Int32.toInt_inj.mp h)
  · exact Or.inr (Or.inl (Int32.toInt_inj.mp h))
  · exact Or.inr (Or.inr (Or.inl (Int32.toInt_inj.mp h)))
  · exact Or.inr (Or.inr (Or.inr (Int32.toInt_inj.mp h)))
theorem pn_0 : plainName "java/lang/Integer" = true := by first | (simp [plainName, overriddenIn]; done) | decide +kernel
theorem ef_1 (m : MethodId) (x0 : Int32) : entryFrame m #[(.int x0)] 1 = mkF m 0 #[.val (.int x0)] [] := by first | (simp [entryFrame, mkF, argsToLocals, Value.category]; done) | rfl
theorem d4_0 : decode jdk_33_method_22_code 0 = .ok (.iload_n 0, 1) := by decide +kernel
theorem d4_1 : decode jdk_33_method_22_code 1 = .ok (.bipush (-128), 2) := by decide +kernel
theorem d4_3 : decode jdk_33_method_22_code 3 = .ok (.if_icmp .lt 20, 3) := by decide +kernel
theorem d4_23 : decode jdk_33_method_22_code 23 = .ok (.new 1, 3) := by decide +kernel
theorem d4_26 : decode jdk_33_method_22_code 26 = .ok (.dup, 1) := by decide +kernel
theorem d4_27 : decode jdk_33_method_22_code 27 = .ok (.iload_n 0, 1) := by decide +kernel
theorem d4_28 : decode jdk_33_method_22_code 28 = .ok (.invokespecial 199, 3) := by decide +kernel
theorem d11_0 : decode jdk_33_method_23_code 0 = .ok (.aload_n 0, 1) := by decide +kernel
theorem d11_1 : decode jdk_33_method_23_code 1 = .ok (.invokespecial 202, 3) := by decide +kernel
theorem d12_0 : decode jdk_18_method_1_code 0 = .ok (.aload_n 0, 1) := by decide +kernel
theorem d12_1 : decode jdk_18_method_1_code 1 = .ok (.invokespecial 1, 3) := by decide +kernel
theorem d12_4 : decode jdk_18_method_1_code 4 = .ok (.return_, 1) := by decide +kernel
theorem pn_2 : plainName "java/lang/Number" = true := by first | (simp [plainName, overriddenIn]; done) | decide +kernel
theorem ef_3 (m : MethodId) (x0 : Addr) : entryFrame m #[(.ref x0)] 1 = mkF m 0 #[.val (.ref x0)] [] := by first | (simp [entryFrame, mkF, argsToLocals, Value.category]; done) | rfl
def Q_init12_0 (Z : State) (b4 : Addr) (h0 : Heap) (n0 : Nat) (v : Option Value) (h : Heap) (L : List Loc) : Prop := v = none ∧ Fr n0 L ∧ h = h0
set_option maxRecDepth 65536 in
set_option maxHeartbeats 40000000 in
theorem rm_init12_0 (l : Launch) (Z : State) (a0 : Array Value) (hw : ∀ d ∈ tables_1, d.before a0 Z = true) (ws : List Jvm.Cond) (b4 : Addr) (h0 : Heap) (n0 : Nat) (O0 : Old Z n0 h0) :
    MetFree l (⟨"java/lang/Number", "<init>", "()V"⟩ : MethodName) (head1 (Jvm.Cond.code (⟨"java/lang/Number", "<init>", "()V"⟩ : MethodName) jdk_18_method_1_code 1 none :: ws) ({ frames := 1, cells := 0, slots := 0, locals := 12 } : Room)) (fun a U => a = #[(.ref b4)] ∧ Z.Warmed39 U.vm ∧ U.heap = h0) (fun _ _ _ _ _ => True) (fun _ U o U' => ∃ v L, o = .returned v ∧ Q_init12_0 Z b4 h0 n0 v U'.heap L ∧ FrameEnd U o U' L ({ frames := 1, cells := 0, slots := 0, locals := 12 } : Room).cells ({ frames := 1, cells := 0, slots := 0, locals := 12 } : Room).slots) := by
  refine MetFree.of_bodySF (plainFor_of_name pn_2) hisR ?_
  intro p e s m args below meth c s₁ Bd hml0 hP hK
  have W := fun {d : Jvm.Cond} (i : Nat) (q : tables_1[i]? = some d) => hw d (List.mem_of_getElem? q)
  obtain ⟨rfl, hZ, hh⟩ := hP
  have hx := Bd.exec
  have hby := Bd.bytes
  have hml : c.maxLocals = 1 := hml0
  have hown : s.vm.findClass "java/lang/Number" = some m.cls := findClass_of_methodNamed Bd.named
  have hnm := (name_of_methodNamed Bd.named Bd.method).1
  have X0 : Stand p l e ({ frames := 1, cells := 0, slots := 0, locals := 12 } : Room) s m #[(.ref b4)] below meth c s₁ [] 0 0 := Stand.of_body Bd
  have e0 : s₁.heap = h0 := by rw [← hh, Bd.state]; rfl
  have N0 := Fr.nil n0
  have pre0 : ∀ t, Steps p.tables e below (s₁.setTop (mkF m 0 #[rv b4] [])) t → Steps p.tables e below (s₁.setTop (entryFrame m #[(.ref b4)] 1)) t := fun t k => castTop (ef_3 m b4) k
  have K0 : Keep h0 h0 [] := Keep.refl h0 []
  have pre18 : ∀ t, Steps p.tables e below (s₁.setTop (mkF m 1 #[rv b4] [(.ref b4)])) t → Steps p.tables e below (s₁.setTop (entryFrame m #[(.ref b4)] 1)) t := fun t kt => by
    refine pre0 _ ?_
    show Steps p.tables e below (s₁.setTop (mkF m 0 #[rv b4] [])) _
    refine XS.aloadN X0.here hx rfl (hb hby d12_0) rfl rfl ?_
    exact kt
  obtain ⟨T19, X19, e19, st19⟩ := initO X0 hx hZ hown (W 78 rfl) (W 7 rfl) (W 8 rfl) e0 (g := (mkF m 1 #[rv b4] [(.ref b4)])) rfl (by rw [hml]; rfl) rfl (hb hby d12_1) (by decide) (W := 0) (by show 2 * 0 + _ ≤ _; exact Nat.le_of_eq rfl) (by decide)
  have pre20 : ∀ t, Steps p.tables e below (T19.setTop (mkF m 4 #[rv b4] [])) t → Steps p.tables e below (s₁.setTop (entryFrame m #[(.ref b4)] 1)) t := fun t kt => pre18 _ (st19 _ kt)
  obtain ⟨fs, hr, hrun, hended, hW, hsame⟩ := X19.leave (v := none) (fun _ => rfl)
  refine ⟨_, _, pre20 _ (X19.returnOut hx Bd.returns (hb hby d12_4) hr), hrun, hended, _, _, rfl, ?_, ⟨_, rfl⟩, hW, hsame.mono (by decide) (by decide)⟩
  show Q_init12_0 Z b4 h0 n0 _ T19.heap _
  rw [e19]
  exact ⟨rfl, N0, rfl⟩
theorem pd_4 : parseMethodDescriptor "()V" = some ⟨[], none⟩ := by decide +kernel
theorem d11_4 : decode jdk_33_method_23_code 4 = .ok (.aload_n 0, 1) := by decide +kernel
theorem d11_5 : decode jdk_33_method_23_code 5 = .ok (.iload_n 1, 1) := by decide +kernel
theorem d11_6 : decode jdk_33_method_23_code 6 = .ok (.putfield 205, 3) := by decide +kernel
theorem d11_9 : decode jdk_33_method_23_code 9 = .ok (.return_, 1) := by decide +kernel
theorem ef_5 (m : MethodId) (x0 : Addr) (x1 : Int32) : entryFrame m #[(.ref x0), (.int x1)] 2 = mkF m 0 #[.val (.ref x0), .val (.int x1)] [] := by first | (simp [entryFrame, mkF, argsToLocals, Value.category]; done) | rfl
def Q_init11_0 (Z : State) (b4 : Addr) (pv : Int32) (h0 : Heap) (n0 : Nat) (v : Option Value) (h : Heap) (L : List Loc) : Prop := v = none ∧ Fr n0 L ∧ Keep h0 h [b4] ∧ Old Z n0 h ∧ Exa Z h b4 "java/lang/Integer" ∧ Fld Z h b4 "java/lang/Integer" "value" "I" (.int pv)
set_option maxRecDepth 65536 in
set_option maxHeartbeats 40000000 in
theorem rm_init11_0 (l : Launch) (Z : State) (a0 : Array Value) (hw : ∀ d ∈ tables_1, d.before a0 Z = true) (ws : List Jvm.Cond) (b4 : Addr) (pv : Int32) (h0 : Heap) (n0 : Nat) (O0 : Old Z n0 h0) (g_b4 : n0 ≤ b4) (Fi0 : Exa Z h0 b4 "java/lang/Integer") (Fi1 : Fld Z h0 b4 "java/lang/Integer" "value" "I" (.int (0 : Int32))) :
    MetFree l (⟨"java/lang/Integer", "<init>", "(I)V"⟩ : MethodName) (head1 (Jvm.Cond.code (⟨"java/lang/Integer", "<init>", "(I)V"⟩ : MethodName) jdk_33_method_23_code 2 none :: ws) ({ frames := 2, cells := 0, slots := 0, locals := 24 } : Room)) (fun a U => a = #[(.ref b4), (.int pv)] ∧ Z.Warmed39 U.vm ∧ U.heap = h0) (fun _ _ _ _ _ => True) (fun _ U o U' => ∃ v L, o = .returned v ∧ Q_init11_0 Z b4 pv h0 n0 v U'.heap L ∧ FrameEnd U o U' L ({ frames := 2, cells := 0, slots := 0, locals := 24 } : Room).cells ({ frames := 2, cells := 0, slots := 0, locals := 24 } : Room).slots) := by
  refine MetFree.of_bodySF (plainFor_of_name pn_0) hisR ?_
  intro p e s m args below meth c s₁ Bd hml0 hP hK
  have W := fun {d : Jvm.Cond} (i : Nat) (q : tables_1[i]? = some d) => hw d (List.mem_of_getElem? q)
  obtain ⟨rfl, hZ, hh⟩ := hP
  have hx := Bd.exec
  have hby := Bd.bytes
  have hml : c.maxLocals = 2 := hml0
  have hown : s.vm.findClass "java/lang/Integer" = some m.cls := findClass_of_methodNamed Bd.named
  have hnm := (name_of_methodNamed Bd.named Bd.method).1
  have X0 : Stand p l e ({ frames := 2, cells := 0, slots := 0, locals := 24 } : Room) s m #[(.ref b4), (.int pv)] below meth c s₁ [] 0 0 := Stand.of_body Bd
  have e0 : s₁.heap = h0 := by rw [← hh, Bd.state]; rfl
  have N0 := Fr.nil n0
  have pre0 : ∀ t, Steps p.tables e below (s₁.setTop (mkF m 0 #[rv b4, iv pv] [])) t → Steps p.tables e below (s₁.setTop (entryFrame m #[(.ref b4), (.int pv)] 2)) t := fun t k => castTop (ef_5 m b4 pv) k
  have K0 : Keep h0 h0 [b4] := Keep.refl h0 [b4]
  have pre35 : ∀ t, Steps p.tables e below (s₁.setTop (mkF m 1 #[rv b4, iv pv] [(.ref b4)])) t → Steps p.tables e below (s₁.setTop (entryFrame m #[(.ref b4), (.int pv)] 2)) t := fun t kt => by
    refine pre0 _ ?_
    show Steps p.tables e below (s₁.setTop (mkF m 0 #[rv b4, iv pv] [])) _
    refine XS.aloadN X0.here hx rfl (hb hby d11_0) rfl rfl ?_
    exact kt
  obtain ⟨_, _, ⟨T36, L36, k36, n36⟩, -, X36, ⟨Lc36, hQ36, l36, y36, z36⟩, st36⟩ := X0.specialBack hx (y := (⟨"java/lang/Number", "<init>", "()V"⟩ : MethodName)) rfl hown (mvT hZ (W 72 rfl)) (mvT hZ (W 73 rfl)) (mvT hZ (W 77 rfl)) (by decide) (backOf (W := 0) (rm_init12_0 l Z a0 hw [] b4 h0 n0 O0) hZ (W 77 rfl) (W 76 rfl) (by decide) (by decide)) (g := (mkF m 1 #[rv b4, iv pv] [(.ref b4)])) rfl (by rw [hml]; rfl) (Steps.refl _) (a := b4) (argsL := []) (rest := []) (lenOf pd_4 rfl) rfl (by show 2 * 0 + _ ≤ _; exact Nat.le_of_eq rfl) (hb hby d11_1) (fun _ _ => ⟨rfl, e0, (by decide : 0 + 0 ≤ _), (by decide : 0 + 0 ≤ _)⟩)
  dsimp only [Pt.U, Pt.locs, Pt.cells, Pt.slots] at X36 l36 y36 z36 st36 hQ36
  replace l36 := l36.symm
  replace y36 : 0 = k36 := y36.symm
  replace z36 : 0 = n36 := z36.symm
  subst l36 y36 z36
  obtain ⟨rfl, M36, e36⟩ := hQ36
  have N36 := Fr.app N0 M36
  have pre37 : ∀ t, Steps p.tables e below (T36.setTop (mkF m 4 #[rv b4, iv pv] [])) t → Steps p.tables e below (s₁.setTop (entryFrame m #[(.ref b4), (.int pv)] 2)) t := fun t kt => pre35 _ (st36.trans kt)
  have pre38 : ∀ t, Steps p.tables e below (T36.setTop (mkF m 6 #[rv b4, iv pv] [(.int pv), (.ref b4)])) t → Steps p.tables e below (s₁.setTop (entryFrame m #[(.ref b4), (.int pv)] 2)) t := fun t kt => by
    refine pre37 _ ?_
    show Steps p.tables e below (T36.setTop (mkF m 4 #[rv b4, iv pv] [])) _
    refine XS.aloadN X36.here hx rfl (hb hby d11_4) rfl rfl ?_
    refine XS.iloadN X36.here hx rfl (hb hby d11_5) rfl ?_
    exact kt
  obtain ⟨T39, h39, X39, e39, W39, st39⟩ := putF X36 hx hZ hown (host := "") (Or.inl (W 79 rfl)) Via.refl e36 Fi1 Fi0 (Or.inr ⟨(W 80 rfl), rfl, hnm⟩) (W 67 rfl) (ty := .int) (by decide) rfl rfl (g := (mkF m 6 #[rv b4, iv pv] [(.int pv), (.ref b4)])) rfl rfl (hb hby d11_6)
  have pre40 : ∀ t, Steps p.tables e below (T39.setTop (mkF m 9 #[rv b4, iv pv] [])) t → Steps p.tables e below (s₁.setTop (entryFrame m #[(.ref b4), (.int pv)] 2)) t := fun t kt => pre38 _ (st39 _ kt)
  have N39 := Fr.snoc X39 N36 g_b4
  have O39 := O0.wr W39 g_b4
  have K39 : Keep h0 h39 [b4] := K0.wr W39 (Or.inl (List.mem_of_getElem? (i := 0) rfl))
  have F41 := Fi0.wr W39
  have F42 : Fld Z h39 b4 "java/lang/Integer" "value" "I" (.int pv) := Fi1.same W39
  obtain ⟨fs, hr, hrun, hended, hW, hsame⟩ := X39.leave (v := none) (fun _ => rfl)
  refine ⟨_, _, pre40 _ (X39.returnOut hx Bd.returns (hb hby d11_9) hr), hrun, hended, _, _, rfl, ?_, ⟨_, rfl⟩, hW, hsame.mono (by decide) (by decide)⟩
  show Q_init11_0 Z b4 pv h0 n0 _ T39.heap _
  rw [e39]
  exact ⟨rfl, N39, K39, O39, F41, F42⟩
theorem pd_6 : parseMethodDescriptor "(I)V" = some ⟨[.int], none⟩ := by decide +kernel
theorem d4_31 : decode jdk_33_method_22_code 31 = .ok (.areturn, 1) := by decide +kernel
theorem d4_6 : decode jdk_33_method_22_code 6 = .ok (.iload_n 0, 1) := by decide +kernel
theorem d4_7 : decode jdk_33_method_22_code 7 = .ok (.getstatic 191, 3) := by decide +kernel
theorem d4_10 : decode jdk_33_method_22_code 10 = .ok (.if_icmp .gt 13, 3) := by decide +kernel
theorem d4_13 : decode jdk_33_method_22_code 13 = .ok (.getstatic 195, 3) := by decide +kernel
theorem d4_16 : decode jdk_33_method_22_code 16 = .ok (.iload_n 0, 1) := by decide +kernel
theorem d4_17 : decode jdk_33_method_22_code 17 = .ok (.sipush 128, 3) := by decide +kernel
theorem d4_20 : decode jdk_33_method_22_code 20 = .ok (.iadd, 1) := by decide +kernel
theorem d4_21 : decode jdk_33_method_22_code 21 = .ok (.aaload, 1) := by decide +kernel
theorem d4_22 : decode jdk_33_method_22_code 22 = .ok (.areturn, 1) := by decide +kernel
def Q_valueOf (Z : State) (pv : Int32) (ac : Addr) (h0 : Heap) (n0 : Nat) (v : Option Value) (h : Heap) (L : List Loc) : Prop := ∃ (r : Addr), v = some (.ref r) ∧ Fr n0 L ∧ Keep h0 h [] ∧ Old Z n0 h ∧ Exa Z h r "java/lang/Integer"
set_option maxRecDepth 65536 in
set_option maxHeartbeats 40000000 in
theorem rm_valueOf (l : Launch) (Z : State) (a0 : Array Value) (hw : ∀ d ∈ tables_1, d.before a0 Z = true) (ws : List Jvm.Cond) (pv : Int32) (ac : Addr) (h0 : Heap) (n0 : Nat) (O0 : Old Z n0 h0) (G0 : Sta Z Z.heap "java/lang/Integer$IntegerCache" "high" "I" (.int (127 : Int32))) (G1 : Sta Z Z.heap "java/lang/Integer$IntegerCache" "cache" "[Ljava/lang/Integer;" (.ref ac)) (G2 : own_cache Z ac) :
    MetFree l (⟨"java/lang/Integer", "valueOf", "(I)Ljava/lang/Integer;"⟩ : MethodName) (head1 (Jvm.Cond.code (⟨"java/lang/Integer", "valueOf", "(I)Ljava/lang/Integer;"⟩ : MethodName) jdk_33_method_22_code 1 (some (.object "java/lang/Integer")) :: ws) ({ frames := 3, cells := 1, slots := 1, locals := 38 } : Room)) (fun a U => a = #[(.int pv)] ∧ Z.Warmed39 U.vm ∧ U.heap = h0) (fun _ _ _ _ _ => True) (fun _ U o U' => ∃ v L, o = .returned v ∧ Q_valueOf Z pv ac h0 n0 v U'.heap L ∧ FrameEnd U o U' L ({ frames := 3, cells := 1, slots := 1, locals := 38 } : Room).cells ({ frames := 3, cells := 1, slots := 1, locals := 38 } : Room).slots) := by
  refine MetFree.of_bodySF (plainFor_of_name pn_0) hisR ?_
  intro p e s m args below meth c s₁ Bd hml0 hP hK
  have W := fun {d : Jvm.Cond} (i : Nat) (q : tables_1[i]? = some d) => hw d (List.mem_of_getElem? q)
  obtain ⟨rfl, hZ, hh⟩ := hP
  have hx := Bd.exec
  have hby := Bd.bytes
  have hml : c.maxLocals = 1 := hml0
  have hown : s.vm.findClass "java/lang/Integer" = some m.cls := findClass_of_methodNamed Bd.named
  have hnm := (name_of_methodNamed Bd.named Bd.method).1
  have X0 : Stand p l e ({ frames := 3, cells := 1, slots := 1, locals := 38 } : Room) s m #[(.int pv)] below meth c s₁ [] 0 0 := Stand.of_body Bd
  have e0 : s₁.heap = h0 := by rw [← hh, Bd.state]; rfl
  have N0 := Fr.nil n0
  have pre0 : ∀ t, Steps p.tables e below (s₁.setTop (mkF m 0 #[iv pv] [])) t → Steps p.tables e below (s₁.setTop (entryFrame m #[(.int pv)] 1)) t := fun t k => castTop (ef_1 m pv) k
  have K0 : Keep h0 h0 [] := Keep.refl h0 []
  have pre1 : ∀ t, Steps p.tables e below (s₁.setTop (mkF m 3 #[iv pv] [(.int (-128 : Int32)), (.int pv)])) t → Steps p.tables e below (s₁.setTop (entryFrame m #[(.int pv)] 1)) t := fun t kt => by
    refine pre0 _ ?_
    show Steps p.tables e below (s₁.setTop (mkF m 0 #[iv pv] [])) _
    refine XS.iloadN X0.here hx rfl (hb hby d4_0) rfl ?_
    refine XS.bipush X0.here hx rfl (hb hby d4_1) ?_
    exact kt
  by_cases hc2 : pv < (-128 : Int32)
  · have pre3 : ∀ t, Steps p.tables e below (s₁.setTop (mkF m 23 #[iv pv] [])) t → Steps p.tables e below (s₁.setTop (entryFrame m #[(.int pv)] 1)) t := fun t kt => by
      refine pre1 _ ?_
      show Steps p.tables e below (s₁.setTop (mkF m 3 #[iv pv] [(.int (-128 : Int32)), (.int pv)])) _
      refine XS.icmpYes X0.here hx rfl (pc0 := 3) (pc' := 23) rfl (hb hby d4_3) rfl (XT.ii_lt_t hc2) (by decide) (by decide) ?_
      exact kt
    obtain ⟨T4, h4, X4, e4, E4, A4, D4, -, st4⟩ := newO X0 hx hZ hown (W 66 rfl) (W 67 rfl) (W 22 rfl) e0 (g := (mkF m 23 #[iv pv] [])) rfl (hb hby d4_23) (by decide) (by decide)
    obtain ⟨b4, g4⟩ : ∃ z, z = h0.size := ⟨_, rfl⟩
    rw [← g4] at A4 D4 st4
    have pre5 : ∀ t, Steps p.tables e below (T4.setTop (mkF m 26 #[iv pv] [(.ref b4)])) t → Steps p.tables e below (s₁.setTop (entryFrame m #[(.int pv)] 1)) t := fun t kt => pre3 _ (st4 _ kt)
    have O4 := O0.ext E4
    have K4 : Keep h0 h4 [] := K0.ext E4
    have g_b4 : n0 ≤ b4 := Nat.le_trans (Nat.le_trans (Nat.le_of_eq O0.1.symm) O0.2.1) (Nat.le_of_eq g4.symm)
    have sz_b4 : h0.size ≤ b4 := Nat.le_trans K0.1 (Nat.le_of_eq g4.symm)
    have F6 : Exa Z h4 b4 "java/lang/Integer" := A4
    have F7 : Fld Z h4 b4 "java/lang/Integer" "value" "I" (.int (0 : Int32)) := D4 (Or.inr (W 80 rfl)) (ty := .int) (by decide)
    have pre8 : ∀ t, Steps p.tables e below (T4.setTop (mkF m 28 #[iv pv] [(.int pv), (.ref b4), (.ref b4)])) t → Steps p.tables e below (s₁.setTop (entryFrame m #[(.int pv)] 1)) t := fun t kt => by
      refine pre5 _ ?_
      show Steps p.tables e below (T4.setTop (mkF m 26 #[iv pv] [(.ref b4)])) _
      refine XS.dup X4.here hx rfl (hb hby d4_26) rfl rfl ?_
      refine XS.iloadN X4.here hx rfl (hb hby d4_27) rfl ?_
      exact kt
    obtain ⟨_, _, ⟨T9, L9, k9, n9⟩, -, X9, ⟨Lc9, hQ9, l9, y9, z9⟩, st9⟩ := X4.specialBack hx (y := (⟨"java/lang/Integer", "<init>", "(I)V"⟩ : MethodName)) rfl hown (mvT hZ (W 68 rfl)) (mvT hZ (W 69 rfl)) (mvT hZ (W 71 rfl)) (by decide) (backOf (W := 1) (rm_init11_0 l Z a0 hw [] b4 pv h4 n0 O4 g_b4 F6 F7) hZ (W 71 rfl) (W 22 rfl) (by decide) (by decide)) (g := (mkF m 28 #[iv pv] [(.int pv), (.ref b4), (.ref b4)])) rfl (by rw [hml]; rfl) (Steps.refl _) (a := b4) (argsL := [(.int pv)]) (rest := [(.ref b4)]) (lenOf pd_6 rfl) rfl (by show 2 * 0 + _ ≤ _; exact Nat.le_of_eq rfl) (hb hby d4_28) (fun _ _ => ⟨rfl, e4, (by decide : 1 + 0 ≤ _), (by decide : 1 + 0 ≤ _)⟩)
    dsimp only [Pt.U, Pt.locs, Pt.cells, Pt.slots] at X9 l9 y9 z9 st9 hQ9
    replace l9 := l9.symm
    replace y9 : 1 = k9 := y9.symm
    replace z9 : 1 = n9 := z9.symm
    subst l9 y9 z9
    obtain ⟨rfl, M9, Kc9, O9, J9_0, J9_1⟩ := hQ9
    obtain ⟨h9, e9⟩ : ∃ z, T9.heap = z := ⟨_, rfl⟩
    rw [e9] at Kc9 O9 J9_0 J9_1
    have N9 := Fr.app N0 M9
    have K9 : Keep h0 h9 [] := K4.trans Kc9 (own_all1 (Or.inr sz_b4))
    have pre43 : ∀ t, Steps p.tables e below (T9.setTop (mkF m 31 #[iv pv] [(.ref b4)])) t → Steps p.tables e below (s₁.setTop (entryFrame m #[(.int pv)] 1)) t := fun t kt => pre8 _ (st9.trans kt)
    obtain ⟨fs, hr, hrun, hended, hW, hsame⟩ := X9.leave (v := some (.ref b4)) (fun h => by rw [Bd.returns] at h; cases h)
    refine ⟨_, _, pre43 _ (X9.areturnOut hx rfl Bd.returns rfl (hb hby d4_31) hr), hrun, hended, _, _, rfl, ?_, ⟨_, rfl⟩, hW, hsame.mono (by decide) (by decide)⟩
    show Q_valueOf Z pv ac h0 n0 _ T9.heap _
    rw [e9]
    exact ⟨b4, rfl, N9, K9, O9, J9_0⟩
  · have pre44 : ∀ t, Steps p.tables e below (s₁.setTop (mkF m 7 #[iv pv] [(.int pv)])) t → Steps p.tables e below (s₁.setTop (entryFrame m #[(.int pv)] 1)) t := fun t kt => by
      refine pre1 _ ?_
      show Steps p.tables e below (s₁.setTop (mkF m 3 #[iv pv] [(.int (-128 : Int32)), (.int pv)])) _
      refine XS.icmpNo X0.here hx rfl (hb hby d4_3) rfl (XT.ii_lt_f hc2) ?_
      refine XS.iloadN X0.here hx rfl (hb hby d4_6) rfl ?_
      exact kt
    obtain ⟨T45, X45, e45, st45⟩ := getS2 X0 hx hZ hown (host := "") (Or.inl (W 24 rfl)) Via.refl e0 (G0.ext O0.2) (g := (mkF m 7 #[iv pv] [(.int pv)])) rfl (hb hby d4_7)
    have pre46 : ∀ t, Steps p.tables e below (T45.setTop (mkF m 10 #[iv pv] [(.int (127 : Int32)), (.int pv)])) t → Steps p.tables e below (s₁.setTop (entryFrame m #[(.int pv)] 1)) t := fun t kt => pre44 _ (st45 _ kt)
    by_cases hc47 : (127 : Int32) < pv
    · have pre48 : ∀ t, Steps p.tables e below (T45.setTop (mkF m 23 #[iv pv] [])) t → Steps p.tables e below (s₁.setTop (entryFrame m #[(.int pv)] 1)) t := fun t kt => by
        refine pre46 _ ?_
        show Steps p.tables e below (T45.setTop (mkF m 10 #[iv pv] [(.int (127 : Int32)), (.int pv)])) _
        refine XS.icmpYes X45.here hx rfl (pc0 := 10) (pc' := 23) rfl (hb hby d4_10) rfl (XT.ii_gt_t hc47) (by decide) (by decide) ?_
        exact kt
      obtain ⟨T49, h49, X49, e49, E49, A49, D49, -, st49⟩ := newO X45 hx hZ hown (W 66 rfl) (W 67 rfl) (W 22 rfl) e45 (g := (mkF m 23 #[iv pv] [])) rfl (hb hby d4_23) (by decide) (by decide)
      obtain ⟨b49, g49⟩ : ∃ z, z = h0.size := ⟨_, rfl⟩
      rw [← g49] at A49 D49 st49
      have pre50 : ∀ t, Steps p.tables e below (T49.setTop (mkF m 26 #[iv pv] [(.ref b49)])) t → Steps p.tables e below (s₁.setTop (entryFrame m #[(.int pv)] 1)) t := fun t kt => pre48 _ (st49 _ kt)
      have O49 := O0.ext E49
      have K49 : Keep h0 h49 [] := K0.ext E49
      have g_b49 : n0 ≤ b49 := Nat.le_trans (Nat.le_trans (Nat.le_of_eq O0.1.symm) O0.2.1) (Nat.le_of_eq g49.symm)
      have sz_b49 : h0.size ≤ b49 := Nat.le_trans K0.1 (Nat.le_of_eq g49.symm)
      have F51 : Exa Z h49 b49 "java/lang/Integer" := A49
      have F52 : Fld Z h49 b49 "java/lang/Integer" "value" "I" (.int (0 : Int32)) := D49 (Or.inr (W 80 rfl)) (ty := .int) (by decide)
      have pre53 : ∀ t, Steps p.tables e below (T49.setTop (mkF m 28 #[iv pv] [(.int pv), (.ref b49), (.ref b49)])) t → Steps p.tables e below (s₁.setTop (entryFrame m #[(.int pv)] 1)) t := fun t kt => by
        refine pre50 _ ?_
        show Steps p.tables e below (T49.setTop (mkF m 26 #[iv pv] [(.ref b49)])) _
        refine XS.dup X49.here hx rfl (hb hby d4_26) rfl rfl ?_
        refine XS.iloadN X49.here hx rfl (hb hby d4_27) rfl ?_
        exact kt
      obtain ⟨_, _, ⟨T54, L54, k54, n54⟩, -, X54, ⟨Lc54, hQ54, l54, y54, z54⟩, st54⟩ := X49.specialBack hx (y := (⟨"java/lang/Integer", "<init>", "(I)V"⟩ : MethodName)) rfl hown (mvT hZ (W 68 rfl)) (mvT hZ (W 69 rfl)) (mvT hZ (W 71 rfl)) (by decide) (backOf (W := 1) (rm_init11_0 l Z a0 hw [] b49 pv h49 n0 O49 g_b49 F51 F52) hZ (W 71 rfl) (W 22 rfl) (by decide) (by decide)) (g := (mkF m 28 #[iv pv] [(.int pv), (.ref b49), (.ref b49)])) rfl (by rw [hml]; rfl) (Steps.refl _) (a := b49) (argsL := [(.int pv)]) (rest := [(.ref b49)]) (lenOf pd_6 rfl) rfl (by show 2 * 0 + _ ≤ _; exact Nat.le_of_eq rfl) (hb hby d4_28) (fun _ _ => ⟨rfl, e49, (by decide : 1 + 0 ≤ _), (by decide : 1 + 0 ≤ _)⟩)
      dsimp only [Pt.U, Pt.locs, Pt.cells, Pt.slots] at X54 l54 y54 z54 st54 hQ54
      replace l54 := l54.symm
      replace y54 : 1 = k54 := y54.symm
      replace z54 : 1 = n54 := z54.symm
      subst l54 y54 z54
      obtain ⟨rfl, M54, Kc54, O54, J54_0, J54_1⟩ := hQ54
      obtain ⟨h54, e54⟩ : ∃ z, T54.heap = z := ⟨_, rfl⟩
      rw [e54] at Kc54 O54 J54_0 J54_1
      have N54 := Fr.app N0 M54
      have K54 : Keep h0 h54 [] := K49.trans Kc54 (own_all1 (Or.inr sz_b49))
      have pre55 : ∀ t, Steps p.tables e below (T54.setTop (mkF m 31 #[iv pv] [(.ref b49)])) t → Steps p.tables e below (s₁.setTop (entryFrame m #[(.int pv)] 1)) t := fun t kt => pre53 _ (st54.trans kt)
      obtain ⟨fs, hr, hrun, hended, hW, hsame⟩ := X54.leave (v := some (.ref b49)) (fun h => by rw [Bd.returns] at h; cases h)
      refine ⟨_, _, pre55 _ (X54.areturnOut hx rfl Bd.returns rfl (hb hby d4_31) hr), hrun, hended, _, _, rfl, ?_, ⟨_, rfl⟩, hW, hsame.mono (by decide) (by decide)⟩
      show Q_valueOf Z pv ac h0 n0 _ T54.heap _
      rw [e54]
      exact ⟨b49, rfl, N54, K54, O54, J54_0⟩
    · have pre56 : ∀ t, Steps p.tables e below (T45.setTop (mkF m 13 #[iv pv] [])) t → Steps p.tables e below (s₁.setTop (entryFrame m #[(.int pv)] 1)) t := fun t kt => by
        refine pre46 _ ?_
        show Steps p.tables e below (T45.setTop (mkF m 10 #[iv pv] [(.int (127 : Int32)), (.int pv)])) _
        refine XS.icmpNo X45.here hx rfl (hb hby d4_10) rfl (XT.ii_gt_f hc47) ?_
        exact kt
      obtain ⟨T57, X57, e57, st57⟩ := getS2 X45 hx hZ hown (host := "") (Or.inl (W 26 rfl)) Via.refl e45 (G1.ext O0.2) (g := (mkF m 13 #[iv pv] [])) rfl (hb hby d4_13)
      have pre58 : ∀ t, Steps p.tables e below (T57.setTop (mkF m 16 #[iv pv] [(.ref ac)])) t → Steps p.tables e below (s₁.setTop (entryFrame m #[(.int pv)] 1)) t := fun t kt => pre56 _ (st57 _ kt)
      have pre59 : ∀ t, Steps p.tables e below (T57.setTop (mkF m 21 #[iv pv] [(.int (pv + (128 : Int32))), (.ref ac)])) t → Steps p.tables e below (s₁.setTop (entryFrame m #[(.int pv)] 1)) t := fun t kt => by
        refine pre58 _ ?_
        show Steps p.tables e below (T57.setTop (mkF m 16 #[iv pv] [(.ref ac)])) _
        refine XS.iloadN X57.here hx rfl (hb hby d4_16) rfl ?_
        refine XS.sipush X57.here hx rfl (hb hby d4_17) ?_
        refine XS.iadd X57.here hx rfl (hb hby d4_20) rfl ?_
        exact kt
      obtain ⟨c60, Ar60, z60, H60⟩ := id G2
      have pl60 := Jvm.Free.IntBox.place_ok pv hc2 hc47
      obtain ⟨r60, t60, E60⟩ := H60 _ pl60.2
      have A60 := Ar60.ext O0.2
      have pre61 : ∀ t, Steps p.tables e below (T57.setTop (mkF m 22 #[iv pv] [(.ref r60)])) t → Steps p.tables e below (s₁.setTop (entryFrame m #[(.int pv)] 1)) t := fun t kt => by
        refine pre59 _ ?_
        show Steps p.tables e below (T57.setTop (mkF m 21 #[iv pv] [(.int (pv + (128 : Int32))), (.ref ac)])) _
        refine X57.aaload hx (j := (pv + (128 : Int32))) (v := (.ref r60)) (by rw [e57]; exact A60.1) (State.isArrayOf_alike hZ.alike A60.2.1) rfl A60.2.2 (by rw [z60]; exact pl60.1) t60 (g := (mkF m 21 #[iv pv] [(.int (pv + (128 : Int32))), (.ref ac)])) rfl rfl (hb hby d4_21) _ ?_
        exact kt
      obtain ⟨fs, hr, hrun, hended, hW, hsame⟩ := X57.leave (v := some (.ref r60)) (fun h => by rw [Bd.returns] at h; cases h)
      refine ⟨_, _, pre61 _ (X57.areturnOut hx rfl Bd.returns rfl (hb hby d4_22) hr), hrun, hended, _, _, rfl, ?_, ⟨_, rfl⟩, hW, hsame.mono (by decide) (by decide)⟩
      show Q_valueOf Z pv ac h0 n0 _ T57.heap _
      rw [e57]
      exact ⟨r60, rfl, N0, K0, O0, (E60.ext O0.2)⟩
theorem pn_7 : plainName "com/example/homethread/homethread/ItemsIsEmptyPinLaw" = true := by first | (simp [plainName, overriddenIn]; done) | decide +kernel
theorem ef_8 (m : MethodId) (x0 : Int32) (x1 : Int32) (x2 : Int32) (x3 : Int32) : entryFrame m #[(.int x0), (.int x1), (.int x2), (.int x3)] maxLocals = mkF m 0 #[.val (.int x0), .val (.int x1), .val (.int x2), .val (.int x3), .unset, .unset, .unset, .unset, .unset, .unset, .unset] [] := by first | (simp [entryFrame, mkF, argsToLocals, Value.category, maxLocals]; done) | rfl
theorem d1_0 : decode prog_9_method_1_code 0 = .ok (.aload_n 0, 1) := by decide +kernel
theorem d1_1 : decode prog_9_method_1_code 1 = .ok (.invokespecial 1, 3) := by decide +kernel
theorem d1_4 : decode prog_9_method_1_code 4 = .ok (.aload_n 0, 1) := by decide +kernel
theorem d1_5 : decode prog_9_method_1_code 5 = .ok (.bipush 16, 2) := by decide +kernel
theorem d1_7 : decode prog_9_method_1_code 7 = .ok (.anewarray 2, 3) := by decide +kernel
theorem d1_10 : decode prog_9_method_1_code 10 = .ok (.putfield 9, 3) := by decide +kernel
theorem d1_13 : decode prog_9_method_1_code 13 = .ok (.return_, 1) := by decide +kernel
theorem pn_9 : plainName "com/example/homethread/homethread/Items" = true := by first | (simp [plainName, overriddenIn]; done) | decide +kernel
theorem ef_10 (m : MethodId) (x0 : Addr) : entryFrame m #[(.ref x0)] 1 = mkF m 0 #[.val (.ref x0)] [] := by first | (simp [entryFrame, mkF, argsToLocals, Value.category]; done) | rfl
def Q_init1_0 (Z : State) (b62 : Addr) (h0 : Heap) (n0 : Nat) (v : Option Value) (h : Heap) (L : List Loc) : Prop := ∃ (b109 : Addr) (k109 : ClassId), v = none ∧ Fr n0 L ∧ Keep h0 h [b62] ∧ Old Z n0 h ∧ Exa Z h b62 "com/example/homethread/homethread/Items" ∧ Fld Z h b62 "com/example/homethread/homethread/Items" "size" "I" (.int (0 : Int32)) ∧ Arv Z h b109 k109 (.object "java/lang/Object") (16 : Int32) [.null, .null, .null, .null, .null, .null, .null, .null, .null, .null, .null, .null, .null, .null, .null, .null] .null ∧ Ovr Z k109 "java/lang/Object" ∧ Exa Z h b109 "[Ljava/lang/Object;" ∧ Fld Z h b62 "com/example/homethread/homethread/Items" "slots" "[Ljava/lang/Object;" (.ref b109) ∧ (h0.size ≤ b109)
set_option maxRecDepth 65536 in
set_option maxHeartbeats 40000000 in
theorem rm_init1_0 (l : Launch) (Z : State) (a0 : Array Value) (hw : ∀ d ∈ tables_1, d.before a0 Z = true) (ws : List Jvm.Cond) (b62 : Addr) (h0 : Heap) (n0 : Nat) (O0 : Old Z n0 h0) (g_b62 : n0 ≤ b62) (Fi0 : Exa Z h0 b62 "com/example/homethread/homethread/Items") (Fi1 : Fld Z h0 b62 "com/example/homethread/homethread/Items" "slots" "[Ljava/lang/Object;" .null) (Fi2 : Fld Z h0 b62 "com/example/homethread/homethread/Items" "size" "I" (.int (0 : Int32))) :
    MetFree l (⟨"com/example/homethread/homethread/Items", "<init>", "()V"⟩ : MethodName) (head1 (Jvm.Cond.code (⟨"com/example/homethread/homethread/Items", "<init>", "()V"⟩ : MethodName) prog_9_method_1_code 1 none :: ws) ({ frames := 1, cells := 1, slots := 16, locals := 12 } : Room)) (fun a U => a = #[(.ref b62)] ∧ Z.Warmed39 U.vm ∧ U.heap = h0) (fun _ _ _ _ _ => True) (fun _ U o U' => ∃ v L, o = .returned v ∧ Q_init1_0 Z b62 h0 n0 v U'.heap L ∧ FrameEnd U o U' L ({ frames := 1, cells := 1, slots := 16, locals := 12 } : Room).cells ({ frames := 1, cells := 1, slots := 16, locals := 12 } : Room).slots) := by
  refine MetFree.of_bodySF (plainFor_of_name pn_9) hisR ?_
  intro p e s m args below meth c s₁ Bd hml0 hP hK
  have W := fun {d : Jvm.Cond} (i : Nat) (q : tables_1[i]? = some d) => hw d (List.mem_of_getElem? q)
  obtain ⟨rfl, hZ, hh⟩ := hP
  have hx := Bd.exec
  have hby := Bd.bytes
  have hml : c.maxLocals = 1 := hml0
  have hown : s.vm.findClass "com/example/homethread/homethread/Items" = some m.cls := findClass_of_methodNamed Bd.named
  have hnm := (name_of_methodNamed Bd.named Bd.method).1
  have X0 : Stand p l e ({ frames := 1, cells := 1, slots := 16, locals := 12 } : Room) s m #[(.ref b62)] below meth c s₁ [] 0 0 := Stand.of_body Bd
  have e0 : s₁.heap = h0 := by rw [← hh, Bd.state]; rfl
  have N0 := Fr.nil n0
  have pre0 : ∀ t, Steps p.tables e below (s₁.setTop (mkF m 0 #[rv b62] [])) t → Steps p.tables e below (s₁.setTop (entryFrame m #[(.ref b62)] 1)) t := fun t k => castTop (ef_10 m b62) k
  have K0 : Keep h0 h0 [b62] := Keep.refl h0 [b62]
  have pre105 : ∀ t, Steps p.tables e below (s₁.setTop (mkF m 1 #[rv b62] [(.ref b62)])) t → Steps p.tables e below (s₁.setTop (entryFrame m #[(.ref b62)] 1)) t := fun t kt => by
    refine pre0 _ ?_
    show Steps p.tables e below (s₁.setTop (mkF m 0 #[rv b62] [])) _
    refine XS.aloadN X0.here hx rfl (hb hby d1_0) rfl rfl ?_
    exact kt
  obtain ⟨T106, X106, e106, st106⟩ := initO X0 hx hZ hown (W 6 rfl) (W 7 rfl) (W 8 rfl) e0 (g := (mkF m 1 #[rv b62] [(.ref b62)])) rfl (by rw [hml]; rfl) rfl (hb hby d1_1) (by decide) (W := 0) (by show 2 * 0 + _ ≤ _; exact Nat.le_of_eq rfl) (by decide)
  have pre107 : ∀ t, Steps p.tables e below (T106.setTop (mkF m 4 #[rv b62] [])) t → Steps p.tables e below (s₁.setTop (entryFrame m #[(.ref b62)] 1)) t := fun t kt => pre105 _ (st106 _ kt)
  have pre108 : ∀ t, Steps p.tables e below (T106.setTop (mkF m 7 #[rv b62] [(.int (16 : Int32)), (.ref b62)])) t → Steps p.tables e below (s₁.setTop (entryFrame m #[(.ref b62)] 1)) t := fun t kt => by
    refine pre107 _ ?_
    show Steps p.tables e below (T106.setTop (mkF m 4 #[rv b62] [])) _
    refine XS.aloadN X106.here hx rfl (hb hby d1_4) rfl rfl ?_
    refine XS.bipush X106.here hx rfl (hb hby d1_5) ?_
    exact kt
  obtain ⟨T109, h109, k109, X109, e109, E109, A109, B109, V109, st109⟩ := newRE X106 hx hZ hown (W 9 rfl) (W 10 rfl) e106 (g := (mkF m 7 #[rv b62] [(.int (16 : Int32)), (.ref b62)])) rfl (hb hby d1_7) rfl (by decide) (cap := 16) (by decide) (by decide) (by decide) (by decide) (ad := "[Ljava/lang/Object;") (by decide)
  obtain ⟨b109, g109⟩ : ∃ z, z = h0.size := ⟨_, rfl⟩
  rw [← g109] at A109 B109 st109
  have pre110 : ∀ t, Steps p.tables e below (T109.setTop (mkF m 10 #[rv b62] [(.ref b109), (.ref b62)])) t → Steps p.tables e below (s₁.setTop (entryFrame m #[(.ref b62)] 1)) t := fun t kt => pre108 _ (st109 _ kt)
  have O109 := O0.ext E109
  have K109 : Keep h0 h109 [b62] := K0.ext E109
  have F111 := Fi0.ext E109
  have F112 := Fi1.ext E109
  have F113 := Fi2.ext E109
  have g_b109 : n0 ≤ b109 := Nat.le_trans (Nat.le_trans (Nat.le_of_eq O0.1.symm) O0.2.1) (Nat.le_of_eq g109.symm)
  have sz_b109 : h0.size ≤ b109 := Nat.le_trans K0.1 (Nat.le_of_eq g109.symm)
  have ne_b62_b109 : b62 ≠ b109 := Nat.ne_of_lt (Nat.lt_of_lt_of_le Fi0.lt (Nat.le_of_eq g109.symm))
  have F114 : Arv Z h109 b109 k109 (.object "java/lang/Object") (16 : Int32) [.null, .null, .null, .null, .null, .null, .null, .null, .null, .null, .null, .null, .null, .null, .null, .null] .null := (Arv.new A109 (by decide)).pad (pad_rep [] .null 16)
  have F115 : Exa Z h109 b109 "[Ljava/lang/Object;" := B109
  obtain ⟨T116, h116, X116, e116, W116, st116⟩ := putF X109 hx hZ hown (host := "") (Or.inl (W 11 rfl)) Via.refl e109 F112 F111 (Or.inl (W 12 rfl)) (W 1 rfl) (ty := (.array (.object "java/lang/Object"))) (by decide) rfl rfl (g := (mkF m 10 #[rv b62] [(.ref b109), (.ref b62)])) rfl rfl (hb hby d1_10)
  have pre117 : ∀ t, Steps p.tables e below (T116.setTop (mkF m 13 #[rv b62] [])) t → Steps p.tables e below (s₁.setTop (entryFrame m #[(.ref b62)] 1)) t := fun t kt => pre110 _ (st116 _ kt)
  have N116 := Fr.snoc X116 N0 g_b62
  have O116 := O109.wr W116 g_b62
  have K116 : Keep h0 h116 [b62] := K109.wr W116 (Or.inl (List.mem_of_getElem? (i := 0) rfl))
  have F118 := F111.wr W116
  have F119 := F113.other W116 (Or.inr (slot_ne (Or.inl (W 19 rfl)) (Or.inl (W 12 rfl)) (by decide) (t := .int) (t' := (.array (.object "java/lang/Object"))) (by decide) (by decide)))
  have F120 := F114.other W116 (fun q => ne_b62_b109 q.symm)
  have F121 := F115.wr W116
  have F122 : Fld Z h116 b62 "com/example/homethread/homethread/Items" "slots" "[Ljava/lang/Object;" (.ref b109) := F112.same W116
  obtain ⟨fs, hr, hrun, hended, hW, hsame⟩ := X116.leave (v := none) (fun _ => rfl)
  refine ⟨_, _, pre117 _ (X116.returnOut hx Bd.returns (hb hby d1_13) hr), hrun, hended, _, _, rfl, ?_, ⟨_, rfl⟩, hW, hsame.mono (by decide) (by decide)⟩
  show Q_init1_0 Z b62 h0 n0 _ T116.heap _
  rw [e116]
  exact ⟨b109, k109, rfl, N116, K116, O116, F118, F119, F120, V109, F121, F122, sz_b109⟩
theorem d3_0 : decode prog_9_method_6_code 0 = .ok (.aload_n 0, 1) := by decide +kernel
theorem d3_1 : decode prog_9_method_6_code 1 = .ok (.getfield 82, 3) := by decide +kernel
theorem d3_4 : decode prog_9_method_6_code 4 = .ok (.ifCond .ne 7, 3) := by decide +kernel
theorem d3_7 : decode prog_9_method_6_code 7 = .ok (.iconst 1, 1) := by decide +kernel
theorem d3_8 : decode prog_9_method_6_code 8 = .ok (.goto 4, 3) := by decide +kernel
theorem d3_12 : decode prog_9_method_6_code 12 = .ok (.ireturn, 1) := by decide +kernel
theorem ef_11 (m : MethodId) (x0 : Addr) : entryFrame m #[(.ref x0)] 1 = mkF m 0 #[.val (.ref x0)] [] := by first | (simp [entryFrame, mkF, argsToLocals, Value.category]; done) | rfl
def Q_isEmpty3_0 (Z : State) (b62 : Addr) (h0 : Heap) (n0 : Nat) (v : Option Value) (h : Heap) (L : List Loc) : Prop := v = some (.int (1 : Int32)) ∧ Fr n0 L ∧ h = h0
set_option maxRecDepth 65536 in
set_option maxHeartbeats 40000000 in
theorem rm_isEmpty3_0 (l : Launch) (Z : State) (a0 : Array Value) (hw : ∀ d ∈ tables_1, d.before a0 Z = true) (ws : List Jvm.Cond) (b62 : Addr) (h0 : Heap) (n0 : Nat) (O0 : Old Z n0 h0) (Fi0 : Fld Z h0 b62 "com/example/homethread/homethread/Items" "size" "I" (.int (0 : Int32))) :
    MetFree l (⟨"com/example/homethread/homethread/Items", "isEmpty", "()Z"⟩ : MethodName) (head1 (Jvm.Cond.code (⟨"com/example/homethread/homethread/Items", "isEmpty", "()Z"⟩ : MethodName) prog_9_method_6_code 1 (some .boolean) :: ws) ({ frames := 0, cells := 0, slots := 0, locals := 0 } : Room)) (fun a U => a = #[(.ref b62)] ∧ Z.Warmed39 U.vm ∧ U.heap = h0) (fun _ _ _ _ _ => True) (fun _ U o U' => ∃ v L, o = .returned v ∧ Q_isEmpty3_0 Z b62 h0 n0 v U'.heap L ∧ FrameEnd U o U' L ({ frames := 0, cells := 0, slots := 0, locals := 0 } : Room).cells ({ frames := 0, cells := 0, slots := 0, locals := 0 } : Room).slots) := by
  refine MetFree.of_bodySF (plainFor_of_name pn_9) hisR ?_
  intro p e s m args below meth c s₁ Bd hml0 hP hK
  have W := fun {d : Jvm.Cond} (i : Nat) (q : tables_1[i]? = some d) => hw d (List.mem_of_getElem? q)
  obtain ⟨rfl, hZ, hh⟩ := hP
  have hx := Bd.exec
  have hby := Bd.bytes
  have hml : c.maxLocals = 1 := hml0
  have hown : s.vm.findClass "com/example/homethread/homethread/Items" = some m.cls := findClass_of_methodNamed Bd.named
  have hnm := (name_of_methodNamed Bd.named Bd.method).1
  have X0 : Stand p l e ({ frames := 0, cells := 0, slots := 0, locals := 0 } : Room) s m #[(.ref b62)] below meth c s₁ [] 0 0 := Stand.of_body Bd
  have e0 : s₁.heap = h0 := by rw [← hh, Bd.state]; rfl
  have N0 := Fr.nil n0
  have pre0 : ∀ t, Steps p.tables e below (s₁.setTop (mkF m 0 #[rv b62] [])) t → Steps p.tables e below (s₁.setTop (entryFrame m #[(.ref b62)] 1)) t := fun t k => castTop (ef_11 m b62) k
  have K0 : Keep h0 h0 [] := Keep.refl h0 []
  have pre134 : ∀ t, Steps p.tables e below (s₁.setTop (mkF m 1 #[rv b62] [(.ref b62)])) t → Steps p.tables e below (s₁.setTop (entryFrame m #[(.ref b62)] 1)) t := fun t kt => by
    refine pre0 _ ?_
    show Steps p.tables e below (s₁.setTop (mkF m 0 #[rv b62] [])) _
    refine XS.aloadN X0.here hx rfl (hb hby d3_0) rfl rfl ?_
    exact kt
  obtain ⟨T135, X135, e135, st135⟩ := getF X0 hx hZ hown (host := "") (Or.inl (W 18 rfl)) Via.refl e0 Fi0 (g := (mkF m 1 #[rv b62] [(.ref b62)])) rfl rfl (hb hby d3_1)
  have pre136 : ∀ t, Steps p.tables e below (T135.setTop (mkF m 4 #[rv b62] [(.int (0 : Int32))])) t → Steps p.tables e below (s₁.setTop (entryFrame m #[(.ref b62)] 1)) t := fun t kt => pre134 _ (st135 _ kt)
  have pre137 : ∀ t, Steps p.tables e below (T135.setTop (mkF m 12 #[rv b62] [(.int (1 : Int32))])) t → Steps p.tables e below (s₁.setTop (entryFrame m #[(.ref b62)] 1)) t := fun t kt => by
    refine pre136 _ ?_
    show Steps p.tables e below (T135.setTop (mkF m 4 #[rv b62] [(.int (0 : Int32))])) _
    refine XS.ifNo X135.here hx rfl (hb hby d3_4) rfl (XT.i0_ne_f (by decide)) ?_
    refine XS.iconst X135.here hx rfl (hb hby d3_7) ?_
    refine XS.goto X135.here hx rfl (pc0 := 8) (pc' := 12) rfl (hb hby d3_8) (by decide) (by decide) ?_
    exact kt
  obtain ⟨fs, hr, hrun, hended, hW, hsame⟩ := X135.leave (v := some (.int (1 : Int32))) (fun h => by rw [Bd.returns] at h; cases h)
  refine ⟨_, _, pre137 _ (retN X135 hx (t := .boolean) Bd.returns (by simp) (hb hby d3_12) hr), hrun, hended, _, _, rfl, ?_, ⟨_, rfl⟩, hW, hsame.mono (by decide) (by decide)⟩
  show Q_isEmpty3_0 Z b62 h0 n0 _ T135.heap _
  rw [e135]
  exact ⟨rfl, N0, rfl⟩
theorem pd_12 : parseMethodDescriptor "()Z" = some ⟨[], some .boolean⟩ := by decide +kernel
theorem pd_13 : parseMethodDescriptor "(I)Ljava/lang/Integer;" = some ⟨[.int], some (.object "java/lang/Integer")⟩ := by decide +kernel
theorem d6_0 : decode prog_9_method_8_code 0 = .ok (.aload_n 0, 1) := by decide +kernel
theorem d6_1 : decode prog_9_method_8_code 1 = .ok (.getfield 82, 3) := by decide +kernel
theorem d6_4 : decode prog_9_method_8_code 4 = .ok (.aload_n 0, 1) := by decide +kernel
theorem d6_5 : decode prog_9_method_8_code 5 = .ok (.getfield 9, 3) := by decide +kernel
theorem d6_8 : decode prog_9_method_8_code 8 = .ok (.arraylength, 1) := by decide +kernel
theorem d6_9 : decode prog_9_method_8_code 9 = .ok (.if_icmp .ne 41, 3) := by decide +kernel
theorem d6_50 : decode prog_9_method_8_code 50 = .ok (.aload_n 0, 1) := by decide +kernel
theorem d6_51 : decode prog_9_method_8_code 51 = .ok (.getfield 9, 3) := by decide +kernel
theorem d6_54 : decode prog_9_method_8_code 54 = .ok (.aload_n 0, 1) := by decide +kernel
theorem d6_55 : decode prog_9_method_8_code 55 = .ok (.getfield 82, 3) := by decide +kernel
theorem d6_58 : decode prog_9_method_8_code 58 = .ok (.aload_n 1, 1) := by decide +kernel
theorem d6_59 : decode prog_9_method_8_code 59 = .ok (.aastore, 1) := by decide +kernel
theorem d6_60 : decode prog_9_method_8_code 60 = .ok (.aload_n 0, 1) := by decide +kernel
theorem d6_61 : decode prog_9_method_8_code 61 = .ok (.dup, 1) := by decide +kernel
theorem d6_62 : decode prog_9_method_8_code 62 = .ok (.getfield 82, 3) := by decide +kernel
theorem d6_65 : decode prog_9_method_8_code 65 = .ok (.iconst 1, 1) := by decide +kernel
theorem d6_66 : decode prog_9_method_8_code 66 = .ok (.iadd, 1) := by decide +kernel
theorem d6_67 : decode prog_9_method_8_code 67 = .ok (.putfield 82, 3) := by decide +kernel
theorem d6_70 : decode prog_9_method_8_code 70 = .ok (.return_, 1) := by decide +kernel
theorem ef_14 (m : MethodId) (x0 : Addr) (x1 : Addr) : entryFrame m #[(.ref x0), (.ref x1)] 3 = mkF m 0 #[.val (.ref x0), .val (.ref x1), .unset] [] := by first | (simp [entryFrame, mkF, argsToLocals, Value.category]; done) | rfl
def Q_add6_0 (Z : State) (b62 : Addr) (r_142 : Addr) (b109_68 : Addr) (k109_68 : ClassId) (h0 : Heap) (n0 : Nat) (v : Option Value) (h : Heap) (L : List Loc) : Prop := v = none ∧ Fr n0 L ∧ Keep h0 h [b62, b109_68] ∧ Old Z n0 h ∧ Exa Z h b62 "com/example/homethread/homethread/Items" ∧ Exa Z h b109_68 "[Ljava/lang/Object;" ∧ Fld Z h b62 "com/example/homethread/homethread/Items" "slots" "[Ljava/lang/Object;" (.ref b109_68) ∧ Arv Z h b109_68 k109_68 (.object "java/lang/Object") (16 : Int32) [(.ref r_142), .null, .null, .null, .null, .null, .null, .null, .null, .null, .null, .null, .null, .null, .null, .null] .null ∧ Fld Z h b62 "com/example/homethread/homethread/Items" "size" "I" (.int (1 : Int32))
set_option maxRecDepth 65536 in
set_option maxHeartbeats 40000000 in
theorem rm_add6_0 (l : Launch) (Z : State) (a0 : Array Value) (hw : ∀ d ∈ tables_1, d.before a0 Z = true) (ws : List Jvm.Cond) (b62 : Addr) (r_142 : Addr) (b109_68 : Addr) (k109_68 : ClassId) (h0 : Heap) (n0 : Nat) (O0 : Old Z n0 h0) (g_b62 : n0 ≤ b62) (g_b109_68 : n0 ≤ b109_68) (Fi0 : Exa Z h0 b62 "com/example/homethread/homethread/Items") (Fi1 : Fld Z h0 b62 "com/example/homethread/homethread/Items" "size" "I" (.int (0 : Int32))) (Fi2 : Arv Z h0 b109_68 k109_68 (.object "java/lang/Object") (16 : Int32) [.null, .null, .null, .null, .null, .null, .null, .null, .null, .null, .null, .null, .null, .null, .null, .null] .null) (Fi3 : Ovr Z k109_68 "java/lang/Object") (Fi4 : Exa Z h0 b109_68 "[Ljava/lang/Object;") (Fi5 : Fld Z h0 b62 "com/example/homethread/homethread/Items" "slots" "[Ljava/lang/Object;" (.ref b109_68)) (Fi6 : Exa Z h0 r_142 "java/lang/Integer") (q0 : ¬ (b109_68 = b62)) :
    MetFree l (⟨"com/example/homethread/homethread/Items", "add", "(Ljava/lang/Object;)V"⟩ : MethodName) (head1 (Jvm.Cond.code (⟨"com/example/homethread/homethread/Items", "add", "(Ljava/lang/Object;)V"⟩ : MethodName) prog_9_method_8_code 3 none :: ws) ({ frames := 0, cells := 0, slots := 0, locals := 0 } : Room)) (fun a U => a = #[(.ref b62), (.ref r_142)] ∧ Z.Warmed39 U.vm ∧ U.heap = h0) (fun _ _ _ _ _ => True) (fun _ U o U' => ∃ v L, o = .returned v ∧ Q_add6_0 Z b62 r_142 b109_68 k109_68 h0 n0 v U'.heap L ∧ FrameEnd U o U' L ({ frames := 0, cells := 0, slots := 0, locals := 0 } : Room).cells ({ frames := 0, cells := 0, slots := 0, locals := 0 } : Room).slots) := by
  refine MetFree.of_bodySF (plainFor_of_name pn_9) hisR ?_
  intro p e s m args below meth c s₁ Bd hml0 hP hK
  have W := fun {d : Jvm.Cond} (i : Nat) (q : tables_1[i]? = some d) => hw d (List.mem_of_getElem? q)
  obtain ⟨rfl, hZ, hh⟩ := hP
  have hx := Bd.exec
  have hby := Bd.bytes
  have hml : c.maxLocals = 3 := hml0
  have hown : s.vm.findClass "com/example/homethread/homethread/Items" = some m.cls := findClass_of_methodNamed Bd.named
  have hnm := (name_of_methodNamed Bd.named Bd.method).1
  have X0 : Stand p l e ({ frames := 0, cells := 0, slots := 0, locals := 0 } : Room) s m #[(.ref b62), (.ref r_142)] below meth c s₁ [] 0 0 := Stand.of_body Bd
  have e0 : s₁.heap = h0 := by rw [← hh, Bd.state]; rfl
  have N0 := Fr.nil n0
  have pre0 : ∀ t, Steps p.tables e below (s₁.setTop (mkF m 0 #[rv b62, rv r_142, .unset] [])) t → Steps p.tables e below (s₁.setTop (entryFrame m #[(.ref b62), (.ref r_142)] 3)) t := fun t k => castTop (ef_14 m b62 r_142) k
  have K0 : Keep h0 h0 [b62, b109_68] := Keep.refl h0 [b62, b109_68]
  have pre229 : ∀ t, Steps p.tables e below (s₁.setTop (mkF m 1 #[rv b62, rv r_142, .unset] [(.ref b62)])) t → Steps p.tables e below (s₁.setTop (entryFrame m #[(.ref b62), (.ref r_142)] 3)) t := fun t kt => by
    refine pre0 _ ?_
    show Steps p.tables e below (s₁.setTop (mkF m 0 #[rv b62, rv r_142, .unset] [])) _
    refine XS.aloadN X0.here hx rfl (hb hby d6_0) rfl rfl ?_
    exact kt
  obtain ⟨T230, X230, e230, st230⟩ := getF X0 hx hZ hown (host := "") (Or.inl (W 18 rfl)) Via.refl e0 Fi1 (g := (mkF m 1 #[rv b62, rv r_142, .unset] [(.ref b62)])) rfl rfl (hb hby d6_1)
  have pre231 : ∀ t, Steps p.tables e below (T230.setTop (mkF m 4 #[rv b62, rv r_142, .unset] [(.int (0 : Int32))])) t → Steps p.tables e below (s₁.setTop (entryFrame m #[(.ref b62), (.ref r_142)] 3)) t := fun t kt => pre229 _ (st230 _ kt)
  have pre232 : ∀ t, Steps p.tables e below (T230.setTop (mkF m 5 #[rv b62, rv r_142, .unset] [(.ref b62), (.int (0 : Int32))])) t → Steps p.tables e below (s₁.setTop (entryFrame m #[(.ref b62), (.ref r_142)] 3)) t := fun t kt => by
    refine pre231 _ ?_
    show Steps p.tables e below (T230.setTop (mkF m 4 #[rv b62, rv r_142, .unset] [(.int (0 : Int32))])) _
    refine XS.aloadN X230.here hx rfl (hb hby d6_4) rfl rfl ?_
    exact kt
  obtain ⟨T233, X233, e233, st233⟩ := getF X230 hx hZ hown (host := "") (Or.inl (W 11 rfl)) Via.refl e230 Fi5 (g := (mkF m 5 #[rv b62, rv r_142, .unset] [(.ref b62), (.int (0 : Int32))])) rfl rfl (hb hby d6_5)
  have pre234 : ∀ t, Steps p.tables e below (T233.setTop (mkF m 8 #[rv b62, rv r_142, .unset] [(.ref b109_68), (.int (0 : Int32))])) t → Steps p.tables e below (s₁.setTop (entryFrame m #[(.ref b62), (.ref r_142)] 3)) t := fun t kt => pre232 _ (st233 _ kt)
  obtain ⟨c235, Ar235, -, S235, M235, -, -⟩ := id Fi2
  have pre236 : ∀ t, Steps p.tables e below (T233.setTop (mkF m 51 #[rv b62, rv r_142, .unset] [(.ref b62)])) t → Steps p.tables e below (s₁.setTop (entryFrame m #[(.ref b62), (.ref r_142)] 3)) t := fun t kt => by
    refine pre234 _ ?_
    show Steps p.tables e below (T233.setTop (mkF m 8 #[rv b62, rv r_142, .unset] [(.ref b109_68), (.int (0 : Int32))])) _
    refine X233.arraylength hx (by rw [e233]; exact Ar235.1) (State.isArrayOf_alike hZ.alike Ar235.2.1) (g := (mkF m 8 #[rv b62, rv r_142, .unset] [(.ref b109_68), (.int (0 : Int32))])) rfl rfl (hb hby d6_8) _ ?_
    rw [len_of S235 M235]
    refine XS.icmpYes X233.here hx rfl (pc0 := 9) (pc' := 50) rfl (hb hby d6_9) rfl (XT.ii_ne_t (by decide)) (by decide) (by decide) ?_
    refine XS.aloadN X233.here hx rfl (hb hby d6_50) rfl rfl ?_
    exact kt
  obtain ⟨T237, X237, e237, st237⟩ := getF X233 hx hZ hown (host := "") (Or.inl (W 11 rfl)) Via.refl e233 Fi5 (g := (mkF m 51 #[rv b62, rv r_142, .unset] [(.ref b62)])) rfl rfl (hb hby d6_51)
  have pre238 : ∀ t, Steps p.tables e below (T237.setTop (mkF m 54 #[rv b62, rv r_142, .unset] [(.ref b109_68)])) t → Steps p.tables e below (s₁.setTop (entryFrame m #[(.ref b62), (.ref r_142)] 3)) t := fun t kt => pre236 _ (st237 _ kt)
  have pre239 : ∀ t, Steps p.tables e below (T237.setTop (mkF m 55 #[rv b62, rv r_142, .unset] [(.ref b62), (.ref b109_68)])) t → Steps p.tables e below (s₁.setTop (entryFrame m #[(.ref b62), (.ref r_142)] 3)) t := fun t kt => by
    refine pre238 _ ?_
    show Steps p.tables e below (T237.setTop (mkF m 54 #[rv b62, rv r_142, .unset] [(.ref b109_68)])) _
    refine XS.aloadN X237.here hx rfl (hb hby d6_54) rfl rfl ?_
    exact kt
  obtain ⟨T240, X240, e240, st240⟩ := getF X237 hx hZ hown (host := "") (Or.inl (W 18 rfl)) Via.refl e237 Fi1 (g := (mkF m 55 #[rv b62, rv r_142, .unset] [(.ref b62), (.ref b109_68)])) rfl rfl (hb hby d6_55)
  have pre241 : ∀ t, Steps p.tables e below (T240.setTop (mkF m 58 #[rv b62, rv r_142, .unset] [(.int (0 : Int32)), (.ref b109_68)])) t → Steps p.tables e below (s₁.setTop (entryFrame m #[(.ref b62), (.ref r_142)] 3)) t := fun t kt => pre239 _ (st240 _ kt)
  have pre242 : ∀ t, Steps p.tables e below (T240.setTop (mkF m 59 #[rv b62, rv r_142, .unset] [(.ref r_142), (.int (0 : Int32)), (.ref b109_68)])) t → Steps p.tables e below (s₁.setTop (entryFrame m #[(.ref b62), (.ref r_142)] 3)) t := fun t kt => by
    refine pre241 _ ?_
    show Steps p.tables e below (T240.setTop (mkF m 58 #[rv b62, rv r_142, .unset] [(.int (0 : Int32)), (.ref b109_68)])) _
    refine XS.aloadN X240.here hx rfl (hb hby d6_58) rfl rfl ?_
    exact kt
  obtain ⟨c243, Ar243, q243, S243, M243, H243, G243⟩ := id Fi2
  have i243 : ¬ ((0 : Int32) < 0 ∨ c243.slots.size ≤ ((0 : Int32)).toNatClampNeg) := inb_of S243 ⟨by decide, by decide⟩
  obtain ⟨T244, h244, X244, e244, W244, st244⟩ := stR X240 hx hZ e240 Ar243 (j := (0 : Int32)) i243 rfl (Sto.ofV Ar243 q243 Fi3 (Ins.of_exa Fi6 (W 65 rfl))) (g := (mkF m 59 #[rv b62, rv r_142, .unset] [(.ref r_142), (.int (0 : Int32)), (.ref b109_68)])) rfl rfl (hb hby d6_59)
  have pre245 : ∀ t, Steps p.tables e below (T244.setTop (mkF m 60 #[rv b62, rv r_142, .unset] [])) t → Steps p.tables e below (s₁.setTop (entryFrame m #[(.ref b62), (.ref r_142)] 3)) t := fun t kt => pre242 _ (st244 _ kt)
  have N244 := Fr.snoc X244 N0 g_b109_68
  have O244 := O0.wr W244 g_b109_68
  have K244 : Keep h0 h244 [b62, b109_68] := K0.wr W244 (Or.inl (List.mem_of_getElem? (i := 1) rfl))
  have F246 := Fi0.wr W244
  have F247 := Fi1.other W244 (Or.inl (fun q => q0 q.symm))
  have F248 := Fi4.wr W244
  have F249 := Fi5.other W244 (Or.inl (fun q => q0 q.symm))
  have F250 := Fi6.wr W244
  have F251 : Arv Z h244 b109_68 k109_68 (.object "java/lang/Object") (16 : Int32) [(.ref r_142), .null, .null, .null, .null, .null, .null, .null, .null, .null, .null, .null, .null, .null, .null, .null] .null := Arv.set Ar243 q243 S243 M243 H243 G243 rfl W244 0 rfl (Nat.le_of_ble_eq_true rfl)
  have pre252 : ∀ t, Steps p.tables e below (T244.setTop (mkF m 62 #[rv b62, rv r_142, .unset] [(.ref b62), (.ref b62)])) t → Steps p.tables e below (s₁.setTop (entryFrame m #[(.ref b62), (.ref r_142)] 3)) t := fun t kt => by
    refine pre245 _ ?_
    show Steps p.tables e below (T244.setTop (mkF m 60 #[rv b62, rv r_142, .unset] [])) _
    refine XS.aloadN X244.here hx rfl (hb hby d6_60) rfl rfl ?_
    refine XS.dup X244.here hx rfl (hb hby d6_61) rfl rfl ?_
    exact kt
  obtain ⟨T253, X253, e253, st253⟩ := getF X244 hx hZ hown (host := "") (Or.inl (W 18 rfl)) Via.refl e244 F247 (g := (mkF m 62 #[rv b62, rv r_142, .unset] [(.ref b62), (.ref b62)])) rfl rfl (hb hby d6_62)
  have pre254 : ∀ t, Steps p.tables e below (T253.setTop (mkF m 65 #[rv b62, rv r_142, .unset] [(.int (0 : Int32)), (.ref b62)])) t → Steps p.tables e below (s₁.setTop (entryFrame m #[(.ref b62), (.ref r_142)] 3)) t := fun t kt => pre252 _ (st253 _ kt)
  have pre255 : ∀ t, Steps p.tables e below (T253.setTop (mkF m 67 #[rv b62, rv r_142, .unset] [(.int (1 : Int32)), (.ref b62)])) t → Steps p.tables e below (s₁.setTop (entryFrame m #[(.ref b62), (.ref r_142)] 3)) t := fun t kt => by
    refine pre254 _ ?_
    show Steps p.tables e below (T253.setTop (mkF m 65 #[rv b62, rv r_142, .unset] [(.int (0 : Int32)), (.ref b62)])) _
    refine XS.iconst X253.here hx rfl (hb hby d6_65) ?_
    refine XS.iadd X253.here hx rfl (hb hby d6_66) rfl ?_
    show  Steps p.tables e below (T253.setTop (mkF m 67 #[rv b62, rv r_142, .unset] [(.int ((0 : Int32) + (1 : Int32))), (.ref b62)])) _
    rw [(by decide : (((0 : Int32) + (1 : Int32)) : Int32) = (1 : Int32))]
    exact kt
  obtain ⟨T256, h256, X256, e256, W256, st256⟩ := putF X253 hx hZ hown (host := "") (Or.inl (W 18 rfl)) Via.refl e253 F247 F246 (Or.inl (W 19 rfl)) (W 1 rfl) (ty := .int) (by decide) rfl rfl (g := (mkF m 67 #[rv b62, rv r_142, .unset] [(.int (1 : Int32)), (.ref b62)])) rfl rfl (hb hby d6_67)
  have pre257 : ∀ t, Steps p.tables e below (T256.setTop (mkF m 70 #[rv b62, rv r_142, .unset] [])) t → Steps p.tables e below (s₁.setTop (entryFrame m #[(.ref b62), (.ref r_142)] 3)) t := fun t kt => pre255 _ (st256 _ kt)
  have N256 := Fr.snoc X256 N244 g_b62
  have O256 := O244.wr W256 g_b62
  have K256 : Keep h0 h256 [b62, b109_68] := K244.wr W256 (Or.inl (List.mem_of_getElem? (i := 0) rfl))
  have F258 := F246.wr W256
  have F259 := F248.wr W256
  have F260 := F249.other W256 (Or.inr (slot_ne (Or.inl (W 12 rfl)) (Or.inl (W 19 rfl)) (by decide) (t := (.array (.object "java/lang/Object"))) (t' := .int) (by decide) (by decide)))
  have F261 := F250.wr W256
  have F262 := F251.other W256 q0
  have F263 : Fld Z h256 b62 "com/example/homethread/homethread/Items" "size" "I" (.int (1 : Int32)) := F247.same W256
  obtain ⟨fs, hr, hrun, hended, hW, hsame⟩ := X256.leave (v := none) (fun _ => rfl)
  refine ⟨_, _, pre257 _ (X256.returnOut hx Bd.returns (hb hby d6_70) hr), hrun, hended, _, _, rfl, ?_, ⟨_, rfl⟩, hW, hsame.mono (by decide) (by decide)⟩
  show Q_add6_0 Z b62 r_142 b109_68 k109_68 h0 n0 _ T256.heap _
  rw [e256]
  exact ⟨rfl, N256, K256, O256, F258, F259, F260, F262, F263⟩
theorem pd_15 : parseMethodDescriptor "(Ljava/lang/Object;)V" = some ⟨[(.object "java/lang/Object")], none⟩ := by decide +kernel
theorem d3_11 : decode prog_9_method_6_code 11 = .ok (.iconst 0, 1) := by decide +kernel
def Q_isEmpty3_1 (Z : State) (b62 : Addr) (h0 : Heap) (n0 : Nat) (v : Option Value) (h : Heap) (L : List Loc) : Prop := v = some (.int (0 : Int32)) ∧ Fr n0 L ∧ h = h0
set_option maxRecDepth 65536 in
set_option maxHeartbeats 40000000 in
theorem rm_isEmpty3_1 (l : Launch) (Z : State) (a0 : Array Value) (hw : ∀ d ∈ tables_1, d.before a0 Z = true) (ws : List Jvm.Cond) (b62 : Addr) (h0 : Heap) (n0 : Nat) (O0 : Old Z n0 h0) (Fi0 : Fld Z h0 b62 "com/example/homethread/homethread/Items" "size" "I" (.int (1 : Int32))) :
    MetFree l (⟨"com/example/homethread/homethread/Items", "isEmpty", "()Z"⟩ : MethodName) (head1 (Jvm.Cond.code (⟨"com/example/homethread/homethread/Items", "isEmpty", "()Z"⟩ : MethodName) prog_9_method_6_code 1 (some .boolean) :: ws) ({ frames := 0, cells := 0, slots := 0, locals := 0 } : Room)) (fun a U => a = #[(.ref b62)] ∧ Z.Warmed39 U.vm ∧ U.heap = h0) (fun _ _ _ _ _ => True) (fun _ U o U' => ∃ v L, o = .returned v ∧ Q_isEmpty3_1 Z b62 h0 n0 v U'.heap L ∧ FrameEnd U o U' L ({ frames := 0, cells := 0, slots := 0, locals := 0 } : Room).cells ({ frames := 0, cells := 0, slots := 0, locals := 0 } : Room).slots) := by
  refine MetFree.of_bodySF (plainFor_of_name pn_9) hisR ?_
  intro p e s m args below meth c s₁ Bd hml0 hP hK
  have W := fun {d : Jvm.Cond} (i : Nat) (q : tables_1[i]? = some d) => hw d (List.mem_of_getElem? q)
  obtain ⟨rfl, hZ, hh⟩ := hP
  have hx := Bd.exec
  have hby := Bd.bytes
  have hml : c.maxLocals = 1 := hml0
  have hown : s.vm.findClass "com/example/homethread/homethread/Items" = some m.cls := findClass_of_methodNamed Bd.named
  have hnm := (name_of_methodNamed Bd.named Bd.method).1
  have X0 : Stand p l e ({ frames := 0, cells := 0, slots := 0, locals := 0 } : Room) s m #[(.ref b62)] below meth c s₁ [] 0 0 := Stand.of_body Bd
  have e0 : s₁.heap = h0 := by rw [← hh, Bd.state]; rfl
  have N0 := Fr.nil n0
  have pre0 : ∀ t, Steps p.tables e below (s₁.setTop (mkF m 0 #[rv b62] [])) t → Steps p.tables e below (s₁.setTop (entryFrame m #[(.ref b62)] 1)) t := fun t k => castTop (ef_11 m b62) k
  have K0 : Keep h0 h0 [] := Keep.refl h0 []
  have pre276 : ∀ t, Steps p.tables e below (s₁.setTop (mkF m 1 #[rv b62] [(.ref b62)])) t → Steps p.tables e below (s₁.setTop (entryFrame m #[(.ref b62)] 1)) t := fun t kt => by
    refine pre0 _ ?_
    show Steps p.tables e below (s₁.setTop (mkF m 0 #[rv b62] [])) _
    refine XS.aloadN X0.here hx rfl (hb hby d3_0) rfl rfl ?_
    exact kt
  obtain ⟨T277, X277, e277, st277⟩ := getF X0 hx hZ hown (host := "") (Or.inl (W 18 rfl)) Via.refl e0 Fi0 (g := (mkF m 1 #[rv b62] [(.ref b62)])) rfl rfl (hb hby d3_1)
  have pre278 : ∀ t, Steps p.tables e below (T277.setTop (mkF m 4 #[rv b62] [(.int (1 : Int32))])) t → Steps p.tables e below (s₁.setTop (entryFrame m #[(.ref b62)] 1)) t := fun t kt => pre276 _ (st277 _ kt)
  have pre279 : ∀ t, Steps p.tables e below (T277.setTop (mkF m 12 #[rv b62] [(.int (0 : Int32))])) t → Steps p.tables e below (s₁.setTop (entryFrame m #[(.ref b62)] 1)) t := fun t kt => by
    refine pre278 _ ?_
    show Steps p.tables e below (T277.setTop (mkF m 4 #[rv b62] [(.int (1 : Int32))])) _
    refine XS.ifYes X277.here hx rfl (pc0 := 4) (pc' := 11) rfl (hb hby d3_4) rfl (XT.i0_ne_t (by decide)) (by decide) (by decide) ?_
    refine XS.iconst X277.here hx rfl (hb hby d3_11) ?_
    exact kt
  obtain ⟨fs, hr, hrun, hended, hW, hsame⟩ := X277.leave (v := some (.int (0 : Int32))) (fun h => by rw [Bd.returns] at h; cases h)
  refine ⟨_, _, pre279 _ (retN X277 hx (t := .boolean) Bd.returns (by simp) (hb hby d3_12) hr), hrun, hended, _, _, rfl, ?_, ⟨_, rfl⟩, hW, hsame.mono (by decide) (by decide)⟩
  show Q_isEmpty3_1 Z b62 h0 n0 _ T277.heap _
  rw [e277]
  exact ⟨rfl, N0, rfl⟩
theorem d14_0 : decode prog_9_method_10_code 0 = .ok (.aload_n 0, 1) := by decide +kernel
theorem d14_1 : decode prog_9_method_10_code 1 = .ok (.iconst 0, 1) := by decide +kernel
theorem d14_2 : decode prog_9_method_10_code 2 = .ok (.putfield 82, 3) := by decide +kernel
theorem d14_5 : decode prog_9_method_10_code 5 = .ok (.return_, 1) := by decide +kernel
theorem ef_16 (m : MethodId) (x0 : Addr) : entryFrame m #[(.ref x0)] 1 = mkF m 0 #[.val (.ref x0)] [] := by first | (simp [entryFrame, mkF, argsToLocals, Value.category]; done) | rfl
def Q_clear14_0 (Z : State) (b62 : Addr) (b109_68 : Addr) (h0 : Heap) (n0 : Nat) (v : Option Value) (h : Heap) (L : List Loc) : Prop := v = none ∧ Fr n0 L ∧ Keep h0 h [b62] ∧ Old Z n0 h ∧ Exa Z h b62 "com/example/homethread/homethread/Items" ∧ Fld Z h b62 "com/example/homethread/homethread/Items" "slots" "[Ljava/lang/Object;" (.ref b109_68) ∧ Fld Z h b62 "com/example/homethread/homethread/Items" "size" "I" (.int (0 : Int32))
set_option maxRecDepth 65536 in
set_option maxHeartbeats 40000000 in
theorem rm_clear14_0 (l : Launch) (Z : State) (a0 : Array Value) (hw : ∀ d ∈ tables_1, d.before a0 Z = true) (ws : List Jvm.Cond) (b62 : Addr) (b109_68 : Addr) (h0 : Heap) (n0 : Nat) (O0 : Old Z n0 h0) (g_b62 : n0 ≤ b62) (Fi0 : Exa Z h0 b62 "com/example/homethread/homethread/Items") (Fi1 : Fld Z h0 b62 "com/example/homethread/homethread/Items" "size" "I" (.int (0 : Int32))) (Fi2 : Fld Z h0 b62 "com/example/homethread/homethread/Items" "slots" "[Ljava/lang/Object;" (.ref b109_68)) :
    MetFree l (⟨"com/example/homethread/homethread/Items", "clear", "()V"⟩ : MethodName) (head1 (Jvm.Cond.code (⟨"com/example/homethread/homethread/Items", "clear", "()V"⟩ : MethodName) prog_9_method_10_code 1 none :: ws) ({ frames := 0, cells := 0, slots := 0, locals := 0 } : Room)) (fun a U => a = #[(.ref b62)] ∧ Z.Warmed39 U.vm ∧ U.heap = h0) (fun _ _ _ _ _ => True) (fun _ U o U' => ∃ v L, o = .returned v ∧ Q_clear14_0 Z b62 b109_68 h0 n0 v U'.heap L ∧ FrameEnd U o U' L ({ frames := 0, cells := 0, slots := 0, locals := 0 } : Room).cells ({ frames := 0, cells := 0, slots := 0, locals := 0 } : Room).slots) := by
  refine MetFree.of_bodySF (plainFor_of_name pn_9) hisR ?_
  intro p e s m args below meth c s₁ Bd hml0 hP hK
  have W := fun {d : Jvm.Cond} (i : Nat) (q : tables_1[i]? = some d) => hw d (List.mem_of_getElem? q)
  obtain ⟨rfl, hZ, hh⟩ := hP
  have hx := Bd.exec
  have hby := Bd.bytes
  have hml : c.maxLocals = 1 := hml0
  have hown : s.vm.findClass "com/example/homethread/homethread/Items" = some m.cls := findClass_of_methodNamed Bd.named
  have hnm := (name_of_methodNamed Bd.named Bd.method).1
  have X0 : Stand p l e ({ frames := 0, cells := 0, slots := 0, locals := 0 } : Room) s m #[(.ref b62)] below meth c s₁ [] 0 0 := Stand.of_body Bd
  have e0 : s₁.heap = h0 := by rw [← hh, Bd.state]; rfl
  have N0 := Fr.nil n0
  have pre0 : ∀ t, Steps p.tables e below (s₁.setTop (mkF m 0 #[rv b62] [])) t → Steps p.tables e below (s₁.setTop (entryFrame m #[(.ref b62)] 1)) t := fun t k => castTop (ef_16 m b62) k
  have K0 : Keep h0 h0 [b62] := Keep.refl h0 [b62]
  have pre305 : ∀ t, Steps p.tables e below (s₁.setTop (mkF m 2 #[rv b62] [(.int (0 : Int32)), (.ref b62)])) t → Steps p.tables e below (s₁.setTop (entryFrame m #[(.ref b62)] 1)) t := fun t kt => by
    refine pre0 _ ?_
    show Steps p.tables e below (s₁.setTop (mkF m 0 #[rv b62] [])) _
    refine XS.aloadN X0.here hx rfl (hb hby d14_0) rfl rfl ?_
    refine XS.iconst X0.here hx rfl (hb hby d14_1) ?_
    exact kt
  obtain ⟨T306, h306, X306, e306, W306, st306⟩ := putF X0 hx hZ hown (host := "") (Or.inl (W 18 rfl)) Via.refl e0 Fi1 Fi0 (Or.inl (W 19 rfl)) (W 1 rfl) (ty := .int) (by decide) rfl rfl (g := (mkF m 2 #[rv b62] [(.int (0 : Int32)), (.ref b62)])) rfl rfl (hb hby d14_2)
  have pre307 : ∀ t, Steps p.tables e below (T306.setTop (mkF m 5 #[rv b62] [])) t → Steps p.tables e below (s₁.setTop (entryFrame m #[(.ref b62)] 1)) t := fun t kt => pre305 _ (st306 _ kt)
  have N306 := Fr.snoc X306 N0 g_b62
  have O306 := O0.wr W306 g_b62
  have K306 : Keep h0 h306 [b62] := K0.wr W306 (Or.inl (List.mem_of_getElem? (i := 0) rfl))
  have F308 := Fi0.wr W306
  have F309 := Fi2.other W306 (Or.inr (slot_ne (Or.inl (W 12 rfl)) (Or.inl (W 19 rfl)) (by decide) (t := (.array (.object "java/lang/Object"))) (t' := .int) (by decide) (by decide)))
  have F310 : Fld Z h306 b62 "com/example/homethread/homethread/Items" "size" "I" (.int (0 : Int32)) := Fi1.same W306
  obtain ⟨fs, hr, hrun, hended, hW, hsame⟩ := X306.leave (v := none) (fun _ => rfl)
  refine ⟨_, _, pre307 _ (X306.returnOut hx Bd.returns (hb hby d14_5) hr), hrun, hended, _, _, rfl, ?_, ⟨_, rfl⟩, hW, hsame.mono (by decide) (by decide)⟩
  show Q_clear14_0 Z b62 b109_68 h0 n0 _ T306.heap _
  rw [e306]
  exact ⟨rfl, N306, K306, O306, F308, F309, F310⟩
theorem d5_0 : decode prog_9_method_11_code 0 = .ok (.aload_n 0, 1) := by decide +kernel
theorem d5_1 : decode prog_9_method_11_code 1 = .ok (.getfield 9, 3) := by decide +kernel
theorem d5_4 : decode prog_9_method_11_code 4 = .ok (.arraylength, 1) := by decide +kernel
theorem d5_5 : decode prog_9_method_11_code 5 = .ok (.iload_n 1, 1) := by decide +kernel
theorem d5_6 : decode prog_9_method_11_code 6 = .ok (.if_icmp .le 10, 3) := by decide +kernel
theorem d5_9 : decode prog_9_method_11_code 9 = .ok (.aload_n 0, 1) := by decide +kernel
theorem d5_10 : decode prog_9_method_11_code 10 = .ok (.getstatic 101, 3) := by decide +kernel
theorem d5_13 : decode prog_9_method_11_code 13 = .ok (.putfield 9, 3) := by decide +kernel
theorem d5_16 : decode prog_9_method_11_code 16 = .ok (.aload_n 0, 1) := by decide +kernel
theorem d5_17 : decode prog_9_method_11_code 17 = .ok (.iconst 0, 1) := by decide +kernel
theorem d5_18 : decode prog_9_method_11_code 18 = .ok (.putfield 82, 3) := by decide +kernel
theorem d5_21 : decode prog_9_method_11_code 21 = .ok (.return_, 1) := by decide +kernel
theorem ef_17 (m : MethodId) (x0 : Addr) (x1 : Int32) : entryFrame m #[(.ref x0), (.int x1)] 2 = mkF m 0 #[.val (.ref x0), .val (.int x1)] [] := by first | (simp [entryFrame, mkF, argsToLocals, Value.category]; done) | rfl
def Q_clearAndTrim5_1 (Z : State) (b62 : Addr) (p3 : Int32) (a_NO_SLOTS : Addr) (b109_68 : Addr) (k109_68 : ClassId) (h0 : Heap) (n0 : Nat) (v : Option Value) (h : Heap) (L : List Loc) : Prop := v = none ∧ Fr n0 L ∧ Keep h0 h [b62] ∧ Old Z n0 h ∧ Exa Z h b62 "com/example/homethread/homethread/Items" ∧ Fld Z h b62 "com/example/homethread/homethread/Items" "slots" "[Ljava/lang/Object;" (.ref a_NO_SLOTS) ∧ Fld Z h b62 "com/example/homethread/homethread/Items" "size" "I" (.int (0 : Int32))
set_option maxRecDepth 65536 in
set_option maxHeartbeats 40000000 in
theorem rm_clearAndTrim5_1 (l : Launch) (Z : State) (a0 : Array Value) (hw : ∀ d ∈ tables_1, d.before a0 Z = true) (ws : List Jvm.Cond) (b62 : Addr) (p3 : Int32) (a_NO_SLOTS : Addr) (b109_68 : Addr) (k109_68 : ClassId) (h0 : Heap) (n0 : Nat) (O0 : Old Z n0 h0) (G0 : Sta Z Z.heap "com/example/homethread/homethread/Items" "NO_SLOTS" "[Ljava/lang/Object;" (.ref a_NO_SLOTS)) (g_b62 : n0 ≤ b62) (Fi0 : Exa Z h0 b62 "com/example/homethread/homethread/Items") (Fi1 : Fld Z h0 b62 "com/example/homethread/homethread/Items" "size" "I" (.int (0 : Int32))) (Fi2 : Arv Z h0 b109_68 k109_68 (.object "java/lang/Object") (16 : Int32) [.null, .null, .null, .null, .null, .null, .null, .null, .null, .null, .null, .null, .null, .null, .null, .null] .null) (Fi3 : Fld Z h0 b62 "com/example/homethread/homethread/Items" "slots" "[Ljava/lang/Object;" (.ref b109_68)) (q0 : ¬ (b109_68 = b62)) (q1 : p3 < (16 : Int32)) :
    MetFree l (⟨"com/example/homethread/homethread/Items", "clearAndTrim", "(I)V"⟩ : MethodName) (head1 (Jvm.Cond.code (⟨"com/example/homethread/homethread/Items", "clearAndTrim", "(I)V"⟩ : MethodName) prog_9_method_11_code 2 none :: ws) ({ frames := 0, cells := 0, slots := 0, locals := 0 } : Room)) (fun a U => a = #[(.ref b62), (.int p3)] ∧ Z.Warmed39 U.vm ∧ U.heap = h0) (fun _ _ _ _ _ => True) (fun _ U o U' => ∃ v L, o = .returned v ∧ Q_clearAndTrim5_1 Z b62 p3 a_NO_SLOTS b109_68 k109_68 h0 n0 v U'.heap L ∧ FrameEnd U o U' L ({ frames := 0, cells := 0, slots := 0, locals := 0 } : Room).cells ({ frames := 0, cells := 0, slots := 0, locals := 0 } : Room).slots) := by
  refine MetFree.of_bodySF (plainFor_of_name pn_9) hisR ?_
  intro p e s m args below meth c s₁ Bd hml0 hP hK
  have W := fun {d : Jvm.Cond} (i : Nat) (q : tables_1[i]? = some d) => hw d (List.mem_of_getElem? q)
  obtain ⟨rfl, hZ, hh⟩ := hP
  have hx := Bd.exec
  have hby := Bd.bytes
  have hml : c.maxLocals = 2 := hml0
  have hown : s.vm.findClass "com/example/homethread/homethread/Items" = some m.cls := findClass_of_methodNamed Bd.named
  have hnm := (name_of_methodNamed Bd.named Bd.method).1
  have X0 : Stand p l e ({ frames := 0, cells := 0, slots := 0, locals := 0 } : Room) s m #[(.ref b62), (.int p3)] below meth c s₁ [] 0 0 := Stand.of_body Bd
  have e0 : s₁.heap = h0 := by rw [← hh, Bd.state]; rfl
  have N0 := Fr.nil n0
  have pre0 : ∀ t, Steps p.tables e below (s₁.setTop (mkF m 0 #[rv b62, iv p3] [])) t → Steps p.tables e below (s₁.setTop (entryFrame m #[(.ref b62), (.int p3)] 2)) t := fun t k => castTop (ef_17 m b62 p3) k
  have K0 : Keep h0 h0 [b62] := Keep.refl h0 [b62]
  have pre378 : ∀ t, Steps p.tables e below (s₁.setTop (mkF m 1 #[rv b62, iv p3] [(.ref b62)])) t → Steps p.tables e below (s₁.setTop (entryFrame m #[(.ref b62), (.int p3)] 2)) t := fun t kt => by
    refine pre0 _ ?_
    show Steps p.tables e below (s₁.setTop (mkF m 0 #[rv b62, iv p3] [])) _
    refine XS.aloadN X0.here hx rfl (hb hby d5_0) rfl rfl ?_
    exact kt
  obtain ⟨T379, X379, e379, st379⟩ := getF X0 hx hZ hown (host := "") (Or.inl (W 11 rfl)) Via.refl e0 Fi3 (g := (mkF m 1 #[rv b62, iv p3] [(.ref b62)])) rfl rfl (hb hby d5_1)
  have pre380 : ∀ t, Steps p.tables e below (T379.setTop (mkF m 4 #[rv b62, iv p3] [(.ref b109_68)])) t → Steps p.tables e below (s₁.setTop (entryFrame m #[(.ref b62), (.int p3)] 2)) t := fun t kt => pre378 _ (st379 _ kt)
  obtain ⟨c381, Ar381, -, S381, M381, -, -⟩ := id Fi2
  have pre382 : ∀ t, Steps p.tables e below (T379.setTop (mkF m 10 #[rv b62, iv p3] [(.ref b62)])) t → Steps p.tables e below (s₁.setTop (entryFrame m #[(.ref b62), (.int p3)] 2)) t := fun t kt => by
    refine pre380 _ ?_
    show Steps p.tables e below (T379.setTop (mkF m 4 #[rv b62, iv p3] [(.ref b109_68)])) _
    refine X379.arraylength hx (by rw [e379]; exact Ar381.1) (State.isArrayOf_alike hZ.alike Ar381.2.1) (g := (mkF m 4 #[rv b62, iv p3] [(.ref b109_68)])) rfl rfl (hb hby d5_4) _ ?_
    rw [len_of S381 M381]
    refine XS.iloadN X379.here hx rfl (hb hby d5_5) rfl ?_
    refine XS.icmpNo X379.here hx rfl (hb hby d5_6) rfl (XT.ii_le_f q1) ?_
    refine XS.aloadN X379.here hx rfl (hb hby d5_9) rfl rfl ?_
    exact kt
  obtain ⟨T383, X383, e383, st383⟩ := getS2 X379 hx hZ hown (host := "") (Or.inl (W 32 rfl)) Via.refl e379 (G0.ext O0.2) (g := (mkF m 10 #[rv b62, iv p3] [(.ref b62)])) rfl (hb hby d5_10)
  have pre384 : ∀ t, Steps p.tables e below (T383.setTop (mkF m 13 #[rv b62, iv p3] [(.ref a_NO_SLOTS), (.ref b62)])) t → Steps p.tables e below (s₁.setTop (entryFrame m #[(.ref b62), (.int p3)] 2)) t := fun t kt => pre382 _ (st383 _ kt)
  obtain ⟨T385, h385, X385, e385, W385, st385⟩ := putF X383 hx hZ hown (host := "") (Or.inl (W 11 rfl)) Via.refl e383 Fi3 Fi0 (Or.inl (W 12 rfl)) (W 1 rfl) (ty := (.array (.object "java/lang/Object"))) (by decide) rfl rfl (g := (mkF m 13 #[rv b62, iv p3] [(.ref a_NO_SLOTS), (.ref b62)])) rfl rfl (hb hby d5_13)
  have pre386 : ∀ t, Steps p.tables e below (T385.setTop (mkF m 16 #[rv b62, iv p3] [])) t → Steps p.tables e below (s₁.setTop (entryFrame m #[(.ref b62), (.int p3)] 2)) t := fun t kt => pre384 _ (st385 _ kt)
  have N385 := Fr.snoc X385 N0 g_b62
  have O385 := O0.wr W385 g_b62
  have K385 : Keep h0 h385 [b62] := K0.wr W385 (Or.inl (List.mem_of_getElem? (i := 0) rfl))
  have F387 := Fi0.wr W385
  have F388 := Fi1.other W385 (Or.inr (slot_ne (Or.inl (W 19 rfl)) (Or.inl (W 12 rfl)) (by decide) (t := .int) (t' := (.array (.object "java/lang/Object"))) (by decide) (by decide)))
  have F389 := Fi2.other W385 q0
  have F390 : Fld Z h385 b62 "com/example/homethread/homethread/Items" "slots" "[Ljava/lang/Object;" (.ref a_NO_SLOTS) := Fi3.same W385
  have pre391 : ∀ t, Steps p.tables e below (T385.setTop (mkF m 18 #[rv b62, iv p3] [(.int (0 : Int32)), (.ref b62)])) t → Steps p.tables e below (s₁.setTop (entryFrame m #[(.ref b62), (.int p3)] 2)) t := fun t kt => by
    refine pre386 _ ?_
    show Steps p.tables e below (T385.setTop (mkF m 16 #[rv b62, iv p3] [])) _
    refine XS.aloadN X385.here hx rfl (hb hby d5_16) rfl rfl ?_
    refine XS.iconst X385.here hx rfl (hb hby d5_17) ?_
    exact kt
  obtain ⟨T392, h392, X392, e392, W392, st392⟩ := putF X385 hx hZ hown (host := "") (Or.inl (W 18 rfl)) Via.refl e385 F388 F387 (Or.inl (W 19 rfl)) (W 1 rfl) (ty := .int) (by decide) rfl rfl (g := (mkF m 18 #[rv b62, iv p3] [(.int (0 : Int32)), (.ref b62)])) rfl rfl (hb hby d5_18)
  have pre393 : ∀ t, Steps p.tables e below (T392.setTop (mkF m 21 #[rv b62, iv p3] [])) t → Steps p.tables e below (s₁.setTop (entryFrame m #[(.ref b62), (.int p3)] 2)) t := fun t kt => pre391 _ (st392 _ kt)
  have N392 := Fr.snoc X392 N385 g_b62
  have O392 := O385.wr W392 g_b62
  have K392 : Keep h0 h392 [b62] := K385.wr W392 (Or.inl (List.mem_of_getElem? (i := 0) rfl))
  have F394 := F387.wr W392
  have F395 := F389.other W392 q0
  have F396 := F390.other W392 (Or.inr (slot_ne (Or.inl (W 12 rfl)) (Or.inl (W 19 rfl)) (by decide) (t := (.array (.object "java/lang/Object"))) (t' := .int) (by decide) (by decide)))
  have F397 : Fld Z h392 b62 "com/example/homethread/homethread/Items" "size" "I" (.int (0 : Int32)) := F388.same W392
  obtain ⟨fs, hr, hrun, hended, hW, hsame⟩ := X392.leave (v := none) (fun _ => rfl)
  refine ⟨_, _, pre393 _ (X392.returnOut hx Bd.returns (hb hby d5_21) hr), hrun, hended, _, _, rfl, ?_, ⟨_, rfl⟩, hW, hsame.mono (by decide) (by decide)⟩
  show Q_clearAndTrim5_1 Z b62 p3 a_NO_SLOTS b109_68 k109_68 h0 n0 _ T392.heap _
  rw [e392]
  exact ⟨rfl, N392, K392, O392, F394, F396, F397⟩
theorem d6_12 : decode prog_9_method_8_code 12 = .ok (.bipush 16, 2) := by decide +kernel
theorem d6_14 : decode prog_9_method_8_code 14 = .ok (.aload_n 0, 1) := by decide +kernel
theorem d6_15 : decode prog_9_method_8_code 15 = .ok (.getfield 82, 3) := by decide +kernel
theorem d6_18 : decode prog_9_method_8_code 18 = .ok (.aload_n 0, 1) := by decide +kernel
theorem d6_19 : decode prog_9_method_8_code 19 = .ok (.getfield 82, 3) := by decide +kernel
theorem d6_22 : decode prog_9_method_8_code 22 = .ok (.iconst 1, 1) := by decide +kernel
theorem d6_23 : decode prog_9_method_8_code 23 = .ok (.ishr, 1) := by decide +kernel
theorem d6_24 : decode prog_9_method_8_code 24 = .ok (.iadd, 1) := by decide +kernel
theorem d6_25 : decode prog_9_method_8_code 25 = .ok (.invokestatic 86, 3) := by decide +kernel
theorem d7_0 : decode jdk_29_method_65_code 0 = .ok (.iload_n 0, 1) := by decide +kernel
theorem d7_1 : decode jdk_29_method_65_code 1 = .ok (.iload_n 1, 1) := by decide +kernel
theorem d7_2 : decode jdk_29_method_65_code 2 = .ok (.if_icmp .lt 7, 3) := by decide +kernel
theorem d7_5 : decode jdk_29_method_65_code 5 = .ok (.iload_n 0, 1) := by decide +kernel
theorem d7_6 : decode jdk_29_method_65_code 6 = .ok (.goto 4, 3) := by decide +kernel
theorem d7_10 : decode jdk_29_method_65_code 10 = .ok (.ireturn, 1) := by decide +kernel
theorem ef_19 (m : MethodId) (x0 : Int32) (x1 : Int32) : entryFrame m #[(.int x0), (.int x1)] 2 = mkF m 0 #[.val (.int x0), .val (.int x1)] [] := by first | (simp [entryFrame, mkF, argsToLocals, Value.category]; done) | rfl
def Q_max7_0 (Z : State)  (h0 : Heap) (n0 : Nat) (v : Option Value) (h : Heap) (L : List Loc) : Prop := v = some (.int (16 : Int32)) ∧ Fr n0 L ∧ h = h0
set_option maxRecDepth 65536 in
set_option maxHeartbeats 40000000 in
theorem rm_max7_0 (l : Launch) (Z : State) (a0 : Array Value) (hw : ∀ d ∈ tables_1, d.before a0 Z = true) (ws : List Jvm.Cond)  (h0 : Heap) (n0 : Nat) (O0 : Old Z n0 h0) :
    MetFree l (⟨"java/lang/Math", "max", "(II)I"⟩ : MethodName) (head1 (Jvm.Cond.code (⟨"java/lang/Math", "max", "(II)I"⟩ : MethodName) jdk_29_method_65_code 2 (some .int) :: ws) ({ frames := 0, cells := 0, slots := 0, locals := 0 } : Room)) (fun a U => a = #[(.int (16 : Int32)), (.int (0 : Int32))] ∧ Z.Warmed39 U.vm ∧ U.heap = h0) (fun _ _ _ _ _ => True) (fun _ U o U' => ∃ v L, o = .returned v ∧ Q_max7_0 Z  h0 n0 v U'.heap L ∧ FrameEnd U o U' L ({ frames := 0, cells := 0, slots := 0, locals := 0 } : Room).cells ({ frames := 0, cells := 0, slots := 0, locals := 0 } : Room).slots) := by
  refine MetFree.of_bodySF (Jvm.Free.JP.mathPlain rfl (by decide +kernel)) hisR ?_
  intro p e s m args below meth c s₁ Bd hml0 hP hK
  have W := fun {d : Jvm.Cond} (i : Nat) (q : tables_1[i]? = some d) => hw d (List.mem_of_getElem? q)
  obtain ⟨rfl, hZ, hh⟩ := hP
  have hx := Bd.exec
  have hby := Bd.bytes
  have hml : c.maxLocals = 2 := hml0
  have hown : s.vm.findClass "java/lang/Math" = some m.cls := findClass_of_methodNamed Bd.named
  have hnm := (name_of_methodNamed Bd.named Bd.method).1
  have X0 : Stand p l e ({ frames := 0, cells := 0, slots := 0, locals := 0 } : Room) s m #[(.int (16 : Int32)), (.int (0 : Int32))] below meth c s₁ [] 0 0 := Stand.of_body Bd
  have e0 : s₁.heap = h0 := by rw [← hh, Bd.state]; rfl
  have N0 := Fr.nil n0
  have pre0 : ∀ t, Steps p.tables e below (s₁.setTop (mkF m 0 #[iv (16 : Int32), iv (0 : Int32)] [])) t → Steps p.tables e below (s₁.setTop (entryFrame m #[(.int (16 : Int32)), (.int (0 : Int32))] 2)) t := fun t k => castTop (ef_19 m (16 : Int32) (0 : Int32)) k
  have K0 : Keep h0 h0 [] := Keep.refl h0 []
  have pre424 : ∀ t, Steps p.tables e below (s₁.setTop (mkF m 10 #[iv (16 : Int32), iv (0 : Int32)] [(.int (16 : Int32))])) t → Steps p.tables e below (s₁.setTop (entryFrame m #[(.int (16 : Int32)), (.int (0 : Int32))] 2)) t := fun t kt => by
    refine pre0 _ ?_
    show Steps p.tables e below (s₁.setTop (mkF m 0 #[iv (16 : Int32), iv (0 : Int32)] [])) _
    refine XS.iloadN X0.here hx rfl (hb hby d7_0) rfl ?_
    refine XS.iloadN X0.here hx rfl (hb hby d7_1) rfl ?_
    refine XS.icmpNo X0.here hx rfl (hb hby d7_2) rfl (XT.ii_lt_f (by decide)) ?_
    refine XS.iloadN X0.here hx rfl (hb hby d7_5) rfl ?_
    show Steps p.tables e below (s₁.setTop (mkF m 6 #[iv (16 : Int32), iv (0 : Int32)] [(.int (16 : Int32))])) _
    refine XS.goto X0.here hx rfl (pc0 := 6) (pc' := 10) rfl (hb hby d7_6) (by decide) (by decide) ?_
    exact kt
  obtain ⟨fs, hr, hrun, hended, hW, hsame⟩ := X0.leave (v := some (.int (16 : Int32))) (fun h => by rw [Bd.returns] at h; cases h)
  refine ⟨_, _, pre424 _ (retI X0 hx Bd.returns (hb hby d7_10) hr), hrun, hended, _, _, rfl, ?_, ⟨_, rfl⟩, hW, hsame.mono (by decide) (by decide)⟩
  show Q_max7_0 Z  h0 n0 _ s₁.heap _
  rw [e0]
  exact ⟨rfl, N0, rfl⟩
theorem pd_20 : parseMethodDescriptor "(II)I" = some ⟨[.int, .int], some .int⟩ := by decide +kernel
theorem d6_28 : decode prog_9_method_8_code 28 = .ok (.istore_n 2, 1) := by decide +kernel
theorem d6_29 : decode prog_9_method_8_code 29 = .ok (.aload_n 0, 1) := by decide +kernel
theorem d6_30 : decode prog_9_method_8_code 30 = .ok (.aload_n 0, 1) := by decide +kernel
theorem d6_31 : decode prog_9_method_8_code 31 = .ok (.getfield 9, 3) := by decide +kernel
theorem d6_34 : decode prog_9_method_8_code 34 = .ok (.iload_n 2, 1) := by decide +kernel
theorem d6_35 : decode prog_9_method_8_code 35 = .ok (.ifCond .ge 8, 3) := by decide +kernel
theorem d6_43 : decode prog_9_method_8_code 43 = .ok (.iload_n 2, 1) := by decide +kernel
theorem d6_44 : decode prog_9_method_8_code 44 = .ok (.invokestatic 95, 3) := by decide +kernel
theorem d8_0 : decode jdk_65_method_119_code 0 = .ok (.aload_n 0, 1) := by decide +kernel
theorem d8_1 : decode jdk_65_method_119_code 1 = .ok (.iload_n 1, 1) := by decide +kernel
theorem d8_2 : decode jdk_65_method_119_code 2 = .ok (.aload_n 0, 1) := by decide +kernel
theorem d8_3 : decode jdk_65_method_119_code 3 = .ok (.invokevirtual 86, 3) := by decide +kernel
theorem d8_6 : decode jdk_65_method_119_code 6 = .ok (.invokestatic 300, 3) := by decide +kernel
theorem d9_0 : decode jdk_65_method_120_code 0 = .ok (.aload_n 2, 1) := by decide +kernel
theorem d9_1 : decode jdk_65_method_120_code 1 = .ok (.ldc 110, 2) := by decide +kernel
theorem d9_3 : decode jdk_65_method_120_code 3 = .ok (.if_acmp .ne 10, 3) := by decide +kernel
theorem d9_6 : decode jdk_65_method_120_code 6 = .ok (.iload_n 1, 1) := by decide +kernel
theorem d9_7 : decode jdk_65_method_120_code 7 = .ok (.anewarray 2, 3) := by decide +kernel
theorem d9_10 : decode jdk_65_method_120_code 10 = .ok (.goto 14, 3) := by decide +kernel
theorem d9_24 : decode jdk_65_method_120_code 24 = .ok (.astore_n 3, 1) := by decide +kernel
theorem d9_25 : decode jdk_65_method_120_code 25 = .ok (.aload_n 0, 1) := by decide +kernel
theorem d9_26 : decode jdk_65_method_120_code 26 = .ok (.iconst 0, 1) := by decide +kernel
theorem d9_27 : decode jdk_65_method_120_code 27 = .ok (.aload_n 3, 1) := by decide +kernel
theorem d9_28 : decode jdk_65_method_120_code 28 = .ok (.iconst 0, 1) := by decide +kernel
theorem d9_29 : decode jdk_65_method_120_code 29 = .ok (.aload_n 0, 1) := by decide +kernel
theorem d9_30 : decode jdk_65_method_120_code 30 = .ok (.arraylength, 1) := by decide +kernel
theorem d9_31 : decode jdk_65_method_120_code 31 = .ok (.iload_n 1, 1) := by decide +kernel
theorem d9_32 : decode jdk_65_method_120_code 32 = .ok (.invokestatic 304, 3) := by decide +kernel
theorem d10_0 : decode jdk_29_method_69_code 0 = .ok (.iload_n 0, 1) := by decide +kernel
theorem d10_1 : decode jdk_29_method_69_code 1 = .ok (.iload_n 1, 1) := by decide +kernel
theorem d10_2 : decode jdk_29_method_69_code 2 = .ok (.if_icmp .gt 7, 3) := by decide +kernel
theorem d10_5 : decode jdk_29_method_69_code 5 = .ok (.iload_n 0, 1) := by decide +kernel
theorem d10_6 : decode jdk_29_method_69_code 6 = .ok (.goto 4, 3) := by decide +kernel
theorem d10_10 : decode jdk_29_method_69_code 10 = .ok (.ireturn, 1) := by decide +kernel
theorem ef_22 (m : MethodId) (x0 : Int32) (x1 : Int32) : entryFrame m #[(.int x0), (.int x1)] 2 = mkF m 0 #[.val (.int x0), .val (.int x1)] [] := by first | (simp [entryFrame, mkF, argsToLocals, Value.category]; done) | rfl
def Q_min10_0 (Z : State)  (h0 : Heap) (n0 : Nat) (v : Option Value) (h : Heap) (L : List Loc) : Prop := v = some (.int (0 : Int32)) ∧ Fr n0 L ∧ h = h0
set_option maxRecDepth 65536 in
set_option maxHeartbeats 40000000 in
theorem rm_min10_0 (l : Launch) (Z : State) (a0 : Array Value) (hw : ∀ d ∈ tables_1, d.before a0 Z = true) (ws : List Jvm.Cond)  (h0 : Heap) (n0 : Nat) (O0 : Old Z n0 h0) :
    MetFree l (⟨"java/lang/Math", "min", "(II)I"⟩ : MethodName) (head1 (Jvm.Cond.code (⟨"java/lang/Math", "min", "(II)I"⟩ : MethodName) jdk_29_method_69_code 2 (some .int) :: ws) ({ frames := 0, cells := 0, slots := 0, locals := 0 } : Room)) (fun a U => a = #[(.int (0 : Int32)), (.int (16 : Int32))] ∧ Z.Warmed39 U.vm ∧ U.heap = h0) (fun _ _ _ _ _ => True) (fun _ U o U' => ∃ v L, o = .returned v ∧ Q_min10_0 Z  h0 n0 v U'.heap L ∧ FrameEnd U o U' L ({ frames := 0, cells := 0, slots := 0, locals := 0 } : Room).cells ({ frames := 0, cells := 0, slots := 0, locals := 0 } : Room).slots) := by
  refine MetFree.of_bodySF (Jvm.Free.JP.mathPlain rfl (by decide +kernel)) hisR ?_
  intro p e s m args below meth c s₁ Bd hml0 hP hK
  have W := fun {d : Jvm.Cond} (i : Nat) (q : tables_1[i]? = some d) => hw d (List.mem_of_getElem? q)
  obtain ⟨rfl, hZ, hh⟩ := hP
  have hx := Bd.exec
  have hby := Bd.bytes
  have hml : c.maxLocals = 2 := hml0
  have hown : s.vm.findClass "java/lang/Math" = some m.cls := findClass_of_methodNamed Bd.named
  have hnm := (name_of_methodNamed Bd.named Bd.method).1
  have X0 : Stand p l e ({ frames := 0, cells := 0, slots := 0, locals := 0 } : Room) s m #[(.int (0 : Int32)), (.int (16 : Int32))] below meth c s₁ [] 0 0 := Stand.of_body Bd
  have e0 : s₁.heap = h0 := by rw [← hh, Bd.state]; rfl
  have N0 := Fr.nil n0
  have pre0 : ∀ t, Steps p.tables e below (s₁.setTop (mkF m 0 #[iv (0 : Int32), iv (16 : Int32)] [])) t → Steps p.tables e below (s₁.setTop (entryFrame m #[(.int (0 : Int32)), (.int (16 : Int32))] 2)) t := fun t k => castTop (ef_22 m (0 : Int32) (16 : Int32)) k
  have K0 : Keep h0 h0 [] := Keep.refl h0 []
  have pre455 : ∀ t, Steps p.tables e below (s₁.setTop (mkF m 10 #[iv (0 : Int32), iv (16 : Int32)] [(.int (0 : Int32))])) t → Steps p.tables e below (s₁.setTop (entryFrame m #[(.int (0 : Int32)), (.int (16 : Int32))] 2)) t := fun t kt => by
    refine pre0 _ ?_
    show Steps p.tables e below (s₁.setTop (mkF m 0 #[iv (0 : Int32), iv (16 : Int32)] [])) _
    refine XS.iloadN X0.here hx rfl (hb hby d10_0) rfl ?_
    refine XS.iloadN X0.here hx rfl (hb hby d10_1) rfl ?_
    refine XS.icmpNo X0.here hx rfl (hb hby d10_2) rfl (XT.ii_gt_f (by decide)) ?_
    refine XS.iloadN X0.here hx rfl (hb hby d10_5) rfl ?_
    show Steps p.tables e below (s₁.setTop (mkF m 6 #[iv (0 : Int32), iv (16 : Int32)] [(.int (0 : Int32))])) _
    refine XS.goto X0.here hx rfl (pc0 := 6) (pc' := 10) rfl (hb hby d10_6) (by decide) (by decide) ?_
    exact kt
  obtain ⟨fs, hr, hrun, hended, hW, hsame⟩ := X0.leave (v := some (.int (0 : Int32))) (fun h => by rw [Bd.returns] at h; cases h)
  refine ⟨_, _, pre455 _ (retI X0 hx Bd.returns (hb hby d10_10) hr), hrun, hended, _, _, rfl, ?_, ⟨_, rfl⟩, hW, hsame.mono (by decide) (by decide)⟩
  show Q_min10_0 Z  h0 n0 _ s₁.heap _
  rw [e0]
  exact ⟨rfl, N0, rfl⟩
theorem d9_35 : decode jdk_65_method_120_code 35 = .ok (.invokestatic 150, 3) := by decide +kernel
theorem d9_38 : decode jdk_65_method_120_code 38 = .ok (.aload_n 3, 1) := by decide +kernel
theorem d9_39 : decode jdk_65_method_120_code 39 = .ok (.areturn, 1) := by decide +kernel
theorem pn_23 : plainName "java/util/Arrays" = true := by first | (simp [plainName, overriddenIn]; done) | decide +kernel
theorem ef_24 (m : MethodId) (x0 : Addr) (x1 : Int32) (x2 : Addr) : entryFrame m #[(.ref x0), (.int x1), (.ref x2)] 4 = mkF m 0 #[.val (.ref x0), .val (.int x1), .val (.ref x2), .unset] [] := by first | (simp [entryFrame, mkF, argsToLocals, Value.category]; done) | rfl
def Q_copyOf9_0 (Z : State) (a_NO_SLOTS : Addr) (mr : Addr) (kn : ClassId) (b109_68 : Addr) (k109_68 : ClassId) (h0 : Heap) (n0 : Nat) (v : Option Value) (h : Heap) (L : List Loc) : Prop := ∃ (k514 : ClassId) (b514 : Addr), v = some (.ref b514) ∧ Fr n0 L ∧ Keep h0 h [] ∧ Old Z n0 h ∧ Ovr Z k514 "java/lang/Object" ∧ Exa Z h b514 "[Ljava/lang/Object;" ∧ Arv Z h b514 k514 (.object "java/lang/Object") (16 : Int32) [.null, .null, .null, .null, .null, .null, .null, .null, .null, .null, .null, .null, .null, .null, .null, .null] .null ∧ (h0.size ≤ b514)
set_option maxRecDepth 65536 in
set_option maxHeartbeats 40000000 in
theorem rm_copyOf9_0 (l : Launch) (Z : State) (a0 : Array Value) (hw : ∀ d ∈ tables_1, d.before a0 Z = true) (ws : List Jvm.Cond) (a_NO_SLOTS : Addr) (mr : Addr) (kn : ClassId) (b109_68 : Addr) (k109_68 : ClassId) (h0 : Heap) (n0 : Nat) (O0 : Old Z n0 h0) (G0 : own_mir Z "[Ljava/lang/Object;" mr) (G1 : Arv Z Z.heap a_NO_SLOTS kn (.object "java/lang/Object") (0 : Int32) [] .null) (Fi0 : Arv Z h0 b109_68 k109_68 (.object "java/lang/Object") (16 : Int32) [.null, .null, .null, .null, .null, .null, .null, .null, .null, .null, .null, .null, .null, .null, .null, .null] .null) :
    MetFree l (⟨"java/util/Arrays", "copyOf", "([Ljava/lang/Object;ILjava/lang/Class;)[Ljava/lang/Object;"⟩ : MethodName) (head1 (Jvm.Cond.code (⟨"java/util/Arrays", "copyOf", "([Ljava/lang/Object;ILjava/lang/Class;)[Ljava/lang/Object;"⟩ : MethodName) jdk_65_method_120_code 4 (some (.array (.object "java/lang/Object"))) :: ws) ({ frames := 1, cells := 1, slots := 16, locals := 24 } : Room)) (fun a U => a = #[(.ref a_NO_SLOTS), (.int (16 : Int32)), (.ref mr)] ∧ Z.Warmed39 U.vm ∧ U.heap = h0) (fun _ _ _ _ _ => True) (fun _ U o U' => ∃ v L, o = .returned v ∧ Q_copyOf9_0 Z a_NO_SLOTS mr kn b109_68 k109_68 h0 n0 v U'.heap L ∧ FrameEnd U o U' L ({ frames := 1, cells := 1, slots := 16, locals := 24 } : Room).cells ({ frames := 1, cells := 1, slots := 16, locals := 24 } : Room).slots) := by
  refine MetFree.of_bodySF (plainFor_of_name pn_23) hisR ?_
  intro p e s m args below meth c s₁ Bd hml0 hP hK
  have W := fun {d : Jvm.Cond} (i : Nat) (q : tables_1[i]? = some d) => hw d (List.mem_of_getElem? q)
  obtain ⟨rfl, hZ, hh⟩ := hP
  have hx := Bd.exec
  have hby := Bd.bytes
  have hml : c.maxLocals = 4 := hml0
  have hown : s.vm.findClass "java/util/Arrays" = some m.cls := findClass_of_methodNamed Bd.named
  have hnm := (name_of_methodNamed Bd.named Bd.method).1
  have X0 : Stand p l e ({ frames := 1, cells := 1, slots := 16, locals := 24 } : Room) s m #[(.ref a_NO_SLOTS), (.int (16 : Int32)), (.ref mr)] below meth c s₁ [] 0 0 := Stand.of_body Bd
  have e0 : s₁.heap = h0 := by rw [← hh, Bd.state]; rfl
  have N0 := Fr.nil n0
  have pre0 : ∀ t, Steps p.tables e below (s₁.setTop (mkF m 0 #[rv a_NO_SLOTS, iv (16 : Int32), rv mr, .unset] [])) t → Steps p.tables e below (s₁.setTop (entryFrame m #[(.ref a_NO_SLOTS), (.int (16 : Int32)), (.ref mr)] 4)) t := fun t k => castTop (ef_24 m a_NO_SLOTS (16 : Int32) mr) k
  have K0 : Keep h0 h0 [] := Keep.refl h0 []
  have pre510 : ∀ t, Steps p.tables e below (s₁.setTop (mkF m 1 #[rv a_NO_SLOTS, iv (16 : Int32), rv mr, .unset] [(.ref mr)])) t → Steps p.tables e below (s₁.setTop (entryFrame m #[(.ref a_NO_SLOTS), (.int (16 : Int32)), (.ref mr)] 4)) t := fun t kt => by
    refine pre0 _ ?_
    show Steps p.tables e below (s₁.setTop (mkF m 0 #[rv a_NO_SLOTS, iv (16 : Int32), rv mr, .unset] [])) _
    refine XS.aloadN X0.here hx rfl (hb hby d9_0) rfl rfl ?_
    exact kt
  obtain ⟨vm511, X511, st511⟩ := X0.ldcMirror hx hown (mvT hZ (W 56 rfl)) (own_mir_eval hZ G0) (g := (mkF m 1 #[rv a_NO_SLOTS, iv (16 : Int32), rv mr, .unset] [(.ref mr)])) rfl (hb hby d9_1)
  obtain ⟨T511, hT511⟩ : ∃ z, z = s₁.setVm vm511 := ⟨_, rfl⟩
  rw [← hT511] at X511 st511
  have e511 : T511.heap = h0 := by rw [hT511]; exact e0
  have pre512 : ∀ t, Steps p.tables e below (T511.setTop (mkF m 3 #[rv a_NO_SLOTS, iv (16 : Int32), rv mr, .unset] [(.ref mr), (.ref mr)])) t → Steps p.tables e below (s₁.setTop (entryFrame m #[(.ref a_NO_SLOTS), (.int (16 : Int32)), (.ref mr)] 4)) t := fun t kt => pre510 _ (st511 _ kt)
  have pre513 : ∀ t, Steps p.tables e below (T511.setTop (mkF m 7 #[rv a_NO_SLOTS, iv (16 : Int32), rv mr, .unset] [(.int (16 : Int32))])) t → Steps p.tables e below (s₁.setTop (entryFrame m #[(.ref a_NO_SLOTS), (.int (16 : Int32)), (.ref mr)] 4)) t := fun t kt => by
    refine pre512 _ ?_
    show Steps p.tables e below (T511.setTop (mkF m 3 #[rv a_NO_SLOTS, iv (16 : Int32), rv mr, .unset] [(.ref mr), (.ref mr)])) _
    refine Jvm.RoadKit.acmp (g := (mkF m 3 #[rv a_NO_SLOTS, iv (16 : Int32), rv mr, .unset] [(.ref mr), (.ref mr)])) X511 hx rfl rfl rfl (pc0 := 3) (pc' := 6) (same := true) rfl (hb hby d9_3) rfl (decide_eq_true rfl) (by decide) (by decide) ?_
    refine XS.iloadN X511.here hx rfl (hb hby d9_6) rfl ?_
    exact kt
  obtain ⟨T514, h514, k514, X514, e514, E514, A514, B514, V514, st514⟩ := newRE X511 hx hZ hown (W 57 rfl) (W 10 rfl) e511 (g := (mkF m 7 #[rv a_NO_SLOTS, iv (16 : Int32), rv mr, .unset] [(.int (16 : Int32))])) rfl (hb hby d9_7) rfl (by decide) (cap := 16) (by decide) (by decide) (by decide) (by decide) (ad := "[Ljava/lang/Object;") (by decide)
  obtain ⟨b514, g514⟩ : ∃ z, z = h0.size := ⟨_, rfl⟩
  rw [← g514] at A514 B514 st514
  have pre515 : ∀ t, Steps p.tables e below (T514.setTop (mkF m 10 #[rv a_NO_SLOTS, iv (16 : Int32), rv mr, .unset] [(.ref b514)])) t → Steps p.tables e below (s₁.setTop (entryFrame m #[(.ref a_NO_SLOTS), (.int (16 : Int32)), (.ref mr)] 4)) t := fun t kt => pre513 _ (st514 _ kt)
  have O514 := O0.ext E514
  have K514 : Keep h0 h514 [] := K0.ext E514
  have F516 := Fi0.ext E514
  have g_b514 : n0 ≤ b514 := Nat.le_trans (Nat.le_trans (Nat.le_of_eq O0.1.symm) O0.2.1) (Nat.le_of_eq g514.symm)
  have sz_b514 : h0.size ≤ b514 := Nat.le_trans K0.1 (Nat.le_of_eq g514.symm)
  have ne_a_NO_SLOTS_b514 : a_NO_SLOTS ≠ b514 := Nat.ne_of_lt (Nat.lt_of_lt_of_le (G1.ext O0.2).lt (Nat.le_of_eq g514.symm))
  have ne_b109_68_b514 : b109_68 ≠ b514 := Nat.ne_of_lt (Nat.lt_of_lt_of_le Fi0.lt (Nat.le_of_eq g514.symm))
  have F517 : Arv Z h514 b514 k514 (.object "java/lang/Object") (16 : Int32) [.null, .null, .null, .null, .null, .null, .null, .null, .null, .null, .null, .null, .null, .null, .null, .null] .null := (Arv.new A514 (by decide)).pad (pad_rep [] .null 16)
  have F518 : Exa Z h514 b514 "[Ljava/lang/Object;" := B514
  have pre520 : ∀ t, Steps p.tables e below (T514.setTop (mkF m 30 #[rv a_NO_SLOTS, iv (16 : Int32), rv mr, rv b514] [(.ref a_NO_SLOTS), (.int (0 : Int32)), (.ref b514), (.int (0 : Int32)), (.ref a_NO_SLOTS)])) t → Steps p.tables e below (s₁.setTop (entryFrame m #[(.ref a_NO_SLOTS), (.int (16 : Int32)), (.ref mr)] 4)) t := fun t kt => by
    refine pre515 _ ?_
    show Steps p.tables e below (T514.setTop (mkF m 10 #[rv a_NO_SLOTS, iv (16 : Int32), rv mr, .unset] [(.ref b514)])) _
    refine XS.goto X514.here hx rfl (pc0 := 10) (pc' := 24) rfl (hb hby d9_10) (by decide) (by decide) ?_
    refine XS.astoreN X514.here hx rfl (hb hby d9_24) rfl rfl (l' := #[rv a_NO_SLOTS, iv (16 : Int32), rv mr, rv b514]) rfl ?_
    refine XS.aloadN X514.here hx rfl (hb hby d9_25) rfl rfl ?_
    refine XS.iconst X514.here hx rfl (hb hby d9_26) ?_
    show Steps p.tables e below (T514.setTop (mkF m 27 #[rv a_NO_SLOTS, iv (16 : Int32), rv mr, rv b514] [(.int (0 : Int32)), (.ref a_NO_SLOTS)])) _
    refine XS.aloadN X514.here hx rfl (hb hby d9_27) rfl rfl ?_
    refine XS.iconst X514.here hx rfl (hb hby d9_28) ?_
    refine XS.aloadN X514.here hx rfl (hb hby d9_29) rfl rfl ?_
    exact kt
  obtain ⟨c519, Ar519, -, S519, M519, -, -⟩ := id (G1.ext O514.2)
  have pre521 : ∀ t, Steps p.tables e below (T514.setTop (mkF m 32 #[rv a_NO_SLOTS, iv (16 : Int32), rv mr, rv b514] [(.int (16 : Int32)), (.int (0 : Int32)), (.int (0 : Int32)), (.ref b514), (.int (0 : Int32)), (.ref a_NO_SLOTS)])) t → Steps p.tables e below (s₁.setTop (entryFrame m #[(.ref a_NO_SLOTS), (.int (16 : Int32)), (.ref mr)] 4)) t := fun t kt => by
    refine pre520 _ ?_
    show Steps p.tables e below (T514.setTop (mkF m 30 #[rv a_NO_SLOTS, iv (16 : Int32), rv mr, rv b514] [(.ref a_NO_SLOTS), (.int (0 : Int32)), (.ref b514), (.int (0 : Int32)), (.ref a_NO_SLOTS)])) _
    refine X514.arraylength hx (by rw [e514]; exact Ar519.1) (State.isArrayOf_alike hZ.alike Ar519.2.1) (g := (mkF m 30 #[rv a_NO_SLOTS, iv (16 : Int32), rv mr, rv b514] [(.ref a_NO_SLOTS), (.int (0 : Int32)), (.ref b514), (.int (0 : Int32)), (.ref a_NO_SLOTS)])) rfl rfl (hb hby d9_30) _ ?_
    rw [len_of S519 M519]
    refine XS.iloadN X514.here hx rfl (hb hby d9_31) rfl ?_
    exact kt
  obtain ⟨_, _, ⟨T522, L522, k522, n522⟩, -, X522, ⟨Lc522, hQ522, l522, y522, z522⟩, st522⟩ := Jvm.LawKit.callS X514 hx (y := (⟨"java/lang/Math", "min", "(II)I"⟩ : MethodName)) hown (mvT hZ (W 58 rfl)) (mvT hZ (W 59 rfl)) (mvT hZ (W 41 rfl)) (mvT hZ (W 60 rfl)) (by decide) (backOf (W := 4) (rm_min10_0 l Z a0 hw [] h514 n0 O514) hZ (W 60 rfl) (W 41 rfl) (by decide) (by decide)) (g := (mkF m 32 #[rv a_NO_SLOTS, iv (16 : Int32), rv mr, rv b514] [(.int (16 : Int32)), (.int (0 : Int32)), (.int (0 : Int32)), (.ref b514), (.int (0 : Int32)), (.ref a_NO_SLOTS)])) rfl (by rw [hml]; rfl) (argsL := [(.int (0 : Int32)), (.int (16 : Int32))]) (rest := [(.int (0 : Int32)), (.ref b514), (.int (0 : Int32)), (.ref a_NO_SLOTS)]) (lenOf pd_20 rfl) rfl (by show 2 * 0 + _ ≤ _; exact Nat.le_of_eq rfl) (hb hby d9_32) (fun _ _ => ⟨rfl, e514, (by decide : 1 + 0 ≤ _), (by decide : 16 + 0 ≤ _)⟩)
  dsimp only [Pt.U, Pt.locs, Pt.cells, Pt.slots] at X522 l522 y522 z522 st522 hQ522
  replace l522 := l522.symm
  replace y522 : 1 = k522 := y522.symm
  replace z522 : 16 = n522 := z522.symm
  subst l522 y522 z522
  obtain ⟨rfl, M522, e522⟩ := hQ522
  have N522 := Fr.app N0 M522
  have pre523 : ∀ t, Steps p.tables e below (T522.setTop (mkF m 35 #[rv a_NO_SLOTS, iv (16 : Int32), rv mr, rv b514] [(.int (0 : Int32)), (.int (0 : Int32)), (.ref b514), (.int (0 : Int32)), (.ref a_NO_SLOTS)])) t → Steps p.tables e below (s₁.setTop (entryFrame m #[(.ref a_NO_SLOTS), (.int (16 : Int32)), (.ref mr)] 4)) t := fun t kt => pre521 _ (st522 _ kt)
  obtain ⟨T524, h524, L524, X524, e524, N524, Kc524, V524, st524⟩ := cpA X522 hx hZ hown (W 61 rfl) (W 64 rfl) (W 62 rfl) (W 63 rfl) e522 (G1.ext O514.2) F517  (sp := (0 : Int32)) (dp := (0 : Int32)) (nn := (0 : Int32)) (us := []) (Or.inr ⟨rfl, rfl, trivial⟩) (by decide) (by decide) (by decide) (by decide) (by decide) rfl (Nat.le_of_ble_eq_true rfl) N522 g_b514 (g := (mkF m 35 #[rv a_NO_SLOTS, iv (16 : Int32), rv mr, rv b514] [(.int (0 : Int32)), (.int (0 : Int32)), (.ref b514), (.int (0 : Int32)), (.ref a_NO_SLOTS)])) rfl (by rw [hml]; rfl) (rest := []) rfl (hb hby d9_35) (by decide) (W := 0) (by show 2 * 0 + _ ≤ _; exact Nat.le_of_eq rfl) (by decide)
  have pre525 : ∀ t, Steps p.tables e below (T524.setTop (mkF m 38 #[rv a_NO_SLOTS, iv (16 : Int32), rv mr, rv b514] [])) t → Steps p.tables e below (s₁.setTop (entryFrame m #[(.ref a_NO_SLOTS), (.int (16 : Int32)), (.ref mr)] 4)) t := fun t kt => pre523 _ (st524 _ kt)
  have O524 := O514.keep Kc524 (own_all1 g_b514)
  have K524 : Keep h0 h524 [] := K514.trans Kc524 (own_all1 (Or.inr sz_b514))
  have F526 := F516.keep Kc524 (own_nm1 ne_b109_68_b514)
  have F527 := F518.keep Kc524
  have F528 : Arv Z h524 b514 k514 (.object "java/lang/Object") (16 : Int32) [.null, .null, .null, .null, .null, .null, .null, .null, .null, .null, .null, .null, .null, .null, .null, .null] .null := V524
  have pre529 : ∀ t, Steps p.tables e below (T524.setTop (mkF m 39 #[rv a_NO_SLOTS, iv (16 : Int32), rv mr, rv b514] [(.ref b514)])) t → Steps p.tables e below (s₁.setTop (entryFrame m #[(.ref a_NO_SLOTS), (.int (16 : Int32)), (.ref mr)] 4)) t := fun t kt => by
    refine pre525 _ ?_
    show Steps p.tables e below (T524.setTop (mkF m 38 #[rv a_NO_SLOTS, iv (16 : Int32), rv mr, rv b514] [])) _
    refine XS.aloadN X524.here hx rfl (hb hby d9_38) rfl rfl ?_
    exact kt
  obtain ⟨fs, hr, hrun, hended, hW, hsame⟩ := X524.leave (v := some (.ref b514)) (fun h => by rw [Bd.returns] at h; cases h)
  refine ⟨_, _, pre529 _ (X524.areturnOut hx rfl Bd.returns rfl (hb hby d9_39) hr), hrun, hended, _, _, rfl, ?_, ⟨_, rfl⟩, hW, hsame.mono (by decide) (by decide)⟩
  show Q_copyOf9_0 Z a_NO_SLOTS mr kn b109_68 k109_68 h0 n0 _ T524.heap _
  rw [e524]
  exact ⟨k514, b514, rfl, N524, K524, O524, V514, F527, F528, sz_b514⟩
theorem pd_25 : parseMethodDescriptor "([Ljava/lang/Object;ILjava/lang/Class;)[Ljava/lang/Object;" = some ⟨[(.array (.object "java/lang/Object")), .int, (.object "java/lang/Class")], some (.array (.object "java/lang/Object"))⟩ := by decide +kernel
theorem d8_9 : decode jdk_65_method_119_code 9 = .ok (.areturn, 1) := by decide +kernel
theorem ef_26 (m : MethodId) (x0 : Addr) (x1 : Int32) : entryFrame m #[(.ref x0), (.int x1)] 2 = mkF m 0 #[.val (.ref x0), .val (.int x1)] [] := by first | (simp [entryFrame, mkF, argsToLocals, Value.category]; done) | rfl
def Q_copyOf8_0 (Z : State) (a_NO_SLOTS : Addr) (mr : Addr) (kn : ClassId) (b109_68 : Addr) (k109_68 : ClassId) (h0 : Heap) (n0 : Nat) (v : Option Value) (h : Heap) (L : List Loc) : Prop := ∃ (k514_546 : ClassId) (b514_546 : Addr), v = some (.ref b514_546) ∧ Fr n0 L ∧ Keep h0 h [] ∧ Old Z n0 h ∧ Ovr Z k514_546 "java/lang/Object" ∧ Exa Z h b514_546 "[Ljava/lang/Object;" ∧ Arv Z h b514_546 k514_546 (.object "java/lang/Object") (16 : Int32) [.null, .null, .null, .null, .null, .null, .null, .null, .null, .null, .null, .null, .null, .null, .null, .null] .null ∧ (h0.size ≤ b514_546)
set_option maxRecDepth 65536 in
set_option maxHeartbeats 40000000 in
theorem rm_copyOf8_0 (l : Launch) (Z : State) (a0 : Array Value) (hw : ∀ d ∈ tables_1, d.before a0 Z = true) (ws : List Jvm.Cond) (a_NO_SLOTS : Addr) (mr : Addr) (kn : ClassId) (b109_68 : Addr) (k109_68 : ClassId) (h0 : Heap) (n0 : Nat) (O0 : Old Z n0 h0) (G0 : own_mir Z "[Ljava/lang/Object;" mr) (G1 : Exa Z Z.heap a_NO_SLOTS "[Ljava/lang/Object;") (G2 : Arv Z Z.heap a_NO_SLOTS kn (.object "java/lang/Object") (0 : Int32) [] .null) (Fi0 : Arv Z h0 b109_68 k109_68 (.object "java/lang/Object") (16 : Int32) [.null, .null, .null, .null, .null, .null, .null, .null, .null, .null, .null, .null, .null, .null, .null, .null] .null) :
    MetFree l (⟨"java/util/Arrays", "copyOf", "([Ljava/lang/Object;I)[Ljava/lang/Object;"⟩ : MethodName) (head1 (Jvm.Cond.code (⟨"java/util/Arrays", "copyOf", "([Ljava/lang/Object;I)[Ljava/lang/Object;"⟩ : MethodName) jdk_65_method_119_code 2 (some (.array (.object "java/lang/Object"))) :: ws) ({ frames := 2, cells := 1, slots := 16, locals := 39 } : Room)) (fun a U => a = #[(.ref a_NO_SLOTS), (.int (16 : Int32))] ∧ Z.Warmed39 U.vm ∧ U.heap = h0) (fun _ _ _ _ _ => True) (fun _ U o U' => ∃ v L, o = .returned v ∧ Q_copyOf8_0 Z a_NO_SLOTS mr kn b109_68 k109_68 h0 n0 v U'.heap L ∧ FrameEnd U o U' L ({ frames := 2, cells := 1, slots := 16, locals := 39 } : Room).cells ({ frames := 2, cells := 1, slots := 16, locals := 39 } : Room).slots) := by
  refine MetFree.of_bodySF (plainFor_of_name pn_23) hisR ?_
  intro p e s m args below meth c s₁ Bd hml0 hP hK
  have W := fun {d : Jvm.Cond} (i : Nat) (q : tables_1[i]? = some d) => hw d (List.mem_of_getElem? q)
  obtain ⟨rfl, hZ, hh⟩ := hP
  have hx := Bd.exec
  have hby := Bd.bytes
  have hml : c.maxLocals = 2 := hml0
  have hown : s.vm.findClass "java/util/Arrays" = some m.cls := findClass_of_methodNamed Bd.named
  have hnm := (name_of_methodNamed Bd.named Bd.method).1
  have X0 : Stand p l e ({ frames := 2, cells := 1, slots := 16, locals := 39 } : Room) s m #[(.ref a_NO_SLOTS), (.int (16 : Int32))] below meth c s₁ [] 0 0 := Stand.of_body Bd
  have e0 : s₁.heap = h0 := by rw [← hh, Bd.state]; rfl
  have N0 := Fr.nil n0
  have pre0 : ∀ t, Steps p.tables e below (s₁.setTop (mkF m 0 #[rv a_NO_SLOTS, iv (16 : Int32)] [])) t → Steps p.tables e below (s₁.setTop (entryFrame m #[(.ref a_NO_SLOTS), (.int (16 : Int32))] 2)) t := fun t k => castTop (ef_26 m a_NO_SLOTS (16 : Int32)) k
  have K0 : Keep h0 h0 [] := Keep.refl h0 []
  have pre543 : ∀ t, Steps p.tables e below (s₁.setTop (mkF m 3 #[rv a_NO_SLOTS, iv (16 : Int32)] [(.ref a_NO_SLOTS), (.int (16 : Int32)), (.ref a_NO_SLOTS)])) t → Steps p.tables e below (s₁.setTop (entryFrame m #[(.ref a_NO_SLOTS), (.int (16 : Int32))] 2)) t := fun t kt => by
    refine pre0 _ ?_
    show Steps p.tables e below (s₁.setTop (mkF m 0 #[rv a_NO_SLOTS, iv (16 : Int32)] [])) _
    refine XS.aloadN X0.here hx rfl (hb hby d8_0) rfl rfl ?_
    refine XS.iloadN X0.here hx rfl (hb hby d8_1) rfl ?_
    refine XS.aloadN X0.here hx rfl (hb hby d8_2) rfl rfl ?_
    exact kt
  obtain ⟨T544, X544, e544, st544⟩ := own_gcls X0 hx hZ hown (W 47 rfl) (W 48 rfl) (W 50 rfl) (W 49 rfl) (W 51 rfl) e0 (G1.ext O0.2) G0 (g := (mkF m 3 #[rv a_NO_SLOTS, iv (16 : Int32)] [(.ref a_NO_SLOTS), (.int (16 : Int32)), (.ref a_NO_SLOTS)])) rfl (by rw [hml]; rfl) (rest := [(.int (16 : Int32)), (.ref a_NO_SLOTS)]) rfl (hb hby d8_3) (by decide) (W := 2) (by show 2 * 0 + _ ≤ _; exact Nat.le_of_eq rfl) (by decide)
  have pre545 : ∀ t, Steps p.tables e below (T544.setTop (mkF m 6 #[rv a_NO_SLOTS, iv (16 : Int32)] [(.ref mr), (.int (16 : Int32)), (.ref a_NO_SLOTS)])) t → Steps p.tables e below (s₁.setTop (entryFrame m #[(.ref a_NO_SLOTS), (.int (16 : Int32))] 2)) t := fun t kt => pre543 _ (st544 _ kt)
  obtain ⟨_, _, ⟨T546, L546, k546, n546⟩, -, X546, ⟨Lc546, hQ546, l546, y546, z546⟩, st546⟩ := Jvm.LawKit.callS X544 hx (y := (⟨"java/util/Arrays", "copyOf", "([Ljava/lang/Object;ILjava/lang/Class;)[Ljava/lang/Object;"⟩ : MethodName)) hown (mvT hZ (W 53 rfl)) (mvT hZ (W 54 rfl)) (mvT hZ (W 45 rfl)) (mvT hZ (W 55 rfl)) (by decide) (backOf (W := 0) (rm_copyOf9_0 l Z a0 hw [] a_NO_SLOTS mr kn b109_68 k109_68 h0 n0 O0 G0 G2 Fi0) hZ (W 55 rfl) (W 45 rfl) (by decide) (by decide)) (g := (mkF m 6 #[rv a_NO_SLOTS, iv (16 : Int32)] [(.ref mr), (.int (16 : Int32)), (.ref a_NO_SLOTS)])) rfl (by rw [hml]; rfl) (argsL := [(.ref a_NO_SLOTS), (.int (16 : Int32)), (.ref mr)]) (rest := []) (lenOf pd_25 rfl) rfl (by show 2 * 0 + _ ≤ _; exact Nat.le_of_eq rfl) (hb hby d8_6) (fun _ _ => ⟨rfl, e544, (by decide : 0 + 1 ≤ _), (by decide : 0 + 16 ≤ _)⟩)
  dsimp only [Pt.U, Pt.locs, Pt.cells, Pt.slots] at X546 l546 y546 z546 st546 hQ546
  replace l546 := l546.symm
  replace y546 : 1 = k546 := y546.symm
  replace z546 : 16 = n546 := z546.symm
  subst l546 y546 z546
  obtain ⟨k514_546, b514_546, rfl, M546, Kc546, O546, J546_0, J546_1, J546_2, P546_0⟩ := hQ546
  obtain ⟨h546, e546⟩ : ∃ z, T546.heap = z := ⟨_, rfl⟩
  rw [e546] at Kc546 O546 J546_1 J546_2
  try rw [e546] at P546_0
  have N546 := Fr.app N0 M546
  have K546 : Keep h0 h546 [] := K0.trans Kc546 (own_all0 )
  have pre547 : ∀ t, Steps p.tables e below (T546.setTop (mkF m 9 #[rv a_NO_SLOTS, iv (16 : Int32)] [(.ref b514_546)])) t → Steps p.tables e below (s₁.setTop (entryFrame m #[(.ref a_NO_SLOTS), (.int (16 : Int32))] 2)) t := fun t kt => pre545 _ (st546 _ kt)
  have F548 := Fi0.keep Kc546 (own_nm0 )
  have sz_b514_546 : h0.size ≤ b514_546 := Nat.le_trans K0.1 P546_0
  have ne_a_NO_SLOTS_b514_546 : a_NO_SLOTS ≠ b514_546 := Nat.ne_of_lt (Nat.lt_of_lt_of_le (G1.ext O0.2).lt P546_0)
  have ne_b109_68_b514_546 : b109_68 ≠ b514_546 := Nat.ne_of_lt (Nat.lt_of_lt_of_le Fi0.lt P546_0)
  have g_b514_546 : n0 ≤ b514_546 := Nat.le_trans (Nat.le_trans (Nat.le_of_eq O0.1.symm) O0.2.1) sz_b514_546
  obtain ⟨fs, hr, hrun, hended, hW, hsame⟩ := X546.leave (v := some (.ref b514_546)) (fun h => by rw [Bd.returns] at h; cases h)
  refine ⟨_, _, pre547 _ (X546.areturnOut hx rfl Bd.returns rfl (hb hby d8_9) hr), hrun, hended, _, _, rfl, ?_, ⟨_, rfl⟩, hW, hsame.mono (by decide) (by decide)⟩
  show Q_copyOf8_0 Z a_NO_SLOTS mr kn b109_68 k109_68 h0 n0 _ T546.heap _
  rw [e546]
  exact ⟨k514_546, b514_546, rfl, N546, K546, O546, J546_0, J546_1, J546_2, sz_b514_546⟩
theorem pd_27 : parseMethodDescriptor "([Ljava/lang/Object;I)[Ljava/lang/Object;" = some ⟨[(.array (.object "java/lang/Object")), .int], some (.array (.object "java/lang/Object"))⟩ := by decide +kernel
theorem d6_47 : decode prog_9_method_8_code 47 = .ok (.putfield 9, 3) := by decide +kernel
def Q_add6_1 (Z : State) (b62 : Addr) (r_142 : Addr) (mr : Addr) (a_NO_SLOTS : Addr) (kn : ClassId) (b109_68 : Addr) (k109_68 : ClassId) (h0 : Heap) (n0 : Nat) (v : Option Value) (h : Heap) (L : List Loc) : Prop := ∃ (k514_684 : ClassId) (b514_684 : Addr), v = none ∧ Fr n0 L ∧ Keep h0 h [b62] ∧ Old Z n0 h ∧ Exa Z h b62 "com/example/homethread/homethread/Items" ∧ Ovr Z k514_684 "java/lang/Object" ∧ Exa Z h b514_684 "[Ljava/lang/Object;" ∧ Fld Z h b62 "com/example/homethread/homethread/Items" "slots" "[Ljava/lang/Object;" (.ref b514_684) ∧ Arv Z h b514_684 k514_684 (.object "java/lang/Object") (16 : Int32) [(.ref r_142), .null, .null, .null, .null, .null, .null, .null, .null, .null, .null, .null, .null, .null, .null, .null] .null ∧ Fld Z h b62 "com/example/homethread/homethread/Items" "size" "I" (.int (1 : Int32)) ∧ (h0.size ≤ b514_684)
set_option maxRecDepth 65536 in
set_option maxHeartbeats 40000000 in
theorem rm_add6_1 (l : Launch) (Z : State) (a0 : Array Value) (hw : ∀ d ∈ tables_1, d.before a0 Z = true) (ws : List Jvm.Cond) (b62 : Addr) (r_142 : Addr) (mr : Addr) (a_NO_SLOTS : Addr) (kn : ClassId) (b109_68 : Addr) (k109_68 : ClassId) (h0 : Heap) (n0 : Nat) (O0 : Old Z n0 h0) (G0 : own_mir Z "[Ljava/lang/Object;" mr) (G1 : Exa Z Z.heap a_NO_SLOTS "[Ljava/lang/Object;") (G2 : Arv Z Z.heap a_NO_SLOTS kn (.object "java/lang/Object") (0 : Int32) [] .null) (g_b62 : n0 ≤ b62) (Fi0 : Arv Z h0 b109_68 k109_68 (.object "java/lang/Object") (16 : Int32) [.null, .null, .null, .null, .null, .null, .null, .null, .null, .null, .null, .null, .null, .null, .null, .null] .null) (Fi1 : Exa Z h0 r_142 "java/lang/Integer") (Fi2 : Exa Z h0 b62 "com/example/homethread/homethread/Items") (Fi3 : Fld Z h0 b62 "com/example/homethread/homethread/Items" "slots" "[Ljava/lang/Object;" (.ref a_NO_SLOTS)) (Fi4 : Fld Z h0 b62 "com/example/homethread/homethread/Items" "size" "I" (.int (0 : Int32))) (q0 : ¬ (b109_68 = b62)) :
    MetFree l (⟨"com/example/homethread/homethread/Items", "add", "(Ljava/lang/Object;)V"⟩ : MethodName) (head1 (Jvm.Cond.code (⟨"com/example/homethread/homethread/Items", "add", "(Ljava/lang/Object;)V"⟩ : MethodName) prog_9_method_8_code 3 none :: ws) ({ frames := 3, cells := 1, slots := 16, locals := 53 } : Room)) (fun a U => a = #[(.ref b62), (.ref r_142)] ∧ Z.Warmed39 U.vm ∧ U.heap = h0) (fun _ _ _ _ _ => True) (fun _ U o U' => ∃ v L, o = .returned v ∧ Q_add6_1 Z b62 r_142 mr a_NO_SLOTS kn b109_68 k109_68 h0 n0 v U'.heap L ∧ FrameEnd U o U' L ({ frames := 3, cells := 1, slots := 16, locals := 53 } : Room).cells ({ frames := 3, cells := 1, slots := 16, locals := 53 } : Room).slots) := by
  refine MetFree.of_bodySF (plainFor_of_name pn_9) hisR ?_
  intro p e s m args below meth c s₁ Bd hml0 hP hK
  have W := fun {d : Jvm.Cond} (i : Nat) (q : tables_1[i]? = some d) => hw d (List.mem_of_getElem? q)
  obtain ⟨rfl, hZ, hh⟩ := hP
  have hx := Bd.exec
  have hby := Bd.bytes
  have hml : c.maxLocals = 3 := hml0
  have hown : s.vm.findClass "com/example/homethread/homethread/Items" = some m.cls := findClass_of_methodNamed Bd.named
  have hnm := (name_of_methodNamed Bd.named Bd.method).1
  have X0 : Stand p l e ({ frames := 3, cells := 1, slots := 16, locals := 53 } : Room) s m #[(.ref b62), (.ref r_142)] below meth c s₁ [] 0 0 := Stand.of_body Bd
  have e0 : s₁.heap = h0 := by rw [← hh, Bd.state]; rfl
  have N0 := Fr.nil n0
  have pre0 : ∀ t, Steps p.tables e below (s₁.setTop (mkF m 0 #[rv b62, rv r_142, .unset] [])) t → Steps p.tables e below (s₁.setTop (entryFrame m #[(.ref b62), (.ref r_142)] 3)) t := fun t k => castTop (ef_14 m b62 r_142) k
  have K0 : Keep h0 h0 [b62] := Keep.refl h0 [b62]
  have pre664 : ∀ t, Steps p.tables e below (s₁.setTop (mkF m 1 #[rv b62, rv r_142, .unset] [(.ref b62)])) t → Steps p.tables e below (s₁.setTop (entryFrame m #[(.ref b62), (.ref r_142)] 3)) t := fun t kt => by
    refine pre0 _ ?_
    show Steps p.tables e below (s₁.setTop (mkF m 0 #[rv b62, rv r_142, .unset] [])) _
    refine XS.aloadN X0.here hx rfl (hb hby d6_0) rfl rfl ?_
    exact kt
  obtain ⟨T665, X665, e665, st665⟩ := getF X0 hx hZ hown (host := "") (Or.inl (W 18 rfl)) Via.refl e0 Fi4 (g := (mkF m 1 #[rv b62, rv r_142, .unset] [(.ref b62)])) rfl rfl (hb hby d6_1)
  have pre666 : ∀ t, Steps p.tables e below (T665.setTop (mkF m 4 #[rv b62, rv r_142, .unset] [(.int (0 : Int32))])) t → Steps p.tables e below (s₁.setTop (entryFrame m #[(.ref b62), (.ref r_142)] 3)) t := fun t kt => pre664 _ (st665 _ kt)
  have pre667 : ∀ t, Steps p.tables e below (T665.setTop (mkF m 5 #[rv b62, rv r_142, .unset] [(.ref b62), (.int (0 : Int32))])) t → Steps p.tables e below (s₁.setTop (entryFrame m #[(.ref b62), (.ref r_142)] 3)) t := fun t kt => by
    refine pre666 _ ?_
    show Steps p.tables e below (T665.setTop (mkF m 4 #[rv b62, rv r_142, .unset] [(.int (0 : Int32))])) _
    refine XS.aloadN X665.here hx rfl (hb hby d6_4) rfl rfl ?_
    exact kt
  obtain ⟨T668, X668, e668, st668⟩ := getF X665 hx hZ hown (host := "") (Or.inl (W 11 rfl)) Via.refl e665 Fi3 (g := (mkF m 5 #[rv b62, rv r_142, .unset] [(.ref b62), (.int (0 : Int32))])) rfl rfl (hb hby d6_5)
  have pre669 : ∀ t, Steps p.tables e below (T668.setTop (mkF m 8 #[rv b62, rv r_142, .unset] [(.ref a_NO_SLOTS), (.int (0 : Int32))])) t → Steps p.tables e below (s₁.setTop (entryFrame m #[(.ref b62), (.ref r_142)] 3)) t := fun t kt => pre667 _ (st668 _ kt)
  obtain ⟨c670, Ar670, -, S670, M670, -, -⟩ := id (G2.ext O0.2)
  have pre671 : ∀ t, Steps p.tables e below (T668.setTop (mkF m 15 #[rv b62, rv r_142, .unset] [(.ref b62), (.int (16 : Int32))])) t → Steps p.tables e below (s₁.setTop (entryFrame m #[(.ref b62), (.ref r_142)] 3)) t := fun t kt => by
    refine pre669 _ ?_
    show Steps p.tables e below (T668.setTop (mkF m 8 #[rv b62, rv r_142, .unset] [(.ref a_NO_SLOTS), (.int (0 : Int32))])) _
    refine X668.arraylength hx (by rw [e668]; exact Ar670.1) (State.isArrayOf_alike hZ.alike Ar670.2.1) (g := (mkF m 8 #[rv b62, rv r_142, .unset] [(.ref a_NO_SLOTS), (.int (0 : Int32))])) rfl rfl (hb hby d6_8) _ ?_
    rw [len_of S670 M670]
    refine XS.icmpNo X668.here hx rfl (hb hby d6_9) rfl (XT.ii_ne_f (by decide)) ?_
    refine XS.bipush X668.here hx rfl (hb hby d6_12) ?_
    refine XS.aloadN X668.here hx rfl (hb hby d6_14) rfl rfl ?_
    exact kt
  obtain ⟨T672, X672, e672, st672⟩ := getF X668 hx hZ hown (host := "") (Or.inl (W 18 rfl)) Via.refl e668 Fi4 (g := (mkF m 15 #[rv b62, rv r_142, .unset] [(.ref b62), (.int (16 : Int32))])) rfl rfl (hb hby d6_15)
  have pre673 : ∀ t, Steps p.tables e below (T672.setTop (mkF m 18 #[rv b62, rv r_142, .unset] [(.int (0 : Int32)), (.int (16 : Int32))])) t → Steps p.tables e below (s₁.setTop (entryFrame m #[(.ref b62), (.ref r_142)] 3)) t := fun t kt => pre671 _ (st672 _ kt)
  have pre674 : ∀ t, Steps p.tables e below (T672.setTop (mkF m 19 #[rv b62, rv r_142, .unset] [(.ref b62), (.int (0 : Int32)), (.int (16 : Int32))])) t → Steps p.tables e below (s₁.setTop (entryFrame m #[(.ref b62), (.ref r_142)] 3)) t := fun t kt => by
    refine pre673 _ ?_
    show Steps p.tables e below (T672.setTop (mkF m 18 #[rv b62, rv r_142, .unset] [(.int (0 : Int32)), (.int (16 : Int32))])) _
    refine XS.aloadN X672.here hx rfl (hb hby d6_18) rfl rfl ?_
    exact kt
  obtain ⟨T675, X675, e675, st675⟩ := getF X672 hx hZ hown (host := "") (Or.inl (W 18 rfl)) Via.refl e672 Fi4 (g := (mkF m 19 #[rv b62, rv r_142, .unset] [(.ref b62), (.int (0 : Int32)), (.int (16 : Int32))])) rfl rfl (hb hby d6_19)
  have pre676 : ∀ t, Steps p.tables e below (T675.setTop (mkF m 22 #[rv b62, rv r_142, .unset] [(.int (0 : Int32)), (.int (0 : Int32)), (.int (16 : Int32))])) t → Steps p.tables e below (s₁.setTop (entryFrame m #[(.ref b62), (.ref r_142)] 3)) t := fun t kt => pre674 _ (st675 _ kt)
  have pre677 : ∀ t, Steps p.tables e below (T675.setTop (mkF m 25 #[rv b62, rv r_142, .unset] [(.int (0 : Int32)), (.int (16 : Int32))])) t → Steps p.tables e below (s₁.setTop (entryFrame m #[(.ref b62), (.ref r_142)] 3)) t := fun t kt => by
    refine pre676 _ ?_
    show Steps p.tables e below (T675.setTop (mkF m 22 #[rv b62, rv r_142, .unset] [(.int (0 : Int32)), (.int (0 : Int32)), (.int (16 : Int32))])) _
    refine XS.iconst X675.here hx rfl (hb hby d6_22) ?_
    refine XS.ishr X675.here hx rfl (hb hby d6_23) rfl ?_
    show  Steps p.tables e below (T675.setTop (mkF m 24 #[rv b62, rv r_142, .unset] [(.int ((0 : Int32) >>> ((1 : Int32) &&& 31))), (.int (0 : Int32)), (.int (16 : Int32))])) _
    rw [(by decide : (((0 : Int32) >>> ((1 : Int32) &&& 31)) : Int32) = (0 : Int32))]
    refine XS.iadd X675.here hx rfl (hb hby d6_24) rfl ?_
    show  Steps p.tables e below (T675.setTop (mkF m 25 #[rv b62, rv r_142, .unset] [(.int ((0 : Int32) + (0 : Int32))), (.int (16 : Int32))])) _
    rw [(by decide : (((0 : Int32) + (0 : Int32)) : Int32) = (0 : Int32))]
    exact kt
  obtain ⟨_, _, ⟨T678, L678, k678, n678⟩, -, X678, ⟨Lc678, hQ678, l678, y678, z678⟩, st678⟩ := Jvm.LawKit.callS X675 hx (y := (⟨"java/lang/Math", "max", "(II)I"⟩ : MethodName)) hown (mvT hZ (W 39 rfl)) (mvT hZ (W 40 rfl)) (mvT hZ (W 41 rfl)) (mvT hZ (W 42 rfl)) (by decide) (backOf (W := 0) (rm_max7_0 l Z a0 hw [] h0 n0 O0) hZ (W 42 rfl) (W 41 rfl) (by decide) (by decide)) (g := (mkF m 25 #[rv b62, rv r_142, .unset] [(.int (0 : Int32)), (.int (16 : Int32))])) rfl (by rw [hml]; rfl) (argsL := [(.int (16 : Int32)), (.int (0 : Int32))]) (rest := []) (lenOf pd_20 rfl) rfl (by show 2 * 0 + _ ≤ _; exact Nat.le_of_eq rfl) (hb hby d6_25) (fun _ _ => ⟨rfl, e675, (by decide : 0 + 0 ≤ _), (by decide : 0 + 0 ≤ _)⟩)
  dsimp only [Pt.U, Pt.locs, Pt.cells, Pt.slots] at X678 l678 y678 z678 st678 hQ678
  replace l678 := l678.symm
  replace y678 : 0 = k678 := y678.symm
  replace z678 : 0 = n678 := z678.symm
  subst l678 y678 z678
  obtain ⟨rfl, M678, e678⟩ := hQ678
  have N678 := Fr.app N0 M678
  have pre679 : ∀ t, Steps p.tables e below (T678.setTop (mkF m 28 #[rv b62, rv r_142, .unset] [(.int (16 : Int32))])) t → Steps p.tables e below (s₁.setTop (entryFrame m #[(.ref b62), (.ref r_142)] 3)) t := fun t kt => pre677 _ (st678 _ kt)
  have pre680 : ∀ t, Steps p.tables e below (T678.setTop (mkF m 31 #[rv b62, rv r_142, iv (16 : Int32)] [(.ref b62), (.ref b62)])) t → Steps p.tables e below (s₁.setTop (entryFrame m #[(.ref b62), (.ref r_142)] 3)) t := fun t kt => by
    refine pre679 _ ?_
    show Steps p.tables e below (T678.setTop (mkF m 28 #[rv b62, rv r_142, .unset] [(.int (16 : Int32))])) _
    refine XS.istoreN X678.here hx rfl (hb hby d6_28) rfl (l' := #[rv b62, rv r_142, iv (16 : Int32)]) rfl ?_
    refine XS.aloadN X678.here hx rfl (hb hby d6_29) rfl rfl ?_
    refine XS.aloadN X678.here hx rfl (hb hby d6_30) rfl rfl ?_
    exact kt
  obtain ⟨T681, X681, e681, st681⟩ := getF X678 hx hZ hown (host := "") (Or.inl (W 11 rfl)) Via.refl e678 Fi3 (g := (mkF m 31 #[rv b62, rv r_142, iv (16 : Int32)] [(.ref b62), (.ref b62)])) rfl rfl (hb hby d6_31)
  have pre682 : ∀ t, Steps p.tables e below (T681.setTop (mkF m 34 #[rv b62, rv r_142, iv (16 : Int32)] [(.ref a_NO_SLOTS), (.ref b62)])) t → Steps p.tables e below (s₁.setTop (entryFrame m #[(.ref b62), (.ref r_142)] 3)) t := fun t kt => pre680 _ (st681 _ kt)
  have pre683 : ∀ t, Steps p.tables e below (T681.setTop (mkF m 44 #[rv b62, rv r_142, iv (16 : Int32)] [(.int (16 : Int32)), (.ref a_NO_SLOTS), (.ref b62)])) t → Steps p.tables e below (s₁.setTop (entryFrame m #[(.ref b62), (.ref r_142)] 3)) t := fun t kt => by
    refine pre682 _ ?_
    show Steps p.tables e below (T681.setTop (mkF m 34 #[rv b62, rv r_142, iv (16 : Int32)] [(.ref a_NO_SLOTS), (.ref b62)])) _
    refine XS.iloadN X681.here hx rfl (hb hby d6_34) rfl ?_
    refine XS.ifYes X681.here hx rfl (pc0 := 35) (pc' := 43) rfl (hb hby d6_35) rfl (XT.i0_ge_t (by decide)) (by decide) (by decide) ?_
    refine XS.iloadN X681.here hx rfl (hb hby d6_43) rfl ?_
    exact kt
  obtain ⟨_, _, ⟨T684, L684, k684, n684⟩, -, X684, ⟨Lc684, hQ684, l684, y684, z684⟩, st684⟩ := Jvm.LawKit.callS X681 hx (y := (⟨"java/util/Arrays", "copyOf", "([Ljava/lang/Object;I)[Ljava/lang/Object;"⟩ : MethodName)) hown (mvT hZ (W 43 rfl)) (mvT hZ (W 44 rfl)) (mvT hZ (W 45 rfl)) (mvT hZ (W 46 rfl)) (by decide) (backOf (W := 1) (rm_copyOf8_0 l Z a0 hw [] a_NO_SLOTS mr kn b109_68 k109_68 h0 n0 O0 G0 G1 G2 Fi0) hZ (W 46 rfl) (W 45 rfl) (by decide) (by decide)) (g := (mkF m 44 #[rv b62, rv r_142, iv (16 : Int32)] [(.int (16 : Int32)), (.ref a_NO_SLOTS), (.ref b62)])) rfl (by rw [hml]; rfl) (argsL := [(.ref a_NO_SLOTS), (.int (16 : Int32))]) (rest := [(.ref b62)]) (lenOf pd_27 rfl) rfl (by show 2 * 0 + _ ≤ _; exact Nat.le_of_eq rfl) (hb hby d6_44) (fun _ _ => ⟨rfl, e681, (by decide : 0 + 1 ≤ _), (by decide : 0 + 16 ≤ _)⟩)
  dsimp only [Pt.U, Pt.locs, Pt.cells, Pt.slots] at X684 l684 y684 z684 st684 hQ684
  replace l684 := l684.symm
  replace y684 : 1 = k684 := y684.symm
  replace z684 : 16 = n684 := z684.symm
  subst l684 y684 z684
  obtain ⟨k514_684, b514_684, rfl, M684, Kc684, O684, J684_0, J684_1, J684_2, P684_0⟩ := hQ684
  obtain ⟨h684, e684⟩ : ∃ z, T684.heap = z := ⟨_, rfl⟩
  rw [e684] at Kc684 O684 J684_1 J684_2
  try rw [e684] at P684_0
  have N684 := Fr.app N678 M684
  have K684 : Keep h0 h684 [b62] := K0.trans Kc684 (own_all0 )
  have pre685 : ∀ t, Steps p.tables e below (T684.setTop (mkF m 47 #[rv b62, rv r_142, iv (16 : Int32)] [(.ref b514_684), (.ref b62)])) t → Steps p.tables e below (s₁.setTop (entryFrame m #[(.ref b62), (.ref r_142)] 3)) t := fun t kt => pre683 _ (st684 _ kt)
  have F686 := Fi0.keep Kc684 (own_nm0 )
  have F687 := Fi1.keep Kc684
  have F688 := Fi2.keep Kc684
  have F689 := Fi3.keep Kc684 (own_nm0 )
  have F690 := Fi4.keep Kc684 (own_nm0 )
  have sz_b514_684 : h0.size ≤ b514_684 := Nat.le_trans K0.1 P684_0
  have ne_a_NO_SLOTS_b514_684 : a_NO_SLOTS ≠ b514_684 := Nat.ne_of_lt (Nat.lt_of_lt_of_le (G1.ext O0.2).lt P684_0)
  have ne_b109_68_b514_684 : b109_68 ≠ b514_684 := Nat.ne_of_lt (Nat.lt_of_lt_of_le Fi0.lt P684_0)
  have ne_r_142_b514_684 : r_142 ≠ b514_684 := Nat.ne_of_lt (Nat.lt_of_lt_of_le Fi1.lt P684_0)
  have ne_b62_b514_684 : b62 ≠ b514_684 := Nat.ne_of_lt (Nat.lt_of_lt_of_le Fi2.lt P684_0)
  have g_b514_684 : n0 ≤ b514_684 := Nat.le_trans (Nat.le_trans (Nat.le_of_eq O0.1.symm) O0.2.1) sz_b514_684
  obtain ⟨T691, h691, X691, e691, W691, st691⟩ := putF X684 hx hZ hown (host := "") (Or.inl (W 11 rfl)) Via.refl e684 F689 F688 (Or.inl (W 12 rfl)) (W 1 rfl) (ty := (.array (.object "java/lang/Object"))) (by decide) rfl rfl (g := (mkF m 47 #[rv b62, rv r_142, iv (16 : Int32)] [(.ref b514_684), (.ref b62)])) rfl rfl (hb hby d6_47)
  have pre692 : ∀ t, Steps p.tables e below (T691.setTop (mkF m 50 #[rv b62, rv r_142, iv (16 : Int32)] [])) t → Steps p.tables e below (s₁.setTop (entryFrame m #[(.ref b62), (.ref r_142)] 3)) t := fun t kt => pre685 _ (st691 _ kt)
  have N691 := Fr.snoc X691 N684 g_b62
  have O691 := O684.wr W691 g_b62
  have K691 : Keep h0 h691 [b62] := K684.wr W691 (Or.inl (List.mem_of_getElem? (i := 0) rfl))
  have F693 := F686.other W691 q0
  have F694 := F687.wr W691
  have F695 := F688.wr W691
  have F696 := F690.other W691 (Or.inr (slot_ne (Or.inl (W 19 rfl)) (Or.inl (W 12 rfl)) (by decide) (t := .int) (t' := (.array (.object "java/lang/Object"))) (by decide) (by decide)))
  have F697 := J684_1.wr W691
  have F698 := J684_2.other W691 (fun q => ne_b62_b514_684 q.symm)
  have F699 : Fld Z h691 b62 "com/example/homethread/homethread/Items" "slots" "[Ljava/lang/Object;" (.ref b514_684) := F689.same W691
  have pre700 : ∀ t, Steps p.tables e below (T691.setTop (mkF m 51 #[rv b62, rv r_142, iv (16 : Int32)] [(.ref b62)])) t → Steps p.tables e below (s₁.setTop (entryFrame m #[(.ref b62), (.ref r_142)] 3)) t := fun t kt => by
    refine pre692 _ ?_
    show Steps p.tables e below (T691.setTop (mkF m 50 #[rv b62, rv r_142, iv (16 : Int32)] [])) _
    refine XS.aloadN X691.here hx rfl (hb hby d6_50) rfl rfl ?_
    exact kt
  obtain ⟨T701, X701, e701, st701⟩ := getF X691 hx hZ hown (host := "") (Or.inl (W 11 rfl)) Via.refl e691 F699 (g := (mkF m 51 #[rv b62, rv r_142, iv (16 : Int32)] [(.ref b62)])) rfl rfl (hb hby d6_51)
  have pre702 : ∀ t, Steps p.tables e below (T701.setTop (mkF m 54 #[rv b62, rv r_142, iv (16 : Int32)] [(.ref b514_684)])) t → Steps p.tables e below (s₁.setTop (entryFrame m #[(.ref b62), (.ref r_142)] 3)) t := fun t kt => pre700 _ (st701 _ kt)
  have pre703 : ∀ t, Steps p.tables e below (T701.setTop (mkF m 55 #[rv b62, rv r_142, iv (16 : Int32)] [(.ref b62), (.ref b514_684)])) t → Steps p.tables e below (s₁.setTop (entryFrame m #[(.ref b62), (.ref r_142)] 3)) t := fun t kt => by
    refine pre702 _ ?_
    show Steps p.tables e below (T701.setTop (mkF m 54 #[rv b62, rv r_142, iv (16 : Int32)] [(.ref b514_684)])) _
    refine XS.aloadN X701.here hx rfl (hb hby d6_54) rfl rfl ?_
    exact kt
  obtain ⟨T704, X704, e704, st704⟩ := getF X701 hx hZ hown (host := "") (Or.inl (W 18 rfl)) Via.refl e701 F696 (g := (mkF m 55 #[rv b62, rv r_142, iv (16 : Int32)] [(.ref b62), (.ref b514_684)])) rfl rfl (hb hby d6_55)
  have pre705 : ∀ t, Steps p.tables e below (T704.setTop (mkF m 58 #[rv b62, rv r_142, iv (16 : Int32)] [(.int (0 : Int32)), (.ref b514_684)])) t → Steps p.tables e below (s₁.setTop (entryFrame m #[(.ref b62), (.ref r_142)] 3)) t := fun t kt => pre703 _ (st704 _ kt)
  have pre706 : ∀ t, Steps p.tables e below (T704.setTop (mkF m 59 #[rv b62, rv r_142, iv (16 : Int32)] [(.ref r_142), (.int (0 : Int32)), (.ref b514_684)])) t → Steps p.tables e below (s₁.setTop (entryFrame m #[(.ref b62), (.ref r_142)] 3)) t := fun t kt => by
    refine pre705 _ ?_
    show Steps p.tables e below (T704.setTop (mkF m 58 #[rv b62, rv r_142, iv (16 : Int32)] [(.int (0 : Int32)), (.ref b514_684)])) _
    refine XS.aloadN X704.here hx rfl (hb hby d6_58) rfl rfl ?_
    exact kt
  obtain ⟨c707, Ar707, q707, S707, M707, H707, G707⟩ := id F698
  have i707 : ¬ ((0 : Int32) < 0 ∨ c707.slots.size ≤ ((0 : Int32)).toNatClampNeg) := inb_of S707 ⟨by decide, by decide⟩
  obtain ⟨T708, h708, X708, e708, W708, st708⟩ := stR X704 hx hZ e704 Ar707 (j := (0 : Int32)) i707 rfl (Sto.ofV Ar707 q707 J684_0 (Ins.of_exa F694 (W 65 rfl))) (g := (mkF m 59 #[rv b62, rv r_142, iv (16 : Int32)] [(.ref r_142), (.int (0 : Int32)), (.ref b514_684)])) rfl rfl (hb hby d6_59)
  have pre709 : ∀ t, Steps p.tables e below (T708.setTop (mkF m 60 #[rv b62, rv r_142, iv (16 : Int32)] [])) t → Steps p.tables e below (s₁.setTop (entryFrame m #[(.ref b62), (.ref r_142)] 3)) t := fun t kt => pre706 _ (st708 _ kt)
  have N708 := Fr.snoc X708 N691 g_b514_684
  have O708 := O691.wr W708 g_b514_684
  have K708 : Keep h0 h708 [b62] := K691.wr W708 (Or.inr sz_b514_684)
  have F710 := F693.other W708 ne_b109_68_b514_684
  have F711 := F694.wr W708
  have F712 := F695.wr W708
  have F713 := F696.other W708 (Or.inl ne_b62_b514_684)
  have F714 := F697.wr W708
  have F715 := F699.other W708 (Or.inl ne_b62_b514_684)
  have F716 : Arv Z h708 b514_684 k514_684 (.object "java/lang/Object") (16 : Int32) [(.ref r_142), .null, .null, .null, .null, .null, .null, .null, .null, .null, .null, .null, .null, .null, .null, .null] .null := Arv.set Ar707 q707 S707 M707 H707 G707 rfl W708 0 rfl (Nat.le_of_ble_eq_true rfl)
  have pre717 : ∀ t, Steps p.tables e below (T708.setTop (mkF m 62 #[rv b62, rv r_142, iv (16 : Int32)] [(.ref b62), (.ref b62)])) t → Steps p.tables e below (s₁.setTop (entryFrame m #[(.ref b62), (.ref r_142)] 3)) t := fun t kt => by
    refine pre709 _ ?_
    show Steps p.tables e below (T708.setTop (mkF m 60 #[rv b62, rv r_142, iv (16 : Int32)] [])) _
    refine XS.aloadN X708.here hx rfl (hb hby d6_60) rfl rfl ?_
    refine XS.dup X708.here hx rfl (hb hby d6_61) rfl rfl ?_
    exact kt
  obtain ⟨T718, X718, e718, st718⟩ := getF X708 hx hZ hown (host := "") (Or.inl (W 18 rfl)) Via.refl e708 F713 (g := (mkF m 62 #[rv b62, rv r_142, iv (16 : Int32)] [(.ref b62), (.ref b62)])) rfl rfl (hb hby d6_62)
  have pre719 : ∀ t, Steps p.tables e below (T718.setTop (mkF m 65 #[rv b62, rv r_142, iv (16 : Int32)] [(.int (0 : Int32)), (.ref b62)])) t → Steps p.tables e below (s₁.setTop (entryFrame m #[(.ref b62), (.ref r_142)] 3)) t := fun t kt => pre717 _ (st718 _ kt)
  have pre720 : ∀ t, Steps p.tables e below (T718.setTop (mkF m 67 #[rv b62, rv r_142, iv (16 : Int32)] [(.int (1 : Int32)), (.ref b62)])) t → Steps p.tables e below (s₁.setTop (entryFrame m #[(.ref b62), (.ref r_142)] 3)) t := fun t kt => by
    refine pre719 _ ?_
    show Steps p.tables e below (T718.setTop (mkF m 65 #[rv b62, rv r_142, iv (16 : Int32)] [(.int (0 : Int32)), (.ref b62)])) _
    refine XS.iconst X718.here hx rfl (hb hby d6_65) ?_
    refine XS.iadd X718.here hx rfl (hb hby d6_66) rfl ?_
    show  Steps p.tables e below (T718.setTop (mkF m 67 #[rv b62, rv r_142, iv (16 : Int32)] [(.int ((0 : Int32) + (1 : Int32))), (.ref b62)])) _
    rw [(by decide : (((0 : Int32) + (1 : Int32)) : Int32) = (1 : Int32))]
    exact kt
  obtain ⟨T721, h721, X721, e721, W721, st721⟩ := putF X718 hx hZ hown (host := "") (Or.inl (W 18 rfl)) Via.refl e718 F713 F712 (Or.inl (W 19 rfl)) (W 1 rfl) (ty := .int) (by decide) rfl rfl (g := (mkF m 67 #[rv b62, rv r_142, iv (16 : Int32)] [(.int (1 : Int32)), (.ref b62)])) rfl rfl (hb hby d6_67)
  have pre722 : ∀ t, Steps p.tables e below (T721.setTop (mkF m 70 #[rv b62, rv r_142, iv (16 : Int32)] [])) t → Steps p.tables e below (s₁.setTop (entryFrame m #[(.ref b62), (.ref r_142)] 3)) t := fun t kt => pre720 _ (st721 _ kt)
  have N721 := Fr.snoc X721 N708 g_b62
  have O721 := O708.wr W721 g_b62
  have K721 : Keep h0 h721 [b62] := K708.wr W721 (Or.inl (List.mem_of_getElem? (i := 0) rfl))
  have F723 := F710.other W721 q0
  have F724 := F711.wr W721
  have F725 := F712.wr W721
  have F726 := F714.wr W721
  have F727 := F715.other W721 (Or.inr (slot_ne (Or.inl (W 12 rfl)) (Or.inl (W 19 rfl)) (by decide) (t := (.array (.object "java/lang/Object"))) (t' := .int) (by decide) (by decide)))
  have F728 := F716.other W721 (fun q => ne_b62_b514_684 q.symm)
  have F729 : Fld Z h721 b62 "com/example/homethread/homethread/Items" "size" "I" (.int (1 : Int32)) := F713.same W721
  obtain ⟨fs, hr, hrun, hended, hW, hsame⟩ := X721.leave (v := none) (fun _ => rfl)
  refine ⟨_, _, pre722 _ (X721.returnOut hx Bd.returns (hb hby d6_70) hr), hrun, hended, _, _, rfl, ?_, ⟨_, rfl⟩, hW, hsame.mono (by decide) (by decide)⟩
  show Q_add6_1 Z b62 r_142 mr a_NO_SLOTS kn b109_68 k109_68 h0 n0 _ T721.heap _
  rw [e721]
  exact ⟨k514_684, b514_684, rfl, N721, K721, O721, F725, J684_0, F726, F727, F728, F729, sz_b514_684⟩
def Q_clearAndTrim5_2 (Z : State) (b62 : Addr) (p3 : Int32) (b109_68 : Addr) (k109_68 : ClassId) (h0 : Heap) (n0 : Nat) (v : Option Value) (h : Heap) (L : List Loc) : Prop := v = none ∧ Fr n0 L ∧ Keep h0 h [b62] ∧ Old Z n0 h ∧ Exa Z h b62 "com/example/homethread/homethread/Items" ∧ Fld Z h b62 "com/example/homethread/homethread/Items" "slots" "[Ljava/lang/Object;" (.ref b109_68) ∧ Fld Z h b62 "com/example/homethread/homethread/Items" "size" "I" (.int (0 : Int32))
set_option maxRecDepth 65536 in
set_option maxHeartbeats 40000000 in
theorem rm_clearAndTrim5_2 (l : Launch) (Z : State) (a0 : Array Value) (hw : ∀ d ∈ tables_1, d.before a0 Z = true) (ws : List Jvm.Cond) (b62 : Addr) (p3 : Int32) (b109_68 : Addr) (k109_68 : ClassId) (h0 : Heap) (n0 : Nat) (O0 : Old Z n0 h0) (g_b62 : n0 ≤ b62) (Fi0 : Exa Z h0 b62 "com/example/homethread/homethread/Items") (Fi1 : Fld Z h0 b62 "com/example/homethread/homethread/Items" "size" "I" (.int (0 : Int32))) (Fi2 : Arv Z h0 b109_68 k109_68 (.object "java/lang/Object") (16 : Int32) [.null, .null, .null, .null, .null, .null, .null, .null, .null, .null, .null, .null, .null, .null, .null, .null] .null) (Fi3 : Fld Z h0 b62 "com/example/homethread/homethread/Items" "slots" "[Ljava/lang/Object;" (.ref b109_68)) (q0 : ¬ (b109_68 = b62)) (q1 : ¬ (p3 < (16 : Int32))) :
    MetFree l (⟨"com/example/homethread/homethread/Items", "clearAndTrim", "(I)V"⟩ : MethodName) (head1 (Jvm.Cond.code (⟨"com/example/homethread/homethread/Items", "clearAndTrim", "(I)V"⟩ : MethodName) prog_9_method_11_code 2 none :: ws) ({ frames := 0, cells := 0, slots := 0, locals := 0 } : Room)) (fun a U => a = #[(.ref b62), (.int p3)] ∧ Z.Warmed39 U.vm ∧ U.heap = h0) (fun _ _ _ _ _ => True) (fun _ U o U' => ∃ v L, o = .returned v ∧ Q_clearAndTrim5_2 Z b62 p3 b109_68 k109_68 h0 n0 v U'.heap L ∧ FrameEnd U o U' L ({ frames := 0, cells := 0, slots := 0, locals := 0 } : Room).cells ({ frames := 0, cells := 0, slots := 0, locals := 0 } : Room).slots) := by
  refine MetFree.of_bodySF (plainFor_of_name pn_9) hisR ?_
  intro p e s m args below meth c s₁ Bd hml0 hP hK
  have W := fun {d : Jvm.Cond} (i : Nat) (q : tables_1[i]? = some d) => hw d (List.mem_of_getElem? q)
  obtain ⟨rfl, hZ, hh⟩ := hP
  have hx := Bd.exec
  have hby := Bd.bytes
  have hml : c.maxLocals = 2 := hml0
  have hown : s.vm.findClass "com/example/homethread/homethread/Items" = some m.cls := findClass_of_methodNamed Bd.named
  have hnm := (name_of_methodNamed Bd.named Bd.method).1
  have X0 : Stand p l e ({ frames := 0, cells := 0, slots := 0, locals := 0 } : Room) s m #[(.ref b62), (.int p3)] below meth c s₁ [] 0 0 := Stand.of_body Bd
  have e0 : s₁.heap = h0 := by rw [← hh, Bd.state]; rfl
  have N0 := Fr.nil n0
  have pre0 : ∀ t, Steps p.tables e below (s₁.setTop (mkF m 0 #[rv b62, iv p3] [])) t → Steps p.tables e below (s₁.setTop (entryFrame m #[(.ref b62), (.int p3)] 2)) t := fun t k => castTop (ef_17 m b62 p3) k
  have K0 : Keep h0 h0 [b62] := Keep.refl h0 [b62]
  have pre763 : ∀ t, Steps p.tables e below (s₁.setTop (mkF m 1 #[rv b62, iv p3] [(.ref b62)])) t → Steps p.tables e below (s₁.setTop (entryFrame m #[(.ref b62), (.int p3)] 2)) t := fun t kt => by
    refine pre0 _ ?_
    show Steps p.tables e below (s₁.setTop (mkF m 0 #[rv b62, iv p3] [])) _
    refine XS.aloadN X0.here hx rfl (hb hby d5_0) rfl rfl ?_
    exact kt
  obtain ⟨T764, X764, e764, st764⟩ := getF X0 hx hZ hown (host := "") (Or.inl (W 11 rfl)) Via.refl e0 Fi3 (g := (mkF m 1 #[rv b62, iv p3] [(.ref b62)])) rfl rfl (hb hby d5_1)
  have pre765 : ∀ t, Steps p.tables e below (T764.setTop (mkF m 4 #[rv b62, iv p3] [(.ref b109_68)])) t → Steps p.tables e below (s₁.setTop (entryFrame m #[(.ref b62), (.int p3)] 2)) t := fun t kt => pre763 _ (st764 _ kt)
  obtain ⟨c766, Ar766, -, S766, M766, -, -⟩ := id Fi2
  have pre767 : ∀ t, Steps p.tables e below (T764.setTop (mkF m 18 #[rv b62, iv p3] [(.int (0 : Int32)), (.ref b62)])) t → Steps p.tables e below (s₁.setTop (entryFrame m #[(.ref b62), (.int p3)] 2)) t := fun t kt => by
    refine pre765 _ ?_
    show Steps p.tables e below (T764.setTop (mkF m 4 #[rv b62, iv p3] [(.ref b109_68)])) _
    refine X764.arraylength hx (by rw [e764]; exact Ar766.1) (State.isArrayOf_alike hZ.alike Ar766.2.1) (g := (mkF m 4 #[rv b62, iv p3] [(.ref b109_68)])) rfl rfl (hb hby d5_4) _ ?_
    rw [len_of S766 M766]
    refine XS.iloadN X764.here hx rfl (hb hby d5_5) rfl ?_
    refine XS.icmpYes X764.here hx rfl (pc0 := 6) (pc' := 16) rfl (hb hby d5_6) rfl (XT.ii_le_t q1) (by decide) (by decide) ?_
    refine XS.aloadN X764.here hx rfl (hb hby d5_16) rfl rfl ?_
    show Steps p.tables e below (T764.setTop (mkF m 17 #[rv b62, iv p3] [(.ref b62)])) _
    refine XS.iconst X764.here hx rfl (hb hby d5_17) ?_
    exact kt
  obtain ⟨T768, h768, X768, e768, W768, st768⟩ := putF X764 hx hZ hown (host := "") (Or.inl (W 18 rfl)) Via.refl e764 Fi1 Fi0 (Or.inl (W 19 rfl)) (W 1 rfl) (ty := .int) (by decide) rfl rfl (g := (mkF m 18 #[rv b62, iv p3] [(.int (0 : Int32)), (.ref b62)])) rfl rfl (hb hby d5_18)
  have pre769 : ∀ t, Steps p.tables e below (T768.setTop (mkF m 21 #[rv b62, iv p3] [])) t → Steps p.tables e below (s₁.setTop (entryFrame m #[(.ref b62), (.int p3)] 2)) t := fun t kt => pre767 _ (st768 _ kt)
  have N768 := Fr.snoc X768 N0 g_b62
  have O768 := O0.wr W768 g_b62
  have K768 : Keep h0 h768 [b62] := K0.wr W768 (Or.inl (List.mem_of_getElem? (i := 0) rfl))
  have F770 := Fi0.wr W768
  have F771 := Fi2.other W768 q0
  have F772 := Fi3.other W768 (Or.inr (slot_ne (Or.inl (W 12 rfl)) (Or.inl (W 19 rfl)) (by decide) (t := (.array (.object "java/lang/Object"))) (t' := .int) (by decide) (by decide)))
  have F773 : Fld Z h768 b62 "com/example/homethread/homethread/Items" "size" "I" (.int (0 : Int32)) := Fi1.same W768
  obtain ⟨fs, hr, hrun, hended, hW, hsame⟩ := X768.leave (v := none) (fun _ => rfl)
  refine ⟨_, _, pre769 _ (X768.returnOut hx Bd.returns (hb hby d5_21) hr), hrun, hended, _, _, rfl, ?_, ⟨_, rfl⟩, hW, hsame.mono (by decide) (by decide)⟩
  show Q_clearAndTrim5_2 Z b62 p3 b109_68 k109_68 h0 n0 _ T768.heap _
  rw [e768]
  exact ⟨rfl, N768, K768, O768, F770, F772, F773⟩
theorem d13_0 : decode prog_9_method_12_code 0 = .ok (.aload_n 0, 1) := by decide +kernel
theorem d13_1 : decode prog_9_method_12_code 1 = .ok (.getfield 82, 3) := by decide +kernel
theorem d13_4 : decode prog_9_method_12_code 4 = .ok (.iconst 1, 1) := by decide +kernel
theorem d13_5 : decode prog_9_method_12_code 5 = .ok (.isub, 1) := by decide +kernel
theorem d13_6 : decode prog_9_method_12_code 6 = .ok (.istore_n 3, 1) := by decide +kernel
theorem d13_7 : decode prog_9_method_12_code 7 = .ok (.iload_n 3, 1) := by decide +kernel
theorem d13_8 : decode prog_9_method_12_code 8 = .ok (.iload_n 2, 1) := by decide +kernel
theorem d13_9 : decode prog_9_method_12_code 9 = .ok (.if_icmp .lt 64, 3) := by decide +kernel
theorem d13_73 : decode prog_9_method_12_code 73 = .ok (.iconst 0, 1) := by decide +kernel
theorem d13_74 : decode prog_9_method_12_code 74 = .ok (.ireturn, 1) := by decide +kernel
theorem ef_28 (m : MethodId) (x0 : Addr) (x1 : Addr) (x2 : Int32) : entryFrame m #[(.ref x0), (.ref x1), (.int x2)] 4 = mkF m 0 #[.val (.ref x0), .val (.ref x1), .val (.int x2), .unset] [] := by first | (simp [entryFrame, mkF, argsToLocals, Value.category]; done) | rfl
def Q_removeLast13_0 (Z : State) (b62 : Addr) (r_142 : Addr) (h0 : Heap) (n0 : Nat) (v : Option Value) (h : Heap) (L : List Loc) : Prop := v = some (.int (0 : Int32)) ∧ Fr n0 L ∧ h = h0
set_option maxRecDepth 65536 in
set_option maxHeartbeats 40000000 in
theorem rm_removeLast13_0 (l : Launch) (Z : State) (a0 : Array Value) (hw : ∀ d ∈ tables_1, d.before a0 Z = true) (ws : List Jvm.Cond) (b62 : Addr) (r_142 : Addr) (h0 : Heap) (n0 : Nat) (O0 : Old Z n0 h0) (Fi0 : Fld Z h0 b62 "com/example/homethread/homethread/Items" "size" "I" (.int (0 : Int32))) :
    MetFree l (⟨"com/example/homethread/homethread/Items", "removeLast", "(Ljava/lang/Object;I)Z"⟩ : MethodName) (head1 (Jvm.Cond.code (⟨"com/example/homethread/homethread/Items", "removeLast", "(Ljava/lang/Object;I)Z"⟩ : MethodName) prog_9_method_12_code 4 (some .boolean) :: ws) ({ frames := 0, cells := 0, slots := 0, locals := 0 } : Room)) (fun a U => a = #[(.ref b62), (.ref r_142), (.int (0 : Int32))] ∧ Z.Warmed39 U.vm ∧ U.heap = h0) (fun _ _ _ _ _ => True) (fun _ U o U' => ∃ v L, o = .returned v ∧ Q_removeLast13_0 Z b62 r_142 h0 n0 v U'.heap L ∧ FrameEnd U o U' L ({ frames := 0, cells := 0, slots := 0, locals := 0 } : Room).cells ({ frames := 0, cells := 0, slots := 0, locals := 0 } : Room).slots) := by
  refine MetFree.of_bodySF (plainFor_of_name pn_9) hisR ?_
  intro p e s m args below meth c s₁ Bd hml0 hP hK
  have W := fun {d : Jvm.Cond} (i : Nat) (q : tables_1[i]? = some d) => hw d (List.mem_of_getElem? q)
  obtain ⟨rfl, hZ, hh⟩ := hP
  have hx := Bd.exec
  have hby := Bd.bytes
  have hml : c.maxLocals = 4 := hml0
  have hown : s.vm.findClass "com/example/homethread/homethread/Items" = some m.cls := findClass_of_methodNamed Bd.named
  have hnm := (name_of_methodNamed Bd.named Bd.method).1
  have X0 : Stand p l e ({ frames := 0, cells := 0, slots := 0, locals := 0 } : Room) s m #[(.ref b62), (.ref r_142), (.int (0 : Int32))] below meth c s₁ [] 0 0 := Stand.of_body Bd
  have e0 : s₁.heap = h0 := by rw [← hh, Bd.state]; rfl
  have N0 := Fr.nil n0
  have pre0 : ∀ t, Steps p.tables e below (s₁.setTop (mkF m 0 #[rv b62, rv r_142, iv (0 : Int32), .unset] [])) t → Steps p.tables e below (s₁.setTop (entryFrame m #[(.ref b62), (.ref r_142), (.int (0 : Int32))] 4)) t := fun t k => castTop (ef_28 m b62 r_142 (0 : Int32)) k
  have K0 : Keep h0 h0 [] := Keep.refl h0 []
  have pre799 : ∀ t, Steps p.tables e below (s₁.setTop (mkF m 1 #[rv b62, rv r_142, iv (0 : Int32), .unset] [(.ref b62)])) t → Steps p.tables e below (s₁.setTop (entryFrame m #[(.ref b62), (.ref r_142), (.int (0 : Int32))] 4)) t := fun t kt => by
    refine pre0 _ ?_
    show Steps p.tables e below (s₁.setTop (mkF m 0 #[rv b62, rv r_142, iv (0 : Int32), .unset] [])) _
    refine XS.aloadN X0.here hx rfl (hb hby d13_0) rfl rfl ?_
    exact kt
  obtain ⟨T800, X800, e800, st800⟩ := getF X0 hx hZ hown (host := "") (Or.inl (W 18 rfl)) Via.refl e0 Fi0 (g := (mkF m 1 #[rv b62, rv r_142, iv (0 : Int32), .unset] [(.ref b62)])) rfl rfl (hb hby d13_1)
  have pre801 : ∀ t, Steps p.tables e below (T800.setTop (mkF m 4 #[rv b62, rv r_142, iv (0 : Int32), .unset] [(.int (0 : Int32))])) t → Steps p.tables e below (s₁.setTop (entryFrame m #[(.ref b62), (.ref r_142), (.int (0 : Int32))] 4)) t := fun t kt => pre799 _ (st800 _ kt)
  have pre802 : ∀ t, Steps p.tables e below (T800.setTop (mkF m 74 #[rv b62, rv r_142, iv (0 : Int32), iv (-1 : Int32)] [(.int (0 : Int32))])) t → Steps p.tables e below (s₁.setTop (entryFrame m #[(.ref b62), (.ref r_142), (.int (0 : Int32))] 4)) t := fun t kt => by
    refine pre801 _ ?_
    show Steps p.tables e below (T800.setTop (mkF m 4 #[rv b62, rv r_142, iv (0 : Int32), .unset] [(.int (0 : Int32))])) _
    refine XS.iconst X800.here hx rfl (hb hby d13_4) ?_
    refine XS.isub X800.here hx rfl (hb hby d13_5) rfl ?_
    show  Steps p.tables e below (T800.setTop (mkF m 6 #[rv b62, rv r_142, iv (0 : Int32), .unset] [(.int ((0 : Int32) - (1 : Int32)))])) _
    rw [(by decide : (((0 : Int32) - (1 : Int32)) : Int32) = (-1 : Int32))]
    refine XS.istoreN X800.here hx rfl (hb hby d13_6) rfl (l' := #[rv b62, rv r_142, iv (0 : Int32), iv (-1 : Int32)]) rfl ?_
    refine XS.iloadN X800.here hx rfl (hb hby d13_7) rfl ?_
    show Steps p.tables e below (T800.setTop (mkF m 8 #[rv b62, rv r_142, iv (0 : Int32), iv (-1 : Int32)] [(.int (-1 : Int32))])) _
    refine XS.iloadN X800.here hx rfl (hb hby d13_8) rfl ?_
    refine XS.icmpYes X800.here hx rfl (pc0 := 9) (pc' := 73) rfl (hb hby d13_9) rfl (XT.ii_lt_t (by decide)) (by decide) (by decide) ?_
    refine XS.iconst X800.here hx rfl (hb hby d13_73) ?_
    exact kt
  obtain ⟨fs, hr, hrun, hended, hW, hsame⟩ := X800.leave (v := some (.int (0 : Int32))) (fun h => by rw [Bd.returns] at h; cases h)
  refine ⟨_, _, pre802 _ (retN X800 hx (t := .boolean) Bd.returns (by simp) (hb hby d13_74) hr), hrun, hended, _, _, rfl, ?_, ⟨_, rfl⟩, hW, hsame.mono (by decide) (by decide)⟩
  show Q_removeLast13_0 Z b62 r_142 h0 n0 _ T800.heap _
  rw [e800]
  exact ⟨rfl, N0, rfl⟩
theorem pd_29 : parseMethodDescriptor "(Ljava/lang/Object;I)Z" = some ⟨[(.object "java/lang/Object"), .int], some .boolean⟩ := by decide +kernel
def Q_add6_2 (Z : State) (b62 : Addr) (r_816 : Addr) (k109_68 : ClassId) (b109_68 : Addr) (h0 : Heap) (n0 : Nat) (v : Option Value) (h : Heap) (L : List Loc) : Prop := v = none ∧ Fr n0 L ∧ Keep h0 h [b62, b109_68] ∧ Old Z n0 h ∧ Exa Z h b62 "com/example/homethread/homethread/Items" ∧ Exa Z h b109_68 "[Ljava/lang/Object;" ∧ Fld Z h b62 "com/example/homethread/homethread/Items" "slots" "[Ljava/lang/Object;" (.ref b109_68) ∧ Arv Z h b109_68 k109_68 (.object "java/lang/Object") (16 : Int32) [(.ref r_816), (.ref r_816), .null, .null, .null, .null, .null, .null, .null, .null, .null, .null, .null, .null, .null, .null] .null ∧ Fld Z h b62 "com/example/homethread/homethread/Items" "size" "I" (.int (2 : Int32))
set_option maxRecDepth 65536 in
set_option maxHeartbeats 40000000 in
theorem rm_add6_2 (l : Launch) (Z : State) (a0 : Array Value) (hw : ∀ d ∈ tables_1, d.before a0 Z = true) (ws : List Jvm.Cond) (b62 : Addr) (r_816 : Addr) (k109_68 : ClassId) (b109_68 : Addr) (h0 : Heap) (n0 : Nat) (O0 : Old Z n0 h0) (g_b62 : n0 ≤ b62) (g_b109_68 : n0 ≤ b109_68) (Fi0 : Ovr Z k109_68 "java/lang/Object") (Fi1 : Exa Z h0 r_816 "java/lang/Integer") (Fi2 : Exa Z h0 b62 "com/example/homethread/homethread/Items") (Fi3 : Exa Z h0 b109_68 "[Ljava/lang/Object;") (Fi4 : Fld Z h0 b62 "com/example/homethread/homethread/Items" "slots" "[Ljava/lang/Object;" (.ref b109_68)) (Fi5 : Arv Z h0 b109_68 k109_68 (.object "java/lang/Object") (16 : Int32) [(.ref r_816), .null, .null, .null, .null, .null, .null, .null, .null, .null, .null, .null, .null, .null, .null, .null] .null) (Fi6 : Fld Z h0 b62 "com/example/homethread/homethread/Items" "size" "I" (.int (1 : Int32))) (q0 : ¬ (b109_68 = b62)) :
    MetFree l (⟨"com/example/homethread/homethread/Items", "add", "(Ljava/lang/Object;)V"⟩ : MethodName) (head1 (Jvm.Cond.code (⟨"com/example/homethread/homethread/Items", "add", "(Ljava/lang/Object;)V"⟩ : MethodName) prog_9_method_8_code 3 none :: ws) ({ frames := 0, cells := 0, slots := 0, locals := 0 } : Room)) (fun a U => a = #[(.ref b62), (.ref r_816)] ∧ Z.Warmed39 U.vm ∧ U.heap = h0) (fun _ _ _ _ _ => True) (fun _ U o U' => ∃ v L, o = .returned v ∧ Q_add6_2 Z b62 r_816 k109_68 b109_68 h0 n0 v U'.heap L ∧ FrameEnd U o U' L ({ frames := 0, cells := 0, slots := 0, locals := 0 } : Room).cells ({ frames := 0, cells := 0, slots := 0, locals := 0 } : Room).slots) := by
  refine MetFree.of_bodySF (plainFor_of_name pn_9) hisR ?_
  intro p e s m args below meth c s₁ Bd hml0 hP hK
  have W := fun {d : Jvm.Cond} (i : Nat) (q : tables_1[i]? = some d) => hw d (List.mem_of_getElem? q)
  obtain ⟨rfl, hZ, hh⟩ := hP
  have hx := Bd.exec
  have hby := Bd.bytes
  have hml : c.maxLocals = 3 := hml0
  have hown : s.vm.findClass "com/example/homethread/homethread/Items" = some m.cls := findClass_of_methodNamed Bd.named
  have hnm := (name_of_methodNamed Bd.named Bd.method).1
  have X0 : Stand p l e ({ frames := 0, cells := 0, slots := 0, locals := 0 } : Room) s m #[(.ref b62), (.ref r_816)] below meth c s₁ [] 0 0 := Stand.of_body Bd
  have e0 : s₁.heap = h0 := by rw [← hh, Bd.state]; rfl
  have N0 := Fr.nil n0
  have pre0 : ∀ t, Steps p.tables e below (s₁.setTop (mkF m 0 #[rv b62, rv r_816, .unset] [])) t → Steps p.tables e below (s₁.setTop (entryFrame m #[(.ref b62), (.ref r_816)] 3)) t := fun t k => castTop (ef_14 m b62 r_816) k
  have K0 : Keep h0 h0 [b62, b109_68] := Keep.refl h0 [b62, b109_68]
  have pre907 : ∀ t, Steps p.tables e below (s₁.setTop (mkF m 1 #[rv b62, rv r_816, .unset] [(.ref b62)])) t → Steps p.tables e below (s₁.setTop (entryFrame m #[(.ref b62), (.ref r_816)] 3)) t := fun t kt => by
    refine pre0 _ ?_
    show Steps p.tables e below (s₁.setTop (mkF m 0 #[rv b62, rv r_816, .unset] [])) _
    refine XS.aloadN X0.here hx rfl (hb hby d6_0) rfl rfl ?_
    exact kt
  obtain ⟨T908, X908, e908, st908⟩ := getF X0 hx hZ hown (host := "") (Or.inl (W 18 rfl)) Via.refl e0 Fi6 (g := (mkF m 1 #[rv b62, rv r_816, .unset] [(.ref b62)])) rfl rfl (hb hby d6_1)
  have pre909 : ∀ t, Steps p.tables e below (T908.setTop (mkF m 4 #[rv b62, rv r_816, .unset] [(.int (1 : Int32))])) t → Steps p.tables e below (s₁.setTop (entryFrame m #[(.ref b62), (.ref r_816)] 3)) t := fun t kt => pre907 _ (st908 _ kt)
  have pre910 : ∀ t, Steps p.tables e below (T908.setTop (mkF m 5 #[rv b62, rv r_816, .unset] [(.ref b62), (.int (1 : Int32))])) t → Steps p.tables e below (s₁.setTop (entryFrame m #[(.ref b62), (.ref r_816)] 3)) t := fun t kt => by
    refine pre909 _ ?_
    show Steps p.tables e below (T908.setTop (mkF m 4 #[rv b62, rv r_816, .unset] [(.int (1 : Int32))])) _
    refine XS.aloadN X908.here hx rfl (hb hby d6_4) rfl rfl ?_
    exact kt
  obtain ⟨T911, X911, e911, st911⟩ := getF X908 hx hZ hown (host := "") (Or.inl (W 11 rfl)) Via.refl e908 Fi4 (g := (mkF m 5 #[rv b62, rv r_816, .unset] [(.ref b62), (.int (1 : Int32))])) rfl rfl (hb hby d6_5)
  have pre912 : ∀ t, Steps p.tables e below (T911.setTop (mkF m 8 #[rv b62, rv r_816, .unset] [(.ref b109_68), (.int (1 : Int32))])) t → Steps p.tables e below (s₁.setTop (entryFrame m #[(.ref b62), (.ref r_816)] 3)) t := fun t kt => pre910 _ (st911 _ kt)
  obtain ⟨c913, Ar913, -, S913, M913, -, -⟩ := id Fi5
  have pre914 : ∀ t, Steps p.tables e below (T911.setTop (mkF m 51 #[rv b62, rv r_816, .unset] [(.ref b62)])) t → Steps p.tables e below (s₁.setTop (entryFrame m #[(.ref b62), (.ref r_816)] 3)) t := fun t kt => by
    refine pre912 _ ?_
    show Steps p.tables e below (T911.setTop (mkF m 8 #[rv b62, rv r_816, .unset] [(.ref b109_68), (.int (1 : Int32))])) _
    refine X911.arraylength hx (by rw [e911]; exact Ar913.1) (State.isArrayOf_alike hZ.alike Ar913.2.1) (g := (mkF m 8 #[rv b62, rv r_816, .unset] [(.ref b109_68), (.int (1 : Int32))])) rfl rfl (hb hby d6_8) _ ?_
    rw [len_of S913 M913]
    refine XS.icmpYes X911.here hx rfl (pc0 := 9) (pc' := 50) rfl (hb hby d6_9) rfl (XT.ii_ne_t (by decide)) (by decide) (by decide) ?_
    refine XS.aloadN X911.here hx rfl (hb hby d6_50) rfl rfl ?_
    exact kt
  obtain ⟨T915, X915, e915, st915⟩ := getF X911 hx hZ hown (host := "") (Or.inl (W 11 rfl)) Via.refl e911 Fi4 (g := (mkF m 51 #[rv b62, rv r_816, .unset] [(.ref b62)])) rfl rfl (hb hby d6_51)
  have pre916 : ∀ t, Steps p.tables e below (T915.setTop (mkF m 54 #[rv b62, rv r_816, .unset] [(.ref b109_68)])) t → Steps p.tables e below (s₁.setTop (entryFrame m #[(.ref b62), (.ref r_816)] 3)) t := fun t kt => pre914 _ (st915 _ kt)
  have pre917 : ∀ t, Steps p.tables e below (T915.setTop (mkF m 55 #[rv b62, rv r_816, .unset] [(.ref b62), (.ref b109_68)])) t → Steps p.tables e below (s₁.setTop (entryFrame m #[(.ref b62), (.ref r_816)] 3)) t := fun t kt => by
    refine pre916 _ ?_
    show Steps p.tables e below (T915.setTop (mkF m 54 #[rv b62, rv r_816, .unset] [(.ref b109_68)])) _
    refine XS.aloadN X915.here hx rfl (hb hby d6_54) rfl rfl ?_
    exact kt
  obtain ⟨T918, X918, e918, st918⟩ := getF X915 hx hZ hown (host := "") (Or.inl (W 18 rfl)) Via.refl e915 Fi6 (g := (mkF m 55 #[rv b62, rv r_816, .unset] [(.ref b62), (.ref b109_68)])) rfl rfl (hb hby d6_55)
  have pre919 : ∀ t, Steps p.tables e below (T918.setTop (mkF m 58 #[rv b62, rv r_816, .unset] [(.int (1 : Int32)), (.ref b109_68)])) t → Steps p.tables e below (s₁.setTop (entryFrame m #[(.ref b62), (.ref r_816)] 3)) t := fun t kt => pre917 _ (st918 _ kt)
  have pre920 : ∀ t, Steps p.tables e below (T918.setTop (mkF m 59 #[rv b62, rv r_816, .unset] [(.ref r_816), (.int (1 : Int32)), (.ref b109_68)])) t → Steps p.tables e below (s₁.setTop (entryFrame m #[(.ref b62), (.ref r_816)] 3)) t := fun t kt => by
    refine pre919 _ ?_
    show Steps p.tables e below (T918.setTop (mkF m 58 #[rv b62, rv r_816, .unset] [(.int (1 : Int32)), (.ref b109_68)])) _
    refine XS.aloadN X918.here hx rfl (hb hby d6_58) rfl rfl ?_
    exact kt
  obtain ⟨c921, Ar921, q921, S921, M921, H921, G921⟩ := id Fi5
  have i921 : ¬ ((1 : Int32) < 0 ∨ c921.slots.size ≤ ((1 : Int32)).toNatClampNeg) := inb_of S921 ⟨by decide, by decide⟩
  obtain ⟨T922, h922, X922, e922, W922, st922⟩ := stR X918 hx hZ e918 Ar921 (j := (1 : Int32)) i921 rfl (Sto.ofV Ar921 q921 Fi0 (Ins.of_exa Fi1 (W 65 rfl))) (g := (mkF m 59 #[rv b62, rv r_816, .unset] [(.ref r_816), (.int (1 : Int32)), (.ref b109_68)])) rfl rfl (hb hby d6_59)
  have pre923 : ∀ t, Steps p.tables e below (T922.setTop (mkF m 60 #[rv b62, rv r_816, .unset] [])) t → Steps p.tables e below (s₁.setTop (entryFrame m #[(.ref b62), (.ref r_816)] 3)) t := fun t kt => pre920 _ (st922 _ kt)
  have N922 := Fr.snoc X922 N0 g_b109_68
  have O922 := O0.wr W922 g_b109_68
  have K922 : Keep h0 h922 [b62, b109_68] := K0.wr W922 (Or.inl (List.mem_of_getElem? (i := 1) rfl))
  have F924 := Fi1.wr W922
  have F925 := Fi2.wr W922
  have F926 := Fi3.wr W922
  have F927 := Fi4.other W922 (Or.inl (fun q => q0 q.symm))
  have F928 := Fi6.other W922 (Or.inl (fun q => q0 q.symm))
  have F929 : Arv Z h922 b109_68 k109_68 (.object "java/lang/Object") (16 : Int32) [(.ref r_816), (.ref r_816), .null, .null, .null, .null, .null, .null, .null, .null, .null, .null, .null, .null, .null, .null] .null := Arv.set Ar921 q921 S921 M921 H921 G921 rfl W922 1 rfl (Nat.le_of_ble_eq_true rfl)
  have pre930 : ∀ t, Steps p.tables e below (T922.setTop (mkF m 62 #[rv b62, rv r_816, .unset] [(.ref b62), (.ref b62)])) t → Steps p.tables e below (s₁.setTop (entryFrame m #[(.ref b62), (.ref r_816)] 3)) t := fun t kt => by
    refine pre923 _ ?_
    show Steps p.tables e below (T922.setTop (mkF m 60 #[rv b62, rv r_816, .unset] [])) _
    refine XS.aloadN X922.here hx rfl (hb hby d6_60) rfl rfl ?_
    refine XS.dup X922.here hx rfl (hb hby d6_61) rfl rfl ?_
    exact kt
  obtain ⟨T931, X931, e931, st931⟩ := getF X922 hx hZ hown (host := "") (Or.inl (W 18 rfl)) Via.refl e922 F928 (g := (mkF m 62 #[rv b62, rv r_816, .unset] [(.ref b62), (.ref b62)])) rfl rfl (hb hby d6_62)
  have pre932 : ∀ t, Steps p.tables e below (T931.setTop (mkF m 65 #[rv b62, rv r_816, .unset] [(.int (1 : Int32)), (.ref b62)])) t → Steps p.tables e below (s₁.setTop (entryFrame m #[(.ref b62), (.ref r_816)] 3)) t := fun t kt => pre930 _ (st931 _ kt)
  have pre933 : ∀ t, Steps p.tables e below (T931.setTop (mkF m 67 #[rv b62, rv r_816, .unset] [(.int (2 : Int32)), (.ref b62)])) t → Steps p.tables e below (s₁.setTop (entryFrame m #[(.ref b62), (.ref r_816)] 3)) t := fun t kt => by
    refine pre932 _ ?_
    show Steps p.tables e below (T931.setTop (mkF m 65 #[rv b62, rv r_816, .unset] [(.int (1 : Int32)), (.ref b62)])) _
    refine XS.iconst X931.here hx rfl (hb hby d6_65) ?_
    refine XS.iadd X931.here hx rfl (hb hby d6_66) rfl ?_
    show  Steps p.tables e below (T931.setTop (mkF m 67 #[rv b62, rv r_816, .unset] [(.int ((1 : Int32) + (1 : Int32))), (.ref b62)])) _
    rw [(by decide : (((1 : Int32) + (1 : Int32)) : Int32) = (2 : Int32))]
    exact kt
  obtain ⟨T934, h934, X934, e934, W934, st934⟩ := putF X931 hx hZ hown (host := "") (Or.inl (W 18 rfl)) Via.refl e931 F928 F925 (Or.inl (W 19 rfl)) (W 1 rfl) (ty := .int) (by decide) rfl rfl (g := (mkF m 67 #[rv b62, rv r_816, .unset] [(.int (2 : Int32)), (.ref b62)])) rfl rfl (hb hby d6_67)
  have pre935 : ∀ t, Steps p.tables e below (T934.setTop (mkF m 70 #[rv b62, rv r_816, .unset] [])) t → Steps p.tables e below (s₁.setTop (entryFrame m #[(.ref b62), (.ref r_816)] 3)) t := fun t kt => pre933 _ (st934 _ kt)
  have N934 := Fr.snoc X934 N922 g_b62
  have O934 := O922.wr W934 g_b62
  have K934 : Keep h0 h934 [b62, b109_68] := K922.wr W934 (Or.inl (List.mem_of_getElem? (i := 0) rfl))
  have F936 := F924.wr W934
  have F937 := F925.wr W934
  have F938 := F926.wr W934
  have F939 := F927.other W934 (Or.inr (slot_ne (Or.inl (W 12 rfl)) (Or.inl (W 19 rfl)) (by decide) (t := (.array (.object "java/lang/Object"))) (t' := .int) (by decide) (by decide)))
  have F940 := F929.other W934 q0
  have F941 : Fld Z h934 b62 "com/example/homethread/homethread/Items" "size" "I" (.int (2 : Int32)) := F928.same W934
  obtain ⟨fs, hr, hrun, hended, hW, hsame⟩ := X934.leave (v := none) (fun _ => rfl)
  refine ⟨_, _, pre935 _ (X934.returnOut hx Bd.returns (hb hby d6_70) hr), hrun, hended, _, _, rfl, ?_, ⟨_, rfl⟩, hW, hsame.mono (by decide) (by decide)⟩
  show Q_add6_2 Z b62 r_816 k109_68 b109_68 h0 n0 _ T934.heap _
  rw [e934]
  exact ⟨rfl, N934, K934, O934, F937, F938, F939, F940, F941⟩
def Q_isEmpty3_2 (Z : State) (b62 : Addr) (h0 : Heap) (n0 : Nat) (v : Option Value) (h : Heap) (L : List Loc) : Prop := v = some (.int (0 : Int32)) ∧ Fr n0 L ∧ h = h0
set_option maxRecDepth 65536 in
set_option maxHeartbeats 40000000 in
theorem rm_isEmpty3_2 (l : Launch) (Z : State) (a0 : Array Value) (hw : ∀ d ∈ tables_1, d.before a0 Z = true) (ws : List Jvm.Cond) (b62 : Addr) (h0 : Heap) (n0 : Nat) (O0 : Old Z n0 h0) (Fi0 : Fld Z h0 b62 "com/example/homethread/homethread/Items" "size" "I" (.int (2 : Int32))) :
    MetFree l (⟨"com/example/homethread/homethread/Items", "isEmpty", "()Z"⟩ : MethodName) (head1 (Jvm.Cond.code (⟨"com/example/homethread/homethread/Items", "isEmpty", "()Z"⟩ : MethodName) prog_9_method_6_code 1 (some .boolean) :: ws) ({ frames := 0, cells := 0, slots := 0, locals := 0 } : Room)) (fun a U => a = #[(.ref b62)] ∧ Z.Warmed39 U.vm ∧ U.heap = h0) (fun _ _ _ _ _ => True) (fun _ U o U' => ∃ v L, o = .returned v ∧ Q_isEmpty3_2 Z b62 h0 n0 v U'.heap L ∧ FrameEnd U o U' L ({ frames := 0, cells := 0, slots := 0, locals := 0 } : Room).cells ({ frames := 0, cells := 0, slots := 0, locals := 0 } : Room).slots) := by
  refine MetFree.of_bodySF (plainFor_of_name pn_9) hisR ?_
  intro p e s m args below meth c s₁ Bd hml0 hP hK
  have W := fun {d : Jvm.Cond} (i : Nat) (q : tables_1[i]? = some d) => hw d (List.mem_of_getElem? q)
  obtain ⟨rfl, hZ, hh⟩ := hP
  have hx := Bd.exec
  have hby := Bd.bytes
  have hml : c.maxLocals = 1 := hml0
  have hown : s.vm.findClass "com/example/homethread/homethread/Items" = some m.cls := findClass_of_methodNamed Bd.named
  have hnm := (name_of_methodNamed Bd.named Bd.method).1
  have X0 : Stand p l e ({ frames := 0, cells := 0, slots := 0, locals := 0 } : Room) s m #[(.ref b62)] below meth c s₁ [] 0 0 := Stand.of_body Bd
  have e0 : s₁.heap = h0 := by rw [← hh, Bd.state]; rfl
  have N0 := Fr.nil n0
  have pre0 : ∀ t, Steps p.tables e below (s₁.setTop (mkF m 0 #[rv b62] [])) t → Steps p.tables e below (s₁.setTop (entryFrame m #[(.ref b62)] 1)) t := fun t k => castTop (ef_11 m b62) k
  have K0 : Keep h0 h0 [] := Keep.refl h0 []
  have pre954 : ∀ t, Steps p.tables e below (s₁.setTop (mkF m 1 #[rv b62] [(.ref b62)])) t → Steps p.tables e below (s₁.setTop (entryFrame m #[(.ref b62)] 1)) t := fun t kt => by
    refine pre0 _ ?_
    show Steps p.tables e below (s₁.setTop (mkF m 0 #[rv b62] [])) _
    refine XS.aloadN X0.here hx rfl (hb hby d3_0) rfl rfl ?_
    exact kt
  obtain ⟨T955, X955, e955, st955⟩ := getF X0 hx hZ hown (host := "") (Or.inl (W 18 rfl)) Via.refl e0 Fi0 (g := (mkF m 1 #[rv b62] [(.ref b62)])) rfl rfl (hb hby d3_1)
  have pre956 : ∀ t, Steps p.tables e below (T955.setTop (mkF m 4 #[rv b62] [(.int (2 : Int32))])) t → Steps p.tables e below (s₁.setTop (entryFrame m #[(.ref b62)] 1)) t := fun t kt => pre954 _ (st955 _ kt)
  have pre957 : ∀ t, Steps p.tables e below (T955.setTop (mkF m 12 #[rv b62] [(.int (0 : Int32))])) t → Steps p.tables e below (s₁.setTop (entryFrame m #[(.ref b62)] 1)) t := fun t kt => by
    refine pre956 _ ?_
    show Steps p.tables e below (T955.setTop (mkF m 4 #[rv b62] [(.int (2 : Int32))])) _
    refine XS.ifYes X955.here hx rfl (pc0 := 4) (pc' := 11) rfl (hb hby d3_4) rfl (XT.i0_ne_t (by decide)) (by decide) (by decide) ?_
    refine XS.iconst X955.here hx rfl (hb hby d3_11) ?_
    exact kt
  obtain ⟨fs, hr, hrun, hended, hW, hsame⟩ := X955.leave (v := some (.int (0 : Int32))) (fun h => by rw [Bd.returns] at h; cases h)
  refine ⟨_, _, pre957 _ (retN X955 hx (t := .boolean) Bd.returns (by simp) (hb hby d3_12) hr), hrun, hended, _, _, rfl, ?_, ⟨_, rfl⟩, hW, hsame.mono (by decide) (by decide)⟩
  show Q_isEmpty3_2 Z b62 h0 n0 _ T955.heap _
  rw [e955]
  exact ⟨rfl, N0, rfl⟩
def Q_clear14_1 (Z : State) (b62 : Addr) (b109_68 : Addr) (h0 : Heap) (n0 : Nat) (v : Option Value) (h : Heap) (L : List Loc) : Prop := v = none ∧ Fr n0 L ∧ Keep h0 h [b62] ∧ Old Z n0 h ∧ Exa Z h b62 "com/example/homethread/homethread/Items" ∧ Fld Z h b62 "com/example/homethread/homethread/Items" "slots" "[Ljava/lang/Object;" (.ref b109_68) ∧ Fld Z h b62 "com/example/homethread/homethread/Items" "size" "I" (.int (0 : Int32))
set_option maxRecDepth 65536 in
set_option maxHeartbeats 40000000 in
theorem rm_clear14_1 (l : Launch) (Z : State) (a0 : Array Value) (hw : ∀ d ∈ tables_1, d.before a0 Z = true) (ws : List Jvm.Cond) (b62 : Addr) (b109_68 : Addr) (h0 : Heap) (n0 : Nat) (O0 : Old Z n0 h0) (g_b62 : n0 ≤ b62) (Fi0 : Exa Z h0 b62 "com/example/homethread/homethread/Items") (Fi1 : Fld Z h0 b62 "com/example/homethread/homethread/Items" "slots" "[Ljava/lang/Object;" (.ref b109_68)) (Fi2 : Fld Z h0 b62 "com/example/homethread/homethread/Items" "size" "I" (.int (1 : Int32))) :
    MetFree l (⟨"com/example/homethread/homethread/Items", "clear", "()V"⟩ : MethodName) (head1 (Jvm.Cond.code (⟨"com/example/homethread/homethread/Items", "clear", "()V"⟩ : MethodName) prog_9_method_10_code 1 none :: ws) ({ frames := 0, cells := 0, slots := 0, locals := 0 } : Room)) (fun a U => a = #[(.ref b62)] ∧ Z.Warmed39 U.vm ∧ U.heap = h0) (fun _ _ _ _ _ => True) (fun _ U o U' => ∃ v L, o = .returned v ∧ Q_clear14_1 Z b62 b109_68 h0 n0 v U'.heap L ∧ FrameEnd U o U' L ({ frames := 0, cells := 0, slots := 0, locals := 0 } : Room).cells ({ frames := 0, cells := 0, slots := 0, locals := 0 } : Room).slots) := by
  refine MetFree.of_bodySF (plainFor_of_name pn_9) hisR ?_
  intro p e s m args below meth c s₁ Bd hml0 hP hK
  have W := fun {d : Jvm.Cond} (i : Nat) (q : tables_1[i]? = some d) => hw d (List.mem_of_getElem? q)
  obtain ⟨rfl, hZ, hh⟩ := hP
  have hx := Bd.exec
  have hby := Bd.bytes
  have hml : c.maxLocals = 1 := hml0
  have hown : s.vm.findClass "com/example/homethread/homethread/Items" = some m.cls := findClass_of_methodNamed Bd.named
  have hnm := (name_of_methodNamed Bd.named Bd.method).1
  have X0 : Stand p l e ({ frames := 0, cells := 0, slots := 0, locals := 0 } : Room) s m #[(.ref b62)] below meth c s₁ [] 0 0 := Stand.of_body Bd
  have e0 : s₁.heap = h0 := by rw [← hh, Bd.state]; rfl
  have N0 := Fr.nil n0
  have pre0 : ∀ t, Steps p.tables e below (s₁.setTop (mkF m 0 #[rv b62] [])) t → Steps p.tables e below (s₁.setTop (entryFrame m #[(.ref b62)] 1)) t := fun t k => castTop (ef_16 m b62) k
  have K0 : Keep h0 h0 [b62] := Keep.refl h0 [b62]
  have pre983 : ∀ t, Steps p.tables e below (s₁.setTop (mkF m 2 #[rv b62] [(.int (0 : Int32)), (.ref b62)])) t → Steps p.tables e below (s₁.setTop (entryFrame m #[(.ref b62)] 1)) t := fun t kt => by
    refine pre0 _ ?_
    show Steps p.tables e below (s₁.setTop (mkF m 0 #[rv b62] [])) _
    refine XS.aloadN X0.here hx rfl (hb hby d14_0) rfl rfl ?_
    refine XS.iconst X0.here hx rfl (hb hby d14_1) ?_
    exact kt
  obtain ⟨T984, h984, X984, e984, W984, st984⟩ := putF X0 hx hZ hown (host := "") (Or.inl (W 18 rfl)) Via.refl e0 Fi2 Fi0 (Or.inl (W 19 rfl)) (W 1 rfl) (ty := .int) (by decide) rfl rfl (g := (mkF m 2 #[rv b62] [(.int (0 : Int32)), (.ref b62)])) rfl rfl (hb hby d14_2)
  have pre985 : ∀ t, Steps p.tables e below (T984.setTop (mkF m 5 #[rv b62] [])) t → Steps p.tables e below (s₁.setTop (entryFrame m #[(.ref b62)] 1)) t := fun t kt => pre983 _ (st984 _ kt)
  have N984 := Fr.snoc X984 N0 g_b62
  have O984 := O0.wr W984 g_b62
  have K984 : Keep h0 h984 [b62] := K0.wr W984 (Or.inl (List.mem_of_getElem? (i := 0) rfl))
  have F986 := Fi0.wr W984
  have F987 := Fi1.other W984 (Or.inr (slot_ne (Or.inl (W 12 rfl)) (Or.inl (W 19 rfl)) (by decide) (t := (.array (.object "java/lang/Object"))) (t' := .int) (by decide) (by decide)))
  have F988 : Fld Z h984 b62 "com/example/homethread/homethread/Items" "size" "I" (.int (0 : Int32)) := Fi2.same W984
  obtain ⟨fs, hr, hrun, hended, hW, hsame⟩ := X984.leave (v := none) (fun _ => rfl)
  refine ⟨_, _, pre985 _ (X984.returnOut hx Bd.returns (hb hby d14_5) hr), hrun, hended, _, _, rfl, ?_, ⟨_, rfl⟩, hW, hsame.mono (by decide) (by decide)⟩
  show Q_clear14_1 Z b62 b109_68 h0 n0 _ T984.heap _
  rw [e984]
  exact ⟨rfl, N984, K984, O984, F986, F987, F988⟩
def Q_add6_3 (Z : State) (b62 : Addr) (r_816 : Addr) (k109_68 : ClassId) (b109_68 : Addr) (h0 : Heap) (n0 : Nat) (v : Option Value) (h : Heap) (L : List Loc) : Prop := v = none ∧ Fr n0 L ∧ Keep h0 h [b109_68, b62] ∧ Old Z n0 h ∧ Exa Z h b109_68 "[Ljava/lang/Object;" ∧ Exa Z h b62 "com/example/homethread/homethread/Items" ∧ Fld Z h b62 "com/example/homethread/homethread/Items" "slots" "[Ljava/lang/Object;" (.ref b109_68) ∧ Arv Z h b109_68 k109_68 (.object "java/lang/Object") (16 : Int32) [(.ref r_816), .null, .null, .null, .null, .null, .null, .null, .null, .null, .null, .null, .null, .null, .null, .null] .null ∧ Fld Z h b62 "com/example/homethread/homethread/Items" "size" "I" (.int (1 : Int32))
set_option maxRecDepth 65536 in
set_option maxHeartbeats 40000000 in
theorem rm_add6_3 (l : Launch) (Z : State) (a0 : Array Value) (hw : ∀ d ∈ tables_1, d.before a0 Z = true) (ws : List Jvm.Cond) (b62 : Addr) (r_816 : Addr) (k109_68 : ClassId) (b109_68 : Addr) (h0 : Heap) (n0 : Nat) (O0 : Old Z n0 h0) (g_b109_68 : n0 ≤ b109_68) (g_b62 : n0 ≤ b62) (Fi0 : Ovr Z k109_68 "java/lang/Object") (Fi1 : Exa Z h0 r_816 "java/lang/Integer") (Fi2 : Exa Z h0 b109_68 "[Ljava/lang/Object;") (Fi3 : Arv Z h0 b109_68 k109_68 (.object "java/lang/Object") (16 : Int32) [(.ref r_816), .null, .null, .null, .null, .null, .null, .null, .null, .null, .null, .null, .null, .null, .null, .null] .null) (Fi4 : Exa Z h0 b62 "com/example/homethread/homethread/Items") (Fi5 : Fld Z h0 b62 "com/example/homethread/homethread/Items" "slots" "[Ljava/lang/Object;" (.ref b109_68)) (Fi6 : Fld Z h0 b62 "com/example/homethread/homethread/Items" "size" "I" (.int (0 : Int32))) (q0 : ¬ (b109_68 = b62)) :
    MetFree l (⟨"com/example/homethread/homethread/Items", "add", "(Ljava/lang/Object;)V"⟩ : MethodName) (head1 (Jvm.Cond.code (⟨"com/example/homethread/homethread/Items", "add", "(Ljava/lang/Object;)V"⟩ : MethodName) prog_9_method_8_code 3 none :: ws) ({ frames := 0, cells := 0, slots := 0, locals := 0 } : Room)) (fun a U => a = #[(.ref b62), (.ref r_816)] ∧ Z.Warmed39 U.vm ∧ U.heap = h0) (fun _ _ _ _ _ => True) (fun _ U o U' => ∃ v L, o = .returned v ∧ Q_add6_3 Z b62 r_816 k109_68 b109_68 h0 n0 v U'.heap L ∧ FrameEnd U o U' L ({ frames := 0, cells := 0, slots := 0, locals := 0 } : Room).cells ({ frames := 0, cells := 0, slots := 0, locals := 0 } : Room).slots) := by
  refine MetFree.of_bodySF (plainFor_of_name pn_9) hisR ?_
  intro p e s m args below meth c s₁ Bd hml0 hP hK
  have W := fun {d : Jvm.Cond} (i : Nat) (q : tables_1[i]? = some d) => hw d (List.mem_of_getElem? q)
  obtain ⟨rfl, hZ, hh⟩ := hP
  have hx := Bd.exec
  have hby := Bd.bytes
  have hml : c.maxLocals = 3 := hml0
  have hown : s.vm.findClass "com/example/homethread/homethread/Items" = some m.cls := findClass_of_methodNamed Bd.named
  have hnm := (name_of_methodNamed Bd.named Bd.method).1
  have X0 : Stand p l e ({ frames := 0, cells := 0, slots := 0, locals := 0 } : Room) s m #[(.ref b62), (.ref r_816)] below meth c s₁ [] 0 0 := Stand.of_body Bd
  have e0 : s₁.heap = h0 := by rw [← hh, Bd.state]; rfl
  have N0 := Fr.nil n0
  have pre0 : ∀ t, Steps p.tables e below (s₁.setTop (mkF m 0 #[rv b62, rv r_816, .unset] [])) t → Steps p.tables e below (s₁.setTop (entryFrame m #[(.ref b62), (.ref r_816)] 3)) t := fun t k => castTop (ef_14 m b62 r_816) k
  have K0 : Keep h0 h0 [b109_68, b62] := Keep.refl h0 [b109_68, b62]
  have pre1068 : ∀ t, Steps p.tables e below (s₁.setTop (mkF m 1 #[rv b62, rv r_816, .unset] [(.ref b62)])) t → Steps p.tables e below (s₁.setTop (entryFrame m #[(.ref b62), (.ref r_816)] 3)) t := fun t kt => by
    refine pre0 _ ?_
    show Steps p.tables e below (s₁.setTop (mkF m 0 #[rv b62, rv r_816, .unset] [])) _
    refine XS.aloadN X0.here hx rfl (hb hby d6_0) rfl rfl ?_
    exact kt
  obtain ⟨T1069, X1069, e1069, st1069⟩ := getF X0 hx hZ hown (host := "") (Or.inl (W 18 rfl)) Via.refl e0 Fi6 (g := (mkF m 1 #[rv b62, rv r_816, .unset] [(.ref b62)])) rfl rfl (hb hby d6_1)
  have pre1070 : ∀ t, Steps p.tables e below (T1069.setTop (mkF m 4 #[rv b62, rv r_816, .unset] [(.int (0 : Int32))])) t → Steps p.tables e below (s₁.setTop (entryFrame m #[(.ref b62), (.ref r_816)] 3)) t := fun t kt => pre1068 _ (st1069 _ kt)
  have pre1071 : ∀ t, Steps p.tables e below (T1069.setTop (mkF m 5 #[rv b62, rv r_816, .unset] [(.ref b62), (.int (0 : Int32))])) t → Steps p.tables e below (s₁.setTop (entryFrame m #[(.ref b62), (.ref r_816)] 3)) t := fun t kt => by
    refine pre1070 _ ?_
    show Steps p.tables e below (T1069.setTop (mkF m 4 #[rv b62, rv r_816, .unset] [(.int (0 : Int32))])) _
    refine XS.aloadN X1069.here hx rfl (hb hby d6_4) rfl rfl ?_
    exact kt
  obtain ⟨T1072, X1072, e1072, st1072⟩ := getF X1069 hx hZ hown (host := "") (Or.inl (W 11 rfl)) Via.refl e1069 Fi5 (g := (mkF m 5 #[rv b62, rv r_816, .unset] [(.ref b62), (.int (0 : Int32))])) rfl rfl (hb hby d6_5)
  have pre1073 : ∀ t, Steps p.tables e below (T1072.setTop (mkF m 8 #[rv b62, rv r_816, .unset] [(.ref b109_68), (.int (0 : Int32))])) t → Steps p.tables e below (s₁.setTop (entryFrame m #[(.ref b62), (.ref r_816)] 3)) t := fun t kt => pre1071 _ (st1072 _ kt)
  obtain ⟨c1074, Ar1074, -, S1074, M1074, -, -⟩ := id Fi3
  have pre1075 : ∀ t, Steps p.tables e below (T1072.setTop (mkF m 51 #[rv b62, rv r_816, .unset] [(.ref b62)])) t → Steps p.tables e below (s₁.setTop (entryFrame m #[(.ref b62), (.ref r_816)] 3)) t := fun t kt => by
    refine pre1073 _ ?_
    show Steps p.tables e below (T1072.setTop (mkF m 8 #[rv b62, rv r_816, .unset] [(.ref b109_68), (.int (0 : Int32))])) _
    refine X1072.arraylength hx (by rw [e1072]; exact Ar1074.1) (State.isArrayOf_alike hZ.alike Ar1074.2.1) (g := (mkF m 8 #[rv b62, rv r_816, .unset] [(.ref b109_68), (.int (0 : Int32))])) rfl rfl (hb hby d6_8) _ ?_
    rw [len_of S1074 M1074]
    refine XS.icmpYes X1072.here hx rfl (pc0 := 9) (pc' := 50) rfl (hb hby d6_9) rfl (XT.ii_ne_t (by decide)) (by decide) (by decide) ?_
    refine XS.aloadN X1072.here hx rfl (hb hby d6_50) rfl rfl ?_
    exact kt
  obtain ⟨T1076, X1076, e1076, st1076⟩ := getF X1072 hx hZ hown (host := "") (Or.inl (W 11 rfl)) Via.refl e1072 Fi5 (g := (mkF m 51 #[rv b62, rv r_816, .unset] [(.ref b62)])) rfl rfl (hb hby d6_51)
  have pre1077 : ∀ t, Steps p.tables e below (T1076.setTop (mkF m 54 #[rv b62, rv r_816, .unset] [(.ref b109_68)])) t → Steps p.tables e below (s₁.setTop (entryFrame m #[(.ref b62), (.ref r_816)] 3)) t := fun t kt => pre1075 _ (st1076 _ kt)
  have pre1078 : ∀ t, Steps p.tables e below (T1076.setTop (mkF m 55 #[rv b62, rv r_816, .unset] [(.ref b62), (.ref b109_68)])) t → Steps p.tables e below (s₁.setTop (entryFrame m #[(.ref b62), (.ref r_816)] 3)) t := fun t kt => by
    refine pre1077 _ ?_
    show Steps p.tables e below (T1076.setTop (mkF m 54 #[rv b62, rv r_816, .unset] [(.ref b109_68)])) _
    refine XS.aloadN X1076.here hx rfl (hb hby d6_54) rfl rfl ?_
    exact kt
  obtain ⟨T1079, X1079, e1079, st1079⟩ := getF X1076 hx hZ hown (host := "") (Or.inl (W 18 rfl)) Via.refl e1076 Fi6 (g := (mkF m 55 #[rv b62, rv r_816, .unset] [(.ref b62), (.ref b109_68)])) rfl rfl (hb hby d6_55)
  have pre1080 : ∀ t, Steps p.tables e below (T1079.setTop (mkF m 58 #[rv b62, rv r_816, .unset] [(.int (0 : Int32)), (.ref b109_68)])) t → Steps p.tables e below (s₁.setTop (entryFrame m #[(.ref b62), (.ref r_816)] 3)) t := fun t kt => pre1078 _ (st1079 _ kt)
  have pre1081 : ∀ t, Steps p.tables e below (T1079.setTop (mkF m 59 #[rv b62, rv r_816, .unset] [(.ref r_816), (.int (0 : Int32)), (.ref b109_68)])) t → Steps p.tables e below (s₁.setTop (entryFrame m #[(.ref b62), (.ref r_816)] 3)) t := fun t kt => by
    refine pre1080 _ ?_
    show Steps p.tables e below (T1079.setTop (mkF m 58 #[rv b62, rv r_816, .unset] [(.int (0 : Int32)), (.ref b109_68)])) _
    refine XS.aloadN X1079.here hx rfl (hb hby d6_58) rfl rfl ?_
    exact kt
  obtain ⟨c1082, Ar1082, q1082, S1082, M1082, H1082, G1082⟩ := id Fi3
  have i1082 : ¬ ((0 : Int32) < 0 ∨ c1082.slots.size ≤ ((0 : Int32)).toNatClampNeg) := inb_of S1082 ⟨by decide, by decide⟩
  obtain ⟨T1083, h1083, X1083, e1083, W1083, st1083⟩ := stR X1079 hx hZ e1079 Ar1082 (j := (0 : Int32)) i1082 rfl (Sto.ofV Ar1082 q1082 Fi0 (Ins.of_exa Fi1 (W 65 rfl))) (g := (mkF m 59 #[rv b62, rv r_816, .unset] [(.ref r_816), (.int (0 : Int32)), (.ref b109_68)])) rfl rfl (hb hby d6_59)
  have pre1084 : ∀ t, Steps p.tables e below (T1083.setTop (mkF m 60 #[rv b62, rv r_816, .unset] [])) t → Steps p.tables e below (s₁.setTop (entryFrame m #[(.ref b62), (.ref r_816)] 3)) t := fun t kt => pre1081 _ (st1083 _ kt)
  have N1083 := Fr.snoc X1083 N0 g_b109_68
  have O1083 := O0.wr W1083 g_b109_68
  have K1083 : Keep h0 h1083 [b109_68, b62] := K0.wr W1083 (Or.inl (List.mem_of_getElem? (i := 0) rfl))
  have F1085 := Fi1.wr W1083
  have F1086 := Fi2.wr W1083
  have F1087 := Fi4.wr W1083
  have F1088 := Fi5.other W1083 (Or.inl (fun q => q0 q.symm))
  have F1089 := Fi6.other W1083 (Or.inl (fun q => q0 q.symm))
  have F1090 : Arv Z h1083 b109_68 k109_68 (.object "java/lang/Object") (16 : Int32) [(.ref r_816), .null, .null, .null, .null, .null, .null, .null, .null, .null, .null, .null, .null, .null, .null, .null] .null := Arv.set Ar1082 q1082 S1082 M1082 H1082 G1082 rfl W1083 0 rfl (Nat.le_of_ble_eq_true rfl)
  have pre1091 : ∀ t, Steps p.tables e below (T1083.setTop (mkF m 62 #[rv b62, rv r_816, .unset] [(.ref b62), (.ref b62)])) t → Steps p.tables e below (s₁.setTop (entryFrame m #[(.ref b62), (.ref r_816)] 3)) t := fun t kt => by
    refine pre1084 _ ?_
    show Steps p.tables e below (T1083.setTop (mkF m 60 #[rv b62, rv r_816, .unset] [])) _
    refine XS.aloadN X1083.here hx rfl (hb hby d6_60) rfl rfl ?_
    refine XS.dup X1083.here hx rfl (hb hby d6_61) rfl rfl ?_
    exact kt
  obtain ⟨T1092, X1092, e1092, st1092⟩ := getF X1083 hx hZ hown (host := "") (Or.inl (W 18 rfl)) Via.refl e1083 F1089 (g := (mkF m 62 #[rv b62, rv r_816, .unset] [(.ref b62), (.ref b62)])) rfl rfl (hb hby d6_62)
  have pre1093 : ∀ t, Steps p.tables e below (T1092.setTop (mkF m 65 #[rv b62, rv r_816, .unset] [(.int (0 : Int32)), (.ref b62)])) t → Steps p.tables e below (s₁.setTop (entryFrame m #[(.ref b62), (.ref r_816)] 3)) t := fun t kt => pre1091 _ (st1092 _ kt)
  have pre1094 : ∀ t, Steps p.tables e below (T1092.setTop (mkF m 67 #[rv b62, rv r_816, .unset] [(.int (1 : Int32)), (.ref b62)])) t → Steps p.tables e below (s₁.setTop (entryFrame m #[(.ref b62), (.ref r_816)] 3)) t := fun t kt => by
    refine pre1093 _ ?_
    show Steps p.tables e below (T1092.setTop (mkF m 65 #[rv b62, rv r_816, .unset] [(.int (0 : Int32)), (.ref b62)])) _
    refine XS.iconst X1092.here hx rfl (hb hby d6_65) ?_
    refine XS.iadd X1092.here hx rfl (hb hby d6_66) rfl ?_
    show  Steps p.tables e below (T1092.setTop (mkF m 67 #[rv b62, rv r_816, .unset] [(.int ((0 : Int32) + (1 : Int32))), (.ref b62)])) _
    rw [(by decide : (((0 : Int32) + (1 : Int32)) : Int32) = (1 : Int32))]
    exact kt
  obtain ⟨T1095, h1095, X1095, e1095, W1095, st1095⟩ := putF X1092 hx hZ hown (host := "") (Or.inl (W 18 rfl)) Via.refl e1092 F1089 F1087 (Or.inl (W 19 rfl)) (W 1 rfl) (ty := .int) (by decide) rfl rfl (g := (mkF m 67 #[rv b62, rv r_816, .unset] [(.int (1 : Int32)), (.ref b62)])) rfl rfl (hb hby d6_67)
  have pre1096 : ∀ t, Steps p.tables e below (T1095.setTop (mkF m 70 #[rv b62, rv r_816, .unset] [])) t → Steps p.tables e below (s₁.setTop (entryFrame m #[(.ref b62), (.ref r_816)] 3)) t := fun t kt => pre1094 _ (st1095 _ kt)
  have N1095 := Fr.snoc X1095 N1083 g_b62
  have O1095 := O1083.wr W1095 g_b62
  have K1095 : Keep h0 h1095 [b109_68, b62] := K1083.wr W1095 (Or.inl (List.mem_of_getElem? (i := 1) rfl))
  have F1097 := F1085.wr W1095
  have F1098 := F1086.wr W1095
  have F1099 := F1087.wr W1095
  have F1100 := F1088.other W1095 (Or.inr (slot_ne (Or.inl (W 12 rfl)) (Or.inl (W 19 rfl)) (by decide) (t := (.array (.object "java/lang/Object"))) (t' := .int) (by decide) (by decide)))
  have F1101 := F1090.other W1095 q0
  have F1102 : Fld Z h1095 b62 "com/example/homethread/homethread/Items" "size" "I" (.int (1 : Int32)) := F1089.same W1095
  obtain ⟨fs, hr, hrun, hended, hW, hsame⟩ := X1095.leave (v := none) (fun _ => rfl)
  refine ⟨_, _, pre1096 _ (X1095.returnOut hx Bd.returns (hb hby d6_70) hr), hrun, hended, _, _, rfl, ?_, ⟨_, rfl⟩, hW, hsame.mono (by decide) (by decide)⟩
  show Q_add6_3 Z b62 r_816 k109_68 b109_68 h0 n0 _ T1095.heap _
  rw [e1095]
  exact ⟨rfl, N1095, K1095, O1095, F1098, F1099, F1100, F1101, F1102⟩
def Q_clearAndTrim5_4 (Z : State) (b62 : Addr) (p3 : Int32) (a_NO_SLOTS : Addr) (k109_68 : ClassId) (r_816 : Addr) (b109_68 : Addr) (h0 : Heap) (n0 : Nat) (v : Option Value) (h : Heap) (L : List Loc) : Prop := v = none ∧ Fr n0 L ∧ Keep h0 h [b62] ∧ Old Z n0 h ∧ Exa Z h b62 "com/example/homethread/homethread/Items" ∧ Fld Z h b62 "com/example/homethread/homethread/Items" "slots" "[Ljava/lang/Object;" (.ref a_NO_SLOTS) ∧ Fld Z h b62 "com/example/homethread/homethread/Items" "size" "I" (.int (0 : Int32))
set_option maxRecDepth 65536 in
set_option maxHeartbeats 40000000 in
theorem rm_clearAndTrim5_4 (l : Launch) (Z : State) (a0 : Array Value) (hw : ∀ d ∈ tables_1, d.before a0 Z = true) (ws : List Jvm.Cond) (b62 : Addr) (p3 : Int32) (a_NO_SLOTS : Addr) (k109_68 : ClassId) (r_816 : Addr) (b109_68 : Addr) (h0 : Heap) (n0 : Nat) (O0 : Old Z n0 h0) (G0 : Sta Z Z.heap "com/example/homethread/homethread/Items" "NO_SLOTS" "[Ljava/lang/Object;" (.ref a_NO_SLOTS)) (g_b62 : n0 ≤ b62) (Fi0 : Exa Z h0 b62 "com/example/homethread/homethread/Items") (Fi1 : Fld Z h0 b62 "com/example/homethread/homethread/Items" "slots" "[Ljava/lang/Object;" (.ref b109_68)) (Fi2 : Arv Z h0 b109_68 k109_68 (.object "java/lang/Object") (16 : Int32) [(.ref r_816), .null, .null, .null, .null, .null, .null, .null, .null, .null, .null, .null, .null, .null, .null, .null] .null) (Fi3 : Fld Z h0 b62 "com/example/homethread/homethread/Items" "size" "I" (.int (1 : Int32))) (q0 : ¬ (b109_68 = b62)) (q1 : p3 < (16 : Int32)) :
    MetFree l (⟨"com/example/homethread/homethread/Items", "clearAndTrim", "(I)V"⟩ : MethodName) (head1 (Jvm.Cond.code (⟨"com/example/homethread/homethread/Items", "clearAndTrim", "(I)V"⟩ : MethodName) prog_9_method_11_code 2 none :: ws) ({ frames := 0, cells := 0, slots := 0, locals := 0 } : Room)) (fun a U => a = #[(.ref b62), (.int p3)] ∧ Z.Warmed39 U.vm ∧ U.heap = h0) (fun _ _ _ _ _ => True) (fun _ U o U' => ∃ v L, o = .returned v ∧ Q_clearAndTrim5_4 Z b62 p3 a_NO_SLOTS k109_68 r_816 b109_68 h0 n0 v U'.heap L ∧ FrameEnd U o U' L ({ frames := 0, cells := 0, slots := 0, locals := 0 } : Room).cells ({ frames := 0, cells := 0, slots := 0, locals := 0 } : Room).slots) := by
  refine MetFree.of_bodySF (plainFor_of_name pn_9) hisR ?_
  intro p e s m args below meth c s₁ Bd hml0 hP hK
  have W := fun {d : Jvm.Cond} (i : Nat) (q : tables_1[i]? = some d) => hw d (List.mem_of_getElem? q)
  obtain ⟨rfl, hZ, hh⟩ := hP
  have hx := Bd.exec
  have hby := Bd.bytes
  have hml : c.maxLocals = 2 := hml0
  have hown : s.vm.findClass "com/example/homethread/homethread/Items" = some m.cls := findClass_of_methodNamed Bd.named
  have hnm := (name_of_methodNamed Bd.named Bd.method).1
  have X0 : Stand p l e ({ frames := 0, cells := 0, slots := 0, locals := 0 } : Room) s m #[(.ref b62), (.int p3)] below meth c s₁ [] 0 0 := Stand.of_body Bd
  have e0 : s₁.heap = h0 := by rw [← hh, Bd.state]; rfl
  have N0 := Fr.nil n0
  have pre0 : ∀ t, Steps p.tables e below (s₁.setTop (mkF m 0 #[rv b62, iv p3] [])) t → Steps p.tables e below (s₁.setTop (entryFrame m #[(.ref b62), (.int p3)] 2)) t := fun t k => castTop (ef_17 m b62 p3) k
  have K0 : Keep h0 h0 [b62] := Keep.refl h0 [b62]
  have pre1161 : ∀ t, Steps p.tables e below (s₁.setTop (mkF m 1 #[rv b62, iv p3] [(.ref b62)])) t → Steps p.tables e below (s₁.setTop (entryFrame m #[(.ref b62), (.int p3)] 2)) t := fun t kt => by
    refine pre0 _ ?_
    show Steps p.tables e below (s₁.setTop (mkF m 0 #[rv b62, iv p3] [])) _
    refine XS.aloadN X0.here hx rfl (hb hby d5_0) rfl rfl ?_
    exact kt
  obtain ⟨T1162, X1162, e1162, st1162⟩ := getF X0 hx hZ hown (host := "") (Or.inl (W 11 rfl)) Via.refl e0 Fi1 (g := (mkF m 1 #[rv b62, iv p3] [(.ref b62)])) rfl rfl (hb hby d5_1)
  have pre1163 : ∀ t, Steps p.tables e below (T1162.setTop (mkF m 4 #[rv b62, iv p3] [(.ref b109_68)])) t → Steps p.tables e below (s₁.setTop (entryFrame m #[(.ref b62), (.int p3)] 2)) t := fun t kt => pre1161 _ (st1162 _ kt)
  obtain ⟨c1164, Ar1164, -, S1164, M1164, -, -⟩ := id Fi2
  have pre1165 : ∀ t, Steps p.tables e below (T1162.setTop (mkF m 10 #[rv b62, iv p3] [(.ref b62)])) t → Steps p.tables e below (s₁.setTop (entryFrame m #[(.ref b62), (.int p3)] 2)) t := fun t kt => by
    refine pre1163 _ ?_
    show Steps p.tables e below (T1162.setTop (mkF m 4 #[rv b62, iv p3] [(.ref b109_68)])) _
    refine X1162.arraylength hx (by rw [e1162]; exact Ar1164.1) (State.isArrayOf_alike hZ.alike Ar1164.2.1) (g := (mkF m 4 #[rv b62, iv p3] [(.ref b109_68)])) rfl rfl (hb hby d5_4) _ ?_
    rw [len_of S1164 M1164]
    refine XS.iloadN X1162.here hx rfl (hb hby d5_5) rfl ?_
    refine XS.icmpNo X1162.here hx rfl (hb hby d5_6) rfl (XT.ii_le_f q1) ?_
    refine XS.aloadN X1162.here hx rfl (hb hby d5_9) rfl rfl ?_
    exact kt
  obtain ⟨T1166, X1166, e1166, st1166⟩ := getS2 X1162 hx hZ hown (host := "") (Or.inl (W 32 rfl)) Via.refl e1162 (G0.ext O0.2) (g := (mkF m 10 #[rv b62, iv p3] [(.ref b62)])) rfl (hb hby d5_10)
  have pre1167 : ∀ t, Steps p.tables e below (T1166.setTop (mkF m 13 #[rv b62, iv p3] [(.ref a_NO_SLOTS), (.ref b62)])) t → Steps p.tables e below (s₁.setTop (entryFrame m #[(.ref b62), (.int p3)] 2)) t := fun t kt => pre1165 _ (st1166 _ kt)
  obtain ⟨T1168, h1168, X1168, e1168, W1168, st1168⟩ := putF X1166 hx hZ hown (host := "") (Or.inl (W 11 rfl)) Via.refl e1166 Fi1 Fi0 (Or.inl (W 12 rfl)) (W 1 rfl) (ty := (.array (.object "java/lang/Object"))) (by decide) rfl rfl (g := (mkF m 13 #[rv b62, iv p3] [(.ref a_NO_SLOTS), (.ref b62)])) rfl rfl (hb hby d5_13)
  have pre1169 : ∀ t, Steps p.tables e below (T1168.setTop (mkF m 16 #[rv b62, iv p3] [])) t → Steps p.tables e below (s₁.setTop (entryFrame m #[(.ref b62), (.int p3)] 2)) t := fun t kt => pre1167 _ (st1168 _ kt)
  have N1168 := Fr.snoc X1168 N0 g_b62
  have O1168 := O0.wr W1168 g_b62
  have K1168 : Keep h0 h1168 [b62] := K0.wr W1168 (Or.inl (List.mem_of_getElem? (i := 0) rfl))
  have F1170 := Fi0.wr W1168
  have F1171 := Fi2.other W1168 q0
  have F1172 := Fi3.other W1168 (Or.inr (slot_ne (Or.inl (W 19 rfl)) (Or.inl (W 12 rfl)) (by decide) (t := .int) (t' := (.array (.object "java/lang/Object"))) (by decide) (by decide)))
  have F1173 : Fld Z h1168 b62 "com/example/homethread/homethread/Items" "slots" "[Ljava/lang/Object;" (.ref a_NO_SLOTS) := Fi1.same W1168
  have pre1174 : ∀ t, Steps p.tables e below (T1168.setTop (mkF m 18 #[rv b62, iv p3] [(.int (0 : Int32)), (.ref b62)])) t → Steps p.tables e below (s₁.setTop (entryFrame m #[(.ref b62), (.int p3)] 2)) t := fun t kt => by
    refine pre1169 _ ?_
    show Steps p.tables e below (T1168.setTop (mkF m 16 #[rv b62, iv p3] [])) _
    refine XS.aloadN X1168.here hx rfl (hb hby d5_16) rfl rfl ?_
    refine XS.iconst X1168.here hx rfl (hb hby d5_17) ?_
    exact kt
  obtain ⟨T1175, h1175, X1175, e1175, W1175, st1175⟩ := putF X1168 hx hZ hown (host := "") (Or.inl (W 18 rfl)) Via.refl e1168 F1172 F1170 (Or.inl (W 19 rfl)) (W 1 rfl) (ty := .int) (by decide) rfl rfl (g := (mkF m 18 #[rv b62, iv p3] [(.int (0 : Int32)), (.ref b62)])) rfl rfl (hb hby d5_18)
  have pre1176 : ∀ t, Steps p.tables e below (T1175.setTop (mkF m 21 #[rv b62, iv p3] [])) t → Steps p.tables e below (s₁.setTop (entryFrame m #[(.ref b62), (.int p3)] 2)) t := fun t kt => pre1174 _ (st1175 _ kt)
  have N1175 := Fr.snoc X1175 N1168 g_b62
  have O1175 := O1168.wr W1175 g_b62
  have K1175 : Keep h0 h1175 [b62] := K1168.wr W1175 (Or.inl (List.mem_of_getElem? (i := 0) rfl))
  have F1177 := F1170.wr W1175
  have F1178 := F1171.other W1175 q0
  have F1179 := F1173.other W1175 (Or.inr (slot_ne (Or.inl (W 12 rfl)) (Or.inl (W 19 rfl)) (by decide) (t := (.array (.object "java/lang/Object"))) (t' := .int) (by decide) (by decide)))
  have F1180 : Fld Z h1175 b62 "com/example/homethread/homethread/Items" "size" "I" (.int (0 : Int32)) := F1172.same W1175
  obtain ⟨fs, hr, hrun, hended, hW, hsame⟩ := X1175.leave (v := none) (fun _ => rfl)
  refine ⟨_, _, pre1176 _ (X1175.returnOut hx Bd.returns (hb hby d5_21) hr), hrun, hended, _, _, rfl, ?_, ⟨_, rfl⟩, hW, hsame.mono (by decide) (by decide)⟩
  show Q_clearAndTrim5_4 Z b62 p3 a_NO_SLOTS k109_68 r_816 b109_68 h0 n0 _ T1175.heap _
  rw [e1175]
  exact ⟨rfl, N1175, K1175, O1175, F1177, F1179, F1180⟩
def Q_copyOf9_1 (Z : State) (a_NO_SLOTS : Addr) (mr : Addr) (kn : ClassId) (h0 : Heap) (n0 : Nat) (v : Option Value) (h : Heap) (L : List Loc) : Prop := ∃ (k1289 : ClassId) (b1289 : Addr), v = some (.ref b1289) ∧ Fr n0 L ∧ Keep h0 h [] ∧ Old Z n0 h ∧ Ovr Z k1289 "java/lang/Object" ∧ Exa Z h b1289 "[Ljava/lang/Object;" ∧ Arv Z h b1289 k1289 (.object "java/lang/Object") (16 : Int32) [.null, .null, .null, .null, .null, .null, .null, .null, .null, .null, .null, .null, .null, .null, .null, .null] .null ∧ (h0.size ≤ b1289)
set_option maxRecDepth 65536 in
set_option maxHeartbeats 40000000 in
theorem rm_copyOf9_1 (l : Launch) (Z : State) (a0 : Array Value) (hw : ∀ d ∈ tables_1, d.before a0 Z = true) (ws : List Jvm.Cond) (a_NO_SLOTS : Addr) (mr : Addr) (kn : ClassId) (h0 : Heap) (n0 : Nat) (O0 : Old Z n0 h0) (G0 : own_mir Z "[Ljava/lang/Object;" mr) (G1 : Arv Z Z.heap a_NO_SLOTS kn (.object "java/lang/Object") (0 : Int32) [] .null) :
    MetFree l (⟨"java/util/Arrays", "copyOf", "([Ljava/lang/Object;ILjava/lang/Class;)[Ljava/lang/Object;"⟩ : MethodName) (head1 (Jvm.Cond.code (⟨"java/util/Arrays", "copyOf", "([Ljava/lang/Object;ILjava/lang/Class;)[Ljava/lang/Object;"⟩ : MethodName) jdk_65_method_120_code 4 (some (.array (.object "java/lang/Object"))) :: ws) ({ frames := 1, cells := 1, slots := 16, locals := 24 } : Room)) (fun a U => a = #[(.ref a_NO_SLOTS), (.int (16 : Int32)), (.ref mr)] ∧ Z.Warmed39 U.vm ∧ U.heap = h0) (fun _ _ _ _ _ => True) (fun _ U o U' => ∃ v L, o = .returned v ∧ Q_copyOf9_1 Z a_NO_SLOTS mr kn h0 n0 v U'.heap L ∧ FrameEnd U o U' L ({ frames := 1, cells := 1, slots := 16, locals := 24 } : Room).cells ({ frames := 1, cells := 1, slots := 16, locals := 24 } : Room).slots) := by
  refine MetFree.of_bodySF (plainFor_of_name pn_23) hisR ?_
  intro p e s m args below meth c s₁ Bd hml0 hP hK
  have W := fun {d : Jvm.Cond} (i : Nat) (q : tables_1[i]? = some d) => hw d (List.mem_of_getElem? q)
  obtain ⟨rfl, hZ, hh⟩ := hP
  have hx := Bd.exec
  have hby := Bd.bytes
  have hml : c.maxLocals = 4 := hml0
  have hown : s.vm.findClass "java/util/Arrays" = some m.cls := findClass_of_methodNamed Bd.named
  have hnm := (name_of_methodNamed Bd.named Bd.method).1
  have X0 : Stand p l e ({ frames := 1, cells := 1, slots := 16, locals := 24 } : Room) s m #[(.ref a_NO_SLOTS), (.int (16 : Int32)), (.ref mr)] below meth c s₁ [] 0 0 := Stand.of_body Bd
  have e0 : s₁.heap = h0 := by rw [← hh, Bd.state]; rfl
  have N0 := Fr.nil n0
  have pre0 : ∀ t, Steps p.tables e below (s₁.setTop (mkF m 0 #[rv a_NO_SLOTS, iv (16 : Int32), rv mr, .unset] [])) t → Steps p.tables e below (s₁.setTop (entryFrame m #[(.ref a_NO_SLOTS), (.int (16 : Int32)), (.ref mr)] 4)) t := fun t k => castTop (ef_24 m a_NO_SLOTS (16 : Int32) mr) k
  have K0 : Keep h0 h0 [] := Keep.refl h0 []
  have pre1285 : ∀ t, Steps p.tables e below (s₁.setTop (mkF m 1 #[rv a_NO_SLOTS, iv (16 : Int32), rv mr, .unset] [(.ref mr)])) t → Steps p.tables e below (s₁.setTop (entryFrame m #[(.ref a_NO_SLOTS), (.int (16 : Int32)), (.ref mr)] 4)) t := fun t kt => by
    refine pre0 _ ?_
    show Steps p.tables e below (s₁.setTop (mkF m 0 #[rv a_NO_SLOTS, iv (16 : Int32), rv mr, .unset] [])) _
    refine XS.aloadN X0.here hx rfl (hb hby d9_0) rfl rfl ?_
    exact kt
  obtain ⟨vm1286, X1286, st1286⟩ := X0.ldcMirror hx hown (mvT hZ (W 56 rfl)) (own_mir_eval hZ G0) (g := (mkF m 1 #[rv a_NO_SLOTS, iv (16 : Int32), rv mr, .unset] [(.ref mr)])) rfl (hb hby d9_1)
  obtain ⟨T1286, hT1286⟩ : ∃ z, z = s₁.setVm vm1286 := ⟨_, rfl⟩
  rw [← hT1286] at X1286 st1286
  have e1286 : T1286.heap = h0 := by rw [hT1286]; exact e0
  have pre1287 : ∀ t, Steps p.tables e below (T1286.setTop (mkF m 3 #[rv a_NO_SLOTS, iv (16 : Int32), rv mr, .unset] [(.ref mr), (.ref mr)])) t → Steps p.tables e below (s₁.setTop (entryFrame m #[(.ref a_NO_SLOTS), (.int (16 : Int32)), (.ref mr)] 4)) t := fun t kt => pre1285 _ (st1286 _ kt)
  have pre1288 : ∀ t, Steps p.tables e below (T1286.setTop (mkF m 7 #[rv a_NO_SLOTS, iv (16 : Int32), rv mr, .unset] [(.int (16 : Int32))])) t → Steps p.tables e below (s₁.setTop (entryFrame m #[(.ref a_NO_SLOTS), (.int (16 : Int32)), (.ref mr)] 4)) t := fun t kt => by
    refine pre1287 _ ?_
    show Steps p.tables e below (T1286.setTop (mkF m 3 #[rv a_NO_SLOTS, iv (16 : Int32), rv mr, .unset] [(.ref mr), (.ref mr)])) _
    refine Jvm.RoadKit.acmp (g := (mkF m 3 #[rv a_NO_SLOTS, iv (16 : Int32), rv mr, .unset] [(.ref mr), (.ref mr)])) X1286 hx rfl rfl rfl (pc0 := 3) (pc' := 6) (same := true) rfl (hb hby d9_3) rfl (decide_eq_true rfl) (by decide) (by decide) ?_
    refine XS.iloadN X1286.here hx rfl (hb hby d9_6) rfl ?_
    exact kt
  obtain ⟨T1289, h1289, k1289, X1289, e1289, E1289, A1289, B1289, V1289, st1289⟩ := newRE X1286 hx hZ hown (W 57 rfl) (W 10 rfl) e1286 (g := (mkF m 7 #[rv a_NO_SLOTS, iv (16 : Int32), rv mr, .unset] [(.int (16 : Int32))])) rfl (hb hby d9_7) rfl (by decide) (cap := 16) (by decide) (by decide) (by decide) (by decide) (ad := "[Ljava/lang/Object;") (by decide)
  obtain ⟨b1289, g1289⟩ : ∃ z, z = h0.size := ⟨_, rfl⟩
  rw [← g1289] at A1289 B1289 st1289
  have pre1290 : ∀ t, Steps p.tables e below (T1289.setTop (mkF m 10 #[rv a_NO_SLOTS, iv (16 : Int32), rv mr, .unset] [(.ref b1289)])) t → Steps p.tables e below (s₁.setTop (entryFrame m #[(.ref a_NO_SLOTS), (.int (16 : Int32)), (.ref mr)] 4)) t := fun t kt => pre1288 _ (st1289 _ kt)
  have O1289 := O0.ext E1289
  have K1289 : Keep h0 h1289 [] := K0.ext E1289
  have g_b1289 : n0 ≤ b1289 := Nat.le_trans (Nat.le_trans (Nat.le_of_eq O0.1.symm) O0.2.1) (Nat.le_of_eq g1289.symm)
  have sz_b1289 : h0.size ≤ b1289 := Nat.le_trans K0.1 (Nat.le_of_eq g1289.symm)
  have ne_a_NO_SLOTS_b1289 : a_NO_SLOTS ≠ b1289 := Nat.ne_of_lt (Nat.lt_of_lt_of_le (G1.ext O0.2).lt (Nat.le_of_eq g1289.symm))
  have F1291 : Arv Z h1289 b1289 k1289 (.object "java/lang/Object") (16 : Int32) [.null, .null, .null, .null, .null, .null, .null, .null, .null, .null, .null, .null, .null, .null, .null, .null] .null := (Arv.new A1289 (by decide)).pad (pad_rep [] .null 16)
  have F1292 : Exa Z h1289 b1289 "[Ljava/lang/Object;" := B1289
  have pre1294 : ∀ t, Steps p.tables e below (T1289.setTop (mkF m 30 #[rv a_NO_SLOTS, iv (16 : Int32), rv mr, rv b1289] [(.ref a_NO_SLOTS), (.int (0 : Int32)), (.ref b1289), (.int (0 : Int32)), (.ref a_NO_SLOTS)])) t → Steps p.tables e below (s₁.setTop (entryFrame m #[(.ref a_NO_SLOTS), (.int (16 : Int32)), (.ref mr)] 4)) t := fun t kt => by
    refine pre1290 _ ?_
    show Steps p.tables e below (T1289.setTop (mkF m 10 #[rv a_NO_SLOTS, iv (16 : Int32), rv mr, .unset] [(.ref b1289)])) _
    refine XS.goto X1289.here hx rfl (pc0 := 10) (pc' := 24) rfl (hb hby d9_10) (by decide) (by decide) ?_
    refine XS.astoreN X1289.here hx rfl (hb hby d9_24) rfl rfl (l' := #[rv a_NO_SLOTS, iv (16 : Int32), rv mr, rv b1289]) rfl ?_
    refine XS.aloadN X1289.here hx rfl (hb hby d9_25) rfl rfl ?_
    refine XS.iconst X1289.here hx rfl (hb hby d9_26) ?_
    show Steps p.tables e below (T1289.setTop (mkF m 27 #[rv a_NO_SLOTS, iv (16 : Int32), rv mr, rv b1289] [(.int (0 : Int32)), (.ref a_NO_SLOTS)])) _
    refine XS.aloadN X1289.here hx rfl (hb hby d9_27) rfl rfl ?_
    refine XS.iconst X1289.here hx rfl (hb hby d9_28) ?_
    refine XS.aloadN X1289.here hx rfl (hb hby d9_29) rfl rfl ?_
    exact kt
  obtain ⟨c1293, Ar1293, -, S1293, M1293, -, -⟩ := id (G1.ext O1289.2)
  have pre1295 : ∀ t, Steps p.tables e below (T1289.setTop (mkF m 32 #[rv a_NO_SLOTS, iv (16 : Int32), rv mr, rv b1289] [(.int (16 : Int32)), (.int (0 : Int32)), (.int (0 : Int32)), (.ref b1289), (.int (0 : Int32)), (.ref a_NO_SLOTS)])) t → Steps p.tables e below (s₁.setTop (entryFrame m #[(.ref a_NO_SLOTS), (.int (16 : Int32)), (.ref mr)] 4)) t := fun t kt => by
    refine pre1294 _ ?_
    show Steps p.tables e below (T1289.setTop (mkF m 30 #[rv a_NO_SLOTS, iv (16 : Int32), rv mr, rv b1289] [(.ref a_NO_SLOTS), (.int (0 : Int32)), (.ref b1289), (.int (0 : Int32)), (.ref a_NO_SLOTS)])) _
    refine X1289.arraylength hx (by rw [e1289]; exact Ar1293.1) (State.isArrayOf_alike hZ.alike Ar1293.2.1) (g := (mkF m 30 #[rv a_NO_SLOTS, iv (16 : Int32), rv mr, rv b1289] [(.ref a_NO_SLOTS), (.int (0 : Int32)), (.ref b1289), (.int (0 : Int32)), (.ref a_NO_SLOTS)])) rfl rfl (hb hby d9_30) _ ?_
    rw [len_of S1293 M1293]
    refine XS.iloadN X1289.here hx rfl (hb hby d9_31) rfl ?_
    exact kt
  obtain ⟨_, _, ⟨T1296, L1296, k1296, n1296⟩, -, X1296, ⟨Lc1296, hQ1296, l1296, y1296, z1296⟩, st1296⟩ := Jvm.LawKit.callS X1289 hx (y := (⟨"java/lang/Math", "min", "(II)I"⟩ : MethodName)) hown (mvT hZ (W 58 rfl)) (mvT hZ (W 59 rfl)) (mvT hZ (W 41 rfl)) (mvT hZ (W 60 rfl)) (by decide) (backOf (W := 4) (rm_min10_0 l Z a0 hw [] h1289 n0 O1289) hZ (W 60 rfl) (W 41 rfl) (by decide) (by decide)) (g := (mkF m 32 #[rv a_NO_SLOTS, iv (16 : Int32), rv mr, rv b1289] [(.int (16 : Int32)), (.int (0 : Int32)), (.int (0 : Int32)), (.ref b1289), (.int (0 : Int32)), (.ref a_NO_SLOTS)])) rfl (by rw [hml]; rfl) (argsL := [(.int (0 : Int32)), (.int (16 : Int32))]) (rest := [(.int (0 : Int32)), (.ref b1289), (.int (0 : Int32)), (.ref a_NO_SLOTS)]) (lenOf pd_20 rfl) rfl (by show 2 * 0 + _ ≤ _; exact Nat.le_of_eq rfl) (hb hby d9_32) (fun _ _ => ⟨rfl, e1289, (by decide : 1 + 0 ≤ _), (by decide : 16 + 0 ≤ _)⟩)
  dsimp only [Pt.U, Pt.locs, Pt.cells, Pt.slots] at X1296 l1296 y1296 z1296 st1296 hQ1296
  replace l1296 := l1296.symm
  replace y1296 : 1 = k1296 := y1296.symm
  replace z1296 : 16 = n1296 := z1296.symm
  subst l1296 y1296 z1296
  obtain ⟨rfl, M1296, e1296⟩ := hQ1296
  have N1296 := Fr.app N0 M1296
  have pre1297 : ∀ t, Steps p.tables e below (T1296.setTop (mkF m 35 #[rv a_NO_SLOTS, iv (16 : Int32), rv mr, rv b1289] [(.int (0 : Int32)), (.int (0 : Int32)), (.ref b1289), (.int (0 : Int32)), (.ref a_NO_SLOTS)])) t → Steps p.tables e below (s₁.setTop (entryFrame m #[(.ref a_NO_SLOTS), (.int (16 : Int32)), (.ref mr)] 4)) t := fun t kt => pre1295 _ (st1296 _ kt)
  obtain ⟨T1298, h1298, L1298, X1298, e1298, N1298, Kc1298, V1298, st1298⟩ := cpA X1296 hx hZ hown (W 61 rfl) (W 64 rfl) (W 62 rfl) (W 63 rfl) e1296 (G1.ext O1289.2) F1291  (sp := (0 : Int32)) (dp := (0 : Int32)) (nn := (0 : Int32)) (us := []) (Or.inr ⟨rfl, rfl, trivial⟩) (by decide) (by decide) (by decide) (by decide) (by decide) rfl (Nat.le_of_ble_eq_true rfl) N1296 g_b1289 (g := (mkF m 35 #[rv a_NO_SLOTS, iv (16 : Int32), rv mr, rv b1289] [(.int (0 : Int32)), (.int (0 : Int32)), (.ref b1289), (.int (0 : Int32)), (.ref a_NO_SLOTS)])) rfl (by rw [hml]; rfl) (rest := []) rfl (hb hby d9_35) (by decide) (W := 0) (by show 2 * 0 + _ ≤ _; exact Nat.le_of_eq rfl) (by decide)
  have pre1299 : ∀ t, Steps p.tables e below (T1298.setTop (mkF m 38 #[rv a_NO_SLOTS, iv (16 : Int32), rv mr, rv b1289] [])) t → Steps p.tables e below (s₁.setTop (entryFrame m #[(.ref a_NO_SLOTS), (.int (16 : Int32)), (.ref mr)] 4)) t := fun t kt => pre1297 _ (st1298 _ kt)
  have O1298 := O1289.keep Kc1298 (own_all1 g_b1289)
  have K1298 : Keep h0 h1298 [] := K1289.trans Kc1298 (own_all1 (Or.inr sz_b1289))
  have F1300 := F1292.keep Kc1298
  have F1301 : Arv Z h1298 b1289 k1289 (.object "java/lang/Object") (16 : Int32) [.null, .null, .null, .null, .null, .null, .null, .null, .null, .null, .null, .null, .null, .null, .null, .null] .null := V1298
  have pre1302 : ∀ t, Steps p.tables e below (T1298.setTop (mkF m 39 #[rv a_NO_SLOTS, iv (16 : Int32), rv mr, rv b1289] [(.ref b1289)])) t → Steps p.tables e below (s₁.setTop (entryFrame m #[(.ref a_NO_SLOTS), (.int (16 : Int32)), (.ref mr)] 4)) t := fun t kt => by
    refine pre1299 _ ?_
    show Steps p.tables e below (T1298.setTop (mkF m 38 #[rv a_NO_SLOTS, iv (16 : Int32), rv mr, rv b1289] [])) _
    refine XS.aloadN X1298.here hx rfl (hb hby d9_38) rfl rfl ?_
    exact kt
  obtain ⟨fs, hr, hrun, hended, hW, hsame⟩ := X1298.leave (v := some (.ref b1289)) (fun h => by rw [Bd.returns] at h; cases h)
  refine ⟨_, _, pre1302 _ (X1298.areturnOut hx rfl Bd.returns rfl (hb hby d9_39) hr), hrun, hended, _, _, rfl, ?_, ⟨_, rfl⟩, hW, hsame.mono (by decide) (by decide)⟩
  show Q_copyOf9_1 Z a_NO_SLOTS mr kn h0 n0 _ T1298.heap _
  rw [e1298]
  exact ⟨k1289, b1289, rfl, N1298, K1298, O1298, V1289, F1300, F1301, sz_b1289⟩
def Q_copyOf8_1 (Z : State) (a_NO_SLOTS : Addr) (mr : Addr) (kn : ClassId) (h0 : Heap) (n0 : Nat) (v : Option Value) (h : Heap) (L : List Loc) : Prop := ∃ (k1289_1318 : ClassId) (b1289_1318 : Addr), v = some (.ref b1289_1318) ∧ Fr n0 L ∧ Keep h0 h [] ∧ Old Z n0 h ∧ Ovr Z k1289_1318 "java/lang/Object" ∧ Exa Z h b1289_1318 "[Ljava/lang/Object;" ∧ Arv Z h b1289_1318 k1289_1318 (.object "java/lang/Object") (16 : Int32) [.null, .null, .null, .null, .null, .null, .null, .null, .null, .null, .null, .null, .null, .null, .null, .null] .null ∧ (h0.size ≤ b1289_1318)
set_option maxRecDepth 65536 in
set_option maxHeartbeats 40000000 in
theorem rm_copyOf8_1 (l : Launch) (Z : State) (a0 : Array Value) (hw : ∀ d ∈ tables_1, d.before a0 Z = true) (ws : List Jvm.Cond) (a_NO_SLOTS : Addr) (mr : Addr) (kn : ClassId) (h0 : Heap) (n0 : Nat) (O0 : Old Z n0 h0) (G0 : own_mir Z "[Ljava/lang/Object;" mr) (G1 : Exa Z Z.heap a_NO_SLOTS "[Ljava/lang/Object;") (G2 : Arv Z Z.heap a_NO_SLOTS kn (.object "java/lang/Object") (0 : Int32) [] .null) :
    MetFree l (⟨"java/util/Arrays", "copyOf", "([Ljava/lang/Object;I)[Ljava/lang/Object;"⟩ : MethodName) (head1 (Jvm.Cond.code (⟨"java/util/Arrays", "copyOf", "([Ljava/lang/Object;I)[Ljava/lang/Object;"⟩ : MethodName) jdk_65_method_119_code 2 (some (.array (.object "java/lang/Object"))) :: ws) ({ frames := 2, cells := 1, slots := 16, locals := 39 } : Room)) (fun a U => a = #[(.ref a_NO_SLOTS), (.int (16 : Int32))] ∧ Z.Warmed39 U.vm ∧ U.heap = h0) (fun _ _ _ _ _ => True) (fun _ U o U' => ∃ v L, o = .returned v ∧ Q_copyOf8_1 Z a_NO_SLOTS mr kn h0 n0 v U'.heap L ∧ FrameEnd U o U' L ({ frames := 2, cells := 1, slots := 16, locals := 39 } : Room).cells ({ frames := 2, cells := 1, slots := 16, locals := 39 } : Room).slots) := by
  refine MetFree.of_bodySF (plainFor_of_name pn_23) hisR ?_
  intro p e s m args below meth c s₁ Bd hml0 hP hK
  have W := fun {d : Jvm.Cond} (i : Nat) (q : tables_1[i]? = some d) => hw d (List.mem_of_getElem? q)
  obtain ⟨rfl, hZ, hh⟩ := hP
  have hx := Bd.exec
  have hby := Bd.bytes
  have hml : c.maxLocals = 2 := hml0
  have hown : s.vm.findClass "java/util/Arrays" = some m.cls := findClass_of_methodNamed Bd.named
  have hnm := (name_of_methodNamed Bd.named Bd.method).1
  have X0 : Stand p l e ({ frames := 2, cells := 1, slots := 16, locals := 39 } : Room) s m #[(.ref a_NO_SLOTS), (.int (16 : Int32))] below meth c s₁ [] 0 0 := Stand.of_body Bd
  have e0 : s₁.heap = h0 := by rw [← hh, Bd.state]; rfl
  have N0 := Fr.nil n0
  have pre0 : ∀ t, Steps p.tables e below (s₁.setTop (mkF m 0 #[rv a_NO_SLOTS, iv (16 : Int32)] [])) t → Steps p.tables e below (s₁.setTop (entryFrame m #[(.ref a_NO_SLOTS), (.int (16 : Int32))] 2)) t := fun t k => castTop (ef_26 m a_NO_SLOTS (16 : Int32)) k
  have K0 : Keep h0 h0 [] := Keep.refl h0 []
  have pre1315 : ∀ t, Steps p.tables e below (s₁.setTop (mkF m 3 #[rv a_NO_SLOTS, iv (16 : Int32)] [(.ref a_NO_SLOTS), (.int (16 : Int32)), (.ref a_NO_SLOTS)])) t → Steps p.tables e below (s₁.setTop (entryFrame m #[(.ref a_NO_SLOTS), (.int (16 : Int32))] 2)) t := fun t kt => by
    refine pre0 _ ?_
    show Steps p.tables e below (s₁.setTop (mkF m 0 #[rv a_NO_SLOTS, iv (16 : Int32)] [])) _
    refine XS.aloadN X0.here hx rfl (hb hby d8_0) rfl rfl ?_
    refine XS.iloadN X0.here hx rfl (hb hby d8_1) rfl ?_
    refine XS.aloadN X0.here hx rfl (hb hby d8_2) rfl rfl ?_
    exact kt
  obtain ⟨T1316, X1316, e1316, st1316⟩ := own_gcls X0 hx hZ hown (W 47 rfl) (W 48 rfl) (W 50 rfl) (W 49 rfl) (W 51 rfl) e0 (G1.ext O0.2) G0 (g := (mkF m 3 #[rv a_NO_SLOTS, iv (16 : Int32)] [(.ref a_NO_SLOTS), (.int (16 : Int32)), (.ref a_NO_SLOTS)])) rfl (by rw [hml]; rfl) (rest := [(.int (16 : Int32)), (.ref a_NO_SLOTS)]) rfl (hb hby d8_3) (by decide) (W := 2) (by show 2 * 0 + _ ≤ _; exact Nat.le_of_eq rfl) (by decide)
  have pre1317 : ∀ t, Steps p.tables e below (T1316.setTop (mkF m 6 #[rv a_NO_SLOTS, iv (16 : Int32)] [(.ref mr), (.int (16 : Int32)), (.ref a_NO_SLOTS)])) t → Steps p.tables e below (s₁.setTop (entryFrame m #[(.ref a_NO_SLOTS), (.int (16 : Int32))] 2)) t := fun t kt => pre1315 _ (st1316 _ kt)
  obtain ⟨_, _, ⟨T1318, L1318, k1318, n1318⟩, -, X1318, ⟨Lc1318, hQ1318, l1318, y1318, z1318⟩, st1318⟩ := Jvm.LawKit.callS X1316 hx (y := (⟨"java/util/Arrays", "copyOf", "([Ljava/lang/Object;ILjava/lang/Class;)[Ljava/lang/Object;"⟩ : MethodName)) hown (mvT hZ (W 53 rfl)) (mvT hZ (W 54 rfl)) (mvT hZ (W 45 rfl)) (mvT hZ (W 55 rfl)) (by decide) (backOf (W := 0) (rm_copyOf9_1 l Z a0 hw [] a_NO_SLOTS mr kn h0 n0 O0 G0 G2) hZ (W 55 rfl) (W 45 rfl) (by decide) (by decide)) (g := (mkF m 6 #[rv a_NO_SLOTS, iv (16 : Int32)] [(.ref mr), (.int (16 : Int32)), (.ref a_NO_SLOTS)])) rfl (by rw [hml]; rfl) (argsL := [(.ref a_NO_SLOTS), (.int (16 : Int32)), (.ref mr)]) (rest := []) (lenOf pd_25 rfl) rfl (by show 2 * 0 + _ ≤ _; exact Nat.le_of_eq rfl) (hb hby d8_6) (fun _ _ => ⟨rfl, e1316, (by decide : 0 + 1 ≤ _), (by decide : 0 + 16 ≤ _)⟩)
  dsimp only [Pt.U, Pt.locs, Pt.cells, Pt.slots] at X1318 l1318 y1318 z1318 st1318 hQ1318
  replace l1318 := l1318.symm
  replace y1318 : 1 = k1318 := y1318.symm
  replace z1318 : 16 = n1318 := z1318.symm
  subst l1318 y1318 z1318
  obtain ⟨k1289_1318, b1289_1318, rfl, M1318, Kc1318, O1318, J1318_0, J1318_1, J1318_2, P1318_0⟩ := hQ1318
  obtain ⟨h1318, e1318⟩ : ∃ z, T1318.heap = z := ⟨_, rfl⟩
  rw [e1318] at Kc1318 O1318 J1318_1 J1318_2
  try rw [e1318] at P1318_0
  have N1318 := Fr.app N0 M1318
  have K1318 : Keep h0 h1318 [] := K0.trans Kc1318 (own_all0 )
  have pre1319 : ∀ t, Steps p.tables e below (T1318.setTop (mkF m 9 #[rv a_NO_SLOTS, iv (16 : Int32)] [(.ref b1289_1318)])) t → Steps p.tables e below (s₁.setTop (entryFrame m #[(.ref a_NO_SLOTS), (.int (16 : Int32))] 2)) t := fun t kt => pre1317 _ (st1318 _ kt)
  have sz_b1289_1318 : h0.size ≤ b1289_1318 := Nat.le_trans K0.1 P1318_0
  have ne_a_NO_SLOTS_b1289_1318 : a_NO_SLOTS ≠ b1289_1318 := Nat.ne_of_lt (Nat.lt_of_lt_of_le (G1.ext O0.2).lt P1318_0)
  have g_b1289_1318 : n0 ≤ b1289_1318 := Nat.le_trans (Nat.le_trans (Nat.le_of_eq O0.1.symm) O0.2.1) sz_b1289_1318
  obtain ⟨fs, hr, hrun, hended, hW, hsame⟩ := X1318.leave (v := some (.ref b1289_1318)) (fun h => by rw [Bd.returns] at h; cases h)
  refine ⟨_, _, pre1319 _ (X1318.areturnOut hx rfl Bd.returns rfl (hb hby d8_9) hr), hrun, hended, _, _, rfl, ?_, ⟨_, rfl⟩, hW, hsame.mono (by decide) (by decide)⟩
  show Q_copyOf8_1 Z a_NO_SLOTS mr kn h0 n0 _ T1318.heap _
  rw [e1318]
  exact ⟨k1289_1318, b1289_1318, rfl, N1318, K1318, O1318, J1318_0, J1318_1, J1318_2, sz_b1289_1318⟩
def Q_add6_4 (Z : State) (b62 : Addr) (r_816 : Addr) (mr : Addr) (a_NO_SLOTS : Addr) (kn : ClassId) (h0 : Heap) (n0 : Nat) (v : Option Value) (h : Heap) (L : List Loc) : Prop := ∃ (k1289_1517 : ClassId) (b1289_1517 : Addr), v = none ∧ Fr n0 L ∧ Keep h0 h [b62] ∧ Old Z n0 h ∧ Exa Z h b62 "com/example/homethread/homethread/Items" ∧ Ovr Z k1289_1517 "java/lang/Object" ∧ Exa Z h b1289_1517 "[Ljava/lang/Object;" ∧ Fld Z h b62 "com/example/homethread/homethread/Items" "slots" "[Ljava/lang/Object;" (.ref b1289_1517) ∧ Arv Z h b1289_1517 k1289_1517 (.object "java/lang/Object") (16 : Int32) [(.ref r_816), .null, .null, .null, .null, .null, .null, .null, .null, .null, .null, .null, .null, .null, .null, .null] .null ∧ Fld Z h b62 "com/example/homethread/homethread/Items" "size" "I" (.int (1 : Int32)) ∧ (h0.size ≤ b1289_1517)
set_option maxRecDepth 65536 in
set_option maxHeartbeats 40000000 in
theorem rm_add6_4 (l : Launch) (Z : State) (a0 : Array Value) (hw : ∀ d ∈ tables_1, d.before a0 Z = true) (ws : List Jvm.Cond) (b62 : Addr) (r_816 : Addr) (mr : Addr) (a_NO_SLOTS : Addr) (kn : ClassId) (h0 : Heap) (n0 : Nat) (O0 : Old Z n0 h0) (G0 : own_mir Z "[Ljava/lang/Object;" mr) (G1 : Exa Z Z.heap a_NO_SLOTS "[Ljava/lang/Object;") (G2 : Arv Z Z.heap a_NO_SLOTS kn (.object "java/lang/Object") (0 : Int32) [] .null) (g_b62 : n0 ≤ b62) (Fi0 : Exa Z h0 r_816 "java/lang/Integer") (Fi1 : Exa Z h0 b62 "com/example/homethread/homethread/Items") (Fi2 : Fld Z h0 b62 "com/example/homethread/homethread/Items" "slots" "[Ljava/lang/Object;" (.ref a_NO_SLOTS)) (Fi3 : Fld Z h0 b62 "com/example/homethread/homethread/Items" "size" "I" (.int (0 : Int32))) :
    MetFree l (⟨"com/example/homethread/homethread/Items", "add", "(Ljava/lang/Object;)V"⟩ : MethodName) (head1 (Jvm.Cond.code (⟨"com/example/homethread/homethread/Items", "add", "(Ljava/lang/Object;)V"⟩ : MethodName) prog_9_method_8_code 3 none :: ws) ({ frames := 3, cells := 1, slots := 16, locals := 53 } : Room)) (fun a U => a = #[(.ref b62), (.ref r_816)] ∧ Z.Warmed39 U.vm ∧ U.heap = h0) (fun _ _ _ _ _ => True) (fun _ U o U' => ∃ v L, o = .returned v ∧ Q_add6_4 Z b62 r_816 mr a_NO_SLOTS kn h0 n0 v U'.heap L ∧ FrameEnd U o U' L ({ frames := 3, cells := 1, slots := 16, locals := 53 } : Room).cells ({ frames := 3, cells := 1, slots := 16, locals := 53 } : Room).slots) := by
  refine MetFree.of_bodySF (plainFor_of_name pn_9) hisR ?_
  intro p e s m args below meth c s₁ Bd hml0 hP hK
  have W := fun {d : Jvm.Cond} (i : Nat) (q : tables_1[i]? = some d) => hw d (List.mem_of_getElem? q)
  obtain ⟨rfl, hZ, hh⟩ := hP
  have hx := Bd.exec
  have hby := Bd.bytes
  have hml : c.maxLocals = 3 := hml0
  have hown : s.vm.findClass "com/example/homethread/homethread/Items" = some m.cls := findClass_of_methodNamed Bd.named
  have hnm := (name_of_methodNamed Bd.named Bd.method).1
  have X0 : Stand p l e ({ frames := 3, cells := 1, slots := 16, locals := 53 } : Room) s m #[(.ref b62), (.ref r_816)] below meth c s₁ [] 0 0 := Stand.of_body Bd
  have e0 : s₁.heap = h0 := by rw [← hh, Bd.state]; rfl
  have N0 := Fr.nil n0
  have pre0 : ∀ t, Steps p.tables e below (s₁.setTop (mkF m 0 #[rv b62, rv r_816, .unset] [])) t → Steps p.tables e below (s₁.setTop (entryFrame m #[(.ref b62), (.ref r_816)] 3)) t := fun t k => castTop (ef_14 m b62 r_816) k
  have K0 : Keep h0 h0 [b62] := Keep.refl h0 [b62]
  have pre1497 : ∀ t, Steps p.tables e below (s₁.setTop (mkF m 1 #[rv b62, rv r_816, .unset] [(.ref b62)])) t → Steps p.tables e below (s₁.setTop (entryFrame m #[(.ref b62), (.ref r_816)] 3)) t := fun t kt => by
    refine pre0 _ ?_
    show Steps p.tables e below (s₁.setTop (mkF m 0 #[rv b62, rv r_816, .unset] [])) _
    refine XS.aloadN X0.here hx rfl (hb hby d6_0) rfl rfl ?_
    exact kt
  obtain ⟨T1498, X1498, e1498, st1498⟩ := getF X0 hx hZ hown (host := "") (Or.inl (W 18 rfl)) Via.refl e0 Fi3 (g := (mkF m 1 #[rv b62, rv r_816, .unset] [(.ref b62)])) rfl rfl (hb hby d6_1)
  have pre1499 : ∀ t, Steps p.tables e below (T1498.setTop (mkF m 4 #[rv b62, rv r_816, .unset] [(.int (0 : Int32))])) t → Steps p.tables e below (s₁.setTop (entryFrame m #[(.ref b62), (.ref r_816)] 3)) t := fun t kt => pre1497 _ (st1498 _ kt)
  have pre1500 : ∀ t, Steps p.tables e below (T1498.setTop (mkF m 5 #[rv b62, rv r_816, .unset] [(.ref b62), (.int (0 : Int32))])) t → Steps p.tables e below (s₁.setTop (entryFrame m #[(.ref b62), (.ref r_816)] 3)) t := fun t kt => by
    refine pre1499 _ ?_
    show Steps p.tables e below (T1498.setTop (mkF m 4 #[rv b62, rv r_816, .unset] [(.int (0 : Int32))])) _
    refine XS.aloadN X1498.here hx rfl (hb hby d6_4) rfl rfl ?_
    exact kt
  obtain ⟨T1501, X1501, e1501, st1501⟩ := getF X1498 hx hZ hown (host := "") (Or.inl (W 11 rfl)) Via.refl e1498 Fi2 (g := (mkF m 5 #[rv b62, rv r_816, .unset] [(.ref b62), (.int (0 : Int32))])) rfl rfl (hb hby d6_5)
  have pre1502 : ∀ t, Steps p.tables e below (T1501.setTop (mkF m 8 #[rv b62, rv r_816, .unset] [(.ref a_NO_SLOTS), (.int (0 : Int32))])) t → Steps p.tables e below (s₁.setTop (entryFrame m #[(.ref b62), (.ref r_816)] 3)) t := fun t kt => pre1500 _ (st1501 _ kt)
  obtain ⟨c1503, Ar1503, -, S1503, M1503, -, -⟩ := id (G2.ext O0.2)
  have pre1504 : ∀ t, Steps p.tables e below (T1501.setTop (mkF m 15 #[rv b62, rv r_816, .unset] [(.ref b62), (.int (16 : Int32))])) t → Steps p.tables e below (s₁.setTop (entryFrame m #[(.ref b62), (.ref r_816)] 3)) t := fun t kt => by
    refine pre1502 _ ?_
    show Steps p.tables e below (T1501.setTop (mkF m 8 #[rv b62, rv r_816, .unset] [(.ref a_NO_SLOTS), (.int (0 : Int32))])) _
    refine X1501.arraylength hx (by rw [e1501]; exact Ar1503.1) (State.isArrayOf_alike hZ.alike Ar1503.2.1) (g := (mkF m 8 #[rv b62, rv r_816, .unset] [(.ref a_NO_SLOTS), (.int (0 : Int32))])) rfl rfl (hb hby d6_8) _ ?_
    rw [len_of S1503 M1503]
    refine XS.icmpNo X1501.here hx rfl (hb hby d6_9) rfl (XT.ii_ne_f (by decide)) ?_
    refine XS.bipush X1501.here hx rfl (hb hby d6_12) ?_
    refine XS.aloadN X1501.here hx rfl (hb hby d6_14) rfl rfl ?_
    exact kt
  obtain ⟨T1505, X1505, e1505, st1505⟩ := getF X1501 hx hZ hown (host := "") (Or.inl (W 18 rfl)) Via.refl e1501 Fi3 (g := (mkF m 15 #[rv b62, rv r_816, .unset] [(.ref b62), (.int (16 : Int32))])) rfl rfl (hb hby d6_15)
  have pre1506 : ∀ t, Steps p.tables e below (T1505.setTop (mkF m 18 #[rv b62, rv r_816, .unset] [(.int (0 : Int32)), (.int (16 : Int32))])) t → Steps p.tables e below (s₁.setTop (entryFrame m #[(.ref b62), (.ref r_816)] 3)) t := fun t kt => pre1504 _ (st1505 _ kt)
  have pre1507 : ∀ t, Steps p.tables e below (T1505.setTop (mkF m 19 #[rv b62, rv r_816, .unset] [(.ref b62), (.int (0 : Int32)), (.int (16 : Int32))])) t → Steps p.tables e below (s₁.setTop (entryFrame m #[(.ref b62), (.ref r_816)] 3)) t := fun t kt => by
    refine pre1506 _ ?_
    show Steps p.tables e below (T1505.setTop (mkF m 18 #[rv b62, rv r_816, .unset] [(.int (0 : Int32)), (.int (16 : Int32))])) _
    refine XS.aloadN X1505.here hx rfl (hb hby d6_18) rfl rfl ?_
    exact kt
  obtain ⟨T1508, X1508, e1508, st1508⟩ := getF X1505 hx hZ hown (host := "") (Or.inl (W 18 rfl)) Via.refl e1505 Fi3 (g := (mkF m 19 #[rv b62, rv r_816, .unset] [(.ref b62), (.int (0 : Int32)), (.int (16 : Int32))])) rfl rfl (hb hby d6_19)
  have pre1509 : ∀ t, Steps p.tables e below (T1508.setTop (mkF m 22 #[rv b62, rv r_816, .unset] [(.int (0 : Int32)), (.int (0 : Int32)), (.int (16 : Int32))])) t → Steps p.tables e below (s₁.setTop (entryFrame m #[(.ref b62), (.ref r_816)] 3)) t := fun t kt => pre1507 _ (st1508 _ kt)
  have pre1510 : ∀ t, Steps p.tables e below (T1508.setTop (mkF m 25 #[rv b62, rv r_816, .unset] [(.int (0 : Int32)), (.int (16 : Int32))])) t → Steps p.tables e below (s₁.setTop (entryFrame m #[(.ref b62), (.ref r_816)] 3)) t := fun t kt => by
    refine pre1509 _ ?_
    show Steps p.tables e below (T1508.setTop (mkF m 22 #[rv b62, rv r_816, .unset] [(.int (0 : Int32)), (.int (0 : Int32)), (.int (16 : Int32))])) _
    refine XS.iconst X1508.here hx rfl (hb hby d6_22) ?_
    refine XS.ishr X1508.here hx rfl (hb hby d6_23) rfl ?_
    show  Steps p.tables e below (T1508.setTop (mkF m 24 #[rv b62, rv r_816, .unset] [(.int ((0 : Int32) >>> ((1 : Int32) &&& 31))), (.int (0 : Int32)), (.int (16 : Int32))])) _
    rw [(by decide : (((0 : Int32) >>> ((1 : Int32) &&& 31)) : Int32) = (0 : Int32))]
    refine XS.iadd X1508.here hx rfl (hb hby d6_24) rfl ?_
    show  Steps p.tables e below (T1508.setTop (mkF m 25 #[rv b62, rv r_816, .unset] [(.int ((0 : Int32) + (0 : Int32))), (.int (16 : Int32))])) _
    rw [(by decide : (((0 : Int32) + (0 : Int32)) : Int32) = (0 : Int32))]
    exact kt
  obtain ⟨_, _, ⟨T1511, L1511, k1511, n1511⟩, -, X1511, ⟨Lc1511, hQ1511, l1511, y1511, z1511⟩, st1511⟩ := Jvm.LawKit.callS X1508 hx (y := (⟨"java/lang/Math", "max", "(II)I"⟩ : MethodName)) hown (mvT hZ (W 39 rfl)) (mvT hZ (W 40 rfl)) (mvT hZ (W 41 rfl)) (mvT hZ (W 42 rfl)) (by decide) (backOf (W := 0) (rm_max7_0 l Z a0 hw [] h0 n0 O0) hZ (W 42 rfl) (W 41 rfl) (by decide) (by decide)) (g := (mkF m 25 #[rv b62, rv r_816, .unset] [(.int (0 : Int32)), (.int (16 : Int32))])) rfl (by rw [hml]; rfl) (argsL := [(.int (16 : Int32)), (.int (0 : Int32))]) (rest := []) (lenOf pd_20 rfl) rfl (by show 2 * 0 + _ ≤ _; exact Nat.le_of_eq rfl) (hb hby d6_25) (fun _ _ => ⟨rfl, e1508, (by decide : 0 + 0 ≤ _), (by decide : 0 + 0 ≤ _)⟩)
  dsimp only [Pt.U, Pt.locs, Pt.cells, Pt.slots] at X1511 l1511 y1511 z1511 st1511 hQ1511
  replace l1511 := l1511.symm
  replace y1511 : 0 = k1511 := y1511.symm
  replace z1511 : 0 = n1511 := z1511.symm
  subst l1511 y1511 z1511
  obtain ⟨rfl, M1511, e1511⟩ := hQ1511
  have N1511 := Fr.app N0 M1511
  have pre1512 : ∀ t, Steps p.tables e below (T1511.setTop (mkF m 28 #[rv b62, rv r_816, .unset] [(.int (16 : Int32))])) t → Steps p.tables e below (s₁.setTop (entryFrame m #[(.ref b62), (.ref r_816)] 3)) t := fun t kt => pre1510 _ (st1511 _ kt)
  have pre1513 : ∀ t, Steps p.tables e below (T1511.setTop (mkF m 31 #[rv b62, rv r_816, iv (16 : Int32)] [(.ref b62), (.ref b62)])) t → Steps p.tables e below (s₁.setTop (entryFrame m #[(.ref b62), (.ref r_816)] 3)) t := fun t kt => by
    refine pre1512 _ ?_
    show Steps p.tables e below (T1511.setTop (mkF m 28 #[rv b62, rv r_816, .unset] [(.int (16 : Int32))])) _
    refine XS.istoreN X1511.here hx rfl (hb hby d6_28) rfl (l' := #[rv b62, rv r_816, iv (16 : Int32)]) rfl ?_
    refine XS.aloadN X1511.here hx rfl (hb hby d6_29) rfl rfl ?_
    refine XS.aloadN X1511.here hx rfl (hb hby d6_30) rfl rfl ?_
    exact kt
  obtain ⟨T1514, X1514, e1514, st1514⟩ := getF X1511 hx hZ hown (host := "") (Or.inl (W 11 rfl)) Via.refl e1511 Fi2 (g := (mkF m 31 #[rv b62, rv r_816, iv (16 : Int32)] [(.ref b62), (.ref b62)])) rfl rfl (hb hby d6_31)
  have pre1515 : ∀ t, Steps p.tables e below (T1514.setTop (mkF m 34 #[rv b62, rv r_816, iv (16 : Int32)] [(.ref a_NO_SLOTS), (.ref b62)])) t → Steps p.tables e below (s₁.setTop (entryFrame m #[(.ref b62), (.ref r_816)] 3)) t := fun t kt => pre1513 _ (st1514 _ kt)
  have pre1516 : ∀ t, Steps p.tables e below (T1514.setTop (mkF m 44 #[rv b62, rv r_816, iv (16 : Int32)] [(.int (16 : Int32)), (.ref a_NO_SLOTS), (.ref b62)])) t → Steps p.tables e below (s₁.setTop (entryFrame m #[(.ref b62), (.ref r_816)] 3)) t := fun t kt => by
    refine pre1515 _ ?_
    show Steps p.tables e below (T1514.setTop (mkF m 34 #[rv b62, rv r_816, iv (16 : Int32)] [(.ref a_NO_SLOTS), (.ref b62)])) _
    refine XS.iloadN X1514.here hx rfl (hb hby d6_34) rfl ?_
    refine XS.ifYes X1514.here hx rfl (pc0 := 35) (pc' := 43) rfl (hb hby d6_35) rfl (XT.i0_ge_t (by decide)) (by decide) (by decide) ?_
    refine XS.iloadN X1514.here hx rfl (hb hby d6_43) rfl ?_
    exact kt
  obtain ⟨_, _, ⟨T1517, L1517, k1517, n1517⟩, -, X1517, ⟨Lc1517, hQ1517, l1517, y1517, z1517⟩, st1517⟩ := Jvm.LawKit.callS X1514 hx (y := (⟨"java/util/Arrays", "copyOf", "([Ljava/lang/Object;I)[Ljava/lang/Object;"⟩ : MethodName)) hown (mvT hZ (W 43 rfl)) (mvT hZ (W 44 rfl)) (mvT hZ (W 45 rfl)) (mvT hZ (W 46 rfl)) (by decide) (backOf (W := 1) (rm_copyOf8_1 l Z a0 hw [] a_NO_SLOTS mr kn h0 n0 O0 G0 G1 G2) hZ (W 46 rfl) (W 45 rfl) (by decide) (by decide)) (g := (mkF m 44 #[rv b62, rv r_816, iv (16 : Int32)] [(.int (16 : Int32)), (.ref a_NO_SLOTS), (.ref b62)])) rfl (by rw [hml]; rfl) (argsL := [(.ref a_NO_SLOTS), (.int (16 : Int32))]) (rest := [(.ref b62)]) (lenOf pd_27 rfl) rfl (by show 2 * 0 + _ ≤ _; exact Nat.le_of_eq rfl) (hb hby d6_44) (fun _ _ => ⟨rfl, e1514, (by decide : 0 + 1 ≤ _), (by decide : 0 + 16 ≤ _)⟩)
  dsimp only [Pt.U, Pt.locs, Pt.cells, Pt.slots] at X1517 l1517 y1517 z1517 st1517 hQ1517
  replace l1517 := l1517.symm
  replace y1517 : 1 = k1517 := y1517.symm
  replace z1517 : 16 = n1517 := z1517.symm
  subst l1517 y1517 z1517
  obtain ⟨k1289_1517, b1289_1517, rfl, M1517, Kc1517, O1517, J1517_0, J1517_1, J1517_2, P1517_0⟩ := hQ1517
  obtain ⟨h1517, e1517⟩ : ∃ z, T1517.heap = z := ⟨_, rfl⟩
  rw [e1517] at Kc1517 O1517 J1517_1 J1517_2
  try rw [e1517] at P1517_0
  have N1517 := Fr.app N1511 M1517
  have K1517 : Keep h0 h1517 [b62] := K0.trans Kc1517 (own_all0 )
  have pre1518 : ∀ t, Steps p.tables e below (T1517.setTop (mkF m 47 #[rv b62, rv r_816, iv (16 : Int32)] [(.ref b1289_1517), (.ref b62)])) t → Steps p.tables e below (s₁.setTop (entryFrame m #[(.ref b62), (.ref r_816)] 3)) t := fun t kt => pre1516 _ (st1517 _ kt)
  have F1519 := Fi0.keep Kc1517
  have F1520 := Fi1.keep Kc1517
  have F1521 := Fi2.keep Kc1517 (own_nm0 )
  have F1522 := Fi3.keep Kc1517 (own_nm0 )
  have sz_b1289_1517 : h0.size ≤ b1289_1517 := Nat.le_trans K0.1 P1517_0
  have ne_a_NO_SLOTS_b1289_1517 : a_NO_SLOTS ≠ b1289_1517 := Nat.ne_of_lt (Nat.lt_of_lt_of_le (G1.ext O0.2).lt P1517_0)
  have ne_r_816_b1289_1517 : r_816 ≠ b1289_1517 := Nat.ne_of_lt (Nat.lt_of_lt_of_le Fi0.lt P1517_0)
  have ne_b62_b1289_1517 : b62 ≠ b1289_1517 := Nat.ne_of_lt (Nat.lt_of_lt_of_le Fi1.lt P1517_0)
  have g_b1289_1517 : n0 ≤ b1289_1517 := Nat.le_trans (Nat.le_trans (Nat.le_of_eq O0.1.symm) O0.2.1) sz_b1289_1517
  obtain ⟨T1523, h1523, X1523, e1523, W1523, st1523⟩ := putF X1517 hx hZ hown (host := "") (Or.inl (W 11 rfl)) Via.refl e1517 F1521 F1520 (Or.inl (W 12 rfl)) (W 1 rfl) (ty := (.array (.object "java/lang/Object"))) (by decide) rfl rfl (g := (mkF m 47 #[rv b62, rv r_816, iv (16 : Int32)] [(.ref b1289_1517), (.ref b62)])) rfl rfl (hb hby d6_47)
  have pre1524 : ∀ t, Steps p.tables e below (T1523.setTop (mkF m 50 #[rv b62, rv r_816, iv (16 : Int32)] [])) t → Steps p.tables e below (s₁.setTop (entryFrame m #[(.ref b62), (.ref r_816)] 3)) t := fun t kt => pre1518 _ (st1523 _ kt)
  have N1523 := Fr.snoc X1523 N1517 g_b62
  have O1523 := O1517.wr W1523 g_b62
  have K1523 : Keep h0 h1523 [b62] := K1517.wr W1523 (Or.inl (List.mem_of_getElem? (i := 0) rfl))
  have F1525 := F1519.wr W1523
  have F1526 := F1520.wr W1523
  have F1527 := F1522.other W1523 (Or.inr (slot_ne (Or.inl (W 19 rfl)) (Or.inl (W 12 rfl)) (by decide) (t := .int) (t' := (.array (.object "java/lang/Object"))) (by decide) (by decide)))
  have F1528 := J1517_1.wr W1523
  have F1529 := J1517_2.other W1523 (fun q => ne_b62_b1289_1517 q.symm)
  have F1530 : Fld Z h1523 b62 "com/example/homethread/homethread/Items" "slots" "[Ljava/lang/Object;" (.ref b1289_1517) := F1521.same W1523
  have pre1531 : ∀ t, Steps p.tables e below (T1523.setTop (mkF m 51 #[rv b62, rv r_816, iv (16 : Int32)] [(.ref b62)])) t → Steps p.tables e below (s₁.setTop (entryFrame m #[(.ref b62), (.ref r_816)] 3)) t := fun t kt => by
    refine pre1524 _ ?_
    show Steps p.tables e below (T1523.setTop (mkF m 50 #[rv b62, rv r_816, iv (16 : Int32)] [])) _
    refine XS.aloadN X1523.here hx rfl (hb hby d6_50) rfl rfl ?_
    exact kt
  obtain ⟨T1532, X1532, e1532, st1532⟩ := getF X1523 hx hZ hown (host := "") (Or.inl (W 11 rfl)) Via.refl e1523 F1530 (g := (mkF m 51 #[rv b62, rv r_816, iv (16 : Int32)] [(.ref b62)])) rfl rfl (hb hby d6_51)
  have pre1533 : ∀ t, Steps p.tables e below (T1532.setTop (mkF m 54 #[rv b62, rv r_816, iv (16 : Int32)] [(.ref b1289_1517)])) t → Steps p.tables e below (s₁.setTop (entryFrame m #[(.ref b62), (.ref r_816)] 3)) t := fun t kt => pre1531 _ (st1532 _ kt)
  have pre1534 : ∀ t, Steps p.tables e below (T1532.setTop (mkF m 55 #[rv b62, rv r_816, iv (16 : Int32)] [(.ref b62), (.ref b1289_1517)])) t → Steps p.tables e below (s₁.setTop (entryFrame m #[(.ref b62), (.ref r_816)] 3)) t := fun t kt => by
    refine pre1533 _ ?_
    show Steps p.tables e below (T1532.setTop (mkF m 54 #[rv b62, rv r_816, iv (16 : Int32)] [(.ref b1289_1517)])) _
    refine XS.aloadN X1532.here hx rfl (hb hby d6_54) rfl rfl ?_
    exact kt
  obtain ⟨T1535, X1535, e1535, st1535⟩ := getF X1532 hx hZ hown (host := "") (Or.inl (W 18 rfl)) Via.refl e1532 F1527 (g := (mkF m 55 #[rv b62, rv r_816, iv (16 : Int32)] [(.ref b62), (.ref b1289_1517)])) rfl rfl (hb hby d6_55)
  have pre1536 : ∀ t, Steps p.tables e below (T1535.setTop (mkF m 58 #[rv b62, rv r_816, iv (16 : Int32)] [(.int (0 : Int32)), (.ref b1289_1517)])) t → Steps p.tables e below (s₁.setTop (entryFrame m #[(.ref b62), (.ref r_816)] 3)) t := fun t kt => pre1534 _ (st1535 _ kt)
  have pre1537 : ∀ t, Steps p.tables e below (T1535.setTop (mkF m 59 #[rv b62, rv r_816, iv (16 : Int32)] [(.ref r_816), (.int (0 : Int32)), (.ref b1289_1517)])) t → Steps p.tables e below (s₁.setTop (entryFrame m #[(.ref b62), (.ref r_816)] 3)) t := fun t kt => by
    refine pre1536 _ ?_
    show Steps p.tables e below (T1535.setTop (mkF m 58 #[rv b62, rv r_816, iv (16 : Int32)] [(.int (0 : Int32)), (.ref b1289_1517)])) _
    refine XS.aloadN X1535.here hx rfl (hb hby d6_58) rfl rfl ?_
    exact kt
  obtain ⟨c1538, Ar1538, q1538, S1538, M1538, H1538, G1538⟩ := id F1529
  have i1538 : ¬ ((0 : Int32) < 0 ∨ c1538.slots.size ≤ ((0 : Int32)).toNatClampNeg) := inb_of S1538 ⟨by decide, by decide⟩
  obtain ⟨T1539, h1539, X1539, e1539, W1539, st1539⟩ := stR X1535 hx hZ e1535 Ar1538 (j := (0 : Int32)) i1538 rfl (Sto.ofV Ar1538 q1538 J1517_0 (Ins.of_exa F1525 (W 65 rfl))) (g := (mkF m 59 #[rv b62, rv r_816, iv (16 : Int32)] [(.ref r_816), (.int (0 : Int32)), (.ref b1289_1517)])) rfl rfl (hb hby d6_59)
  have pre1540 : ∀ t, Steps p.tables e below (T1539.setTop (mkF m 60 #[rv b62, rv r_816, iv (16 : Int32)] [])) t → Steps p.tables e below (s₁.setTop (entryFrame m #[(.ref b62), (.ref r_816)] 3)) t := fun t kt => pre1537 _ (st1539 _ kt)
  have N1539 := Fr.snoc X1539 N1523 g_b1289_1517
  have O1539 := O1523.wr W1539 g_b1289_1517
  have K1539 : Keep h0 h1539 [b62] := K1523.wr W1539 (Or.inr sz_b1289_1517)
  have F1541 := F1525.wr W1539
  have F1542 := F1526.wr W1539
  have F1543 := F1527.other W1539 (Or.inl ne_b62_b1289_1517)
  have F1544 := F1528.wr W1539
  have F1545 := F1530.other W1539 (Or.inl ne_b62_b1289_1517)
  have F1546 : Arv Z h1539 b1289_1517 k1289_1517 (.object "java/lang/Object") (16 : Int32) [(.ref r_816), .null, .null, .null, .null, .null, .null, .null, .null, .null, .null, .null, .null, .null, .null, .null] .null := Arv.set Ar1538 q1538 S1538 M1538 H1538 G1538 rfl W1539 0 rfl (Nat.le_of_ble_eq_true rfl)
  have pre1547 : ∀ t, Steps p.tables e below (T1539.setTop (mkF m 62 #[rv b62, rv r_816, iv (16 : Int32)] [(.ref b62), (.ref b62)])) t → Steps p.tables e below (s₁.setTop (entryFrame m #[(.ref b62), (.ref r_816)] 3)) t := fun t kt => by
    refine pre1540 _ ?_
    show Steps p.tables e below (T1539.setTop (mkF m 60 #[rv b62, rv r_816, iv (16 : Int32)] [])) _
    refine XS.aloadN X1539.here hx rfl (hb hby d6_60) rfl rfl ?_
    refine XS.dup X1539.here hx rfl (hb hby d6_61) rfl rfl ?_
    exact kt
  obtain ⟨T1548, X1548, e1548, st1548⟩ := getF X1539 hx hZ hown (host := "") (Or.inl (W 18 rfl)) Via.refl e1539 F1543 (g := (mkF m 62 #[rv b62, rv r_816, iv (16 : Int32)] [(.ref b62), (.ref b62)])) rfl rfl (hb hby d6_62)
  have pre1549 : ∀ t, Steps p.tables e below (T1548.setTop (mkF m 65 #[rv b62, rv r_816, iv (16 : Int32)] [(.int (0 : Int32)), (.ref b62)])) t → Steps p.tables e below (s₁.setTop (entryFrame m #[(.ref b62), (.ref r_816)] 3)) t := fun t kt => pre1547 _ (st1548 _ kt)
  have pre1550 : ∀ t, Steps p.tables e below (T1548.setTop (mkF m 67 #[rv b62, rv r_816, iv (16 : Int32)] [(.int (1 : Int32)), (.ref b62)])) t → Steps p.tables e below (s₁.setTop (entryFrame m #[(.ref b62), (.ref r_816)] 3)) t := fun t kt => by
    refine pre1549 _ ?_
    show Steps p.tables e below (T1548.setTop (mkF m 65 #[rv b62, rv r_816, iv (16 : Int32)] [(.int (0 : Int32)), (.ref b62)])) _
    refine XS.iconst X1548.here hx rfl (hb hby d6_65) ?_
    refine XS.iadd X1548.here hx rfl (hb hby d6_66) rfl ?_
    show  Steps p.tables e below (T1548.setTop (mkF m 67 #[rv b62, rv r_816, iv (16 : Int32)] [(.int ((0 : Int32) + (1 : Int32))), (.ref b62)])) _
    rw [(by decide : (((0 : Int32) + (1 : Int32)) : Int32) = (1 : Int32))]
    exact kt
  obtain ⟨T1551, h1551, X1551, e1551, W1551, st1551⟩ := putF X1548 hx hZ hown (host := "") (Or.inl (W 18 rfl)) Via.refl e1548 F1543 F1542 (Or.inl (W 19 rfl)) (W 1 rfl) (ty := .int) (by decide) rfl rfl (g := (mkF m 67 #[rv b62, rv r_816, iv (16 : Int32)] [(.int (1 : Int32)), (.ref b62)])) rfl rfl (hb hby d6_67)
  have pre1552 : ∀ t, Steps p.tables e below (T1551.setTop (mkF m 70 #[rv b62, rv r_816, iv (16 : Int32)] [])) t → Steps p.tables e below (s₁.setTop (entryFrame m #[(.ref b62), (.ref r_816)] 3)) t := fun t kt => pre1550 _ (st1551 _ kt)
  have N1551 := Fr.snoc X1551 N1539 g_b62
  have O1551 := O1539.wr W1551 g_b62
  have K1551 : Keep h0 h1551 [b62] := K1539.wr W1551 (Or.inl (List.mem_of_getElem? (i := 0) rfl))
  have F1553 := F1541.wr W1551
  have F1554 := F1542.wr W1551
  have F1555 := F1544.wr W1551
  have F1556 := F1545.other W1551 (Or.inr (slot_ne (Or.inl (W 12 rfl)) (Or.inl (W 19 rfl)) (by decide) (t := (.array (.object "java/lang/Object"))) (t' := .int) (by decide) (by decide)))
  have F1557 := F1546.other W1551 (fun q => ne_b62_b1289_1517 q.symm)
  have F1558 : Fld Z h1551 b62 "com/example/homethread/homethread/Items" "size" "I" (.int (1 : Int32)) := F1543.same W1551
  obtain ⟨fs, hr, hrun, hended, hW, hsame⟩ := X1551.leave (v := none) (fun _ => rfl)
  refine ⟨_, _, pre1552 _ (X1551.returnOut hx Bd.returns (hb hby d6_70) hr), hrun, hended, _, _, rfl, ?_, ⟨_, rfl⟩, hW, hsame.mono (by decide) (by decide)⟩
  show Q_add6_4 Z b62 r_816 mr a_NO_SLOTS kn h0 n0 _ T1551.heap _
  rw [e1551]
  exact ⟨k1289_1517, b1289_1517, rfl, N1551, K1551, O1551, F1554, J1517_0, F1555, F1556, F1557, F1558, sz_b1289_1517⟩
def Q_clearAndTrim5_5 (Z : State) (b62 : Addr) (p3 : Int32) (k109_68 : ClassId) (r_816 : Addr) (b109_68 : Addr) (h0 : Heap) (n0 : Nat) (v : Option Value) (h : Heap) (L : List Loc) : Prop := v = none ∧ Fr n0 L ∧ Keep h0 h [b62] ∧ Old Z n0 h ∧ Exa Z h b62 "com/example/homethread/homethread/Items" ∧ Fld Z h b62 "com/example/homethread/homethread/Items" "slots" "[Ljava/lang/Object;" (.ref b109_68) ∧ Fld Z h b62 "com/example/homethread/homethread/Items" "size" "I" (.int (0 : Int32))
set_option maxRecDepth 65536 in
set_option maxHeartbeats 40000000 in
theorem rm_clearAndTrim5_5 (l : Launch) (Z : State) (a0 : Array Value) (hw : ∀ d ∈ tables_1, d.before a0 Z = true) (ws : List Jvm.Cond) (b62 : Addr) (p3 : Int32) (k109_68 : ClassId) (r_816 : Addr) (b109_68 : Addr) (h0 : Heap) (n0 : Nat) (O0 : Old Z n0 h0) (g_b62 : n0 ≤ b62) (Fi0 : Exa Z h0 b62 "com/example/homethread/homethread/Items") (Fi1 : Fld Z h0 b62 "com/example/homethread/homethread/Items" "slots" "[Ljava/lang/Object;" (.ref b109_68)) (Fi2 : Arv Z h0 b109_68 k109_68 (.object "java/lang/Object") (16 : Int32) [(.ref r_816), .null, .null, .null, .null, .null, .null, .null, .null, .null, .null, .null, .null, .null, .null, .null] .null) (Fi3 : Fld Z h0 b62 "com/example/homethread/homethread/Items" "size" "I" (.int (1 : Int32))) (q0 : ¬ (b109_68 = b62)) (q1 : ¬ (p3 < (16 : Int32))) :
    MetFree l (⟨"com/example/homethread/homethread/Items", "clearAndTrim", "(I)V"⟩ : MethodName) (head1 (Jvm.Cond.code (⟨"com/example/homethread/homethread/Items", "clearAndTrim", "(I)V"⟩ : MethodName) prog_9_method_11_code 2 none :: ws) ({ frames := 0, cells := 0, slots := 0, locals := 0 } : Room)) (fun a U => a = #[(.ref b62), (.int p3)] ∧ Z.Warmed39 U.vm ∧ U.heap = h0) (fun _ _ _ _ _ => True) (fun _ U o U' => ∃ v L, o = .returned v ∧ Q_clearAndTrim5_5 Z b62 p3 k109_68 r_816 b109_68 h0 n0 v U'.heap L ∧ FrameEnd U o U' L ({ frames := 0, cells := 0, slots := 0, locals := 0 } : Room).cells ({ frames := 0, cells := 0, slots := 0, locals := 0 } : Room).slots) := by
  refine MetFree.of_bodySF (plainFor_of_name pn_9) hisR ?_
  intro p e s m args below meth c s₁ Bd hml0 hP hK
  have W := fun {d : Jvm.Cond} (i : Nat) (q : tables_1[i]? = some d) => hw d (List.mem_of_getElem? q)
  obtain ⟨rfl, hZ, hh⟩ := hP
  have hx := Bd.exec
  have hby := Bd.bytes
  have hml : c.maxLocals = 2 := hml0
  have hown : s.vm.findClass "com/example/homethread/homethread/Items" = some m.cls := findClass_of_methodNamed Bd.named
  have hnm := (name_of_methodNamed Bd.named Bd.method).1
  have X0 : Stand p l e ({ frames := 0, cells := 0, slots := 0, locals := 0 } : Room) s m #[(.ref b62), (.int p3)] below meth c s₁ [] 0 0 := Stand.of_body Bd
  have e0 : s₁.heap = h0 := by rw [← hh, Bd.state]; rfl
  have N0 := Fr.nil n0
  have pre0 : ∀ t, Steps p.tables e below (s₁.setTop (mkF m 0 #[rv b62, iv p3] [])) t → Steps p.tables e below (s₁.setTop (entryFrame m #[(.ref b62), (.int p3)] 2)) t := fun t k => castTop (ef_17 m b62 p3) k
  have K0 : Keep h0 h0 [b62] := Keep.refl h0 [b62]
  have pre1592 : ∀ t, Steps p.tables e below (s₁.setTop (mkF m 1 #[rv b62, iv p3] [(.ref b62)])) t → Steps p.tables e below (s₁.setTop (entryFrame m #[(.ref b62), (.int p3)] 2)) t := fun t kt => by
    refine pre0 _ ?_
    show Steps p.tables e below (s₁.setTop (mkF m 0 #[rv b62, iv p3] [])) _
    refine XS.aloadN X0.here hx rfl (hb hby d5_0) rfl rfl ?_
    exact kt
  obtain ⟨T1593, X1593, e1593, st1593⟩ := getF X0 hx hZ hown (host := "") (Or.inl (W 11 rfl)) Via.refl e0 Fi1 (g := (mkF m 1 #[rv b62, iv p3] [(.ref b62)])) rfl rfl (hb hby d5_1)
  have pre1594 : ∀ t, Steps p.tables e below (T1593.setTop (mkF m 4 #[rv b62, iv p3] [(.ref b109_68)])) t → Steps p.tables e below (s₁.setTop (entryFrame m #[(.ref b62), (.int p3)] 2)) t := fun t kt => pre1592 _ (st1593 _ kt)
  obtain ⟨c1595, Ar1595, -, S1595, M1595, -, -⟩ := id Fi2
  have pre1596 : ∀ t, Steps p.tables e below (T1593.setTop (mkF m 18 #[rv b62, iv p3] [(.int (0 : Int32)), (.ref b62)])) t → Steps p.tables e below (s₁.setTop (entryFrame m #[(.ref b62), (.int p3)] 2)) t := fun t kt => by
    refine pre1594 _ ?_
    show Steps p.tables e below (T1593.setTop (mkF m 4 #[rv b62, iv p3] [(.ref b109_68)])) _
    refine X1593.arraylength hx (by rw [e1593]; exact Ar1595.1) (State.isArrayOf_alike hZ.alike Ar1595.2.1) (g := (mkF m 4 #[rv b62, iv p3] [(.ref b109_68)])) rfl rfl (hb hby d5_4) _ ?_
    rw [len_of S1595 M1595]
    refine XS.iloadN X1593.here hx rfl (hb hby d5_5) rfl ?_
    refine XS.icmpYes X1593.here hx rfl (pc0 := 6) (pc' := 16) rfl (hb hby d5_6) rfl (XT.ii_le_t q1) (by decide) (by decide) ?_
    refine XS.aloadN X1593.here hx rfl (hb hby d5_16) rfl rfl ?_
    show Steps p.tables e below (T1593.setTop (mkF m 17 #[rv b62, iv p3] [(.ref b62)])) _
    refine XS.iconst X1593.here hx rfl (hb hby d5_17) ?_
    exact kt
  obtain ⟨T1597, h1597, X1597, e1597, W1597, st1597⟩ := putF X1593 hx hZ hown (host := "") (Or.inl (W 18 rfl)) Via.refl e1593 Fi3 Fi0 (Or.inl (W 19 rfl)) (W 1 rfl) (ty := .int) (by decide) rfl rfl (g := (mkF m 18 #[rv b62, iv p3] [(.int (0 : Int32)), (.ref b62)])) rfl rfl (hb hby d5_18)
  have pre1598 : ∀ t, Steps p.tables e below (T1597.setTop (mkF m 21 #[rv b62, iv p3] [])) t → Steps p.tables e below (s₁.setTop (entryFrame m #[(.ref b62), (.int p3)] 2)) t := fun t kt => pre1596 _ (st1597 _ kt)
  have N1597 := Fr.snoc X1597 N0 g_b62
  have O1597 := O0.wr W1597 g_b62
  have K1597 : Keep h0 h1597 [b62] := K0.wr W1597 (Or.inl (List.mem_of_getElem? (i := 0) rfl))
  have F1599 := Fi0.wr W1597
  have F1600 := Fi1.other W1597 (Or.inr (slot_ne (Or.inl (W 12 rfl)) (Or.inl (W 19 rfl)) (by decide) (t := (.array (.object "java/lang/Object"))) (t' := .int) (by decide) (by decide)))
  have F1601 := Fi2.other W1597 q0
  have F1602 : Fld Z h1597 b62 "com/example/homethread/homethread/Items" "size" "I" (.int (0 : Int32)) := Fi3.same W1597
  obtain ⟨fs, hr, hrun, hended, hW, hsame⟩ := X1597.leave (v := none) (fun _ => rfl)
  refine ⟨_, _, pre1598 _ (X1597.returnOut hx Bd.returns (hb hby d5_21) hr), hrun, hended, _, _, rfl, ?_, ⟨_, rfl⟩, hW, hsame.mono (by decide) (by decide)⟩
  show Q_clearAndTrim5_5 Z b62 p3 k109_68 r_816 b109_68 h0 n0 _ T1597.heap _
  rw [e1597]
  exact ⟨rfl, N1597, K1597, O1597, F1599, F1600, F1602⟩
theorem d13_12 : decode prog_9_method_12_code 12 = .ok (.aload_n 0, 1) := by decide +kernel
theorem d13_13 : decode prog_9_method_12_code 13 = .ok (.getfield 9, 3) := by decide +kernel
theorem d13_16 : decode prog_9_method_12_code 16 = .ok (.iload_n 3, 1) := by decide +kernel
theorem d13_17 : decode prog_9_method_12_code 17 = .ok (.aaload, 1) := by decide +kernel
theorem d13_18 : decode prog_9_method_12_code 18 = .ok (.aload_n 1, 1) := by decide +kernel
theorem d13_19 : decode prog_9_method_12_code 19 = .ok (.if_acmp .ne 48, 3) := by decide +kernel
theorem d13_22 : decode prog_9_method_12_code 22 = .ok (.aload_n 0, 1) := by decide +kernel
theorem d13_23 : decode prog_9_method_12_code 23 = .ok (.getfield 9, 3) := by decide +kernel
theorem d13_26 : decode prog_9_method_12_code 26 = .ok (.iload_n 3, 1) := by decide +kernel
theorem d13_27 : decode prog_9_method_12_code 27 = .ok (.iconst 1, 1) := by decide +kernel
theorem d13_28 : decode prog_9_method_12_code 28 = .ok (.iadd, 1) := by decide +kernel
theorem d13_29 : decode prog_9_method_12_code 29 = .ok (.aload_n 0, 1) := by decide +kernel
theorem d13_30 : decode prog_9_method_12_code 30 = .ok (.getfield 9, 3) := by decide +kernel
theorem d13_33 : decode prog_9_method_12_code 33 = .ok (.iload_n 3, 1) := by decide +kernel
theorem d13_34 : decode prog_9_method_12_code 34 = .ok (.aload_n 0, 1) := by decide +kernel
theorem d13_35 : decode prog_9_method_12_code 35 = .ok (.getfield 82, 3) := by decide +kernel
theorem d13_38 : decode prog_9_method_12_code 38 = .ok (.iload_n 3, 1) := by decide +kernel
theorem d13_39 : decode prog_9_method_12_code 39 = .ok (.isub, 1) := by decide +kernel
theorem d13_40 : decode prog_9_method_12_code 40 = .ok (.iconst 1, 1) := by decide +kernel
theorem d13_41 : decode prog_9_method_12_code 41 = .ok (.isub, 1) := by decide +kernel
theorem d13_42 : decode prog_9_method_12_code 42 = .ok (.invokestatic 104, 3) := by decide +kernel
theorem d13_45 : decode prog_9_method_12_code 45 = .ok (.aload_n 0, 1) := by decide +kernel
theorem d13_46 : decode prog_9_method_12_code 46 = .ok (.dup, 1) := by decide +kernel
theorem d13_47 : decode prog_9_method_12_code 47 = .ok (.getfield 82, 3) := by decide +kernel
theorem d13_50 : decode prog_9_method_12_code 50 = .ok (.iconst 1, 1) := by decide +kernel
theorem d13_51 : decode prog_9_method_12_code 51 = .ok (.isub, 1) := by decide +kernel
theorem d13_52 : decode prog_9_method_12_code 52 = .ok (.putfield 82, 3) := by decide +kernel
theorem d13_55 : decode prog_9_method_12_code 55 = .ok (.aload_n 0, 1) := by decide +kernel
theorem d13_56 : decode prog_9_method_12_code 56 = .ok (.getfield 9, 3) := by decide +kernel
theorem d13_59 : decode prog_9_method_12_code 59 = .ok (.aload_n 0, 1) := by decide +kernel
theorem d13_60 : decode prog_9_method_12_code 60 = .ok (.getfield 82, 3) := by decide +kernel
theorem d13_63 : decode prog_9_method_12_code 63 = .ok (.aconst_null, 1) := by decide +kernel
theorem d13_64 : decode prog_9_method_12_code 64 = .ok (.aastore, 1) := by decide +kernel
theorem d13_65 : decode prog_9_method_12_code 65 = .ok (.iconst 1, 1) := by decide +kernel
theorem d13_66 : decode prog_9_method_12_code 66 = .ok (.ireturn, 1) := by decide +kernel
def Q_removeLast13_1 (Z : State) (b62 : Addr) (r_816 : Addr) (k109_68 : ClassId) (b109_68 : Addr) (h0 : Heap) (n0 : Nat) (v : Option Value) (h : Heap) (L : List Loc) : Prop := v = some (.int (1 : Int32)) ∧ Fr n0 L ∧ Keep h0 h [b62, b109_68] ∧ Old Z n0 h ∧ Exa Z h b62 "com/example/homethread/homethread/Items" ∧ Exa Z h b109_68 "[Ljava/lang/Object;" ∧ Fld Z h b62 "com/example/homethread/homethread/Items" "slots" "[Ljava/lang/Object;" (.ref b109_68) ∧ Fld Z h b62 "com/example/homethread/homethread/Items" "size" "I" (.int (0 : Int32)) ∧ Arv Z h b109_68 k109_68 (.object "java/lang/Object") (16 : Int32) [.null, .null, .null, .null, .null, .null, .null, .null, .null, .null, .null, .null, .null, .null, .null, .null] .null
set_option maxRecDepth 65536 in
set_option maxHeartbeats 40000000 in
theorem rm_removeLast13_1 (l : Launch) (Z : State) (a0 : Array Value) (hw : ∀ d ∈ tables_1, d.before a0 Z = true) (ws : List Jvm.Cond) (b62 : Addr) (r_816 : Addr) (k109_68 : ClassId) (b109_68 : Addr) (h0 : Heap) (n0 : Nat) (O0 : Old Z n0 h0) (g_b62 : n0 ≤ b62) (g_b109_68 : n0 ≤ b109_68) (Fi0 : Exa Z h0 b62 "com/example/homethread/homethread/Items") (Fi1 : Exa Z h0 b109_68 "[Ljava/lang/Object;") (Fi2 : Fld Z h0 b62 "com/example/homethread/homethread/Items" "slots" "[Ljava/lang/Object;" (.ref b109_68)) (Fi3 : Arv Z h0 b109_68 k109_68 (.object "java/lang/Object") (16 : Int32) [(.ref r_816), .null, .null, .null, .null, .null, .null, .null, .null, .null, .null, .null, .null, .null, .null, .null] .null) (Fi4 : Fld Z h0 b62 "com/example/homethread/homethread/Items" "size" "I" (.int (1 : Int32))) (q0 : ¬ (b109_68 = b62)) :
    MetFree l (⟨"com/example/homethread/homethread/Items", "removeLast", "(Ljava/lang/Object;I)Z"⟩ : MethodName) (head1 (Jvm.Cond.code (⟨"com/example/homethread/homethread/Items", "removeLast", "(Ljava/lang/Object;I)Z"⟩ : MethodName) prog_9_method_12_code 4 (some .boolean) :: ws) ({ frames := 1, cells := 0, slots := 0, locals := 24 } : Room)) (fun a U => a = #[(.ref b62), (.ref r_816), (.int (0 : Int32))] ∧ Z.Warmed39 U.vm ∧ U.heap = h0) (fun _ _ _ _ _ => True) (fun _ U o U' => ∃ v L, o = .returned v ∧ Q_removeLast13_1 Z b62 r_816 k109_68 b109_68 h0 n0 v U'.heap L ∧ FrameEnd U o U' L ({ frames := 1, cells := 0, slots := 0, locals := 24 } : Room).cells ({ frames := 1, cells := 0, slots := 0, locals := 24 } : Room).slots) := by
  refine MetFree.of_bodySF (plainFor_of_name pn_9) hisR ?_
  intro p e s m args below meth c s₁ Bd hml0 hP hK
  have W := fun {d : Jvm.Cond} (i : Nat) (q : tables_1[i]? = some d) => hw d (List.mem_of_getElem? q)
  obtain ⟨rfl, hZ, hh⟩ := hP
  have hx := Bd.exec
  have hby := Bd.bytes
  have hml : c.maxLocals = 4 := hml0
  have hown : s.vm.findClass "com/example/homethread/homethread/Items" = some m.cls := findClass_of_methodNamed Bd.named
  have hnm := (name_of_methodNamed Bd.named Bd.method).1
  have X0 : Stand p l e ({ frames := 1, cells := 0, slots := 0, locals := 24 } : Room) s m #[(.ref b62), (.ref r_816), (.int (0 : Int32))] below meth c s₁ [] 0 0 := Stand.of_body Bd
  have e0 : s₁.heap = h0 := by rw [← hh, Bd.state]; rfl
  have N0 := Fr.nil n0
  have pre0 : ∀ t, Steps p.tables e below (s₁.setTop (mkF m 0 #[rv b62, rv r_816, iv (0 : Int32), .unset] [])) t → Steps p.tables e below (s₁.setTop (entryFrame m #[(.ref b62), (.ref r_816), (.int (0 : Int32))] 4)) t := fun t k => castTop (ef_28 m b62 r_816 (0 : Int32)) k
  have K0 : Keep h0 h0 [b62, b109_68] := Keep.refl h0 [b62, b109_68]
  have pre1727 : ∀ t, Steps p.tables e below (s₁.setTop (mkF m 1 #[rv b62, rv r_816, iv (0 : Int32), .unset] [(.ref b62)])) t → Steps p.tables e below (s₁.setTop (entryFrame m #[(.ref b62), (.ref r_816), (.int (0 : Int32))] 4)) t := fun t kt => by
    refine pre0 _ ?_
    show Steps p.tables e below (s₁.setTop (mkF m 0 #[rv b62, rv r_816, iv (0 : Int32), .unset] [])) _
    refine XS.aloadN X0.here hx rfl (hb hby d13_0) rfl rfl ?_
    exact kt
  obtain ⟨T1728, X1728, e1728, st1728⟩ := getF X0 hx hZ hown (host := "") (Or.inl (W 18 rfl)) Via.refl e0 Fi4 (g := (mkF m 1 #[rv b62, rv r_816, iv (0 : Int32), .unset] [(.ref b62)])) rfl rfl (hb hby d13_1)
  have pre1729 : ∀ t, Steps p.tables e below (T1728.setTop (mkF m 4 #[rv b62, rv r_816, iv (0 : Int32), .unset] [(.int (1 : Int32))])) t → Steps p.tables e below (s₁.setTop (entryFrame m #[(.ref b62), (.ref r_816), (.int (0 : Int32))] 4)) t := fun t kt => pre1727 _ (st1728 _ kt)
  have pre1730 : ∀ t, Steps p.tables e below (T1728.setTop (mkF m 13 #[rv b62, rv r_816, iv (0 : Int32), iv (0 : Int32)] [(.ref b62)])) t → Steps p.tables e below (s₁.setTop (entryFrame m #[(.ref b62), (.ref r_816), (.int (0 : Int32))] 4)) t := fun t kt => by
    refine pre1729 _ ?_
    show Steps p.tables e below (T1728.setTop (mkF m 4 #[rv b62, rv r_816, iv (0 : Int32), .unset] [(.int (1 : Int32))])) _
    refine XS.iconst X1728.here hx rfl (hb hby d13_4) ?_
    refine XS.isub X1728.here hx rfl (hb hby d13_5) rfl ?_
    show  Steps p.tables e below (T1728.setTop (mkF m 6 #[rv b62, rv r_816, iv (0 : Int32), .unset] [(.int ((1 : Int32) - (1 : Int32)))])) _
    rw [(by decide : (((1 : Int32) - (1 : Int32)) : Int32) = (0 : Int32))]
    refine XS.istoreN X1728.here hx rfl (hb hby d13_6) rfl (l' := #[rv b62, rv r_816, iv (0 : Int32), iv (0 : Int32)]) rfl ?_
    refine XS.iloadN X1728.here hx rfl (hb hby d13_7) rfl ?_
    show Steps p.tables e below (T1728.setTop (mkF m 8 #[rv b62, rv r_816, iv (0 : Int32), iv (0 : Int32)] [(.int (0 : Int32))])) _
    refine XS.iloadN X1728.here hx rfl (hb hby d13_8) rfl ?_
    refine XS.icmpNo X1728.here hx rfl (hb hby d13_9) rfl (XT.ii_lt_f (by decide)) ?_
    refine XS.aloadN X1728.here hx rfl (hb hby d13_12) rfl rfl ?_
    exact kt
  obtain ⟨T1731, X1731, e1731, st1731⟩ := getF X1728 hx hZ hown (host := "") (Or.inl (W 11 rfl)) Via.refl e1728 Fi2 (g := (mkF m 13 #[rv b62, rv r_816, iv (0 : Int32), iv (0 : Int32)] [(.ref b62)])) rfl rfl (hb hby d13_13)
  have pre1732 : ∀ t, Steps p.tables e below (T1731.setTop (mkF m 16 #[rv b62, rv r_816, iv (0 : Int32), iv (0 : Int32)] [(.ref b109_68)])) t → Steps p.tables e below (s₁.setTop (entryFrame m #[(.ref b62), (.ref r_816), (.int (0 : Int32))] 4)) t := fun t kt => pre1730 _ (st1731 _ kt)
  have pre1734 : ∀ t, Steps p.tables e below (T1731.setTop (mkF m 17 #[rv b62, rv r_816, iv (0 : Int32), iv (0 : Int32)] [(.int (0 : Int32)), (.ref b109_68)])) t → Steps p.tables e below (s₁.setTop (entryFrame m #[(.ref b62), (.ref r_816), (.int (0 : Int32))] 4)) t := fun t kt => by
    refine pre1732 _ ?_
    show Steps p.tables e below (T1731.setTop (mkF m 16 #[rv b62, rv r_816, iv (0 : Int32), iv (0 : Int32)] [(.ref b109_68)])) _
    refine XS.iloadN X1731.here hx rfl (hb hby d13_16) rfl ?_
    exact kt
  obtain ⟨c1733, Ar1733, q1733, S1733, M1733, H1733, G1733⟩ := id Fi3
  have i1733 : ¬ ((0 : Int32) < 0 ∨ c1733.slots.size ≤ ((0 : Int32)).toNatClampNeg) := inb_of S1733 ⟨by decide, by decide⟩
  have t1733 : c1733.slots[((0 : Int32)).toNatClampNeg]? = some (.ref r_816) := Has.at H1733 i1733 rfl
  have pre1735 : ∀ t, Steps p.tables e below (T1731.setTop (mkF m 23 #[rv b62, rv r_816, iv (0 : Int32), iv (0 : Int32)] [(.ref b62)])) t → Steps p.tables e below (s₁.setTop (entryFrame m #[(.ref b62), (.ref r_816), (.int (0 : Int32))] 4)) t := fun t kt => by
    refine pre1734 _ ?_
    show Steps p.tables e below (T1731.setTop (mkF m 17 #[rv b62, rv r_816, iv (0 : Int32), iv (0 : Int32)] [(.int (0 : Int32)), (.ref b109_68)])) _
    refine X1731.aaload hx (j := (0 : Int32)) (v := (.ref r_816)) (by rw [e1731]; exact Ar1733.1) (State.isArrayOf_alike hZ.alike Ar1733.2.1) rfl Ar1733.2.2 i1733 t1733 (g := (mkF m 17 #[rv b62, rv r_816, iv (0 : Int32), iv (0 : Int32)] [(.int (0 : Int32)), (.ref b109_68)])) rfl rfl (hb hby d13_17) _ ?_
    refine XS.aloadN X1731.here hx rfl (hb hby d13_18) rfl rfl ?_
    refine Jvm.RoadKit.acmp (g := (mkF m 19 #[rv b62, rv r_816, iv (0 : Int32), iv (0 : Int32)] [(.ref r_816), (.ref r_816)])) X1731 hx rfl rfl rfl (pc0 := 19) (pc' := 22) (same := true) rfl (hb hby d13_19) rfl (decide_eq_true rfl) (by decide) (by decide) ?_
    refine XS.aloadN X1731.here hx rfl (hb hby d13_22) rfl rfl ?_
    exact kt
  obtain ⟨T1736, X1736, e1736, st1736⟩ := getF X1731 hx hZ hown (host := "") (Or.inl (W 11 rfl)) Via.refl e1731 Fi2 (g := (mkF m 23 #[rv b62, rv r_816, iv (0 : Int32), iv (0 : Int32)] [(.ref b62)])) rfl rfl (hb hby d13_23)
  have pre1737 : ∀ t, Steps p.tables e below (T1736.setTop (mkF m 26 #[rv b62, rv r_816, iv (0 : Int32), iv (0 : Int32)] [(.ref b109_68)])) t → Steps p.tables e below (s₁.setTop (entryFrame m #[(.ref b62), (.ref r_816), (.int (0 : Int32))] 4)) t := fun t kt => pre1735 _ (st1736 _ kt)
  have pre1738 : ∀ t, Steps p.tables e below (T1736.setTop (mkF m 30 #[rv b62, rv r_816, iv (0 : Int32), iv (0 : Int32)] [(.ref b62), (.int (1 : Int32)), (.ref b109_68)])) t → Steps p.tables e below (s₁.setTop (entryFrame m #[(.ref b62), (.ref r_816), (.int (0 : Int32))] 4)) t := fun t kt => by
    refine pre1737 _ ?_
    show Steps p.tables e below (T1736.setTop (mkF m 26 #[rv b62, rv r_816, iv (0 : Int32), iv (0 : Int32)] [(.ref b109_68)])) _
    refine XS.iloadN X1736.here hx rfl (hb hby d13_26) rfl ?_
    refine XS.iconst X1736.here hx rfl (hb hby d13_27) ?_
    refine XS.iadd X1736.here hx rfl (hb hby d13_28) rfl ?_
    show  Steps p.tables e below (T1736.setTop (mkF m 29 #[rv b62, rv r_816, iv (0 : Int32), iv (0 : Int32)] [(.int ((0 : Int32) + (1 : Int32))), (.ref b109_68)])) _
    rw [(by decide : (((0 : Int32) + (1 : Int32)) : Int32) = (1 : Int32))]
    refine XS.aloadN X1736.here hx rfl (hb hby d13_29) rfl rfl ?_
    exact kt
  obtain ⟨T1739, X1739, e1739, st1739⟩ := getF X1736 hx hZ hown (host := "") (Or.inl (W 11 rfl)) Via.refl e1736 Fi2 (g := (mkF m 30 #[rv b62, rv r_816, iv (0 : Int32), iv (0 : Int32)] [(.ref b62), (.int (1 : Int32)), (.ref b109_68)])) rfl rfl (hb hby d13_30)
  have pre1740 : ∀ t, Steps p.tables e below (T1739.setTop (mkF m 33 #[rv b62, rv r_816, iv (0 : Int32), iv (0 : Int32)] [(.ref b109_68), (.int (1 : Int32)), (.ref b109_68)])) t → Steps p.tables e below (s₁.setTop (entryFrame m #[(.ref b62), (.ref r_816), (.int (0 : Int32))] 4)) t := fun t kt => pre1738 _ (st1739 _ kt)
  have pre1741 : ∀ t, Steps p.tables e below (T1739.setTop (mkF m 35 #[rv b62, rv r_816, iv (0 : Int32), iv (0 : Int32)] [(.ref b62), (.int (0 : Int32)), (.ref b109_68), (.int (1 : Int32)), (.ref b109_68)])) t → Steps p.tables e below (s₁.setTop (entryFrame m #[(.ref b62), (.ref r_816), (.int (0 : Int32))] 4)) t := fun t kt => by
    refine pre1740 _ ?_
    show Steps p.tables e below (T1739.setTop (mkF m 33 #[rv b62, rv r_816, iv (0 : Int32), iv (0 : Int32)] [(.ref b109_68), (.int (1 : Int32)), (.ref b109_68)])) _
    refine XS.iloadN X1739.here hx rfl (hb hby d13_33) rfl ?_
    refine XS.aloadN X1739.here hx rfl (hb hby d13_34) rfl rfl ?_
    exact kt
  obtain ⟨T1742, X1742, e1742, st1742⟩ := getF X1739 hx hZ hown (host := "") (Or.inl (W 18 rfl)) Via.refl e1739 Fi4 (g := (mkF m 35 #[rv b62, rv r_816, iv (0 : Int32), iv (0 : Int32)] [(.ref b62), (.int (0 : Int32)), (.ref b109_68), (.int (1 : Int32)), (.ref b109_68)])) rfl rfl (hb hby d13_35)
  have pre1743 : ∀ t, Steps p.tables e below (T1742.setTop (mkF m 38 #[rv b62, rv r_816, iv (0 : Int32), iv (0 : Int32)] [(.int (1 : Int32)), (.int (0 : Int32)), (.ref b109_68), (.int (1 : Int32)), (.ref b109_68)])) t → Steps p.tables e below (s₁.setTop (entryFrame m #[(.ref b62), (.ref r_816), (.int (0 : Int32))] 4)) t := fun t kt => pre1741 _ (st1742 _ kt)
  have pre1744 : ∀ t, Steps p.tables e below (T1742.setTop (mkF m 42 #[rv b62, rv r_816, iv (0 : Int32), iv (0 : Int32)] [(.int (0 : Int32)), (.int (0 : Int32)), (.ref b109_68), (.int (1 : Int32)), (.ref b109_68)])) t → Steps p.tables e below (s₁.setTop (entryFrame m #[(.ref b62), (.ref r_816), (.int (0 : Int32))] 4)) t := fun t kt => by
    refine pre1743 _ ?_
    show Steps p.tables e below (T1742.setTop (mkF m 38 #[rv b62, rv r_816, iv (0 : Int32), iv (0 : Int32)] [(.int (1 : Int32)), (.int (0 : Int32)), (.ref b109_68), (.int (1 : Int32)), (.ref b109_68)])) _
    refine XS.iloadN X1742.here hx rfl (hb hby d13_38) rfl ?_
    refine XS.isub X1742.here hx rfl (hb hby d13_39) rfl ?_
    show  Steps p.tables e below (T1742.setTop (mkF m 40 #[rv b62, rv r_816, iv (0 : Int32), iv (0 : Int32)] [(.int ((1 : Int32) - (0 : Int32))), (.int (0 : Int32)), (.ref b109_68), (.int (1 : Int32)), (.ref b109_68)])) _
    rw [(by decide : (((1 : Int32) - (0 : Int32)) : Int32) = (1 : Int32))]
    refine XS.iconst X1742.here hx rfl (hb hby d13_40) ?_
    refine XS.isub X1742.here hx rfl (hb hby d13_41) rfl ?_
    show  Steps p.tables e below (T1742.setTop (mkF m 42 #[rv b62, rv r_816, iv (0 : Int32), iv (0 : Int32)] [(.int ((1 : Int32) - (1 : Int32))), (.int (0 : Int32)), (.ref b109_68), (.int (1 : Int32)), (.ref b109_68)])) _
    rw [(by decide : (((1 : Int32) - (1 : Int32)) : Int32) = (0 : Int32))]
    exact kt
  obtain ⟨T1745, h1745, L1745, X1745, e1745, N1745, Kc1745, V1745, st1745⟩ := cpA X1742 hx hZ hown (W 86 rfl) (W 64 rfl) (W 62 rfl) (W 63 rfl) e1742 Fi3 Fi3  (sp := (1 : Int32)) (dp := (0 : Int32)) (nn := (0 : Int32)) (us := []) (Or.inr ⟨rfl, rfl, trivial⟩) (by decide) (by decide) (by decide) (by decide) (by decide) rfl (Nat.le_of_ble_eq_true rfl) N0 g_b109_68 (g := (mkF m 42 #[rv b62, rv r_816, iv (0 : Int32), iv (0 : Int32)] [(.int (0 : Int32)), (.int (0 : Int32)), (.ref b109_68), (.int (1 : Int32)), (.ref b109_68)])) rfl (by rw [hml]; rfl) (rest := []) rfl (hb hby d13_42) (by decide) (W := 0) (by show 2 * 0 + _ ≤ _; exact Nat.le_of_eq rfl) (by decide)
  have pre1746 : ∀ t, Steps p.tables e below (T1745.setTop (mkF m 45 #[rv b62, rv r_816, iv (0 : Int32), iv (0 : Int32)] [])) t → Steps p.tables e below (s₁.setTop (entryFrame m #[(.ref b62), (.ref r_816), (.int (0 : Int32))] 4)) t := fun t kt => pre1744 _ (st1745 _ kt)
  have O1745 := O0.keep Kc1745 (own_all1 g_b109_68)
  have K1745 : Keep h0 h1745 [b62, b109_68] := K0.trans Kc1745 (own_all1 (Or.inl (List.mem_of_getElem? (i := 1) rfl)))
  have F1747 := Fi0.keep Kc1745
  have F1748 := Fi1.keep Kc1745
  have F1749 := Fi2.keep Kc1745 (own_nm1 (fun q => q0 q.symm))
  have F1750 := Fi4.keep Kc1745 (own_nm1 (fun q => q0 q.symm))
  have F1751 : Arv Z h1745 b109_68 k109_68 (.object "java/lang/Object") (16 : Int32) [(.ref r_816), .null, .null, .null, .null, .null, .null, .null, .null, .null, .null, .null, .null, .null, .null, .null] .null := V1745
  have pre1752 : ∀ t, Steps p.tables e below (T1745.setTop (mkF m 47 #[rv b62, rv r_816, iv (0 : Int32), iv (0 : Int32)] [(.ref b62), (.ref b62)])) t → Steps p.tables e below (s₁.setTop (entryFrame m #[(.ref b62), (.ref r_816), (.int (0 : Int32))] 4)) t := fun t kt => by
    refine pre1746 _ ?_
    show Steps p.tables e below (T1745.setTop (mkF m 45 #[rv b62, rv r_816, iv (0 : Int32), iv (0 : Int32)] [])) _
    refine XS.aloadN X1745.here hx rfl (hb hby d13_45) rfl rfl ?_
    refine XS.dup X1745.here hx rfl (hb hby d13_46) rfl rfl ?_
    exact kt
  obtain ⟨T1753, X1753, e1753, st1753⟩ := getF X1745 hx hZ hown (host := "") (Or.inl (W 18 rfl)) Via.refl e1745 F1750 (g := (mkF m 47 #[rv b62, rv r_816, iv (0 : Int32), iv (0 : Int32)] [(.ref b62), (.ref b62)])) rfl rfl (hb hby d13_47)
  have pre1754 : ∀ t, Steps p.tables e below (T1753.setTop (mkF m 50 #[rv b62, rv r_816, iv (0 : Int32), iv (0 : Int32)] [(.int (1 : Int32)), (.ref b62)])) t → Steps p.tables e below (s₁.setTop (entryFrame m #[(.ref b62), (.ref r_816), (.int (0 : Int32))] 4)) t := fun t kt => pre1752 _ (st1753 _ kt)
  have pre1755 : ∀ t, Steps p.tables e below (T1753.setTop (mkF m 52 #[rv b62, rv r_816, iv (0 : Int32), iv (0 : Int32)] [(.int (0 : Int32)), (.ref b62)])) t → Steps p.tables e below (s₁.setTop (entryFrame m #[(.ref b62), (.ref r_816), (.int (0 : Int32))] 4)) t := fun t kt => by
    refine pre1754 _ ?_
    show Steps p.tables e below (T1753.setTop (mkF m 50 #[rv b62, rv r_816, iv (0 : Int32), iv (0 : Int32)] [(.int (1 : Int32)), (.ref b62)])) _
    refine XS.iconst X1753.here hx rfl (hb hby d13_50) ?_
    refine XS.isub X1753.here hx rfl (hb hby d13_51) rfl ?_
    show  Steps p.tables e below (T1753.setTop (mkF m 52 #[rv b62, rv r_816, iv (0 : Int32), iv (0 : Int32)] [(.int ((1 : Int32) - (1 : Int32))), (.ref b62)])) _
    rw [(by decide : (((1 : Int32) - (1 : Int32)) : Int32) = (0 : Int32))]
    exact kt
  obtain ⟨T1756, h1756, X1756, e1756, W1756, st1756⟩ := putF X1753 hx hZ hown (host := "") (Or.inl (W 18 rfl)) Via.refl e1753 F1750 F1747 (Or.inl (W 19 rfl)) (W 1 rfl) (ty := .int) (by decide) rfl rfl (g := (mkF m 52 #[rv b62, rv r_816, iv (0 : Int32), iv (0 : Int32)] [(.int (0 : Int32)), (.ref b62)])) rfl rfl (hb hby d13_52)
  have pre1757 : ∀ t, Steps p.tables e below (T1756.setTop (mkF m 55 #[rv b62, rv r_816, iv (0 : Int32), iv (0 : Int32)] [])) t → Steps p.tables e below (s₁.setTop (entryFrame m #[(.ref b62), (.ref r_816), (.int (0 : Int32))] 4)) t := fun t kt => pre1755 _ (st1756 _ kt)
  have N1756 := Fr.snoc X1756 N1745 g_b62
  have O1756 := O1745.wr W1756 g_b62
  have K1756 : Keep h0 h1756 [b62, b109_68] := K1745.wr W1756 (Or.inl (List.mem_of_getElem? (i := 0) rfl))
  have F1758 := F1747.wr W1756
  have F1759 := F1748.wr W1756
  have F1760 := F1749.other W1756 (Or.inr (slot_ne (Or.inl (W 12 rfl)) (Or.inl (W 19 rfl)) (by decide) (t := (.array (.object "java/lang/Object"))) (t' := .int) (by decide) (by decide)))
  have F1761 := F1751.other W1756 q0
  have F1762 : Fld Z h1756 b62 "com/example/homethread/homethread/Items" "size" "I" (.int (0 : Int32)) := F1750.same W1756
  have pre1763 : ∀ t, Steps p.tables e below (T1756.setTop (mkF m 56 #[rv b62, rv r_816, iv (0 : Int32), iv (0 : Int32)] [(.ref b62)])) t → Steps p.tables e below (s₁.setTop (entryFrame m #[(.ref b62), (.ref r_816), (.int (0 : Int32))] 4)) t := fun t kt => by
    refine pre1757 _ ?_
    show Steps p.tables e below (T1756.setTop (mkF m 55 #[rv b62, rv r_816, iv (0 : Int32), iv (0 : Int32)] [])) _
    refine XS.aloadN X1756.here hx rfl (hb hby d13_55) rfl rfl ?_
    exact kt
  obtain ⟨T1764, X1764, e1764, st1764⟩ := getF X1756 hx hZ hown (host := "") (Or.inl (W 11 rfl)) Via.refl e1756 F1760 (g := (mkF m 56 #[rv b62, rv r_816, iv (0 : Int32), iv (0 : Int32)] [(.ref b62)])) rfl rfl (hb hby d13_56)
  have pre1765 : ∀ t, Steps p.tables e below (T1764.setTop (mkF m 59 #[rv b62, rv r_816, iv (0 : Int32), iv (0 : Int32)] [(.ref b109_68)])) t → Steps p.tables e below (s₁.setTop (entryFrame m #[(.ref b62), (.ref r_816), (.int (0 : Int32))] 4)) t := fun t kt => pre1763 _ (st1764 _ kt)
  have pre1766 : ∀ t, Steps p.tables e below (T1764.setTop (mkF m 60 #[rv b62, rv r_816, iv (0 : Int32), iv (0 : Int32)] [(.ref b62), (.ref b109_68)])) t → Steps p.tables e below (s₁.setTop (entryFrame m #[(.ref b62), (.ref r_816), (.int (0 : Int32))] 4)) t := fun t kt => by
    refine pre1765 _ ?_
    show Steps p.tables e below (T1764.setTop (mkF m 59 #[rv b62, rv r_816, iv (0 : Int32), iv (0 : Int32)] [(.ref b109_68)])) _
    refine XS.aloadN X1764.here hx rfl (hb hby d13_59) rfl rfl ?_
    exact kt
  obtain ⟨T1767, X1767, e1767, st1767⟩ := getF X1764 hx hZ hown (host := "") (Or.inl (W 18 rfl)) Via.refl e1764 F1762 (g := (mkF m 60 #[rv b62, rv r_816, iv (0 : Int32), iv (0 : Int32)] [(.ref b62), (.ref b109_68)])) rfl rfl (hb hby d13_60)
  have pre1768 : ∀ t, Steps p.tables e below (T1767.setTop (mkF m 63 #[rv b62, rv r_816, iv (0 : Int32), iv (0 : Int32)] [(.int (0 : Int32)), (.ref b109_68)])) t → Steps p.tables e below (s₁.setTop (entryFrame m #[(.ref b62), (.ref r_816), (.int (0 : Int32))] 4)) t := fun t kt => pre1766 _ (st1767 _ kt)
  have pre1769 : ∀ t, Steps p.tables e below (T1767.setTop (mkF m 64 #[rv b62, rv r_816, iv (0 : Int32), iv (0 : Int32)] [.null, (.int (0 : Int32)), (.ref b109_68)])) t → Steps p.tables e below (s₁.setTop (entryFrame m #[(.ref b62), (.ref r_816), (.int (0 : Int32))] 4)) t := fun t kt => by
    refine pre1768 _ ?_
    show Steps p.tables e below (T1767.setTop (mkF m 63 #[rv b62, rv r_816, iv (0 : Int32), iv (0 : Int32)] [(.int (0 : Int32)), (.ref b109_68)])) _
    refine XS.aconstNull X1767.here hx rfl (hb hby d13_63) ?_
    exact kt
  obtain ⟨c1770, Ar1770, q1770, S1770, M1770, H1770, G1770⟩ := id F1761
  have i1770 : ¬ ((0 : Int32) < 0 ∨ c1770.slots.size ≤ ((0 : Int32)).toNatClampNeg) := inb_of S1770 ⟨by decide, by decide⟩
  obtain ⟨T1771, h1771, X1771, e1771, W1771, st1771⟩ := stR X1767 hx hZ e1767 Ar1770 (j := (0 : Int32)) i1770 rfl (Or.inl rfl) (g := (mkF m 64 #[rv b62, rv r_816, iv (0 : Int32), iv (0 : Int32)] [.null, (.int (0 : Int32)), (.ref b109_68)])) rfl rfl (hb hby d13_64)
  have pre1772 : ∀ t, Steps p.tables e below (T1771.setTop (mkF m 65 #[rv b62, rv r_816, iv (0 : Int32), iv (0 : Int32)] [])) t → Steps p.tables e below (s₁.setTop (entryFrame m #[(.ref b62), (.ref r_816), (.int (0 : Int32))] 4)) t := fun t kt => pre1769 _ (st1771 _ kt)
  have N1771 := Fr.snoc X1771 N1756 g_b109_68
  have O1771 := O1756.wr W1771 g_b109_68
  have K1771 : Keep h0 h1771 [b62, b109_68] := K1756.wr W1771 (Or.inl (List.mem_of_getElem? (i := 1) rfl))
  have F1773 := F1758.wr W1771
  have F1774 := F1759.wr W1771
  have F1775 := F1760.other W1771 (Or.inl (fun q => q0 q.symm))
  have F1776 := F1762.other W1771 (Or.inl (fun q => q0 q.symm))
  have F1777 : Arv Z h1771 b109_68 k109_68 (.object "java/lang/Object") (16 : Int32) [.null, .null, .null, .null, .null, .null, .null, .null, .null, .null, .null, .null, .null, .null, .null, .null] .null := Arv.set Ar1770 q1770 S1770 M1770 H1770 G1770 rfl W1771 0 rfl (Nat.le_of_ble_eq_true rfl)
  have pre1778 : ∀ t, Steps p.tables e below (T1771.setTop (mkF m 66 #[rv b62, rv r_816, iv (0 : Int32), iv (0 : Int32)] [(.int (1 : Int32))])) t → Steps p.tables e below (s₁.setTop (entryFrame m #[(.ref b62), (.ref r_816), (.int (0 : Int32))] 4)) t := fun t kt => by
    refine pre1772 _ ?_
    show Steps p.tables e below (T1771.setTop (mkF m 65 #[rv b62, rv r_816, iv (0 : Int32), iv (0 : Int32)] [])) _
    refine XS.iconst X1771.here hx rfl (hb hby d13_65) ?_
    exact kt
  obtain ⟨fs, hr, hrun, hended, hW, hsame⟩ := X1771.leave (v := some (.int (1 : Int32))) (fun h => by rw [Bd.returns] at h; cases h)
  refine ⟨_, _, pre1778 _ (retN X1771 hx (t := .boolean) Bd.returns (by simp) (hb hby d13_66) hr), hrun, hended, _, _, rfl, ?_, ⟨_, rfl⟩, hW, hsame.mono (by decide) (by decide)⟩
  show Q_removeLast13_1 Z b62 r_816 k109_68 b109_68 h0 n0 _ T1771.heap _
  rw [e1771]
  exact ⟨rfl, N1771, K1771, O1771, F1773, F1774, F1775, F1776, F1777⟩
def Q_add6_5 (Z : State) (b62 : Addr) (r_1793 : Addr) (k109_68 : ClassId) (b109_68 : Addr) (h0 : Heap) (n0 : Nat) (v : Option Value) (h : Heap) (L : List Loc) : Prop := v = none ∧ Fr n0 L ∧ Keep h0 h [b62, b109_68] ∧ Old Z n0 h ∧ Exa Z h b62 "com/example/homethread/homethread/Items" ∧ Exa Z h b109_68 "[Ljava/lang/Object;" ∧ Fld Z h b62 "com/example/homethread/homethread/Items" "slots" "[Ljava/lang/Object;" (.ref b109_68) ∧ Arv Z h b109_68 k109_68 (.object "java/lang/Object") (16 : Int32) [(.ref r_1793), (.ref r_1793), (.ref r_1793), .null, .null, .null, .null, .null, .null, .null, .null, .null, .null, .null, .null, .null] .null ∧ Fld Z h b62 "com/example/homethread/homethread/Items" "size" "I" (.int (3 : Int32))
set_option maxRecDepth 65536 in
set_option maxHeartbeats 40000000 in
theorem rm_add6_5 (l : Launch) (Z : State) (a0 : Array Value) (hw : ∀ d ∈ tables_1, d.before a0 Z = true) (ws : List Jvm.Cond) (b62 : Addr) (r_1793 : Addr) (k109_68 : ClassId) (b109_68 : Addr) (h0 : Heap) (n0 : Nat) (O0 : Old Z n0 h0) (g_b62 : n0 ≤ b62) (g_b109_68 : n0 ≤ b109_68) (Fi0 : Ovr Z k109_68 "java/lang/Object") (Fi1 : Exa Z h0 r_1793 "java/lang/Integer") (Fi2 : Exa Z h0 b62 "com/example/homethread/homethread/Items") (Fi3 : Exa Z h0 b109_68 "[Ljava/lang/Object;") (Fi4 : Fld Z h0 b62 "com/example/homethread/homethread/Items" "slots" "[Ljava/lang/Object;" (.ref b109_68)) (Fi5 : Arv Z h0 b109_68 k109_68 (.object "java/lang/Object") (16 : Int32) [(.ref r_1793), (.ref r_1793), .null, .null, .null, .null, .null, .null, .null, .null, .null, .null, .null, .null, .null, .null] .null) (Fi6 : Fld Z h0 b62 "com/example/homethread/homethread/Items" "size" "I" (.int (2 : Int32))) (q0 : ¬ (b109_68 = b62)) :
    MetFree l (⟨"com/example/homethread/homethread/Items", "add", "(Ljava/lang/Object;)V"⟩ : MethodName) (head1 (Jvm.Cond.code (⟨"com/example/homethread/homethread/Items", "add", "(Ljava/lang/Object;)V"⟩ : MethodName) prog_9_method_8_code 3 none :: ws) ({ frames := 0, cells := 0, slots := 0, locals := 0 } : Room)) (fun a U => a = #[(.ref b62), (.ref r_1793)] ∧ Z.Warmed39 U.vm ∧ U.heap = h0) (fun _ _ _ _ _ => True) (fun _ U o U' => ∃ v L, o = .returned v ∧ Q_add6_5 Z b62 r_1793 k109_68 b109_68 h0 n0 v U'.heap L ∧ FrameEnd U o U' L ({ frames := 0, cells := 0, slots := 0, locals := 0 } : Room).cells ({ frames := 0, cells := 0, slots := 0, locals := 0 } : Room).slots) := by
  refine MetFree.of_bodySF (plainFor_of_name pn_9) hisR ?_
  intro p e s m args below meth c s₁ Bd hml0 hP hK
  have W := fun {d : Jvm.Cond} (i : Nat) (q : tables_1[i]? = some d) => hw d (List.mem_of_getElem? q)
  obtain ⟨rfl, hZ, hh⟩ := hP
  have hx := Bd.exec
  have hby := Bd.bytes
  have hml : c.maxLocals = 3 := hml0
  have hown : s.vm.findClass "com/example/homethread/homethread/Items" = some m.cls := findClass_of_methodNamed Bd.named
  have hnm := (name_of_methodNamed Bd.named Bd.method).1
  have X0 : Stand p l e ({ frames := 0, cells := 0, slots := 0, locals := 0 } : Room) s m #[(.ref b62), (.ref r_1793)] below meth c s₁ [] 0 0 := Stand.of_body Bd
  have e0 : s₁.heap = h0 := by rw [← hh, Bd.state]; rfl
  have N0 := Fr.nil n0
  have pre0 : ∀ t, Steps p.tables e below (s₁.setTop (mkF m 0 #[rv b62, rv r_1793, .unset] [])) t → Steps p.tables e below (s₁.setTop (entryFrame m #[(.ref b62), (.ref r_1793)] 3)) t := fun t k => castTop (ef_14 m b62 r_1793) k
  have K0 : Keep h0 h0 [b62, b109_68] := Keep.refl h0 [b62, b109_68]
  have pre1888 : ∀ t, Steps p.tables e below (s₁.setTop (mkF m 1 #[rv b62, rv r_1793, .unset] [(.ref b62)])) t → Steps p.tables e below (s₁.setTop (entryFrame m #[(.ref b62), (.ref r_1793)] 3)) t := fun t kt => by
    refine pre0 _ ?_
    show Steps p.tables e below (s₁.setTop (mkF m 0 #[rv b62, rv r_1793, .unset] [])) _
    refine XS.aloadN X0.here hx rfl (hb hby d6_0) rfl rfl ?_
    exact kt
  obtain ⟨T1889, X1889, e1889, st1889⟩ := getF X0 hx hZ hown (host := "") (Or.inl (W 18 rfl)) Via.refl e0 Fi6 (g := (mkF m 1 #[rv b62, rv r_1793, .unset] [(.ref b62)])) rfl rfl (hb hby d6_1)
  have pre1890 : ∀ t, Steps p.tables e below (T1889.setTop (mkF m 4 #[rv b62, rv r_1793, .unset] [(.int (2 : Int32))])) t → Steps p.tables e below (s₁.setTop (entryFrame m #[(.ref b62), (.ref r_1793)] 3)) t := fun t kt => pre1888 _ (st1889 _ kt)
  have pre1891 : ∀ t, Steps p.tables e below (T1889.setTop (mkF m 5 #[rv b62, rv r_1793, .unset] [(.ref b62), (.int (2 : Int32))])) t → Steps p.tables e below (s₁.setTop (entryFrame m #[(.ref b62), (.ref r_1793)] 3)) t := fun t kt => by
    refine pre1890 _ ?_
    show Steps p.tables e below (T1889.setTop (mkF m 4 #[rv b62, rv r_1793, .unset] [(.int (2 : Int32))])) _
    refine XS.aloadN X1889.here hx rfl (hb hby d6_4) rfl rfl ?_
    exact kt
  obtain ⟨T1892, X1892, e1892, st1892⟩ := getF X1889 hx hZ hown (host := "") (Or.inl (W 11 rfl)) Via.refl e1889 Fi4 (g := (mkF m 5 #[rv b62, rv r_1793, .unset] [(.ref b62), (.int (2 : Int32))])) rfl rfl (hb hby d6_5)
  have pre1893 : ∀ t, Steps p.tables e below (T1892.setTop (mkF m 8 #[rv b62, rv r_1793, .unset] [(.ref b109_68), (.int (2 : Int32))])) t → Steps p.tables e below (s₁.setTop (entryFrame m #[(.ref b62), (.ref r_1793)] 3)) t := fun t kt => pre1891 _ (st1892 _ kt)
  obtain ⟨c1894, Ar1894, -, S1894, M1894, -, -⟩ := id Fi5
  have pre1895 : ∀ t, Steps p.tables e below (T1892.setTop (mkF m 51 #[rv b62, rv r_1793, .unset] [(.ref b62)])) t → Steps p.tables e below (s₁.setTop (entryFrame m #[(.ref b62), (.ref r_1793)] 3)) t := fun t kt => by
    refine pre1893 _ ?_
    show Steps p.tables e below (T1892.setTop (mkF m 8 #[rv b62, rv r_1793, .unset] [(.ref b109_68), (.int (2 : Int32))])) _
    refine X1892.arraylength hx (by rw [e1892]; exact Ar1894.1) (State.isArrayOf_alike hZ.alike Ar1894.2.1) (g := (mkF m 8 #[rv b62, rv r_1793, .unset] [(.ref b109_68), (.int (2 : Int32))])) rfl rfl (hb hby d6_8) _ ?_
    rw [len_of S1894 M1894]
    refine XS.icmpYes X1892.here hx rfl (pc0 := 9) (pc' := 50) rfl (hb hby d6_9) rfl (XT.ii_ne_t (by decide)) (by decide) (by decide) ?_
    refine XS.aloadN X1892.here hx rfl (hb hby d6_50) rfl rfl ?_
    exact kt
  obtain ⟨T1896, X1896, e1896, st1896⟩ := getF X1892 hx hZ hown (host := "") (Or.inl (W 11 rfl)) Via.refl e1892 Fi4 (g := (mkF m 51 #[rv b62, rv r_1793, .unset] [(.ref b62)])) rfl rfl (hb hby d6_51)
  have pre1897 : ∀ t, Steps p.tables e below (T1896.setTop (mkF m 54 #[rv b62, rv r_1793, .unset] [(.ref b109_68)])) t → Steps p.tables e below (s₁.setTop (entryFrame m #[(.ref b62), (.ref r_1793)] 3)) t := fun t kt => pre1895 _ (st1896 _ kt)
  have pre1898 : ∀ t, Steps p.tables e below (T1896.setTop (mkF m 55 #[rv b62, rv r_1793, .unset] [(.ref b62), (.ref b109_68)])) t → Steps p.tables e below (s₁.setTop (entryFrame m #[(.ref b62), (.ref r_1793)] 3)) t := fun t kt => by
    refine pre1897 _ ?_
    show Steps p.tables e below (T1896.setTop (mkF m 54 #[rv b62, rv r_1793, .unset] [(.ref b109_68)])) _
    refine XS.aloadN X1896.here hx rfl (hb hby d6_54) rfl rfl ?_
    exact kt
  obtain ⟨T1899, X1899, e1899, st1899⟩ := getF X1896 hx hZ hown (host := "") (Or.inl (W 18 rfl)) Via.refl e1896 Fi6 (g := (mkF m 55 #[rv b62, rv r_1793, .unset] [(.ref b62), (.ref b109_68)])) rfl rfl (hb hby d6_55)
  have pre1900 : ∀ t, Steps p.tables e below (T1899.setTop (mkF m 58 #[rv b62, rv r_1793, .unset] [(.int (2 : Int32)), (.ref b109_68)])) t → Steps p.tables e below (s₁.setTop (entryFrame m #[(.ref b62), (.ref r_1793)] 3)) t := fun t kt => pre1898 _ (st1899 _ kt)
  have pre1901 : ∀ t, Steps p.tables e below (T1899.setTop (mkF m 59 #[rv b62, rv r_1793, .unset] [(.ref r_1793), (.int (2 : Int32)), (.ref b109_68)])) t → Steps p.tables e below (s₁.setTop (entryFrame m #[(.ref b62), (.ref r_1793)] 3)) t := fun t kt => by
    refine pre1900 _ ?_
    show Steps p.tables e below (T1899.setTop (mkF m 58 #[rv b62, rv r_1793, .unset] [(.int (2 : Int32)), (.ref b109_68)])) _
    refine XS.aloadN X1899.here hx rfl (hb hby d6_58) rfl rfl ?_
    exact kt
  obtain ⟨c1902, Ar1902, q1902, S1902, M1902, H1902, G1902⟩ := id Fi5
  have i1902 : ¬ ((2 : Int32) < 0 ∨ c1902.slots.size ≤ ((2 : Int32)).toNatClampNeg) := inb_of S1902 ⟨by decide, by decide⟩
  obtain ⟨T1903, h1903, X1903, e1903, W1903, st1903⟩ := stR X1899 hx hZ e1899 Ar1902 (j := (2 : Int32)) i1902 rfl (Sto.ofV Ar1902 q1902 Fi0 (Ins.of_exa Fi1 (W 65 rfl))) (g := (mkF m 59 #[rv b62, rv r_1793, .unset] [(.ref r_1793), (.int (2 : Int32)), (.ref b109_68)])) rfl rfl (hb hby d6_59)
  have pre1904 : ∀ t, Steps p.tables e below (T1903.setTop (mkF m 60 #[rv b62, rv r_1793, .unset] [])) t → Steps p.tables e below (s₁.setTop (entryFrame m #[(.ref b62), (.ref r_1793)] 3)) t := fun t kt => pre1901 _ (st1903 _ kt)
  have N1903 := Fr.snoc X1903 N0 g_b109_68
  have O1903 := O0.wr W1903 g_b109_68
  have K1903 : Keep h0 h1903 [b62, b109_68] := K0.wr W1903 (Or.inl (List.mem_of_getElem? (i := 1) rfl))
  have F1905 := Fi1.wr W1903
  have F1906 := Fi2.wr W1903
  have F1907 := Fi3.wr W1903
  have F1908 := Fi4.other W1903 (Or.inl (fun q => q0 q.symm))
  have F1909 := Fi6.other W1903 (Or.inl (fun q => q0 q.symm))
  have F1910 : Arv Z h1903 b109_68 k109_68 (.object "java/lang/Object") (16 : Int32) [(.ref r_1793), (.ref r_1793), (.ref r_1793), .null, .null, .null, .null, .null, .null, .null, .null, .null, .null, .null, .null, .null] .null := Arv.set Ar1902 q1902 S1902 M1902 H1902 G1902 rfl W1903 2 rfl (Nat.le_of_ble_eq_true rfl)
  have pre1911 : ∀ t, Steps p.tables e below (T1903.setTop (mkF m 62 #[rv b62, rv r_1793, .unset] [(.ref b62), (.ref b62)])) t → Steps p.tables e below (s₁.setTop (entryFrame m #[(.ref b62), (.ref r_1793)] 3)) t := fun t kt => by
    refine pre1904 _ ?_
    show Steps p.tables e below (T1903.setTop (mkF m 60 #[rv b62, rv r_1793, .unset] [])) _
    refine XS.aloadN X1903.here hx rfl (hb hby d6_60) rfl rfl ?_
    refine XS.dup X1903.here hx rfl (hb hby d6_61) rfl rfl ?_
    exact kt
  obtain ⟨T1912, X1912, e1912, st1912⟩ := getF X1903 hx hZ hown (host := "") (Or.inl (W 18 rfl)) Via.refl e1903 F1909 (g := (mkF m 62 #[rv b62, rv r_1793, .unset] [(.ref b62), (.ref b62)])) rfl rfl (hb hby d6_62)
  have pre1913 : ∀ t, Steps p.tables e below (T1912.setTop (mkF m 65 #[rv b62, rv r_1793, .unset] [(.int (2 : Int32)), (.ref b62)])) t → Steps p.tables e below (s₁.setTop (entryFrame m #[(.ref b62), (.ref r_1793)] 3)) t := fun t kt => pre1911 _ (st1912 _ kt)
  have pre1914 : ∀ t, Steps p.tables e below (T1912.setTop (mkF m 67 #[rv b62, rv r_1793, .unset] [(.int (3 : Int32)), (.ref b62)])) t → Steps p.tables e below (s₁.setTop (entryFrame m #[(.ref b62), (.ref r_1793)] 3)) t := fun t kt => by
    refine pre1913 _ ?_
    show Steps p.tables e below (T1912.setTop (mkF m 65 #[rv b62, rv r_1793, .unset] [(.int (2 : Int32)), (.ref b62)])) _
    refine XS.iconst X1912.here hx rfl (hb hby d6_65) ?_
    refine XS.iadd X1912.here hx rfl (hb hby d6_66) rfl ?_
    show  Steps p.tables e below (T1912.setTop (mkF m 67 #[rv b62, rv r_1793, .unset] [(.int ((2 : Int32) + (1 : Int32))), (.ref b62)])) _
    rw [(by decide : (((2 : Int32) + (1 : Int32)) : Int32) = (3 : Int32))]
    exact kt
  obtain ⟨T1915, h1915, X1915, e1915, W1915, st1915⟩ := putF X1912 hx hZ hown (host := "") (Or.inl (W 18 rfl)) Via.refl e1912 F1909 F1906 (Or.inl (W 19 rfl)) (W 1 rfl) (ty := .int) (by decide) rfl rfl (g := (mkF m 67 #[rv b62, rv r_1793, .unset] [(.int (3 : Int32)), (.ref b62)])) rfl rfl (hb hby d6_67)
  have pre1916 : ∀ t, Steps p.tables e below (T1915.setTop (mkF m 70 #[rv b62, rv r_1793, .unset] [])) t → Steps p.tables e below (s₁.setTop (entryFrame m #[(.ref b62), (.ref r_1793)] 3)) t := fun t kt => pre1914 _ (st1915 _ kt)
  have N1915 := Fr.snoc X1915 N1903 g_b62
  have O1915 := O1903.wr W1915 g_b62
  have K1915 : Keep h0 h1915 [b62, b109_68] := K1903.wr W1915 (Or.inl (List.mem_of_getElem? (i := 0) rfl))
  have F1917 := F1905.wr W1915
  have F1918 := F1906.wr W1915
  have F1919 := F1907.wr W1915
  have F1920 := F1908.other W1915 (Or.inr (slot_ne (Or.inl (W 12 rfl)) (Or.inl (W 19 rfl)) (by decide) (t := (.array (.object "java/lang/Object"))) (t' := .int) (by decide) (by decide)))
  have F1921 := F1910.other W1915 q0
  have F1922 : Fld Z h1915 b62 "com/example/homethread/homethread/Items" "size" "I" (.int (3 : Int32)) := F1909.same W1915
  obtain ⟨fs, hr, hrun, hended, hW, hsame⟩ := X1915.leave (v := none) (fun _ => rfl)
  refine ⟨_, _, pre1916 _ (X1915.returnOut hx Bd.returns (hb hby d6_70) hr), hrun, hended, _, _, rfl, ?_, ⟨_, rfl⟩, hW, hsame.mono (by decide) (by decide)⟩
  show Q_add6_5 Z b62 r_1793 k109_68 b109_68 h0 n0 _ T1915.heap _
  rw [e1915]
  exact ⟨rfl, N1915, K1915, O1915, F1918, F1919, F1920, F1921, F1922⟩
def Q_isEmpty3_3 (Z : State) (b62 : Addr) (h0 : Heap) (n0 : Nat) (v : Option Value) (h : Heap) (L : List Loc) : Prop := v = some (.int (0 : Int32)) ∧ Fr n0 L ∧ h = h0
set_option maxRecDepth 65536 in
set_option maxHeartbeats 40000000 in
theorem rm_isEmpty3_3 (l : Launch) (Z : State) (a0 : Array Value) (hw : ∀ d ∈ tables_1, d.before a0 Z = true) (ws : List Jvm.Cond) (b62 : Addr) (h0 : Heap) (n0 : Nat) (O0 : Old Z n0 h0) (Fi0 : Fld Z h0 b62 "com/example/homethread/homethread/Items" "size" "I" (.int (3 : Int32))) :
    MetFree l (⟨"com/example/homethread/homethread/Items", "isEmpty", "()Z"⟩ : MethodName) (head1 (Jvm.Cond.code (⟨"com/example/homethread/homethread/Items", "isEmpty", "()Z"⟩ : MethodName) prog_9_method_6_code 1 (some .boolean) :: ws) ({ frames := 0, cells := 0, slots := 0, locals := 0 } : Room)) (fun a U => a = #[(.ref b62)] ∧ Z.Warmed39 U.vm ∧ U.heap = h0) (fun _ _ _ _ _ => True) (fun _ U o U' => ∃ v L, o = .returned v ∧ Q_isEmpty3_3 Z b62 h0 n0 v U'.heap L ∧ FrameEnd U o U' L ({ frames := 0, cells := 0, slots := 0, locals := 0 } : Room).cells ({ frames := 0, cells := 0, slots := 0, locals := 0 } : Room).slots) := by
  refine MetFree.of_bodySF (plainFor_of_name pn_9) hisR ?_
  intro p e s m args below meth c s₁ Bd hml0 hP hK
  have W := fun {d : Jvm.Cond} (i : Nat) (q : tables_1[i]? = some d) => hw d (List.mem_of_getElem? q)
  obtain ⟨rfl, hZ, hh⟩ := hP
  have hx := Bd.exec
  have hby := Bd.bytes
  have hml : c.maxLocals = 1 := hml0
  have hown : s.vm.findClass "com/example/homethread/homethread/Items" = some m.cls := findClass_of_methodNamed Bd.named
  have hnm := (name_of_methodNamed Bd.named Bd.method).1
  have X0 : Stand p l e ({ frames := 0, cells := 0, slots := 0, locals := 0 } : Room) s m #[(.ref b62)] below meth c s₁ [] 0 0 := Stand.of_body Bd
  have e0 : s₁.heap = h0 := by rw [← hh, Bd.state]; rfl
  have N0 := Fr.nil n0
  have pre0 : ∀ t, Steps p.tables e below (s₁.setTop (mkF m 0 #[rv b62] [])) t → Steps p.tables e below (s₁.setTop (entryFrame m #[(.ref b62)] 1)) t := fun t k => castTop (ef_11 m b62) k
  have K0 : Keep h0 h0 [] := Keep.refl h0 []
  have pre1935 : ∀ t, Steps p.tables e below (s₁.setTop (mkF m 1 #[rv b62] [(.ref b62)])) t → Steps p.tables e below (s₁.setTop (entryFrame m #[(.ref b62)] 1)) t := fun t kt => by
    refine pre0 _ ?_
    show Steps p.tables e below (s₁.setTop (mkF m 0 #[rv b62] [])) _
    refine XS.aloadN X0.here hx rfl (hb hby d3_0) rfl rfl ?_
    exact kt
  obtain ⟨T1936, X1936, e1936, st1936⟩ := getF X0 hx hZ hown (host := "") (Or.inl (W 18 rfl)) Via.refl e0 Fi0 (g := (mkF m 1 #[rv b62] [(.ref b62)])) rfl rfl (hb hby d3_1)
  have pre1937 : ∀ t, Steps p.tables e below (T1936.setTop (mkF m 4 #[rv b62] [(.int (3 : Int32))])) t → Steps p.tables e below (s₁.setTop (entryFrame m #[(.ref b62)] 1)) t := fun t kt => pre1935 _ (st1936 _ kt)
  have pre1938 : ∀ t, Steps p.tables e below (T1936.setTop (mkF m 12 #[rv b62] [(.int (0 : Int32))])) t → Steps p.tables e below (s₁.setTop (entryFrame m #[(.ref b62)] 1)) t := fun t kt => by
    refine pre1937 _ ?_
    show Steps p.tables e below (T1936.setTop (mkF m 4 #[rv b62] [(.int (3 : Int32))])) _
    refine XS.ifYes X1936.here hx rfl (pc0 := 4) (pc' := 11) rfl (hb hby d3_4) rfl (XT.i0_ne_t (by decide)) (by decide) (by decide) ?_
    refine XS.iconst X1936.here hx rfl (hb hby d3_11) ?_
    exact kt
  obtain ⟨fs, hr, hrun, hended, hW, hsame⟩ := X1936.leave (v := some (.int (0 : Int32))) (fun h => by rw [Bd.returns] at h; cases h)
  refine ⟨_, _, pre1938 _ (retN X1936 hx (t := .boolean) Bd.returns (by simp) (hb hby d3_12) hr), hrun, hended, _, _, rfl, ?_, ⟨_, rfl⟩, hW, hsame.mono (by decide) (by decide)⟩
  show Q_isEmpty3_3 Z b62 h0 n0 _ T1936.heap _
  rw [e1936]
  exact ⟨rfl, N0, rfl⟩
def Q_clear14_2 (Z : State) (b62 : Addr) (b109_68 : Addr) (h0 : Heap) (n0 : Nat) (v : Option Value) (h : Heap) (L : List Loc) : Prop := v = none ∧ Fr n0 L ∧ Keep h0 h [b62] ∧ Old Z n0 h ∧ Exa Z h b62 "com/example/homethread/homethread/Items" ∧ Fld Z h b62 "com/example/homethread/homethread/Items" "slots" "[Ljava/lang/Object;" (.ref b109_68) ∧ Fld Z h b62 "com/example/homethread/homethread/Items" "size" "I" (.int (0 : Int32))
set_option maxRecDepth 65536 in
set_option maxHeartbeats 40000000 in
theorem rm_clear14_2 (l : Launch) (Z : State) (a0 : Array Value) (hw : ∀ d ∈ tables_1, d.before a0 Z = true) (ws : List Jvm.Cond) (b62 : Addr) (b109_68 : Addr) (h0 : Heap) (n0 : Nat) (O0 : Old Z n0 h0) (g_b62 : n0 ≤ b62) (Fi0 : Exa Z h0 b62 "com/example/homethread/homethread/Items") (Fi1 : Fld Z h0 b62 "com/example/homethread/homethread/Items" "slots" "[Ljava/lang/Object;" (.ref b109_68)) (Fi2 : Fld Z h0 b62 "com/example/homethread/homethread/Items" "size" "I" (.int (2 : Int32))) :
    MetFree l (⟨"com/example/homethread/homethread/Items", "clear", "()V"⟩ : MethodName) (head1 (Jvm.Cond.code (⟨"com/example/homethread/homethread/Items", "clear", "()V"⟩ : MethodName) prog_9_method_10_code 1 none :: ws) ({ frames := 0, cells := 0, slots := 0, locals := 0 } : Room)) (fun a U => a = #[(.ref b62)] ∧ Z.Warmed39 U.vm ∧ U.heap = h0) (fun _ _ _ _ _ => True) (fun _ U o U' => ∃ v L, o = .returned v ∧ Q_clear14_2 Z b62 b109_68 h0 n0 v U'.heap L ∧ FrameEnd U o U' L ({ frames := 0, cells := 0, slots := 0, locals := 0 } : Room).cells ({ frames := 0, cells := 0, slots := 0, locals := 0 } : Room).slots) := by
  refine MetFree.of_bodySF (plainFor_of_name pn_9) hisR ?_
  intro p e s m args below meth c s₁ Bd hml0 hP hK
  have W := fun {d : Jvm.Cond} (i : Nat) (q : tables_1[i]? = some d) => hw d (List.mem_of_getElem? q)
  obtain ⟨rfl, hZ, hh⟩ := hP
  have hx := Bd.exec
  have hby := Bd.bytes
  have hml : c.maxLocals = 1 := hml0
  have hown : s.vm.findClass "com/example/homethread/homethread/Items" = some m.cls := findClass_of_methodNamed Bd.named
  have hnm := (name_of_methodNamed Bd.named Bd.method).1
  have X0 : Stand p l e ({ frames := 0, cells := 0, slots := 0, locals := 0 } : Room) s m #[(.ref b62)] below meth c s₁ [] 0 0 := Stand.of_body Bd
  have e0 : s₁.heap = h0 := by rw [← hh, Bd.state]; rfl
  have N0 := Fr.nil n0
  have pre0 : ∀ t, Steps p.tables e below (s₁.setTop (mkF m 0 #[rv b62] [])) t → Steps p.tables e below (s₁.setTop (entryFrame m #[(.ref b62)] 1)) t := fun t k => castTop (ef_16 m b62) k
  have K0 : Keep h0 h0 [b62] := Keep.refl h0 [b62]
  have pre1964 : ∀ t, Steps p.tables e below (s₁.setTop (mkF m 2 #[rv b62] [(.int (0 : Int32)), (.ref b62)])) t → Steps p.tables e below (s₁.setTop (entryFrame m #[(.ref b62)] 1)) t := fun t kt => by
    refine pre0 _ ?_
    show Steps p.tables e below (s₁.setTop (mkF m 0 #[rv b62] [])) _
    refine XS.aloadN X0.here hx rfl (hb hby d14_0) rfl rfl ?_
    refine XS.iconst X0.here hx rfl (hb hby d14_1) ?_
    exact kt
  obtain ⟨T1965, h1965, X1965, e1965, W1965, st1965⟩ := putF X0 hx hZ hown (host := "") (Or.inl (W 18 rfl)) Via.refl e0 Fi2 Fi0 (Or.inl (W 19 rfl)) (W 1 rfl) (ty := .int) (by decide) rfl rfl (g := (mkF m 2 #[rv b62] [(.int (0 : Int32)), (.ref b62)])) rfl rfl (hb hby d14_2)
  have pre1966 : ∀ t, Steps p.tables e below (T1965.setTop (mkF m 5 #[rv b62] [])) t → Steps p.tables e below (s₁.setTop (entryFrame m #[(.ref b62)] 1)) t := fun t kt => pre1964 _ (st1965 _ kt)
  have N1965 := Fr.snoc X1965 N0 g_b62
  have O1965 := O0.wr W1965 g_b62
  have K1965 : Keep h0 h1965 [b62] := K0.wr W1965 (Or.inl (List.mem_of_getElem? (i := 0) rfl))
  have F1967 := Fi0.wr W1965
  have F1968 := Fi1.other W1965 (Or.inr (slot_ne (Or.inl (W 12 rfl)) (Or.inl (W 19 rfl)) (by decide) (t := (.array (.object "java/lang/Object"))) (t' := .int) (by decide) (by decide)))
  have F1969 : Fld Z h1965 b62 "com/example/homethread/homethread/Items" "size" "I" (.int (0 : Int32)) := Fi2.same W1965
  obtain ⟨fs, hr, hrun, hended, hW, hsame⟩ := X1965.leave (v := none) (fun _ => rfl)
  refine ⟨_, _, pre1966 _ (X1965.returnOut hx Bd.returns (hb hby d14_5) hr), hrun, hended, _, _, rfl, ?_, ⟨_, rfl⟩, hW, hsame.mono (by decide) (by decide)⟩
  show Q_clear14_2 Z b62 b109_68 h0 n0 _ T1965.heap _
  rw [e1965]
  exact ⟨rfl, N1965, K1965, O1965, F1967, F1968, F1969⟩
def Q_add6_6 (Z : State) (b62 : Addr) (r_1793 : Addr) (k109_68 : ClassId) (b109_68 : Addr) (h0 : Heap) (n0 : Nat) (v : Option Value) (h : Heap) (L : List Loc) : Prop := v = none ∧ Fr n0 L ∧ Keep h0 h [b109_68, b62] ∧ Old Z n0 h ∧ Exa Z h b109_68 "[Ljava/lang/Object;" ∧ Exa Z h b62 "com/example/homethread/homethread/Items" ∧ Fld Z h b62 "com/example/homethread/homethread/Items" "slots" "[Ljava/lang/Object;" (.ref b109_68) ∧ Arv Z h b109_68 k109_68 (.object "java/lang/Object") (16 : Int32) [(.ref r_1793), (.ref r_1793), .null, .null, .null, .null, .null, .null, .null, .null, .null, .null, .null, .null, .null, .null] .null ∧ Fld Z h b62 "com/example/homethread/homethread/Items" "size" "I" (.int (1 : Int32))
set_option maxRecDepth 65536 in
set_option maxHeartbeats 40000000 in
theorem rm_add6_6 (l : Launch) (Z : State) (a0 : Array Value) (hw : ∀ d ∈ tables_1, d.before a0 Z = true) (ws : List Jvm.Cond) (b62 : Addr) (r_1793 : Addr) (k109_68 : ClassId) (b109_68 : Addr) (h0 : Heap) (n0 : Nat) (O0 : Old Z n0 h0) (g_b109_68 : n0 ≤ b109_68) (g_b62 : n0 ≤ b62) (Fi0 : Ovr Z k109_68 "java/lang/Object") (Fi1 : Exa Z h0 r_1793 "java/lang/Integer") (Fi2 : Exa Z h0 b109_68 "[Ljava/lang/Object;") (Fi3 : Arv Z h0 b109_68 k109_68 (.object "java/lang/Object") (16 : Int32) [(.ref r_1793), (.ref r_1793), .null, .null, .null, .null, .null, .null, .null, .null, .null, .null, .null, .null, .null, .null] .null) (Fi4 : Exa Z h0 b62 "com/example/homethread/homethread/Items") (Fi5 : Fld Z h0 b62 "com/example/homethread/homethread/Items" "slots" "[Ljava/lang/Object;" (.ref b109_68)) (Fi6 : Fld Z h0 b62 "com/example/homethread/homethread/Items" "size" "I" (.int (0 : Int32))) (q0 : ¬ (b109_68 = b62)) :
    MetFree l (⟨"com/example/homethread/homethread/Items", "add", "(Ljava/lang/Object;)V"⟩ : MethodName) (head1 (Jvm.Cond.code (⟨"com/example/homethread/homethread/Items", "add", "(Ljava/lang/Object;)V"⟩ : MethodName) prog_9_method_8_code 3 none :: ws) ({ frames := 0, cells := 0, slots := 0, locals := 0 } : Room)) (fun a U => a = #[(.ref b62), (.ref r_1793)] ∧ Z.Warmed39 U.vm ∧ U.heap = h0) (fun _ _ _ _ _ => True) (fun _ U o U' => ∃ v L, o = .returned v ∧ Q_add6_6 Z b62 r_1793 k109_68 b109_68 h0 n0 v U'.heap L ∧ FrameEnd U o U' L ({ frames := 0, cells := 0, slots := 0, locals := 0 } : Room).cells ({ frames := 0, cells := 0, slots := 0, locals := 0 } : Room).slots) := by
  refine MetFree.of_bodySF (plainFor_of_name pn_9) hisR ?_
  intro p e s m args below meth c s₁ Bd hml0 hP hK
  have W := fun {d : Jvm.Cond} (i : Nat) (q : tables_1[i]? = some d) => hw d (List.mem_of_getElem? q)
  obtain ⟨rfl, hZ, hh⟩ := hP
  have hx := Bd.exec
  have hby := Bd.bytes
  have hml : c.maxLocals = 3 := hml0
  have hown : s.vm.findClass "com/example/homethread/homethread/Items" = some m.cls := findClass_of_methodNamed Bd.named
  have hnm := (name_of_methodNamed Bd.named Bd.method).1
  have X0 : Stand p l e ({ frames := 0, cells := 0, slots := 0, locals := 0 } : Room) s m #[(.ref b62), (.ref r_1793)] below meth c s₁ [] 0 0 := Stand.of_body Bd
  have e0 : s₁.heap = h0 := by rw [← hh, Bd.state]; rfl
  have N0 := Fr.nil n0
  have pre0 : ∀ t, Steps p.tables e below (s₁.setTop (mkF m 0 #[rv b62, rv r_1793, .unset] [])) t → Steps p.tables e below (s₁.setTop (entryFrame m #[(.ref b62), (.ref r_1793)] 3)) t := fun t k => castTop (ef_14 m b62 r_1793) k
  have K0 : Keep h0 h0 [b109_68, b62] := Keep.refl h0 [b109_68, b62]
  have pre2049 : ∀ t, Steps p.tables e below (s₁.setTop (mkF m 1 #[rv b62, rv r_1793, .unset] [(.ref b62)])) t → Steps p.tables e below (s₁.setTop (entryFrame m #[(.ref b62), (.ref r_1793)] 3)) t := fun t kt => by
    refine pre0 _ ?_
    show Steps p.tables e below (s₁.setTop (mkF m 0 #[rv b62, rv r_1793, .unset] [])) _
    refine XS.aloadN X0.here hx rfl (hb hby d6_0) rfl rfl ?_
    exact kt
  obtain ⟨T2050, X2050, e2050, st2050⟩ := getF X0 hx hZ hown (host := "") (Or.inl (W 18 rfl)) Via.refl e0 Fi6 (g := (mkF m 1 #[rv b62, rv r_1793, .unset] [(.ref b62)])) rfl rfl (hb hby d6_1)
  have pre2051 : ∀ t, Steps p.tables e below (T2050.setTop (mkF m 4 #[rv b62, rv r_1793, .unset] [(.int (0 : Int32))])) t → Steps p.tables e below (s₁.setTop (entryFrame m #[(.ref b62), (.ref r_1793)] 3)) t := fun t kt => pre2049 _ (st2050 _ kt)
  have pre2052 : ∀ t, Steps p.tables e below (T2050.setTop (mkF m 5 #[rv b62, rv r_1793, .unset] [(.ref b62), (.int (0 : Int32))])) t → Steps p.tables e below (s₁.setTop (entryFrame m #[(.ref b62), (.ref r_1793)] 3)) t := fun t kt => by
    refine pre2051 _ ?_
    show Steps p.tables e below (T2050.setTop (mkF m 4 #[rv b62, rv r_1793, .unset] [(.int (0 : Int32))])) _
    refine XS.aloadN X2050.here hx rfl (hb hby d6_4) rfl rfl ?_
    exact kt
  obtain ⟨T2053, X2053, e2053, st2053⟩ := getF X2050 hx hZ hown (host := "") (Or.inl (W 11 rfl)) Via.refl e2050 Fi5 (g := (mkF m 5 #[rv b62, rv r_1793, .unset] [(.ref b62), (.int (0 : Int32))])) rfl rfl (hb hby d6_5)
  have pre2054 : ∀ t, Steps p.tables e below (T2053.setTop (mkF m 8 #[rv b62, rv r_1793, .unset] [(.ref b109_68), (.int (0 : Int32))])) t → Steps p.tables e below (s₁.setTop (entryFrame m #[(.ref b62), (.ref r_1793)] 3)) t := fun t kt => pre2052 _ (st2053 _ kt)
  obtain ⟨c2055, Ar2055, -, S2055, M2055, -, -⟩ := id Fi3
  have pre2056 : ∀ t, Steps p.tables e below (T2053.setTop (mkF m 51 #[rv b62, rv r_1793, .unset] [(.ref b62)])) t → Steps p.tables e below (s₁.setTop (entryFrame m #[(.ref b62), (.ref r_1793)] 3)) t := fun t kt => by
    refine pre2054 _ ?_
    show Steps p.tables e below (T2053.setTop (mkF m 8 #[rv b62, rv r_1793, .unset] [(.ref b109_68), (.int (0 : Int32))])) _
    refine X2053.arraylength hx (by rw [e2053]; exact Ar2055.1) (State.isArrayOf_alike hZ.alike Ar2055.2.1) (g := (mkF m 8 #[rv b62, rv r_1793, .unset] [(.ref b109_68), (.int (0 : Int32))])) rfl rfl (hb hby d6_8) _ ?_
    rw [len_of S2055 M2055]
    refine XS.icmpYes X2053.here hx rfl (pc0 := 9) (pc' := 50) rfl (hb hby d6_9) rfl (XT.ii_ne_t (by decide)) (by decide) (by decide) ?_
    refine XS.aloadN X2053.here hx rfl (hb hby d6_50) rfl rfl ?_
    exact kt
  obtain ⟨T2057, X2057, e2057, st2057⟩ := getF X2053 hx hZ hown (host := "") (Or.inl (W 11 rfl)) Via.refl e2053 Fi5 (g := (mkF m 51 #[rv b62, rv r_1793, .unset] [(.ref b62)])) rfl rfl (hb hby d6_51)
  have pre2058 : ∀ t, Steps p.tables e below (T2057.setTop (mkF m 54 #[rv b62, rv r_1793, .unset] [(.ref b109_68)])) t → Steps p.tables e below (s₁.setTop (entryFrame m #[(.ref b62), (.ref r_1793)] 3)) t := fun t kt => pre2056 _ (st2057 _ kt)
  have pre2059 : ∀ t, Steps p.tables e below (T2057.setTop (mkF m 55 #[rv b62, rv r_1793, .unset] [(.ref b62), (.ref b109_68)])) t → Steps p.tables e below (s₁.setTop (entryFrame m #[(.ref b62), (.ref r_1793)] 3)) t := fun t kt => by
    refine pre2058 _ ?_
    show Steps p.tables e below (T2057.setTop (mkF m 54 #[rv b62, rv r_1793, .unset] [(.ref b109_68)])) _
    refine XS.aloadN X2057.here hx rfl (hb hby d6_54) rfl rfl ?_
    exact kt
  obtain ⟨T2060, X2060, e2060, st2060⟩ := getF X2057 hx hZ hown (host := "") (Or.inl (W 18 rfl)) Via.refl e2057 Fi6 (g := (mkF m 55 #[rv b62, rv r_1793, .unset] [(.ref b62), (.ref b109_68)])) rfl rfl (hb hby d6_55)
  have pre2061 : ∀ t, Steps p.tables e below (T2060.setTop (mkF m 58 #[rv b62, rv r_1793, .unset] [(.int (0 : Int32)), (.ref b109_68)])) t → Steps p.tables e below (s₁.setTop (entryFrame m #[(.ref b62), (.ref r_1793)] 3)) t := fun t kt => pre2059 _ (st2060 _ kt)
  have pre2062 : ∀ t, Steps p.tables e below (T2060.setTop (mkF m 59 #[rv b62, rv r_1793, .unset] [(.ref r_1793), (.int (0 : Int32)), (.ref b109_68)])) t → Steps p.tables e below (s₁.setTop (entryFrame m #[(.ref b62), (.ref r_1793)] 3)) t := fun t kt => by
    refine pre2061 _ ?_
    show Steps p.tables e below (T2060.setTop (mkF m 58 #[rv b62, rv r_1793, .unset] [(.int (0 : Int32)), (.ref b109_68)])) _
    refine XS.aloadN X2060.here hx rfl (hb hby d6_58) rfl rfl ?_
    exact kt
  obtain ⟨c2063, Ar2063, q2063, S2063, M2063, H2063, G2063⟩ := id Fi3
  have i2063 : ¬ ((0 : Int32) < 0 ∨ c2063.slots.size ≤ ((0 : Int32)).toNatClampNeg) := inb_of S2063 ⟨by decide, by decide⟩
  obtain ⟨T2064, h2064, X2064, e2064, W2064, st2064⟩ := stR X2060 hx hZ e2060 Ar2063 (j := (0 : Int32)) i2063 rfl (Sto.ofV Ar2063 q2063 Fi0 (Ins.of_exa Fi1 (W 65 rfl))) (g := (mkF m 59 #[rv b62, rv r_1793, .unset] [(.ref r_1793), (.int (0 : Int32)), (.ref b109_68)])) rfl rfl (hb hby d6_59)
  have pre2065 : ∀ t, Steps p.tables e below (T2064.setTop (mkF m 60 #[rv b62, rv r_1793, .unset] [])) t → Steps p.tables e below (s₁.setTop (entryFrame m #[(.ref b62), (.ref r_1793)] 3)) t := fun t kt => pre2062 _ (st2064 _ kt)
  have N2064 := Fr.snoc X2064 N0 g_b109_68
  have O2064 := O0.wr W2064 g_b109_68
  have K2064 : Keep h0 h2064 [b109_68, b62] := K0.wr W2064 (Or.inl (List.mem_of_getElem? (i := 0) rfl))
  have F2066 := Fi1.wr W2064
  have F2067 := Fi2.wr W2064
  have F2068 := Fi4.wr W2064
  have F2069 := Fi5.other W2064 (Or.inl (fun q => q0 q.symm))
  have F2070 := Fi6.other W2064 (Or.inl (fun q => q0 q.symm))
  have F2071 : Arv Z h2064 b109_68 k109_68 (.object "java/lang/Object") (16 : Int32) [(.ref r_1793), (.ref r_1793), .null, .null, .null, .null, .null, .null, .null, .null, .null, .null, .null, .null, .null, .null] .null := Arv.set Ar2063 q2063 S2063 M2063 H2063 G2063 rfl W2064 0 rfl (Nat.le_of_ble_eq_true rfl)
  have pre2072 : ∀ t, Steps p.tables e below (T2064.setTop (mkF m 62 #[rv b62, rv r_1793, .unset] [(.ref b62), (.ref b62)])) t → Steps p.tables e below (s₁.setTop (entryFrame m #[(.ref b62), (.ref r_1793)] 3)) t := fun t kt => by
    refine pre2065 _ ?_
    show Steps p.tables e below (T2064.setTop (mkF m 60 #[rv b62, rv r_1793, .unset] [])) _
    refine XS.aloadN X2064.here hx rfl (hb hby d6_60) rfl rfl ?_
    refine XS.dup X2064.here hx rfl (hb hby d6_61) rfl rfl ?_
    exact kt
  obtain ⟨T2073, X2073, e2073, st2073⟩ := getF X2064 hx hZ hown (host := "") (Or.inl (W 18 rfl)) Via.refl e2064 F2070 (g := (mkF m 62 #[rv b62, rv r_1793, .unset] [(.ref b62), (.ref b62)])) rfl rfl (hb hby d6_62)
  have pre2074 : ∀ t, Steps p.tables e below (T2073.setTop (mkF m 65 #[rv b62, rv r_1793, .unset] [(.int (0 : Int32)), (.ref b62)])) t → Steps p.tables e below (s₁.setTop (entryFrame m #[(.ref b62), (.ref r_1793)] 3)) t := fun t kt => pre2072 _ (st2073 _ kt)
  have pre2075 : ∀ t, Steps p.tables e below (T2073.setTop (mkF m 67 #[rv b62, rv r_1793, .unset] [(.int (1 : Int32)), (.ref b62)])) t → Steps p.tables e below (s₁.setTop (entryFrame m #[(.ref b62), (.ref r_1793)] 3)) t := fun t kt => by
    refine pre2074 _ ?_
    show Steps p.tables e below (T2073.setTop (mkF m 65 #[rv b62, rv r_1793, .unset] [(.int (0 : Int32)), (.ref b62)])) _
    refine XS.iconst X2073.here hx rfl (hb hby d6_65) ?_
    refine XS.iadd X2073.here hx rfl (hb hby d6_66) rfl ?_
    show  Steps p.tables e below (T2073.setTop (mkF m 67 #[rv b62, rv r_1793, .unset] [(.int ((0 : Int32) + (1 : Int32))), (.ref b62)])) _
    rw [(by decide : (((0 : Int32) + (1 : Int32)) : Int32) = (1 : Int32))]
    exact kt
  obtain ⟨T2076, h2076, X2076, e2076, W2076, st2076⟩ := putF X2073 hx hZ hown (host := "") (Or.inl (W 18 rfl)) Via.refl e2073 F2070 F2068 (Or.inl (W 19 rfl)) (W 1 rfl) (ty := .int) (by decide) rfl rfl (g := (mkF m 67 #[rv b62, rv r_1793, .unset] [(.int (1 : Int32)), (.ref b62)])) rfl rfl (hb hby d6_67)
  have pre2077 : ∀ t, Steps p.tables e below (T2076.setTop (mkF m 70 #[rv b62, rv r_1793, .unset] [])) t → Steps p.tables e below (s₁.setTop (entryFrame m #[(.ref b62), (.ref r_1793)] 3)) t := fun t kt => pre2075 _ (st2076 _ kt)
  have N2076 := Fr.snoc X2076 N2064 g_b62
  have O2076 := O2064.wr W2076 g_b62
  have K2076 : Keep h0 h2076 [b109_68, b62] := K2064.wr W2076 (Or.inl (List.mem_of_getElem? (i := 1) rfl))
  have F2078 := F2066.wr W2076
  have F2079 := F2067.wr W2076
  have F2080 := F2068.wr W2076
  have F2081 := F2069.other W2076 (Or.inr (slot_ne (Or.inl (W 12 rfl)) (Or.inl (W 19 rfl)) (by decide) (t := (.array (.object "java/lang/Object"))) (t' := .int) (by decide) (by decide)))
  have F2082 := F2071.other W2076 q0
  have F2083 : Fld Z h2076 b62 "com/example/homethread/homethread/Items" "size" "I" (.int (1 : Int32)) := F2070.same W2076
  obtain ⟨fs, hr, hrun, hended, hW, hsame⟩ := X2076.leave (v := none) (fun _ => rfl)
  refine ⟨_, _, pre2077 _ (X2076.returnOut hx Bd.returns (hb hby d6_70) hr), hrun, hended, _, _, rfl, ?_, ⟨_, rfl⟩, hW, hsame.mono (by decide) (by decide)⟩
  show Q_add6_6 Z b62 r_1793 k109_68 b109_68 h0 n0 _ T2076.heap _
  rw [e2076]
  exact ⟨rfl, N2076, K2076, O2076, F2079, F2080, F2081, F2082, F2083⟩
def Q_clearAndTrim5_7 (Z : State) (b62 : Addr) (p3 : Int32) (a_NO_SLOTS : Addr) (k109_68 : ClassId) (r_1793 : Addr) (b109_68 : Addr) (h0 : Heap) (n0 : Nat) (v : Option Value) (h : Heap) (L : List Loc) : Prop := v = none ∧ Fr n0 L ∧ Keep h0 h [b62] ∧ Old Z n0 h ∧ Exa Z h b62 "com/example/homethread/homethread/Items" ∧ Fld Z h b62 "com/example/homethread/homethread/Items" "slots" "[Ljava/lang/Object;" (.ref a_NO_SLOTS) ∧ Fld Z h b62 "com/example/homethread/homethread/Items" "size" "I" (.int (0 : Int32))
set_option maxRecDepth 65536 in
set_option maxHeartbeats 40000000 in
theorem rm_clearAndTrim5_7 (l : Launch) (Z : State) (a0 : Array Value) (hw : ∀ d ∈ tables_1, d.before a0 Z = true) (ws : List Jvm.Cond) (b62 : Addr) (p3 : Int32) (a_NO_SLOTS : Addr) (k109_68 : ClassId) (r_1793 : Addr) (b109_68 : Addr) (h0 : Heap) (n0 : Nat) (O0 : Old Z n0 h0) (G0 : Sta Z Z.heap "com/example/homethread/homethread/Items" "NO_SLOTS" "[Ljava/lang/Object;" (.ref a_NO_SLOTS)) (g_b62 : n0 ≤ b62) (Fi0 : Exa Z h0 b62 "com/example/homethread/homethread/Items") (Fi1 : Fld Z h0 b62 "com/example/homethread/homethread/Items" "slots" "[Ljava/lang/Object;" (.ref b109_68)) (Fi2 : Arv Z h0 b109_68 k109_68 (.object "java/lang/Object") (16 : Int32) [(.ref r_1793), (.ref r_1793), .null, .null, .null, .null, .null, .null, .null, .null, .null, .null, .null, .null, .null, .null] .null) (Fi3 : Fld Z h0 b62 "com/example/homethread/homethread/Items" "size" "I" (.int (2 : Int32))) (q0 : ¬ (b109_68 = b62)) (q1 : p3 < (16 : Int32)) :
    MetFree l (⟨"com/example/homethread/homethread/Items", "clearAndTrim", "(I)V"⟩ : MethodName) (head1 (Jvm.Cond.code (⟨"com/example/homethread/homethread/Items", "clearAndTrim", "(I)V"⟩ : MethodName) prog_9_method_11_code 2 none :: ws) ({ frames := 0, cells := 0, slots := 0, locals := 0 } : Room)) (fun a U => a = #[(.ref b62), (.int p3)] ∧ Z.Warmed39 U.vm ∧ U.heap = h0) (fun _ _ _ _ _ => True) (fun _ U o U' => ∃ v L, o = .returned v ∧ Q_clearAndTrim5_7 Z b62 p3 a_NO_SLOTS k109_68 r_1793 b109_68 h0 n0 v U'.heap L ∧ FrameEnd U o U' L ({ frames := 0, cells := 0, slots := 0, locals := 0 } : Room).cells ({ frames := 0, cells := 0, slots := 0, locals := 0 } : Room).slots) := by
  refine MetFree.of_bodySF (plainFor_of_name pn_9) hisR ?_
  intro p e s m args below meth c s₁ Bd hml0 hP hK
  have W := fun {d : Jvm.Cond} (i : Nat) (q : tables_1[i]? = some d) => hw d (List.mem_of_getElem? q)
  obtain ⟨rfl, hZ, hh⟩ := hP
  have hx := Bd.exec
  have hby := Bd.bytes
  have hml : c.maxLocals = 2 := hml0
  have hown : s.vm.findClass "com/example/homethread/homethread/Items" = some m.cls := findClass_of_methodNamed Bd.named
  have hnm := (name_of_methodNamed Bd.named Bd.method).1
  have X0 : Stand p l e ({ frames := 0, cells := 0, slots := 0, locals := 0 } : Room) s m #[(.ref b62), (.int p3)] below meth c s₁ [] 0 0 := Stand.of_body Bd
  have e0 : s₁.heap = h0 := by rw [← hh, Bd.state]; rfl
  have N0 := Fr.nil n0
  have pre0 : ∀ t, Steps p.tables e below (s₁.setTop (mkF m 0 #[rv b62, iv p3] [])) t → Steps p.tables e below (s₁.setTop (entryFrame m #[(.ref b62), (.int p3)] 2)) t := fun t k => castTop (ef_17 m b62 p3) k
  have K0 : Keep h0 h0 [b62] := Keep.refl h0 [b62]
  have pre2142 : ∀ t, Steps p.tables e below (s₁.setTop (mkF m 1 #[rv b62, iv p3] [(.ref b62)])) t → Steps p.tables e below (s₁.setTop (entryFrame m #[(.ref b62), (.int p3)] 2)) t := fun t kt => by
    refine pre0 _ ?_
    show Steps p.tables e below (s₁.setTop (mkF m 0 #[rv b62, iv p3] [])) _
    refine XS.aloadN X0.here hx rfl (hb hby d5_0) rfl rfl ?_
    exact kt
  obtain ⟨T2143, X2143, e2143, st2143⟩ := getF X0 hx hZ hown (host := "") (Or.inl (W 11 rfl)) Via.refl e0 Fi1 (g := (mkF m 1 #[rv b62, iv p3] [(.ref b62)])) rfl rfl (hb hby d5_1)
  have pre2144 : ∀ t, Steps p.tables e below (T2143.setTop (mkF m 4 #[rv b62, iv p3] [(.ref b109_68)])) t → Steps p.tables e below (s₁.setTop (entryFrame m #[(.ref b62), (.int p3)] 2)) t := fun t kt => pre2142 _ (st2143 _ kt)
  obtain ⟨c2145, Ar2145, -, S2145, M2145, -, -⟩ := id Fi2
  have pre2146 : ∀ t, Steps p.tables e below (T2143.setTop (mkF m 10 #[rv b62, iv p3] [(.ref b62)])) t → Steps p.tables e below (s₁.setTop (entryFrame m #[(.ref b62), (.int p3)] 2)) t := fun t kt => by
    refine pre2144 _ ?_
    show Steps p.tables e below (T2143.setTop (mkF m 4 #[rv b62, iv p3] [(.ref b109_68)])) _
    refine X2143.arraylength hx (by rw [e2143]; exact Ar2145.1) (State.isArrayOf_alike hZ.alike Ar2145.2.1) (g := (mkF m 4 #[rv b62, iv p3] [(.ref b109_68)])) rfl rfl (hb hby d5_4) _ ?_
    rw [len_of S2145 M2145]
    refine XS.iloadN X2143.here hx rfl (hb hby d5_5) rfl ?_
    refine XS.icmpNo X2143.here hx rfl (hb hby d5_6) rfl (XT.ii_le_f q1) ?_
    refine XS.aloadN X2143.here hx rfl (hb hby d5_9) rfl rfl ?_
    exact kt
  obtain ⟨T2147, X2147, e2147, st2147⟩ := getS2 X2143 hx hZ hown (host := "") (Or.inl (W 32 rfl)) Via.refl e2143 (G0.ext O0.2) (g := (mkF m 10 #[rv b62, iv p3] [(.ref b62)])) rfl (hb hby d5_10)
  have pre2148 : ∀ t, Steps p.tables e below (T2147.setTop (mkF m 13 #[rv b62, iv p3] [(.ref a_NO_SLOTS), (.ref b62)])) t → Steps p.tables e below (s₁.setTop (entryFrame m #[(.ref b62), (.int p3)] 2)) t := fun t kt => pre2146 _ (st2147 _ kt)
  obtain ⟨T2149, h2149, X2149, e2149, W2149, st2149⟩ := putF X2147 hx hZ hown (host := "") (Or.inl (W 11 rfl)) Via.refl e2147 Fi1 Fi0 (Or.inl (W 12 rfl)) (W 1 rfl) (ty := (.array (.object "java/lang/Object"))) (by decide) rfl rfl (g := (mkF m 13 #[rv b62, iv p3] [(.ref a_NO_SLOTS), (.ref b62)])) rfl rfl (hb hby d5_13)
  have pre2150 : ∀ t, Steps p.tables e below (T2149.setTop (mkF m 16 #[rv b62, iv p3] [])) t → Steps p.tables e below (s₁.setTop (entryFrame m #[(.ref b62), (.int p3)] 2)) t := fun t kt => pre2148 _ (st2149 _ kt)
  have N2149 := Fr.snoc X2149 N0 g_b62
  have O2149 := O0.wr W2149 g_b62
  have K2149 : Keep h0 h2149 [b62] := K0.wr W2149 (Or.inl (List.mem_of_getElem? (i := 0) rfl))
  have F2151 := Fi0.wr W2149
  have F2152 := Fi2.other W2149 q0
  have F2153 := Fi3.other W2149 (Or.inr (slot_ne (Or.inl (W 19 rfl)) (Or.inl (W 12 rfl)) (by decide) (t := .int) (t' := (.array (.object "java/lang/Object"))) (by decide) (by decide)))
  have F2154 : Fld Z h2149 b62 "com/example/homethread/homethread/Items" "slots" "[Ljava/lang/Object;" (.ref a_NO_SLOTS) := Fi1.same W2149
  have pre2155 : ∀ t, Steps p.tables e below (T2149.setTop (mkF m 18 #[rv b62, iv p3] [(.int (0 : Int32)), (.ref b62)])) t → Steps p.tables e below (s₁.setTop (entryFrame m #[(.ref b62), (.int p3)] 2)) t := fun t kt => by
    refine pre2150 _ ?_
    show Steps p.tables e below (T2149.setTop (mkF m 16 #[rv b62, iv p3] [])) _
    refine XS.aloadN X2149.here hx rfl (hb hby d5_16) rfl rfl ?_
    refine XS.iconst X2149.here hx rfl (hb hby d5_17) ?_
    exact kt
  obtain ⟨T2156, h2156, X2156, e2156, W2156, st2156⟩ := putF X2149 hx hZ hown (host := "") (Or.inl (W 18 rfl)) Via.refl e2149 F2153 F2151 (Or.inl (W 19 rfl)) (W 1 rfl) (ty := .int) (by decide) rfl rfl (g := (mkF m 18 #[rv b62, iv p3] [(.int (0 : Int32)), (.ref b62)])) rfl rfl (hb hby d5_18)
  have pre2157 : ∀ t, Steps p.tables e below (T2156.setTop (mkF m 21 #[rv b62, iv p3] [])) t → Steps p.tables e below (s₁.setTop (entryFrame m #[(.ref b62), (.int p3)] 2)) t := fun t kt => pre2155 _ (st2156 _ kt)
  have N2156 := Fr.snoc X2156 N2149 g_b62
  have O2156 := O2149.wr W2156 g_b62
  have K2156 : Keep h0 h2156 [b62] := K2149.wr W2156 (Or.inl (List.mem_of_getElem? (i := 0) rfl))
  have F2158 := F2151.wr W2156
  have F2159 := F2152.other W2156 q0
  have F2160 := F2154.other W2156 (Or.inr (slot_ne (Or.inl (W 12 rfl)) (Or.inl (W 19 rfl)) (by decide) (t := (.array (.object "java/lang/Object"))) (t' := .int) (by decide) (by decide)))
  have F2161 : Fld Z h2156 b62 "com/example/homethread/homethread/Items" "size" "I" (.int (0 : Int32)) := F2153.same W2156
  obtain ⟨fs, hr, hrun, hended, hW, hsame⟩ := X2156.leave (v := none) (fun _ => rfl)
  refine ⟨_, _, pre2157 _ (X2156.returnOut hx Bd.returns (hb hby d5_21) hr), hrun, hended, _, _, rfl, ?_, ⟨_, rfl⟩, hW, hsame.mono (by decide) (by decide)⟩
  show Q_clearAndTrim5_7 Z b62 p3 a_NO_SLOTS k109_68 r_1793 b109_68 h0 n0 _ T2156.heap _
  rw [e2156]
  exact ⟨rfl, N2156, K2156, O2156, F2158, F2160, F2161⟩
def Q_clearAndTrim5_8 (Z : State) (b62 : Addr) (p3 : Int32) (k109_68 : ClassId) (r_1793 : Addr) (b109_68 : Addr) (h0 : Heap) (n0 : Nat) (v : Option Value) (h : Heap) (L : List Loc) : Prop := v = none ∧ Fr n0 L ∧ Keep h0 h [b62] ∧ Old Z n0 h ∧ Exa Z h b62 "com/example/homethread/homethread/Items" ∧ Fld Z h b62 "com/example/homethread/homethread/Items" "slots" "[Ljava/lang/Object;" (.ref b109_68) ∧ Fld Z h b62 "com/example/homethread/homethread/Items" "size" "I" (.int (0 : Int32))
set_option maxRecDepth 65536 in
set_option maxHeartbeats 40000000 in
theorem rm_clearAndTrim5_8 (l : Launch) (Z : State) (a0 : Array Value) (hw : ∀ d ∈ tables_1, d.before a0 Z = true) (ws : List Jvm.Cond) (b62 : Addr) (p3 : Int32) (k109_68 : ClassId) (r_1793 : Addr) (b109_68 : Addr) (h0 : Heap) (n0 : Nat) (O0 : Old Z n0 h0) (g_b62 : n0 ≤ b62) (Fi0 : Exa Z h0 b62 "com/example/homethread/homethread/Items") (Fi1 : Fld Z h0 b62 "com/example/homethread/homethread/Items" "slots" "[Ljava/lang/Object;" (.ref b109_68)) (Fi2 : Arv Z h0 b109_68 k109_68 (.object "java/lang/Object") (16 : Int32) [(.ref r_1793), (.ref r_1793), .null, .null, .null, .null, .null, .null, .null, .null, .null, .null, .null, .null, .null, .null] .null) (Fi3 : Fld Z h0 b62 "com/example/homethread/homethread/Items" "size" "I" (.int (2 : Int32))) (q0 : ¬ (b109_68 = b62)) (q1 : ¬ (p3 < (16 : Int32))) :
    MetFree l (⟨"com/example/homethread/homethread/Items", "clearAndTrim", "(I)V"⟩ : MethodName) (head1 (Jvm.Cond.code (⟨"com/example/homethread/homethread/Items", "clearAndTrim", "(I)V"⟩ : MethodName) prog_9_method_11_code 2 none :: ws) ({ frames := 0, cells := 0, slots := 0, locals := 0 } : Room)) (fun a U => a = #[(.ref b62), (.int p3)] ∧ Z.Warmed39 U.vm ∧ U.heap = h0) (fun _ _ _ _ _ => True) (fun _ U o U' => ∃ v L, o = .returned v ∧ Q_clearAndTrim5_8 Z b62 p3 k109_68 r_1793 b109_68 h0 n0 v U'.heap L ∧ FrameEnd U o U' L ({ frames := 0, cells := 0, slots := 0, locals := 0 } : Room).cells ({ frames := 0, cells := 0, slots := 0, locals := 0 } : Room).slots) := by
  refine MetFree.of_bodySF (plainFor_of_name pn_9) hisR ?_
  intro p e s m args below meth c s₁ Bd hml0 hP hK
  have W := fun {d : Jvm.Cond} (i : Nat) (q : tables_1[i]? = some d) => hw d (List.mem_of_getElem? q)
  obtain ⟨rfl, hZ, hh⟩ := hP
  have hx := Bd.exec
  have hby := Bd.bytes
  have hml : c.maxLocals = 2 := hml0
  have hown : s.vm.findClass "com/example/homethread/homethread/Items" = some m.cls := findClass_of_methodNamed Bd.named
  have hnm := (name_of_methodNamed Bd.named Bd.method).1
  have X0 : Stand p l e ({ frames := 0, cells := 0, slots := 0, locals := 0 } : Room) s m #[(.ref b62), (.int p3)] below meth c s₁ [] 0 0 := Stand.of_body Bd
  have e0 : s₁.heap = h0 := by rw [← hh, Bd.state]; rfl
  have N0 := Fr.nil n0
  have pre0 : ∀ t, Steps p.tables e below (s₁.setTop (mkF m 0 #[rv b62, iv p3] [])) t → Steps p.tables e below (s₁.setTop (entryFrame m #[(.ref b62), (.int p3)] 2)) t := fun t k => castTop (ef_17 m b62 p3) k
  have K0 : Keep h0 h0 [b62] := Keep.refl h0 [b62]
  have pre2204 : ∀ t, Steps p.tables e below (s₁.setTop (mkF m 1 #[rv b62, iv p3] [(.ref b62)])) t → Steps p.tables e below (s₁.setTop (entryFrame m #[(.ref b62), (.int p3)] 2)) t := fun t kt => by
    refine pre0 _ ?_
    show Steps p.tables e below (s₁.setTop (mkF m 0 #[rv b62, iv p3] [])) _
    refine XS.aloadN X0.here hx rfl (hb hby d5_0) rfl rfl ?_
    exact kt
  obtain ⟨T2205, X2205, e2205, st2205⟩ := getF X0 hx hZ hown (host := "") (Or.inl (W 11 rfl)) Via.refl e0 Fi1 (g := (mkF m 1 #[rv b62, iv p3] [(.ref b62)])) rfl rfl (hb hby d5_1)
  have pre2206 : ∀ t, Steps p.tables e below (T2205.setTop (mkF m 4 #[rv b62, iv p3] [(.ref b109_68)])) t → Steps p.tables e below (s₁.setTop (entryFrame m #[(.ref b62), (.int p3)] 2)) t := fun t kt => pre2204 _ (st2205 _ kt)
  obtain ⟨c2207, Ar2207, -, S2207, M2207, -, -⟩ := id Fi2
  have pre2208 : ∀ t, Steps p.tables e below (T2205.setTop (mkF m 18 #[rv b62, iv p3] [(.int (0 : Int32)), (.ref b62)])) t → Steps p.tables e below (s₁.setTop (entryFrame m #[(.ref b62), (.int p3)] 2)) t := fun t kt => by
    refine pre2206 _ ?_
    show Steps p.tables e below (T2205.setTop (mkF m 4 #[rv b62, iv p3] [(.ref b109_68)])) _
    refine X2205.arraylength hx (by rw [e2205]; exact Ar2207.1) (State.isArrayOf_alike hZ.alike Ar2207.2.1) (g := (mkF m 4 #[rv b62, iv p3] [(.ref b109_68)])) rfl rfl (hb hby d5_4) _ ?_
    rw [len_of S2207 M2207]
    refine XS.iloadN X2205.here hx rfl (hb hby d5_5) rfl ?_
    refine XS.icmpYes X2205.here hx rfl (pc0 := 6) (pc' := 16) rfl (hb hby d5_6) rfl (XT.ii_le_t q1) (by decide) (by decide) ?_
    refine XS.aloadN X2205.here hx rfl (hb hby d5_16) rfl rfl ?_
    show Steps p.tables e below (T2205.setTop (mkF m 17 #[rv b62, iv p3] [(.ref b62)])) _
    refine XS.iconst X2205.here hx rfl (hb hby d5_17) ?_
    exact kt
  obtain ⟨T2209, h2209, X2209, e2209, W2209, st2209⟩ := putF X2205 hx hZ hown (host := "") (Or.inl (W 18 rfl)) Via.refl e2205 Fi3 Fi0 (Or.inl (W 19 rfl)) (W 1 rfl) (ty := .int) (by decide) rfl rfl (g := (mkF m 18 #[rv b62, iv p3] [(.int (0 : Int32)), (.ref b62)])) rfl rfl (hb hby d5_18)
  have pre2210 : ∀ t, Steps p.tables e below (T2209.setTop (mkF m 21 #[rv b62, iv p3] [])) t → Steps p.tables e below (s₁.setTop (entryFrame m #[(.ref b62), (.int p3)] 2)) t := fun t kt => pre2208 _ (st2209 _ kt)
  have N2209 := Fr.snoc X2209 N0 g_b62
  have O2209 := O0.wr W2209 g_b62
  have K2209 : Keep h0 h2209 [b62] := K0.wr W2209 (Or.inl (List.mem_of_getElem? (i := 0) rfl))
  have F2211 := Fi0.wr W2209
  have F2212 := Fi1.other W2209 (Or.inr (slot_ne (Or.inl (W 12 rfl)) (Or.inl (W 19 rfl)) (by decide) (t := (.array (.object "java/lang/Object"))) (t' := .int) (by decide) (by decide)))
  have F2213 := Fi2.other W2209 q0
  have F2214 : Fld Z h2209 b62 "com/example/homethread/homethread/Items" "size" "I" (.int (0 : Int32)) := Fi3.same W2209
  obtain ⟨fs, hr, hrun, hended, hW, hsame⟩ := X2209.leave (v := none) (fun _ => rfl)
  refine ⟨_, _, pre2210 _ (X2209.returnOut hx Bd.returns (hb hby d5_21) hr), hrun, hended, _, _, rfl, ?_, ⟨_, rfl⟩, hW, hsame.mono (by decide) (by decide)⟩
  show Q_clearAndTrim5_8 Z b62 p3 k109_68 r_1793 b109_68 h0 n0 _ T2209.heap _
  rw [e2209]
  exact ⟨rfl, N2209, K2209, O2209, F2211, F2212, F2214⟩
def Q_removeLast13_2 (Z : State) (b62 : Addr) (r_1793 : Addr) (k109_68 : ClassId) (b109_68 : Addr) (h0 : Heap) (n0 : Nat) (v : Option Value) (h : Heap) (L : List Loc) : Prop := v = some (.int (1 : Int32)) ∧ Fr n0 L ∧ Keep h0 h [b62, b109_68] ∧ Old Z n0 h ∧ Exa Z h b62 "com/example/homethread/homethread/Items" ∧ Exa Z h b109_68 "[Ljava/lang/Object;" ∧ Fld Z h b62 "com/example/homethread/homethread/Items" "slots" "[Ljava/lang/Object;" (.ref b109_68) ∧ Fld Z h b62 "com/example/homethread/homethread/Items" "size" "I" (.int (1 : Int32)) ∧ Arv Z h b109_68 k109_68 (.object "java/lang/Object") (16 : Int32) [(.ref r_1793), .null, .null, .null, .null, .null, .null, .null, .null, .null, .null, .null, .null, .null, .null, .null] .null
set_option maxRecDepth 65536 in
set_option maxHeartbeats 40000000 in
theorem rm_removeLast13_2 (l : Launch) (Z : State) (a0 : Array Value) (hw : ∀ d ∈ tables_1, d.before a0 Z = true) (ws : List Jvm.Cond) (b62 : Addr) (r_1793 : Addr) (k109_68 : ClassId) (b109_68 : Addr) (h0 : Heap) (n0 : Nat) (O0 : Old Z n0 h0) (g_b62 : n0 ≤ b62) (g_b109_68 : n0 ≤ b109_68) (Fi0 : Exa Z h0 b62 "com/example/homethread/homethread/Items") (Fi1 : Exa Z h0 b109_68 "[Ljava/lang/Object;") (Fi2 : Fld Z h0 b62 "com/example/homethread/homethread/Items" "slots" "[Ljava/lang/Object;" (.ref b109_68)) (Fi3 : Arv Z h0 b109_68 k109_68 (.object "java/lang/Object") (16 : Int32) [(.ref r_1793), (.ref r_1793), .null, .null, .null, .null, .null, .null, .null, .null, .null, .null, .null, .null, .null, .null] .null) (Fi4 : Fld Z h0 b62 "com/example/homethread/homethread/Items" "size" "I" (.int (2 : Int32))) (q0 : ¬ (b109_68 = b62)) :
    MetFree l (⟨"com/example/homethread/homethread/Items", "removeLast", "(Ljava/lang/Object;I)Z"⟩ : MethodName) (head1 (Jvm.Cond.code (⟨"com/example/homethread/homethread/Items", "removeLast", "(Ljava/lang/Object;I)Z"⟩ : MethodName) prog_9_method_12_code 4 (some .boolean) :: ws) ({ frames := 1, cells := 0, slots := 0, locals := 24 } : Room)) (fun a U => a = #[(.ref b62), (.ref r_1793), (.int (0 : Int32))] ∧ Z.Warmed39 U.vm ∧ U.heap = h0) (fun _ _ _ _ _ => True) (fun _ U o U' => ∃ v L, o = .returned v ∧ Q_removeLast13_2 Z b62 r_1793 k109_68 b109_68 h0 n0 v U'.heap L ∧ FrameEnd U o U' L ({ frames := 1, cells := 0, slots := 0, locals := 24 } : Room).cells ({ frames := 1, cells := 0, slots := 0, locals := 24 } : Room).slots) := by
  refine MetFree.of_bodySF (plainFor_of_name pn_9) hisR ?_
  intro p e s m args below meth c s₁ Bd hml0 hP hK
  have W := fun {d : Jvm.Cond} (i : Nat) (q : tables_1[i]? = some d) => hw d (List.mem_of_getElem? q)
  obtain ⟨rfl, hZ, hh⟩ := hP
  have hx := Bd.exec
  have hby := Bd.bytes
  have hml : c.maxLocals = 4 := hml0
  have hown : s.vm.findClass "com/example/homethread/homethread/Items" = some m.cls := findClass_of_methodNamed Bd.named
  have hnm := (name_of_methodNamed Bd.named Bd.method).1
  have X0 : Stand p l e ({ frames := 1, cells := 0, slots := 0, locals := 24 } : Room) s m #[(.ref b62), (.ref r_1793), (.int (0 : Int32))] below meth c s₁ [] 0 0 := Stand.of_body Bd
  have e0 : s₁.heap = h0 := by rw [← hh, Bd.state]; rfl
  have N0 := Fr.nil n0
  have pre0 : ∀ t, Steps p.tables e below (s₁.setTop (mkF m 0 #[rv b62, rv r_1793, iv (0 : Int32), .unset] [])) t → Steps p.tables e below (s₁.setTop (entryFrame m #[(.ref b62), (.ref r_1793), (.int (0 : Int32))] 4)) t := fun t k => castTop (ef_28 m b62 r_1793 (0 : Int32)) k
  have K0 : Keep h0 h0 [b62, b109_68] := Keep.refl h0 [b62, b109_68]
  have pre2339 : ∀ t, Steps p.tables e below (s₁.setTop (mkF m 1 #[rv b62, rv r_1793, iv (0 : Int32), .unset] [(.ref b62)])) t → Steps p.tables e below (s₁.setTop (entryFrame m #[(.ref b62), (.ref r_1793), (.int (0 : Int32))] 4)) t := fun t kt => by
    refine pre0 _ ?_
    show Steps p.tables e below (s₁.setTop (mkF m 0 #[rv b62, rv r_1793, iv (0 : Int32), .unset] [])) _
    refine XS.aloadN X0.here hx rfl (hb hby d13_0) rfl rfl ?_
    exact kt
  obtain ⟨T2340, X2340, e2340, st2340⟩ := getF X0 hx hZ hown (host := "") (Or.inl (W 18 rfl)) Via.refl e0 Fi4 (g := (mkF m 1 #[rv b62, rv r_1793, iv (0 : Int32), .unset] [(.ref b62)])) rfl rfl (hb hby d13_1)
  have pre2341 : ∀ t, Steps p.tables e below (T2340.setTop (mkF m 4 #[rv b62, rv r_1793, iv (0 : Int32), .unset] [(.int (2 : Int32))])) t → Steps p.tables e below (s₁.setTop (entryFrame m #[(.ref b62), (.ref r_1793), (.int (0 : Int32))] 4)) t := fun t kt => pre2339 _ (st2340 _ kt)
  have pre2342 : ∀ t, Steps p.tables e below (T2340.setTop (mkF m 13 #[rv b62, rv r_1793, iv (0 : Int32), iv (1 : Int32)] [(.ref b62)])) t → Steps p.tables e below (s₁.setTop (entryFrame m #[(.ref b62), (.ref r_1793), (.int (0 : Int32))] 4)) t := fun t kt => by
    refine pre2341 _ ?_
    show Steps p.tables e below (T2340.setTop (mkF m 4 #[rv b62, rv r_1793, iv (0 : Int32), .unset] [(.int (2 : Int32))])) _
    refine XS.iconst X2340.here hx rfl (hb hby d13_4) ?_
    refine XS.isub X2340.here hx rfl (hb hby d13_5) rfl ?_
    show  Steps p.tables e below (T2340.setTop (mkF m 6 #[rv b62, rv r_1793, iv (0 : Int32), .unset] [(.int ((2 : Int32) - (1 : Int32)))])) _
    rw [(by decide : (((2 : Int32) - (1 : Int32)) : Int32) = (1 : Int32))]
    refine XS.istoreN X2340.here hx rfl (hb hby d13_6) rfl (l' := #[rv b62, rv r_1793, iv (0 : Int32), iv (1 : Int32)]) rfl ?_
    refine XS.iloadN X2340.here hx rfl (hb hby d13_7) rfl ?_
    show Steps p.tables e below (T2340.setTop (mkF m 8 #[rv b62, rv r_1793, iv (0 : Int32), iv (1 : Int32)] [(.int (1 : Int32))])) _
    refine XS.iloadN X2340.here hx rfl (hb hby d13_8) rfl ?_
    refine XS.icmpNo X2340.here hx rfl (hb hby d13_9) rfl (XT.ii_lt_f (by decide)) ?_
    refine XS.aloadN X2340.here hx rfl (hb hby d13_12) rfl rfl ?_
    exact kt
  obtain ⟨T2343, X2343, e2343, st2343⟩ := getF X2340 hx hZ hown (host := "") (Or.inl (W 11 rfl)) Via.refl e2340 Fi2 (g := (mkF m 13 #[rv b62, rv r_1793, iv (0 : Int32), iv (1 : Int32)] [(.ref b62)])) rfl rfl (hb hby d13_13)
  have pre2344 : ∀ t, Steps p.tables e below (T2343.setTop (mkF m 16 #[rv b62, rv r_1793, iv (0 : Int32), iv (1 : Int32)] [(.ref b109_68)])) t → Steps p.tables e below (s₁.setTop (entryFrame m #[(.ref b62), (.ref r_1793), (.int (0 : Int32))] 4)) t := fun t kt => pre2342 _ (st2343 _ kt)
  have pre2346 : ∀ t, Steps p.tables e below (T2343.setTop (mkF m 17 #[rv b62, rv r_1793, iv (0 : Int32), iv (1 : Int32)] [(.int (1 : Int32)), (.ref b109_68)])) t → Steps p.tables e below (s₁.setTop (entryFrame m #[(.ref b62), (.ref r_1793), (.int (0 : Int32))] 4)) t := fun t kt => by
    refine pre2344 _ ?_
    show Steps p.tables e below (T2343.setTop (mkF m 16 #[rv b62, rv r_1793, iv (0 : Int32), iv (1 : Int32)] [(.ref b109_68)])) _
    refine XS.iloadN X2343.here hx rfl (hb hby d13_16) rfl ?_
    exact kt
  obtain ⟨c2345, Ar2345, q2345, S2345, M2345, H2345, G2345⟩ := id Fi3
  have i2345 : ¬ ((1 : Int32) < 0 ∨ c2345.slots.size ≤ ((1 : Int32)).toNatClampNeg) := inb_of S2345 ⟨by decide, by decide⟩
  have t2345 : c2345.slots[((1 : Int32)).toNatClampNeg]? = some (.ref r_1793) := Has.at H2345 i2345 rfl
  have pre2347 : ∀ t, Steps p.tables e below (T2343.setTop (mkF m 23 #[rv b62, rv r_1793, iv (0 : Int32), iv (1 : Int32)] [(.ref b62)])) t → Steps p.tables e below (s₁.setTop (entryFrame m #[(.ref b62), (.ref r_1793), (.int (0 : Int32))] 4)) t := fun t kt => by
    refine pre2346 _ ?_
    show Steps p.tables e below (T2343.setTop (mkF m 17 #[rv b62, rv r_1793, iv (0 : Int32), iv (1 : Int32)] [(.int (1 : Int32)), (.ref b109_68)])) _
    refine X2343.aaload hx (j := (1 : Int32)) (v := (.ref r_1793)) (by rw [e2343]; exact Ar2345.1) (State.isArrayOf_alike hZ.alike Ar2345.2.1) rfl Ar2345.2.2 i2345 t2345 (g := (mkF m 17 #[rv b62, rv r_1793, iv (0 : Int32), iv (1 : Int32)] [(.int (1 : Int32)), (.ref b109_68)])) rfl rfl (hb hby d13_17) _ ?_
    refine XS.aloadN X2343.here hx rfl (hb hby d13_18) rfl rfl ?_
    refine Jvm.RoadKit.acmp (g := (mkF m 19 #[rv b62, rv r_1793, iv (0 : Int32), iv (1 : Int32)] [(.ref r_1793), (.ref r_1793)])) X2343 hx rfl rfl rfl (pc0 := 19) (pc' := 22) (same := true) rfl (hb hby d13_19) rfl (decide_eq_true rfl) (by decide) (by decide) ?_
    refine XS.aloadN X2343.here hx rfl (hb hby d13_22) rfl rfl ?_
    exact kt
  obtain ⟨T2348, X2348, e2348, st2348⟩ := getF X2343 hx hZ hown (host := "") (Or.inl (W 11 rfl)) Via.refl e2343 Fi2 (g := (mkF m 23 #[rv b62, rv r_1793, iv (0 : Int32), iv (1 : Int32)] [(.ref b62)])) rfl rfl (hb hby d13_23)
  have pre2349 : ∀ t, Steps p.tables e below (T2348.setTop (mkF m 26 #[rv b62, rv r_1793, iv (0 : Int32), iv (1 : Int32)] [(.ref b109_68)])) t → Steps p.tables e below (s₁.setTop (entryFrame m #[(.ref b62), (.ref r_1793), (.int (0 : Int32))] 4)) t := fun t kt => pre2347 _ (st2348 _ kt)
  have pre2350 : ∀ t, Steps p.tables e below (T2348.setTop (mkF m 30 #[rv b62, rv r_1793, iv (0 : Int32), iv (1 : Int32)] [(.ref b62), (.int (2 : Int32)), (.ref b109_68)])) t → Steps p.tables e below (s₁.setTop (entryFrame m #[(.ref b62), (.ref r_1793), (.int (0 : Int32))] 4)) t := fun t kt => by
    refine pre2349 _ ?_
    show Steps p.tables e below (T2348.setTop (mkF m 26 #[rv b62, rv r_1793, iv (0 : Int32), iv (1 : Int32)] [(.ref b109_68)])) _
    refine XS.iloadN X2348.here hx rfl (hb hby d13_26) rfl ?_
    refine XS.iconst X2348.here hx rfl (hb hby d13_27) ?_
    refine XS.iadd X2348.here hx rfl (hb hby d13_28) rfl ?_
    show  Steps p.tables e below (T2348.setTop (mkF m 29 #[rv b62, rv r_1793, iv (0 : Int32), iv (1 : Int32)] [(.int ((1 : Int32) + (1 : Int32))), (.ref b109_68)])) _
    rw [(by decide : (((1 : Int32) + (1 : Int32)) : Int32) = (2 : Int32))]
    refine XS.aloadN X2348.here hx rfl (hb hby d13_29) rfl rfl ?_
    exact kt
  obtain ⟨T2351, X2351, e2351, st2351⟩ := getF X2348 hx hZ hown (host := "") (Or.inl (W 11 rfl)) Via.refl e2348 Fi2 (g := (mkF m 30 #[rv b62, rv r_1793, iv (0 : Int32), iv (1 : Int32)] [(.ref b62), (.int (2 : Int32)), (.ref b109_68)])) rfl rfl (hb hby d13_30)
  have pre2352 : ∀ t, Steps p.tables e below (T2351.setTop (mkF m 33 #[rv b62, rv r_1793, iv (0 : Int32), iv (1 : Int32)] [(.ref b109_68), (.int (2 : Int32)), (.ref b109_68)])) t → Steps p.tables e below (s₁.setTop (entryFrame m #[(.ref b62), (.ref r_1793), (.int (0 : Int32))] 4)) t := fun t kt => pre2350 _ (st2351 _ kt)
  have pre2353 : ∀ t, Steps p.tables e below (T2351.setTop (mkF m 35 #[rv b62, rv r_1793, iv (0 : Int32), iv (1 : Int32)] [(.ref b62), (.int (1 : Int32)), (.ref b109_68), (.int (2 : Int32)), (.ref b109_68)])) t → Steps p.tables e below (s₁.setTop (entryFrame m #[(.ref b62), (.ref r_1793), (.int (0 : Int32))] 4)) t := fun t kt => by
    refine pre2352 _ ?_
    show Steps p.tables e below (T2351.setTop (mkF m 33 #[rv b62, rv r_1793, iv (0 : Int32), iv (1 : Int32)] [(.ref b109_68), (.int (2 : Int32)), (.ref b109_68)])) _
    refine XS.iloadN X2351.here hx rfl (hb hby d13_33) rfl ?_
    refine XS.aloadN X2351.here hx rfl (hb hby d13_34) rfl rfl ?_
    exact kt
  obtain ⟨T2354, X2354, e2354, st2354⟩ := getF X2351 hx hZ hown (host := "") (Or.inl (W 18 rfl)) Via.refl e2351 Fi4 (g := (mkF m 35 #[rv b62, rv r_1793, iv (0 : Int32), iv (1 : Int32)] [(.ref b62), (.int (1 : Int32)), (.ref b109_68), (.int (2 : Int32)), (.ref b109_68)])) rfl rfl (hb hby d13_35)
  have pre2355 : ∀ t, Steps p.tables e below (T2354.setTop (mkF m 38 #[rv b62, rv r_1793, iv (0 : Int32), iv (1 : Int32)] [(.int (2 : Int32)), (.int (1 : Int32)), (.ref b109_68), (.int (2 : Int32)), (.ref b109_68)])) t → Steps p.tables e below (s₁.setTop (entryFrame m #[(.ref b62), (.ref r_1793), (.int (0 : Int32))] 4)) t := fun t kt => pre2353 _ (st2354 _ kt)
  have pre2356 : ∀ t, Steps p.tables e below (T2354.setTop (mkF m 42 #[rv b62, rv r_1793, iv (0 : Int32), iv (1 : Int32)] [(.int (0 : Int32)), (.int (1 : Int32)), (.ref b109_68), (.int (2 : Int32)), (.ref b109_68)])) t → Steps p.tables e below (s₁.setTop (entryFrame m #[(.ref b62), (.ref r_1793), (.int (0 : Int32))] 4)) t := fun t kt => by
    refine pre2355 _ ?_
    show Steps p.tables e below (T2354.setTop (mkF m 38 #[rv b62, rv r_1793, iv (0 : Int32), iv (1 : Int32)] [(.int (2 : Int32)), (.int (1 : Int32)), (.ref b109_68), (.int (2 : Int32)), (.ref b109_68)])) _
    refine XS.iloadN X2354.here hx rfl (hb hby d13_38) rfl ?_
    refine XS.isub X2354.here hx rfl (hb hby d13_39) rfl ?_
    show  Steps p.tables e below (T2354.setTop (mkF m 40 #[rv b62, rv r_1793, iv (0 : Int32), iv (1 : Int32)] [(.int ((2 : Int32) - (1 : Int32))), (.int (1 : Int32)), (.ref b109_68), (.int (2 : Int32)), (.ref b109_68)])) _
    rw [(by decide : (((2 : Int32) - (1 : Int32)) : Int32) = (1 : Int32))]
    refine XS.iconst X2354.here hx rfl (hb hby d13_40) ?_
    refine XS.isub X2354.here hx rfl (hb hby d13_41) rfl ?_
    show  Steps p.tables e below (T2354.setTop (mkF m 42 #[rv b62, rv r_1793, iv (0 : Int32), iv (1 : Int32)] [(.int ((1 : Int32) - (1 : Int32))), (.int (1 : Int32)), (.ref b109_68), (.int (2 : Int32)), (.ref b109_68)])) _
    rw [(by decide : (((1 : Int32) - (1 : Int32)) : Int32) = (0 : Int32))]
    exact kt
  obtain ⟨T2357, h2357, L2357, X2357, e2357, N2357, Kc2357, V2357, st2357⟩ := cpA X2354 hx hZ hown (W 86 rfl) (W 64 rfl) (W 62 rfl) (W 63 rfl) e2354 Fi3 Fi3  (sp := (2 : Int32)) (dp := (1 : Int32)) (nn := (0 : Int32)) (us := []) (Or.inr ⟨rfl, rfl, trivial⟩) (by decide) (by decide) (by decide) (by decide) (by decide) rfl (Nat.le_of_ble_eq_true rfl) N0 g_b109_68 (g := (mkF m 42 #[rv b62, rv r_1793, iv (0 : Int32), iv (1 : Int32)] [(.int (0 : Int32)), (.int (1 : Int32)), (.ref b109_68), (.int (2 : Int32)), (.ref b109_68)])) rfl (by rw [hml]; rfl) (rest := []) rfl (hb hby d13_42) (by decide) (W := 0) (by show 2 * 0 + _ ≤ _; exact Nat.le_of_eq rfl) (by decide)
  have pre2358 : ∀ t, Steps p.tables e below (T2357.setTop (mkF m 45 #[rv b62, rv r_1793, iv (0 : Int32), iv (1 : Int32)] [])) t → Steps p.tables e below (s₁.setTop (entryFrame m #[(.ref b62), (.ref r_1793), (.int (0 : Int32))] 4)) t := fun t kt => pre2356 _ (st2357 _ kt)
  have O2357 := O0.keep Kc2357 (own_all1 g_b109_68)
  have K2357 : Keep h0 h2357 [b62, b109_68] := K0.trans Kc2357 (own_all1 (Or.inl (List.mem_of_getElem? (i := 1) rfl)))
  have F2359 := Fi0.keep Kc2357
  have F2360 := Fi1.keep Kc2357
  have F2361 := Fi2.keep Kc2357 (own_nm1 (fun q => q0 q.symm))
  have F2362 := Fi4.keep Kc2357 (own_nm1 (fun q => q0 q.symm))
  have F2363 : Arv Z h2357 b109_68 k109_68 (.object "java/lang/Object") (16 : Int32) [(.ref r_1793), (.ref r_1793), .null, .null, .null, .null, .null, .null, .null, .null, .null, .null, .null, .null, .null, .null] .null := V2357
  have pre2364 : ∀ t, Steps p.tables e below (T2357.setTop (mkF m 47 #[rv b62, rv r_1793, iv (0 : Int32), iv (1 : Int32)] [(.ref b62), (.ref b62)])) t → Steps p.tables e below (s₁.setTop (entryFrame m #[(.ref b62), (.ref r_1793), (.int (0 : Int32))] 4)) t := fun t kt => by
    refine pre2358 _ ?_
    show Steps p.tables e below (T2357.setTop (mkF m 45 #[rv b62, rv r_1793, iv (0 : Int32), iv (1 : Int32)] [])) _
    refine XS.aloadN X2357.here hx rfl (hb hby d13_45) rfl rfl ?_
    refine XS.dup X2357.here hx rfl (hb hby d13_46) rfl rfl ?_
    exact kt
  obtain ⟨T2365, X2365, e2365, st2365⟩ := getF X2357 hx hZ hown (host := "") (Or.inl (W 18 rfl)) Via.refl e2357 F2362 (g := (mkF m 47 #[rv b62, rv r_1793, iv (0 : Int32), iv (1 : Int32)] [(.ref b62), (.ref b62)])) rfl rfl (hb hby d13_47)
  have pre2366 : ∀ t, Steps p.tables e below (T2365.setTop (mkF m 50 #[rv b62, rv r_1793, iv (0 : Int32), iv (1 : Int32)] [(.int (2 : Int32)), (.ref b62)])) t → Steps p.tables e below (s₁.setTop (entryFrame m #[(.ref b62), (.ref r_1793), (.int (0 : Int32))] 4)) t := fun t kt => pre2364 _ (st2365 _ kt)
  have pre2367 : ∀ t, Steps p.tables e below (T2365.setTop (mkF m 52 #[rv b62, rv r_1793, iv (0 : Int32), iv (1 : Int32)] [(.int (1 : Int32)), (.ref b62)])) t → Steps p.tables e below (s₁.setTop (entryFrame m #[(.ref b62), (.ref r_1793), (.int (0 : Int32))] 4)) t := fun t kt => by
    refine pre2366 _ ?_
    show Steps p.tables e below (T2365.setTop (mkF m 50 #[rv b62, rv r_1793, iv (0 : Int32), iv (1 : Int32)] [(.int (2 : Int32)), (.ref b62)])) _
    refine XS.iconst X2365.here hx rfl (hb hby d13_50) ?_
    refine XS.isub X2365.here hx rfl (hb hby d13_51) rfl ?_
    show  Steps p.tables e below (T2365.setTop (mkF m 52 #[rv b62, rv r_1793, iv (0 : Int32), iv (1 : Int32)] [(.int ((2 : Int32) - (1 : Int32))), (.ref b62)])) _
    rw [(by decide : (((2 : Int32) - (1 : Int32)) : Int32) = (1 : Int32))]
    exact kt
  obtain ⟨T2368, h2368, X2368, e2368, W2368, st2368⟩ := putF X2365 hx hZ hown (host := "") (Or.inl (W 18 rfl)) Via.refl e2365 F2362 F2359 (Or.inl (W 19 rfl)) (W 1 rfl) (ty := .int) (by decide) rfl rfl (g := (mkF m 52 #[rv b62, rv r_1793, iv (0 : Int32), iv (1 : Int32)] [(.int (1 : Int32)), (.ref b62)])) rfl rfl (hb hby d13_52)
  have pre2369 : ∀ t, Steps p.tables e below (T2368.setTop (mkF m 55 #[rv b62, rv r_1793, iv (0 : Int32), iv (1 : Int32)] [])) t → Steps p.tables e below (s₁.setTop (entryFrame m #[(.ref b62), (.ref r_1793), (.int (0 : Int32))] 4)) t := fun t kt => pre2367 _ (st2368 _ kt)
  have N2368 := Fr.snoc X2368 N2357 g_b62
  have O2368 := O2357.wr W2368 g_b62
  have K2368 : Keep h0 h2368 [b62, b109_68] := K2357.wr W2368 (Or.inl (List.mem_of_getElem? (i := 0) rfl))
  have F2370 := F2359.wr W2368
  have F2371 := F2360.wr W2368
  have F2372 := F2361.other W2368 (Or.inr (slot_ne (Or.inl (W 12 rfl)) (Or.inl (W 19 rfl)) (by decide) (t := (.array (.object "java/lang/Object"))) (t' := .int) (by decide) (by decide)))
  have F2373 := F2363.other W2368 q0
  have F2374 : Fld Z h2368 b62 "com/example/homethread/homethread/Items" "size" "I" (.int (1 : Int32)) := F2362.same W2368
  have pre2375 : ∀ t, Steps p.tables e below (T2368.setTop (mkF m 56 #[rv b62, rv r_1793, iv (0 : Int32), iv (1 : Int32)] [(.ref b62)])) t → Steps p.tables e below (s₁.setTop (entryFrame m #[(.ref b62), (.ref r_1793), (.int (0 : Int32))] 4)) t := fun t kt => by
    refine pre2369 _ ?_
    show Steps p.tables e below (T2368.setTop (mkF m 55 #[rv b62, rv r_1793, iv (0 : Int32), iv (1 : Int32)] [])) _
    refine XS.aloadN X2368.here hx rfl (hb hby d13_55) rfl rfl ?_
    exact kt
  obtain ⟨T2376, X2376, e2376, st2376⟩ := getF X2368 hx hZ hown (host := "") (Or.inl (W 11 rfl)) Via.refl e2368 F2372 (g := (mkF m 56 #[rv b62, rv r_1793, iv (0 : Int32), iv (1 : Int32)] [(.ref b62)])) rfl rfl (hb hby d13_56)
  have pre2377 : ∀ t, Steps p.tables e below (T2376.setTop (mkF m 59 #[rv b62, rv r_1793, iv (0 : Int32), iv (1 : Int32)] [(.ref b109_68)])) t → Steps p.tables e below (s₁.setTop (entryFrame m #[(.ref b62), (.ref r_1793), (.int (0 : Int32))] 4)) t := fun t kt => pre2375 _ (st2376 _ kt)
  have pre2378 : ∀ t, Steps p.tables e below (T2376.setTop (mkF m 60 #[rv b62, rv r_1793, iv (0 : Int32), iv (1 : Int32)] [(.ref b62), (.ref b109_68)])) t → Steps p.tables e below (s₁.setTop (entryFrame m #[(.ref b62), (.ref r_1793), (.int (0 : Int32))] 4)) t := fun t kt => by
    refine pre2377 _ ?_
    show Steps p.tables e below (T2376.setTop (mkF m 59 #[rv b62, rv r_1793, iv (0 : Int32), iv (1 : Int32)] [(.ref b109_68)])) _
    refine XS.aloadN X2376.here hx rfl (hb hby d13_59) rfl rfl ?_
    exact kt
  obtain ⟨T2379, X2379, e2379, st2379⟩ := getF X2376 hx hZ hown (host := "") (Or.inl (W 18 rfl)) Via.refl e2376 F2374 (g := (mkF m 60 #[rv b62, rv r_1793, iv (0 : Int32), iv (1 : Int32)] [(.ref b62), (.ref b109_68)])) rfl rfl (hb hby d13_60)
  have pre2380 : ∀ t, Steps p.tables e below (T2379.setTop (mkF m 63 #[rv b62, rv r_1793, iv (0 : Int32), iv (1 : Int32)] [(.int (1 : Int32)), (.ref b109_68)])) t → Steps p.tables e below (s₁.setTop (entryFrame m #[(.ref b62), (.ref r_1793), (.int (0 : Int32))] 4)) t := fun t kt => pre2378 _ (st2379 _ kt)
  have pre2381 : ∀ t, Steps p.tables e below (T2379.setTop (mkF m 64 #[rv b62, rv r_1793, iv (0 : Int32), iv (1 : Int32)] [.null, (.int (1 : Int32)), (.ref b109_68)])) t → Steps p.tables e below (s₁.setTop (entryFrame m #[(.ref b62), (.ref r_1793), (.int (0 : Int32))] 4)) t := fun t kt => by
    refine pre2380 _ ?_
    show Steps p.tables e below (T2379.setTop (mkF m 63 #[rv b62, rv r_1793, iv (0 : Int32), iv (1 : Int32)] [(.int (1 : Int32)), (.ref b109_68)])) _
    refine XS.aconstNull X2379.here hx rfl (hb hby d13_63) ?_
    exact kt
  obtain ⟨c2382, Ar2382, q2382, S2382, M2382, H2382, G2382⟩ := id F2373
  have i2382 : ¬ ((1 : Int32) < 0 ∨ c2382.slots.size ≤ ((1 : Int32)).toNatClampNeg) := inb_of S2382 ⟨by decide, by decide⟩
  obtain ⟨T2383, h2383, X2383, e2383, W2383, st2383⟩ := stR X2379 hx hZ e2379 Ar2382 (j := (1 : Int32)) i2382 rfl (Or.inl rfl) (g := (mkF m 64 #[rv b62, rv r_1793, iv (0 : Int32), iv (1 : Int32)] [.null, (.int (1 : Int32)), (.ref b109_68)])) rfl rfl (hb hby d13_64)
  have pre2384 : ∀ t, Steps p.tables e below (T2383.setTop (mkF m 65 #[rv b62, rv r_1793, iv (0 : Int32), iv (1 : Int32)] [])) t → Steps p.tables e below (s₁.setTop (entryFrame m #[(.ref b62), (.ref r_1793), (.int (0 : Int32))] 4)) t := fun t kt => pre2381 _ (st2383 _ kt)
  have N2383 := Fr.snoc X2383 N2368 g_b109_68
  have O2383 := O2368.wr W2383 g_b109_68
  have K2383 : Keep h0 h2383 [b62, b109_68] := K2368.wr W2383 (Or.inl (List.mem_of_getElem? (i := 1) rfl))
  have F2385 := F2370.wr W2383
  have F2386 := F2371.wr W2383
  have F2387 := F2372.other W2383 (Or.inl (fun q => q0 q.symm))
  have F2388 := F2374.other W2383 (Or.inl (fun q => q0 q.symm))
  have F2389 : Arv Z h2383 b109_68 k109_68 (.object "java/lang/Object") (16 : Int32) [(.ref r_1793), .null, .null, .null, .null, .null, .null, .null, .null, .null, .null, .null, .null, .null, .null, .null] .null := Arv.set Ar2382 q2382 S2382 M2382 H2382 G2382 rfl W2383 1 rfl (Nat.le_of_ble_eq_true rfl)
  have pre2390 : ∀ t, Steps p.tables e below (T2383.setTop (mkF m 66 #[rv b62, rv r_1793, iv (0 : Int32), iv (1 : Int32)] [(.int (1 : Int32))])) t → Steps p.tables e below (s₁.setTop (entryFrame m #[(.ref b62), (.ref r_1793), (.int (0 : Int32))] 4)) t := fun t kt => by
    refine pre2384 _ ?_
    show Steps p.tables e below (T2383.setTop (mkF m 65 #[rv b62, rv r_1793, iv (0 : Int32), iv (1 : Int32)] [])) _
    refine XS.iconst X2383.here hx rfl (hb hby d13_65) ?_
    exact kt
  obtain ⟨fs, hr, hrun, hended, hW, hsame⟩ := X2383.leave (v := some (.int (1 : Int32))) (fun h => by rw [Bd.returns] at h; cases h)
  refine ⟨_, _, pre2390 _ (retN X2383 hx (t := .boolean) Bd.returns (by simp) (hb hby d13_66) hr), hrun, hended, _, _, rfl, ?_, ⟨_, rfl⟩, hW, hsame.mono (by decide) (by decide)⟩
  show Q_removeLast13_2 Z b62 r_1793 k109_68 b109_68 h0 n0 _ T2383.heap _
  rw [e2383]
  exact ⟨rfl, N2383, K2383, O2383, F2385, F2386, F2387, F2388, F2389⟩
def Q_add6_7 (Z : State) (b62 : Addr) (r_2405 : Addr) (k109_68 : ClassId) (b109_68 : Addr) (h0 : Heap) (n0 : Nat) (v : Option Value) (h : Heap) (L : List Loc) : Prop := v = none ∧ Fr n0 L ∧ Keep h0 h [b62, b109_68] ∧ Old Z n0 h ∧ Exa Z h b62 "com/example/homethread/homethread/Items" ∧ Exa Z h b109_68 "[Ljava/lang/Object;" ∧ Fld Z h b62 "com/example/homethread/homethread/Items" "slots" "[Ljava/lang/Object;" (.ref b109_68) ∧ Arv Z h b109_68 k109_68 (.object "java/lang/Object") (16 : Int32) [(.ref r_2405), (.ref r_2405), (.ref r_2405), (.ref r_2405), .null, .null, .null, .null, .null, .null, .null, .null, .null, .null, .null, .null] .null ∧ Fld Z h b62 "com/example/homethread/homethread/Items" "size" "I" (.int (4 : Int32))
set_option maxRecDepth 65536 in
set_option maxHeartbeats 40000000 in
theorem rm_add6_7 (l : Launch) (Z : State) (a0 : Array Value) (hw : ∀ d ∈ tables_1, d.before a0 Z = true) (ws : List Jvm.Cond) (b62 : Addr) (r_2405 : Addr) (k109_68 : ClassId) (b109_68 : Addr) (h0 : Heap) (n0 : Nat) (O0 : Old Z n0 h0) (g_b62 : n0 ≤ b62) (g_b109_68 : n0 ≤ b109_68) (Fi0 : Ovr Z k109_68 "java/lang/Object") (Fi1 : Exa Z h0 r_2405 "java/lang/Integer") (Fi2 : Exa Z h0 b62 "com/example/homethread/homethread/Items") (Fi3 : Exa Z h0 b109_68 "[Ljava/lang/Object;") (Fi4 : Fld Z h0 b62 "com/example/homethread/homethread/Items" "slots" "[Ljava/lang/Object;" (.ref b109_68)) (Fi5 : Arv Z h0 b109_68 k109_68 (.object "java/lang/Object") (16 : Int32) [(.ref r_2405), (.ref r_2405), (.ref r_2405), .null, .null, .null, .null, .null, .null, .null, .null, .null, .null, .null, .null, .null] .null) (Fi6 : Fld Z h0 b62 "com/example/homethread/homethread/Items" "size" "I" (.int (3 : Int32))) (q0 : ¬ (b109_68 = b62)) :
    MetFree l (⟨"com/example/homethread/homethread/Items", "add", "(Ljava/lang/Object;)V"⟩ : MethodName) (head1 (Jvm.Cond.code (⟨"com/example/homethread/homethread/Items", "add", "(Ljava/lang/Object;)V"⟩ : MethodName) prog_9_method_8_code 3 none :: ws) ({ frames := 0, cells := 0, slots := 0, locals := 0 } : Room)) (fun a U => a = #[(.ref b62), (.ref r_2405)] ∧ Z.Warmed39 U.vm ∧ U.heap = h0) (fun _ _ _ _ _ => True) (fun _ U o U' => ∃ v L, o = .returned v ∧ Q_add6_7 Z b62 r_2405 k109_68 b109_68 h0 n0 v U'.heap L ∧ FrameEnd U o U' L ({ frames := 0, cells := 0, slots := 0, locals := 0 } : Room).cells ({ frames := 0, cells := 0, slots := 0, locals := 0 } : Room).slots) := by
  refine MetFree.of_bodySF (plainFor_of_name pn_9) hisR ?_
  intro p e s m args below meth c s₁ Bd hml0 hP hK
  have W := fun {d : Jvm.Cond} (i : Nat) (q : tables_1[i]? = some d) => hw d (List.mem_of_getElem? q)
  obtain ⟨rfl, hZ, hh⟩ := hP
  have hx := Bd.exec
  have hby := Bd.bytes
  have hml : c.maxLocals = 3 := hml0
  have hown : s.vm.findClass "com/example/homethread/homethread/Items" = some m.cls := findClass_of_methodNamed Bd.named
  have hnm := (name_of_methodNamed Bd.named Bd.method).1
  have X0 : Stand p l e ({ frames := 0, cells := 0, slots := 0, locals := 0 } : Room) s m #[(.ref b62), (.ref r_2405)] below meth c s₁ [] 0 0 := Stand.of_body Bd
  have e0 : s₁.heap = h0 := by rw [← hh, Bd.state]; rfl
  have N0 := Fr.nil n0
  have pre0 : ∀ t, Steps p.tables e below (s₁.setTop (mkF m 0 #[rv b62, rv r_2405, .unset] [])) t → Steps p.tables e below (s₁.setTop (entryFrame m #[(.ref b62), (.ref r_2405)] 3)) t := fun t k => castTop (ef_14 m b62 r_2405) k
  have K0 : Keep h0 h0 [b62, b109_68] := Keep.refl h0 [b62, b109_68]
  have pre2504 : ∀ t, Steps p.tables e below (s₁.setTop (mkF m 1 #[rv b62, rv r_2405, .unset] [(.ref b62)])) t → Steps p.tables e below (s₁.setTop (entryFrame m #[(.ref b62), (.ref r_2405)] 3)) t := fun t kt => by
    refine pre0 _ ?_
    show Steps p.tables e below (s₁.setTop (mkF m 0 #[rv b62, rv r_2405, .unset] [])) _
    refine XS.aloadN X0.here hx rfl (hb hby d6_0) rfl rfl ?_
    exact kt
  obtain ⟨T2505, X2505, e2505, st2505⟩ := getF X0 hx hZ hown (host := "") (Or.inl (W 18 rfl)) Via.refl e0 Fi6 (g := (mkF m 1 #[rv b62, rv r_2405, .unset] [(.ref b62)])) rfl rfl (hb hby d6_1)
  have pre2506 : ∀ t, Steps p.tables e below (T2505.setTop (mkF m 4 #[rv b62, rv r_2405, .unset] [(.int (3 : Int32))])) t → Steps p.tables e below (s₁.setTop (entryFrame m #[(.ref b62), (.ref r_2405)] 3)) t := fun t kt => pre2504 _ (st2505 _ kt)
  have pre2507 : ∀ t, Steps p.tables e below (T2505.setTop (mkF m 5 #[rv b62, rv r_2405, .unset] [(.ref b62), (.int (3 : Int32))])) t → Steps p.tables e below (s₁.setTop (entryFrame m #[(.ref b62), (.ref r_2405)] 3)) t := fun t kt => by
    refine pre2506 _ ?_
    show Steps p.tables e below (T2505.setTop (mkF m 4 #[rv b62, rv r_2405, .unset] [(.int (3 : Int32))])) _
    refine XS.aloadN X2505.here hx rfl (hb hby d6_4) rfl rfl ?_
    exact kt
  obtain ⟨T2508, X2508, e2508, st2508⟩ := getF X2505 hx hZ hown (host := "") (Or.inl (W 11 rfl)) Via.refl e2505 Fi4 (g := (mkF m 5 #[rv b62, rv r_2405, .unset] [(.ref b62), (.int (3 : Int32))])) rfl rfl (hb hby d6_5)
  have pre2509 : ∀ t, Steps p.tables e below (T2508.setTop (mkF m 8 #[rv b62, rv r_2405, .unset] [(.ref b109_68), (.int (3 : Int32))])) t → Steps p.tables e below (s₁.setTop (entryFrame m #[(.ref b62), (.ref r_2405)] 3)) t := fun t kt => pre2507 _ (st2508 _ kt)
  obtain ⟨c2510, Ar2510, -, S2510, M2510, -, -⟩ := id Fi5
  have pre2511 : ∀ t, Steps p.tables e below (T2508.setTop (mkF m 51 #[rv b62, rv r_2405, .unset] [(.ref b62)])) t → Steps p.tables e below (s₁.setTop (entryFrame m #[(.ref b62), (.ref r_2405)] 3)) t := fun t kt => by
    refine pre2509 _ ?_
    show Steps p.tables e below (T2508.setTop (mkF m 8 #[rv b62, rv r_2405, .unset] [(.ref b109_68), (.int (3 : Int32))])) _
    refine X2508.arraylength hx (by rw [e2508]; exact Ar2510.1) (State.isArrayOf_alike hZ.alike Ar2510.2.1) (g := (mkF m 8 #[rv b62, rv r_2405, .unset] [(.ref b109_68), (.int (3 : Int32))])) rfl rfl (hb hby d6_8) _ ?_
    rw [len_of S2510 M2510]
    refine XS.icmpYes X2508.here hx rfl (pc0 := 9) (pc' := 50) rfl (hb hby d6_9) rfl (XT.ii_ne_t (by decide)) (by decide) (by decide) ?_
    refine XS.aloadN X2508.here hx rfl (hb hby d6_50) rfl rfl ?_
    exact kt
  obtain ⟨T2512, X2512, e2512, st2512⟩ := getF X2508 hx hZ hown (host := "") (Or.inl (W 11 rfl)) Via.refl e2508 Fi4 (g := (mkF m 51 #[rv b62, rv r_2405, .unset] [(.ref b62)])) rfl rfl (hb hby d6_51)
  have pre2513 : ∀ t, Steps p.tables e below (T2512.setTop (mkF m 54 #[rv b62, rv r_2405, .unset] [(.ref b109_68)])) t → Steps p.tables e below (s₁.setTop (entryFrame m #[(.ref b62), (.ref r_2405)] 3)) t := fun t kt => pre2511 _ (st2512 _ kt)
  have pre2514 : ∀ t, Steps p.tables e below (T2512.setTop (mkF m 55 #[rv b62, rv r_2405, .unset] [(.ref b62), (.ref b109_68)])) t → Steps p.tables e below (s₁.setTop (entryFrame m #[(.ref b62), (.ref r_2405)] 3)) t := fun t kt => by
    refine pre2513 _ ?_
    show Steps p.tables e below (T2512.setTop (mkF m 54 #[rv b62, rv r_2405, .unset] [(.ref b109_68)])) _
    refine XS.aloadN X2512.here hx rfl (hb hby d6_54) rfl rfl ?_
    exact kt
  obtain ⟨T2515, X2515, e2515, st2515⟩ := getF X2512 hx hZ hown (host := "") (Or.inl (W 18 rfl)) Via.refl e2512 Fi6 (g := (mkF m 55 #[rv b62, rv r_2405, .unset] [(.ref b62), (.ref b109_68)])) rfl rfl (hb hby d6_55)
  have pre2516 : ∀ t, Steps p.tables e below (T2515.setTop (mkF m 58 #[rv b62, rv r_2405, .unset] [(.int (3 : Int32)), (.ref b109_68)])) t → Steps p.tables e below (s₁.setTop (entryFrame m #[(.ref b62), (.ref r_2405)] 3)) t := fun t kt => pre2514 _ (st2515 _ kt)
  have pre2517 : ∀ t, Steps p.tables e below (T2515.setTop (mkF m 59 #[rv b62, rv r_2405, .unset] [(.ref r_2405), (.int (3 : Int32)), (.ref b109_68)])) t → Steps p.tables e below (s₁.setTop (entryFrame m #[(.ref b62), (.ref r_2405)] 3)) t := fun t kt => by
    refine pre2516 _ ?_
    show Steps p.tables e below (T2515.setTop (mkF m 58 #[rv b62, rv r_2405, .unset] [(.int (3 : Int32)), (.ref b109_68)])) _
    refine XS.aloadN X2515.here hx rfl (hb hby d6_58) rfl rfl ?_
    exact kt
  obtain ⟨c2518, Ar2518, q2518, S2518, M2518, H2518, G2518⟩ := id Fi5
  have i2518 : ¬ ((3 : Int32) < 0 ∨ c2518.slots.size ≤ ((3 : Int32)).toNatClampNeg) := inb_of S2518 ⟨by decide, by decide⟩
  obtain ⟨T2519, h2519, X2519, e2519, W2519, st2519⟩ := stR X2515 hx hZ e2515 Ar2518 (j := (3 : Int32)) i2518 rfl (Sto.ofV Ar2518 q2518 Fi0 (Ins.of_exa Fi1 (W 65 rfl))) (g := (mkF m 59 #[rv b62, rv r_2405, .unset] [(.ref r_2405), (.int (3 : Int32)), (.ref b109_68)])) rfl rfl (hb hby d6_59)
  have pre2520 : ∀ t, Steps p.tables e below (T2519.setTop (mkF m 60 #[rv b62, rv r_2405, .unset] [])) t → Steps p.tables e below (s₁.setTop (entryFrame m #[(.ref b62), (.ref r_2405)] 3)) t := fun t kt => pre2517 _ (st2519 _ kt)
  have N2519 := Fr.snoc X2519 N0 g_b109_68
  have O2519 := O0.wr W2519 g_b109_68
  have K2519 : Keep h0 h2519 [b62, b109_68] := K0.wr W2519 (Or.inl (List.mem_of_getElem? (i := 1) rfl))
  have F2521 := Fi1.wr W2519
  have F2522 := Fi2.wr W2519
  have F2523 := Fi3.wr W2519
  have F2524 := Fi4.other W2519 (Or.inl (fun q => q0 q.symm))
  have F2525 := Fi6.other W2519 (Or.inl (fun q => q0 q.symm))
  have F2526 : Arv Z h2519 b109_68 k109_68 (.object "java/lang/Object") (16 : Int32) [(.ref r_2405), (.ref r_2405), (.ref r_2405), (.ref r_2405), .null, .null, .null, .null, .null, .null, .null, .null, .null, .null, .null, .null] .null := Arv.set Ar2518 q2518 S2518 M2518 H2518 G2518 rfl W2519 3 rfl (Nat.le_of_ble_eq_true rfl)
  have pre2527 : ∀ t, Steps p.tables e below (T2519.setTop (mkF m 62 #[rv b62, rv r_2405, .unset] [(.ref b62), (.ref b62)])) t → Steps p.tables e below (s₁.setTop (entryFrame m #[(.ref b62), (.ref r_2405)] 3)) t := fun t kt => by
    refine pre2520 _ ?_
    show Steps p.tables e below (T2519.setTop (mkF m 60 #[rv b62, rv r_2405, .unset] [])) _
    refine XS.aloadN X2519.here hx rfl (hb hby d6_60) rfl rfl ?_
    refine XS.dup X2519.here hx rfl (hb hby d6_61) rfl rfl ?_
    exact kt
  obtain ⟨T2528, X2528, e2528, st2528⟩ := getF X2519 hx hZ hown (host := "") (Or.inl (W 18 rfl)) Via.refl e2519 F2525 (g := (mkF m 62 #[rv b62, rv r_2405, .unset] [(.ref b62), (.ref b62)])) rfl rfl (hb hby d6_62)
  have pre2529 : ∀ t, Steps p.tables e below (T2528.setTop (mkF m 65 #[rv b62, rv r_2405, .unset] [(.int (3 : Int32)), (.ref b62)])) t → Steps p.tables e below (s₁.setTop (entryFrame m #[(.ref b62), (.ref r_2405)] 3)) t := fun t kt => pre2527 _ (st2528 _ kt)
  have pre2530 : ∀ t, Steps p.tables e below (T2528.setTop (mkF m 67 #[rv b62, rv r_2405, .unset] [(.int (4 : Int32)), (.ref b62)])) t → Steps p.tables e below (s₁.setTop (entryFrame m #[(.ref b62), (.ref r_2405)] 3)) t := fun t kt => by
    refine pre2529 _ ?_
    show Steps p.tables e below (T2528.setTop (mkF m 65 #[rv b62, rv r_2405, .unset] [(.int (3 : Int32)), (.ref b62)])) _
    refine XS.iconst X2528.here hx rfl (hb hby d6_65) ?_
    refine XS.iadd X2528.here hx rfl (hb hby d6_66) rfl ?_
    show  Steps p.tables e below (T2528.setTop (mkF m 67 #[rv b62, rv r_2405, .unset] [(.int ((3 : Int32) + (1 : Int32))), (.ref b62)])) _
    rw [(by decide : (((3 : Int32) + (1 : Int32)) : Int32) = (4 : Int32))]
    exact kt
  obtain ⟨T2531, h2531, X2531, e2531, W2531, st2531⟩ := putF X2528 hx hZ hown (host := "") (Or.inl (W 18 rfl)) Via.refl e2528 F2525 F2522 (Or.inl (W 19 rfl)) (W 1 rfl) (ty := .int) (by decide) rfl rfl (g := (mkF m 67 #[rv b62, rv r_2405, .unset] [(.int (4 : Int32)), (.ref b62)])) rfl rfl (hb hby d6_67)
  have pre2532 : ∀ t, Steps p.tables e below (T2531.setTop (mkF m 70 #[rv b62, rv r_2405, .unset] [])) t → Steps p.tables e below (s₁.setTop (entryFrame m #[(.ref b62), (.ref r_2405)] 3)) t := fun t kt => pre2530 _ (st2531 _ kt)
  have N2531 := Fr.snoc X2531 N2519 g_b62
  have O2531 := O2519.wr W2531 g_b62
  have K2531 : Keep h0 h2531 [b62, b109_68] := K2519.wr W2531 (Or.inl (List.mem_of_getElem? (i := 0) rfl))
  have F2533 := F2521.wr W2531
  have F2534 := F2522.wr W2531
  have F2535 := F2523.wr W2531
  have F2536 := F2524.other W2531 (Or.inr (slot_ne (Or.inl (W 12 rfl)) (Or.inl (W 19 rfl)) (by decide) (t := (.array (.object "java/lang/Object"))) (t' := .int) (by decide) (by decide)))
  have F2537 := F2526.other W2531 q0
  have F2538 : Fld Z h2531 b62 "com/example/homethread/homethread/Items" "size" "I" (.int (4 : Int32)) := F2525.same W2531
  obtain ⟨fs, hr, hrun, hended, hW, hsame⟩ := X2531.leave (v := none) (fun _ => rfl)
  refine ⟨_, _, pre2532 _ (X2531.returnOut hx Bd.returns (hb hby d6_70) hr), hrun, hended, _, _, rfl, ?_, ⟨_, rfl⟩, hW, hsame.mono (by decide) (by decide)⟩
  show Q_add6_7 Z b62 r_2405 k109_68 b109_68 h0 n0 _ T2531.heap _
  rw [e2531]
  exact ⟨rfl, N2531, K2531, O2531, F2534, F2535, F2536, F2537, F2538⟩
def Q_isEmpty3_4 (Z : State) (b62 : Addr) (h0 : Heap) (n0 : Nat) (v : Option Value) (h : Heap) (L : List Loc) : Prop := v = some (.int (0 : Int32)) ∧ Fr n0 L ∧ h = h0
set_option maxRecDepth 65536 in
set_option maxHeartbeats 40000000 in
theorem rm_isEmpty3_4 (l : Launch) (Z : State) (a0 : Array Value) (hw : ∀ d ∈ tables_1, d.before a0 Z = true) (ws : List Jvm.Cond) (b62 : Addr) (h0 : Heap) (n0 : Nat) (O0 : Old Z n0 h0) (Fi0 : Fld Z h0 b62 "com/example/homethread/homethread/Items" "size" "I" (.int (4 : Int32))) :
    MetFree l (⟨"com/example/homethread/homethread/Items", "isEmpty", "()Z"⟩ : MethodName) (head1 (Jvm.Cond.code (⟨"com/example/homethread/homethread/Items", "isEmpty", "()Z"⟩ : MethodName) prog_9_method_6_code 1 (some .boolean) :: ws) ({ frames := 0, cells := 0, slots := 0, locals := 0 } : Room)) (fun a U => a = #[(.ref b62)] ∧ Z.Warmed39 U.vm ∧ U.heap = h0) (fun _ _ _ _ _ => True) (fun _ U o U' => ∃ v L, o = .returned v ∧ Q_isEmpty3_4 Z b62 h0 n0 v U'.heap L ∧ FrameEnd U o U' L ({ frames := 0, cells := 0, slots := 0, locals := 0 } : Room).cells ({ frames := 0, cells := 0, slots := 0, locals := 0 } : Room).slots) := by
  refine MetFree.of_bodySF (plainFor_of_name pn_9) hisR ?_
  intro p e s m args below meth c s₁ Bd hml0 hP hK
  have W := fun {d : Jvm.Cond} (i : Nat) (q : tables_1[i]? = some d) => hw d (List.mem_of_getElem? q)
  obtain ⟨rfl, hZ, hh⟩ := hP
  have hx := Bd.exec
  have hby := Bd.bytes
  have hml : c.maxLocals = 1 := hml0
  have hown : s.vm.findClass "com/example/homethread/homethread/Items" = some m.cls := findClass_of_methodNamed Bd.named
  have hnm := (name_of_methodNamed Bd.named Bd.method).1
  have X0 : Stand p l e ({ frames := 0, cells := 0, slots := 0, locals := 0 } : Room) s m #[(.ref b62)] below meth c s₁ [] 0 0 := Stand.of_body Bd
  have e0 : s₁.heap = h0 := by rw [← hh, Bd.state]; rfl
  have N0 := Fr.nil n0
  have pre0 : ∀ t, Steps p.tables e below (s₁.setTop (mkF m 0 #[rv b62] [])) t → Steps p.tables e below (s₁.setTop (entryFrame m #[(.ref b62)] 1)) t := fun t k => castTop (ef_11 m b62) k
  have K0 : Keep h0 h0 [] := Keep.refl h0 []
  have pre2551 : ∀ t, Steps p.tables e below (s₁.setTop (mkF m 1 #[rv b62] [(.ref b62)])) t → Steps p.tables e below (s₁.setTop (entryFrame m #[(.ref b62)] 1)) t := fun t kt => by
    refine pre0 _ ?_
    show Steps p.tables e below (s₁.setTop (mkF m 0 #[rv b62] [])) _
    refine XS.aloadN X0.here hx rfl (hb hby d3_0) rfl rfl ?_
    exact kt
  obtain ⟨T2552, X2552, e2552, st2552⟩ := getF X0 hx hZ hown (host := "") (Or.inl (W 18 rfl)) Via.refl e0 Fi0 (g := (mkF m 1 #[rv b62] [(.ref b62)])) rfl rfl (hb hby d3_1)
  have pre2553 : ∀ t, Steps p.tables e below (T2552.setTop (mkF m 4 #[rv b62] [(.int (4 : Int32))])) t → Steps p.tables e below (s₁.setTop (entryFrame m #[(.ref b62)] 1)) t := fun t kt => pre2551 _ (st2552 _ kt)
  have pre2554 : ∀ t, Steps p.tables e below (T2552.setTop (mkF m 12 #[rv b62] [(.int (0 : Int32))])) t → Steps p.tables e below (s₁.setTop (entryFrame m #[(.ref b62)] 1)) t := fun t kt => by
    refine pre2553 _ ?_
    show Steps p.tables e below (T2552.setTop (mkF m 4 #[rv b62] [(.int (4 : Int32))])) _
    refine XS.ifYes X2552.here hx rfl (pc0 := 4) (pc' := 11) rfl (hb hby d3_4) rfl (XT.i0_ne_t (by decide)) (by decide) (by decide) ?_
    refine XS.iconst X2552.here hx rfl (hb hby d3_11) ?_
    exact kt
  obtain ⟨fs, hr, hrun, hended, hW, hsame⟩ := X2552.leave (v := some (.int (0 : Int32))) (fun h => by rw [Bd.returns] at h; cases h)
  refine ⟨_, _, pre2554 _ (retN X2552 hx (t := .boolean) Bd.returns (by simp) (hb hby d3_12) hr), hrun, hended, _, _, rfl, ?_, ⟨_, rfl⟩, hW, hsame.mono (by decide) (by decide)⟩
  show Q_isEmpty3_4 Z b62 h0 n0 _ T2552.heap _
  rw [e2552]
  exact ⟨rfl, N0, rfl⟩
def Q_clear14_3 (Z : State) (b62 : Addr) (b109_68 : Addr) (h0 : Heap) (n0 : Nat) (v : Option Value) (h : Heap) (L : List Loc) : Prop := v = none ∧ Fr n0 L ∧ Keep h0 h [b62] ∧ Old Z n0 h ∧ Exa Z h b62 "com/example/homethread/homethread/Items" ∧ Fld Z h b62 "com/example/homethread/homethread/Items" "slots" "[Ljava/lang/Object;" (.ref b109_68) ∧ Fld Z h b62 "com/example/homethread/homethread/Items" "size" "I" (.int (0 : Int32))
set_option maxRecDepth 65536 in
set_option maxHeartbeats 40000000 in
theorem rm_clear14_3 (l : Launch) (Z : State) (a0 : Array Value) (hw : ∀ d ∈ tables_1, d.before a0 Z = true) (ws : List Jvm.Cond) (b62 : Addr) (b109_68 : Addr) (h0 : Heap) (n0 : Nat) (O0 : Old Z n0 h0) (g_b62 : n0 ≤ b62) (Fi0 : Exa Z h0 b62 "com/example/homethread/homethread/Items") (Fi1 : Fld Z h0 b62 "com/example/homethread/homethread/Items" "slots" "[Ljava/lang/Object;" (.ref b109_68)) (Fi2 : Fld Z h0 b62 "com/example/homethread/homethread/Items" "size" "I" (.int (3 : Int32))) :
    MetFree l (⟨"com/example/homethread/homethread/Items", "clear", "()V"⟩ : MethodName) (head1 (Jvm.Cond.code (⟨"com/example/homethread/homethread/Items", "clear", "()V"⟩ : MethodName) prog_9_method_10_code 1 none :: ws) ({ frames := 0, cells := 0, slots := 0, locals := 0 } : Room)) (fun a U => a = #[(.ref b62)] ∧ Z.Warmed39 U.vm ∧ U.heap = h0) (fun _ _ _ _ _ => True) (fun _ U o U' => ∃ v L, o = .returned v ∧ Q_clear14_3 Z b62 b109_68 h0 n0 v U'.heap L ∧ FrameEnd U o U' L ({ frames := 0, cells := 0, slots := 0, locals := 0 } : Room).cells ({ frames := 0, cells := 0, slots := 0, locals := 0 } : Room).slots) := by
  refine MetFree.of_bodySF (plainFor_of_name pn_9) hisR ?_
  intro p e s m args below meth c s₁ Bd hml0 hP hK
  have W := fun {d : Jvm.Cond} (i : Nat) (q : tables_1[i]? = some d) => hw d (List.mem_of_getElem? q)
  obtain ⟨rfl, hZ, hh⟩ := hP
  have hx := Bd.exec
  have hby := Bd.bytes
  have hml : c.maxLocals = 1 := hml0
  have hown : s.vm.findClass "com/example/homethread/homethread/Items" = some m.cls := findClass_of_methodNamed Bd.named
  have hnm := (name_of_methodNamed Bd.named Bd.method).1
  have X0 : Stand p l e ({ frames := 0, cells := 0, slots := 0, locals := 0 } : Room) s m #[(.ref b62)] below meth c s₁ [] 0 0 := Stand.of_body Bd
  have e0 : s₁.heap = h0 := by rw [← hh, Bd.state]; rfl
  have N0 := Fr.nil n0
  have pre0 : ∀ t, Steps p.tables e below (s₁.setTop (mkF m 0 #[rv b62] [])) t → Steps p.tables e below (s₁.setTop (entryFrame m #[(.ref b62)] 1)) t := fun t k => castTop (ef_16 m b62) k
  have K0 : Keep h0 h0 [b62] := Keep.refl h0 [b62]
  have pre2580 : ∀ t, Steps p.tables e below (s₁.setTop (mkF m 2 #[rv b62] [(.int (0 : Int32)), (.ref b62)])) t → Steps p.tables e below (s₁.setTop (entryFrame m #[(.ref b62)] 1)) t := fun t kt => by
    refine pre0 _ ?_
    show Steps p.tables e below (s₁.setTop (mkF m 0 #[rv b62] [])) _
    refine XS.aloadN X0.here hx rfl (hb hby d14_0) rfl rfl ?_
    refine XS.iconst X0.here hx rfl (hb hby d14_1) ?_
    exact kt
  obtain ⟨T2581, h2581, X2581, e2581, W2581, st2581⟩ := putF X0 hx hZ hown (host := "") (Or.inl (W 18 rfl)) Via.refl e0 Fi2 Fi0 (Or.inl (W 19 rfl)) (W 1 rfl) (ty := .int) (by decide) rfl rfl (g := (mkF m 2 #[rv b62] [(.int (0 : Int32)), (.ref b62)])) rfl rfl (hb hby d14_2)
  have pre2582 : ∀ t, Steps p.tables e below (T2581.setTop (mkF m 5 #[rv b62] [])) t → Steps p.tables e below (s₁.setTop (entryFrame m #[(.ref b62)] 1)) t := fun t kt => pre2580 _ (st2581 _ kt)
  have N2581 := Fr.snoc X2581 N0 g_b62
  have O2581 := O0.wr W2581 g_b62
  have K2581 : Keep h0 h2581 [b62] := K0.wr W2581 (Or.inl (List.mem_of_getElem? (i := 0) rfl))
  have F2583 := Fi0.wr W2581
  have F2584 := Fi1.other W2581 (Or.inr (slot_ne (Or.inl (W 12 rfl)) (Or.inl (W 19 rfl)) (by decide) (t := (.array (.object "java/lang/Object"))) (t' := .int) (by decide) (by decide)))
  have F2585 : Fld Z h2581 b62 "com/example/homethread/homethread/Items" "size" "I" (.int (0 : Int32)) := Fi2.same W2581
  obtain ⟨fs, hr, hrun, hended, hW, hsame⟩ := X2581.leave (v := none) (fun _ => rfl)
  refine ⟨_, _, pre2582 _ (X2581.returnOut hx Bd.returns (hb hby d14_5) hr), hrun, hended, _, _, rfl, ?_, ⟨_, rfl⟩, hW, hsame.mono (by decide) (by decide)⟩
  show Q_clear14_3 Z b62 b109_68 h0 n0 _ T2581.heap _
  rw [e2581]
  exact ⟨rfl, N2581, K2581, O2581, F2583, F2584, F2585⟩
def Q_add6_8 (Z : State) (b62 : Addr) (r_2405 : Addr) (k109_68 : ClassId) (b109_68 : Addr) (h0 : Heap) (n0 : Nat) (v : Option Value) (h : Heap) (L : List Loc) : Prop := v = none ∧ Fr n0 L ∧ Keep h0 h [b109_68, b62] ∧ Old Z n0 h ∧ Exa Z h b109_68 "[Ljava/lang/Object;" ∧ Exa Z h b62 "com/example/homethread/homethread/Items" ∧ Fld Z h b62 "com/example/homethread/homethread/Items" "slots" "[Ljava/lang/Object;" (.ref b109_68) ∧ Arv Z h b109_68 k109_68 (.object "java/lang/Object") (16 : Int32) [(.ref r_2405), (.ref r_2405), (.ref r_2405), .null, .null, .null, .null, .null, .null, .null, .null, .null, .null, .null, .null, .null] .null ∧ Fld Z h b62 "com/example/homethread/homethread/Items" "size" "I" (.int (1 : Int32))
set_option maxRecDepth 65536 in
set_option maxHeartbeats 40000000 in
theorem rm_add6_8 (l : Launch) (Z : State) (a0 : Array Value) (hw : ∀ d ∈ tables_1, d.before a0 Z = true) (ws : List Jvm.Cond) (b62 : Addr) (r_2405 : Addr) (k109_68 : ClassId) (b109_68 : Addr) (h0 : Heap) (n0 : Nat) (O0 : Old Z n0 h0) (g_b109_68 : n0 ≤ b109_68) (g_b62 : n0 ≤ b62) (Fi0 : Ovr Z k109_68 "java/lang/Object") (Fi1 : Exa Z h0 r_2405 "java/lang/Integer") (Fi2 : Exa Z h0 b109_68 "[Ljava/lang/Object;") (Fi3 : Arv Z h0 b109_68 k109_68 (.object "java/lang/Object") (16 : Int32) [(.ref r_2405), (.ref r_2405), (.ref r_2405), .null, .null, .null, .null, .null, .null, .null, .null, .null, .null, .null, .null, .null] .null) (Fi4 : Exa Z h0 b62 "com/example/homethread/homethread/Items") (Fi5 : Fld Z h0 b62 "com/example/homethread/homethread/Items" "slots" "[Ljava/lang/Object;" (.ref b109_68)) (Fi6 : Fld Z h0 b62 "com/example/homethread/homethread/Items" "size" "I" (.int (0 : Int32))) (q0 : ¬ (b109_68 = b62)) :
    MetFree l (⟨"com/example/homethread/homethread/Items", "add", "(Ljava/lang/Object;)V"⟩ : MethodName) (head1 (Jvm.Cond.code (⟨"com/example/homethread/homethread/Items", "add", "(Ljava/lang/Object;)V"⟩ : MethodName) prog_9_method_8_code 3 none :: ws) ({ frames := 0, cells := 0, slots := 0, locals := 0 } : Room)) (fun a U => a = #[(.ref b62), (.ref r_2405)] ∧ Z.Warmed39 U.vm ∧ U.heap = h0) (fun _ _ _ _ _ => True) (fun _ U o U' => ∃ v L, o = .returned v ∧ Q_add6_8 Z b62 r_2405 k109_68 b109_68 h0 n0 v U'.heap L ∧ FrameEnd U o U' L ({ frames := 0, cells := 0, slots := 0, locals := 0 } : Room).cells ({ frames := 0, cells := 0, slots := 0, locals := 0 } : Room).slots) := by
  refine MetFree.of_bodySF (plainFor_of_name pn_9) hisR ?_
  intro p e s m args below meth c s₁ Bd hml0 hP hK
  have W := fun {d : Jvm.Cond} (i : Nat) (q : tables_1[i]? = some d) => hw d (List.mem_of_getElem? q)
  obtain ⟨rfl, hZ, hh⟩ := hP
  have hx := Bd.exec
  have hby := Bd.bytes
  have hml : c.maxLocals = 3 := hml0
  have hown : s.vm.findClass "com/example/homethread/homethread/Items" = some m.cls := findClass_of_methodNamed Bd.named
  have hnm := (name_of_methodNamed Bd.named Bd.method).1
  have X0 : Stand p l e ({ frames := 0, cells := 0, slots := 0, locals := 0 } : Room) s m #[(.ref b62), (.ref r_2405)] below meth c s₁ [] 0 0 := Stand.of_body Bd
  have e0 : s₁.heap = h0 := by rw [← hh, Bd.state]; rfl
  have N0 := Fr.nil n0
  have pre0 : ∀ t, Steps p.tables e below (s₁.setTop (mkF m 0 #[rv b62, rv r_2405, .unset] [])) t → Steps p.tables e below (s₁.setTop (entryFrame m #[(.ref b62), (.ref r_2405)] 3)) t := fun t k => castTop (ef_14 m b62 r_2405) k
  have K0 : Keep h0 h0 [b109_68, b62] := Keep.refl h0 [b109_68, b62]
  have pre2665 : ∀ t, Steps p.tables e below (s₁.setTop (mkF m 1 #[rv b62, rv r_2405, .unset] [(.ref b62)])) t → Steps p.tables e below (s₁.setTop (entryFrame m #[(.ref b62), (.ref r_2405)] 3)) t := fun t kt => by
    refine pre0 _ ?_
    show Steps p.tables e below (s₁.setTop (mkF m 0 #[rv b62, rv r_2405, .unset] [])) _
    refine XS.aloadN X0.here hx rfl (hb hby d6_0) rfl rfl ?_
    exact kt
  obtain ⟨T2666, X2666, e2666, st2666⟩ := getF X0 hx hZ hown (host := "") (Or.inl (W 18 rfl)) Via.refl e0 Fi6 (g := (mkF m 1 #[rv b62, rv r_2405, .unset] [(.ref b62)])) rfl rfl (hb hby d6_1)
  have pre2667 : ∀ t, Steps p.tables e below (T2666.setTop (mkF m 4 #[rv b62, rv r_2405, .unset] [(.int (0 : Int32))])) t → Steps p.tables e below (s₁.setTop (entryFrame m #[(.ref b62), (.ref r_2405)] 3)) t := fun t kt => pre2665 _ (st2666 _ kt)
  have pre2668 : ∀ t, Steps p.tables e below (T2666.setTop (mkF m 5 #[rv b62, rv r_2405, .unset] [(.ref b62), (.int (0 : Int32))])) t → Steps p.tables e below (s₁.setTop (entryFrame m #[(.ref b62), (.ref r_2405)] 3)) t := fun t kt => by
    refine pre2667 _ ?_
    show Steps p.tables e below (T2666.setTop (mkF m 4 #[rv b62, rv r_2405, .unset] [(.int (0 : Int32))])) _
    refine XS.aloadN X2666.here hx rfl (hb hby d6_4) rfl rfl ?_
    exact kt
  obtain ⟨T2669, X2669, e2669, st2669⟩ := getF X2666 hx hZ hown (host := "") (Or.inl (W 11 rfl)) Via.refl e2666 Fi5 (g := (mkF m 5 #[rv b62, rv r_2405, .unset] [(.ref b62), (.int (0 : Int32))])) rfl rfl (hb hby d6_5)
  have pre2670 : ∀ t, Steps p.tables e below (T2669.setTop (mkF m 8 #[rv b62, rv r_2405, .unset] [(.ref b109_68), (.int (0 : Int32))])) t → Steps p.tables e below (s₁.setTop (entryFrame m #[(.ref b62), (.ref r_2405)] 3)) t := fun t kt => pre2668 _ (st2669 _ kt)
  obtain ⟨c2671, Ar2671, -, S2671, M2671, -, -⟩ := id Fi3
  have pre2672 : ∀ t, Steps p.tables e below (T2669.setTop (mkF m 51 #[rv b62, rv r_2405, .unset] [(.ref b62)])) t → Steps p.tables e below (s₁.setTop (entryFrame m #[(.ref b62), (.ref r_2405)] 3)) t := fun t kt => by
    refine pre2670 _ ?_
    show Steps p.tables e below (T2669.setTop (mkF m 8 #[rv b62, rv r_2405, .unset] [(.ref b109_68), (.int (0 : Int32))])) _
    refine X2669.arraylength hx (by rw [e2669]; exact Ar2671.1) (State.isArrayOf_alike hZ.alike Ar2671.2.1) (g := (mkF m 8 #[rv b62, rv r_2405, .unset] [(.ref b109_68), (.int (0 : Int32))])) rfl rfl (hb hby d6_8) _ ?_
    rw [len_of S2671 M2671]
    refine XS.icmpYes X2669.here hx rfl (pc0 := 9) (pc' := 50) rfl (hb hby d6_9) rfl (XT.ii_ne_t (by decide)) (by decide) (by decide) ?_
    refine XS.aloadN X2669.here hx rfl (hb hby d6_50) rfl rfl ?_
    exact kt
  obtain ⟨T2673, X2673, e2673, st2673⟩ := getF X2669 hx hZ hown (host := "") (Or.inl (W 11 rfl)) Via.refl e2669 Fi5 (g := (mkF m 51 #[rv b62, rv r_2405, .unset] [(.ref b62)])) rfl rfl (hb hby d6_51)
  have pre2674 : ∀ t, Steps p.tables e below (T2673.setTop (mkF m 54 #[rv b62, rv r_2405, .unset] [(.ref b109_68)])) t → Steps p.tables e below (s₁.setTop (entryFrame m #[(.ref b62), (.ref r_2405)] 3)) t := fun t kt => pre2672 _ (st2673 _ kt)
  have pre2675 : ∀ t, Steps p.tables e below (T2673.setTop (mkF m 55 #[rv b62, rv r_2405, .unset] [(.ref b62), (.ref b109_68)])) t → Steps p.tables e below (s₁.setTop (entryFrame m #[(.ref b62), (.ref r_2405)] 3)) t := fun t kt => by
    refine pre2674 _ ?_
    show Steps p.tables e below (T2673.setTop (mkF m 54 #[rv b62, rv r_2405, .unset] [(.ref b109_68)])) _
    refine XS.aloadN X2673.here hx rfl (hb hby d6_54) rfl rfl ?_
    exact kt
  obtain ⟨T2676, X2676, e2676, st2676⟩ := getF X2673 hx hZ hown (host := "") (Or.inl (W 18 rfl)) Via.refl e2673 Fi6 (g := (mkF m 55 #[rv b62, rv r_2405, .unset] [(.ref b62), (.ref b109_68)])) rfl rfl (hb hby d6_55)
  have pre2677 : ∀ t, Steps p.tables e below (T2676.setTop (mkF m 58 #[rv b62, rv r_2405, .unset] [(.int (0 : Int32)), (.ref b109_68)])) t → Steps p.tables e below (s₁.setTop (entryFrame m #[(.ref b62), (.ref r_2405)] 3)) t := fun t kt => pre2675 _ (st2676 _ kt)
  have pre2678 : ∀ t, Steps p.tables e below (T2676.setTop (mkF m 59 #[rv b62, rv r_2405, .unset] [(.ref r_2405), (.int (0 : Int32)), (.ref b109_68)])) t → Steps p.tables e below (s₁.setTop (entryFrame m #[(.ref b62), (.ref r_2405)] 3)) t := fun t kt => by
    refine pre2677 _ ?_
    show Steps p.tables e below (T2676.setTop (mkF m 58 #[rv b62, rv r_2405, .unset] [(.int (0 : Int32)), (.ref b109_68)])) _
    refine XS.aloadN X2676.here hx rfl (hb hby d6_58) rfl rfl ?_
    exact kt
  obtain ⟨c2679, Ar2679, q2679, S2679, M2679, H2679, G2679⟩ := id Fi3
  have i2679 : ¬ ((0 : Int32) < 0 ∨ c2679.slots.size ≤ ((0 : Int32)).toNatClampNeg) := inb_of S2679 ⟨by decide, by decide⟩
  obtain ⟨T2680, h2680, X2680, e2680, W2680, st2680⟩ := stR X2676 hx hZ e2676 Ar2679 (j := (0 : Int32)) i2679 rfl (Sto.ofV Ar2679 q2679 Fi0 (Ins.of_exa Fi1 (W 65 rfl))) (g := (mkF m 59 #[rv b62, rv r_2405, .unset] [(.ref r_2405), (.int (0 : Int32)), (.ref b109_68)])) rfl rfl (hb hby d6_59)
  have pre2681 : ∀ t, Steps p.tables e below (T2680.setTop (mkF m 60 #[rv b62, rv r_2405, .unset] [])) t → Steps p.tables e below (s₁.setTop (entryFrame m #[(.ref b62), (.ref r_2405)] 3)) t := fun t kt => pre2678 _ (st2680 _ kt)
  have N2680 := Fr.snoc X2680 N0 g_b109_68
  have O2680 := O0.wr W2680 g_b109_68
  have K2680 : Keep h0 h2680 [b109_68, b62] := K0.wr W2680 (Or.inl (List.mem_of_getElem? (i := 0) rfl))
  have F2682 := Fi1.wr W2680
  have F2683 := Fi2.wr W2680
  have F2684 := Fi4.wr W2680
  have F2685 := Fi5.other W2680 (Or.inl (fun q => q0 q.symm))
  have F2686 := Fi6.other W2680 (Or.inl (fun q => q0 q.symm))
  have F2687 : Arv Z h2680 b109_68 k109_68 (.object "java/lang/Object") (16 : Int32) [(.ref r_2405), (.ref r_2405), (.ref r_2405), .null, .null, .null, .null, .null, .null, .null, .null, .null, .null, .null, .null, .null] .null := Arv.set Ar2679 q2679 S2679 M2679 H2679 G2679 rfl W2680 0 rfl (Nat.le_of_ble_eq_true rfl)
  have pre2688 : ∀ t, Steps p.tables e below (T2680.setTop (mkF m 62 #[rv b62, rv r_2405, .unset] [(.ref b62), (.ref b62)])) t → Steps p.tables e below (s₁.setTop (entryFrame m #[(.ref b62), (.ref r_2405)] 3)) t := fun t kt => by
    refine pre2681 _ ?_
    show Steps p.tables e below (T2680.setTop (mkF m 60 #[rv b62, rv r_2405, .unset] [])) _
    refine XS.aloadN X2680.here hx rfl (hb hby d6_60) rfl rfl ?_
    refine XS.dup X2680.here hx rfl (hb hby d6_61) rfl rfl ?_
    exact kt
  obtain ⟨T2689, X2689, e2689, st2689⟩ := getF X2680 hx hZ hown (host := "") (Or.inl (W 18 rfl)) Via.refl e2680 F2686 (g := (mkF m 62 #[rv b62, rv r_2405, .unset] [(.ref b62), (.ref b62)])) rfl rfl (hb hby d6_62)
  have pre2690 : ∀ t, Steps p.tables e below (T2689.setTop (mkF m 65 #[rv b62, rv r_2405, .unset] [(.int (0 : Int32)), (.ref b62)])) t → Steps p.tables e below (s₁.setTop (entryFrame m #[(.ref b62), (.ref r_2405)] 3)) t := fun t kt => pre2688 _ (st2689 _ kt)
  have pre2691 : ∀ t, Steps p.tables e below (T2689.setTop (mkF m 67 #[rv b62, rv r_2405, .unset] [(.int (1 : Int32)), (.ref b62)])) t → Steps p.tables e below (s₁.setTop (entryFrame m #[(.ref b62), (.ref r_2405)] 3)) t := fun t kt => by
    refine pre2690 _ ?_
    show Steps p.tables e below (T2689.setTop (mkF m 65 #[rv b62, rv r_2405, .unset] [(.int (0 : Int32)), (.ref b62)])) _
    refine XS.iconst X2689.here hx rfl (hb hby d6_65) ?_
    refine XS.iadd X2689.here hx rfl (hb hby d6_66) rfl ?_
    show  Steps p.tables e below (T2689.setTop (mkF m 67 #[rv b62, rv r_2405, .unset] [(.int ((0 : Int32) + (1 : Int32))), (.ref b62)])) _
    rw [(by decide : (((0 : Int32) + (1 : Int32)) : Int32) = (1 : Int32))]
    exact kt
  obtain ⟨T2692, h2692, X2692, e2692, W2692, st2692⟩ := putF X2689 hx hZ hown (host := "") (Or.inl (W 18 rfl)) Via.refl e2689 F2686 F2684 (Or.inl (W 19 rfl)) (W 1 rfl) (ty := .int) (by decide) rfl rfl (g := (mkF m 67 #[rv b62, rv r_2405, .unset] [(.int (1 : Int32)), (.ref b62)])) rfl rfl (hb hby d6_67)
  have pre2693 : ∀ t, Steps p.tables e below (T2692.setTop (mkF m 70 #[rv b62, rv r_2405, .unset] [])) t → Steps p.tables e below (s₁.setTop (entryFrame m #[(.ref b62), (.ref r_2405)] 3)) t := fun t kt => pre2691 _ (st2692 _ kt)
  have N2692 := Fr.snoc X2692 N2680 g_b62
  have O2692 := O2680.wr W2692 g_b62
  have K2692 : Keep h0 h2692 [b109_68, b62] := K2680.wr W2692 (Or.inl (List.mem_of_getElem? (i := 1) rfl))
  have F2694 := F2682.wr W2692
  have F2695 := F2683.wr W2692
  have F2696 := F2684.wr W2692
  have F2697 := F2685.other W2692 (Or.inr (slot_ne (Or.inl (W 12 rfl)) (Or.inl (W 19 rfl)) (by decide) (t := (.array (.object "java/lang/Object"))) (t' := .int) (by decide) (by decide)))
  have F2698 := F2687.other W2692 q0
  have F2699 : Fld Z h2692 b62 "com/example/homethread/homethread/Items" "size" "I" (.int (1 : Int32)) := F2686.same W2692
  obtain ⟨fs, hr, hrun, hended, hW, hsame⟩ := X2692.leave (v := none) (fun _ => rfl)
  refine ⟨_, _, pre2693 _ (X2692.returnOut hx Bd.returns (hb hby d6_70) hr), hrun, hended, _, _, rfl, ?_, ⟨_, rfl⟩, hW, hsame.mono (by decide) (by decide)⟩
  show Q_add6_8 Z b62 r_2405 k109_68 b109_68 h0 n0 _ T2692.heap _
  rw [e2692]
  exact ⟨rfl, N2692, K2692, O2692, F2695, F2696, F2697, F2698, F2699⟩
def Q_clearAndTrim5_10 (Z : State) (b62 : Addr) (p3 : Int32) (a_NO_SLOTS : Addr) (k109_68 : ClassId) (r_2405 : Addr) (b109_68 : Addr) (h0 : Heap) (n0 : Nat) (v : Option Value) (h : Heap) (L : List Loc) : Prop := v = none ∧ Fr n0 L ∧ Keep h0 h [b62] ∧ Old Z n0 h ∧ Exa Z h b62 "com/example/homethread/homethread/Items" ∧ Fld Z h b62 "com/example/homethread/homethread/Items" "slots" "[Ljava/lang/Object;" (.ref a_NO_SLOTS) ∧ Fld Z h b62 "com/example/homethread/homethread/Items" "size" "I" (.int (0 : Int32))
set_option maxRecDepth 65536 in
set_option maxHeartbeats 40000000 in
theorem rm_clearAndTrim5_10 (l : Launch) (Z : State) (a0 : Array Value) (hw : ∀ d ∈ tables_1, d.before a0 Z = true) (ws : List Jvm.Cond) (b62 : Addr) (p3 : Int32) (a_NO_SLOTS : Addr) (k109_68 : ClassId) (r_2405 : Addr) (b109_68 : Addr) (h0 : Heap) (n0 : Nat) (O0 : Old Z n0 h0) (G0 : Sta Z Z.heap "com/example/homethread/homethread/Items" "NO_SLOTS" "[Ljava/lang/Object;" (.ref a_NO_SLOTS)) (g_b62 : n0 ≤ b62) (Fi0 : Exa Z h0 b62 "com/example/homethread/homethread/Items") (Fi1 : Fld Z h0 b62 "com/example/homethread/homethread/Items" "slots" "[Ljava/lang/Object;" (.ref b109_68)) (Fi2 : Arv Z h0 b109_68 k109_68 (.object "java/lang/Object") (16 : Int32) [(.ref r_2405), (.ref r_2405), (.ref r_2405), .null, .null, .null, .null, .null, .null, .null, .null, .null, .null, .null, .null, .null] .null) (Fi3 : Fld Z h0 b62 "com/example/homethread/homethread/Items" "size" "I" (.int (3 : Int32))) (q0 : ¬ (b109_68 = b62)) (q1 : p3 < (16 : Int32)) :
    MetFree l (⟨"com/example/homethread/homethread/Items", "clearAndTrim", "(I)V"⟩ : MethodName) (head1 (Jvm.Cond.code (⟨"com/example/homethread/homethread/Items", "clearAndTrim", "(I)V"⟩ : MethodName) prog_9_method_11_code 2 none :: ws) ({ frames := 0, cells := 0, slots := 0, locals := 0 } : Room)) (fun a U => a = #[(.ref b62), (.int p3)] ∧ Z.Warmed39 U.vm ∧ U.heap = h0) (fun _ _ _ _ _ => True) (fun _ U o U' => ∃ v L, o = .returned v ∧ Q_clearAndTrim5_10 Z b62 p3 a_NO_SLOTS k109_68 r_2405 b109_68 h0 n0 v U'.heap L ∧ FrameEnd U o U' L ({ frames := 0, cells := 0, slots := 0, locals := 0 } : Room).cells ({ frames := 0, cells := 0, slots := 0, locals := 0 } : Room).slots) := by
  refine MetFree.of_bodySF (plainFor_of_name pn_9) hisR ?_
  intro p e s m args below meth c s₁ Bd hml0 hP hK
  have W := fun {d : Jvm.Cond} (i : Nat) (q : tables_1[i]? = some d) => hw d (List.mem_of_getElem? q)
  obtain ⟨rfl, hZ, hh⟩ := hP
  have hx := Bd.exec
  have hby := Bd.bytes
  have hml : c.maxLocals = 2 := hml0
  have hown : s.vm.findClass "com/example/homethread/homethread/Items" = some m.cls := findClass_of_methodNamed Bd.named
  have hnm := (name_of_methodNamed Bd.named Bd.method).1
  have X0 : Stand p l e ({ frames := 0, cells := 0, slots := 0, locals := 0 } : Room) s m #[(.ref b62), (.int p3)] below meth c s₁ [] 0 0 := Stand.of_body Bd
  have e0 : s₁.heap = h0 := by rw [← hh, Bd.state]; rfl
  have N0 := Fr.nil n0
  have pre0 : ∀ t, Steps p.tables e below (s₁.setTop (mkF m 0 #[rv b62, iv p3] [])) t → Steps p.tables e below (s₁.setTop (entryFrame m #[(.ref b62), (.int p3)] 2)) t := fun t k => castTop (ef_17 m b62 p3) k
  have K0 : Keep h0 h0 [b62] := Keep.refl h0 [b62]
  have pre2758 : ∀ t, Steps p.tables e below (s₁.setTop (mkF m 1 #[rv b62, iv p3] [(.ref b62)])) t → Steps p.tables e below (s₁.setTop (entryFrame m #[(.ref b62), (.int p3)] 2)) t := fun t kt => by
    refine pre0 _ ?_
    show Steps p.tables e below (s₁.setTop (mkF m 0 #[rv b62, iv p3] [])) _
    refine XS.aloadN X0.here hx rfl (hb hby d5_0) rfl rfl ?_
    exact kt
  obtain ⟨T2759, X2759, e2759, st2759⟩ := getF X0 hx hZ hown (host := "") (Or.inl (W 11 rfl)) Via.refl e0 Fi1 (g := (mkF m 1 #[rv b62, iv p3] [(.ref b62)])) rfl rfl (hb hby d5_1)
  have pre2760 : ∀ t, Steps p.tables e below (T2759.setTop (mkF m 4 #[rv b62, iv p3] [(.ref b109_68)])) t → Steps p.tables e below (s₁.setTop (entryFrame m #[(.ref b62), (.int p3)] 2)) t := fun t kt => pre2758 _ (st2759 _ kt)
  obtain ⟨c2761, Ar2761, -, S2761, M2761, -, -⟩ := id Fi2
  have pre2762 : ∀ t, Steps p.tables e below (T2759.setTop (mkF m 10 #[rv b62, iv p3] [(.ref b62)])) t → Steps p.tables e below (s₁.setTop (entryFrame m #[(.ref b62), (.int p3)] 2)) t := fun t kt => by
    refine pre2760 _ ?_
    show Steps p.tables e below (T2759.setTop (mkF m 4 #[rv b62, iv p3] [(.ref b109_68)])) _
    refine X2759.arraylength hx (by rw [e2759]; exact Ar2761.1) (State.isArrayOf_alike hZ.alike Ar2761.2.1) (g := (mkF m 4 #[rv b62, iv p3] [(.ref b109_68)])) rfl rfl (hb hby d5_4) _ ?_
    rw [len_of S2761 M2761]
    refine XS.iloadN X2759.here hx rfl (hb hby d5_5) rfl ?_
    refine XS.icmpNo X2759.here hx rfl (hb hby d5_6) rfl (XT.ii_le_f q1) ?_
    refine XS.aloadN X2759.here hx rfl (hb hby d5_9) rfl rfl ?_
    exact kt
  obtain ⟨T2763, X2763, e2763, st2763⟩ := getS2 X2759 hx hZ hown (host := "") (Or.inl (W 32 rfl)) Via.refl e2759 (G0.ext O0.2) (g := (mkF m 10 #[rv b62, iv p3] [(.ref b62)])) rfl (hb hby d5_10)
  have pre2764 : ∀ t, Steps p.tables e below (T2763.setTop (mkF m 13 #[rv b62, iv p3] [(.ref a_NO_SLOTS), (.ref b62)])) t → Steps p.tables e below (s₁.setTop (entryFrame m #[(.ref b62), (.int p3)] 2)) t := fun t kt => pre2762 _ (st2763 _ kt)
  obtain ⟨T2765, h2765, X2765, e2765, W2765, st2765⟩ := putF X2763 hx hZ hown (host := "") (Or.inl (W 11 rfl)) Via.refl e2763 Fi1 Fi0 (Or.inl (W 12 rfl)) (W 1 rfl) (ty := (.array (.object "java/lang/Object"))) (by decide) rfl rfl (g := (mkF m 13 #[rv b62, iv p3] [(.ref a_NO_SLOTS), (.ref b62)])) rfl rfl (hb hby d5_13)
  have pre2766 : ∀ t, Steps p.tables e below (T2765.setTop (mkF m 16 #[rv b62, iv p3] [])) t → Steps p.tables e below (s₁.setTop (entryFrame m #[(.ref b62), (.int p3)] 2)) t := fun t kt => pre2764 _ (st2765 _ kt)
  have N2765 := Fr.snoc X2765 N0 g_b62
  have O2765 := O0.wr W2765 g_b62
  have K2765 : Keep h0 h2765 [b62] := K0.wr W2765 (Or.inl (List.mem_of_getElem? (i := 0) rfl))
  have F2767 := Fi0.wr W2765
  have F2768 := Fi2.other W2765 q0
  have F2769 := Fi3.other W2765 (Or.inr (slot_ne (Or.inl (W 19 rfl)) (Or.inl (W 12 rfl)) (by decide) (t := .int) (t' := (.array (.object "java/lang/Object"))) (by decide) (by decide)))
  have F2770 : Fld Z h2765 b62 "com/example/homethread/homethread/Items" "slots" "[Ljava/lang/Object;" (.ref a_NO_SLOTS) := Fi1.same W2765
  have pre2771 : ∀ t, Steps p.tables e below (T2765.setTop (mkF m 18 #[rv b62, iv p3] [(.int (0 : Int32)), (.ref b62)])) t → Steps p.tables e below (s₁.setTop (entryFrame m #[(.ref b62), (.int p3)] 2)) t := fun t kt => by
    refine pre2766 _ ?_
    show Steps p.tables e below (T2765.setTop (mkF m 16 #[rv b62, iv p3] [])) _
    refine XS.aloadN X2765.here hx rfl (hb hby d5_16) rfl rfl ?_
    refine XS.iconst X2765.here hx rfl (hb hby d5_17) ?_
    exact kt
  obtain ⟨T2772, h2772, X2772, e2772, W2772, st2772⟩ := putF X2765 hx hZ hown (host := "") (Or.inl (W 18 rfl)) Via.refl e2765 F2769 F2767 (Or.inl (W 19 rfl)) (W 1 rfl) (ty := .int) (by decide) rfl rfl (g := (mkF m 18 #[rv b62, iv p3] [(.int (0 : Int32)), (.ref b62)])) rfl rfl (hb hby d5_18)
  have pre2773 : ∀ t, Steps p.tables e below (T2772.setTop (mkF m 21 #[rv b62, iv p3] [])) t → Steps p.tables e below (s₁.setTop (entryFrame m #[(.ref b62), (.int p3)] 2)) t := fun t kt => pre2771 _ (st2772 _ kt)
  have N2772 := Fr.snoc X2772 N2765 g_b62
  have O2772 := O2765.wr W2772 g_b62
  have K2772 : Keep h0 h2772 [b62] := K2765.wr W2772 (Or.inl (List.mem_of_getElem? (i := 0) rfl))
  have F2774 := F2767.wr W2772
  have F2775 := F2768.other W2772 q0
  have F2776 := F2770.other W2772 (Or.inr (slot_ne (Or.inl (W 12 rfl)) (Or.inl (W 19 rfl)) (by decide) (t := (.array (.object "java/lang/Object"))) (t' := .int) (by decide) (by decide)))
  have F2777 : Fld Z h2772 b62 "com/example/homethread/homethread/Items" "size" "I" (.int (0 : Int32)) := F2769.same W2772
  obtain ⟨fs, hr, hrun, hended, hW, hsame⟩ := X2772.leave (v := none) (fun _ => rfl)
  refine ⟨_, _, pre2773 _ (X2772.returnOut hx Bd.returns (hb hby d5_21) hr), hrun, hended, _, _, rfl, ?_, ⟨_, rfl⟩, hW, hsame.mono (by decide) (by decide)⟩
  show Q_clearAndTrim5_10 Z b62 p3 a_NO_SLOTS k109_68 r_2405 b109_68 h0 n0 _ T2772.heap _
  rw [e2772]
  exact ⟨rfl, N2772, K2772, O2772, F2774, F2776, F2777⟩
def Q_clearAndTrim5_11 (Z : State) (b62 : Addr) (p3 : Int32) (k109_68 : ClassId) (r_2405 : Addr) (b109_68 : Addr) (h0 : Heap) (n0 : Nat) (v : Option Value) (h : Heap) (L : List Loc) : Prop := v = none ∧ Fr n0 L ∧ Keep h0 h [b62] ∧ Old Z n0 h ∧ Exa Z h b62 "com/example/homethread/homethread/Items" ∧ Fld Z h b62 "com/example/homethread/homethread/Items" "slots" "[Ljava/lang/Object;" (.ref b109_68) ∧ Fld Z h b62 "com/example/homethread/homethread/Items" "size" "I" (.int (0 : Int32))
set_option maxRecDepth 65536 in
set_option maxHeartbeats 40000000 in
theorem rm_clearAndTrim5_11 (l : Launch) (Z : State) (a0 : Array Value) (hw : ∀ d ∈ tables_1, d.before a0 Z = true) (ws : List Jvm.Cond) (b62 : Addr) (p3 : Int32) (k109_68 : ClassId) (r_2405 : Addr) (b109_68 : Addr) (h0 : Heap) (n0 : Nat) (O0 : Old Z n0 h0) (g_b62 : n0 ≤ b62) (Fi0 : Exa Z h0 b62 "com/example/homethread/homethread/Items") (Fi1 : Fld Z h0 b62 "com/example/homethread/homethread/Items" "slots" "[Ljava/lang/Object;" (.ref b109_68)) (Fi2 : Arv Z h0 b109_68 k109_68 (.object "java/lang/Object") (16 : Int32) [(.ref r_2405), (.ref r_2405), (.ref r_2405), .null, .null, .null, .null, .null, .null, .null, .null, .null, .null, .null, .null, .null] .null) (Fi3 : Fld Z h0 b62 "com/example/homethread/homethread/Items" "size" "I" (.int (3 : Int32))) (q0 : ¬ (b109_68 = b62)) (q1 : ¬ (p3 < (16 : Int32))) :
    MetFree l (⟨"com/example/homethread/homethread/Items", "clearAndTrim", "(I)V"⟩ : MethodName) (head1 (Jvm.Cond.code (⟨"com/example/homethread/homethread/Items", "clearAndTrim", "(I)V"⟩ : MethodName) prog_9_method_11_code 2 none :: ws) ({ frames := 0, cells := 0, slots := 0, locals := 0 } : Room)) (fun a U => a = #[(.ref b62), (.int p3)] ∧ Z.Warmed39 U.vm ∧ U.heap = h0) (fun _ _ _ _ _ => True) (fun _ U o U' => ∃ v L, o = .returned v ∧ Q_clearAndTrim5_11 Z b62 p3 k109_68 r_2405 b109_68 h0 n0 v U'.heap L ∧ FrameEnd U o U' L ({ frames := 0, cells := 0, slots := 0, locals := 0 } : Room).cells ({ frames := 0, cells := 0, slots := 0, locals := 0 } : Room).slots) := by
  refine MetFree.of_bodySF (plainFor_of_name pn_9) hisR ?_
  intro p e s m args below meth c s₁ Bd hml0 hP hK
  have W := fun {d : Jvm.Cond} (i : Nat) (q : tables_1[i]? = some d) => hw d (List.mem_of_getElem? q)
  obtain ⟨rfl, hZ, hh⟩ := hP
  have hx := Bd.exec
  have hby := Bd.bytes
  have hml : c.maxLocals = 2 := hml0
  have hown : s.vm.findClass "com/example/homethread/homethread/Items" = some m.cls := findClass_of_methodNamed Bd.named
  have hnm := (name_of_methodNamed Bd.named Bd.method).1
  have X0 : Stand p l e ({ frames := 0, cells := 0, slots := 0, locals := 0 } : Room) s m #[(.ref b62), (.int p3)] below meth c s₁ [] 0 0 := Stand.of_body Bd
  have e0 : s₁.heap = h0 := by rw [← hh, Bd.state]; rfl
  have N0 := Fr.nil n0
  have pre0 : ∀ t, Steps p.tables e below (s₁.setTop (mkF m 0 #[rv b62, iv p3] [])) t → Steps p.tables e below (s₁.setTop (entryFrame m #[(.ref b62), (.int p3)] 2)) t := fun t k => castTop (ef_17 m b62 p3) k
  have K0 : Keep h0 h0 [b62] := Keep.refl h0 [b62]
  have pre2820 : ∀ t, Steps p.tables e below (s₁.setTop (mkF m 1 #[rv b62, iv p3] [(.ref b62)])) t → Steps p.tables e below (s₁.setTop (entryFrame m #[(.ref b62), (.int p3)] 2)) t := fun t kt => by
    refine pre0 _ ?_
    show Steps p.tables e below (s₁.setTop (mkF m 0 #[rv b62, iv p3] [])) _
    refine XS.aloadN X0.here hx rfl (hb hby d5_0) rfl rfl ?_
    exact kt
  obtain ⟨T2821, X2821, e2821, st2821⟩ := getF X0 hx hZ hown (host := "") (Or.inl (W 11 rfl)) Via.refl e0 Fi1 (g := (mkF m 1 #[rv b62, iv p3] [(.ref b62)])) rfl rfl (hb hby d5_1)
  have pre2822 : ∀ t, Steps p.tables e below (T2821.setTop (mkF m 4 #[rv b62, iv p3] [(.ref b109_68)])) t → Steps p.tables e below (s₁.setTop (entryFrame m #[(.ref b62), (.int p3)] 2)) t := fun t kt => pre2820 _ (st2821 _ kt)
  obtain ⟨c2823, Ar2823, -, S2823, M2823, -, -⟩ := id Fi2
  have pre2824 : ∀ t, Steps p.tables e below (T2821.setTop (mkF m 18 #[rv b62, iv p3] [(.int (0 : Int32)), (.ref b62)])) t → Steps p.tables e below (s₁.setTop (entryFrame m #[(.ref b62), (.int p3)] 2)) t := fun t kt => by
    refine pre2822 _ ?_
    show Steps p.tables e below (T2821.setTop (mkF m 4 #[rv b62, iv p3] [(.ref b109_68)])) _
    refine X2821.arraylength hx (by rw [e2821]; exact Ar2823.1) (State.isArrayOf_alike hZ.alike Ar2823.2.1) (g := (mkF m 4 #[rv b62, iv p3] [(.ref b109_68)])) rfl rfl (hb hby d5_4) _ ?_
    rw [len_of S2823 M2823]
    refine XS.iloadN X2821.here hx rfl (hb hby d5_5) rfl ?_
    refine XS.icmpYes X2821.here hx rfl (pc0 := 6) (pc' := 16) rfl (hb hby d5_6) rfl (XT.ii_le_t q1) (by decide) (by decide) ?_
    refine XS.aloadN X2821.here hx rfl (hb hby d5_16) rfl rfl ?_
    show Steps p.tables e below (T2821.setTop (mkF m 17 #[rv b62, iv p3] [(.ref b62)])) _
    refine XS.iconst X2821.here hx rfl (hb hby d5_17) ?_
    exact kt
  obtain ⟨T2825, h2825, X2825, e2825, W2825, st2825⟩ := putF X2821 hx hZ hown (host := "") (Or.inl (W 18 rfl)) Via.refl e2821 Fi3 Fi0 (Or.inl (W 19 rfl)) (W 1 rfl) (ty := .int) (by decide) rfl rfl (g := (mkF m 18 #[rv b62, iv p3] [(.int (0 : Int32)), (.ref b62)])) rfl rfl (hb hby d5_18)
  have pre2826 : ∀ t, Steps p.tables e below (T2825.setTop (mkF m 21 #[rv b62, iv p3] [])) t → Steps p.tables e below (s₁.setTop (entryFrame m #[(.ref b62), (.int p3)] 2)) t := fun t kt => pre2824 _ (st2825 _ kt)
  have N2825 := Fr.snoc X2825 N0 g_b62
  have O2825 := O0.wr W2825 g_b62
  have K2825 : Keep h0 h2825 [b62] := K0.wr W2825 (Or.inl (List.mem_of_getElem? (i := 0) rfl))
  have F2827 := Fi0.wr W2825
  have F2828 := Fi1.other W2825 (Or.inr (slot_ne (Or.inl (W 12 rfl)) (Or.inl (W 19 rfl)) (by decide) (t := (.array (.object "java/lang/Object"))) (t' := .int) (by decide) (by decide)))
  have F2829 := Fi2.other W2825 q0
  have F2830 : Fld Z h2825 b62 "com/example/homethread/homethread/Items" "size" "I" (.int (0 : Int32)) := Fi3.same W2825
  obtain ⟨fs, hr, hrun, hended, hW, hsame⟩ := X2825.leave (v := none) (fun _ => rfl)
  refine ⟨_, _, pre2826 _ (X2825.returnOut hx Bd.returns (hb hby d5_21) hr), hrun, hended, _, _, rfl, ?_, ⟨_, rfl⟩, hW, hsame.mono (by decide) (by decide)⟩
  show Q_clearAndTrim5_11 Z b62 p3 k109_68 r_2405 b109_68 h0 n0 _ T2825.heap _
  rw [e2825]
  exact ⟨rfl, N2825, K2825, O2825, F2827, F2828, F2830⟩
def Q_removeLast13_3 (Z : State) (b62 : Addr) (r_2405 : Addr) (k109_68 : ClassId) (b109_68 : Addr) (h0 : Heap) (n0 : Nat) (v : Option Value) (h : Heap) (L : List Loc) : Prop := v = some (.int (1 : Int32)) ∧ Fr n0 L ∧ Keep h0 h [b62, b109_68] ∧ Old Z n0 h ∧ Exa Z h b62 "com/example/homethread/homethread/Items" ∧ Exa Z h b109_68 "[Ljava/lang/Object;" ∧ Fld Z h b62 "com/example/homethread/homethread/Items" "slots" "[Ljava/lang/Object;" (.ref b109_68) ∧ Fld Z h b62 "com/example/homethread/homethread/Items" "size" "I" (.int (2 : Int32)) ∧ Arv Z h b109_68 k109_68 (.object "java/lang/Object") (16 : Int32) [(.ref r_2405), (.ref r_2405), .null, .null, .null, .null, .null, .null, .null, .null, .null, .null, .null, .null, .null, .null] .null
set_option maxRecDepth 65536 in
set_option maxHeartbeats 40000000 in
theorem rm_removeLast13_3 (l : Launch) (Z : State) (a0 : Array Value) (hw : ∀ d ∈ tables_1, d.before a0 Z = true) (ws : List Jvm.Cond) (b62 : Addr) (r_2405 : Addr) (k109_68 : ClassId) (b109_68 : Addr) (h0 : Heap) (n0 : Nat) (O0 : Old Z n0 h0) (g_b62 : n0 ≤ b62) (g_b109_68 : n0 ≤ b109_68) (Fi0 : Exa Z h0 b62 "com/example/homethread/homethread/Items") (Fi1 : Exa Z h0 b109_68 "[Ljava/lang/Object;") (Fi2 : Fld Z h0 b62 "com/example/homethread/homethread/Items" "slots" "[Ljava/lang/Object;" (.ref b109_68)) (Fi3 : Arv Z h0 b109_68 k109_68 (.object "java/lang/Object") (16 : Int32) [(.ref r_2405), (.ref r_2405), (.ref r_2405), .null, .null, .null, .null, .null, .null, .null, .null, .null, .null, .null, .null, .null] .null) (Fi4 : Fld Z h0 b62 "com/example/homethread/homethread/Items" "size" "I" (.int (3 : Int32))) (q0 : ¬ (b109_68 = b62)) :
    MetFree l (⟨"com/example/homethread/homethread/Items", "removeLast", "(Ljava/lang/Object;I)Z"⟩ : MethodName) (head1 (Jvm.Cond.code (⟨"com/example/homethread/homethread/Items", "removeLast", "(Ljava/lang/Object;I)Z"⟩ : MethodName) prog_9_method_12_code 4 (some .boolean) :: ws) ({ frames := 1, cells := 0, slots := 0, locals := 24 } : Room)) (fun a U => a = #[(.ref b62), (.ref r_2405), (.int (0 : Int32))] ∧ Z.Warmed39 U.vm ∧ U.heap = h0) (fun _ _ _ _ _ => True) (fun _ U o U' => ∃ v L, o = .returned v ∧ Q_removeLast13_3 Z b62 r_2405 k109_68 b109_68 h0 n0 v U'.heap L ∧ FrameEnd U o U' L ({ frames := 1, cells := 0, slots := 0, locals := 24 } : Room).cells ({ frames := 1, cells := 0, slots := 0, locals := 24 } : Room).slots) := by
  refine MetFree.of_bodySF (plainFor_of_name pn_9) hisR ?_
  intro p e s m args below meth c s₁ Bd hml0 hP hK
  have W := fun {d : Jvm.Cond} (i : Nat) (q : tables_1[i]? = some d) => hw d (List.mem_of_getElem? q)
  obtain ⟨rfl, hZ, hh⟩ := hP
  have hx := Bd.exec
  have hby := Bd.bytes
  have hml : c.maxLocals = 4 := hml0
  have hown : s.vm.findClass "com/example/homethread/homethread/Items" = some m.cls := findClass_of_methodNamed Bd.named
  have hnm := (name_of_methodNamed Bd.named Bd.method).1
  have X0 : Stand p l e ({ frames := 1, cells := 0, slots := 0, locals := 24 } : Room) s m #[(.ref b62), (.ref r_2405), (.int (0 : Int32))] below meth c s₁ [] 0 0 := Stand.of_body Bd
  have e0 : s₁.heap = h0 := by rw [← hh, Bd.state]; rfl
  have N0 := Fr.nil n0
  have pre0 : ∀ t, Steps p.tables e below (s₁.setTop (mkF m 0 #[rv b62, rv r_2405, iv (0 : Int32), .unset] [])) t → Steps p.tables e below (s₁.setTop (entryFrame m #[(.ref b62), (.ref r_2405), (.int (0 : Int32))] 4)) t := fun t k => castTop (ef_28 m b62 r_2405 (0 : Int32)) k
  have K0 : Keep h0 h0 [b62, b109_68] := Keep.refl h0 [b62, b109_68]
  have pre2955 : ∀ t, Steps p.tables e below (s₁.setTop (mkF m 1 #[rv b62, rv r_2405, iv (0 : Int32), .unset] [(.ref b62)])) t → Steps p.tables e below (s₁.setTop (entryFrame m #[(.ref b62), (.ref r_2405), (.int (0 : Int32))] 4)) t := fun t kt => by
    refine pre0 _ ?_
    show Steps p.tables e below (s₁.setTop (mkF m 0 #[rv b62, rv r_2405, iv (0 : Int32), .unset] [])) _
    refine XS.aloadN X0.here hx rfl (hb hby d13_0) rfl rfl ?_
    exact kt
  obtain ⟨T2956, X2956, e2956, st2956⟩ := getF X0 hx hZ hown (host := "") (Or.inl (W 18 rfl)) Via.refl e0 Fi4 (g := (mkF m 1 #[rv b62, rv r_2405, iv (0 : Int32), .unset] [(.ref b62)])) rfl rfl (hb hby d13_1)
  have pre2957 : ∀ t, Steps p.tables e below (T2956.setTop (mkF m 4 #[rv b62, rv r_2405, iv (0 : Int32), .unset] [(.int (3 : Int32))])) t → Steps p.tables e below (s₁.setTop (entryFrame m #[(.ref b62), (.ref r_2405), (.int (0 : Int32))] 4)) t := fun t kt => pre2955 _ (st2956 _ kt)
  have pre2958 : ∀ t, Steps p.tables e below (T2956.setTop (mkF m 13 #[rv b62, rv r_2405, iv (0 : Int32), iv (2 : Int32)] [(.ref b62)])) t → Steps p.tables e below (s₁.setTop (entryFrame m #[(.ref b62), (.ref r_2405), (.int (0 : Int32))] 4)) t := fun t kt => by
    refine pre2957 _ ?_
    show Steps p.tables e below (T2956.setTop (mkF m 4 #[rv b62, rv r_2405, iv (0 : Int32), .unset] [(.int (3 : Int32))])) _
    refine XS.iconst X2956.here hx rfl (hb hby d13_4) ?_
    refine XS.isub X2956.here hx rfl (hb hby d13_5) rfl ?_
    show  Steps p.tables e below (T2956.setTop (mkF m 6 #[rv b62, rv r_2405, iv (0 : Int32), .unset] [(.int ((3 : Int32) - (1 : Int32)))])) _
    rw [(by decide : (((3 : Int32) - (1 : Int32)) : Int32) = (2 : Int32))]
    refine XS.istoreN X2956.here hx rfl (hb hby d13_6) rfl (l' := #[rv b62, rv r_2405, iv (0 : Int32), iv (2 : Int32)]) rfl ?_
    refine XS.iloadN X2956.here hx rfl (hb hby d13_7) rfl ?_
    show Steps p.tables e below (T2956.setTop (mkF m 8 #[rv b62, rv r_2405, iv (0 : Int32), iv (2 : Int32)] [(.int (2 : Int32))])) _
    refine XS.iloadN X2956.here hx rfl (hb hby d13_8) rfl ?_
    refine XS.icmpNo X2956.here hx rfl (hb hby d13_9) rfl (XT.ii_lt_f (by decide)) ?_
    refine XS.aloadN X2956.here hx rfl (hb hby d13_12) rfl rfl ?_
    exact kt
  obtain ⟨T2959, X2959, e2959, st2959⟩ := getF X2956 hx hZ hown (host := "") (Or.inl (W 11 rfl)) Via.refl e2956 Fi2 (g := (mkF m 13 #[rv b62, rv r_2405, iv (0 : Int32), iv (2 : Int32)] [(.ref b62)])) rfl rfl (hb hby d13_13)
  have pre2960 : ∀ t, Steps p.tables e below (T2959.setTop (mkF m 16 #[rv b62, rv r_2405, iv (0 : Int32), iv (2 : Int32)] [(.ref b109_68)])) t → Steps p.tables e below (s₁.setTop (entryFrame m #[(.ref b62), (.ref r_2405), (.int (0 : Int32))] 4)) t := fun t kt => pre2958 _ (st2959 _ kt)
  have pre2962 : ∀ t, Steps p.tables e below (T2959.setTop (mkF m 17 #[rv b62, rv r_2405, iv (0 : Int32), iv (2 : Int32)] [(.int (2 : Int32)), (.ref b109_68)])) t → Steps p.tables e below (s₁.setTop (entryFrame m #[(.ref b62), (.ref r_2405), (.int (0 : Int32))] 4)) t := fun t kt => by
    refine pre2960 _ ?_
    show Steps p.tables e below (T2959.setTop (mkF m 16 #[rv b62, rv r_2405, iv (0 : Int32), iv (2 : Int32)] [(.ref b109_68)])) _
    refine XS.iloadN X2959.here hx rfl (hb hby d13_16) rfl ?_
    exact kt
  obtain ⟨c2961, Ar2961, q2961, S2961, M2961, H2961, G2961⟩ := id Fi3
  have i2961 : ¬ ((2 : Int32) < 0 ∨ c2961.slots.size ≤ ((2 : Int32)).toNatClampNeg) := inb_of S2961 ⟨by decide, by decide⟩
  have t2961 : c2961.slots[((2 : Int32)).toNatClampNeg]? = some (.ref r_2405) := Has.at H2961 i2961 rfl
  have pre2963 : ∀ t, Steps p.tables e below (T2959.setTop (mkF m 23 #[rv b62, rv r_2405, iv (0 : Int32), iv (2 : Int32)] [(.ref b62)])) t → Steps p.tables e below (s₁.setTop (entryFrame m #[(.ref b62), (.ref r_2405), (.int (0 : Int32))] 4)) t := fun t kt => by
    refine pre2962 _ ?_
    show Steps p.tables e below (T2959.setTop (mkF m 17 #[rv b62, rv r_2405, iv (0 : Int32), iv (2 : Int32)] [(.int (2 : Int32)), (.ref b109_68)])) _
    refine X2959.aaload hx (j := (2 : Int32)) (v := (.ref r_2405)) (by rw [e2959]; exact Ar2961.1) (State.isArrayOf_alike hZ.alike Ar2961.2.1) rfl Ar2961.2.2 i2961 t2961 (g := (mkF m 17 #[rv b62, rv r_2405, iv (0 : Int32), iv (2 : Int32)] [(.int (2 : Int32)), (.ref b109_68)])) rfl rfl (hb hby d13_17) _ ?_
    refine XS.aloadN X2959.here hx rfl (hb hby d13_18) rfl rfl ?_
    refine Jvm.RoadKit.acmp (g := (mkF m 19 #[rv b62, rv r_2405, iv (0 : Int32), iv (2 : Int32)] [(.ref r_2405), (.ref r_2405)])) X2959 hx rfl rfl rfl (pc0 := 19) (pc' := 22) (same := true) rfl (hb hby d13_19) rfl (decide_eq_true rfl) (by decide) (by decide) ?_
    refine XS.aloadN X2959.here hx rfl (hb hby d13_22) rfl rfl ?_
    exact kt
  obtain ⟨T2964, X2964, e2964, st2964⟩ := getF X2959 hx hZ hown (host := "") (Or.inl (W 11 rfl)) Via.refl e2959 Fi2 (g := (mkF m 23 #[rv b62, rv r_2405, iv (0 : Int32), iv (2 : Int32)] [(.ref b62)])) rfl rfl (hb hby d13_23)
  have pre2965 : ∀ t, Steps p.tables e below (T2964.setTop (mkF m 26 #[rv b62, rv r_2405, iv (0 : Int32), iv (2 : Int32)] [(.ref b109_68)])) t → Steps p.tables e below (s₁.setTop (entryFrame m #[(.ref b62), (.ref r_2405), (.int (0 : Int32))] 4)) t := fun t kt => pre2963 _ (st2964 _ kt)
  have pre2966 : ∀ t, Steps p.tables e below (T2964.setTop (mkF m 30 #[rv b62, rv r_2405, iv (0 : Int32), iv (2 : Int32)] [(.ref b62), (.int (3 : Int32)), (.ref b109_68)])) t → Steps p.tables e below (s₁.setTop (entryFrame m #[(.ref b62), (.ref r_2405), (.int (0 : Int32))] 4)) t := fun t kt => by
    refine pre2965 _ ?_
    show Steps p.tables e below (T2964.setTop (mkF m 26 #[rv b62, rv r_2405, iv (0 : Int32), iv (2 : Int32)] [(.ref b109_68)])) _
    refine XS.iloadN X2964.here hx rfl (hb hby d13_26) rfl ?_
    refine XS.iconst X2964.here hx rfl (hb hby d13_27) ?_
    refine XS.iadd X2964.here hx rfl (hb hby d13_28) rfl ?_
    show  Steps p.tables e below (T2964.setTop (mkF m 29 #[rv b62, rv r_2405, iv (0 : Int32), iv (2 : Int32)] [(.int ((2 : Int32) + (1 : Int32))), (.ref b109_68)])) _
    rw [(by decide : (((2 : Int32) + (1 : Int32)) : Int32) = (3 : Int32))]
    refine XS.aloadN X2964.here hx rfl (hb hby d13_29) rfl rfl ?_
    exact kt
  obtain ⟨T2967, X2967, e2967, st2967⟩ := getF X2964 hx hZ hown (host := "") (Or.inl (W 11 rfl)) Via.refl e2964 Fi2 (g := (mkF m 30 #[rv b62, rv r_2405, iv (0 : Int32), iv (2 : Int32)] [(.ref b62), (.int (3 : Int32)), (.ref b109_68)])) rfl rfl (hb hby d13_30)
  have pre2968 : ∀ t, Steps p.tables e below (T2967.setTop (mkF m 33 #[rv b62, rv r_2405, iv (0 : Int32), iv (2 : Int32)] [(.ref b109_68), (.int (3 : Int32)), (.ref b109_68)])) t → Steps p.tables e below (s₁.setTop (entryFrame m #[(.ref b62), (.ref r_2405), (.int (0 : Int32))] 4)) t := fun t kt => pre2966 _ (st2967 _ kt)
  have pre2969 : ∀ t, Steps p.tables e below (T2967.setTop (mkF m 35 #[rv b62, rv r_2405, iv (0 : Int32), iv (2 : Int32)] [(.ref b62), (.int (2 : Int32)), (.ref b109_68), (.int (3 : Int32)), (.ref b109_68)])) t → Steps p.tables e below (s₁.setTop (entryFrame m #[(.ref b62), (.ref r_2405), (.int (0 : Int32))] 4)) t := fun t kt => by
    refine pre2968 _ ?_
    show Steps p.tables e below (T2967.setTop (mkF m 33 #[rv b62, rv r_2405, iv (0 : Int32), iv (2 : Int32)] [(.ref b109_68), (.int (3 : Int32)), (.ref b109_68)])) _
    refine XS.iloadN X2967.here hx rfl (hb hby d13_33) rfl ?_
    refine XS.aloadN X2967.here hx rfl (hb hby d13_34) rfl rfl ?_
    exact kt
  obtain ⟨T2970, X2970, e2970, st2970⟩ := getF X2967 hx hZ hown (host := "") (Or.inl (W 18 rfl)) Via.refl e2967 Fi4 (g := (mkF m 35 #[rv b62, rv r_2405, iv (0 : Int32), iv (2 : Int32)] [(.ref b62), (.int (2 : Int32)), (.ref b109_68), (.int (3 : Int32)), (.ref b109_68)])) rfl rfl (hb hby d13_35)
  have pre2971 : ∀ t, Steps p.tables e below (T2970.setTop (mkF m 38 #[rv b62, rv r_2405, iv (0 : Int32), iv (2 : Int32)] [(.int (3 : Int32)), (.int (2 : Int32)), (.ref b109_68), (.int (3 : Int32)), (.ref b109_68)])) t → Steps p.tables e below (s₁.setTop (entryFrame m #[(.ref b62), (.ref r_2405), (.int (0 : Int32))] 4)) t := fun t kt => pre2969 _ (st2970 _ kt)
  have pre2972 : ∀ t, Steps p.tables e below (T2970.setTop (mkF m 42 #[rv b62, rv r_2405, iv (0 : Int32), iv (2 : Int32)] [(.int (0 : Int32)), (.int (2 : Int32)), (.ref b109_68), (.int (3 : Int32)), (.ref b109_68)])) t → Steps p.tables e below (s₁.setTop (entryFrame m #[(.ref b62), (.ref r_2405), (.int (0 : Int32))] 4)) t := fun t kt => by
    refine pre2971 _ ?_
    show Steps p.tables e below (T2970.setTop (mkF m 38 #[rv b62, rv r_2405, iv (0 : Int32), iv (2 : Int32)] [(.int (3 : Int32)), (.int (2 : Int32)), (.ref b109_68), (.int (3 : Int32)), (.ref b109_68)])) _
    refine XS.iloadN X2970.here hx rfl (hb hby d13_38) rfl ?_
    refine XS.isub X2970.here hx rfl (hb hby d13_39) rfl ?_
    show  Steps p.tables e below (T2970.setTop (mkF m 40 #[rv b62, rv r_2405, iv (0 : Int32), iv (2 : Int32)] [(.int ((3 : Int32) - (2 : Int32))), (.int (2 : Int32)), (.ref b109_68), (.int (3 : Int32)), (.ref b109_68)])) _
    rw [(by decide : (((3 : Int32) - (2 : Int32)) : Int32) = (1 : Int32))]
    refine XS.iconst X2970.here hx rfl (hb hby d13_40) ?_
    refine XS.isub X2970.here hx rfl (hb hby d13_41) rfl ?_
    show  Steps p.tables e below (T2970.setTop (mkF m 42 #[rv b62, rv r_2405, iv (0 : Int32), iv (2 : Int32)] [(.int ((1 : Int32) - (1 : Int32))), (.int (2 : Int32)), (.ref b109_68), (.int (3 : Int32)), (.ref b109_68)])) _
    rw [(by decide : (((1 : Int32) - (1 : Int32)) : Int32) = (0 : Int32))]
    exact kt
  obtain ⟨T2973, h2973, L2973, X2973, e2973, N2973, Kc2973, V2973, st2973⟩ := cpA X2970 hx hZ hown (W 86 rfl) (W 64 rfl) (W 62 rfl) (W 63 rfl) e2970 Fi3 Fi3  (sp := (3 : Int32)) (dp := (2 : Int32)) (nn := (0 : Int32)) (us := []) (Or.inr ⟨rfl, rfl, trivial⟩) (by decide) (by decide) (by decide) (by decide) (by decide) rfl (Nat.le_of_ble_eq_true rfl) N0 g_b109_68 (g := (mkF m 42 #[rv b62, rv r_2405, iv (0 : Int32), iv (2 : Int32)] [(.int (0 : Int32)), (.int (2 : Int32)), (.ref b109_68), (.int (3 : Int32)), (.ref b109_68)])) rfl (by rw [hml]; rfl) (rest := []) rfl (hb hby d13_42) (by decide) (W := 0) (by show 2 * 0 + _ ≤ _; exact Nat.le_of_eq rfl) (by decide)
  have pre2974 : ∀ t, Steps p.tables e below (T2973.setTop (mkF m 45 #[rv b62, rv r_2405, iv (0 : Int32), iv (2 : Int32)] [])) t → Steps p.tables e below (s₁.setTop (entryFrame m #[(.ref b62), (.ref r_2405), (.int (0 : Int32))] 4)) t := fun t kt => pre2972 _ (st2973 _ kt)
  have O2973 := O0.keep Kc2973 (own_all1 g_b109_68)
  have K2973 : Keep h0 h2973 [b62, b109_68] := K0.trans Kc2973 (own_all1 (Or.inl (List.mem_of_getElem? (i := 1) rfl)))
  have F2975 := Fi0.keep Kc2973
  have F2976 := Fi1.keep Kc2973
  have F2977 := Fi2.keep Kc2973 (own_nm1 (fun q => q0 q.symm))
  have F2978 := Fi4.keep Kc2973 (own_nm1 (fun q => q0 q.symm))
  have F2979 : Arv Z h2973 b109_68 k109_68 (.object "java/lang/Object") (16 : Int32) [(.ref r_2405), (.ref r_2405), (.ref r_2405), .null, .null, .null, .null, .null, .null, .null, .null, .null, .null, .null, .null, .null] .null := V2973
  have pre2980 : ∀ t, Steps p.tables e below (T2973.setTop (mkF m 47 #[rv b62, rv r_2405, iv (0 : Int32), iv (2 : Int32)] [(.ref b62), (.ref b62)])) t → Steps p.tables e below (s₁.setTop (entryFrame m #[(.ref b62), (.ref r_2405), (.int (0 : Int32))] 4)) t := fun t kt => by
    refine pre2974 _ ?_
    show Steps p.tables e below (T2973.setTop (mkF m 45 #[rv b62, rv r_2405, iv (0 : Int32), iv (2 : Int32)] [])) _
    refine XS.aloadN X2973.here hx rfl (hb hby d13_45) rfl rfl ?_
    refine XS.dup X2973.here hx rfl (hb hby d13_46) rfl rfl ?_
    exact kt
  obtain ⟨T2981, X2981, e2981, st2981⟩ := getF X2973 hx hZ hown (host := "") (Or.inl (W 18 rfl)) Via.refl e2973 F2978 (g := (mkF m 47 #[rv b62, rv r_2405, iv (0 : Int32), iv (2 : Int32)] [(.ref b62), (.ref b62)])) rfl rfl (hb hby d13_47)
  have pre2982 : ∀ t, Steps p.tables e below (T2981.setTop (mkF m 50 #[rv b62, rv r_2405, iv (0 : Int32), iv (2 : Int32)] [(.int (3 : Int32)), (.ref b62)])) t → Steps p.tables e below (s₁.setTop (entryFrame m #[(.ref b62), (.ref r_2405), (.int (0 : Int32))] 4)) t := fun t kt => pre2980 _ (st2981 _ kt)
  have pre2983 : ∀ t, Steps p.tables e below (T2981.setTop (mkF m 52 #[rv b62, rv r_2405, iv (0 : Int32), iv (2 : Int32)] [(.int (2 : Int32)), (.ref b62)])) t → Steps p.tables e below (s₁.setTop (entryFrame m #[(.ref b62), (.ref r_2405), (.int (0 : Int32))] 4)) t := fun t kt => by
    refine pre2982 _ ?_
    show Steps p.tables e below (T2981.setTop (mkF m 50 #[rv b62, rv r_2405, iv (0 : Int32), iv (2 : Int32)] [(.int (3 : Int32)), (.ref b62)])) _
    refine XS.iconst X2981.here hx rfl (hb hby d13_50) ?_
    refine XS.isub X2981.here hx rfl (hb hby d13_51) rfl ?_
    show  Steps p.tables e below (T2981.setTop (mkF m 52 #[rv b62, rv r_2405, iv (0 : Int32), iv (2 : Int32)] [(.int ((3 : Int32) - (1 : Int32))), (.ref b62)])) _
    rw [(by decide : (((3 : Int32) - (1 : Int32)) : Int32) = (2 : Int32))]
    exact kt
  obtain ⟨T2984, h2984, X2984, e2984, W2984, st2984⟩ := putF X2981 hx hZ hown (host := "") (Or.inl (W 18 rfl)) Via.refl e2981 F2978 F2975 (Or.inl (W 19 rfl)) (W 1 rfl) (ty := .int) (by decide) rfl rfl (g := (mkF m 52 #[rv b62, rv r_2405, iv (0 : Int32), iv (2 : Int32)] [(.int (2 : Int32)), (.ref b62)])) rfl rfl (hb hby d13_52)
  have pre2985 : ∀ t, Steps p.tables e below (T2984.setTop (mkF m 55 #[rv b62, rv r_2405, iv (0 : Int32), iv (2 : Int32)] [])) t → Steps p.tables e below (s₁.setTop (entryFrame m #[(.ref b62), (.ref r_2405), (.int (0 : Int32))] 4)) t := fun t kt => pre2983 _ (st2984 _ kt)
  have N2984 := Fr.snoc X2984 N2973 g_b62
  have O2984 := O2973.wr W2984 g_b62
  have K2984 : Keep h0 h2984 [b62, b109_68] := K2973.wr W2984 (Or.inl (List.mem_of_getElem? (i := 0) rfl))
  have F2986 := F2975.wr W2984
  have F2987 := F2976.wr W2984
  have F2988 := F2977.other W2984 (Or.inr (slot_ne (Or.inl (W 12 rfl)) (Or.inl (W 19 rfl)) (by decide) (t := (.array (.object "java/lang/Object"))) (t' := .int) (by decide) (by decide)))
  have F2989 := F2979.other W2984 q0
  have F2990 : Fld Z h2984 b62 "com/example/homethread/homethread/Items" "size" "I" (.int (2 : Int32)) := F2978.same W2984
  have pre2991 : ∀ t, Steps p.tables e below (T2984.setTop (mkF m 56 #[rv b62, rv r_2405, iv (0 : Int32), iv (2 : Int32)] [(.ref b62)])) t → Steps p.tables e below (s₁.setTop (entryFrame m #[(.ref b62), (.ref r_2405), (.int (0 : Int32))] 4)) t := fun t kt => by
    refine pre2985 _ ?_
    show Steps p.tables e below (T2984.setTop (mkF m 55 #[rv b62, rv r_2405, iv (0 : Int32), iv (2 : Int32)] [])) _
    refine XS.aloadN X2984.here hx rfl (hb hby d13_55) rfl rfl ?_
    exact kt
  obtain ⟨T2992, X2992, e2992, st2992⟩ := getF X2984 hx hZ hown (host := "") (Or.inl (W 11 rfl)) Via.refl e2984 F2988 (g := (mkF m 56 #[rv b62, rv r_2405, iv (0 : Int32), iv (2 : Int32)] [(.ref b62)])) rfl rfl (hb hby d13_56)
  have pre2993 : ∀ t, Steps p.tables e below (T2992.setTop (mkF m 59 #[rv b62, rv r_2405, iv (0 : Int32), iv (2 : Int32)] [(.ref b109_68)])) t → Steps p.tables e below (s₁.setTop (entryFrame m #[(.ref b62), (.ref r_2405), (.int (0 : Int32))] 4)) t := fun t kt => pre2991 _ (st2992 _ kt)
  have pre2994 : ∀ t, Steps p.tables e below (T2992.setTop (mkF m 60 #[rv b62, rv r_2405, iv (0 : Int32), iv (2 : Int32)] [(.ref b62), (.ref b109_68)])) t → Steps p.tables e below (s₁.setTop (entryFrame m #[(.ref b62), (.ref r_2405), (.int (0 : Int32))] 4)) t := fun t kt => by
    refine pre2993 _ ?_
    show Steps p.tables e below (T2992.setTop (mkF m 59 #[rv b62, rv r_2405, iv (0 : Int32), iv (2 : Int32)] [(.ref b109_68)])) _
    refine XS.aloadN X2992.here hx rfl (hb hby d13_59) rfl rfl ?_
    exact kt
  obtain ⟨T2995, X2995, e2995, st2995⟩ := getF X2992 hx hZ hown (host := "") (Or.inl (W 18 rfl)) Via.refl e2992 F2990 (g := (mkF m 60 #[rv b62, rv r_2405, iv (0 : Int32), iv (2 : Int32)] [(.ref b62), (.ref b109_68)])) rfl rfl (hb hby d13_60)
  have pre2996 : ∀ t, Steps p.tables e below (T2995.setTop (mkF m 63 #[rv b62, rv r_2405, iv (0 : Int32), iv (2 : Int32)] [(.int (2 : Int32)), (.ref b109_68)])) t → Steps p.tables e below (s₁.setTop (entryFrame m #[(.ref b62), (.ref r_2405), (.int (0 : Int32))] 4)) t := fun t kt => pre2994 _ (st2995 _ kt)
  have pre2997 : ∀ t, Steps p.tables e below (T2995.setTop (mkF m 64 #[rv b62, rv r_2405, iv (0 : Int32), iv (2 : Int32)] [.null, (.int (2 : Int32)), (.ref b109_68)])) t → Steps p.tables e below (s₁.setTop (entryFrame m #[(.ref b62), (.ref r_2405), (.int (0 : Int32))] 4)) t := fun t kt => by
    refine pre2996 _ ?_
    show Steps p.tables e below (T2995.setTop (mkF m 63 #[rv b62, rv r_2405, iv (0 : Int32), iv (2 : Int32)] [(.int (2 : Int32)), (.ref b109_68)])) _
    refine XS.aconstNull X2995.here hx rfl (hb hby d13_63) ?_
    exact kt
  obtain ⟨c2998, Ar2998, q2998, S2998, M2998, H2998, G2998⟩ := id F2989
  have i2998 : ¬ ((2 : Int32) < 0 ∨ c2998.slots.size ≤ ((2 : Int32)).toNatClampNeg) := inb_of S2998 ⟨by decide, by decide⟩
  obtain ⟨T2999, h2999, X2999, e2999, W2999, st2999⟩ := stR X2995 hx hZ e2995 Ar2998 (j := (2 : Int32)) i2998 rfl (Or.inl rfl) (g := (mkF m 64 #[rv b62, rv r_2405, iv (0 : Int32), iv (2 : Int32)] [.null, (.int (2 : Int32)), (.ref b109_68)])) rfl rfl (hb hby d13_64)
  have pre3000 : ∀ t, Steps p.tables e below (T2999.setTop (mkF m 65 #[rv b62, rv r_2405, iv (0 : Int32), iv (2 : Int32)] [])) t → Steps p.tables e below (s₁.setTop (entryFrame m #[(.ref b62), (.ref r_2405), (.int (0 : Int32))] 4)) t := fun t kt => pre2997 _ (st2999 _ kt)
  have N2999 := Fr.snoc X2999 N2984 g_b109_68
  have O2999 := O2984.wr W2999 g_b109_68
  have K2999 : Keep h0 h2999 [b62, b109_68] := K2984.wr W2999 (Or.inl (List.mem_of_getElem? (i := 1) rfl))
  have F3001 := F2986.wr W2999
  have F3002 := F2987.wr W2999
  have F3003 := F2988.other W2999 (Or.inl (fun q => q0 q.symm))
  have F3004 := F2990.other W2999 (Or.inl (fun q => q0 q.symm))
  have F3005 : Arv Z h2999 b109_68 k109_68 (.object "java/lang/Object") (16 : Int32) [(.ref r_2405), (.ref r_2405), .null, .null, .null, .null, .null, .null, .null, .null, .null, .null, .null, .null, .null, .null] .null := Arv.set Ar2998 q2998 S2998 M2998 H2998 G2998 rfl W2999 2 rfl (Nat.le_of_ble_eq_true rfl)
  have pre3006 : ∀ t, Steps p.tables e below (T2999.setTop (mkF m 66 #[rv b62, rv r_2405, iv (0 : Int32), iv (2 : Int32)] [(.int (1 : Int32))])) t → Steps p.tables e below (s₁.setTop (entryFrame m #[(.ref b62), (.ref r_2405), (.int (0 : Int32))] 4)) t := fun t kt => by
    refine pre3000 _ ?_
    show Steps p.tables e below (T2999.setTop (mkF m 65 #[rv b62, rv r_2405, iv (0 : Int32), iv (2 : Int32)] [])) _
    refine XS.iconst X2999.here hx rfl (hb hby d13_65) ?_
    exact kt
  obtain ⟨fs, hr, hrun, hended, hW, hsame⟩ := X2999.leave (v := some (.int (1 : Int32))) (fun h => by rw [Bd.returns] at h; cases h)
  refine ⟨_, _, pre3006 _ (retN X2999 hx (t := .boolean) Bd.returns (by simp) (hb hby d13_66) hr), hrun, hended, _, _, rfl, ?_, ⟨_, rfl⟩, hW, hsame.mono (by decide) (by decide)⟩
  show Q_removeLast13_3 Z b62 r_2405 k109_68 b109_68 h0 n0 _ T2999.heap _
  rw [e2999]
  exact ⟨rfl, N2999, K2999, O2999, F3001, F3002, F3003, F3004, F3005⟩
def Q_law (Z : State) (p0 : Int32) (p1 : Int32) (p2 : Int32) (p3 : Int32) (ac : Addr) (mr : Addr) (a_NO_SLOTS : Addr) (kn : ClassId) (h0 : Heap) (n0 : Nat) (v : Option Value) (h : Heap) (L : List Loc) : Prop := v = some (.int (1 : Int32)) ∧ Fr n0 L
set_option maxRecDepth 65536 in
set_option maxHeartbeats 40000000 in
theorem rm_law (l : Launch) (Z : State) (a0 : Array Value) (hw : ∀ d ∈ tables_1, d.before a0 Z = true) (ws : List Jvm.Cond) (p0 : Int32) (p1 : Int32) (p2 : Int32) (p3 : Int32) (ac : Addr) (mr : Addr) (a_NO_SLOTS : Addr) (kn : ClassId) (h0 : Heap) (n0 : Nat) (O0 : Old Z n0 h0) (G0 : Sta Z Z.heap "java/lang/Integer$IntegerCache" "high" "I" (.int (127 : Int32))) (G1 : Sta Z Z.heap "java/lang/Integer$IntegerCache" "cache" "[Ljava/lang/Integer;" (.ref ac)) (G2 : own_cache Z ac) (G3 : own_mir Z "[Ljava/lang/Object;" mr) (G4 : Sta Z Z.heap "com/example/homethread/homethread/Items" "NO_SLOTS" "[Ljava/lang/Object;" (.ref a_NO_SLOTS)) (G5 : Exa Z Z.heap a_NO_SLOTS "[Ljava/lang/Object;") (G6 : Arv Z Z.heap a_NO_SLOTS kn (.object "java/lang/Object") (0 : Int32) [] .null) :
    MetFree l x (head1 (Jvm.Cond.code x code maxLocals ret :: ws) room_1) (fun a U => a = #[(.int p0), (.int p1), (.int p2), (.int p3)] ∧ Z.Warmed39 U.vm ∧ U.heap = h0) (fun _ _ _ _ _ => True) (fun _ U o U' => ∃ v L, o = .returned v ∧ Q_law Z p0 p1 p2 p3 ac mr a_NO_SLOTS kn h0 n0 v U'.heap L ∧ FrameEnd U o U' L room_1.cells room_1.slots) := by
  refine MetFree.of_bodySF (plainFor_of_name pn_7) hisR ?_
  intro p e s m args below meth c s₁ Bd hml0 hP hK
  have W := fun {d : Jvm.Cond} (i : Nat) (q : tables_1[i]? = some d) => hw d (List.mem_of_getElem? q)
  obtain ⟨rfl, hZ, hh⟩ := hP
  have hx := Bd.exec
  have hby := Bd.bytes
  have hml : c.maxLocals = 11 := hml0
  have hown : s.vm.findClass "com/example/homethread/homethread/ItemsIsEmptyPinLaw" = some m.cls := findClass_of_methodNamed Bd.named
  have hnm := (name_of_methodNamed Bd.named Bd.method).1
  have X0 : Stand p l e room_1 s m #[(.int p0), (.int p1), (.int p2), (.int p3)] below meth c s₁ [] 0 0 := Stand.of_body Bd
  have e0 : s₁.heap = h0 := by rw [← hh, Bd.state]; rfl
  have N0 := Fr.nil n0
  have pre0 : ∀ t, Steps p.tables e below (s₁.setTop (mkF m 0 #[iv p0, iv p1, iv p2, iv p3, .unset, .unset, .unset, .unset, .unset, .unset, .unset] [])) t → Steps p.tables e below (s₁.setTop (entryFrame m #[(.int p0), (.int p1), (.int p2), (.int p3)] maxLocals)) t := fun t k => castTop (ef_8 m p0 p1 p2 p3) k
  have K0 : Keep h0 h0 [] := Keep.refl h0 []
  obtain ⟨T62, h62, X62, e62, E62, A62, D62, -, st62⟩ := newO X0 hx hZ hown (W 0 rfl) (W 1 rfl) (W 2 rfl) e0 (g := (mkF m 0 #[iv p0, iv p1, iv p2, iv p3, .unset, .unset, .unset, .unset, .unset, .unset, .unset] [])) rfl (hb hby at_0) (by decide) (by decide)
  obtain ⟨b62, g62⟩ : ∃ z, z = h0.size := ⟨_, rfl⟩
  rw [← g62] at A62 D62 st62
  have pre63 : ∀ t, Steps p.tables e below (T62.setTop (mkF m 3 #[iv p0, iv p1, iv p2, iv p3, .unset, .unset, .unset, .unset, .unset, .unset, .unset] [(.ref b62)])) t → Steps p.tables e below (s₁.setTop (entryFrame m #[(.int p0), (.int p1), (.int p2), (.int p3)] maxLocals)) t := fun t kt => pre0 _ (st62 _ kt)
  have O62 := O0.ext E62
  have K62 : Keep h0 h62 [] := K0.ext E62
  have g_b62 : n0 ≤ b62 := Nat.le_trans (Nat.le_trans (Nat.le_of_eq O0.1.symm) O0.2.1) (Nat.le_of_eq g62.symm)
  have sz_b62 : h0.size ≤ b62 := Nat.le_trans K0.1 (Nat.le_of_eq g62.symm)
  have ne_a_NO_SLOTS_b62 : a_NO_SLOTS ≠ b62 := Nat.ne_of_lt (Nat.lt_of_lt_of_le (G5.ext O0.2).lt (Nat.le_of_eq g62.symm))
  have F64 : Exa Z h62 b62 "com/example/homethread/homethread/Items" := A62
  have F65 : Fld Z h62 b62 "com/example/homethread/homethread/Items" "slots" "[Ljava/lang/Object;" .null := D62 (Or.inl (W 12 rfl)) (ty := (.array (.object "java/lang/Object"))) (by decide)
  have F66 : Fld Z h62 b62 "com/example/homethread/homethread/Items" "size" "I" (.int (0 : Int32)) := D62 (Or.inl (W 19 rfl)) (ty := .int) (by decide)
  have pre67 : ∀ t, Steps p.tables e below (T62.setTop (mkF m 4 #[iv p0, iv p1, iv p2, iv p3, .unset, .unset, .unset, .unset, .unset, .unset, .unset] [(.ref b62), (.ref b62)])) t → Steps p.tables e below (s₁.setTop (entryFrame m #[(.int p0), (.int p1), (.int p2), (.int p3)] maxLocals)) t := fun t kt => by
    refine pre63 _ ?_
    show Steps p.tables e below (T62.setTop (mkF m 3 #[iv p0, iv p1, iv p2, iv p3, .unset, .unset, .unset, .unset, .unset, .unset, .unset] [(.ref b62)])) _
    refine XS.dup X62.here hx rfl (hb hby at_3) rfl rfl ?_
    exact kt
  obtain ⟨_, _, ⟨T68, L68, k68, n68⟩, -, X68, ⟨Lc68, hQ68, l68, y68, z68⟩, st68⟩ := X62.specialBack hx (y := (⟨"com/example/homethread/homethread/Items", "<init>", "()V"⟩ : MethodName)) rfl hown (mvT hZ (W 3 rfl)) (mvT hZ (W 4 rfl)) (mvT hZ (W 5 rfl)) (by decide) (backOf (W := 1) (rm_init1_0 l Z a0 hw [] b62 h62 n0 O62 g_b62 F64 F65 F66) hZ (W 5 rfl) (W 2 rfl) (by decide) (by decide)) (g := (mkF m 4 #[iv p0, iv p1, iv p2, iv p3, .unset, .unset, .unset, .unset, .unset, .unset, .unset] [(.ref b62), (.ref b62)])) rfl (by rw [hml]; rfl) (Steps.refl _) (a := b62) (argsL := []) (rest := [(.ref b62)]) (lenOf pd_4 rfl) rfl (by show 2 * 0 + _ ≤ _; exact Nat.le_of_eq rfl) (hb hby at_4) (fun _ _ => ⟨rfl, e62, (by decide : 1 + 1 ≤ _), (by decide : 2 + 16 ≤ _)⟩)
  dsimp only [Pt.U, Pt.locs, Pt.cells, Pt.slots] at X68 l68 y68 z68 st68 hQ68
  replace l68 := l68.symm
  replace y68 : 2 = k68 := y68.symm
  replace z68 : 18 = n68 := z68.symm
  subst l68 y68 z68
  obtain ⟨b109_68, k109_68, rfl, M68, Kc68, O68, J68_0, J68_1, J68_2, J68_3, J68_4, J68_5, P68_0⟩ := hQ68
  obtain ⟨h68, e68⟩ : ∃ z, T68.heap = z := ⟨_, rfl⟩
  rw [e68] at Kc68 O68 J68_0 J68_1 J68_2 J68_4 J68_5
  try rw [e68] at P68_0
  have N68 := Fr.app N0 M68
  have K68 : Keep h0 h68 [] := K62.trans Kc68 (own_all1 (Or.inr sz_b62))
  have pre123 : ∀ t, Steps p.tables e below (T68.setTop (mkF m 7 #[iv p0, iv p1, iv p2, iv p3, .unset, .unset, .unset, .unset, .unset, .unset, .unset] [(.ref b62)])) t → Steps p.tables e below (s₁.setTop (entryFrame m #[(.int p0), (.int p1), (.int p2), (.int p3)] maxLocals)) t := fun t kt => pre67 _ (st68.trans kt)
  have sz_b109_68 : h0.size ≤ b109_68 := Nat.le_trans K62.1 P68_0
  have ne_a_NO_SLOTS_b109_68 : a_NO_SLOTS ≠ b109_68 := Nat.ne_of_lt (Nat.lt_of_lt_of_le (G5.ext O62.2).lt P68_0)
  have ne_b62_b109_68 : b62 ≠ b109_68 := Nat.ne_of_lt (Nat.lt_of_lt_of_le F64.lt P68_0)
  have g_b109_68 : n0 ≤ b109_68 := Nat.le_trans (Nat.le_trans (Nat.le_of_eq O0.1.symm) O0.2.1) sz_b109_68
  have pre124 : ∀ t, Steps p.tables e below (T68.setTop (mkF m 11 #[iv p0, iv p1, iv p2, iv p3, rv b62, .unset, .unset, .unset, .unset, .unset, .unset] [(.ref b62)])) t → Steps p.tables e below (s₁.setTop (entryFrame m #[(.int p0), (.int p1), (.int p2), (.int p3)] maxLocals)) t := fun t kt => by
    refine pre123 _ ?_
    show Steps p.tables e below (T68.setTop (mkF m 7 #[iv p0, iv p1, iv p2, iv p3, .unset, .unset, .unset, .unset, .unset, .unset, .unset] [(.ref b62)])) _
    refine XS.astore X68.here hx rfl (hb hby at_7) rfl rfl (l' := #[iv p0, iv p1, iv p2, iv p3, rv b62, .unset, .unset, .unset, .unset, .unset, .unset]) rfl ?_
    refine XS.aload X68.here hx rfl (hb hby at_9) rfl rfl ?_
    exact kt
  obtain ⟨cq125, kq125, q125a, q125b, q125c⟩ := isOf hZ e68 J68_0
  obtain ⟨_, _, ⟨T125, L125, k125, n125⟩, -, X125, ⟨Lc125, hQ125, l125, y125, z125⟩, st125⟩ := X68.virtualBack hx (y := (⟨"com/example/homethread/homethread/Items", "isEmpty", "()Z"⟩ : MethodName)) (z := (⟨"com/example/homethread/homethread/Items", "isEmpty", "()Z"⟩ : MethodName)) hown (mvT hZ (W 13 rfl)) (mvT hZ (W 14 rfl)) (notFace_of_selects (args := #[]) (mvT hZ (W 16 rfl))) (mvT hZ (W 16 rfl)) (mvT hZ (W 15 rfl)) (by decide) (backOf (W := 0) (rm_isEmpty3_0 l Z a0 hw [] b62 h68 n0 O68 J68_1) hZ (W 17 rfl) (W 2 rfl) (by decide) (by decide)) q125a q125c (g := (mkF m 11 #[iv p0, iv p1, iv p2, iv p3, rv b62, .unset, .unset, .unset, .unset, .unset, .unset] [(.ref b62)])) rfl (by rw [hml]; rfl) (Steps.refl _) (argsL := []) (rest := []) (lenOf pd_12 rfl) rfl (by show 2 * 0 + _ ≤ _; exact Nat.le_of_eq rfl) (hb hby at_11) (fun _ _ => ⟨rfl, e68, (by decide : 2 + 0 ≤ _), (by decide : 18 + 0 ≤ _)⟩)
  dsimp only [Pt.U, Pt.locs, Pt.cells, Pt.slots] at X125 l125 y125 z125 st125 hQ125
  replace l125 := l125.symm
  replace y125 : 2 = k125 := y125.symm
  replace z125 : 18 = n125 := z125.symm
  subst l125 y125 z125
  obtain ⟨rfl, M125, e125⟩ := hQ125
  have N125 := Fr.app N68 M125
  have pre138 : ∀ t, Steps p.tables e below (T125.setTop (mkF m 14 #[iv p0, iv p1, iv p2, iv p3, rv b62, .unset, .unset, .unset, .unset, .unset, .unset] [(.int (1 : Int32))])) t → Steps p.tables e below (s₁.setTop (entryFrame m #[(.int p0), (.int p1), (.int p2), (.int p3)] maxLocals)) t := fun t kt => pre124 _ (st125.trans kt)
  have pre139 : ∀ t, Steps p.tables e below (T125.setTop (mkF m 19 #[iv p0, iv p1, iv p2, iv p3, rv b62, iv (1 : Int32), .unset, .unset, .unset, .unset, .unset] [(.int (p0 &&& (3 : Int32)))])) t → Steps p.tables e below (s₁.setTop (entryFrame m #[(.int p0), (.int p1), (.int p2), (.int p3)] maxLocals)) t := fun t kt => by
    refine pre138 _ ?_
    show Steps p.tables e below (T125.setTop (mkF m 14 #[iv p0, iv p1, iv p2, iv p3, rv b62, .unset, .unset, .unset, .unset, .unset, .unset] [(.int (1 : Int32))])) _
    refine XS.istore X125.here hx rfl (hb hby at_14) rfl (l' := #[iv p0, iv p1, iv p2, iv p3, rv b62, iv (1 : Int32), .unset, .unset, .unset, .unset, .unset]) rfl ?_
    refine XS.iloadN X125.here hx rfl (hb hby at_16) rfl ?_
    refine XS.iconst X125.here hx rfl (hb hby at_17) ?_
    refine XS.iand X125.here hx rfl (hb hby at_18) rfl ?_
    exact kt
  rcases own_mask3 p0 with hv140 | hv140 | hv140 | hv140
  · rw [hv140] at pre139
    have pre141 : ∀ t, Steps p.tables e below (T125.setTop (mkF m 22 #[iv p0, iv p1, iv p2, iv p3, rv b62, iv (1 : Int32), iv (0 : Int32), .unset, .unset, .unset, .unset] [(.int p1)])) t → Steps p.tables e below (s₁.setTop (entryFrame m #[(.int p0), (.int p1), (.int p2), (.int p3)] maxLocals)) t := fun t kt => by
      refine pre139 _ ?_
      show Steps p.tables e below (T125.setTop (mkF m 19 #[iv p0, iv p1, iv p2, iv p3, rv b62, iv (1 : Int32), .unset, .unset, .unset, .unset, .unset] [(.int (0 : Int32))])) _
      refine XS.istore X125.here hx rfl (hb hby at_19) rfl (l' := #[iv p0, iv p1, iv p2, iv p3, rv b62, iv (1 : Int32), iv (0 : Int32), .unset, .unset, .unset, .unset]) rfl ?_
      refine XS.iloadN X125.here hx rfl (hb hby at_21) rfl ?_
      exact kt
    obtain ⟨_, _, ⟨T142, L142, k142, n142⟩, -, X142, ⟨Lc142, hQ142, l142, y142, z142⟩, st142⟩ := Jvm.LawKit.callS X125 hx (y := (⟨"java/lang/Integer", "valueOf", "(I)Ljava/lang/Integer;"⟩ : MethodName)) hown (mvT hZ (W 20 rfl)) (mvT hZ (W 21 rfl)) (mvT hZ (W 22 rfl)) (mvT hZ (W 23 rfl)) (by decide) (backOf (W := 0) (rm_valueOf l Z a0 hw [] p1 ac h68 n0 O68 G0 G1 G2) hZ (W 23 rfl) (W 22 rfl) (by decide) (by decide)) (g := (mkF m 22 #[iv p0, iv p1, iv p2, iv p3, rv b62, iv (1 : Int32), iv (0 : Int32), .unset, .unset, .unset, .unset] [(.int p1)])) rfl (by rw [hml]; rfl) (argsL := [(.int p1)]) (rest := []) (lenOf pd_13 rfl) rfl (by show 2 * 0 + _ ≤ _; exact Nat.le_of_eq rfl) (hb hby at_22) (fun _ _ => ⟨rfl, e125, (by decide : 2 + 1 ≤ _), (by decide : 18 + 1 ≤ _)⟩)
    dsimp only [Pt.U, Pt.locs, Pt.cells, Pt.slots] at X142 l142 y142 z142 st142 hQ142
    replace l142 := l142.symm
    replace y142 : 3 = k142 := y142.symm
    replace z142 : 19 = n142 := z142.symm
    subst l142 y142 z142
    obtain ⟨r_142, rfl, M142, Kc142, O142, J142_0⟩ := hQ142
    obtain ⟨h142, e142⟩ : ∃ z, T142.heap = z := ⟨_, rfl⟩
    rw [e142] at Kc142 O142 J142_0
    have N142 := Fr.app N125 M142
    have K142 : Keep h0 h142 [] := K68.trans Kc142 (own_all0 )
    have pre143 : ∀ t, Steps p.tables e below (T142.setTop (mkF m 25 #[iv p0, iv p1, iv p2, iv p3, rv b62, iv (1 : Int32), iv (0 : Int32), .unset, .unset, .unset, .unset] [(.ref r_142)])) t → Steps p.tables e below (s₁.setTop (entryFrame m #[(.int p0), (.int p1), (.int p2), (.int p3)] maxLocals)) t := fun t kt => pre141 _ (st142 _ kt)
    have F144 := J68_0.keep Kc142
    have F145 := J68_1.keep Kc142 (own_nm0 )
    have F146 := J68_2.keep Kc142 (own_nm0 )
    have F147 := J68_4.keep Kc142
    have F148 := J68_5.keep Kc142 (own_nm0 )
    have pre149 : ∀ t, Steps p.tables e below (T142.setTop (mkF m 73 #[iv p0, iv p1, iv p2, iv p3, rv b62, iv (1 : Int32), iv (0 : Int32), rv r_142, .unset, .unset, .unset] [(.ref b62)])) t → Steps p.tables e below (s₁.setTop (entryFrame m #[(.int p0), (.int p1), (.int p2), (.int p3)] maxLocals)) t := fun t kt => by
      refine pre143 _ ?_
      show Steps p.tables e below (T142.setTop (mkF m 25 #[iv p0, iv p1, iv p2, iv p3, rv b62, iv (1 : Int32), iv (0 : Int32), .unset, .unset, .unset, .unset] [(.ref r_142)])) _
      refine XS.astore X142.here hx rfl (hb hby at_25) rfl rfl (l' := #[iv p0, iv p1, iv p2, iv p3, rv b62, iv (1 : Int32), iv (0 : Int32), rv r_142, .unset, .unset, .unset]) rfl ?_
      refine XS.iload X142.here hx rfl (hb hby at_27) rfl ?_
      refine XS.iconst X142.here hx rfl (hb hby at_29) ?_
      refine XS.icmpYes X142.here hx rfl (pc0 := 30) (pc' := 40) rfl (hb hby at_30) rfl (XT.ii_lt_t (by decide)) (by decide) (by decide) ?_
      show Steps p.tables e below (T142.setTop (mkF m 40 #[iv p0, iv p1, iv p2, iv p3, rv b62, iv (1 : Int32), iv (0 : Int32), rv r_142, .unset, .unset, .unset] [])) _
      refine XS.iload X142.here hx rfl (hb hby at_40) rfl ?_
      refine XS.iconst X142.here hx rfl (hb hby at_42) ?_
      refine XS.icmpYes X142.here hx rfl (pc0 := 43) (pc' := 53) rfl (hb hby at_43) rfl (XT.ii_lt_t (by decide)) (by decide) (by decide) ?_
      refine XS.iload X142.here hx rfl (hb hby at_53) rfl ?_
      show Steps p.tables e below (T142.setTop (mkF m 55 #[iv p0, iv p1, iv p2, iv p3, rv b62, iv (1 : Int32), iv (0 : Int32), rv r_142, .unset, .unset, .unset] [(.int (0 : Int32))])) _
      refine XS.iconst X142.here hx rfl (hb hby at_55) ?_
      refine XS.icmpYes X142.here hx rfl (pc0 := 56) (pc' := 66) rfl (hb hby at_56) rfl (XT.ii_lt_t (by decide)) (by decide) (by decide) ?_
      refine XS.iload X142.here hx rfl (hb hby at_66) rfl ?_
      refine XS.ifNo X142.here hx rfl (hb hby at_68) rfl (XT.i0_eq_f (by decide)) ?_
      show Steps p.tables e below (T142.setTop (mkF m 71 #[iv p0, iv p1, iv p2, iv p3, rv b62, iv (1 : Int32), iv (0 : Int32), rv r_142, .unset, .unset, .unset] [])) _
      refine XS.aload X142.here hx rfl (hb hby at_71) rfl rfl ?_
      exact kt
    obtain ⟨cq150, kq150, q150a, q150b, q150c⟩ := isOf hZ e142 F144
    obtain ⟨_, _, ⟨T150, L150, k150, n150⟩, -, X150, ⟨Lc150, hQ150, l150, y150, z150⟩, st150⟩ := X142.virtualBack hx (y := (⟨"com/example/homethread/homethread/Items", "isEmpty", "()Z"⟩ : MethodName)) (z := (⟨"com/example/homethread/homethread/Items", "isEmpty", "()Z"⟩ : MethodName)) hown (mvT hZ (W 13 rfl)) (mvT hZ (W 14 rfl)) (notFace_of_selects (args := #[]) (mvT hZ (W 16 rfl))) (mvT hZ (W 16 rfl)) (mvT hZ (W 15 rfl)) (by decide) (backOf (W := 0) (rm_isEmpty3_0 l Z a0 hw [] b62 h142 n0 O142 F145) hZ (W 17 rfl) (W 2 rfl) (by decide) (by decide)) q150a q150c (g := (mkF m 73 #[iv p0, iv p1, iv p2, iv p3, rv b62, iv (1 : Int32), iv (0 : Int32), rv r_142, .unset, .unset, .unset] [(.ref b62)])) rfl (by rw [hml]; rfl) (Steps.refl _) (argsL := []) (rest := []) (lenOf pd_12 rfl) rfl (by show 2 * 0 + _ ≤ _; exact Nat.le_of_eq rfl) (hb hby at_73) (fun _ _ => ⟨rfl, e142, (by decide : 3 + 0 ≤ _), (by decide : 19 + 0 ≤ _)⟩)
    dsimp only [Pt.U, Pt.locs, Pt.cells, Pt.slots] at X150 l150 y150 z150 st150 hQ150
    replace l150 := l150.symm
    replace y150 : 3 = k150 := y150.symm
    replace z150 : 19 = n150 := z150.symm
    subst l150 y150 z150
    obtain ⟨rfl, M150, e150⟩ := hQ150
    have N150 := Fr.app N142 M150
    have pre151 : ∀ t, Steps p.tables e below (T150.setTop (mkF m 76 #[iv p0, iv p1, iv p2, iv p3, rv b62, iv (1 : Int32), iv (0 : Int32), rv r_142, .unset, .unset, .unset] [(.int (1 : Int32))])) t → Steps p.tables e below (s₁.setTop (entryFrame m #[(.int p0), (.int p1), (.int p2), (.int p3)] maxLocals)) t := fun t kt => pre149 _ (st150.trans kt)
    have pre152 : ∀ t, Steps p.tables e below (T150.setTop (mkF m 99 #[iv p0, iv p1, iv p2, iv p3, rv b62, iv (1 : Int32), iv (0 : Int32), rv r_142, .unset, .unset, .unset] [(.int (p2 &&& (3 : Int32)))])) t → Steps p.tables e below (s₁.setTop (entryFrame m #[(.int p0), (.int p1), (.int p2), (.int p3)] maxLocals)) t := fun t kt => by
      refine pre151 _ ?_
      show Steps p.tables e below (T150.setTop (mkF m 76 #[iv p0, iv p1, iv p2, iv p3, rv b62, iv (1 : Int32), iv (0 : Int32), rv r_142, .unset, .unset, .unset] [(.int (1 : Int32))])) _
      refine XS.iload X150.here hx rfl (hb hby at_76) rfl ?_
      refine XS.ifNo X150.here hx rfl (hb hby at_78) rfl (XT.i0_ne_f (by decide)) ?_
      refine XS.iconst X150.here hx rfl (hb hby at_81) ?_
      refine XS.goto X150.here hx rfl (pc0 := 82) (pc' := 86) rfl (hb hby at_82) (by decide) (by decide) ?_
      show Steps p.tables e below (T150.setTop (mkF m 86 #[iv p0, iv p1, iv p2, iv p3, rv b62, iv (1 : Int32), iv (0 : Int32), rv r_142, .unset, .unset, .unset] [(.int (1 : Int32)), (.int (1 : Int32))])) _
      refine XS.icmpNo X150.here hx rfl (hb hby at_86) rfl (XT.ii_ne_f (by decide)) ?_
      refine XS.iconst X150.here hx rfl (hb hby at_89) ?_
      refine XS.goto X150.here hx rfl (pc0 := 90) (pc' := 94) rfl (hb hby at_90) (by decide) (by decide) ?_
      refine XS.istore X150.here hx rfl (hb hby at_94) rfl (l' := #[iv p0, iv p1, iv p2, iv p3, rv b62, iv (1 : Int32), iv (0 : Int32), rv r_142, .unset, .unset, .unset]) rfl ?_
      show Steps p.tables e below (T150.setTop (mkF m 96 #[iv p0, iv p1, iv p2, iv p3, rv b62, iv (1 : Int32), iv (0 : Int32), rv r_142, .unset, .unset, .unset] [])) _
      refine XS.iloadN X150.here hx rfl (hb hby at_96) rfl ?_
      refine XS.iconst X150.here hx rfl (hb hby at_97) ?_
      refine XS.iand X150.here hx rfl (hb hby at_98) rfl ?_
      exact kt
    rcases own_mask3 p2 with hv153 | hv153 | hv153 | hv153
    · rw [hv153] at pre152
      have pre154 : ∀ t, Steps p.tables e below (T150.setTop (mkF m 205 #[iv p0, iv p1, iv p2, iv p3, rv b62, iv (1 : Int32), iv (0 : Int32), rv r_142, iv (0 : Int32), iv (0 : Int32), .unset] [(.ref b62)])) t → Steps p.tables e below (s₁.setTop (entryFrame m #[(.int p0), (.int p1), (.int p2), (.int p3)] maxLocals)) t := fun t kt => by
        refine pre152 _ ?_
        show Steps p.tables e below (T150.setTop (mkF m 99 #[iv p0, iv p1, iv p2, iv p3, rv b62, iv (1 : Int32), iv (0 : Int32), rv r_142, .unset, .unset, .unset] [(.int (0 : Int32))])) _
        refine XS.istore X150.here hx rfl (hb hby at_99) rfl (l' := #[iv p0, iv p1, iv p2, iv p3, rv b62, iv (1 : Int32), iv (0 : Int32), rv r_142, iv (0 : Int32), .unset, .unset]) rfl ?_
        refine XS.iload X150.here hx rfl (hb hby at_101) rfl ?_
        refine XS.istore X150.here hx rfl (hb hby at_103) rfl (l' := #[iv p0, iv p1, iv p2, iv p3, rv b62, iv (1 : Int32), iv (0 : Int32), rv r_142, iv (0 : Int32), iv (0 : Int32), .unset]) rfl ?_
        refine XS.iload X150.here hx rfl (hb hby at_105) rfl ?_
        show Steps p.tables e below (T150.setTop (mkF m 107 #[iv p0, iv p1, iv p2, iv p3, rv b62, iv (1 : Int32), iv (0 : Int32), rv r_142, iv (0 : Int32), iv (0 : Int32), .unset] [(.int (0 : Int32))])) _
        refine XS.iconst X150.here hx rfl (hb hby at_107) ?_
        refine XS.icmpYes X150.here hx rfl (pc0 := 108) (pc' := 122) rfl (hb hby at_108) rfl (XT.ii_ne_t (by decide)) (by decide) (by decide) ?_
        refine XS.iload X150.here hx rfl (hb hby at_122) rfl ?_
        refine XS.iconst X150.here hx rfl (hb hby at_124) ?_
        show Steps p.tables e below (T150.setTop (mkF m 125 #[iv p0, iv p1, iv p2, iv p3, rv b62, iv (1 : Int32), iv (0 : Int32), rv r_142, iv (0 : Int32), iv (0 : Int32), .unset] [(.int (2 : Int32)), (.int (0 : Int32))])) _
        refine XS.icmpYes X150.here hx rfl (pc0 := 125) (pc' := 140) rfl (hb hby at_125) rfl (XT.ii_ne_t (by decide)) (by decide) (by decide) ?_
        refine XS.iload X150.here hx rfl (hb hby at_140) rfl ?_
        refine XS.iconst X150.here hx rfl (hb hby at_142) ?_
        refine XS.icmpYes X150.here hx rfl (pc0 := 143) (pc' := 198) rfl (hb hby at_143) rfl (XT.ii_ne_t (by decide)) (by decide) (by decide) ?_
        show Steps p.tables e below (T150.setTop (mkF m 198 #[iv p0, iv p1, iv p2, iv p3, rv b62, iv (1 : Int32), iv (0 : Int32), rv r_142, iv (0 : Int32), iv (0 : Int32), .unset] [])) _
        refine XS.iload X150.here hx rfl (hb hby at_198) rfl ?_
        refine XS.ifNo X150.here hx rfl (hb hby at_200) rfl (XT.i0_eq_f (by decide)) ?_
        refine XS.aload X150.here hx rfl (hb hby at_203) rfl rfl ?_
        exact kt
      obtain ⟨cq155, kq155, q155a, q155b, q155c⟩ := isOf hZ e150 F144
      obtain ⟨_, _, ⟨T155, L155, k155, n155⟩, -, X155, ⟨Lc155, hQ155, l155, y155, z155⟩, st155⟩ := X150.virtualBack hx (y := (⟨"com/example/homethread/homethread/Items", "isEmpty", "()Z"⟩ : MethodName)) (z := (⟨"com/example/homethread/homethread/Items", "isEmpty", "()Z"⟩ : MethodName)) hown (mvT hZ (W 13 rfl)) (mvT hZ (W 14 rfl)) (notFace_of_selects (args := #[]) (mvT hZ (W 16 rfl))) (mvT hZ (W 16 rfl)) (mvT hZ (W 15 rfl)) (by decide) (backOf (W := 0) (rm_isEmpty3_0 l Z a0 hw [] b62 h142 n0 O142 F145) hZ (W 17 rfl) (W 2 rfl) (by decide) (by decide)) q155a q155c (g := (mkF m 205 #[iv p0, iv p1, iv p2, iv p3, rv b62, iv (1 : Int32), iv (0 : Int32), rv r_142, iv (0 : Int32), iv (0 : Int32), .unset] [(.ref b62)])) rfl (by rw [hml]; rfl) (Steps.refl _) (argsL := []) (rest := []) (lenOf pd_12 rfl) rfl (by show 2 * 0 + _ ≤ _; exact Nat.le_of_eq rfl) (hb hby at_205) (fun _ _ => ⟨rfl, e150, (by decide : 3 + 0 ≤ _), (by decide : 19 + 0 ≤ _)⟩)
      dsimp only [Pt.U, Pt.locs, Pt.cells, Pt.slots] at X155 l155 y155 z155 st155 hQ155
      replace l155 := l155.symm
      replace y155 : 3 = k155 := y155.symm
      replace z155 : 19 = n155 := z155.symm
      subst l155 y155 z155
      obtain ⟨rfl, M155, e155⟩ := hQ155
      have N155 := Fr.app N150 M155
      have pre156 : ∀ t, Steps p.tables e below (T155.setTop (mkF m 208 #[iv p0, iv p1, iv p2, iv p3, rv b62, iv (1 : Int32), iv (0 : Int32), rv r_142, iv (0 : Int32), iv (0 : Int32), .unset] [(.int (1 : Int32))])) t → Steps p.tables e below (s₁.setTop (entryFrame m #[(.int p0), (.int p1), (.int p2), (.int p3)] maxLocals)) t := fun t kt => pre154 _ (st155.trans kt)
      have pre157 : ∀ t, Steps p.tables e below (T155.setTop (mkF m 232 #[iv p0, iv p1, iv p2, iv p3, rv b62, iv (1 : Int32), iv (0 : Int32), rv r_142, iv (0 : Int32), iv (0 : Int32), .unset] [(.ref r_142), (.ref b62)])) t → Steps p.tables e below (s₁.setTop (entryFrame m #[(.int p0), (.int p1), (.int p2), (.int p3)] maxLocals)) t := fun t kt => by
        refine pre156 _ ?_
        show Steps p.tables e below (T155.setTop (mkF m 208 #[iv p0, iv p1, iv p2, iv p3, rv b62, iv (1 : Int32), iv (0 : Int32), rv r_142, iv (0 : Int32), iv (0 : Int32), .unset] [(.int (1 : Int32))])) _
        refine XS.iload X155.here hx rfl (hb hby at_208) rfl ?_
        refine XS.ifNo X155.here hx rfl (hb hby at_210) rfl (XT.i0_ne_f (by decide)) ?_
        refine XS.iconst X155.here hx rfl (hb hby at_213) ?_
        refine XS.goto X155.here hx rfl (pc0 := 214) (pc' := 218) rfl (hb hby at_214) (by decide) (by decide) ?_
        show Steps p.tables e below (T155.setTop (mkF m 218 #[iv p0, iv p1, iv p2, iv p3, rv b62, iv (1 : Int32), iv (0 : Int32), rv r_142, iv (0 : Int32), iv (0 : Int32), .unset] [(.int (1 : Int32)), (.int (1 : Int32))])) _
        refine XS.icmpNo X155.here hx rfl (hb hby at_218) rfl (XT.ii_ne_f (by decide)) ?_
        refine XS.iconst X155.here hx rfl (hb hby at_221) ?_
        refine XS.goto X155.here hx rfl (pc0 := 222) (pc' := 226) rfl (hb hby at_222) (by decide) (by decide) ?_
        refine XS.istore X155.here hx rfl (hb hby at_226) rfl (l' := #[iv p0, iv p1, iv p2, iv p3, rv b62, iv (1 : Int32), iv (0 : Int32), rv r_142, iv (0 : Int32), iv (0 : Int32), .unset]) rfl ?_
        show Steps p.tables e below (T155.setTop (mkF m 228 #[iv p0, iv p1, iv p2, iv p3, rv b62, iv (1 : Int32), iv (0 : Int32), rv r_142, iv (0 : Int32), iv (0 : Int32), .unset] [])) _
        refine XS.aload X155.here hx rfl (hb hby at_228) rfl rfl ?_
        refine XS.aload X155.here hx rfl (hb hby at_230) rfl rfl ?_
        exact kt
      obtain ⟨cq158, kq158, q158a, q158b, q158c⟩ := isOf hZ e155 F144
      obtain ⟨_, _, ⟨T158, L158, k158, n158⟩, -, X158, ⟨Lc158, hQ158, l158, y158, z158⟩, st158⟩ := X155.virtualBack hx (y := (⟨"com/example/homethread/homethread/Items", "add", "(Ljava/lang/Object;)V"⟩ : MethodName)) (z := (⟨"com/example/homethread/homethread/Items", "add", "(Ljava/lang/Object;)V"⟩ : MethodName)) hown (mvT hZ (W 34 rfl)) (mvT hZ (W 35 rfl)) (notFace_of_selects (args := #[]) (mvT hZ (W 37 rfl))) (mvT hZ (W 37 rfl)) (mvT hZ (W 36 rfl)) (by decide) (backOf (W := 0) (rm_add6_0 l Z a0 hw [] b62 r_142 b109_68 k109_68 h142 n0 O142 g_b62 g_b109_68 F144 F145 F146 J68_3 F147 F148 J142_0 (fun q => ne_b62_b109_68 q.symm)) hZ (W 38 rfl) (W 2 rfl) (by decide) (by decide)) q158a q158c (g := (mkF m 232 #[iv p0, iv p1, iv p2, iv p3, rv b62, iv (1 : Int32), iv (0 : Int32), rv r_142, iv (0 : Int32), iv (0 : Int32), .unset] [(.ref r_142), (.ref b62)])) rfl (by rw [hml]; rfl) (Steps.refl _) (argsL := [(.ref r_142)]) (rest := []) (lenOf pd_15 rfl) rfl (by show 2 * 0 + _ ≤ _; exact Nat.le_of_eq rfl) (hb hby at_232) (fun _ _ => ⟨rfl, e155, (by decide : 3 + 0 ≤ _), (by decide : 19 + 0 ≤ _)⟩)
      dsimp only [Pt.U, Pt.locs, Pt.cells, Pt.slots] at X158 l158 y158 z158 st158 hQ158
      replace l158 := l158.symm
      replace y158 : 3 = k158 := y158.symm
      replace z158 : 19 = n158 := z158.symm
      subst l158 y158 z158
      obtain ⟨rfl, M158, Kc158, O158, J158_0, J158_1, J158_2, J158_3, J158_4⟩ := hQ158
      obtain ⟨h158, e158⟩ : ∃ z, T158.heap = z := ⟨_, rfl⟩
      rw [e158] at Kc158 O158 J158_0 J158_1 J158_2 J158_3 J158_4
      have N158 := Fr.app N155 M158
      have K158 : Keep h0 h158 [] := K142.trans Kc158 (own_all2 (Or.inr sz_b62) (Or.inr sz_b109_68))
      have pre264 : ∀ t, Steps p.tables e below (T158.setTop (mkF m 235 #[iv p0, iv p1, iv p2, iv p3, rv b62, iv (1 : Int32), iv (0 : Int32), rv r_142, iv (0 : Int32), iv (0 : Int32), .unset] [])) t → Steps p.tables e below (s₁.setTop (entryFrame m #[(.int p0), (.int p1), (.int p2), (.int p3)] maxLocals)) t := fun t kt => pre157 _ (st158.trans kt)
      have F265 := J142_0.keep Kc158
      have pre266 : ∀ t, Steps p.tables e below (T158.setTop (mkF m 242 #[iv p0, iv p1, iv p2, iv p3, rv b62, iv (1 : Int32), iv (0 : Int32), rv r_142, iv (0 : Int32), iv (0 : Int32), .unset] [(.ref b62)])) t → Steps p.tables e below (s₁.setTop (entryFrame m #[(.int p0), (.int p1), (.int p2), (.int p3)] maxLocals)) t := fun t kt => by
        refine pre264 _ ?_
        show Steps p.tables e below (T158.setTop (mkF m 235 #[iv p0, iv p1, iv p2, iv p3, rv b62, iv (1 : Int32), iv (0 : Int32), rv r_142, iv (0 : Int32), iv (0 : Int32), .unset] [])) _
        refine XS.iload X158.here hx rfl (hb hby at_235) rfl ?_
        refine XS.ifNo X158.here hx rfl (hb hby at_237) rfl (XT.i0_eq_f (by decide)) ?_
        refine XS.aload X158.here hx rfl (hb hby at_240) rfl rfl ?_
        exact kt
      obtain ⟨cq267, kq267, q267a, q267b, q267c⟩ := isOf hZ e158 J158_0
      obtain ⟨_, _, ⟨T267, L267, k267, n267⟩, -, X267, ⟨Lc267, hQ267, l267, y267, z267⟩, st267⟩ := X158.virtualBack hx (y := (⟨"com/example/homethread/homethread/Items", "isEmpty", "()Z"⟩ : MethodName)) (z := (⟨"com/example/homethread/homethread/Items", "isEmpty", "()Z"⟩ : MethodName)) hown (mvT hZ (W 13 rfl)) (mvT hZ (W 14 rfl)) (notFace_of_selects (args := #[]) (mvT hZ (W 16 rfl))) (mvT hZ (W 16 rfl)) (mvT hZ (W 15 rfl)) (by decide) (backOf (W := 0) (rm_isEmpty3_1 l Z a0 hw [] b62 h158 n0 O158 J158_4) hZ (W 17 rfl) (W 2 rfl) (by decide) (by decide)) q267a q267c (g := (mkF m 242 #[iv p0, iv p1, iv p2, iv p3, rv b62, iv (1 : Int32), iv (0 : Int32), rv r_142, iv (0 : Int32), iv (0 : Int32), .unset] [(.ref b62)])) rfl (by rw [hml]; rfl) (Steps.refl _) (argsL := []) (rest := []) (lenOf pd_12 rfl) rfl (by show 2 * 0 + _ ≤ _; exact Nat.le_of_eq rfl) (hb hby at_242) (fun _ _ => ⟨rfl, e158, (by decide : 3 + 0 ≤ _), (by decide : 19 + 0 ≤ _)⟩)
      dsimp only [Pt.U, Pt.locs, Pt.cells, Pt.slots] at X267 l267 y267 z267 st267 hQ267
      replace l267 := l267.symm
      replace y267 : 3 = k267 := y267.symm
      replace z267 : 19 = n267 := z267.symm
      subst l267 y267 z267
      obtain ⟨rfl, M267, e267⟩ := hQ267
      have N267 := Fr.app N158 M267
      have pre280 : ∀ t, Steps p.tables e below (T267.setTop (mkF m 245 #[iv p0, iv p1, iv p2, iv p3, rv b62, iv (1 : Int32), iv (0 : Int32), rv r_142, iv (0 : Int32), iv (0 : Int32), .unset] [(.int (0 : Int32))])) t → Steps p.tables e below (s₁.setTop (entryFrame m #[(.int p0), (.int p1), (.int p2), (.int p3)] maxLocals)) t := fun t kt => pre266 _ (st267.trans kt)
      have pre281 : ∀ t, Steps p.tables e below (T267.setTop (mkF m 257 #[iv p0, iv p1, iv p2, iv p3, rv b62, iv (1 : Int32), iv (0 : Int32), rv r_142, iv (0 : Int32), iv (0 : Int32), .unset] [(.int (1 : Int32))])) t → Steps p.tables e below (s₁.setTop (entryFrame m #[(.int p0), (.int p1), (.int p2), (.int p3)] maxLocals)) t := fun t kt => by
        refine pre280 _ ?_
        show Steps p.tables e below (T267.setTop (mkF m 245 #[iv p0, iv p1, iv p2, iv p3, rv b62, iv (1 : Int32), iv (0 : Int32), rv r_142, iv (0 : Int32), iv (0 : Int32), .unset] [(.int (0 : Int32))])) _
        refine XS.ifNo X267.here hx rfl (hb hby at_245) rfl (XT.i0_ne_f (by decide)) ?_
        refine XS.iconst X267.here hx rfl (hb hby at_248) ?_
        refine XS.goto X267.here hx rfl (pc0 := 249) (pc' := 253) rfl (hb hby at_249) (by decide) (by decide) ?_
        refine XS.istore X267.here hx rfl (hb hby at_253) rfl (l' := #[iv p0, iv p1, iv p2, iv p3, rv b62, iv (1 : Int32), iv (0 : Int32), rv r_142, iv (0 : Int32), iv (0 : Int32), .unset]) rfl ?_
        show Steps p.tables e below (T267.setTop (mkF m 255 #[iv p0, iv p1, iv p2, iv p3, rv b62, iv (1 : Int32), iv (0 : Int32), rv r_142, iv (0 : Int32), iv (0 : Int32), .unset] [])) _
        refine XS.iload X267.here hx rfl (hb hby at_255) rfl ?_
        exact kt
      obtain ⟨fs, hr, hrun, hended, hW, hsame⟩ := X267.leave (v := some (.int (1 : Int32))) (fun h => by rw [Bd.returns] at h; cases h)
      refine ⟨_, _, pre281 _ (retN X267 hx (t := .boolean) Bd.returns (by simp) (hb hby at_257) hr), hrun, hended, _, _, rfl, ?_, ⟨_, rfl⟩, hW, hsame.mono (by decide) (by decide)⟩
      show Q_law Z p0 p1 p2 p3 ac mr a_NO_SLOTS kn h0 n0 _ T267.heap _
      rw [e267]
      exact ⟨rfl, N267⟩
    · rw [hv153] at pre152
      have pre282 : ∀ t, Steps p.tables e below (T150.setTop (mkF m 113 #[iv p0, iv p1, iv p2, iv p3, rv b62, iv (1 : Int32), iv (0 : Int32), rv r_142, iv (1 : Int32), iv (0 : Int32), .unset] [(.ref b62)])) t → Steps p.tables e below (s₁.setTop (entryFrame m #[(.int p0), (.int p1), (.int p2), (.int p3)] maxLocals)) t := fun t kt => by
        refine pre152 _ ?_
        show Steps p.tables e below (T150.setTop (mkF m 99 #[iv p0, iv p1, iv p2, iv p3, rv b62, iv (1 : Int32), iv (0 : Int32), rv r_142, .unset, .unset, .unset] [(.int (1 : Int32))])) _
        refine XS.istore X150.here hx rfl (hb hby at_99) rfl (l' := #[iv p0, iv p1, iv p2, iv p3, rv b62, iv (1 : Int32), iv (0 : Int32), rv r_142, iv (1 : Int32), .unset, .unset]) rfl ?_
        refine XS.iload X150.here hx rfl (hb hby at_101) rfl ?_
        refine XS.istore X150.here hx rfl (hb hby at_103) rfl (l' := #[iv p0, iv p1, iv p2, iv p3, rv b62, iv (1 : Int32), iv (0 : Int32), rv r_142, iv (1 : Int32), iv (0 : Int32), .unset]) rfl ?_
        refine XS.iload X150.here hx rfl (hb hby at_105) rfl ?_
        show Steps p.tables e below (T150.setTop (mkF m 107 #[iv p0, iv p1, iv p2, iv p3, rv b62, iv (1 : Int32), iv (0 : Int32), rv r_142, iv (1 : Int32), iv (0 : Int32), .unset] [(.int (1 : Int32))])) _
        refine XS.iconst X150.here hx rfl (hb hby at_107) ?_
        refine XS.icmpNo X150.here hx rfl (hb hby at_108) rfl (XT.ii_ne_f (by decide)) ?_
        refine XS.aload X150.here hx rfl (hb hby at_111) rfl rfl ?_
        exact kt
      obtain ⟨cq283, kq283, q283a, q283b, q283c⟩ := isOf hZ e150 F144
      obtain ⟨_, _, ⟨T283, L283, k283, n283⟩, -, X283, ⟨Lc283, hQ283, l283, y283, z283⟩, st283⟩ := X150.virtualBack hx (y := (⟨"com/example/homethread/homethread/Items", "clear", "()V"⟩ : MethodName)) (z := (⟨"com/example/homethread/homethread/Items", "clear", "()V"⟩ : MethodName)) hown (mvT hZ (W 87 rfl)) (mvT hZ (W 88 rfl)) (notFace_of_selects (args := #[]) (mvT hZ (W 90 rfl))) (mvT hZ (W 90 rfl)) (mvT hZ (W 89 rfl)) (by decide) (backOf (W := 0) (rm_clear14_0 l Z a0 hw [] b62 b109_68 h142 n0 O142 g_b62 F144 F145 F148) hZ (W 91 rfl) (W 2 rfl) (by decide) (by decide)) q283a q283c (g := (mkF m 113 #[iv p0, iv p1, iv p2, iv p3, rv b62, iv (1 : Int32), iv (0 : Int32), rv r_142, iv (1 : Int32), iv (0 : Int32), .unset] [(.ref b62)])) rfl (by rw [hml]; rfl) (Steps.refl _) (argsL := []) (rest := []) (lenOf pd_4 rfl) rfl (by show 2 * 0 + _ ≤ _; exact Nat.le_of_eq rfl) (hb hby at_113) (fun _ _ => ⟨rfl, e150, (by decide : 3 + 0 ≤ _), (by decide : 19 + 0 ≤ _)⟩)
      dsimp only [Pt.U, Pt.locs, Pt.cells, Pt.slots] at X283 l283 y283 z283 st283 hQ283
      replace l283 := l283.symm
      replace y283 : 3 = k283 := y283.symm
      replace z283 : 19 = n283 := z283.symm
      subst l283 y283 z283
      obtain ⟨rfl, M283, Kc283, O283, J283_0, J283_1, J283_2⟩ := hQ283
      obtain ⟨h283, e283⟩ : ∃ z, T283.heap = z := ⟨_, rfl⟩
      rw [e283] at Kc283 O283 J283_0 J283_1 J283_2
      have N283 := Fr.app N150 M283
      have K283 : Keep h0 h283 [] := K142.trans Kc283 (own_all1 (Or.inr sz_b62))
      have pre311 : ∀ t, Steps p.tables e below (T283.setTop (mkF m 116 #[iv p0, iv p1, iv p2, iv p3, rv b62, iv (1 : Int32), iv (0 : Int32), rv r_142, iv (1 : Int32), iv (0 : Int32), .unset] [])) t → Steps p.tables e below (s₁.setTop (entryFrame m #[(.int p0), (.int p1), (.int p2), (.int p3)] maxLocals)) t := fun t kt => pre282 _ (st283.trans kt)
      have F312 := F146.keep Kc283 (own_nm1 (fun q => ne_b62_b109_68 q.symm))
      have F313 := F147.keep Kc283
      have F314 := J142_0.keep Kc283
      have pre315 : ∀ t, Steps p.tables e below (T283.setTop (mkF m 205 #[iv p0, iv p1, iv p2, iv p3, rv b62, iv (1 : Int32), iv (0 : Int32), rv r_142, iv (1 : Int32), iv (0 : Int32), .unset] [(.ref b62)])) t → Steps p.tables e below (s₁.setTop (entryFrame m #[(.int p0), (.int p1), (.int p2), (.int p3)] maxLocals)) t := fun t kt => by
        refine pre311 _ ?_
        show Steps p.tables e below (T283.setTop (mkF m 116 #[iv p0, iv p1, iv p2, iv p3, rv b62, iv (1 : Int32), iv (0 : Int32), rv r_142, iv (1 : Int32), iv (0 : Int32), .unset] [])) _
        refine XS.iconst X283.here hx rfl (hb hby at_116) ?_
        refine XS.istore X283.here hx rfl (hb hby at_117) rfl (l' := #[iv p0, iv p1, iv p2, iv p3, rv b62, iv (1 : Int32), iv (0 : Int32), rv r_142, iv (1 : Int32), iv (0 : Int32), .unset]) rfl ?_
        refine XS.goto X283.here hx rfl (pc0 := 119) (pc' := 198) rfl (hb hby at_119) (by decide) (by decide) ?_
        refine XS.iload X283.here hx rfl (hb hby at_198) rfl ?_
        show Steps p.tables e below (T283.setTop (mkF m 200 #[iv p0, iv p1, iv p2, iv p3, rv b62, iv (1 : Int32), iv (0 : Int32), rv r_142, iv (1 : Int32), iv (0 : Int32), .unset] [(.int (1 : Int32))])) _
        refine XS.ifNo X283.here hx rfl (hb hby at_200) rfl (XT.i0_eq_f (by decide)) ?_
        refine XS.aload X283.here hx rfl (hb hby at_203) rfl rfl ?_
        exact kt
      obtain ⟨cq316, kq316, q316a, q316b, q316c⟩ := isOf hZ e283 J283_0
      obtain ⟨_, _, ⟨T316, L316, k316, n316⟩, -, X316, ⟨Lc316, hQ316, l316, y316, z316⟩, st316⟩ := X283.virtualBack hx (y := (⟨"com/example/homethread/homethread/Items", "isEmpty", "()Z"⟩ : MethodName)) (z := (⟨"com/example/homethread/homethread/Items", "isEmpty", "()Z"⟩ : MethodName)) hown (mvT hZ (W 13 rfl)) (mvT hZ (W 14 rfl)) (notFace_of_selects (args := #[]) (mvT hZ (W 16 rfl))) (mvT hZ (W 16 rfl)) (mvT hZ (W 15 rfl)) (by decide) (backOf (W := 0) (rm_isEmpty3_0 l Z a0 hw [] b62 h283 n0 O283 J283_2) hZ (W 17 rfl) (W 2 rfl) (by decide) (by decide)) q316a q316c (g := (mkF m 205 #[iv p0, iv p1, iv p2, iv p3, rv b62, iv (1 : Int32), iv (0 : Int32), rv r_142, iv (1 : Int32), iv (0 : Int32), .unset] [(.ref b62)])) rfl (by rw [hml]; rfl) (Steps.refl _) (argsL := []) (rest := []) (lenOf pd_12 rfl) rfl (by show 2 * 0 + _ ≤ _; exact Nat.le_of_eq rfl) (hb hby at_205) (fun _ _ => ⟨rfl, e283, (by decide : 3 + 0 ≤ _), (by decide : 19 + 0 ≤ _)⟩)
      dsimp only [Pt.U, Pt.locs, Pt.cells, Pt.slots] at X316 l316 y316 z316 st316 hQ316
      replace l316 := l316.symm
      replace y316 : 3 = k316 := y316.symm
      replace z316 : 19 = n316 := z316.symm
      subst l316 y316 z316
      obtain ⟨rfl, M316, e316⟩ := hQ316
      have N316 := Fr.app N283 M316
      have pre317 : ∀ t, Steps p.tables e below (T316.setTop (mkF m 208 #[iv p0, iv p1, iv p2, iv p3, rv b62, iv (1 : Int32), iv (0 : Int32), rv r_142, iv (1 : Int32), iv (0 : Int32), .unset] [(.int (1 : Int32))])) t → Steps p.tables e below (s₁.setTop (entryFrame m #[(.int p0), (.int p1), (.int p2), (.int p3)] maxLocals)) t := fun t kt => pre315 _ (st316.trans kt)
      have pre318 : ∀ t, Steps p.tables e below (T316.setTop (mkF m 232 #[iv p0, iv p1, iv p2, iv p3, rv b62, iv (1 : Int32), iv (0 : Int32), rv r_142, iv (1 : Int32), iv (0 : Int32), .unset] [(.ref r_142), (.ref b62)])) t → Steps p.tables e below (s₁.setTop (entryFrame m #[(.int p0), (.int p1), (.int p2), (.int p3)] maxLocals)) t := fun t kt => by
        refine pre317 _ ?_
        show Steps p.tables e below (T316.setTop (mkF m 208 #[iv p0, iv p1, iv p2, iv p3, rv b62, iv (1 : Int32), iv (0 : Int32), rv r_142, iv (1 : Int32), iv (0 : Int32), .unset] [(.int (1 : Int32))])) _
        refine XS.iload X316.here hx rfl (hb hby at_208) rfl ?_
        refine XS.ifNo X316.here hx rfl (hb hby at_210) rfl (XT.i0_ne_f (by decide)) ?_
        refine XS.iconst X316.here hx rfl (hb hby at_213) ?_
        refine XS.goto X316.here hx rfl (pc0 := 214) (pc' := 218) rfl (hb hby at_214) (by decide) (by decide) ?_
        show Steps p.tables e below (T316.setTop (mkF m 218 #[iv p0, iv p1, iv p2, iv p3, rv b62, iv (1 : Int32), iv (0 : Int32), rv r_142, iv (1 : Int32), iv (0 : Int32), .unset] [(.int (1 : Int32)), (.int (1 : Int32))])) _
        refine XS.icmpNo X316.here hx rfl (hb hby at_218) rfl (XT.ii_ne_f (by decide)) ?_
        refine XS.iconst X316.here hx rfl (hb hby at_221) ?_
        refine XS.goto X316.here hx rfl (pc0 := 222) (pc' := 226) rfl (hb hby at_222) (by decide) (by decide) ?_
        refine XS.istore X316.here hx rfl (hb hby at_226) rfl (l' := #[iv p0, iv p1, iv p2, iv p3, rv b62, iv (1 : Int32), iv (0 : Int32), rv r_142, iv (1 : Int32), iv (0 : Int32), .unset]) rfl ?_
        show Steps p.tables e below (T316.setTop (mkF m 228 #[iv p0, iv p1, iv p2, iv p3, rv b62, iv (1 : Int32), iv (0 : Int32), rv r_142, iv (1 : Int32), iv (0 : Int32), .unset] [])) _
        refine XS.aload X316.here hx rfl (hb hby at_228) rfl rfl ?_
        refine XS.aload X316.here hx rfl (hb hby at_230) rfl rfl ?_
        exact kt
      obtain ⟨cq319, kq319, q319a, q319b, q319c⟩ := isOf hZ e316 J283_0
      obtain ⟨_, _, ⟨T319, L319, k319, n319⟩, -, X319, ⟨Lc319, hQ319, l319, y319, z319⟩, st319⟩ := X316.virtualBack hx (y := (⟨"com/example/homethread/homethread/Items", "add", "(Ljava/lang/Object;)V"⟩ : MethodName)) (z := (⟨"com/example/homethread/homethread/Items", "add", "(Ljava/lang/Object;)V"⟩ : MethodName)) hown (mvT hZ (W 34 rfl)) (mvT hZ (W 35 rfl)) (notFace_of_selects (args := #[]) (mvT hZ (W 37 rfl))) (mvT hZ (W 37 rfl)) (mvT hZ (W 36 rfl)) (by decide) (backOf (W := 0) (rm_add6_0 l Z a0 hw [] b62 r_142 b109_68 k109_68 h283 n0 O283 g_b62 g_b109_68 J283_0 J283_2 F312 J68_3 F313 J283_1 F314 (fun q => ne_b62_b109_68 q.symm)) hZ (W 38 rfl) (W 2 rfl) (by decide) (by decide)) q319a q319c (g := (mkF m 232 #[iv p0, iv p1, iv p2, iv p3, rv b62, iv (1 : Int32), iv (0 : Int32), rv r_142, iv (1 : Int32), iv (0 : Int32), .unset] [(.ref r_142), (.ref b62)])) rfl (by rw [hml]; rfl) (Steps.refl _) (argsL := [(.ref r_142)]) (rest := []) (lenOf pd_15 rfl) rfl (by show 2 * 0 + _ ≤ _; exact Nat.le_of_eq rfl) (hb hby at_232) (fun _ _ => ⟨rfl, e316, (by decide : 3 + 0 ≤ _), (by decide : 19 + 0 ≤ _)⟩)
      dsimp only [Pt.U, Pt.locs, Pt.cells, Pt.slots] at X319 l319 y319 z319 st319 hQ319
      replace l319 := l319.symm
      replace y319 : 3 = k319 := y319.symm
      replace z319 : 19 = n319 := z319.symm
      subst l319 y319 z319
      obtain ⟨rfl, M319, Kc319, O319, J319_0, J319_1, J319_2, J319_3, J319_4⟩ := hQ319
      obtain ⟨h319, e319⟩ : ∃ z, T319.heap = z := ⟨_, rfl⟩
      rw [e319] at Kc319 O319 J319_0 J319_1 J319_2 J319_3 J319_4
      have N319 := Fr.app N316 M319
      have K319 : Keep h0 h319 [] := K283.trans Kc319 (own_all2 (Or.inr sz_b62) (Or.inr sz_b109_68))
      have pre320 : ∀ t, Steps p.tables e below (T319.setTop (mkF m 235 #[iv p0, iv p1, iv p2, iv p3, rv b62, iv (1 : Int32), iv (0 : Int32), rv r_142, iv (1 : Int32), iv (0 : Int32), .unset] [])) t → Steps p.tables e below (s₁.setTop (entryFrame m #[(.int p0), (.int p1), (.int p2), (.int p3)] maxLocals)) t := fun t kt => pre318 _ (st319.trans kt)
      have F321 := F314.keep Kc319
      have pre322 : ∀ t, Steps p.tables e below (T319.setTop (mkF m 242 #[iv p0, iv p1, iv p2, iv p3, rv b62, iv (1 : Int32), iv (0 : Int32), rv r_142, iv (1 : Int32), iv (0 : Int32), .unset] [(.ref b62)])) t → Steps p.tables e below (s₁.setTop (entryFrame m #[(.int p0), (.int p1), (.int p2), (.int p3)] maxLocals)) t := fun t kt => by
        refine pre320 _ ?_
        show Steps p.tables e below (T319.setTop (mkF m 235 #[iv p0, iv p1, iv p2, iv p3, rv b62, iv (1 : Int32), iv (0 : Int32), rv r_142, iv (1 : Int32), iv (0 : Int32), .unset] [])) _
        refine XS.iload X319.here hx rfl (hb hby at_235) rfl ?_
        refine XS.ifNo X319.here hx rfl (hb hby at_237) rfl (XT.i0_eq_f (by decide)) ?_
        refine XS.aload X319.here hx rfl (hb hby at_240) rfl rfl ?_
        exact kt
      obtain ⟨cq323, kq323, q323a, q323b, q323c⟩ := isOf hZ e319 J319_0
      obtain ⟨_, _, ⟨T323, L323, k323, n323⟩, -, X323, ⟨Lc323, hQ323, l323, y323, z323⟩, st323⟩ := X319.virtualBack hx (y := (⟨"com/example/homethread/homethread/Items", "isEmpty", "()Z"⟩ : MethodName)) (z := (⟨"com/example/homethread/homethread/Items", "isEmpty", "()Z"⟩ : MethodName)) hown (mvT hZ (W 13 rfl)) (mvT hZ (W 14 rfl)) (notFace_of_selects (args := #[]) (mvT hZ (W 16 rfl))) (mvT hZ (W 16 rfl)) (mvT hZ (W 15 rfl)) (by decide) (backOf (W := 0) (rm_isEmpty3_1 l Z a0 hw [] b62 h319 n0 O319 J319_4) hZ (W 17 rfl) (W 2 rfl) (by decide) (by decide)) q323a q323c (g := (mkF m 242 #[iv p0, iv p1, iv p2, iv p3, rv b62, iv (1 : Int32), iv (0 : Int32), rv r_142, iv (1 : Int32), iv (0 : Int32), .unset] [(.ref b62)])) rfl (by rw [hml]; rfl) (Steps.refl _) (argsL := []) (rest := []) (lenOf pd_12 rfl) rfl (by show 2 * 0 + _ ≤ _; exact Nat.le_of_eq rfl) (hb hby at_242) (fun _ _ => ⟨rfl, e319, (by decide : 3 + 0 ≤ _), (by decide : 19 + 0 ≤ _)⟩)
      dsimp only [Pt.U, Pt.locs, Pt.cells, Pt.slots] at X323 l323 y323 z323 st323 hQ323
      replace l323 := l323.symm
      replace y323 : 3 = k323 := y323.symm
      replace z323 : 19 = n323 := z323.symm
      subst l323 y323 z323
      obtain ⟨rfl, M323, e323⟩ := hQ323
      have N323 := Fr.app N319 M323
      have pre324 : ∀ t, Steps p.tables e below (T323.setTop (mkF m 245 #[iv p0, iv p1, iv p2, iv p3, rv b62, iv (1 : Int32), iv (0 : Int32), rv r_142, iv (1 : Int32), iv (0 : Int32), .unset] [(.int (0 : Int32))])) t → Steps p.tables e below (s₁.setTop (entryFrame m #[(.int p0), (.int p1), (.int p2), (.int p3)] maxLocals)) t := fun t kt => pre322 _ (st323.trans kt)
      have pre325 : ∀ t, Steps p.tables e below (T323.setTop (mkF m 257 #[iv p0, iv p1, iv p2, iv p3, rv b62, iv (1 : Int32), iv (0 : Int32), rv r_142, iv (1 : Int32), iv (0 : Int32), .unset] [(.int (1 : Int32))])) t → Steps p.tables e below (s₁.setTop (entryFrame m #[(.int p0), (.int p1), (.int p2), (.int p3)] maxLocals)) t := fun t kt => by
        refine pre324 _ ?_
        show Steps p.tables e below (T323.setTop (mkF m 245 #[iv p0, iv p1, iv p2, iv p3, rv b62, iv (1 : Int32), iv (0 : Int32), rv r_142, iv (1 : Int32), iv (0 : Int32), .unset] [(.int (0 : Int32))])) _
        refine XS.ifNo X323.here hx rfl (hb hby at_245) rfl (XT.i0_ne_f (by decide)) ?_
        refine XS.iconst X323.here hx rfl (hb hby at_248) ?_
        refine XS.goto X323.here hx rfl (pc0 := 249) (pc' := 253) rfl (hb hby at_249) (by decide) (by decide) ?_
        refine XS.istore X323.here hx rfl (hb hby at_253) rfl (l' := #[iv p0, iv p1, iv p2, iv p3, rv b62, iv (1 : Int32), iv (0 : Int32), rv r_142, iv (1 : Int32), iv (0 : Int32), .unset]) rfl ?_
        show Steps p.tables e below (T323.setTop (mkF m 255 #[iv p0, iv p1, iv p2, iv p3, rv b62, iv (1 : Int32), iv (0 : Int32), rv r_142, iv (1 : Int32), iv (0 : Int32), .unset] [])) _
        refine XS.iload X323.here hx rfl (hb hby at_255) rfl ?_
        exact kt
      obtain ⟨fs, hr, hrun, hended, hW, hsame⟩ := X323.leave (v := some (.int (1 : Int32))) (fun h => by rw [Bd.returns] at h; cases h)
      refine ⟨_, _, pre325 _ (retN X323 hx (t := .boolean) Bd.returns (by simp) (hb hby at_257) hr), hrun, hended, _, _, rfl, ?_, ⟨_, rfl⟩, hW, hsame.mono (by decide) (by decide)⟩
      show Q_law Z p0 p1 p2 p3 ac mr a_NO_SLOTS kn h0 n0 _ T323.heap _
      rw [e323]
      exact ⟨rfl, N323⟩
    · rw [hv153] at pre152
      have pre326 : ∀ t, Steps p.tables e below (T150.setTop (mkF m 131 #[iv p0, iv p1, iv p2, iv p3, rv b62, iv (1 : Int32), iv (0 : Int32), rv r_142, iv (2 : Int32), iv (0 : Int32), .unset] [(.int p3), (.ref b62)])) t → Steps p.tables e below (s₁.setTop (entryFrame m #[(.int p0), (.int p1), (.int p2), (.int p3)] maxLocals)) t := fun t kt => by
        refine pre152 _ ?_
        show Steps p.tables e below (T150.setTop (mkF m 99 #[iv p0, iv p1, iv p2, iv p3, rv b62, iv (1 : Int32), iv (0 : Int32), rv r_142, .unset, .unset, .unset] [(.int (2 : Int32))])) _
        refine XS.istore X150.here hx rfl (hb hby at_99) rfl (l' := #[iv p0, iv p1, iv p2, iv p3, rv b62, iv (1 : Int32), iv (0 : Int32), rv r_142, iv (2 : Int32), .unset, .unset]) rfl ?_
        refine XS.iload X150.here hx rfl (hb hby at_101) rfl ?_
        refine XS.istore X150.here hx rfl (hb hby at_103) rfl (l' := #[iv p0, iv p1, iv p2, iv p3, rv b62, iv (1 : Int32), iv (0 : Int32), rv r_142, iv (2 : Int32), iv (0 : Int32), .unset]) rfl ?_
        refine XS.iload X150.here hx rfl (hb hby at_105) rfl ?_
        show Steps p.tables e below (T150.setTop (mkF m 107 #[iv p0, iv p1, iv p2, iv p3, rv b62, iv (1 : Int32), iv (0 : Int32), rv r_142, iv (2 : Int32), iv (0 : Int32), .unset] [(.int (2 : Int32))])) _
        refine XS.iconst X150.here hx rfl (hb hby at_107) ?_
        refine XS.icmpYes X150.here hx rfl (pc0 := 108) (pc' := 122) rfl (hb hby at_108) rfl (XT.ii_ne_t (by decide)) (by decide) (by decide) ?_
        refine XS.iload X150.here hx rfl (hb hby at_122) rfl ?_
        refine XS.iconst X150.here hx rfl (hb hby at_124) ?_
        show Steps p.tables e below (T150.setTop (mkF m 125 #[iv p0, iv p1, iv p2, iv p3, rv b62, iv (1 : Int32), iv (0 : Int32), rv r_142, iv (2 : Int32), iv (0 : Int32), .unset] [(.int (2 : Int32)), (.int (2 : Int32))])) _
        refine XS.icmpNo X150.here hx rfl (hb hby at_125) rfl (XT.ii_ne_f (by decide)) ?_
        refine XS.aload X150.here hx rfl (hb hby at_128) rfl rfl ?_
        refine XS.iloadN X150.here hx rfl (hb hby at_130) rfl ?_
        exact kt
      by_cases hc332 : p3 < (16 : Int32)
      · obtain ⟨cq333, kq333, q333a, q333b, q333c⟩ := isOf hZ e150 F144
        obtain ⟨_, _, ⟨T333, L333, k333, n333⟩, -, X333, ⟨Lc333, hQ333, l333, y333, z333⟩, st333⟩ := X150.virtualBack hx (y := (⟨"com/example/homethread/homethread/Items", "clearAndTrim", "(I)V"⟩ : MethodName)) (z := (⟨"com/example/homethread/homethread/Items", "clearAndTrim", "(I)V"⟩ : MethodName)) hown (mvT hZ (W 27 rfl)) (mvT hZ (W 28 rfl)) (notFace_of_selects (args := #[]) (mvT hZ (W 30 rfl))) (mvT hZ (W 30 rfl)) (mvT hZ (W 29 rfl)) (by decide) (backOf (W := 0) (rm_clearAndTrim5_1 l Z a0 hw [] b62 p3 a_NO_SLOTS b109_68 k109_68 h142 n0 O142 G4 g_b62 F144 F145 F146 F148 (fun q => ne_b62_b109_68 q.symm) hc332) hZ (W 31 rfl) (W 2 rfl) (by decide) (by decide)) q333a q333c (g := (mkF m 131 #[iv p0, iv p1, iv p2, iv p3, rv b62, iv (1 : Int32), iv (0 : Int32), rv r_142, iv (2 : Int32), iv (0 : Int32), .unset] [(.int p3), (.ref b62)])) rfl (by rw [hml]; rfl) (Steps.refl _) (argsL := [(.int p3)]) (rest := []) (lenOf pd_6 rfl) rfl (by show 2 * 0 + _ ≤ _; exact Nat.le_of_eq rfl) (hb hby at_131) (fun _ _ => ⟨rfl, e150, (by decide : 3 + 0 ≤ _), (by decide : 19 + 0 ≤ _)⟩)
        dsimp only [Pt.U, Pt.locs, Pt.cells, Pt.slots] at X333 l333 y333 z333 st333 hQ333
        replace l333 := l333.symm
        replace y333 : 3 = k333 := y333.symm
        replace z333 : 19 = n333 := z333.symm
        subst l333 y333 z333
        obtain ⟨rfl, M333, Kc333, O333, J333_0, J333_1, J333_2⟩ := hQ333
        obtain ⟨h333, e333⟩ : ∃ z, T333.heap = z := ⟨_, rfl⟩
        rw [e333] at Kc333 O333 J333_0 J333_1 J333_2
        have N333 := Fr.app N150 M333
        have K333 : Keep h0 h333 [] := K142.trans Kc333 (own_all1 (Or.inr sz_b62))
        have pre398 : ∀ t, Steps p.tables e below (T333.setTop (mkF m 134 #[iv p0, iv p1, iv p2, iv p3, rv b62, iv (1 : Int32), iv (0 : Int32), rv r_142, iv (2 : Int32), iv (0 : Int32), .unset] [])) t → Steps p.tables e below (s₁.setTop (entryFrame m #[(.int p0), (.int p1), (.int p2), (.int p3)] maxLocals)) t := fun t kt => pre326 _ (st333.trans kt)
        have F399 := F146.keep Kc333 (own_nm1 (fun q => ne_b62_b109_68 q.symm))
        have F400 := F147.keep Kc333
        have F401 := J142_0.keep Kc333
        have pre402 : ∀ t, Steps p.tables e below (T333.setTop (mkF m 205 #[iv p0, iv p1, iv p2, iv p3, rv b62, iv (1 : Int32), iv (0 : Int32), rv r_142, iv (2 : Int32), iv (0 : Int32), .unset] [(.ref b62)])) t → Steps p.tables e below (s₁.setTop (entryFrame m #[(.int p0), (.int p1), (.int p2), (.int p3)] maxLocals)) t := fun t kt => by
          refine pre398 _ ?_
          show Steps p.tables e below (T333.setTop (mkF m 134 #[iv p0, iv p1, iv p2, iv p3, rv b62, iv (1 : Int32), iv (0 : Int32), rv r_142, iv (2 : Int32), iv (0 : Int32), .unset] [])) _
          refine XS.iconst X333.here hx rfl (hb hby at_134) ?_
          refine XS.istore X333.here hx rfl (hb hby at_135) rfl (l' := #[iv p0, iv p1, iv p2, iv p3, rv b62, iv (1 : Int32), iv (0 : Int32), rv r_142, iv (2 : Int32), iv (0 : Int32), .unset]) rfl ?_
          refine XS.goto X333.here hx rfl (pc0 := 137) (pc' := 198) rfl (hb hby at_137) (by decide) (by decide) ?_
          refine XS.iload X333.here hx rfl (hb hby at_198) rfl ?_
          show Steps p.tables e below (T333.setTop (mkF m 200 #[iv p0, iv p1, iv p2, iv p3, rv b62, iv (1 : Int32), iv (0 : Int32), rv r_142, iv (2 : Int32), iv (0 : Int32), .unset] [(.int (1 : Int32))])) _
          refine XS.ifNo X333.here hx rfl (hb hby at_200) rfl (XT.i0_eq_f (by decide)) ?_
          refine XS.aload X333.here hx rfl (hb hby at_203) rfl rfl ?_
          exact kt
        obtain ⟨cq403, kq403, q403a, q403b, q403c⟩ := isOf hZ e333 J333_0
        obtain ⟨_, _, ⟨T403, L403, k403, n403⟩, -, X403, ⟨Lc403, hQ403, l403, y403, z403⟩, st403⟩ := X333.virtualBack hx (y := (⟨"com/example/homethread/homethread/Items", "isEmpty", "()Z"⟩ : MethodName)) (z := (⟨"com/example/homethread/homethread/Items", "isEmpty", "()Z"⟩ : MethodName)) hown (mvT hZ (W 13 rfl)) (mvT hZ (W 14 rfl)) (notFace_of_selects (args := #[]) (mvT hZ (W 16 rfl))) (mvT hZ (W 16 rfl)) (mvT hZ (W 15 rfl)) (by decide) (backOf (W := 0) (rm_isEmpty3_0 l Z a0 hw [] b62 h333 n0 O333 J333_2) hZ (W 17 rfl) (W 2 rfl) (by decide) (by decide)) q403a q403c (g := (mkF m 205 #[iv p0, iv p1, iv p2, iv p3, rv b62, iv (1 : Int32), iv (0 : Int32), rv r_142, iv (2 : Int32), iv (0 : Int32), .unset] [(.ref b62)])) rfl (by rw [hml]; rfl) (Steps.refl _) (argsL := []) (rest := []) (lenOf pd_12 rfl) rfl (by show 2 * 0 + _ ≤ _; exact Nat.le_of_eq rfl) (hb hby at_205) (fun _ _ => ⟨rfl, e333, (by decide : 3 + 0 ≤ _), (by decide : 19 + 0 ≤ _)⟩)
        dsimp only [Pt.U, Pt.locs, Pt.cells, Pt.slots] at X403 l403 y403 z403 st403 hQ403
        replace l403 := l403.symm
        replace y403 : 3 = k403 := y403.symm
        replace z403 : 19 = n403 := z403.symm
        subst l403 y403 z403
        obtain ⟨rfl, M403, e403⟩ := hQ403
        have N403 := Fr.app N333 M403
        have pre404 : ∀ t, Steps p.tables e below (T403.setTop (mkF m 208 #[iv p0, iv p1, iv p2, iv p3, rv b62, iv (1 : Int32), iv (0 : Int32), rv r_142, iv (2 : Int32), iv (0 : Int32), .unset] [(.int (1 : Int32))])) t → Steps p.tables e below (s₁.setTop (entryFrame m #[(.int p0), (.int p1), (.int p2), (.int p3)] maxLocals)) t := fun t kt => pre402 _ (st403.trans kt)
        have pre405 : ∀ t, Steps p.tables e below (T403.setTop (mkF m 232 #[iv p0, iv p1, iv p2, iv p3, rv b62, iv (1 : Int32), iv (0 : Int32), rv r_142, iv (2 : Int32), iv (0 : Int32), .unset] [(.ref r_142), (.ref b62)])) t → Steps p.tables e below (s₁.setTop (entryFrame m #[(.int p0), (.int p1), (.int p2), (.int p3)] maxLocals)) t := fun t kt => by
          refine pre404 _ ?_
          show Steps p.tables e below (T403.setTop (mkF m 208 #[iv p0, iv p1, iv p2, iv p3, rv b62, iv (1 : Int32), iv (0 : Int32), rv r_142, iv (2 : Int32), iv (0 : Int32), .unset] [(.int (1 : Int32))])) _
          refine XS.iload X403.here hx rfl (hb hby at_208) rfl ?_
          refine XS.ifNo X403.here hx rfl (hb hby at_210) rfl (XT.i0_ne_f (by decide)) ?_
          refine XS.iconst X403.here hx rfl (hb hby at_213) ?_
          refine XS.goto X403.here hx rfl (pc0 := 214) (pc' := 218) rfl (hb hby at_214) (by decide) (by decide) ?_
          show Steps p.tables e below (T403.setTop (mkF m 218 #[iv p0, iv p1, iv p2, iv p3, rv b62, iv (1 : Int32), iv (0 : Int32), rv r_142, iv (2 : Int32), iv (0 : Int32), .unset] [(.int (1 : Int32)), (.int (1 : Int32))])) _
          refine XS.icmpNo X403.here hx rfl (hb hby at_218) rfl (XT.ii_ne_f (by decide)) ?_
          refine XS.iconst X403.here hx rfl (hb hby at_221) ?_
          refine XS.goto X403.here hx rfl (pc0 := 222) (pc' := 226) rfl (hb hby at_222) (by decide) (by decide) ?_
          refine XS.istore X403.here hx rfl (hb hby at_226) rfl (l' := #[iv p0, iv p1, iv p2, iv p3, rv b62, iv (1 : Int32), iv (0 : Int32), rv r_142, iv (2 : Int32), iv (0 : Int32), .unset]) rfl ?_
          show Steps p.tables e below (T403.setTop (mkF m 228 #[iv p0, iv p1, iv p2, iv p3, rv b62, iv (1 : Int32), iv (0 : Int32), rv r_142, iv (2 : Int32), iv (0 : Int32), .unset] [])) _
          refine XS.aload X403.here hx rfl (hb hby at_228) rfl rfl ?_
          refine XS.aload X403.here hx rfl (hb hby at_230) rfl rfl ?_
          exact kt
        obtain ⟨cq406, kq406, q406a, q406b, q406c⟩ := isOf hZ e403 J333_0
        obtain ⟨_, _, ⟨T406, L406, k406, n406⟩, -, X406, ⟨Lc406, hQ406, l406, y406, z406⟩, st406⟩ := X403.virtualBack hx (y := (⟨"com/example/homethread/homethread/Items", "add", "(Ljava/lang/Object;)V"⟩ : MethodName)) (z := (⟨"com/example/homethread/homethread/Items", "add", "(Ljava/lang/Object;)V"⟩ : MethodName)) hown (mvT hZ (W 34 rfl)) (mvT hZ (W 35 rfl)) (notFace_of_selects (args := #[]) (mvT hZ (W 37 rfl))) (mvT hZ (W 37 rfl)) (mvT hZ (W 36 rfl)) (by decide) (backOf (W := 0) (rm_add6_1 l Z a0 hw [] b62 r_142 mr a_NO_SLOTS kn b109_68 k109_68 h333 n0 O333 G3 G5 G6 g_b62 F399 F401 J333_0 J333_1 J333_2 (fun q => ne_b62_b109_68 q.symm)) hZ (W 38 rfl) (W 2 rfl) (by decide) (by decide)) q406a q406c (g := (mkF m 232 #[iv p0, iv p1, iv p2, iv p3, rv b62, iv (1 : Int32), iv (0 : Int32), rv r_142, iv (2 : Int32), iv (0 : Int32), .unset] [(.ref r_142), (.ref b62)])) rfl (by rw [hml]; rfl) (Steps.refl _) (argsL := [(.ref r_142)]) (rest := []) (lenOf pd_15 rfl) rfl (by show 2 * 0 + _ ≤ _; exact Nat.le_of_eq rfl) (hb hby at_232) (fun _ _ => ⟨rfl, e403, (by decide : 3 + 1 ≤ _), (by decide : 19 + 16 ≤ _)⟩)
        dsimp only [Pt.U, Pt.locs, Pt.cells, Pt.slots] at X406 l406 y406 z406 st406 hQ406
        replace l406 := l406.symm
        replace y406 : 4 = k406 := y406.symm
        replace z406 : 35 = n406 := z406.symm
        subst l406 y406 z406
        obtain ⟨k514_406, b514_406, rfl, M406, Kc406, O406, J406_0, J406_1, J406_2, J406_3, J406_4, J406_5, P406_0⟩ := hQ406
        obtain ⟨h406, e406⟩ : ∃ z, T406.heap = z := ⟨_, rfl⟩
        rw [e406] at Kc406 O406 J406_0 J406_2 J406_3 J406_4 J406_5
        try rw [e406] at P406_0
        have N406 := Fr.app N403 M406
        have K406 : Keep h0 h406 [] := K333.trans Kc406 (own_all1 (Or.inr sz_b62))
        have pre730 : ∀ t, Steps p.tables e below (T406.setTop (mkF m 235 #[iv p0, iv p1, iv p2, iv p3, rv b62, iv (1 : Int32), iv (0 : Int32), rv r_142, iv (2 : Int32), iv (0 : Int32), .unset] [])) t → Steps p.tables e below (s₁.setTop (entryFrame m #[(.int p0), (.int p1), (.int p2), (.int p3)] maxLocals)) t := fun t kt => pre405 _ (st406.trans kt)
        have F731 := F399.keep Kc406 (own_nm1 (fun q => ne_b62_b109_68 q.symm))
        have F732 := F400.keep Kc406
        have F733 := F401.keep Kc406
        have sz_b514_406 : h0.size ≤ b514_406 := Nat.le_trans K333.1 P406_0
        have ne_a_NO_SLOTS_b514_406 : a_NO_SLOTS ≠ b514_406 := Nat.ne_of_lt (Nat.lt_of_lt_of_le (G5.ext O333.2).lt P406_0)
        have ne_b109_68_b514_406 : b109_68 ≠ b514_406 := Nat.ne_of_lt (Nat.lt_of_lt_of_le F399.lt P406_0)
        have ne_r_142_b514_406 : r_142 ≠ b514_406 := Nat.ne_of_lt (Nat.lt_of_lt_of_le F401.lt P406_0)
        have ne_b62_b514_406 : b62 ≠ b514_406 := Nat.ne_of_lt (Nat.lt_of_lt_of_le J333_0.lt P406_0)
        have g_b514_406 : n0 ≤ b514_406 := Nat.le_trans (Nat.le_trans (Nat.le_of_eq O0.1.symm) O0.2.1) sz_b514_406
        have pre734 : ∀ t, Steps p.tables e below (T406.setTop (mkF m 242 #[iv p0, iv p1, iv p2, iv p3, rv b62, iv (1 : Int32), iv (0 : Int32), rv r_142, iv (2 : Int32), iv (0 : Int32), .unset] [(.ref b62)])) t → Steps p.tables e below (s₁.setTop (entryFrame m #[(.int p0), (.int p1), (.int p2), (.int p3)] maxLocals)) t := fun t kt => by
          refine pre730 _ ?_
          show Steps p.tables e below (T406.setTop (mkF m 235 #[iv p0, iv p1, iv p2, iv p3, rv b62, iv (1 : Int32), iv (0 : Int32), rv r_142, iv (2 : Int32), iv (0 : Int32), .unset] [])) _
          refine XS.iload X406.here hx rfl (hb hby at_235) rfl ?_
          refine XS.ifNo X406.here hx rfl (hb hby at_237) rfl (XT.i0_eq_f (by decide)) ?_
          refine XS.aload X406.here hx rfl (hb hby at_240) rfl rfl ?_
          exact kt
        obtain ⟨cq735, kq735, q735a, q735b, q735c⟩ := isOf hZ e406 J406_0
        obtain ⟨_, _, ⟨T735, L735, k735, n735⟩, -, X735, ⟨Lc735, hQ735, l735, y735, z735⟩, st735⟩ := X406.virtualBack hx (y := (⟨"com/example/homethread/homethread/Items", "isEmpty", "()Z"⟩ : MethodName)) (z := (⟨"com/example/homethread/homethread/Items", "isEmpty", "()Z"⟩ : MethodName)) hown (mvT hZ (W 13 rfl)) (mvT hZ (W 14 rfl)) (notFace_of_selects (args := #[]) (mvT hZ (W 16 rfl))) (mvT hZ (W 16 rfl)) (mvT hZ (W 15 rfl)) (by decide) (backOf (W := 0) (rm_isEmpty3_1 l Z a0 hw [] b62 h406 n0 O406 J406_5) hZ (W 17 rfl) (W 2 rfl) (by decide) (by decide)) q735a q735c (g := (mkF m 242 #[iv p0, iv p1, iv p2, iv p3, rv b62, iv (1 : Int32), iv (0 : Int32), rv r_142, iv (2 : Int32), iv (0 : Int32), .unset] [(.ref b62)])) rfl (by rw [hml]; rfl) (Steps.refl _) (argsL := []) (rest := []) (lenOf pd_12 rfl) rfl (by show 2 * 0 + _ ≤ _; exact Nat.le_of_eq rfl) (hb hby at_242) (fun _ _ => ⟨rfl, e406, (by decide : 4 + 0 ≤ _), (by decide : 35 + 0 ≤ _)⟩)
        dsimp only [Pt.U, Pt.locs, Pt.cells, Pt.slots] at X735 l735 y735 z735 st735 hQ735
        replace l735 := l735.symm
        replace y735 : 4 = k735 := y735.symm
        replace z735 : 35 = n735 := z735.symm
        subst l735 y735 z735
        obtain ⟨rfl, M735, e735⟩ := hQ735
        have N735 := Fr.app N406 M735
        have pre736 : ∀ t, Steps p.tables e below (T735.setTop (mkF m 245 #[iv p0, iv p1, iv p2, iv p3, rv b62, iv (1 : Int32), iv (0 : Int32), rv r_142, iv (2 : Int32), iv (0 : Int32), .unset] [(.int (0 : Int32))])) t → Steps p.tables e below (s₁.setTop (entryFrame m #[(.int p0), (.int p1), (.int p2), (.int p3)] maxLocals)) t := fun t kt => pre734 _ (st735.trans kt)
        have pre737 : ∀ t, Steps p.tables e below (T735.setTop (mkF m 257 #[iv p0, iv p1, iv p2, iv p3, rv b62, iv (1 : Int32), iv (0 : Int32), rv r_142, iv (2 : Int32), iv (0 : Int32), .unset] [(.int (1 : Int32))])) t → Steps p.tables e below (s₁.setTop (entryFrame m #[(.int p0), (.int p1), (.int p2), (.int p3)] maxLocals)) t := fun t kt => by
          refine pre736 _ ?_
          show Steps p.tables e below (T735.setTop (mkF m 245 #[iv p0, iv p1, iv p2, iv p3, rv b62, iv (1 : Int32), iv (0 : Int32), rv r_142, iv (2 : Int32), iv (0 : Int32), .unset] [(.int (0 : Int32))])) _
          refine XS.ifNo X735.here hx rfl (hb hby at_245) rfl (XT.i0_ne_f (by decide)) ?_
          refine XS.iconst X735.here hx rfl (hb hby at_248) ?_
          refine XS.goto X735.here hx rfl (pc0 := 249) (pc' := 253) rfl (hb hby at_249) (by decide) (by decide) ?_
          refine XS.istore X735.here hx rfl (hb hby at_253) rfl (l' := #[iv p0, iv p1, iv p2, iv p3, rv b62, iv (1 : Int32), iv (0 : Int32), rv r_142, iv (2 : Int32), iv (0 : Int32), .unset]) rfl ?_
          show Steps p.tables e below (T735.setTop (mkF m 255 #[iv p0, iv p1, iv p2, iv p3, rv b62, iv (1 : Int32), iv (0 : Int32), rv r_142, iv (2 : Int32), iv (0 : Int32), .unset] [])) _
          refine XS.iload X735.here hx rfl (hb hby at_255) rfl ?_
          exact kt
        obtain ⟨fs, hr, hrun, hended, hW, hsame⟩ := X735.leave (v := some (.int (1 : Int32))) (fun h => by rw [Bd.returns] at h; cases h)
        refine ⟨_, _, pre737 _ (retN X735 hx (t := .boolean) Bd.returns (by simp) (hb hby at_257) hr), hrun, hended, _, _, rfl, ?_, ⟨_, rfl⟩, hW, hsame.mono (by decide) (by decide)⟩
        show Q_law Z p0 p1 p2 p3 ac mr a_NO_SLOTS kn h0 n0 _ T735.heap _
        rw [e735]
        exact ⟨rfl, N735⟩
      · obtain ⟨cq738, kq738, q738a, q738b, q738c⟩ := isOf hZ e150 F144
        obtain ⟨_, _, ⟨T738, L738, k738, n738⟩, -, X738, ⟨Lc738, hQ738, l738, y738, z738⟩, st738⟩ := X150.virtualBack hx (y := (⟨"com/example/homethread/homethread/Items", "clearAndTrim", "(I)V"⟩ : MethodName)) (z := (⟨"com/example/homethread/homethread/Items", "clearAndTrim", "(I)V"⟩ : MethodName)) hown (mvT hZ (W 27 rfl)) (mvT hZ (W 28 rfl)) (notFace_of_selects (args := #[]) (mvT hZ (W 30 rfl))) (mvT hZ (W 30 rfl)) (mvT hZ (W 29 rfl)) (by decide) (backOf (W := 0) (rm_clearAndTrim5_2 l Z a0 hw [] b62 p3 b109_68 k109_68 h142 n0 O142 g_b62 F144 F145 F146 F148 (fun q => ne_b62_b109_68 q.symm) hc332) hZ (W 31 rfl) (W 2 rfl) (by decide) (by decide)) q738a q738c (g := (mkF m 131 #[iv p0, iv p1, iv p2, iv p3, rv b62, iv (1 : Int32), iv (0 : Int32), rv r_142, iv (2 : Int32), iv (0 : Int32), .unset] [(.int p3), (.ref b62)])) rfl (by rw [hml]; rfl) (Steps.refl _) (argsL := [(.int p3)]) (rest := []) (lenOf pd_6 rfl) rfl (by show 2 * 0 + _ ≤ _; exact Nat.le_of_eq rfl) (hb hby at_131) (fun _ _ => ⟨rfl, e150, (by decide : 3 + 0 ≤ _), (by decide : 19 + 0 ≤ _)⟩)
        dsimp only [Pt.U, Pt.locs, Pt.cells, Pt.slots] at X738 l738 y738 z738 st738 hQ738
        replace l738 := l738.symm
        replace y738 : 3 = k738 := y738.symm
        replace z738 : 19 = n738 := z738.symm
        subst l738 y738 z738
        obtain ⟨rfl, M738, Kc738, O738, J738_0, J738_1, J738_2⟩ := hQ738
        obtain ⟨h738, e738⟩ : ∃ z, T738.heap = z := ⟨_, rfl⟩
        rw [e738] at Kc738 O738 J738_0 J738_1 J738_2
        have N738 := Fr.app N150 M738
        have K738 : Keep h0 h738 [] := K142.trans Kc738 (own_all1 (Or.inr sz_b62))
        have pre774 : ∀ t, Steps p.tables e below (T738.setTop (mkF m 134 #[iv p0, iv p1, iv p2, iv p3, rv b62, iv (1 : Int32), iv (0 : Int32), rv r_142, iv (2 : Int32), iv (0 : Int32), .unset] [])) t → Steps p.tables e below (s₁.setTop (entryFrame m #[(.int p0), (.int p1), (.int p2), (.int p3)] maxLocals)) t := fun t kt => pre326 _ (st738.trans kt)
        have F775 := F146.keep Kc738 (own_nm1 (fun q => ne_b62_b109_68 q.symm))
        have F776 := F147.keep Kc738
        have F777 := J142_0.keep Kc738
        have pre778 : ∀ t, Steps p.tables e below (T738.setTop (mkF m 205 #[iv p0, iv p1, iv p2, iv p3, rv b62, iv (1 : Int32), iv (0 : Int32), rv r_142, iv (2 : Int32), iv (0 : Int32), .unset] [(.ref b62)])) t → Steps p.tables e below (s₁.setTop (entryFrame m #[(.int p0), (.int p1), (.int p2), (.int p3)] maxLocals)) t := fun t kt => by
          refine pre774 _ ?_
          show Steps p.tables e below (T738.setTop (mkF m 134 #[iv p0, iv p1, iv p2, iv p3, rv b62, iv (1 : Int32), iv (0 : Int32), rv r_142, iv (2 : Int32), iv (0 : Int32), .unset] [])) _
          refine XS.iconst X738.here hx rfl (hb hby at_134) ?_
          refine XS.istore X738.here hx rfl (hb hby at_135) rfl (l' := #[iv p0, iv p1, iv p2, iv p3, rv b62, iv (1 : Int32), iv (0 : Int32), rv r_142, iv (2 : Int32), iv (0 : Int32), .unset]) rfl ?_
          refine XS.goto X738.here hx rfl (pc0 := 137) (pc' := 198) rfl (hb hby at_137) (by decide) (by decide) ?_
          refine XS.iload X738.here hx rfl (hb hby at_198) rfl ?_
          show Steps p.tables e below (T738.setTop (mkF m 200 #[iv p0, iv p1, iv p2, iv p3, rv b62, iv (1 : Int32), iv (0 : Int32), rv r_142, iv (2 : Int32), iv (0 : Int32), .unset] [(.int (1 : Int32))])) _
          refine XS.ifNo X738.here hx rfl (hb hby at_200) rfl (XT.i0_eq_f (by decide)) ?_
          refine XS.aload X738.here hx rfl (hb hby at_203) rfl rfl ?_
          exact kt
        obtain ⟨cq779, kq779, q779a, q779b, q779c⟩ := isOf hZ e738 J738_0
        obtain ⟨_, _, ⟨T779, L779, k779, n779⟩, -, X779, ⟨Lc779, hQ779, l779, y779, z779⟩, st779⟩ := X738.virtualBack hx (y := (⟨"com/example/homethread/homethread/Items", "isEmpty", "()Z"⟩ : MethodName)) (z := (⟨"com/example/homethread/homethread/Items", "isEmpty", "()Z"⟩ : MethodName)) hown (mvT hZ (W 13 rfl)) (mvT hZ (W 14 rfl)) (notFace_of_selects (args := #[]) (mvT hZ (W 16 rfl))) (mvT hZ (W 16 rfl)) (mvT hZ (W 15 rfl)) (by decide) (backOf (W := 0) (rm_isEmpty3_0 l Z a0 hw [] b62 h738 n0 O738 J738_2) hZ (W 17 rfl) (W 2 rfl) (by decide) (by decide)) q779a q779c (g := (mkF m 205 #[iv p0, iv p1, iv p2, iv p3, rv b62, iv (1 : Int32), iv (0 : Int32), rv r_142, iv (2 : Int32), iv (0 : Int32), .unset] [(.ref b62)])) rfl (by rw [hml]; rfl) (Steps.refl _) (argsL := []) (rest := []) (lenOf pd_12 rfl) rfl (by show 2 * 0 + _ ≤ _; exact Nat.le_of_eq rfl) (hb hby at_205) (fun _ _ => ⟨rfl, e738, (by decide : 3 + 0 ≤ _), (by decide : 19 + 0 ≤ _)⟩)
        dsimp only [Pt.U, Pt.locs, Pt.cells, Pt.slots] at X779 l779 y779 z779 st779 hQ779
        replace l779 := l779.symm
        replace y779 : 3 = k779 := y779.symm
        replace z779 : 19 = n779 := z779.symm
        subst l779 y779 z779
        obtain ⟨rfl, M779, e779⟩ := hQ779
        have N779 := Fr.app N738 M779
        have pre780 : ∀ t, Steps p.tables e below (T779.setTop (mkF m 208 #[iv p0, iv p1, iv p2, iv p3, rv b62, iv (1 : Int32), iv (0 : Int32), rv r_142, iv (2 : Int32), iv (0 : Int32), .unset] [(.int (1 : Int32))])) t → Steps p.tables e below (s₁.setTop (entryFrame m #[(.int p0), (.int p1), (.int p2), (.int p3)] maxLocals)) t := fun t kt => pre778 _ (st779.trans kt)
        have pre781 : ∀ t, Steps p.tables e below (T779.setTop (mkF m 232 #[iv p0, iv p1, iv p2, iv p3, rv b62, iv (1 : Int32), iv (0 : Int32), rv r_142, iv (2 : Int32), iv (0 : Int32), .unset] [(.ref r_142), (.ref b62)])) t → Steps p.tables e below (s₁.setTop (entryFrame m #[(.int p0), (.int p1), (.int p2), (.int p3)] maxLocals)) t := fun t kt => by
          refine pre780 _ ?_
          show Steps p.tables e below (T779.setTop (mkF m 208 #[iv p0, iv p1, iv p2, iv p3, rv b62, iv (1 : Int32), iv (0 : Int32), rv r_142, iv (2 : Int32), iv (0 : Int32), .unset] [(.int (1 : Int32))])) _
          refine XS.iload X779.here hx rfl (hb hby at_208) rfl ?_
          refine XS.ifNo X779.here hx rfl (hb hby at_210) rfl (XT.i0_ne_f (by decide)) ?_
          refine XS.iconst X779.here hx rfl (hb hby at_213) ?_
          refine XS.goto X779.here hx rfl (pc0 := 214) (pc' := 218) rfl (hb hby at_214) (by decide) (by decide) ?_
          show Steps p.tables e below (T779.setTop (mkF m 218 #[iv p0, iv p1, iv p2, iv p3, rv b62, iv (1 : Int32), iv (0 : Int32), rv r_142, iv (2 : Int32), iv (0 : Int32), .unset] [(.int (1 : Int32)), (.int (1 : Int32))])) _
          refine XS.icmpNo X779.here hx rfl (hb hby at_218) rfl (XT.ii_ne_f (by decide)) ?_
          refine XS.iconst X779.here hx rfl (hb hby at_221) ?_
          refine XS.goto X779.here hx rfl (pc0 := 222) (pc' := 226) rfl (hb hby at_222) (by decide) (by decide) ?_
          refine XS.istore X779.here hx rfl (hb hby at_226) rfl (l' := #[iv p0, iv p1, iv p2, iv p3, rv b62, iv (1 : Int32), iv (0 : Int32), rv r_142, iv (2 : Int32), iv (0 : Int32), .unset]) rfl ?_
          show Steps p.tables e below (T779.setTop (mkF m 228 #[iv p0, iv p1, iv p2, iv p3, rv b62, iv (1 : Int32), iv (0 : Int32), rv r_142, iv (2 : Int32), iv (0 : Int32), .unset] [])) _
          refine XS.aload X779.here hx rfl (hb hby at_228) rfl rfl ?_
          refine XS.aload X779.here hx rfl (hb hby at_230) rfl rfl ?_
          exact kt
        obtain ⟨cq782, kq782, q782a, q782b, q782c⟩ := isOf hZ e779 J738_0
        obtain ⟨_, _, ⟨T782, L782, k782, n782⟩, -, X782, ⟨Lc782, hQ782, l782, y782, z782⟩, st782⟩ := X779.virtualBack hx (y := (⟨"com/example/homethread/homethread/Items", "add", "(Ljava/lang/Object;)V"⟩ : MethodName)) (z := (⟨"com/example/homethread/homethread/Items", "add", "(Ljava/lang/Object;)V"⟩ : MethodName)) hown (mvT hZ (W 34 rfl)) (mvT hZ (W 35 rfl)) (notFace_of_selects (args := #[]) (mvT hZ (W 37 rfl))) (mvT hZ (W 37 rfl)) (mvT hZ (W 36 rfl)) (by decide) (backOf (W := 0) (rm_add6_0 l Z a0 hw [] b62 r_142 b109_68 k109_68 h738 n0 O738 g_b62 g_b109_68 J738_0 J738_2 F775 J68_3 F776 J738_1 F777 (fun q => ne_b62_b109_68 q.symm)) hZ (W 38 rfl) (W 2 rfl) (by decide) (by decide)) q782a q782c (g := (mkF m 232 #[iv p0, iv p1, iv p2, iv p3, rv b62, iv (1 : Int32), iv (0 : Int32), rv r_142, iv (2 : Int32), iv (0 : Int32), .unset] [(.ref r_142), (.ref b62)])) rfl (by rw [hml]; rfl) (Steps.refl _) (argsL := [(.ref r_142)]) (rest := []) (lenOf pd_15 rfl) rfl (by show 2 * 0 + _ ≤ _; exact Nat.le_of_eq rfl) (hb hby at_232) (fun _ _ => ⟨rfl, e779, (by decide : 3 + 0 ≤ _), (by decide : 19 + 0 ≤ _)⟩)
        dsimp only [Pt.U, Pt.locs, Pt.cells, Pt.slots] at X782 l782 y782 z782 st782 hQ782
        replace l782 := l782.symm
        replace y782 : 3 = k782 := y782.symm
        replace z782 : 19 = n782 := z782.symm
        subst l782 y782 z782
        obtain ⟨rfl, M782, Kc782, O782, J782_0, J782_1, J782_2, J782_3, J782_4⟩ := hQ782
        obtain ⟨h782, e782⟩ : ∃ z, T782.heap = z := ⟨_, rfl⟩
        rw [e782] at Kc782 O782 J782_0 J782_1 J782_2 J782_3 J782_4
        have N782 := Fr.app N779 M782
        have K782 : Keep h0 h782 [] := K738.trans Kc782 (own_all2 (Or.inr sz_b62) (Or.inr sz_b109_68))
        have pre783 : ∀ t, Steps p.tables e below (T782.setTop (mkF m 235 #[iv p0, iv p1, iv p2, iv p3, rv b62, iv (1 : Int32), iv (0 : Int32), rv r_142, iv (2 : Int32), iv (0 : Int32), .unset] [])) t → Steps p.tables e below (s₁.setTop (entryFrame m #[(.int p0), (.int p1), (.int p2), (.int p3)] maxLocals)) t := fun t kt => pre781 _ (st782.trans kt)
        have F784 := F777.keep Kc782
        have pre785 : ∀ t, Steps p.tables e below (T782.setTop (mkF m 242 #[iv p0, iv p1, iv p2, iv p3, rv b62, iv (1 : Int32), iv (0 : Int32), rv r_142, iv (2 : Int32), iv (0 : Int32), .unset] [(.ref b62)])) t → Steps p.tables e below (s₁.setTop (entryFrame m #[(.int p0), (.int p1), (.int p2), (.int p3)] maxLocals)) t := fun t kt => by
          refine pre783 _ ?_
          show Steps p.tables e below (T782.setTop (mkF m 235 #[iv p0, iv p1, iv p2, iv p3, rv b62, iv (1 : Int32), iv (0 : Int32), rv r_142, iv (2 : Int32), iv (0 : Int32), .unset] [])) _
          refine XS.iload X782.here hx rfl (hb hby at_235) rfl ?_
          refine XS.ifNo X782.here hx rfl (hb hby at_237) rfl (XT.i0_eq_f (by decide)) ?_
          refine XS.aload X782.here hx rfl (hb hby at_240) rfl rfl ?_
          exact kt
        obtain ⟨cq786, kq786, q786a, q786b, q786c⟩ := isOf hZ e782 J782_0
        obtain ⟨_, _, ⟨T786, L786, k786, n786⟩, -, X786, ⟨Lc786, hQ786, l786, y786, z786⟩, st786⟩ := X782.virtualBack hx (y := (⟨"com/example/homethread/homethread/Items", "isEmpty", "()Z"⟩ : MethodName)) (z := (⟨"com/example/homethread/homethread/Items", "isEmpty", "()Z"⟩ : MethodName)) hown (mvT hZ (W 13 rfl)) (mvT hZ (W 14 rfl)) (notFace_of_selects (args := #[]) (mvT hZ (W 16 rfl))) (mvT hZ (W 16 rfl)) (mvT hZ (W 15 rfl)) (by decide) (backOf (W := 0) (rm_isEmpty3_1 l Z a0 hw [] b62 h782 n0 O782 J782_4) hZ (W 17 rfl) (W 2 rfl) (by decide) (by decide)) q786a q786c (g := (mkF m 242 #[iv p0, iv p1, iv p2, iv p3, rv b62, iv (1 : Int32), iv (0 : Int32), rv r_142, iv (2 : Int32), iv (0 : Int32), .unset] [(.ref b62)])) rfl (by rw [hml]; rfl) (Steps.refl _) (argsL := []) (rest := []) (lenOf pd_12 rfl) rfl (by show 2 * 0 + _ ≤ _; exact Nat.le_of_eq rfl) (hb hby at_242) (fun _ _ => ⟨rfl, e782, (by decide : 3 + 0 ≤ _), (by decide : 19 + 0 ≤ _)⟩)
        dsimp only [Pt.U, Pt.locs, Pt.cells, Pt.slots] at X786 l786 y786 z786 st786 hQ786
        replace l786 := l786.symm
        replace y786 : 3 = k786 := y786.symm
        replace z786 : 19 = n786 := z786.symm
        subst l786 y786 z786
        obtain ⟨rfl, M786, e786⟩ := hQ786
        have N786 := Fr.app N782 M786
        have pre787 : ∀ t, Steps p.tables e below (T786.setTop (mkF m 245 #[iv p0, iv p1, iv p2, iv p3, rv b62, iv (1 : Int32), iv (0 : Int32), rv r_142, iv (2 : Int32), iv (0 : Int32), .unset] [(.int (0 : Int32))])) t → Steps p.tables e below (s₁.setTop (entryFrame m #[(.int p0), (.int p1), (.int p2), (.int p3)] maxLocals)) t := fun t kt => pre785 _ (st786.trans kt)
        have pre788 : ∀ t, Steps p.tables e below (T786.setTop (mkF m 257 #[iv p0, iv p1, iv p2, iv p3, rv b62, iv (1 : Int32), iv (0 : Int32), rv r_142, iv (2 : Int32), iv (0 : Int32), .unset] [(.int (1 : Int32))])) t → Steps p.tables e below (s₁.setTop (entryFrame m #[(.int p0), (.int p1), (.int p2), (.int p3)] maxLocals)) t := fun t kt => by
          refine pre787 _ ?_
          show Steps p.tables e below (T786.setTop (mkF m 245 #[iv p0, iv p1, iv p2, iv p3, rv b62, iv (1 : Int32), iv (0 : Int32), rv r_142, iv (2 : Int32), iv (0 : Int32), .unset] [(.int (0 : Int32))])) _
          refine XS.ifNo X786.here hx rfl (hb hby at_245) rfl (XT.i0_ne_f (by decide)) ?_
          refine XS.iconst X786.here hx rfl (hb hby at_248) ?_
          refine XS.goto X786.here hx rfl (pc0 := 249) (pc' := 253) rfl (hb hby at_249) (by decide) (by decide) ?_
          refine XS.istore X786.here hx rfl (hb hby at_253) rfl (l' := #[iv p0, iv p1, iv p2, iv p3, rv b62, iv (1 : Int32), iv (0 : Int32), rv r_142, iv (2 : Int32), iv (0 : Int32), .unset]) rfl ?_
          show Steps p.tables e below (T786.setTop (mkF m 255 #[iv p0, iv p1, iv p2, iv p3, rv b62, iv (1 : Int32), iv (0 : Int32), rv r_142, iv (2 : Int32), iv (0 : Int32), .unset] [])) _
          refine XS.iload X786.here hx rfl (hb hby at_255) rfl ?_
          exact kt
        obtain ⟨fs, hr, hrun, hended, hW, hsame⟩ := X786.leave (v := some (.int (1 : Int32))) (fun h => by rw [Bd.returns] at h; cases h)
        refine ⟨_, _, pre788 _ (retN X786 hx (t := .boolean) Bd.returns (by simp) (hb hby at_257) hr), hrun, hended, _, _, rfl, ?_, ⟨_, rfl⟩, hW, hsame.mono (by decide) (by decide)⟩
        show Q_law Z p0 p1 p2 p3 ac mr a_NO_SLOTS kn h0 n0 _ T786.heap _
        rw [e786]
        exact ⟨rfl, N786⟩
    · rw [hv153] at pre152
      have pre789 : ∀ t, Steps p.tables e below (T150.setTop (mkF m 151 #[iv p0, iv p1, iv p2, iv p3, rv b62, iv (1 : Int32), iv (0 : Int32), rv r_142, iv (3 : Int32), iv (0 : Int32), .unset] [(.int (0 : Int32)), (.ref r_142), (.ref b62)])) t → Steps p.tables e below (s₁.setTop (entryFrame m #[(.int p0), (.int p1), (.int p2), (.int p3)] maxLocals)) t := fun t kt => by
        refine pre152 _ ?_
        show Steps p.tables e below (T150.setTop (mkF m 99 #[iv p0, iv p1, iv p2, iv p3, rv b62, iv (1 : Int32), iv (0 : Int32), rv r_142, .unset, .unset, .unset] [(.int (3 : Int32))])) _
        refine XS.istore X150.here hx rfl (hb hby at_99) rfl (l' := #[iv p0, iv p1, iv p2, iv p3, rv b62, iv (1 : Int32), iv (0 : Int32), rv r_142, iv (3 : Int32), .unset, .unset]) rfl ?_
        refine XS.iload X150.here hx rfl (hb hby at_101) rfl ?_
        refine XS.istore X150.here hx rfl (hb hby at_103) rfl (l' := #[iv p0, iv p1, iv p2, iv p3, rv b62, iv (1 : Int32), iv (0 : Int32), rv r_142, iv (3 : Int32), iv (0 : Int32), .unset]) rfl ?_
        refine XS.iload X150.here hx rfl (hb hby at_105) rfl ?_
        show Steps p.tables e below (T150.setTop (mkF m 107 #[iv p0, iv p1, iv p2, iv p3, rv b62, iv (1 : Int32), iv (0 : Int32), rv r_142, iv (3 : Int32), iv (0 : Int32), .unset] [(.int (3 : Int32))])) _
        refine XS.iconst X150.here hx rfl (hb hby at_107) ?_
        refine XS.icmpYes X150.here hx rfl (pc0 := 108) (pc' := 122) rfl (hb hby at_108) rfl (XT.ii_ne_t (by decide)) (by decide) (by decide) ?_
        refine XS.iload X150.here hx rfl (hb hby at_122) rfl ?_
        refine XS.iconst X150.here hx rfl (hb hby at_124) ?_
        show Steps p.tables e below (T150.setTop (mkF m 125 #[iv p0, iv p1, iv p2, iv p3, rv b62, iv (1 : Int32), iv (0 : Int32), rv r_142, iv (3 : Int32), iv (0 : Int32), .unset] [(.int (2 : Int32)), (.int (3 : Int32))])) _
        refine XS.icmpYes X150.here hx rfl (pc0 := 125) (pc' := 140) rfl (hb hby at_125) rfl (XT.ii_ne_t (by decide)) (by decide) (by decide) ?_
        refine XS.iload X150.here hx rfl (hb hby at_140) rfl ?_
        refine XS.iconst X150.here hx rfl (hb hby at_142) ?_
        refine XS.icmpNo X150.here hx rfl (hb hby at_143) rfl (XT.ii_ne_f (by decide)) ?_
        show Steps p.tables e below (T150.setTop (mkF m 146 #[iv p0, iv p1, iv p2, iv p3, rv b62, iv (1 : Int32), iv (0 : Int32), rv r_142, iv (3 : Int32), iv (0 : Int32), .unset] [])) _
        refine XS.aload X150.here hx rfl (hb hby at_146) rfl rfl ?_
        refine XS.aload X150.here hx rfl (hb hby at_148) rfl rfl ?_
        refine XS.iconst X150.here hx rfl (hb hby at_150) ?_
        exact kt
      obtain ⟨cq790, kq790, q790a, q790b, q790c⟩ := isOf hZ e150 F144
      obtain ⟨_, _, ⟨T790, L790, k790, n790⟩, -, X790, ⟨Lc790, hQ790, l790, y790, z790⟩, st790⟩ := X150.virtualBack hx (y := (⟨"com/example/homethread/homethread/Items", "removeLast", "(Ljava/lang/Object;I)Z"⟩ : MethodName)) (z := (⟨"com/example/homethread/homethread/Items", "removeLast", "(Ljava/lang/Object;I)Z"⟩ : MethodName)) hown (mvT hZ (W 81 rfl)) (mvT hZ (W 82 rfl)) (notFace_of_selects (args := #[]) (mvT hZ (W 84 rfl))) (mvT hZ (W 84 rfl)) (mvT hZ (W 83 rfl)) (by decide) (backOf (W := 0) (rm_removeLast13_0 l Z a0 hw [] b62 r_142 h142 n0 O142 F145) hZ (W 85 rfl) (W 2 rfl) (by decide) (by decide)) q790a q790c (g := (mkF m 151 #[iv p0, iv p1, iv p2, iv p3, rv b62, iv (1 : Int32), iv (0 : Int32), rv r_142, iv (3 : Int32), iv (0 : Int32), .unset] [(.int (0 : Int32)), (.ref r_142), (.ref b62)])) rfl (by rw [hml]; rfl) (Steps.refl _) (argsL := [(.ref r_142), (.int (0 : Int32))]) (rest := []) (lenOf pd_29 rfl) rfl (by show 2 * 0 + _ ≤ _; exact Nat.le_of_eq rfl) (hb hby at_151) (fun _ _ => ⟨rfl, e150, (by decide : 3 + 0 ≤ _), (by decide : 19 + 0 ≤ _)⟩)
      dsimp only [Pt.U, Pt.locs, Pt.cells, Pt.slots] at X790 l790 y790 z790 st790 hQ790
      replace l790 := l790.symm
      replace y790 : 3 = k790 := y790.symm
      replace z790 : 19 = n790 := z790.symm
      subst l790 y790 z790
      obtain ⟨rfl, M790, e790⟩ := hQ790
      have N790 := Fr.app N150 M790
      have pre803 : ∀ t, Steps p.tables e below (T790.setTop (mkF m 154 #[iv p0, iv p1, iv p2, iv p3, rv b62, iv (1 : Int32), iv (0 : Int32), rv r_142, iv (3 : Int32), iv (0 : Int32), .unset] [(.int (0 : Int32))])) t → Steps p.tables e below (s₁.setTop (entryFrame m #[(.int p0), (.int p1), (.int p2), (.int p3)] maxLocals)) t := fun t kt => pre789 _ (st790.trans kt)
      have pre804 : ∀ t, Steps p.tables e below (T790.setTop (mkF m 205 #[iv p0, iv p1, iv p2, iv p3, rv b62, iv (1 : Int32), iv (0 : Int32), rv r_142, iv (3 : Int32), iv (0 : Int32), iv (0 : Int32)] [(.ref b62)])) t → Steps p.tables e below (s₁.setTop (entryFrame m #[(.int p0), (.int p1), (.int p2), (.int p3)] maxLocals)) t := fun t kt => by
        refine pre803 _ ?_
        show Steps p.tables e below (T790.setTop (mkF m 154 #[iv p0, iv p1, iv p2, iv p3, rv b62, iv (1 : Int32), iv (0 : Int32), rv r_142, iv (3 : Int32), iv (0 : Int32), .unset] [(.int (0 : Int32))])) _
        refine XS.istore X790.here hx rfl (hb hby at_154) rfl (l' := #[iv p0, iv p1, iv p2, iv p3, rv b62, iv (1 : Int32), iv (0 : Int32), rv r_142, iv (3 : Int32), iv (0 : Int32), iv (0 : Int32)]) rfl ?_
        refine XS.iload X790.here hx rfl (hb hby at_156) rfl ?_
        refine XS.ifNo X790.here hx rfl (hb hby at_158) rfl (XT.i0_eq_f (by decide)) ?_
        refine XS.iload X790.here hx rfl (hb hby at_161) rfl ?_
        show Steps p.tables e below (T790.setTop (mkF m 163 #[iv p0, iv p1, iv p2, iv p3, rv b62, iv (1 : Int32), iv (0 : Int32), rv r_142, iv (3 : Int32), iv (0 : Int32), iv (0 : Int32)] [(.int (0 : Int32))])) _
        refine XS.iload X790.here hx rfl (hb hby at_163) rfl ?_
        refine XS.ifYes X790.here hx rfl (pc0 := 165) (pc' := 172) rfl (hb hby at_165) rfl (XT.i0_le_t (by decide)) (by decide) (by decide) ?_
        refine XS.iconst X790.here hx rfl (hb hby at_172) ?_
        refine XS.icmpNo X790.here hx rfl (hb hby at_173) rfl (XT.ii_ne_f (by decide)) ?_
        show Steps p.tables e below (T790.setTop (mkF m 176 #[iv p0, iv p1, iv p2, iv p3, rv b62, iv (1 : Int32), iv (0 : Int32), rv r_142, iv (3 : Int32), iv (0 : Int32), iv (0 : Int32)] [])) _
        refine XS.iconst X790.here hx rfl (hb hby at_176) ?_
        refine XS.goto X790.here hx rfl (pc0 := 177) (pc' := 181) rfl (hb hby at_177) (by decide) (by decide) ?_
        refine XS.istore X790.here hx rfl (hb hby at_181) rfl (l' := #[iv p0, iv p1, iv p2, iv p3, rv b62, iv (1 : Int32), iv (0 : Int32), rv r_142, iv (3 : Int32), iv (0 : Int32), iv (0 : Int32)]) rfl ?_
        refine XS.iload X790.here hx rfl (hb hby at_183) rfl ?_
        show Steps p.tables e below (T790.setTop (mkF m 185 #[iv p0, iv p1, iv p2, iv p3, rv b62, iv (1 : Int32), iv (0 : Int32), rv r_142, iv (3 : Int32), iv (0 : Int32), iv (0 : Int32)] [(.int (0 : Int32))])) _
        refine XS.ifYes X790.here hx rfl (pc0 := 185) (pc' := 195) rfl (hb hby at_185) rfl (XT.i0_le_t (by decide)) (by decide) (by decide) ?_
        refine XS.iconst X790.here hx rfl (hb hby at_195) ?_
        refine XS.istore X790.here hx rfl (hb hby at_196) rfl (l' := #[iv p0, iv p1, iv p2, iv p3, rv b62, iv (1 : Int32), iv (0 : Int32), rv r_142, iv (3 : Int32), iv (0 : Int32), iv (0 : Int32)]) rfl ?_
        refine XS.iload X790.here hx rfl (hb hby at_198) rfl ?_
        show Steps p.tables e below (T790.setTop (mkF m 200 #[iv p0, iv p1, iv p2, iv p3, rv b62, iv (1 : Int32), iv (0 : Int32), rv r_142, iv (3 : Int32), iv (0 : Int32), iv (0 : Int32)] [(.int (1 : Int32))])) _
        refine XS.ifNo X790.here hx rfl (hb hby at_200) rfl (XT.i0_eq_f (by decide)) ?_
        refine XS.aload X790.here hx rfl (hb hby at_203) rfl rfl ?_
        exact kt
      obtain ⟨cq805, kq805, q805a, q805b, q805c⟩ := isOf hZ e790 F144
      obtain ⟨_, _, ⟨T805, L805, k805, n805⟩, -, X805, ⟨Lc805, hQ805, l805, y805, z805⟩, st805⟩ := X790.virtualBack hx (y := (⟨"com/example/homethread/homethread/Items", "isEmpty", "()Z"⟩ : MethodName)) (z := (⟨"com/example/homethread/homethread/Items", "isEmpty", "()Z"⟩ : MethodName)) hown (mvT hZ (W 13 rfl)) (mvT hZ (W 14 rfl)) (notFace_of_selects (args := #[]) (mvT hZ (W 16 rfl))) (mvT hZ (W 16 rfl)) (mvT hZ (W 15 rfl)) (by decide) (backOf (W := 0) (rm_isEmpty3_0 l Z a0 hw [] b62 h142 n0 O142 F145) hZ (W 17 rfl) (W 2 rfl) (by decide) (by decide)) q805a q805c (g := (mkF m 205 #[iv p0, iv p1, iv p2, iv p3, rv b62, iv (1 : Int32), iv (0 : Int32), rv r_142, iv (3 : Int32), iv (0 : Int32), iv (0 : Int32)] [(.ref b62)])) rfl (by rw [hml]; rfl) (Steps.refl _) (argsL := []) (rest := []) (lenOf pd_12 rfl) rfl (by show 2 * 0 + _ ≤ _; exact Nat.le_of_eq rfl) (hb hby at_205) (fun _ _ => ⟨rfl, e790, (by decide : 3 + 0 ≤ _), (by decide : 19 + 0 ≤ _)⟩)
      dsimp only [Pt.U, Pt.locs, Pt.cells, Pt.slots] at X805 l805 y805 z805 st805 hQ805
      replace l805 := l805.symm
      replace y805 : 3 = k805 := y805.symm
      replace z805 : 19 = n805 := z805.symm
      subst l805 y805 z805
      obtain ⟨rfl, M805, e805⟩ := hQ805
      have N805 := Fr.app N790 M805
      have pre806 : ∀ t, Steps p.tables e below (T805.setTop (mkF m 208 #[iv p0, iv p1, iv p2, iv p3, rv b62, iv (1 : Int32), iv (0 : Int32), rv r_142, iv (3 : Int32), iv (0 : Int32), iv (0 : Int32)] [(.int (1 : Int32))])) t → Steps p.tables e below (s₁.setTop (entryFrame m #[(.int p0), (.int p1), (.int p2), (.int p3)] maxLocals)) t := fun t kt => pre804 _ (st805.trans kt)
      have pre807 : ∀ t, Steps p.tables e below (T805.setTop (mkF m 232 #[iv p0, iv p1, iv p2, iv p3, rv b62, iv (1 : Int32), iv (0 : Int32), rv r_142, iv (3 : Int32), iv (0 : Int32), iv (0 : Int32)] [(.ref r_142), (.ref b62)])) t → Steps p.tables e below (s₁.setTop (entryFrame m #[(.int p0), (.int p1), (.int p2), (.int p3)] maxLocals)) t := fun t kt => by
        refine pre806 _ ?_
        show Steps p.tables e below (T805.setTop (mkF m 208 #[iv p0, iv p1, iv p2, iv p3, rv b62, iv (1 : Int32), iv (0 : Int32), rv r_142, iv (3 : Int32), iv (0 : Int32), iv (0 : Int32)] [(.int (1 : Int32))])) _
        refine XS.iload X805.here hx rfl (hb hby at_208) rfl ?_
        refine XS.ifNo X805.here hx rfl (hb hby at_210) rfl (XT.i0_ne_f (by decide)) ?_
        refine XS.iconst X805.here hx rfl (hb hby at_213) ?_
        refine XS.goto X805.here hx rfl (pc0 := 214) (pc' := 218) rfl (hb hby at_214) (by decide) (by decide) ?_
        show Steps p.tables e below (T805.setTop (mkF m 218 #[iv p0, iv p1, iv p2, iv p3, rv b62, iv (1 : Int32), iv (0 : Int32), rv r_142, iv (3 : Int32), iv (0 : Int32), iv (0 : Int32)] [(.int (1 : Int32)), (.int (1 : Int32))])) _
        refine XS.icmpNo X805.here hx rfl (hb hby at_218) rfl (XT.ii_ne_f (by decide)) ?_
        refine XS.iconst X805.here hx rfl (hb hby at_221) ?_
        refine XS.goto X805.here hx rfl (pc0 := 222) (pc' := 226) rfl (hb hby at_222) (by decide) (by decide) ?_
        refine XS.istore X805.here hx rfl (hb hby at_226) rfl (l' := #[iv p0, iv p1, iv p2, iv p3, rv b62, iv (1 : Int32), iv (0 : Int32), rv r_142, iv (3 : Int32), iv (0 : Int32), iv (0 : Int32)]) rfl ?_
        show Steps p.tables e below (T805.setTop (mkF m 228 #[iv p0, iv p1, iv p2, iv p3, rv b62, iv (1 : Int32), iv (0 : Int32), rv r_142, iv (3 : Int32), iv (0 : Int32), iv (0 : Int32)] [])) _
        refine XS.aload X805.here hx rfl (hb hby at_228) rfl rfl ?_
        refine XS.aload X805.here hx rfl (hb hby at_230) rfl rfl ?_
        exact kt
      obtain ⟨cq808, kq808, q808a, q808b, q808c⟩ := isOf hZ e805 F144
      obtain ⟨_, _, ⟨T808, L808, k808, n808⟩, -, X808, ⟨Lc808, hQ808, l808, y808, z808⟩, st808⟩ := X805.virtualBack hx (y := (⟨"com/example/homethread/homethread/Items", "add", "(Ljava/lang/Object;)V"⟩ : MethodName)) (z := (⟨"com/example/homethread/homethread/Items", "add", "(Ljava/lang/Object;)V"⟩ : MethodName)) hown (mvT hZ (W 34 rfl)) (mvT hZ (W 35 rfl)) (notFace_of_selects (args := #[]) (mvT hZ (W 37 rfl))) (mvT hZ (W 37 rfl)) (mvT hZ (W 36 rfl)) (by decide) (backOf (W := 0) (rm_add6_0 l Z a0 hw [] b62 r_142 b109_68 k109_68 h142 n0 O142 g_b62 g_b109_68 F144 F145 F146 J68_3 F147 F148 J142_0 (fun q => ne_b62_b109_68 q.symm)) hZ (W 38 rfl) (W 2 rfl) (by decide) (by decide)) q808a q808c (g := (mkF m 232 #[iv p0, iv p1, iv p2, iv p3, rv b62, iv (1 : Int32), iv (0 : Int32), rv r_142, iv (3 : Int32), iv (0 : Int32), iv (0 : Int32)] [(.ref r_142), (.ref b62)])) rfl (by rw [hml]; rfl) (Steps.refl _) (argsL := [(.ref r_142)]) (rest := []) (lenOf pd_15 rfl) rfl (by show 2 * 0 + _ ≤ _; exact Nat.le_of_eq rfl) (hb hby at_232) (fun _ _ => ⟨rfl, e805, (by decide : 3 + 0 ≤ _), (by decide : 19 + 0 ≤ _)⟩)
      dsimp only [Pt.U, Pt.locs, Pt.cells, Pt.slots] at X808 l808 y808 z808 st808 hQ808
      replace l808 := l808.symm
      replace y808 : 3 = k808 := y808.symm
      replace z808 : 19 = n808 := z808.symm
      subst l808 y808 z808
      obtain ⟨rfl, M808, Kc808, O808, J808_0, J808_1, J808_2, J808_3, J808_4⟩ := hQ808
      obtain ⟨h808, e808⟩ : ∃ z, T808.heap = z := ⟨_, rfl⟩
      rw [e808] at Kc808 O808 J808_0 J808_1 J808_2 J808_3 J808_4
      have N808 := Fr.app N805 M808
      have K808 : Keep h0 h808 [] := K142.trans Kc808 (own_all2 (Or.inr sz_b62) (Or.inr sz_b109_68))
      have pre809 : ∀ t, Steps p.tables e below (T808.setTop (mkF m 235 #[iv p0, iv p1, iv p2, iv p3, rv b62, iv (1 : Int32), iv (0 : Int32), rv r_142, iv (3 : Int32), iv (0 : Int32), iv (0 : Int32)] [])) t → Steps p.tables e below (s₁.setTop (entryFrame m #[(.int p0), (.int p1), (.int p2), (.int p3)] maxLocals)) t := fun t kt => pre807 _ (st808.trans kt)
      have F810 := J142_0.keep Kc808
      have pre811 : ∀ t, Steps p.tables e below (T808.setTop (mkF m 242 #[iv p0, iv p1, iv p2, iv p3, rv b62, iv (1 : Int32), iv (0 : Int32), rv r_142, iv (3 : Int32), iv (0 : Int32), iv (0 : Int32)] [(.ref b62)])) t → Steps p.tables e below (s₁.setTop (entryFrame m #[(.int p0), (.int p1), (.int p2), (.int p3)] maxLocals)) t := fun t kt => by
        refine pre809 _ ?_
        show Steps p.tables e below (T808.setTop (mkF m 235 #[iv p0, iv p1, iv p2, iv p3, rv b62, iv (1 : Int32), iv (0 : Int32), rv r_142, iv (3 : Int32), iv (0 : Int32), iv (0 : Int32)] [])) _
        refine XS.iload X808.here hx rfl (hb hby at_235) rfl ?_
        refine XS.ifNo X808.here hx rfl (hb hby at_237) rfl (XT.i0_eq_f (by decide)) ?_
        refine XS.aload X808.here hx rfl (hb hby at_240) rfl rfl ?_
        exact kt
      obtain ⟨cq812, kq812, q812a, q812b, q812c⟩ := isOf hZ e808 J808_0
      obtain ⟨_, _, ⟨T812, L812, k812, n812⟩, -, X812, ⟨Lc812, hQ812, l812, y812, z812⟩, st812⟩ := X808.virtualBack hx (y := (⟨"com/example/homethread/homethread/Items", "isEmpty", "()Z"⟩ : MethodName)) (z := (⟨"com/example/homethread/homethread/Items", "isEmpty", "()Z"⟩ : MethodName)) hown (mvT hZ (W 13 rfl)) (mvT hZ (W 14 rfl)) (notFace_of_selects (args := #[]) (mvT hZ (W 16 rfl))) (mvT hZ (W 16 rfl)) (mvT hZ (W 15 rfl)) (by decide) (backOf (W := 0) (rm_isEmpty3_1 l Z a0 hw [] b62 h808 n0 O808 J808_4) hZ (W 17 rfl) (W 2 rfl) (by decide) (by decide)) q812a q812c (g := (mkF m 242 #[iv p0, iv p1, iv p2, iv p3, rv b62, iv (1 : Int32), iv (0 : Int32), rv r_142, iv (3 : Int32), iv (0 : Int32), iv (0 : Int32)] [(.ref b62)])) rfl (by rw [hml]; rfl) (Steps.refl _) (argsL := []) (rest := []) (lenOf pd_12 rfl) rfl (by show 2 * 0 + _ ≤ _; exact Nat.le_of_eq rfl) (hb hby at_242) (fun _ _ => ⟨rfl, e808, (by decide : 3 + 0 ≤ _), (by decide : 19 + 0 ≤ _)⟩)
      dsimp only [Pt.U, Pt.locs, Pt.cells, Pt.slots] at X812 l812 y812 z812 st812 hQ812
      replace l812 := l812.symm
      replace y812 : 3 = k812 := y812.symm
      replace z812 : 19 = n812 := z812.symm
      subst l812 y812 z812
      obtain ⟨rfl, M812, e812⟩ := hQ812
      have N812 := Fr.app N808 M812
      have pre813 : ∀ t, Steps p.tables e below (T812.setTop (mkF m 245 #[iv p0, iv p1, iv p2, iv p3, rv b62, iv (1 : Int32), iv (0 : Int32), rv r_142, iv (3 : Int32), iv (0 : Int32), iv (0 : Int32)] [(.int (0 : Int32))])) t → Steps p.tables e below (s₁.setTop (entryFrame m #[(.int p0), (.int p1), (.int p2), (.int p3)] maxLocals)) t := fun t kt => pre811 _ (st812.trans kt)
      have pre814 : ∀ t, Steps p.tables e below (T812.setTop (mkF m 257 #[iv p0, iv p1, iv p2, iv p3, rv b62, iv (1 : Int32), iv (0 : Int32), rv r_142, iv (3 : Int32), iv (0 : Int32), iv (0 : Int32)] [(.int (1 : Int32))])) t → Steps p.tables e below (s₁.setTop (entryFrame m #[(.int p0), (.int p1), (.int p2), (.int p3)] maxLocals)) t := fun t kt => by
        refine pre813 _ ?_
        show Steps p.tables e below (T812.setTop (mkF m 245 #[iv p0, iv p1, iv p2, iv p3, rv b62, iv (1 : Int32), iv (0 : Int32), rv r_142, iv (3 : Int32), iv (0 : Int32), iv (0 : Int32)] [(.int (0 : Int32))])) _
        refine XS.ifNo X812.here hx rfl (hb hby at_245) rfl (XT.i0_ne_f (by decide)) ?_
        refine XS.iconst X812.here hx rfl (hb hby at_248) ?_
        refine XS.goto X812.here hx rfl (pc0 := 249) (pc' := 253) rfl (hb hby at_249) (by decide) (by decide) ?_
        refine XS.istore X812.here hx rfl (hb hby at_253) rfl (l' := #[iv p0, iv p1, iv p2, iv p3, rv b62, iv (1 : Int32), iv (0 : Int32), rv r_142, iv (3 : Int32), iv (0 : Int32), iv (0 : Int32)]) rfl ?_
        show Steps p.tables e below (T812.setTop (mkF m 255 #[iv p0, iv p1, iv p2, iv p3, rv b62, iv (1 : Int32), iv (0 : Int32), rv r_142, iv (3 : Int32), iv (0 : Int32), iv (0 : Int32)] [])) _
        refine XS.iload X812.here hx rfl (hb hby at_255) rfl ?_
        exact kt
      obtain ⟨fs, hr, hrun, hended, hW, hsame⟩ := X812.leave (v := some (.int (1 : Int32))) (fun h => by rw [Bd.returns] at h; cases h)
      refine ⟨_, _, pre814 _ (retN X812 hx (t := .boolean) Bd.returns (by simp) (hb hby at_257) hr), hrun, hended, _, _, rfl, ?_, ⟨_, rfl⟩, hW, hsame.mono (by decide) (by decide)⟩
      show Q_law Z p0 p1 p2 p3 ac mr a_NO_SLOTS kn h0 n0 _ T812.heap _
      rw [e812]
      exact ⟨rfl, N812⟩
  · rw [hv140] at pre139
    have pre815 : ∀ t, Steps p.tables e below (T125.setTop (mkF m 22 #[iv p0, iv p1, iv p2, iv p3, rv b62, iv (1 : Int32), iv (1 : Int32), .unset, .unset, .unset, .unset] [(.int p1)])) t → Steps p.tables e below (s₁.setTop (entryFrame m #[(.int p0), (.int p1), (.int p2), (.int p3)] maxLocals)) t := fun t kt => by
      refine pre139 _ ?_
      show Steps p.tables e below (T125.setTop (mkF m 19 #[iv p0, iv p1, iv p2, iv p3, rv b62, iv (1 : Int32), .unset, .unset, .unset, .unset, .unset] [(.int (1 : Int32))])) _
      refine XS.istore X125.here hx rfl (hb hby at_19) rfl (l' := #[iv p0, iv p1, iv p2, iv p3, rv b62, iv (1 : Int32), iv (1 : Int32), .unset, .unset, .unset, .unset]) rfl ?_
      refine XS.iloadN X125.here hx rfl (hb hby at_21) rfl ?_
      exact kt
    obtain ⟨_, _, ⟨T816, L816, k816, n816⟩, -, X816, ⟨Lc816, hQ816, l816, y816, z816⟩, st816⟩ := Jvm.LawKit.callS X125 hx (y := (⟨"java/lang/Integer", "valueOf", "(I)Ljava/lang/Integer;"⟩ : MethodName)) hown (mvT hZ (W 20 rfl)) (mvT hZ (W 21 rfl)) (mvT hZ (W 22 rfl)) (mvT hZ (W 23 rfl)) (by decide) (backOf (W := 0) (rm_valueOf l Z a0 hw [] p1 ac h68 n0 O68 G0 G1 G2) hZ (W 23 rfl) (W 22 rfl) (by decide) (by decide)) (g := (mkF m 22 #[iv p0, iv p1, iv p2, iv p3, rv b62, iv (1 : Int32), iv (1 : Int32), .unset, .unset, .unset, .unset] [(.int p1)])) rfl (by rw [hml]; rfl) (argsL := [(.int p1)]) (rest := []) (lenOf pd_13 rfl) rfl (by show 2 * 0 + _ ≤ _; exact Nat.le_of_eq rfl) (hb hby at_22) (fun _ _ => ⟨rfl, e125, (by decide : 2 + 1 ≤ _), (by decide : 18 + 1 ≤ _)⟩)
    dsimp only [Pt.U, Pt.locs, Pt.cells, Pt.slots] at X816 l816 y816 z816 st816 hQ816
    replace l816 := l816.symm
    replace y816 : 3 = k816 := y816.symm
    replace z816 : 19 = n816 := z816.symm
    subst l816 y816 z816
    obtain ⟨r_816, rfl, M816, Kc816, O816, J816_0⟩ := hQ816
    obtain ⟨h816, e816⟩ : ∃ z, T816.heap = z := ⟨_, rfl⟩
    rw [e816] at Kc816 O816 J816_0
    have N816 := Fr.app N125 M816
    have K816 : Keep h0 h816 [] := K68.trans Kc816 (own_all0 )
    have pre817 : ∀ t, Steps p.tables e below (T816.setTop (mkF m 25 #[iv p0, iv p1, iv p2, iv p3, rv b62, iv (1 : Int32), iv (1 : Int32), .unset, .unset, .unset, .unset] [(.ref r_816)])) t → Steps p.tables e below (s₁.setTop (entryFrame m #[(.int p0), (.int p1), (.int p2), (.int p3)] maxLocals)) t := fun t kt => pre815 _ (st816 _ kt)
    have F818 := J68_0.keep Kc816
    have F819 := J68_1.keep Kc816 (own_nm0 )
    have F820 := J68_2.keep Kc816 (own_nm0 )
    have F821 := J68_4.keep Kc816
    have F822 := J68_5.keep Kc816 (own_nm0 )
    have pre823 : ∀ t, Steps p.tables e below (T816.setTop (mkF m 37 #[iv p0, iv p1, iv p2, iv p3, rv b62, iv (1 : Int32), iv (1 : Int32), rv r_816, .unset, .unset, .unset] [(.ref r_816), (.ref b62)])) t → Steps p.tables e below (s₁.setTop (entryFrame m #[(.int p0), (.int p1), (.int p2), (.int p3)] maxLocals)) t := fun t kt => by
      refine pre817 _ ?_
      show Steps p.tables e below (T816.setTop (mkF m 25 #[iv p0, iv p1, iv p2, iv p3, rv b62, iv (1 : Int32), iv (1 : Int32), .unset, .unset, .unset, .unset] [(.ref r_816)])) _
      refine XS.astore X816.here hx rfl (hb hby at_25) rfl rfl (l' := #[iv p0, iv p1, iv p2, iv p3, rv b62, iv (1 : Int32), iv (1 : Int32), rv r_816, .unset, .unset, .unset]) rfl ?_
      refine XS.iload X816.here hx rfl (hb hby at_27) rfl ?_
      refine XS.iconst X816.here hx rfl (hb hby at_29) ?_
      refine XS.icmpNo X816.here hx rfl (hb hby at_30) rfl (XT.ii_lt_f (by decide)) ?_
      show Steps p.tables e below (T816.setTop (mkF m 33 #[iv p0, iv p1, iv p2, iv p3, rv b62, iv (1 : Int32), iv (1 : Int32), rv r_816, .unset, .unset, .unset] [])) _
      refine XS.aload X816.here hx rfl (hb hby at_33) rfl rfl ?_
      refine XS.aload X816.here hx rfl (hb hby at_35) rfl rfl ?_
      exact kt
    obtain ⟨cq824, kq824, q824a, q824b, q824c⟩ := isOf hZ e816 F818
    obtain ⟨_, _, ⟨T824, L824, k824, n824⟩, -, X824, ⟨Lc824, hQ824, l824, y824, z824⟩, st824⟩ := X816.virtualBack hx (y := (⟨"com/example/homethread/homethread/Items", "add", "(Ljava/lang/Object;)V"⟩ : MethodName)) (z := (⟨"com/example/homethread/homethread/Items", "add", "(Ljava/lang/Object;)V"⟩ : MethodName)) hown (mvT hZ (W 34 rfl)) (mvT hZ (W 35 rfl)) (notFace_of_selects (args := #[]) (mvT hZ (W 37 rfl))) (mvT hZ (W 37 rfl)) (mvT hZ (W 36 rfl)) (by decide) (backOf (W := 0) (rm_add6_0 l Z a0 hw [] b62 r_816 b109_68 k109_68 h816 n0 O816 g_b62 g_b109_68 F818 F819 F820 J68_3 F821 F822 J816_0 (fun q => ne_b62_b109_68 q.symm)) hZ (W 38 rfl) (W 2 rfl) (by decide) (by decide)) q824a q824c (g := (mkF m 37 #[iv p0, iv p1, iv p2, iv p3, rv b62, iv (1 : Int32), iv (1 : Int32), rv r_816, .unset, .unset, .unset] [(.ref r_816), (.ref b62)])) rfl (by rw [hml]; rfl) (Steps.refl _) (argsL := [(.ref r_816)]) (rest := []) (lenOf pd_15 rfl) rfl (by show 2 * 0 + _ ≤ _; exact Nat.le_of_eq rfl) (hb hby at_37) (fun _ _ => ⟨rfl, e816, (by decide : 3 + 0 ≤ _), (by decide : 19 + 0 ≤ _)⟩)
    dsimp only [Pt.U, Pt.locs, Pt.cells, Pt.slots] at X824 l824 y824 z824 st824 hQ824
    replace l824 := l824.symm
    replace y824 : 3 = k824 := y824.symm
    replace z824 : 19 = n824 := z824.symm
    subst l824 y824 z824
    obtain ⟨rfl, M824, Kc824, O824, J824_0, J824_1, J824_2, J824_3, J824_4⟩ := hQ824
    obtain ⟨h824, e824⟩ : ∃ z, T824.heap = z := ⟨_, rfl⟩
    rw [e824] at Kc824 O824 J824_0 J824_1 J824_2 J824_3 J824_4
    have N824 := Fr.app N816 M824
    have K824 : Keep h0 h824 [] := K816.trans Kc824 (own_all2 (Or.inr sz_b62) (Or.inr sz_b109_68))
    have pre825 : ∀ t, Steps p.tables e below (T824.setTop (mkF m 40 #[iv p0, iv p1, iv p2, iv p3, rv b62, iv (1 : Int32), iv (1 : Int32), rv r_816, .unset, .unset, .unset] [])) t → Steps p.tables e below (s₁.setTop (entryFrame m #[(.int p0), (.int p1), (.int p2), (.int p3)] maxLocals)) t := fun t kt => pre823 _ (st824.trans kt)
    have F826 := J816_0.keep Kc824
    have pre827 : ∀ t, Steps p.tables e below (T824.setTop (mkF m 73 #[iv p0, iv p1, iv p2, iv p3, rv b62, iv (1 : Int32), iv (1 : Int32), rv r_816, .unset, .unset, .unset] [(.ref b62)])) t → Steps p.tables e below (s₁.setTop (entryFrame m #[(.int p0), (.int p1), (.int p2), (.int p3)] maxLocals)) t := fun t kt => by
      refine pre825 _ ?_
      show Steps p.tables e below (T824.setTop (mkF m 40 #[iv p0, iv p1, iv p2, iv p3, rv b62, iv (1 : Int32), iv (1 : Int32), rv r_816, .unset, .unset, .unset] [])) _
      refine XS.iload X824.here hx rfl (hb hby at_40) rfl ?_
      refine XS.iconst X824.here hx rfl (hb hby at_42) ?_
      refine XS.icmpYes X824.here hx rfl (pc0 := 43) (pc' := 53) rfl (hb hby at_43) rfl (XT.ii_lt_t (by decide)) (by decide) (by decide) ?_
      refine XS.iload X824.here hx rfl (hb hby at_53) rfl ?_
      show Steps p.tables e below (T824.setTop (mkF m 55 #[iv p0, iv p1, iv p2, iv p3, rv b62, iv (1 : Int32), iv (1 : Int32), rv r_816, .unset, .unset, .unset] [(.int (1 : Int32))])) _
      refine XS.iconst X824.here hx rfl (hb hby at_55) ?_
      refine XS.icmpYes X824.here hx rfl (pc0 := 56) (pc' := 66) rfl (hb hby at_56) rfl (XT.ii_lt_t (by decide)) (by decide) (by decide) ?_
      refine XS.iload X824.here hx rfl (hb hby at_66) rfl ?_
      refine XS.ifNo X824.here hx rfl (hb hby at_68) rfl (XT.i0_eq_f (by decide)) ?_
      show Steps p.tables e below (T824.setTop (mkF m 71 #[iv p0, iv p1, iv p2, iv p3, rv b62, iv (1 : Int32), iv (1 : Int32), rv r_816, .unset, .unset, .unset] [])) _
      refine XS.aload X824.here hx rfl (hb hby at_71) rfl rfl ?_
      exact kt
    obtain ⟨cq828, kq828, q828a, q828b, q828c⟩ := isOf hZ e824 J824_0
    obtain ⟨_, _, ⟨T828, L828, k828, n828⟩, -, X828, ⟨Lc828, hQ828, l828, y828, z828⟩, st828⟩ := X824.virtualBack hx (y := (⟨"com/example/homethread/homethread/Items", "isEmpty", "()Z"⟩ : MethodName)) (z := (⟨"com/example/homethread/homethread/Items", "isEmpty", "()Z"⟩ : MethodName)) hown (mvT hZ (W 13 rfl)) (mvT hZ (W 14 rfl)) (notFace_of_selects (args := #[]) (mvT hZ (W 16 rfl))) (mvT hZ (W 16 rfl)) (mvT hZ (W 15 rfl)) (by decide) (backOf (W := 0) (rm_isEmpty3_1 l Z a0 hw [] b62 h824 n0 O824 J824_4) hZ (W 17 rfl) (W 2 rfl) (by decide) (by decide)) q828a q828c (g := (mkF m 73 #[iv p0, iv p1, iv p2, iv p3, rv b62, iv (1 : Int32), iv (1 : Int32), rv r_816, .unset, .unset, .unset] [(.ref b62)])) rfl (by rw [hml]; rfl) (Steps.refl _) (argsL := []) (rest := []) (lenOf pd_12 rfl) rfl (by show 2 * 0 + _ ≤ _; exact Nat.le_of_eq rfl) (hb hby at_73) (fun _ _ => ⟨rfl, e824, (by decide : 3 + 0 ≤ _), (by decide : 19 + 0 ≤ _)⟩)
    dsimp only [Pt.U, Pt.locs, Pt.cells, Pt.slots] at X828 l828 y828 z828 st828 hQ828
    replace l828 := l828.symm
    replace y828 : 3 = k828 := y828.symm
    replace z828 : 19 = n828 := z828.symm
    subst l828 y828 z828
    obtain ⟨rfl, M828, e828⟩ := hQ828
    have N828 := Fr.app N824 M828
    have pre829 : ∀ t, Steps p.tables e below (T828.setTop (mkF m 76 #[iv p0, iv p1, iv p2, iv p3, rv b62, iv (1 : Int32), iv (1 : Int32), rv r_816, .unset, .unset, .unset] [(.int (0 : Int32))])) t → Steps p.tables e below (s₁.setTop (entryFrame m #[(.int p0), (.int p1), (.int p2), (.int p3)] maxLocals)) t := fun t kt => pre827 _ (st828.trans kt)
    have pre830 : ∀ t, Steps p.tables e below (T828.setTop (mkF m 99 #[iv p0, iv p1, iv p2, iv p3, rv b62, iv (1 : Int32), iv (1 : Int32), rv r_816, .unset, .unset, .unset] [(.int (p2 &&& (3 : Int32)))])) t → Steps p.tables e below (s₁.setTop (entryFrame m #[(.int p0), (.int p1), (.int p2), (.int p3)] maxLocals)) t := fun t kt => by
      refine pre829 _ ?_
      show Steps p.tables e below (T828.setTop (mkF m 76 #[iv p0, iv p1, iv p2, iv p3, rv b62, iv (1 : Int32), iv (1 : Int32), rv r_816, .unset, .unset, .unset] [(.int (0 : Int32))])) _
      refine XS.iload X828.here hx rfl (hb hby at_76) rfl ?_
      refine XS.ifYes X828.here hx rfl (pc0 := 78) (pc' := 85) rfl (hb hby at_78) rfl (XT.i0_ne_t (by decide)) (by decide) (by decide) ?_
      refine XS.iconst X828.here hx rfl (hb hby at_85) ?_
      refine XS.icmpNo X828.here hx rfl (hb hby at_86) rfl (XT.ii_ne_f (by decide)) ?_
      show Steps p.tables e below (T828.setTop (mkF m 89 #[iv p0, iv p1, iv p2, iv p3, rv b62, iv (1 : Int32), iv (1 : Int32), rv r_816, .unset, .unset, .unset] [])) _
      refine XS.iconst X828.here hx rfl (hb hby at_89) ?_
      refine XS.goto X828.here hx rfl (pc0 := 90) (pc' := 94) rfl (hb hby at_90) (by decide) (by decide) ?_
      refine XS.istore X828.here hx rfl (hb hby at_94) rfl (l' := #[iv p0, iv p1, iv p2, iv p3, rv b62, iv (1 : Int32), iv (1 : Int32), rv r_816, .unset, .unset, .unset]) rfl ?_
      refine XS.iloadN X828.here hx rfl (hb hby at_96) rfl ?_
      show Steps p.tables e below (T828.setTop (mkF m 97 #[iv p0, iv p1, iv p2, iv p3, rv b62, iv (1 : Int32), iv (1 : Int32), rv r_816, .unset, .unset, .unset] [(.int p2)])) _
      refine XS.iconst X828.here hx rfl (hb hby at_97) ?_
      refine XS.iand X828.here hx rfl (hb hby at_98) rfl ?_
      exact kt
    rcases own_mask3 p2 with hv831 | hv831 | hv831 | hv831
    · rw [hv831] at pre830
      have pre832 : ∀ t, Steps p.tables e below (T828.setTop (mkF m 205 #[iv p0, iv p1, iv p2, iv p3, rv b62, iv (1 : Int32), iv (1 : Int32), rv r_816, iv (0 : Int32), iv (1 : Int32), .unset] [(.ref b62)])) t → Steps p.tables e below (s₁.setTop (entryFrame m #[(.int p0), (.int p1), (.int p2), (.int p3)] maxLocals)) t := fun t kt => by
        refine pre830 _ ?_
        show Steps p.tables e below (T828.setTop (mkF m 99 #[iv p0, iv p1, iv p2, iv p3, rv b62, iv (1 : Int32), iv (1 : Int32), rv r_816, .unset, .unset, .unset] [(.int (0 : Int32))])) _
        refine XS.istore X828.here hx rfl (hb hby at_99) rfl (l' := #[iv p0, iv p1, iv p2, iv p3, rv b62, iv (1 : Int32), iv (1 : Int32), rv r_816, iv (0 : Int32), .unset, .unset]) rfl ?_
        refine XS.iload X828.here hx rfl (hb hby at_101) rfl ?_
        refine XS.istore X828.here hx rfl (hb hby at_103) rfl (l' := #[iv p0, iv p1, iv p2, iv p3, rv b62, iv (1 : Int32), iv (1 : Int32), rv r_816, iv (0 : Int32), iv (1 : Int32), .unset]) rfl ?_
        refine XS.iload X828.here hx rfl (hb hby at_105) rfl ?_
        show Steps p.tables e below (T828.setTop (mkF m 107 #[iv p0, iv p1, iv p2, iv p3, rv b62, iv (1 : Int32), iv (1 : Int32), rv r_816, iv (0 : Int32), iv (1 : Int32), .unset] [(.int (0 : Int32))])) _
        refine XS.iconst X828.here hx rfl (hb hby at_107) ?_
        refine XS.icmpYes X828.here hx rfl (pc0 := 108) (pc' := 122) rfl (hb hby at_108) rfl (XT.ii_ne_t (by decide)) (by decide) (by decide) ?_
        refine XS.iload X828.here hx rfl (hb hby at_122) rfl ?_
        refine XS.iconst X828.here hx rfl (hb hby at_124) ?_
        show Steps p.tables e below (T828.setTop (mkF m 125 #[iv p0, iv p1, iv p2, iv p3, rv b62, iv (1 : Int32), iv (1 : Int32), rv r_816, iv (0 : Int32), iv (1 : Int32), .unset] [(.int (2 : Int32)), (.int (0 : Int32))])) _
        refine XS.icmpYes X828.here hx rfl (pc0 := 125) (pc' := 140) rfl (hb hby at_125) rfl (XT.ii_ne_t (by decide)) (by decide) (by decide) ?_
        refine XS.iload X828.here hx rfl (hb hby at_140) rfl ?_
        refine XS.iconst X828.here hx rfl (hb hby at_142) ?_
        refine XS.icmpYes X828.here hx rfl (pc0 := 143) (pc' := 198) rfl (hb hby at_143) rfl (XT.ii_ne_t (by decide)) (by decide) (by decide) ?_
        show Steps p.tables e below (T828.setTop (mkF m 198 #[iv p0, iv p1, iv p2, iv p3, rv b62, iv (1 : Int32), iv (1 : Int32), rv r_816, iv (0 : Int32), iv (1 : Int32), .unset] [])) _
        refine XS.iload X828.here hx rfl (hb hby at_198) rfl ?_
        refine XS.ifNo X828.here hx rfl (hb hby at_200) rfl (XT.i0_eq_f (by decide)) ?_
        refine XS.aload X828.here hx rfl (hb hby at_203) rfl rfl ?_
        exact kt
      obtain ⟨cq833, kq833, q833a, q833b, q833c⟩ := isOf hZ e828 J824_0
      obtain ⟨_, _, ⟨T833, L833, k833, n833⟩, -, X833, ⟨Lc833, hQ833, l833, y833, z833⟩, st833⟩ := X828.virtualBack hx (y := (⟨"com/example/homethread/homethread/Items", "isEmpty", "()Z"⟩ : MethodName)) (z := (⟨"com/example/homethread/homethread/Items", "isEmpty", "()Z"⟩ : MethodName)) hown (mvT hZ (W 13 rfl)) (mvT hZ (W 14 rfl)) (notFace_of_selects (args := #[]) (mvT hZ (W 16 rfl))) (mvT hZ (W 16 rfl)) (mvT hZ (W 15 rfl)) (by decide) (backOf (W := 0) (rm_isEmpty3_1 l Z a0 hw [] b62 h824 n0 O824 J824_4) hZ (W 17 rfl) (W 2 rfl) (by decide) (by decide)) q833a q833c (g := (mkF m 205 #[iv p0, iv p1, iv p2, iv p3, rv b62, iv (1 : Int32), iv (1 : Int32), rv r_816, iv (0 : Int32), iv (1 : Int32), .unset] [(.ref b62)])) rfl (by rw [hml]; rfl) (Steps.refl _) (argsL := []) (rest := []) (lenOf pd_12 rfl) rfl (by show 2 * 0 + _ ≤ _; exact Nat.le_of_eq rfl) (hb hby at_205) (fun _ _ => ⟨rfl, e828, (by decide : 3 + 0 ≤ _), (by decide : 19 + 0 ≤ _)⟩)
      dsimp only [Pt.U, Pt.locs, Pt.cells, Pt.slots] at X833 l833 y833 z833 st833 hQ833
      replace l833 := l833.symm
      replace y833 : 3 = k833 := y833.symm
      replace z833 : 19 = n833 := z833.symm
      subst l833 y833 z833
      obtain ⟨rfl, M833, e833⟩ := hQ833
      have N833 := Fr.app N828 M833
      have pre834 : ∀ t, Steps p.tables e below (T833.setTop (mkF m 208 #[iv p0, iv p1, iv p2, iv p3, rv b62, iv (1 : Int32), iv (1 : Int32), rv r_816, iv (0 : Int32), iv (1 : Int32), .unset] [(.int (0 : Int32))])) t → Steps p.tables e below (s₁.setTop (entryFrame m #[(.int p0), (.int p1), (.int p2), (.int p3)] maxLocals)) t := fun t kt => pre832 _ (st833.trans kt)
      have pre835 : ∀ t, Steps p.tables e below (T833.setTop (mkF m 232 #[iv p0, iv p1, iv p2, iv p3, rv b62, iv (1 : Int32), iv (1 : Int32), rv r_816, iv (0 : Int32), iv (1 : Int32), .unset] [(.ref r_816), (.ref b62)])) t → Steps p.tables e below (s₁.setTop (entryFrame m #[(.int p0), (.int p1), (.int p2), (.int p3)] maxLocals)) t := fun t kt => by
        refine pre834 _ ?_
        show Steps p.tables e below (T833.setTop (mkF m 208 #[iv p0, iv p1, iv p2, iv p3, rv b62, iv (1 : Int32), iv (1 : Int32), rv r_816, iv (0 : Int32), iv (1 : Int32), .unset] [(.int (0 : Int32))])) _
        refine XS.iload X833.here hx rfl (hb hby at_208) rfl ?_
        refine XS.ifYes X833.here hx rfl (pc0 := 210) (pc' := 217) rfl (hb hby at_210) rfl (XT.i0_ne_t (by decide)) (by decide) (by decide) ?_
        refine XS.iconst X833.here hx rfl (hb hby at_217) ?_
        refine XS.icmpNo X833.here hx rfl (hb hby at_218) rfl (XT.ii_ne_f (by decide)) ?_
        show Steps p.tables e below (T833.setTop (mkF m 221 #[iv p0, iv p1, iv p2, iv p3, rv b62, iv (1 : Int32), iv (1 : Int32), rv r_816, iv (0 : Int32), iv (1 : Int32), .unset] [])) _
        refine XS.iconst X833.here hx rfl (hb hby at_221) ?_
        refine XS.goto X833.here hx rfl (pc0 := 222) (pc' := 226) rfl (hb hby at_222) (by decide) (by decide) ?_
        refine XS.istore X833.here hx rfl (hb hby at_226) rfl (l' := #[iv p0, iv p1, iv p2, iv p3, rv b62, iv (1 : Int32), iv (1 : Int32), rv r_816, iv (0 : Int32), iv (1 : Int32), .unset]) rfl ?_
        refine XS.aload X833.here hx rfl (hb hby at_228) rfl rfl ?_
        show Steps p.tables e below (T833.setTop (mkF m 230 #[iv p0, iv p1, iv p2, iv p3, rv b62, iv (1 : Int32), iv (1 : Int32), rv r_816, iv (0 : Int32), iv (1 : Int32), .unset] [(.ref b62)])) _
        refine XS.aload X833.here hx rfl (hb hby at_230) rfl rfl ?_
        exact kt
      obtain ⟨cq836, kq836, q836a, q836b, q836c⟩ := isOf hZ e833 J824_0
      obtain ⟨_, _, ⟨T836, L836, k836, n836⟩, -, X836, ⟨Lc836, hQ836, l836, y836, z836⟩, st836⟩ := X833.virtualBack hx (y := (⟨"com/example/homethread/homethread/Items", "add", "(Ljava/lang/Object;)V"⟩ : MethodName)) (z := (⟨"com/example/homethread/homethread/Items", "add", "(Ljava/lang/Object;)V"⟩ : MethodName)) hown (mvT hZ (W 34 rfl)) (mvT hZ (W 35 rfl)) (notFace_of_selects (args := #[]) (mvT hZ (W 37 rfl))) (mvT hZ (W 37 rfl)) (mvT hZ (W 36 rfl)) (by decide) (backOf (W := 0) (rm_add6_2 l Z a0 hw [] b62 r_816 k109_68 b109_68 h824 n0 O824 g_b62 g_b109_68 J68_3 F826 J824_0 J824_1 J824_2 J824_3 J824_4 (fun q => ne_b62_b109_68 q.symm)) hZ (W 38 rfl) (W 2 rfl) (by decide) (by decide)) q836a q836c (g := (mkF m 232 #[iv p0, iv p1, iv p2, iv p3, rv b62, iv (1 : Int32), iv (1 : Int32), rv r_816, iv (0 : Int32), iv (1 : Int32), .unset] [(.ref r_816), (.ref b62)])) rfl (by rw [hml]; rfl) (Steps.refl _) (argsL := [(.ref r_816)]) (rest := []) (lenOf pd_15 rfl) rfl (by show 2 * 0 + _ ≤ _; exact Nat.le_of_eq rfl) (hb hby at_232) (fun _ _ => ⟨rfl, e833, (by decide : 3 + 0 ≤ _), (by decide : 19 + 0 ≤ _)⟩)
      dsimp only [Pt.U, Pt.locs, Pt.cells, Pt.slots] at X836 l836 y836 z836 st836 hQ836
      replace l836 := l836.symm
      replace y836 : 3 = k836 := y836.symm
      replace z836 : 19 = n836 := z836.symm
      subst l836 y836 z836
      obtain ⟨rfl, M836, Kc836, O836, J836_0, J836_1, J836_2, J836_3, J836_4⟩ := hQ836
      obtain ⟨h836, e836⟩ : ∃ z, T836.heap = z := ⟨_, rfl⟩
      rw [e836] at Kc836 O836 J836_0 J836_1 J836_2 J836_3 J836_4
      have N836 := Fr.app N833 M836
      have K836 : Keep h0 h836 [] := K824.trans Kc836 (own_all2 (Or.inr sz_b62) (Or.inr sz_b109_68))
      have pre942 : ∀ t, Steps p.tables e below (T836.setTop (mkF m 235 #[iv p0, iv p1, iv p2, iv p3, rv b62, iv (1 : Int32), iv (1 : Int32), rv r_816, iv (0 : Int32), iv (1 : Int32), .unset] [])) t → Steps p.tables e below (s₁.setTop (entryFrame m #[(.int p0), (.int p1), (.int p2), (.int p3)] maxLocals)) t := fun t kt => pre835 _ (st836.trans kt)
      have F943 := F826.keep Kc836
      have pre944 : ∀ t, Steps p.tables e below (T836.setTop (mkF m 242 #[iv p0, iv p1, iv p2, iv p3, rv b62, iv (1 : Int32), iv (1 : Int32), rv r_816, iv (0 : Int32), iv (1 : Int32), .unset] [(.ref b62)])) t → Steps p.tables e below (s₁.setTop (entryFrame m #[(.int p0), (.int p1), (.int p2), (.int p3)] maxLocals)) t := fun t kt => by
        refine pre942 _ ?_
        show Steps p.tables e below (T836.setTop (mkF m 235 #[iv p0, iv p1, iv p2, iv p3, rv b62, iv (1 : Int32), iv (1 : Int32), rv r_816, iv (0 : Int32), iv (1 : Int32), .unset] [])) _
        refine XS.iload X836.here hx rfl (hb hby at_235) rfl ?_
        refine XS.ifNo X836.here hx rfl (hb hby at_237) rfl (XT.i0_eq_f (by decide)) ?_
        refine XS.aload X836.here hx rfl (hb hby at_240) rfl rfl ?_
        exact kt
      obtain ⟨cq945, kq945, q945a, q945b, q945c⟩ := isOf hZ e836 J836_0
      obtain ⟨_, _, ⟨T945, L945, k945, n945⟩, -, X945, ⟨Lc945, hQ945, l945, y945, z945⟩, st945⟩ := X836.virtualBack hx (y := (⟨"com/example/homethread/homethread/Items", "isEmpty", "()Z"⟩ : MethodName)) (z := (⟨"com/example/homethread/homethread/Items", "isEmpty", "()Z"⟩ : MethodName)) hown (mvT hZ (W 13 rfl)) (mvT hZ (W 14 rfl)) (notFace_of_selects (args := #[]) (mvT hZ (W 16 rfl))) (mvT hZ (W 16 rfl)) (mvT hZ (W 15 rfl)) (by decide) (backOf (W := 0) (rm_isEmpty3_2 l Z a0 hw [] b62 h836 n0 O836 J836_4) hZ (W 17 rfl) (W 2 rfl) (by decide) (by decide)) q945a q945c (g := (mkF m 242 #[iv p0, iv p1, iv p2, iv p3, rv b62, iv (1 : Int32), iv (1 : Int32), rv r_816, iv (0 : Int32), iv (1 : Int32), .unset] [(.ref b62)])) rfl (by rw [hml]; rfl) (Steps.refl _) (argsL := []) (rest := []) (lenOf pd_12 rfl) rfl (by show 2 * 0 + _ ≤ _; exact Nat.le_of_eq rfl) (hb hby at_242) (fun _ _ => ⟨rfl, e836, (by decide : 3 + 0 ≤ _), (by decide : 19 + 0 ≤ _)⟩)
      dsimp only [Pt.U, Pt.locs, Pt.cells, Pt.slots] at X945 l945 y945 z945 st945 hQ945
      replace l945 := l945.symm
      replace y945 : 3 = k945 := y945.symm
      replace z945 : 19 = n945 := z945.symm
      subst l945 y945 z945
      obtain ⟨rfl, M945, e945⟩ := hQ945
      have N945 := Fr.app N836 M945
      have pre958 : ∀ t, Steps p.tables e below (T945.setTop (mkF m 245 #[iv p0, iv p1, iv p2, iv p3, rv b62, iv (1 : Int32), iv (1 : Int32), rv r_816, iv (0 : Int32), iv (1 : Int32), .unset] [(.int (0 : Int32))])) t → Steps p.tables e below (s₁.setTop (entryFrame m #[(.int p0), (.int p1), (.int p2), (.int p3)] maxLocals)) t := fun t kt => pre944 _ (st945.trans kt)
      have pre959 : ∀ t, Steps p.tables e below (T945.setTop (mkF m 257 #[iv p0, iv p1, iv p2, iv p3, rv b62, iv (1 : Int32), iv (1 : Int32), rv r_816, iv (0 : Int32), iv (1 : Int32), .unset] [(.int (1 : Int32))])) t → Steps p.tables e below (s₁.setTop (entryFrame m #[(.int p0), (.int p1), (.int p2), (.int p3)] maxLocals)) t := fun t kt => by
        refine pre958 _ ?_
        show Steps p.tables e below (T945.setTop (mkF m 245 #[iv p0, iv p1, iv p2, iv p3, rv b62, iv (1 : Int32), iv (1 : Int32), rv r_816, iv (0 : Int32), iv (1 : Int32), .unset] [(.int (0 : Int32))])) _
        refine XS.ifNo X945.here hx rfl (hb hby at_245) rfl (XT.i0_ne_f (by decide)) ?_
        refine XS.iconst X945.here hx rfl (hb hby at_248) ?_
        refine XS.goto X945.here hx rfl (pc0 := 249) (pc' := 253) rfl (hb hby at_249) (by decide) (by decide) ?_
        refine XS.istore X945.here hx rfl (hb hby at_253) rfl (l' := #[iv p0, iv p1, iv p2, iv p3, rv b62, iv (1 : Int32), iv (1 : Int32), rv r_816, iv (0 : Int32), iv (1 : Int32), .unset]) rfl ?_
        show Steps p.tables e below (T945.setTop (mkF m 255 #[iv p0, iv p1, iv p2, iv p3, rv b62, iv (1 : Int32), iv (1 : Int32), rv r_816, iv (0 : Int32), iv (1 : Int32), .unset] [])) _
        refine XS.iload X945.here hx rfl (hb hby at_255) rfl ?_
        exact kt
      obtain ⟨fs, hr, hrun, hended, hW, hsame⟩ := X945.leave (v := some (.int (1 : Int32))) (fun h => by rw [Bd.returns] at h; cases h)
      refine ⟨_, _, pre959 _ (retN X945 hx (t := .boolean) Bd.returns (by simp) (hb hby at_257) hr), hrun, hended, _, _, rfl, ?_, ⟨_, rfl⟩, hW, hsame.mono (by decide) (by decide)⟩
      show Q_law Z p0 p1 p2 p3 ac mr a_NO_SLOTS kn h0 n0 _ T945.heap _
      rw [e945]
      exact ⟨rfl, N945⟩
    · rw [hv831] at pre830
      have pre960 : ∀ t, Steps p.tables e below (T828.setTop (mkF m 113 #[iv p0, iv p1, iv p2, iv p3, rv b62, iv (1 : Int32), iv (1 : Int32), rv r_816, iv (1 : Int32), iv (1 : Int32), .unset] [(.ref b62)])) t → Steps p.tables e below (s₁.setTop (entryFrame m #[(.int p0), (.int p1), (.int p2), (.int p3)] maxLocals)) t := fun t kt => by
        refine pre830 _ ?_
        show Steps p.tables e below (T828.setTop (mkF m 99 #[iv p0, iv p1, iv p2, iv p3, rv b62, iv (1 : Int32), iv (1 : Int32), rv r_816, .unset, .unset, .unset] [(.int (1 : Int32))])) _
        refine XS.istore X828.here hx rfl (hb hby at_99) rfl (l' := #[iv p0, iv p1, iv p2, iv p3, rv b62, iv (1 : Int32), iv (1 : Int32), rv r_816, iv (1 : Int32), .unset, .unset]) rfl ?_
        refine XS.iload X828.here hx rfl (hb hby at_101) rfl ?_
        refine XS.istore X828.here hx rfl (hb hby at_103) rfl (l' := #[iv p0, iv p1, iv p2, iv p3, rv b62, iv (1 : Int32), iv (1 : Int32), rv r_816, iv (1 : Int32), iv (1 : Int32), .unset]) rfl ?_
        refine XS.iload X828.here hx rfl (hb hby at_105) rfl ?_
        show Steps p.tables e below (T828.setTop (mkF m 107 #[iv p0, iv p1, iv p2, iv p3, rv b62, iv (1 : Int32), iv (1 : Int32), rv r_816, iv (1 : Int32), iv (1 : Int32), .unset] [(.int (1 : Int32))])) _
        refine XS.iconst X828.here hx rfl (hb hby at_107) ?_
        refine XS.icmpNo X828.here hx rfl (hb hby at_108) rfl (XT.ii_ne_f (by decide)) ?_
        refine XS.aload X828.here hx rfl (hb hby at_111) rfl rfl ?_
        exact kt
      obtain ⟨cq961, kq961, q961a, q961b, q961c⟩ := isOf hZ e828 J824_0
      obtain ⟨_, _, ⟨T961, L961, k961, n961⟩, -, X961, ⟨Lc961, hQ961, l961, y961, z961⟩, st961⟩ := X828.virtualBack hx (y := (⟨"com/example/homethread/homethread/Items", "clear", "()V"⟩ : MethodName)) (z := (⟨"com/example/homethread/homethread/Items", "clear", "()V"⟩ : MethodName)) hown (mvT hZ (W 87 rfl)) (mvT hZ (W 88 rfl)) (notFace_of_selects (args := #[]) (mvT hZ (W 90 rfl))) (mvT hZ (W 90 rfl)) (mvT hZ (W 89 rfl)) (by decide) (backOf (W := 0) (rm_clear14_1 l Z a0 hw [] b62 b109_68 h824 n0 O824 g_b62 J824_0 J824_2 J824_4) hZ (W 91 rfl) (W 2 rfl) (by decide) (by decide)) q961a q961c (g := (mkF m 113 #[iv p0, iv p1, iv p2, iv p3, rv b62, iv (1 : Int32), iv (1 : Int32), rv r_816, iv (1 : Int32), iv (1 : Int32), .unset] [(.ref b62)])) rfl (by rw [hml]; rfl) (Steps.refl _) (argsL := []) (rest := []) (lenOf pd_4 rfl) rfl (by show 2 * 0 + _ ≤ _; exact Nat.le_of_eq rfl) (hb hby at_113) (fun _ _ => ⟨rfl, e828, (by decide : 3 + 0 ≤ _), (by decide : 19 + 0 ≤ _)⟩)
      dsimp only [Pt.U, Pt.locs, Pt.cells, Pt.slots] at X961 l961 y961 z961 st961 hQ961
      replace l961 := l961.symm
      replace y961 : 3 = k961 := y961.symm
      replace z961 : 19 = n961 := z961.symm
      subst l961 y961 z961
      obtain ⟨rfl, M961, Kc961, O961, J961_0, J961_1, J961_2⟩ := hQ961
      obtain ⟨h961, e961⟩ : ∃ z, T961.heap = z := ⟨_, rfl⟩
      rw [e961] at Kc961 O961 J961_0 J961_1 J961_2
      have N961 := Fr.app N828 M961
      have K961 : Keep h0 h961 [] := K824.trans Kc961 (own_all1 (Or.inr sz_b62))
      have pre989 : ∀ t, Steps p.tables e below (T961.setTop (mkF m 116 #[iv p0, iv p1, iv p2, iv p3, rv b62, iv (1 : Int32), iv (1 : Int32), rv r_816, iv (1 : Int32), iv (1 : Int32), .unset] [])) t → Steps p.tables e below (s₁.setTop (entryFrame m #[(.int p0), (.int p1), (.int p2), (.int p3)] maxLocals)) t := fun t kt => pre960 _ (st961.trans kt)
      have F990 := F826.keep Kc961
      have F991 := J824_1.keep Kc961
      have F992 := J824_3.keep Kc961 (own_nm1 (fun q => ne_b62_b109_68 q.symm))
      have pre993 : ∀ t, Steps p.tables e below (T961.setTop (mkF m 205 #[iv p0, iv p1, iv p2, iv p3, rv b62, iv (1 : Int32), iv (1 : Int32), rv r_816, iv (1 : Int32), iv (0 : Int32), .unset] [(.ref b62)])) t → Steps p.tables e below (s₁.setTop (entryFrame m #[(.int p0), (.int p1), (.int p2), (.int p3)] maxLocals)) t := fun t kt => by
        refine pre989 _ ?_
        show Steps p.tables e below (T961.setTop (mkF m 116 #[iv p0, iv p1, iv p2, iv p3, rv b62, iv (1 : Int32), iv (1 : Int32), rv r_816, iv (1 : Int32), iv (1 : Int32), .unset] [])) _
        refine XS.iconst X961.here hx rfl (hb hby at_116) ?_
        refine XS.istore X961.here hx rfl (hb hby at_117) rfl (l' := #[iv p0, iv p1, iv p2, iv p3, rv b62, iv (1 : Int32), iv (1 : Int32), rv r_816, iv (1 : Int32), iv (0 : Int32), .unset]) rfl ?_
        refine XS.goto X961.here hx rfl (pc0 := 119) (pc' := 198) rfl (hb hby at_119) (by decide) (by decide) ?_
        refine XS.iload X961.here hx rfl (hb hby at_198) rfl ?_
        show Steps p.tables e below (T961.setTop (mkF m 200 #[iv p0, iv p1, iv p2, iv p3, rv b62, iv (1 : Int32), iv (1 : Int32), rv r_816, iv (1 : Int32), iv (0 : Int32), .unset] [(.int (1 : Int32))])) _
        refine XS.ifNo X961.here hx rfl (hb hby at_200) rfl (XT.i0_eq_f (by decide)) ?_
        refine XS.aload X961.here hx rfl (hb hby at_203) rfl rfl ?_
        exact kt
      obtain ⟨cq994, kq994, q994a, q994b, q994c⟩ := isOf hZ e961 J961_0
      obtain ⟨_, _, ⟨T994, L994, k994, n994⟩, -, X994, ⟨Lc994, hQ994, l994, y994, z994⟩, st994⟩ := X961.virtualBack hx (y := (⟨"com/example/homethread/homethread/Items", "isEmpty", "()Z"⟩ : MethodName)) (z := (⟨"com/example/homethread/homethread/Items", "isEmpty", "()Z"⟩ : MethodName)) hown (mvT hZ (W 13 rfl)) (mvT hZ (W 14 rfl)) (notFace_of_selects (args := #[]) (mvT hZ (W 16 rfl))) (mvT hZ (W 16 rfl)) (mvT hZ (W 15 rfl)) (by decide) (backOf (W := 0) (rm_isEmpty3_0 l Z a0 hw [] b62 h961 n0 O961 J961_2) hZ (W 17 rfl) (W 2 rfl) (by decide) (by decide)) q994a q994c (g := (mkF m 205 #[iv p0, iv p1, iv p2, iv p3, rv b62, iv (1 : Int32), iv (1 : Int32), rv r_816, iv (1 : Int32), iv (0 : Int32), .unset] [(.ref b62)])) rfl (by rw [hml]; rfl) (Steps.refl _) (argsL := []) (rest := []) (lenOf pd_12 rfl) rfl (by show 2 * 0 + _ ≤ _; exact Nat.le_of_eq rfl) (hb hby at_205) (fun _ _ => ⟨rfl, e961, (by decide : 3 + 0 ≤ _), (by decide : 19 + 0 ≤ _)⟩)
      dsimp only [Pt.U, Pt.locs, Pt.cells, Pt.slots] at X994 l994 y994 z994 st994 hQ994
      replace l994 := l994.symm
      replace y994 : 3 = k994 := y994.symm
      replace z994 : 19 = n994 := z994.symm
      subst l994 y994 z994
      obtain ⟨rfl, M994, e994⟩ := hQ994
      have N994 := Fr.app N961 M994
      have pre995 : ∀ t, Steps p.tables e below (T994.setTop (mkF m 208 #[iv p0, iv p1, iv p2, iv p3, rv b62, iv (1 : Int32), iv (1 : Int32), rv r_816, iv (1 : Int32), iv (0 : Int32), .unset] [(.int (1 : Int32))])) t → Steps p.tables e below (s₁.setTop (entryFrame m #[(.int p0), (.int p1), (.int p2), (.int p3)] maxLocals)) t := fun t kt => pre993 _ (st994.trans kt)
      have pre996 : ∀ t, Steps p.tables e below (T994.setTop (mkF m 232 #[iv p0, iv p1, iv p2, iv p3, rv b62, iv (1 : Int32), iv (1 : Int32), rv r_816, iv (1 : Int32), iv (0 : Int32), .unset] [(.ref r_816), (.ref b62)])) t → Steps p.tables e below (s₁.setTop (entryFrame m #[(.int p0), (.int p1), (.int p2), (.int p3)] maxLocals)) t := fun t kt => by
        refine pre995 _ ?_
        show Steps p.tables e below (T994.setTop (mkF m 208 #[iv p0, iv p1, iv p2, iv p3, rv b62, iv (1 : Int32), iv (1 : Int32), rv r_816, iv (1 : Int32), iv (0 : Int32), .unset] [(.int (1 : Int32))])) _
        refine XS.iload X994.here hx rfl (hb hby at_208) rfl ?_
        refine XS.ifNo X994.here hx rfl (hb hby at_210) rfl (XT.i0_ne_f (by decide)) ?_
        refine XS.iconst X994.here hx rfl (hb hby at_213) ?_
        refine XS.goto X994.here hx rfl (pc0 := 214) (pc' := 218) rfl (hb hby at_214) (by decide) (by decide) ?_
        show Steps p.tables e below (T994.setTop (mkF m 218 #[iv p0, iv p1, iv p2, iv p3, rv b62, iv (1 : Int32), iv (1 : Int32), rv r_816, iv (1 : Int32), iv (0 : Int32), .unset] [(.int (1 : Int32)), (.int (1 : Int32))])) _
        refine XS.icmpNo X994.here hx rfl (hb hby at_218) rfl (XT.ii_ne_f (by decide)) ?_
        refine XS.iconst X994.here hx rfl (hb hby at_221) ?_
        refine XS.goto X994.here hx rfl (pc0 := 222) (pc' := 226) rfl (hb hby at_222) (by decide) (by decide) ?_
        refine XS.istore X994.here hx rfl (hb hby at_226) rfl (l' := #[iv p0, iv p1, iv p2, iv p3, rv b62, iv (1 : Int32), iv (1 : Int32), rv r_816, iv (1 : Int32), iv (0 : Int32), .unset]) rfl ?_
        show Steps p.tables e below (T994.setTop (mkF m 228 #[iv p0, iv p1, iv p2, iv p3, rv b62, iv (1 : Int32), iv (1 : Int32), rv r_816, iv (1 : Int32), iv (0 : Int32), .unset] [])) _
        refine XS.aload X994.here hx rfl (hb hby at_228) rfl rfl ?_
        refine XS.aload X994.here hx rfl (hb hby at_230) rfl rfl ?_
        exact kt
      obtain ⟨cq997, kq997, q997a, q997b, q997c⟩ := isOf hZ e994 J961_0
      obtain ⟨_, _, ⟨T997, L997, k997, n997⟩, -, X997, ⟨Lc997, hQ997, l997, y997, z997⟩, st997⟩ := X994.virtualBack hx (y := (⟨"com/example/homethread/homethread/Items", "add", "(Ljava/lang/Object;)V"⟩ : MethodName)) (z := (⟨"com/example/homethread/homethread/Items", "add", "(Ljava/lang/Object;)V"⟩ : MethodName)) hown (mvT hZ (W 34 rfl)) (mvT hZ (W 35 rfl)) (notFace_of_selects (args := #[]) (mvT hZ (W 37 rfl))) (mvT hZ (W 37 rfl)) (mvT hZ (W 36 rfl)) (by decide) (backOf (W := 0) (rm_add6_3 l Z a0 hw [] b62 r_816 k109_68 b109_68 h961 n0 O961 g_b109_68 g_b62 J68_3 F990 F991 F992 J961_0 J961_1 J961_2 (fun q => ne_b62_b109_68 q.symm)) hZ (W 38 rfl) (W 2 rfl) (by decide) (by decide)) q997a q997c (g := (mkF m 232 #[iv p0, iv p1, iv p2, iv p3, rv b62, iv (1 : Int32), iv (1 : Int32), rv r_816, iv (1 : Int32), iv (0 : Int32), .unset] [(.ref r_816), (.ref b62)])) rfl (by rw [hml]; rfl) (Steps.refl _) (argsL := [(.ref r_816)]) (rest := []) (lenOf pd_15 rfl) rfl (by show 2 * 0 + _ ≤ _; exact Nat.le_of_eq rfl) (hb hby at_232) (fun _ _ => ⟨rfl, e994, (by decide : 3 + 0 ≤ _), (by decide : 19 + 0 ≤ _)⟩)
      dsimp only [Pt.U, Pt.locs, Pt.cells, Pt.slots] at X997 l997 y997 z997 st997 hQ997
      replace l997 := l997.symm
      replace y997 : 3 = k997 := y997.symm
      replace z997 : 19 = n997 := z997.symm
      subst l997 y997 z997
      obtain ⟨rfl, M997, Kc997, O997, J997_0, J997_1, J997_2, J997_3, J997_4⟩ := hQ997
      obtain ⟨h997, e997⟩ : ∃ z, T997.heap = z := ⟨_, rfl⟩
      rw [e997] at Kc997 O997 J997_0 J997_1 J997_2 J997_3 J997_4
      have N997 := Fr.app N994 M997
      have K997 : Keep h0 h997 [] := K961.trans Kc997 (own_all2 (Or.inr sz_b109_68) (Or.inr sz_b62))
      have pre1103 : ∀ t, Steps p.tables e below (T997.setTop (mkF m 235 #[iv p0, iv p1, iv p2, iv p3, rv b62, iv (1 : Int32), iv (1 : Int32), rv r_816, iv (1 : Int32), iv (0 : Int32), .unset] [])) t → Steps p.tables e below (s₁.setTop (entryFrame m #[(.int p0), (.int p1), (.int p2), (.int p3)] maxLocals)) t := fun t kt => pre996 _ (st997.trans kt)
      have F1104 := F990.keep Kc997
      have pre1105 : ∀ t, Steps p.tables e below (T997.setTop (mkF m 242 #[iv p0, iv p1, iv p2, iv p3, rv b62, iv (1 : Int32), iv (1 : Int32), rv r_816, iv (1 : Int32), iv (0 : Int32), .unset] [(.ref b62)])) t → Steps p.tables e below (s₁.setTop (entryFrame m #[(.int p0), (.int p1), (.int p2), (.int p3)] maxLocals)) t := fun t kt => by
        refine pre1103 _ ?_
        show Steps p.tables e below (T997.setTop (mkF m 235 #[iv p0, iv p1, iv p2, iv p3, rv b62, iv (1 : Int32), iv (1 : Int32), rv r_816, iv (1 : Int32), iv (0 : Int32), .unset] [])) _
        refine XS.iload X997.here hx rfl (hb hby at_235) rfl ?_
        refine XS.ifNo X997.here hx rfl (hb hby at_237) rfl (XT.i0_eq_f (by decide)) ?_
        refine XS.aload X997.here hx rfl (hb hby at_240) rfl rfl ?_
        exact kt
      obtain ⟨cq1106, kq1106, q1106a, q1106b, q1106c⟩ := isOf hZ e997 J997_1
      obtain ⟨_, _, ⟨T1106, L1106, k1106, n1106⟩, -, X1106, ⟨Lc1106, hQ1106, l1106, y1106, z1106⟩, st1106⟩ := X997.virtualBack hx (y := (⟨"com/example/homethread/homethread/Items", "isEmpty", "()Z"⟩ : MethodName)) (z := (⟨"com/example/homethread/homethread/Items", "isEmpty", "()Z"⟩ : MethodName)) hown (mvT hZ (W 13 rfl)) (mvT hZ (W 14 rfl)) (notFace_of_selects (args := #[]) (mvT hZ (W 16 rfl))) (mvT hZ (W 16 rfl)) (mvT hZ (W 15 rfl)) (by decide) (backOf (W := 0) (rm_isEmpty3_1 l Z a0 hw [] b62 h997 n0 O997 J997_4) hZ (W 17 rfl) (W 2 rfl) (by decide) (by decide)) q1106a q1106c (g := (mkF m 242 #[iv p0, iv p1, iv p2, iv p3, rv b62, iv (1 : Int32), iv (1 : Int32), rv r_816, iv (1 : Int32), iv (0 : Int32), .unset] [(.ref b62)])) rfl (by rw [hml]; rfl) (Steps.refl _) (argsL := []) (rest := []) (lenOf pd_12 rfl) rfl (by show 2 * 0 + _ ≤ _; exact Nat.le_of_eq rfl) (hb hby at_242) (fun _ _ => ⟨rfl, e997, (by decide : 3 + 0 ≤ _), (by decide : 19 + 0 ≤ _)⟩)
      dsimp only [Pt.U, Pt.locs, Pt.cells, Pt.slots] at X1106 l1106 y1106 z1106 st1106 hQ1106
      replace l1106 := l1106.symm
      replace y1106 : 3 = k1106 := y1106.symm
      replace z1106 : 19 = n1106 := z1106.symm
      subst l1106 y1106 z1106
      obtain ⟨rfl, M1106, e1106⟩ := hQ1106
      have N1106 := Fr.app N997 M1106
      have pre1107 : ∀ t, Steps p.tables e below (T1106.setTop (mkF m 245 #[iv p0, iv p1, iv p2, iv p3, rv b62, iv (1 : Int32), iv (1 : Int32), rv r_816, iv (1 : Int32), iv (0 : Int32), .unset] [(.int (0 : Int32))])) t → Steps p.tables e below (s₁.setTop (entryFrame m #[(.int p0), (.int p1), (.int p2), (.int p3)] maxLocals)) t := fun t kt => pre1105 _ (st1106.trans kt)
      have pre1108 : ∀ t, Steps p.tables e below (T1106.setTop (mkF m 257 #[iv p0, iv p1, iv p2, iv p3, rv b62, iv (1 : Int32), iv (1 : Int32), rv r_816, iv (1 : Int32), iv (0 : Int32), .unset] [(.int (1 : Int32))])) t → Steps p.tables e below (s₁.setTop (entryFrame m #[(.int p0), (.int p1), (.int p2), (.int p3)] maxLocals)) t := fun t kt => by
        refine pre1107 _ ?_
        show Steps p.tables e below (T1106.setTop (mkF m 245 #[iv p0, iv p1, iv p2, iv p3, rv b62, iv (1 : Int32), iv (1 : Int32), rv r_816, iv (1 : Int32), iv (0 : Int32), .unset] [(.int (0 : Int32))])) _
        refine XS.ifNo X1106.here hx rfl (hb hby at_245) rfl (XT.i0_ne_f (by decide)) ?_
        refine XS.iconst X1106.here hx rfl (hb hby at_248) ?_
        refine XS.goto X1106.here hx rfl (pc0 := 249) (pc' := 253) rfl (hb hby at_249) (by decide) (by decide) ?_
        refine XS.istore X1106.here hx rfl (hb hby at_253) rfl (l' := #[iv p0, iv p1, iv p2, iv p3, rv b62, iv (1 : Int32), iv (1 : Int32), rv r_816, iv (1 : Int32), iv (0 : Int32), .unset]) rfl ?_
        show Steps p.tables e below (T1106.setTop (mkF m 255 #[iv p0, iv p1, iv p2, iv p3, rv b62, iv (1 : Int32), iv (1 : Int32), rv r_816, iv (1 : Int32), iv (0 : Int32), .unset] [])) _
        refine XS.iload X1106.here hx rfl (hb hby at_255) rfl ?_
        exact kt
      obtain ⟨fs, hr, hrun, hended, hW, hsame⟩ := X1106.leave (v := some (.int (1 : Int32))) (fun h => by rw [Bd.returns] at h; cases h)
      refine ⟨_, _, pre1108 _ (retN X1106 hx (t := .boolean) Bd.returns (by simp) (hb hby at_257) hr), hrun, hended, _, _, rfl, ?_, ⟨_, rfl⟩, hW, hsame.mono (by decide) (by decide)⟩
      show Q_law Z p0 p1 p2 p3 ac mr a_NO_SLOTS kn h0 n0 _ T1106.heap _
      rw [e1106]
      exact ⟨rfl, N1106⟩
    · rw [hv831] at pre830
      have pre1109 : ∀ t, Steps p.tables e below (T828.setTop (mkF m 131 #[iv p0, iv p1, iv p2, iv p3, rv b62, iv (1 : Int32), iv (1 : Int32), rv r_816, iv (2 : Int32), iv (1 : Int32), .unset] [(.int p3), (.ref b62)])) t → Steps p.tables e below (s₁.setTop (entryFrame m #[(.int p0), (.int p1), (.int p2), (.int p3)] maxLocals)) t := fun t kt => by
        refine pre830 _ ?_
        show Steps p.tables e below (T828.setTop (mkF m 99 #[iv p0, iv p1, iv p2, iv p3, rv b62, iv (1 : Int32), iv (1 : Int32), rv r_816, .unset, .unset, .unset] [(.int (2 : Int32))])) _
        refine XS.istore X828.here hx rfl (hb hby at_99) rfl (l' := #[iv p0, iv p1, iv p2, iv p3, rv b62, iv (1 : Int32), iv (1 : Int32), rv r_816, iv (2 : Int32), .unset, .unset]) rfl ?_
        refine XS.iload X828.here hx rfl (hb hby at_101) rfl ?_
        refine XS.istore X828.here hx rfl (hb hby at_103) rfl (l' := #[iv p0, iv p1, iv p2, iv p3, rv b62, iv (1 : Int32), iv (1 : Int32), rv r_816, iv (2 : Int32), iv (1 : Int32), .unset]) rfl ?_
        refine XS.iload X828.here hx rfl (hb hby at_105) rfl ?_
        show Steps p.tables e below (T828.setTop (mkF m 107 #[iv p0, iv p1, iv p2, iv p3, rv b62, iv (1 : Int32), iv (1 : Int32), rv r_816, iv (2 : Int32), iv (1 : Int32), .unset] [(.int (2 : Int32))])) _
        refine XS.iconst X828.here hx rfl (hb hby at_107) ?_
        refine XS.icmpYes X828.here hx rfl (pc0 := 108) (pc' := 122) rfl (hb hby at_108) rfl (XT.ii_ne_t (by decide)) (by decide) (by decide) ?_
        refine XS.iload X828.here hx rfl (hb hby at_122) rfl ?_
        refine XS.iconst X828.here hx rfl (hb hby at_124) ?_
        show Steps p.tables e below (T828.setTop (mkF m 125 #[iv p0, iv p1, iv p2, iv p3, rv b62, iv (1 : Int32), iv (1 : Int32), rv r_816, iv (2 : Int32), iv (1 : Int32), .unset] [(.int (2 : Int32)), (.int (2 : Int32))])) _
        refine XS.icmpNo X828.here hx rfl (hb hby at_125) rfl (XT.ii_ne_f (by decide)) ?_
        refine XS.aload X828.here hx rfl (hb hby at_128) rfl rfl ?_
        refine XS.iloadN X828.here hx rfl (hb hby at_130) rfl ?_
        exact kt
      by_cases hc1115 : p3 < (16 : Int32)
      · obtain ⟨cq1116, kq1116, q1116a, q1116b, q1116c⟩ := isOf hZ e828 J824_0
        obtain ⟨_, _, ⟨T1116, L1116, k1116, n1116⟩, -, X1116, ⟨Lc1116, hQ1116, l1116, y1116, z1116⟩, st1116⟩ := X828.virtualBack hx (y := (⟨"com/example/homethread/homethread/Items", "clearAndTrim", "(I)V"⟩ : MethodName)) (z := (⟨"com/example/homethread/homethread/Items", "clearAndTrim", "(I)V"⟩ : MethodName)) hown (mvT hZ (W 27 rfl)) (mvT hZ (W 28 rfl)) (notFace_of_selects (args := #[]) (mvT hZ (W 30 rfl))) (mvT hZ (W 30 rfl)) (mvT hZ (W 29 rfl)) (by decide) (backOf (W := 0) (rm_clearAndTrim5_4 l Z a0 hw [] b62 p3 a_NO_SLOTS k109_68 r_816 b109_68 h824 n0 O824 G4 g_b62 J824_0 J824_2 J824_3 J824_4 (fun q => ne_b62_b109_68 q.symm) hc1115) hZ (W 31 rfl) (W 2 rfl) (by decide) (by decide)) q1116a q1116c (g := (mkF m 131 #[iv p0, iv p1, iv p2, iv p3, rv b62, iv (1 : Int32), iv (1 : Int32), rv r_816, iv (2 : Int32), iv (1 : Int32), .unset] [(.int p3), (.ref b62)])) rfl (by rw [hml]; rfl) (Steps.refl _) (argsL := [(.int p3)]) (rest := []) (lenOf pd_6 rfl) rfl (by show 2 * 0 + _ ≤ _; exact Nat.le_of_eq rfl) (hb hby at_131) (fun _ _ => ⟨rfl, e828, (by decide : 3 + 0 ≤ _), (by decide : 19 + 0 ≤ _)⟩)
        dsimp only [Pt.U, Pt.locs, Pt.cells, Pt.slots] at X1116 l1116 y1116 z1116 st1116 hQ1116
        replace l1116 := l1116.symm
        replace y1116 : 3 = k1116 := y1116.symm
        replace z1116 : 19 = n1116 := z1116.symm
        subst l1116 y1116 z1116
        obtain ⟨rfl, M1116, Kc1116, O1116, J1116_0, J1116_1, J1116_2⟩ := hQ1116
        obtain ⟨h1116, e1116⟩ : ∃ z, T1116.heap = z := ⟨_, rfl⟩
        rw [e1116] at Kc1116 O1116 J1116_0 J1116_1 J1116_2
        have N1116 := Fr.app N828 M1116
        have K1116 : Keep h0 h1116 [] := K824.trans Kc1116 (own_all1 (Or.inr sz_b62))
        have pre1181 : ∀ t, Steps p.tables e below (T1116.setTop (mkF m 134 #[iv p0, iv p1, iv p2, iv p3, rv b62, iv (1 : Int32), iv (1 : Int32), rv r_816, iv (2 : Int32), iv (1 : Int32), .unset] [])) t → Steps p.tables e below (s₁.setTop (entryFrame m #[(.int p0), (.int p1), (.int p2), (.int p3)] maxLocals)) t := fun t kt => pre1109 _ (st1116.trans kt)
        have F1182 := F826.keep Kc1116
        have F1183 := J824_1.keep Kc1116
        have F1184 := J824_3.keep Kc1116 (own_nm1 (fun q => ne_b62_b109_68 q.symm))
        have pre1185 : ∀ t, Steps p.tables e below (T1116.setTop (mkF m 205 #[iv p0, iv p1, iv p2, iv p3, rv b62, iv (1 : Int32), iv (1 : Int32), rv r_816, iv (2 : Int32), iv (0 : Int32), .unset] [(.ref b62)])) t → Steps p.tables e below (s₁.setTop (entryFrame m #[(.int p0), (.int p1), (.int p2), (.int p3)] maxLocals)) t := fun t kt => by
          refine pre1181 _ ?_
          show Steps p.tables e below (T1116.setTop (mkF m 134 #[iv p0, iv p1, iv p2, iv p3, rv b62, iv (1 : Int32), iv (1 : Int32), rv r_816, iv (2 : Int32), iv (1 : Int32), .unset] [])) _
          refine XS.iconst X1116.here hx rfl (hb hby at_134) ?_
          refine XS.istore X1116.here hx rfl (hb hby at_135) rfl (l' := #[iv p0, iv p1, iv p2, iv p3, rv b62, iv (1 : Int32), iv (1 : Int32), rv r_816, iv (2 : Int32), iv (0 : Int32), .unset]) rfl ?_
          refine XS.goto X1116.here hx rfl (pc0 := 137) (pc' := 198) rfl (hb hby at_137) (by decide) (by decide) ?_
          refine XS.iload X1116.here hx rfl (hb hby at_198) rfl ?_
          show Steps p.tables e below (T1116.setTop (mkF m 200 #[iv p0, iv p1, iv p2, iv p3, rv b62, iv (1 : Int32), iv (1 : Int32), rv r_816, iv (2 : Int32), iv (0 : Int32), .unset] [(.int (1 : Int32))])) _
          refine XS.ifNo X1116.here hx rfl (hb hby at_200) rfl (XT.i0_eq_f (by decide)) ?_
          refine XS.aload X1116.here hx rfl (hb hby at_203) rfl rfl ?_
          exact kt
        obtain ⟨cq1186, kq1186, q1186a, q1186b, q1186c⟩ := isOf hZ e1116 J1116_0
        obtain ⟨_, _, ⟨T1186, L1186, k1186, n1186⟩, -, X1186, ⟨Lc1186, hQ1186, l1186, y1186, z1186⟩, st1186⟩ := X1116.virtualBack hx (y := (⟨"com/example/homethread/homethread/Items", "isEmpty", "()Z"⟩ : MethodName)) (z := (⟨"com/example/homethread/homethread/Items", "isEmpty", "()Z"⟩ : MethodName)) hown (mvT hZ (W 13 rfl)) (mvT hZ (W 14 rfl)) (notFace_of_selects (args := #[]) (mvT hZ (W 16 rfl))) (mvT hZ (W 16 rfl)) (mvT hZ (W 15 rfl)) (by decide) (backOf (W := 0) (rm_isEmpty3_0 l Z a0 hw [] b62 h1116 n0 O1116 J1116_2) hZ (W 17 rfl) (W 2 rfl) (by decide) (by decide)) q1186a q1186c (g := (mkF m 205 #[iv p0, iv p1, iv p2, iv p3, rv b62, iv (1 : Int32), iv (1 : Int32), rv r_816, iv (2 : Int32), iv (0 : Int32), .unset] [(.ref b62)])) rfl (by rw [hml]; rfl) (Steps.refl _) (argsL := []) (rest := []) (lenOf pd_12 rfl) rfl (by show 2 * 0 + _ ≤ _; exact Nat.le_of_eq rfl) (hb hby at_205) (fun _ _ => ⟨rfl, e1116, (by decide : 3 + 0 ≤ _), (by decide : 19 + 0 ≤ _)⟩)
        dsimp only [Pt.U, Pt.locs, Pt.cells, Pt.slots] at X1186 l1186 y1186 z1186 st1186 hQ1186
        replace l1186 := l1186.symm
        replace y1186 : 3 = k1186 := y1186.symm
        replace z1186 : 19 = n1186 := z1186.symm
        subst l1186 y1186 z1186
        obtain ⟨rfl, M1186, e1186⟩ := hQ1186
        have N1186 := Fr.app N1116 M1186
        have pre1187 : ∀ t, Steps p.tables e below (T1186.setTop (mkF m 208 #[iv p0, iv p1, iv p2, iv p3, rv b62, iv (1 : Int32), iv (1 : Int32), rv r_816, iv (2 : Int32), iv (0 : Int32), .unset] [(.int (1 : Int32))])) t → Steps p.tables e below (s₁.setTop (entryFrame m #[(.int p0), (.int p1), (.int p2), (.int p3)] maxLocals)) t := fun t kt => pre1185 _ (st1186.trans kt)
        have pre1188 : ∀ t, Steps p.tables e below (T1186.setTop (mkF m 232 #[iv p0, iv p1, iv p2, iv p3, rv b62, iv (1 : Int32), iv (1 : Int32), rv r_816, iv (2 : Int32), iv (0 : Int32), .unset] [(.ref r_816), (.ref b62)])) t → Steps p.tables e below (s₁.setTop (entryFrame m #[(.int p0), (.int p1), (.int p2), (.int p3)] maxLocals)) t := fun t kt => by
          refine pre1187 _ ?_
          show Steps p.tables e below (T1186.setTop (mkF m 208 #[iv p0, iv p1, iv p2, iv p3, rv b62, iv (1 : Int32), iv (1 : Int32), rv r_816, iv (2 : Int32), iv (0 : Int32), .unset] [(.int (1 : Int32))])) _
          refine XS.iload X1186.here hx rfl (hb hby at_208) rfl ?_
          refine XS.ifNo X1186.here hx rfl (hb hby at_210) rfl (XT.i0_ne_f (by decide)) ?_
          refine XS.iconst X1186.here hx rfl (hb hby at_213) ?_
          refine XS.goto X1186.here hx rfl (pc0 := 214) (pc' := 218) rfl (hb hby at_214) (by decide) (by decide) ?_
          show Steps p.tables e below (T1186.setTop (mkF m 218 #[iv p0, iv p1, iv p2, iv p3, rv b62, iv (1 : Int32), iv (1 : Int32), rv r_816, iv (2 : Int32), iv (0 : Int32), .unset] [(.int (1 : Int32)), (.int (1 : Int32))])) _
          refine XS.icmpNo X1186.here hx rfl (hb hby at_218) rfl (XT.ii_ne_f (by decide)) ?_
          refine XS.iconst X1186.here hx rfl (hb hby at_221) ?_
          refine XS.goto X1186.here hx rfl (pc0 := 222) (pc' := 226) rfl (hb hby at_222) (by decide) (by decide) ?_
          refine XS.istore X1186.here hx rfl (hb hby at_226) rfl (l' := #[iv p0, iv p1, iv p2, iv p3, rv b62, iv (1 : Int32), iv (1 : Int32), rv r_816, iv (2 : Int32), iv (0 : Int32), .unset]) rfl ?_
          show Steps p.tables e below (T1186.setTop (mkF m 228 #[iv p0, iv p1, iv p2, iv p3, rv b62, iv (1 : Int32), iv (1 : Int32), rv r_816, iv (2 : Int32), iv (0 : Int32), .unset] [])) _
          refine XS.aload X1186.here hx rfl (hb hby at_228) rfl rfl ?_
          refine XS.aload X1186.here hx rfl (hb hby at_230) rfl rfl ?_
          exact kt
        obtain ⟨cq1189, kq1189, q1189a, q1189b, q1189c⟩ := isOf hZ e1186 J1116_0
        obtain ⟨_, _, ⟨T1189, L1189, k1189, n1189⟩, -, X1189, ⟨Lc1189, hQ1189, l1189, y1189, z1189⟩, st1189⟩ := X1186.virtualBack hx (y := (⟨"com/example/homethread/homethread/Items", "add", "(Ljava/lang/Object;)V"⟩ : MethodName)) (z := (⟨"com/example/homethread/homethread/Items", "add", "(Ljava/lang/Object;)V"⟩ : MethodName)) hown (mvT hZ (W 34 rfl)) (mvT hZ (W 35 rfl)) (notFace_of_selects (args := #[]) (mvT hZ (W 37 rfl))) (mvT hZ (W 37 rfl)) (mvT hZ (W 36 rfl)) (by decide) (backOf (W := 0) (rm_add6_4 l Z a0 hw [] b62 r_816 mr a_NO_SLOTS kn h1116 n0 O1116 G3 G5 G6 g_b62 F1182 J1116_0 J1116_1 J1116_2) hZ (W 38 rfl) (W 2 rfl) (by decide) (by decide)) q1189a q1189c (g := (mkF m 232 #[iv p0, iv p1, iv p2, iv p3, rv b62, iv (1 : Int32), iv (1 : Int32), rv r_816, iv (2 : Int32), iv (0 : Int32), .unset] [(.ref r_816), (.ref b62)])) rfl (by rw [hml]; rfl) (Steps.refl _) (argsL := [(.ref r_816)]) (rest := []) (lenOf pd_15 rfl) rfl (by show 2 * 0 + _ ≤ _; exact Nat.le_of_eq rfl) (hb hby at_232) (fun _ _ => ⟨rfl, e1186, (by decide : 3 + 1 ≤ _), (by decide : 19 + 16 ≤ _)⟩)
        dsimp only [Pt.U, Pt.locs, Pt.cells, Pt.slots] at X1189 l1189 y1189 z1189 st1189 hQ1189
        replace l1189 := l1189.symm
        replace y1189 : 4 = k1189 := y1189.symm
        replace z1189 : 35 = n1189 := z1189.symm
        subst l1189 y1189 z1189
        obtain ⟨k1289_1189, b1289_1189, rfl, M1189, Kc1189, O1189, J1189_0, J1189_1, J1189_2, J1189_3, J1189_4, J1189_5, P1189_0⟩ := hQ1189
        obtain ⟨h1189, e1189⟩ : ∃ z, T1189.heap = z := ⟨_, rfl⟩
        rw [e1189] at Kc1189 O1189 J1189_0 J1189_2 J1189_3 J1189_4 J1189_5
        try rw [e1189] at P1189_0
        have N1189 := Fr.app N1186 M1189
        have K1189 : Keep h0 h1189 [] := K1116.trans Kc1189 (own_all1 (Or.inr sz_b62))
        have pre1559 : ∀ t, Steps p.tables e below (T1189.setTop (mkF m 235 #[iv p0, iv p1, iv p2, iv p3, rv b62, iv (1 : Int32), iv (1 : Int32), rv r_816, iv (2 : Int32), iv (0 : Int32), .unset] [])) t → Steps p.tables e below (s₁.setTop (entryFrame m #[(.int p0), (.int p1), (.int p2), (.int p3)] maxLocals)) t := fun t kt => pre1188 _ (st1189.trans kt)
        have F1560 := F1182.keep Kc1189
        have F1561 := F1183.keep Kc1189
        have F1562 := F1184.keep Kc1189 (own_nm1 (fun q => ne_b62_b109_68 q.symm))
        have sz_b1289_1189 : h0.size ≤ b1289_1189 := Nat.le_trans K1116.1 P1189_0
        have ne_a_NO_SLOTS_b1289_1189 : a_NO_SLOTS ≠ b1289_1189 := Nat.ne_of_lt (Nat.lt_of_lt_of_le (G5.ext O1116.2).lt P1189_0)
        have ne_r_816_b1289_1189 : r_816 ≠ b1289_1189 := Nat.ne_of_lt (Nat.lt_of_lt_of_le F1182.lt P1189_0)
        have ne_b109_68_b1289_1189 : b109_68 ≠ b1289_1189 := Nat.ne_of_lt (Nat.lt_of_lt_of_le F1183.lt P1189_0)
        have ne_b62_b1289_1189 : b62 ≠ b1289_1189 := Nat.ne_of_lt (Nat.lt_of_lt_of_le J1116_0.lt P1189_0)
        have g_b1289_1189 : n0 ≤ b1289_1189 := Nat.le_trans (Nat.le_trans (Nat.le_of_eq O0.1.symm) O0.2.1) sz_b1289_1189
        have pre1563 : ∀ t, Steps p.tables e below (T1189.setTop (mkF m 242 #[iv p0, iv p1, iv p2, iv p3, rv b62, iv (1 : Int32), iv (1 : Int32), rv r_816, iv (2 : Int32), iv (0 : Int32), .unset] [(.ref b62)])) t → Steps p.tables e below (s₁.setTop (entryFrame m #[(.int p0), (.int p1), (.int p2), (.int p3)] maxLocals)) t := fun t kt => by
          refine pre1559 _ ?_
          show Steps p.tables e below (T1189.setTop (mkF m 235 #[iv p0, iv p1, iv p2, iv p3, rv b62, iv (1 : Int32), iv (1 : Int32), rv r_816, iv (2 : Int32), iv (0 : Int32), .unset] [])) _
          refine XS.iload X1189.here hx rfl (hb hby at_235) rfl ?_
          refine XS.ifNo X1189.here hx rfl (hb hby at_237) rfl (XT.i0_eq_f (by decide)) ?_
          refine XS.aload X1189.here hx rfl (hb hby at_240) rfl rfl ?_
          exact kt
        obtain ⟨cq1564, kq1564, q1564a, q1564b, q1564c⟩ := isOf hZ e1189 J1189_0
        obtain ⟨_, _, ⟨T1564, L1564, k1564, n1564⟩, -, X1564, ⟨Lc1564, hQ1564, l1564, y1564, z1564⟩, st1564⟩ := X1189.virtualBack hx (y := (⟨"com/example/homethread/homethread/Items", "isEmpty", "()Z"⟩ : MethodName)) (z := (⟨"com/example/homethread/homethread/Items", "isEmpty", "()Z"⟩ : MethodName)) hown (mvT hZ (W 13 rfl)) (mvT hZ (W 14 rfl)) (notFace_of_selects (args := #[]) (mvT hZ (W 16 rfl))) (mvT hZ (W 16 rfl)) (mvT hZ (W 15 rfl)) (by decide) (backOf (W := 0) (rm_isEmpty3_1 l Z a0 hw [] b62 h1189 n0 O1189 J1189_5) hZ (W 17 rfl) (W 2 rfl) (by decide) (by decide)) q1564a q1564c (g := (mkF m 242 #[iv p0, iv p1, iv p2, iv p3, rv b62, iv (1 : Int32), iv (1 : Int32), rv r_816, iv (2 : Int32), iv (0 : Int32), .unset] [(.ref b62)])) rfl (by rw [hml]; rfl) (Steps.refl _) (argsL := []) (rest := []) (lenOf pd_12 rfl) rfl (by show 2 * 0 + _ ≤ _; exact Nat.le_of_eq rfl) (hb hby at_242) (fun _ _ => ⟨rfl, e1189, (by decide : 4 + 0 ≤ _), (by decide : 35 + 0 ≤ _)⟩)
        dsimp only [Pt.U, Pt.locs, Pt.cells, Pt.slots] at X1564 l1564 y1564 z1564 st1564 hQ1564
        replace l1564 := l1564.symm
        replace y1564 : 4 = k1564 := y1564.symm
        replace z1564 : 35 = n1564 := z1564.symm
        subst l1564 y1564 z1564
        obtain ⟨rfl, M1564, e1564⟩ := hQ1564
        have N1564 := Fr.app N1189 M1564
        have pre1565 : ∀ t, Steps p.tables e below (T1564.setTop (mkF m 245 #[iv p0, iv p1, iv p2, iv p3, rv b62, iv (1 : Int32), iv (1 : Int32), rv r_816, iv (2 : Int32), iv (0 : Int32), .unset] [(.int (0 : Int32))])) t → Steps p.tables e below (s₁.setTop (entryFrame m #[(.int p0), (.int p1), (.int p2), (.int p3)] maxLocals)) t := fun t kt => pre1563 _ (st1564.trans kt)
        have pre1566 : ∀ t, Steps p.tables e below (T1564.setTop (mkF m 257 #[iv p0, iv p1, iv p2, iv p3, rv b62, iv (1 : Int32), iv (1 : Int32), rv r_816, iv (2 : Int32), iv (0 : Int32), .unset] [(.int (1 : Int32))])) t → Steps p.tables e below (s₁.setTop (entryFrame m #[(.int p0), (.int p1), (.int p2), (.int p3)] maxLocals)) t := fun t kt => by
          refine pre1565 _ ?_
          show Steps p.tables e below (T1564.setTop (mkF m 245 #[iv p0, iv p1, iv p2, iv p3, rv b62, iv (1 : Int32), iv (1 : Int32), rv r_816, iv (2 : Int32), iv (0 : Int32), .unset] [(.int (0 : Int32))])) _
          refine XS.ifNo X1564.here hx rfl (hb hby at_245) rfl (XT.i0_ne_f (by decide)) ?_
          refine XS.iconst X1564.here hx rfl (hb hby at_248) ?_
          refine XS.goto X1564.here hx rfl (pc0 := 249) (pc' := 253) rfl (hb hby at_249) (by decide) (by decide) ?_
          refine XS.istore X1564.here hx rfl (hb hby at_253) rfl (l' := #[iv p0, iv p1, iv p2, iv p3, rv b62, iv (1 : Int32), iv (1 : Int32), rv r_816, iv (2 : Int32), iv (0 : Int32), .unset]) rfl ?_
          show Steps p.tables e below (T1564.setTop (mkF m 255 #[iv p0, iv p1, iv p2, iv p3, rv b62, iv (1 : Int32), iv (1 : Int32), rv r_816, iv (2 : Int32), iv (0 : Int32), .unset] [])) _
          refine XS.iload X1564.here hx rfl (hb hby at_255) rfl ?_
          exact kt
        obtain ⟨fs, hr, hrun, hended, hW, hsame⟩ := X1564.leave (v := some (.int (1 : Int32))) (fun h => by rw [Bd.returns] at h; cases h)
        refine ⟨_, _, pre1566 _ (retN X1564 hx (t := .boolean) Bd.returns (by simp) (hb hby at_257) hr), hrun, hended, _, _, rfl, ?_, ⟨_, rfl⟩, hW, hsame.mono (by decide) (by decide)⟩
        show Q_law Z p0 p1 p2 p3 ac mr a_NO_SLOTS kn h0 n0 _ T1564.heap _
        rw [e1564]
        exact ⟨rfl, N1564⟩
      · obtain ⟨cq1567, kq1567, q1567a, q1567b, q1567c⟩ := isOf hZ e828 J824_0
        obtain ⟨_, _, ⟨T1567, L1567, k1567, n1567⟩, -, X1567, ⟨Lc1567, hQ1567, l1567, y1567, z1567⟩, st1567⟩ := X828.virtualBack hx (y := (⟨"com/example/homethread/homethread/Items", "clearAndTrim", "(I)V"⟩ : MethodName)) (z := (⟨"com/example/homethread/homethread/Items", "clearAndTrim", "(I)V"⟩ : MethodName)) hown (mvT hZ (W 27 rfl)) (mvT hZ (W 28 rfl)) (notFace_of_selects (args := #[]) (mvT hZ (W 30 rfl))) (mvT hZ (W 30 rfl)) (mvT hZ (W 29 rfl)) (by decide) (backOf (W := 0) (rm_clearAndTrim5_5 l Z a0 hw [] b62 p3 k109_68 r_816 b109_68 h824 n0 O824 g_b62 J824_0 J824_2 J824_3 J824_4 (fun q => ne_b62_b109_68 q.symm) hc1115) hZ (W 31 rfl) (W 2 rfl) (by decide) (by decide)) q1567a q1567c (g := (mkF m 131 #[iv p0, iv p1, iv p2, iv p3, rv b62, iv (1 : Int32), iv (1 : Int32), rv r_816, iv (2 : Int32), iv (1 : Int32), .unset] [(.int p3), (.ref b62)])) rfl (by rw [hml]; rfl) (Steps.refl _) (argsL := [(.int p3)]) (rest := []) (lenOf pd_6 rfl) rfl (by show 2 * 0 + _ ≤ _; exact Nat.le_of_eq rfl) (hb hby at_131) (fun _ _ => ⟨rfl, e828, (by decide : 3 + 0 ≤ _), (by decide : 19 + 0 ≤ _)⟩)
        dsimp only [Pt.U, Pt.locs, Pt.cells, Pt.slots] at X1567 l1567 y1567 z1567 st1567 hQ1567
        replace l1567 := l1567.symm
        replace y1567 : 3 = k1567 := y1567.symm
        replace z1567 : 19 = n1567 := z1567.symm
        subst l1567 y1567 z1567
        obtain ⟨rfl, M1567, Kc1567, O1567, J1567_0, J1567_1, J1567_2⟩ := hQ1567
        obtain ⟨h1567, e1567⟩ : ∃ z, T1567.heap = z := ⟨_, rfl⟩
        rw [e1567] at Kc1567 O1567 J1567_0 J1567_1 J1567_2
        have N1567 := Fr.app N828 M1567
        have K1567 : Keep h0 h1567 [] := K824.trans Kc1567 (own_all1 (Or.inr sz_b62))
        have pre1603 : ∀ t, Steps p.tables e below (T1567.setTop (mkF m 134 #[iv p0, iv p1, iv p2, iv p3, rv b62, iv (1 : Int32), iv (1 : Int32), rv r_816, iv (2 : Int32), iv (1 : Int32), .unset] [])) t → Steps p.tables e below (s₁.setTop (entryFrame m #[(.int p0), (.int p1), (.int p2), (.int p3)] maxLocals)) t := fun t kt => pre1109 _ (st1567.trans kt)
        have F1604 := F826.keep Kc1567
        have F1605 := J824_1.keep Kc1567
        have F1606 := J824_3.keep Kc1567 (own_nm1 (fun q => ne_b62_b109_68 q.symm))
        have pre1607 : ∀ t, Steps p.tables e below (T1567.setTop (mkF m 205 #[iv p0, iv p1, iv p2, iv p3, rv b62, iv (1 : Int32), iv (1 : Int32), rv r_816, iv (2 : Int32), iv (0 : Int32), .unset] [(.ref b62)])) t → Steps p.tables e below (s₁.setTop (entryFrame m #[(.int p0), (.int p1), (.int p2), (.int p3)] maxLocals)) t := fun t kt => by
          refine pre1603 _ ?_
          show Steps p.tables e below (T1567.setTop (mkF m 134 #[iv p0, iv p1, iv p2, iv p3, rv b62, iv (1 : Int32), iv (1 : Int32), rv r_816, iv (2 : Int32), iv (1 : Int32), .unset] [])) _
          refine XS.iconst X1567.here hx rfl (hb hby at_134) ?_
          refine XS.istore X1567.here hx rfl (hb hby at_135) rfl (l' := #[iv p0, iv p1, iv p2, iv p3, rv b62, iv (1 : Int32), iv (1 : Int32), rv r_816, iv (2 : Int32), iv (0 : Int32), .unset]) rfl ?_
          refine XS.goto X1567.here hx rfl (pc0 := 137) (pc' := 198) rfl (hb hby at_137) (by decide) (by decide) ?_
          refine XS.iload X1567.here hx rfl (hb hby at_198) rfl ?_
          show Steps p.tables e below (T1567.setTop (mkF m 200 #[iv p0, iv p1, iv p2, iv p3, rv b62, iv (1 : Int32), iv (1 : Int32), rv r_816, iv (2 : Int32), iv (0 : Int32), .unset] [(.int (1 : Int32))])) _
          refine XS.ifNo X1567.here hx rfl (hb hby at_200) rfl (XT.i0_eq_f (by decide)) ?_
          refine XS.aload X1567.here hx rfl (hb hby at_203) rfl rfl ?_
          exact kt
        obtain ⟨cq1608, kq1608, q1608a, q1608b, q1608c⟩ := isOf hZ e1567 J1567_0
        obtain ⟨_, _, ⟨T1608, L1608, k1608, n1608⟩, -, X1608, ⟨Lc1608, hQ1608, l1608, y1608, z1608⟩, st1608⟩ := X1567.virtualBack hx (y := (⟨"com/example/homethread/homethread/Items", "isEmpty", "()Z"⟩ : MethodName)) (z := (⟨"com/example/homethread/homethread/Items", "isEmpty", "()Z"⟩ : MethodName)) hown (mvT hZ (W 13 rfl)) (mvT hZ (W 14 rfl)) (notFace_of_selects (args := #[]) (mvT hZ (W 16 rfl))) (mvT hZ (W 16 rfl)) (mvT hZ (W 15 rfl)) (by decide) (backOf (W := 0) (rm_isEmpty3_0 l Z a0 hw [] b62 h1567 n0 O1567 J1567_2) hZ (W 17 rfl) (W 2 rfl) (by decide) (by decide)) q1608a q1608c (g := (mkF m 205 #[iv p0, iv p1, iv p2, iv p3, rv b62, iv (1 : Int32), iv (1 : Int32), rv r_816, iv (2 : Int32), iv (0 : Int32), .unset] [(.ref b62)])) rfl (by rw [hml]; rfl) (Steps.refl _) (argsL := []) (rest := []) (lenOf pd_12 rfl) rfl (by show 2 * 0 + _ ≤ _; exact Nat.le_of_eq rfl) (hb hby at_205) (fun _ _ => ⟨rfl, e1567, (by decide : 3 + 0 ≤ _), (by decide : 19 + 0 ≤ _)⟩)
        dsimp only [Pt.U, Pt.locs, Pt.cells, Pt.slots] at X1608 l1608 y1608 z1608 st1608 hQ1608
        replace l1608 := l1608.symm
        replace y1608 : 3 = k1608 := y1608.symm
        replace z1608 : 19 = n1608 := z1608.symm
        subst l1608 y1608 z1608
        obtain ⟨rfl, M1608, e1608⟩ := hQ1608
        have N1608 := Fr.app N1567 M1608
        have pre1609 : ∀ t, Steps p.tables e below (T1608.setTop (mkF m 208 #[iv p0, iv p1, iv p2, iv p3, rv b62, iv (1 : Int32), iv (1 : Int32), rv r_816, iv (2 : Int32), iv (0 : Int32), .unset] [(.int (1 : Int32))])) t → Steps p.tables e below (s₁.setTop (entryFrame m #[(.int p0), (.int p1), (.int p2), (.int p3)] maxLocals)) t := fun t kt => pre1607 _ (st1608.trans kt)
        have pre1610 : ∀ t, Steps p.tables e below (T1608.setTop (mkF m 232 #[iv p0, iv p1, iv p2, iv p3, rv b62, iv (1 : Int32), iv (1 : Int32), rv r_816, iv (2 : Int32), iv (0 : Int32), .unset] [(.ref r_816), (.ref b62)])) t → Steps p.tables e below (s₁.setTop (entryFrame m #[(.int p0), (.int p1), (.int p2), (.int p3)] maxLocals)) t := fun t kt => by
          refine pre1609 _ ?_
          show Steps p.tables e below (T1608.setTop (mkF m 208 #[iv p0, iv p1, iv p2, iv p3, rv b62, iv (1 : Int32), iv (1 : Int32), rv r_816, iv (2 : Int32), iv (0 : Int32), .unset] [(.int (1 : Int32))])) _
          refine XS.iload X1608.here hx rfl (hb hby at_208) rfl ?_
          refine XS.ifNo X1608.here hx rfl (hb hby at_210) rfl (XT.i0_ne_f (by decide)) ?_
          refine XS.iconst X1608.here hx rfl (hb hby at_213) ?_
          refine XS.goto X1608.here hx rfl (pc0 := 214) (pc' := 218) rfl (hb hby at_214) (by decide) (by decide) ?_
          show Steps p.tables e below (T1608.setTop (mkF m 218 #[iv p0, iv p1, iv p2, iv p3, rv b62, iv (1 : Int32), iv (1 : Int32), rv r_816, iv (2 : Int32), iv (0 : Int32), .unset] [(.int (1 : Int32)), (.int (1 : Int32))])) _
          refine XS.icmpNo X1608.here hx rfl (hb hby at_218) rfl (XT.ii_ne_f (by decide)) ?_
          refine XS.iconst X1608.here hx rfl (hb hby at_221) ?_
          refine XS.goto X1608.here hx rfl (pc0 := 222) (pc' := 226) rfl (hb hby at_222) (by decide) (by decide) ?_
          refine XS.istore X1608.here hx rfl (hb hby at_226) rfl (l' := #[iv p0, iv p1, iv p2, iv p3, rv b62, iv (1 : Int32), iv (1 : Int32), rv r_816, iv (2 : Int32), iv (0 : Int32), .unset]) rfl ?_
          show Steps p.tables e below (T1608.setTop (mkF m 228 #[iv p0, iv p1, iv p2, iv p3, rv b62, iv (1 : Int32), iv (1 : Int32), rv r_816, iv (2 : Int32), iv (0 : Int32), .unset] [])) _
          refine XS.aload X1608.here hx rfl (hb hby at_228) rfl rfl ?_
          refine XS.aload X1608.here hx rfl (hb hby at_230) rfl rfl ?_
          exact kt
        obtain ⟨cq1611, kq1611, q1611a, q1611b, q1611c⟩ := isOf hZ e1608 J1567_0
        obtain ⟨_, _, ⟨T1611, L1611, k1611, n1611⟩, -, X1611, ⟨Lc1611, hQ1611, l1611, y1611, z1611⟩, st1611⟩ := X1608.virtualBack hx (y := (⟨"com/example/homethread/homethread/Items", "add", "(Ljava/lang/Object;)V"⟩ : MethodName)) (z := (⟨"com/example/homethread/homethread/Items", "add", "(Ljava/lang/Object;)V"⟩ : MethodName)) hown (mvT hZ (W 34 rfl)) (mvT hZ (W 35 rfl)) (notFace_of_selects (args := #[]) (mvT hZ (W 37 rfl))) (mvT hZ (W 37 rfl)) (mvT hZ (W 36 rfl)) (by decide) (backOf (W := 0) (rm_add6_3 l Z a0 hw [] b62 r_816 k109_68 b109_68 h1567 n0 O1567 g_b109_68 g_b62 J68_3 F1604 F1605 F1606 J1567_0 J1567_1 J1567_2 (fun q => ne_b62_b109_68 q.symm)) hZ (W 38 rfl) (W 2 rfl) (by decide) (by decide)) q1611a q1611c (g := (mkF m 232 #[iv p0, iv p1, iv p2, iv p3, rv b62, iv (1 : Int32), iv (1 : Int32), rv r_816, iv (2 : Int32), iv (0 : Int32), .unset] [(.ref r_816), (.ref b62)])) rfl (by rw [hml]; rfl) (Steps.refl _) (argsL := [(.ref r_816)]) (rest := []) (lenOf pd_15 rfl) rfl (by show 2 * 0 + _ ≤ _; exact Nat.le_of_eq rfl) (hb hby at_232) (fun _ _ => ⟨rfl, e1608, (by decide : 3 + 0 ≤ _), (by decide : 19 + 0 ≤ _)⟩)
        dsimp only [Pt.U, Pt.locs, Pt.cells, Pt.slots] at X1611 l1611 y1611 z1611 st1611 hQ1611
        replace l1611 := l1611.symm
        replace y1611 : 3 = k1611 := y1611.symm
        replace z1611 : 19 = n1611 := z1611.symm
        subst l1611 y1611 z1611
        obtain ⟨rfl, M1611, Kc1611, O1611, J1611_0, J1611_1, J1611_2, J1611_3, J1611_4⟩ := hQ1611
        obtain ⟨h1611, e1611⟩ : ∃ z, T1611.heap = z := ⟨_, rfl⟩
        rw [e1611] at Kc1611 O1611 J1611_0 J1611_1 J1611_2 J1611_3 J1611_4
        have N1611 := Fr.app N1608 M1611
        have K1611 : Keep h0 h1611 [] := K1567.trans Kc1611 (own_all2 (Or.inr sz_b109_68) (Or.inr sz_b62))
        have pre1612 : ∀ t, Steps p.tables e below (T1611.setTop (mkF m 235 #[iv p0, iv p1, iv p2, iv p3, rv b62, iv (1 : Int32), iv (1 : Int32), rv r_816, iv (2 : Int32), iv (0 : Int32), .unset] [])) t → Steps p.tables e below (s₁.setTop (entryFrame m #[(.int p0), (.int p1), (.int p2), (.int p3)] maxLocals)) t := fun t kt => pre1610 _ (st1611.trans kt)
        have F1613 := F1604.keep Kc1611
        have pre1614 : ∀ t, Steps p.tables e below (T1611.setTop (mkF m 242 #[iv p0, iv p1, iv p2, iv p3, rv b62, iv (1 : Int32), iv (1 : Int32), rv r_816, iv (2 : Int32), iv (0 : Int32), .unset] [(.ref b62)])) t → Steps p.tables e below (s₁.setTop (entryFrame m #[(.int p0), (.int p1), (.int p2), (.int p3)] maxLocals)) t := fun t kt => by
          refine pre1612 _ ?_
          show Steps p.tables e below (T1611.setTop (mkF m 235 #[iv p0, iv p1, iv p2, iv p3, rv b62, iv (1 : Int32), iv (1 : Int32), rv r_816, iv (2 : Int32), iv (0 : Int32), .unset] [])) _
          refine XS.iload X1611.here hx rfl (hb hby at_235) rfl ?_
          refine XS.ifNo X1611.here hx rfl (hb hby at_237) rfl (XT.i0_eq_f (by decide)) ?_
          refine XS.aload X1611.here hx rfl (hb hby at_240) rfl rfl ?_
          exact kt
        obtain ⟨cq1615, kq1615, q1615a, q1615b, q1615c⟩ := isOf hZ e1611 J1611_1
        obtain ⟨_, _, ⟨T1615, L1615, k1615, n1615⟩, -, X1615, ⟨Lc1615, hQ1615, l1615, y1615, z1615⟩, st1615⟩ := X1611.virtualBack hx (y := (⟨"com/example/homethread/homethread/Items", "isEmpty", "()Z"⟩ : MethodName)) (z := (⟨"com/example/homethread/homethread/Items", "isEmpty", "()Z"⟩ : MethodName)) hown (mvT hZ (W 13 rfl)) (mvT hZ (W 14 rfl)) (notFace_of_selects (args := #[]) (mvT hZ (W 16 rfl))) (mvT hZ (W 16 rfl)) (mvT hZ (W 15 rfl)) (by decide) (backOf (W := 0) (rm_isEmpty3_1 l Z a0 hw [] b62 h1611 n0 O1611 J1611_4) hZ (W 17 rfl) (W 2 rfl) (by decide) (by decide)) q1615a q1615c (g := (mkF m 242 #[iv p0, iv p1, iv p2, iv p3, rv b62, iv (1 : Int32), iv (1 : Int32), rv r_816, iv (2 : Int32), iv (0 : Int32), .unset] [(.ref b62)])) rfl (by rw [hml]; rfl) (Steps.refl _) (argsL := []) (rest := []) (lenOf pd_12 rfl) rfl (by show 2 * 0 + _ ≤ _; exact Nat.le_of_eq rfl) (hb hby at_242) (fun _ _ => ⟨rfl, e1611, (by decide : 3 + 0 ≤ _), (by decide : 19 + 0 ≤ _)⟩)
        dsimp only [Pt.U, Pt.locs, Pt.cells, Pt.slots] at X1615 l1615 y1615 z1615 st1615 hQ1615
        replace l1615 := l1615.symm
        replace y1615 : 3 = k1615 := y1615.symm
        replace z1615 : 19 = n1615 := z1615.symm
        subst l1615 y1615 z1615
        obtain ⟨rfl, M1615, e1615⟩ := hQ1615
        have N1615 := Fr.app N1611 M1615
        have pre1616 : ∀ t, Steps p.tables e below (T1615.setTop (mkF m 245 #[iv p0, iv p1, iv p2, iv p3, rv b62, iv (1 : Int32), iv (1 : Int32), rv r_816, iv (2 : Int32), iv (0 : Int32), .unset] [(.int (0 : Int32))])) t → Steps p.tables e below (s₁.setTop (entryFrame m #[(.int p0), (.int p1), (.int p2), (.int p3)] maxLocals)) t := fun t kt => pre1614 _ (st1615.trans kt)
        have pre1617 : ∀ t, Steps p.tables e below (T1615.setTop (mkF m 257 #[iv p0, iv p1, iv p2, iv p3, rv b62, iv (1 : Int32), iv (1 : Int32), rv r_816, iv (2 : Int32), iv (0 : Int32), .unset] [(.int (1 : Int32))])) t → Steps p.tables e below (s₁.setTop (entryFrame m #[(.int p0), (.int p1), (.int p2), (.int p3)] maxLocals)) t := fun t kt => by
          refine pre1616 _ ?_
          show Steps p.tables e below (T1615.setTop (mkF m 245 #[iv p0, iv p1, iv p2, iv p3, rv b62, iv (1 : Int32), iv (1 : Int32), rv r_816, iv (2 : Int32), iv (0 : Int32), .unset] [(.int (0 : Int32))])) _
          refine XS.ifNo X1615.here hx rfl (hb hby at_245) rfl (XT.i0_ne_f (by decide)) ?_
          refine XS.iconst X1615.here hx rfl (hb hby at_248) ?_
          refine XS.goto X1615.here hx rfl (pc0 := 249) (pc' := 253) rfl (hb hby at_249) (by decide) (by decide) ?_
          refine XS.istore X1615.here hx rfl (hb hby at_253) rfl (l' := #[iv p0, iv p1, iv p2, iv p3, rv b62, iv (1 : Int32), iv (1 : Int32), rv r_816, iv (2 : Int32), iv (0 : Int32), .unset]) rfl ?_
          show Steps p.tables e below (T1615.setTop (mkF m 255 #[iv p0, iv p1, iv p2, iv p3, rv b62, iv (1 : Int32), iv (1 : Int32), rv r_816, iv (2 : Int32), iv (0 : Int32), .unset] [])) _
          refine XS.iload X1615.here hx rfl (hb hby at_255) rfl ?_
          exact kt
        obtain ⟨fs, hr, hrun, hended, hW, hsame⟩ := X1615.leave (v := some (.int (1 : Int32))) (fun h => by rw [Bd.returns] at h; cases h)
        refine ⟨_, _, pre1617 _ (retN X1615 hx (t := .boolean) Bd.returns (by simp) (hb hby at_257) hr), hrun, hended, _, _, rfl, ?_, ⟨_, rfl⟩, hW, hsame.mono (by decide) (by decide)⟩
        show Q_law Z p0 p1 p2 p3 ac mr a_NO_SLOTS kn h0 n0 _ T1615.heap _
        rw [e1615]
        exact ⟨rfl, N1615⟩
    · rw [hv831] at pre830
      have pre1618 : ∀ t, Steps p.tables e below (T828.setTop (mkF m 151 #[iv p0, iv p1, iv p2, iv p3, rv b62, iv (1 : Int32), iv (1 : Int32), rv r_816, iv (3 : Int32), iv (1 : Int32), .unset] [(.int (0 : Int32)), (.ref r_816), (.ref b62)])) t → Steps p.tables e below (s₁.setTop (entryFrame m #[(.int p0), (.int p1), (.int p2), (.int p3)] maxLocals)) t := fun t kt => by
        refine pre830 _ ?_
        show Steps p.tables e below (T828.setTop (mkF m 99 #[iv p0, iv p1, iv p2, iv p3, rv b62, iv (1 : Int32), iv (1 : Int32), rv r_816, .unset, .unset, .unset] [(.int (3 : Int32))])) _
        refine XS.istore X828.here hx rfl (hb hby at_99) rfl (l' := #[iv p0, iv p1, iv p2, iv p3, rv b62, iv (1 : Int32), iv (1 : Int32), rv r_816, iv (3 : Int32), .unset, .unset]) rfl ?_
        refine XS.iload X828.here hx rfl (hb hby at_101) rfl ?_
        refine XS.istore X828.here hx rfl (hb hby at_103) rfl (l' := #[iv p0, iv p1, iv p2, iv p3, rv b62, iv (1 : Int32), iv (1 : Int32), rv r_816, iv (3 : Int32), iv (1 : Int32), .unset]) rfl ?_
        refine XS.iload X828.here hx rfl (hb hby at_105) rfl ?_
        show Steps p.tables e below (T828.setTop (mkF m 107 #[iv p0, iv p1, iv p2, iv p3, rv b62, iv (1 : Int32), iv (1 : Int32), rv r_816, iv (3 : Int32), iv (1 : Int32), .unset] [(.int (3 : Int32))])) _
        refine XS.iconst X828.here hx rfl (hb hby at_107) ?_
        refine XS.icmpYes X828.here hx rfl (pc0 := 108) (pc' := 122) rfl (hb hby at_108) rfl (XT.ii_ne_t (by decide)) (by decide) (by decide) ?_
        refine XS.iload X828.here hx rfl (hb hby at_122) rfl ?_
        refine XS.iconst X828.here hx rfl (hb hby at_124) ?_
        show Steps p.tables e below (T828.setTop (mkF m 125 #[iv p0, iv p1, iv p2, iv p3, rv b62, iv (1 : Int32), iv (1 : Int32), rv r_816, iv (3 : Int32), iv (1 : Int32), .unset] [(.int (2 : Int32)), (.int (3 : Int32))])) _
        refine XS.icmpYes X828.here hx rfl (pc0 := 125) (pc' := 140) rfl (hb hby at_125) rfl (XT.ii_ne_t (by decide)) (by decide) (by decide) ?_
        refine XS.iload X828.here hx rfl (hb hby at_140) rfl ?_
        refine XS.iconst X828.here hx rfl (hb hby at_142) ?_
        refine XS.icmpNo X828.here hx rfl (hb hby at_143) rfl (XT.ii_ne_f (by decide)) ?_
        show Steps p.tables e below (T828.setTop (mkF m 146 #[iv p0, iv p1, iv p2, iv p3, rv b62, iv (1 : Int32), iv (1 : Int32), rv r_816, iv (3 : Int32), iv (1 : Int32), .unset] [])) _
        refine XS.aload X828.here hx rfl (hb hby at_146) rfl rfl ?_
        refine XS.aload X828.here hx rfl (hb hby at_148) rfl rfl ?_
        refine XS.iconst X828.here hx rfl (hb hby at_150) ?_
        exact kt
      obtain ⟨cq1619, kq1619, q1619a, q1619b, q1619c⟩ := isOf hZ e828 J824_0
      obtain ⟨_, _, ⟨T1619, L1619, k1619, n1619⟩, -, X1619, ⟨Lc1619, hQ1619, l1619, y1619, z1619⟩, st1619⟩ := X828.virtualBack hx (y := (⟨"com/example/homethread/homethread/Items", "removeLast", "(Ljava/lang/Object;I)Z"⟩ : MethodName)) (z := (⟨"com/example/homethread/homethread/Items", "removeLast", "(Ljava/lang/Object;I)Z"⟩ : MethodName)) hown (mvT hZ (W 81 rfl)) (mvT hZ (W 82 rfl)) (notFace_of_selects (args := #[]) (mvT hZ (W 84 rfl))) (mvT hZ (W 84 rfl)) (mvT hZ (W 83 rfl)) (by decide) (backOf (W := 0) (rm_removeLast13_1 l Z a0 hw [] b62 r_816 k109_68 b109_68 h824 n0 O824 g_b62 g_b109_68 J824_0 J824_1 J824_2 J824_3 J824_4 (fun q => ne_b62_b109_68 q.symm)) hZ (W 85 rfl) (W 2 rfl) (by decide) (by decide)) q1619a q1619c (g := (mkF m 151 #[iv p0, iv p1, iv p2, iv p3, rv b62, iv (1 : Int32), iv (1 : Int32), rv r_816, iv (3 : Int32), iv (1 : Int32), .unset] [(.int (0 : Int32)), (.ref r_816), (.ref b62)])) rfl (by rw [hml]; rfl) (Steps.refl _) (argsL := [(.ref r_816), (.int (0 : Int32))]) (rest := []) (lenOf pd_29 rfl) rfl (by show 2 * 0 + _ ≤ _; exact Nat.le_of_eq rfl) (hb hby at_151) (fun _ _ => ⟨rfl, e828, (by decide : 3 + 0 ≤ _), (by decide : 19 + 0 ≤ _)⟩)
      dsimp only [Pt.U, Pt.locs, Pt.cells, Pt.slots] at X1619 l1619 y1619 z1619 st1619 hQ1619
      replace l1619 := l1619.symm
      replace y1619 : 3 = k1619 := y1619.symm
      replace z1619 : 19 = n1619 := z1619.symm
      subst l1619 y1619 z1619
      obtain ⟨rfl, M1619, Kc1619, O1619, J1619_0, J1619_1, J1619_2, J1619_3, J1619_4⟩ := hQ1619
      obtain ⟨h1619, e1619⟩ : ∃ z, T1619.heap = z := ⟨_, rfl⟩
      rw [e1619] at Kc1619 O1619 J1619_0 J1619_1 J1619_2 J1619_3 J1619_4
      have N1619 := Fr.app N828 M1619
      have K1619 : Keep h0 h1619 [] := K824.trans Kc1619 (own_all2 (Or.inr sz_b62) (Or.inr sz_b109_68))
      have pre1779 : ∀ t, Steps p.tables e below (T1619.setTop (mkF m 154 #[iv p0, iv p1, iv p2, iv p3, rv b62, iv (1 : Int32), iv (1 : Int32), rv r_816, iv (3 : Int32), iv (1 : Int32), .unset] [(.int (1 : Int32))])) t → Steps p.tables e below (s₁.setTop (entryFrame m #[(.int p0), (.int p1), (.int p2), (.int p3)] maxLocals)) t := fun t kt => pre1618 _ (st1619.trans kt)
      have F1780 := F826.keep Kc1619
      have pre1781 : ∀ t, Steps p.tables e below (T1619.setTop (mkF m 205 #[iv p0, iv p1, iv p2, iv p3, rv b62, iv (1 : Int32), iv (1 : Int32), rv r_816, iv (3 : Int32), iv (0 : Int32), iv (1 : Int32)] [(.ref b62)])) t → Steps p.tables e below (s₁.setTop (entryFrame m #[(.int p0), (.int p1), (.int p2), (.int p3)] maxLocals)) t := fun t kt => by
        refine pre1779 _ ?_
        show Steps p.tables e below (T1619.setTop (mkF m 154 #[iv p0, iv p1, iv p2, iv p3, rv b62, iv (1 : Int32), iv (1 : Int32), rv r_816, iv (3 : Int32), iv (1 : Int32), .unset] [(.int (1 : Int32))])) _
        refine XS.istore X1619.here hx rfl (hb hby at_154) rfl (l' := #[iv p0, iv p1, iv p2, iv p3, rv b62, iv (1 : Int32), iv (1 : Int32), rv r_816, iv (3 : Int32), iv (1 : Int32), iv (1 : Int32)]) rfl ?_
        refine XS.iload X1619.here hx rfl (hb hby at_156) rfl ?_
        refine XS.ifNo X1619.here hx rfl (hb hby at_158) rfl (XT.i0_eq_f (by decide)) ?_
        refine XS.iload X1619.here hx rfl (hb hby at_161) rfl ?_
        show Steps p.tables e below (T1619.setTop (mkF m 163 #[iv p0, iv p1, iv p2, iv p3, rv b62, iv (1 : Int32), iv (1 : Int32), rv r_816, iv (3 : Int32), iv (1 : Int32), iv (1 : Int32)] [(.int (1 : Int32))])) _
        refine XS.iload X1619.here hx rfl (hb hby at_163) rfl ?_
        refine XS.ifNo X1619.here hx rfl (hb hby at_165) rfl (XT.i0_le_f (by decide)) ?_
        refine XS.iconst X1619.here hx rfl (hb hby at_168) ?_
        refine XS.goto X1619.here hx rfl (pc0 := 169) (pc' := 173) rfl (hb hby at_169) (by decide) (by decide) ?_
        show Steps p.tables e below (T1619.setTop (mkF m 173 #[iv p0, iv p1, iv p2, iv p3, rv b62, iv (1 : Int32), iv (1 : Int32), rv r_816, iv (3 : Int32), iv (1 : Int32), iv (1 : Int32)] [(.int (1 : Int32)), (.int (1 : Int32))])) _
        refine XS.icmpNo X1619.here hx rfl (hb hby at_173) rfl (XT.ii_ne_f (by decide)) ?_
        refine XS.iconst X1619.here hx rfl (hb hby at_176) ?_
        refine XS.goto X1619.here hx rfl (pc0 := 177) (pc' := 181) rfl (hb hby at_177) (by decide) (by decide) ?_
        refine XS.istore X1619.here hx rfl (hb hby at_181) rfl (l' := #[iv p0, iv p1, iv p2, iv p3, rv b62, iv (1 : Int32), iv (1 : Int32), rv r_816, iv (3 : Int32), iv (1 : Int32), iv (1 : Int32)]) rfl ?_
        show Steps p.tables e below (T1619.setTop (mkF m 183 #[iv p0, iv p1, iv p2, iv p3, rv b62, iv (1 : Int32), iv (1 : Int32), rv r_816, iv (3 : Int32), iv (1 : Int32), iv (1 : Int32)] [])) _
        refine XS.iload X1619.here hx rfl (hb hby at_183) rfl ?_
        refine XS.ifNo X1619.here hx rfl (hb hby at_185) rfl (XT.i0_le_f (by decide)) ?_
        refine XS.iload X1619.here hx rfl (hb hby at_188) rfl ?_
        refine XS.iconst X1619.here hx rfl (hb hby at_190) ?_
        show Steps p.tables e below (T1619.setTop (mkF m 191 #[iv p0, iv p1, iv p2, iv p3, rv b62, iv (1 : Int32), iv (1 : Int32), rv r_816, iv (3 : Int32), iv (1 : Int32), iv (1 : Int32)] [(.int (1 : Int32)), (.int (1 : Int32))])) _
        refine XS.isub X1619.here hx rfl (hb hby at_191) rfl ?_
        show  Steps p.tables e below (T1619.setTop (mkF m 192 #[iv p0, iv p1, iv p2, iv p3, rv b62, iv (1 : Int32), iv (1 : Int32), rv r_816, iv (3 : Int32), iv (1 : Int32), iv (1 : Int32)] [(.int ((1 : Int32) - (1 : Int32)))])) _
        rw [(by decide : (((1 : Int32) - (1 : Int32)) : Int32) = (0 : Int32))]
        refine XS.goto X1619.here hx rfl (pc0 := 192) (pc' := 196) rfl (hb hby at_192) (by decide) (by decide) ?_
        refine XS.istore X1619.here hx rfl (hb hby at_196) rfl (l' := #[iv p0, iv p1, iv p2, iv p3, rv b62, iv (1 : Int32), iv (1 : Int32), rv r_816, iv (3 : Int32), iv (0 : Int32), iv (1 : Int32)]) rfl ?_
        refine XS.iload X1619.here hx rfl (hb hby at_198) rfl ?_
        show Steps p.tables e below (T1619.setTop (mkF m 200 #[iv p0, iv p1, iv p2, iv p3, rv b62, iv (1 : Int32), iv (1 : Int32), rv r_816, iv (3 : Int32), iv (0 : Int32), iv (1 : Int32)] [(.int (1 : Int32))])) _
        refine XS.ifNo X1619.here hx rfl (hb hby at_200) rfl (XT.i0_eq_f (by decide)) ?_
        refine XS.aload X1619.here hx rfl (hb hby at_203) rfl rfl ?_
        exact kt
      obtain ⟨cq1782, kq1782, q1782a, q1782b, q1782c⟩ := isOf hZ e1619 J1619_0
      obtain ⟨_, _, ⟨T1782, L1782, k1782, n1782⟩, -, X1782, ⟨Lc1782, hQ1782, l1782, y1782, z1782⟩, st1782⟩ := X1619.virtualBack hx (y := (⟨"com/example/homethread/homethread/Items", "isEmpty", "()Z"⟩ : MethodName)) (z := (⟨"com/example/homethread/homethread/Items", "isEmpty", "()Z"⟩ : MethodName)) hown (mvT hZ (W 13 rfl)) (mvT hZ (W 14 rfl)) (notFace_of_selects (args := #[]) (mvT hZ (W 16 rfl))) (mvT hZ (W 16 rfl)) (mvT hZ (W 15 rfl)) (by decide) (backOf (W := 0) (rm_isEmpty3_0 l Z a0 hw [] b62 h1619 n0 O1619 J1619_3) hZ (W 17 rfl) (W 2 rfl) (by decide) (by decide)) q1782a q1782c (g := (mkF m 205 #[iv p0, iv p1, iv p2, iv p3, rv b62, iv (1 : Int32), iv (1 : Int32), rv r_816, iv (3 : Int32), iv (0 : Int32), iv (1 : Int32)] [(.ref b62)])) rfl (by rw [hml]; rfl) (Steps.refl _) (argsL := []) (rest := []) (lenOf pd_12 rfl) rfl (by show 2 * 0 + _ ≤ _; exact Nat.le_of_eq rfl) (hb hby at_205) (fun _ _ => ⟨rfl, e1619, (by decide : 3 + 0 ≤ _), (by decide : 19 + 0 ≤ _)⟩)
      dsimp only [Pt.U, Pt.locs, Pt.cells, Pt.slots] at X1782 l1782 y1782 z1782 st1782 hQ1782
      replace l1782 := l1782.symm
      replace y1782 : 3 = k1782 := y1782.symm
      replace z1782 : 19 = n1782 := z1782.symm
      subst l1782 y1782 z1782
      obtain ⟨rfl, M1782, e1782⟩ := hQ1782
      have N1782 := Fr.app N1619 M1782
      have pre1783 : ∀ t, Steps p.tables e below (T1782.setTop (mkF m 208 #[iv p0, iv p1, iv p2, iv p3, rv b62, iv (1 : Int32), iv (1 : Int32), rv r_816, iv (3 : Int32), iv (0 : Int32), iv (1 : Int32)] [(.int (1 : Int32))])) t → Steps p.tables e below (s₁.setTop (entryFrame m #[(.int p0), (.int p1), (.int p2), (.int p3)] maxLocals)) t := fun t kt => pre1781 _ (st1782.trans kt)
      have pre1784 : ∀ t, Steps p.tables e below (T1782.setTop (mkF m 232 #[iv p0, iv p1, iv p2, iv p3, rv b62, iv (1 : Int32), iv (1 : Int32), rv r_816, iv (3 : Int32), iv (0 : Int32), iv (1 : Int32)] [(.ref r_816), (.ref b62)])) t → Steps p.tables e below (s₁.setTop (entryFrame m #[(.int p0), (.int p1), (.int p2), (.int p3)] maxLocals)) t := fun t kt => by
        refine pre1783 _ ?_
        show Steps p.tables e below (T1782.setTop (mkF m 208 #[iv p0, iv p1, iv p2, iv p3, rv b62, iv (1 : Int32), iv (1 : Int32), rv r_816, iv (3 : Int32), iv (0 : Int32), iv (1 : Int32)] [(.int (1 : Int32))])) _
        refine XS.iload X1782.here hx rfl (hb hby at_208) rfl ?_
        refine XS.ifNo X1782.here hx rfl (hb hby at_210) rfl (XT.i0_ne_f (by decide)) ?_
        refine XS.iconst X1782.here hx rfl (hb hby at_213) ?_
        refine XS.goto X1782.here hx rfl (pc0 := 214) (pc' := 218) rfl (hb hby at_214) (by decide) (by decide) ?_
        show Steps p.tables e below (T1782.setTop (mkF m 218 #[iv p0, iv p1, iv p2, iv p3, rv b62, iv (1 : Int32), iv (1 : Int32), rv r_816, iv (3 : Int32), iv (0 : Int32), iv (1 : Int32)] [(.int (1 : Int32)), (.int (1 : Int32))])) _
        refine XS.icmpNo X1782.here hx rfl (hb hby at_218) rfl (XT.ii_ne_f (by decide)) ?_
        refine XS.iconst X1782.here hx rfl (hb hby at_221) ?_
        refine XS.goto X1782.here hx rfl (pc0 := 222) (pc' := 226) rfl (hb hby at_222) (by decide) (by decide) ?_
        refine XS.istore X1782.here hx rfl (hb hby at_226) rfl (l' := #[iv p0, iv p1, iv p2, iv p3, rv b62, iv (1 : Int32), iv (1 : Int32), rv r_816, iv (3 : Int32), iv (0 : Int32), iv (1 : Int32)]) rfl ?_
        show Steps p.tables e below (T1782.setTop (mkF m 228 #[iv p0, iv p1, iv p2, iv p3, rv b62, iv (1 : Int32), iv (1 : Int32), rv r_816, iv (3 : Int32), iv (0 : Int32), iv (1 : Int32)] [])) _
        refine XS.aload X1782.here hx rfl (hb hby at_228) rfl rfl ?_
        refine XS.aload X1782.here hx rfl (hb hby at_230) rfl rfl ?_
        exact kt
      obtain ⟨cq1785, kq1785, q1785a, q1785b, q1785c⟩ := isOf hZ e1782 J1619_0
      obtain ⟨_, _, ⟨T1785, L1785, k1785, n1785⟩, -, X1785, ⟨Lc1785, hQ1785, l1785, y1785, z1785⟩, st1785⟩ := X1782.virtualBack hx (y := (⟨"com/example/homethread/homethread/Items", "add", "(Ljava/lang/Object;)V"⟩ : MethodName)) (z := (⟨"com/example/homethread/homethread/Items", "add", "(Ljava/lang/Object;)V"⟩ : MethodName)) hown (mvT hZ (W 34 rfl)) (mvT hZ (W 35 rfl)) (notFace_of_selects (args := #[]) (mvT hZ (W 37 rfl))) (mvT hZ (W 37 rfl)) (mvT hZ (W 36 rfl)) (by decide) (backOf (W := 0) (rm_add6_0 l Z a0 hw [] b62 r_816 b109_68 k109_68 h1619 n0 O1619 g_b62 g_b109_68 J1619_0 J1619_3 J1619_4 J68_3 J1619_1 J1619_2 F1780 (fun q => ne_b62_b109_68 q.symm)) hZ (W 38 rfl) (W 2 rfl) (by decide) (by decide)) q1785a q1785c (g := (mkF m 232 #[iv p0, iv p1, iv p2, iv p3, rv b62, iv (1 : Int32), iv (1 : Int32), rv r_816, iv (3 : Int32), iv (0 : Int32), iv (1 : Int32)] [(.ref r_816), (.ref b62)])) rfl (by rw [hml]; rfl) (Steps.refl _) (argsL := [(.ref r_816)]) (rest := []) (lenOf pd_15 rfl) rfl (by show 2 * 0 + _ ≤ _; exact Nat.le_of_eq rfl) (hb hby at_232) (fun _ _ => ⟨rfl, e1782, (by decide : 3 + 0 ≤ _), (by decide : 19 + 0 ≤ _)⟩)
      dsimp only [Pt.U, Pt.locs, Pt.cells, Pt.slots] at X1785 l1785 y1785 z1785 st1785 hQ1785
      replace l1785 := l1785.symm
      replace y1785 : 3 = k1785 := y1785.symm
      replace z1785 : 19 = n1785 := z1785.symm
      subst l1785 y1785 z1785
      obtain ⟨rfl, M1785, Kc1785, O1785, J1785_0, J1785_1, J1785_2, J1785_3, J1785_4⟩ := hQ1785
      obtain ⟨h1785, e1785⟩ : ∃ z, T1785.heap = z := ⟨_, rfl⟩
      rw [e1785] at Kc1785 O1785 J1785_0 J1785_1 J1785_2 J1785_3 J1785_4
      have N1785 := Fr.app N1782 M1785
      have K1785 : Keep h0 h1785 [] := K1619.trans Kc1785 (own_all2 (Or.inr sz_b62) (Or.inr sz_b109_68))
      have pre1786 : ∀ t, Steps p.tables e below (T1785.setTop (mkF m 235 #[iv p0, iv p1, iv p2, iv p3, rv b62, iv (1 : Int32), iv (1 : Int32), rv r_816, iv (3 : Int32), iv (0 : Int32), iv (1 : Int32)] [])) t → Steps p.tables e below (s₁.setTop (entryFrame m #[(.int p0), (.int p1), (.int p2), (.int p3)] maxLocals)) t := fun t kt => pre1784 _ (st1785.trans kt)
      have F1787 := F1780.keep Kc1785
      have pre1788 : ∀ t, Steps p.tables e below (T1785.setTop (mkF m 242 #[iv p0, iv p1, iv p2, iv p3, rv b62, iv (1 : Int32), iv (1 : Int32), rv r_816, iv (3 : Int32), iv (0 : Int32), iv (1 : Int32)] [(.ref b62)])) t → Steps p.tables e below (s₁.setTop (entryFrame m #[(.int p0), (.int p1), (.int p2), (.int p3)] maxLocals)) t := fun t kt => by
        refine pre1786 _ ?_
        show Steps p.tables e below (T1785.setTop (mkF m 235 #[iv p0, iv p1, iv p2, iv p3, rv b62, iv (1 : Int32), iv (1 : Int32), rv r_816, iv (3 : Int32), iv (0 : Int32), iv (1 : Int32)] [])) _
        refine XS.iload X1785.here hx rfl (hb hby at_235) rfl ?_
        refine XS.ifNo X1785.here hx rfl (hb hby at_237) rfl (XT.i0_eq_f (by decide)) ?_
        refine XS.aload X1785.here hx rfl (hb hby at_240) rfl rfl ?_
        exact kt
      obtain ⟨cq1789, kq1789, q1789a, q1789b, q1789c⟩ := isOf hZ e1785 J1785_0
      obtain ⟨_, _, ⟨T1789, L1789, k1789, n1789⟩, -, X1789, ⟨Lc1789, hQ1789, l1789, y1789, z1789⟩, st1789⟩ := X1785.virtualBack hx (y := (⟨"com/example/homethread/homethread/Items", "isEmpty", "()Z"⟩ : MethodName)) (z := (⟨"com/example/homethread/homethread/Items", "isEmpty", "()Z"⟩ : MethodName)) hown (mvT hZ (W 13 rfl)) (mvT hZ (W 14 rfl)) (notFace_of_selects (args := #[]) (mvT hZ (W 16 rfl))) (mvT hZ (W 16 rfl)) (mvT hZ (W 15 rfl)) (by decide) (backOf (W := 0) (rm_isEmpty3_1 l Z a0 hw [] b62 h1785 n0 O1785 J1785_4) hZ (W 17 rfl) (W 2 rfl) (by decide) (by decide)) q1789a q1789c (g := (mkF m 242 #[iv p0, iv p1, iv p2, iv p3, rv b62, iv (1 : Int32), iv (1 : Int32), rv r_816, iv (3 : Int32), iv (0 : Int32), iv (1 : Int32)] [(.ref b62)])) rfl (by rw [hml]; rfl) (Steps.refl _) (argsL := []) (rest := []) (lenOf pd_12 rfl) rfl (by show 2 * 0 + _ ≤ _; exact Nat.le_of_eq rfl) (hb hby at_242) (fun _ _ => ⟨rfl, e1785, (by decide : 3 + 0 ≤ _), (by decide : 19 + 0 ≤ _)⟩)
      dsimp only [Pt.U, Pt.locs, Pt.cells, Pt.slots] at X1789 l1789 y1789 z1789 st1789 hQ1789
      replace l1789 := l1789.symm
      replace y1789 : 3 = k1789 := y1789.symm
      replace z1789 : 19 = n1789 := z1789.symm
      subst l1789 y1789 z1789
      obtain ⟨rfl, M1789, e1789⟩ := hQ1789
      have N1789 := Fr.app N1785 M1789
      have pre1790 : ∀ t, Steps p.tables e below (T1789.setTop (mkF m 245 #[iv p0, iv p1, iv p2, iv p3, rv b62, iv (1 : Int32), iv (1 : Int32), rv r_816, iv (3 : Int32), iv (0 : Int32), iv (1 : Int32)] [(.int (0 : Int32))])) t → Steps p.tables e below (s₁.setTop (entryFrame m #[(.int p0), (.int p1), (.int p2), (.int p3)] maxLocals)) t := fun t kt => pre1788 _ (st1789.trans kt)
      have pre1791 : ∀ t, Steps p.tables e below (T1789.setTop (mkF m 257 #[iv p0, iv p1, iv p2, iv p3, rv b62, iv (1 : Int32), iv (1 : Int32), rv r_816, iv (3 : Int32), iv (0 : Int32), iv (1 : Int32)] [(.int (1 : Int32))])) t → Steps p.tables e below (s₁.setTop (entryFrame m #[(.int p0), (.int p1), (.int p2), (.int p3)] maxLocals)) t := fun t kt => by
        refine pre1790 _ ?_
        show Steps p.tables e below (T1789.setTop (mkF m 245 #[iv p0, iv p1, iv p2, iv p3, rv b62, iv (1 : Int32), iv (1 : Int32), rv r_816, iv (3 : Int32), iv (0 : Int32), iv (1 : Int32)] [(.int (0 : Int32))])) _
        refine XS.ifNo X1789.here hx rfl (hb hby at_245) rfl (XT.i0_ne_f (by decide)) ?_
        refine XS.iconst X1789.here hx rfl (hb hby at_248) ?_
        refine XS.goto X1789.here hx rfl (pc0 := 249) (pc' := 253) rfl (hb hby at_249) (by decide) (by decide) ?_
        refine XS.istore X1789.here hx rfl (hb hby at_253) rfl (l' := #[iv p0, iv p1, iv p2, iv p3, rv b62, iv (1 : Int32), iv (1 : Int32), rv r_816, iv (3 : Int32), iv (0 : Int32), iv (1 : Int32)]) rfl ?_
        show Steps p.tables e below (T1789.setTop (mkF m 255 #[iv p0, iv p1, iv p2, iv p3, rv b62, iv (1 : Int32), iv (1 : Int32), rv r_816, iv (3 : Int32), iv (0 : Int32), iv (1 : Int32)] [])) _
        refine XS.iload X1789.here hx rfl (hb hby at_255) rfl ?_
        exact kt
      obtain ⟨fs, hr, hrun, hended, hW, hsame⟩ := X1789.leave (v := some (.int (1 : Int32))) (fun h => by rw [Bd.returns] at h; cases h)
      refine ⟨_, _, pre1791 _ (retN X1789 hx (t := .boolean) Bd.returns (by simp) (hb hby at_257) hr), hrun, hended, _, _, rfl, ?_, ⟨_, rfl⟩, hW, hsame.mono (by decide) (by decide)⟩
      show Q_law Z p0 p1 p2 p3 ac mr a_NO_SLOTS kn h0 n0 _ T1789.heap _
      rw [e1789]
      exact ⟨rfl, N1789⟩
  · rw [hv140] at pre139
    have pre1792 : ∀ t, Steps p.tables e below (T125.setTop (mkF m 22 #[iv p0, iv p1, iv p2, iv p3, rv b62, iv (1 : Int32), iv (2 : Int32), .unset, .unset, .unset, .unset] [(.int p1)])) t → Steps p.tables e below (s₁.setTop (entryFrame m #[(.int p0), (.int p1), (.int p2), (.int p3)] maxLocals)) t := fun t kt => by
      refine pre139 _ ?_
      show Steps p.tables e below (T125.setTop (mkF m 19 #[iv p0, iv p1, iv p2, iv p3, rv b62, iv (1 : Int32), .unset, .unset, .unset, .unset, .unset] [(.int (2 : Int32))])) _
      refine XS.istore X125.here hx rfl (hb hby at_19) rfl (l' := #[iv p0, iv p1, iv p2, iv p3, rv b62, iv (1 : Int32), iv (2 : Int32), .unset, .unset, .unset, .unset]) rfl ?_
      refine XS.iloadN X125.here hx rfl (hb hby at_21) rfl ?_
      exact kt
    obtain ⟨_, _, ⟨T1793, L1793, k1793, n1793⟩, -, X1793, ⟨Lc1793, hQ1793, l1793, y1793, z1793⟩, st1793⟩ := Jvm.LawKit.callS X125 hx (y := (⟨"java/lang/Integer", "valueOf", "(I)Ljava/lang/Integer;"⟩ : MethodName)) hown (mvT hZ (W 20 rfl)) (mvT hZ (W 21 rfl)) (mvT hZ (W 22 rfl)) (mvT hZ (W 23 rfl)) (by decide) (backOf (W := 0) (rm_valueOf l Z a0 hw [] p1 ac h68 n0 O68 G0 G1 G2) hZ (W 23 rfl) (W 22 rfl) (by decide) (by decide)) (g := (mkF m 22 #[iv p0, iv p1, iv p2, iv p3, rv b62, iv (1 : Int32), iv (2 : Int32), .unset, .unset, .unset, .unset] [(.int p1)])) rfl (by rw [hml]; rfl) (argsL := [(.int p1)]) (rest := []) (lenOf pd_13 rfl) rfl (by show 2 * 0 + _ ≤ _; exact Nat.le_of_eq rfl) (hb hby at_22) (fun _ _ => ⟨rfl, e125, (by decide : 2 + 1 ≤ _), (by decide : 18 + 1 ≤ _)⟩)
    dsimp only [Pt.U, Pt.locs, Pt.cells, Pt.slots] at X1793 l1793 y1793 z1793 st1793 hQ1793
    replace l1793 := l1793.symm
    replace y1793 : 3 = k1793 := y1793.symm
    replace z1793 : 19 = n1793 := z1793.symm
    subst l1793 y1793 z1793
    obtain ⟨r_1793, rfl, M1793, Kc1793, O1793, J1793_0⟩ := hQ1793
    obtain ⟨h1793, e1793⟩ : ∃ z, T1793.heap = z := ⟨_, rfl⟩
    rw [e1793] at Kc1793 O1793 J1793_0
    have N1793 := Fr.app N125 M1793
    have K1793 : Keep h0 h1793 [] := K68.trans Kc1793 (own_all0 )
    have pre1794 : ∀ t, Steps p.tables e below (T1793.setTop (mkF m 25 #[iv p0, iv p1, iv p2, iv p3, rv b62, iv (1 : Int32), iv (2 : Int32), .unset, .unset, .unset, .unset] [(.ref r_1793)])) t → Steps p.tables e below (s₁.setTop (entryFrame m #[(.int p0), (.int p1), (.int p2), (.int p3)] maxLocals)) t := fun t kt => pre1792 _ (st1793 _ kt)
    have F1795 := J68_0.keep Kc1793
    have F1796 := J68_1.keep Kc1793 (own_nm0 )
    have F1797 := J68_2.keep Kc1793 (own_nm0 )
    have F1798 := J68_4.keep Kc1793
    have F1799 := J68_5.keep Kc1793 (own_nm0 )
    have pre1800 : ∀ t, Steps p.tables e below (T1793.setTop (mkF m 37 #[iv p0, iv p1, iv p2, iv p3, rv b62, iv (1 : Int32), iv (2 : Int32), rv r_1793, .unset, .unset, .unset] [(.ref r_1793), (.ref b62)])) t → Steps p.tables e below (s₁.setTop (entryFrame m #[(.int p0), (.int p1), (.int p2), (.int p3)] maxLocals)) t := fun t kt => by
      refine pre1794 _ ?_
      show Steps p.tables e below (T1793.setTop (mkF m 25 #[iv p0, iv p1, iv p2, iv p3, rv b62, iv (1 : Int32), iv (2 : Int32), .unset, .unset, .unset, .unset] [(.ref r_1793)])) _
      refine XS.astore X1793.here hx rfl (hb hby at_25) rfl rfl (l' := #[iv p0, iv p1, iv p2, iv p3, rv b62, iv (1 : Int32), iv (2 : Int32), rv r_1793, .unset, .unset, .unset]) rfl ?_
      refine XS.iload X1793.here hx rfl (hb hby at_27) rfl ?_
      refine XS.iconst X1793.here hx rfl (hb hby at_29) ?_
      refine XS.icmpNo X1793.here hx rfl (hb hby at_30) rfl (XT.ii_lt_f (by decide)) ?_
      show Steps p.tables e below (T1793.setTop (mkF m 33 #[iv p0, iv p1, iv p2, iv p3, rv b62, iv (1 : Int32), iv (2 : Int32), rv r_1793, .unset, .unset, .unset] [])) _
      refine XS.aload X1793.here hx rfl (hb hby at_33) rfl rfl ?_
      refine XS.aload X1793.here hx rfl (hb hby at_35) rfl rfl ?_
      exact kt
    obtain ⟨cq1801, kq1801, q1801a, q1801b, q1801c⟩ := isOf hZ e1793 F1795
    obtain ⟨_, _, ⟨T1801, L1801, k1801, n1801⟩, -, X1801, ⟨Lc1801, hQ1801, l1801, y1801, z1801⟩, st1801⟩ := X1793.virtualBack hx (y := (⟨"com/example/homethread/homethread/Items", "add", "(Ljava/lang/Object;)V"⟩ : MethodName)) (z := (⟨"com/example/homethread/homethread/Items", "add", "(Ljava/lang/Object;)V"⟩ : MethodName)) hown (mvT hZ (W 34 rfl)) (mvT hZ (W 35 rfl)) (notFace_of_selects (args := #[]) (mvT hZ (W 37 rfl))) (mvT hZ (W 37 rfl)) (mvT hZ (W 36 rfl)) (by decide) (backOf (W := 0) (rm_add6_0 l Z a0 hw [] b62 r_1793 b109_68 k109_68 h1793 n0 O1793 g_b62 g_b109_68 F1795 F1796 F1797 J68_3 F1798 F1799 J1793_0 (fun q => ne_b62_b109_68 q.symm)) hZ (W 38 rfl) (W 2 rfl) (by decide) (by decide)) q1801a q1801c (g := (mkF m 37 #[iv p0, iv p1, iv p2, iv p3, rv b62, iv (1 : Int32), iv (2 : Int32), rv r_1793, .unset, .unset, .unset] [(.ref r_1793), (.ref b62)])) rfl (by rw [hml]; rfl) (Steps.refl _) (argsL := [(.ref r_1793)]) (rest := []) (lenOf pd_15 rfl) rfl (by show 2 * 0 + _ ≤ _; exact Nat.le_of_eq rfl) (hb hby at_37) (fun _ _ => ⟨rfl, e1793, (by decide : 3 + 0 ≤ _), (by decide : 19 + 0 ≤ _)⟩)
    dsimp only [Pt.U, Pt.locs, Pt.cells, Pt.slots] at X1801 l1801 y1801 z1801 st1801 hQ1801
    replace l1801 := l1801.symm
    replace y1801 : 3 = k1801 := y1801.symm
    replace z1801 : 19 = n1801 := z1801.symm
    subst l1801 y1801 z1801
    obtain ⟨rfl, M1801, Kc1801, O1801, J1801_0, J1801_1, J1801_2, J1801_3, J1801_4⟩ := hQ1801
    obtain ⟨h1801, e1801⟩ : ∃ z, T1801.heap = z := ⟨_, rfl⟩
    rw [e1801] at Kc1801 O1801 J1801_0 J1801_1 J1801_2 J1801_3 J1801_4
    have N1801 := Fr.app N1793 M1801
    have K1801 : Keep h0 h1801 [] := K1793.trans Kc1801 (own_all2 (Or.inr sz_b62) (Or.inr sz_b109_68))
    have pre1802 : ∀ t, Steps p.tables e below (T1801.setTop (mkF m 40 #[iv p0, iv p1, iv p2, iv p3, rv b62, iv (1 : Int32), iv (2 : Int32), rv r_1793, .unset, .unset, .unset] [])) t → Steps p.tables e below (s₁.setTop (entryFrame m #[(.int p0), (.int p1), (.int p2), (.int p3)] maxLocals)) t := fun t kt => pre1800 _ (st1801.trans kt)
    have F1803 := J1793_0.keep Kc1801
    have pre1804 : ∀ t, Steps p.tables e below (T1801.setTop (mkF m 50 #[iv p0, iv p1, iv p2, iv p3, rv b62, iv (1 : Int32), iv (2 : Int32), rv r_1793, .unset, .unset, .unset] [(.ref r_1793), (.ref b62)])) t → Steps p.tables e below (s₁.setTop (entryFrame m #[(.int p0), (.int p1), (.int p2), (.int p3)] maxLocals)) t := fun t kt => by
      refine pre1802 _ ?_
      show Steps p.tables e below (T1801.setTop (mkF m 40 #[iv p0, iv p1, iv p2, iv p3, rv b62, iv (1 : Int32), iv (2 : Int32), rv r_1793, .unset, .unset, .unset] [])) _
      refine XS.iload X1801.here hx rfl (hb hby at_40) rfl ?_
      refine XS.iconst X1801.here hx rfl (hb hby at_42) ?_
      refine XS.icmpNo X1801.here hx rfl (hb hby at_43) rfl (XT.ii_lt_f (by decide)) ?_
      refine XS.aload X1801.here hx rfl (hb hby at_46) rfl rfl ?_
      show Steps p.tables e below (T1801.setTop (mkF m 48 #[iv p0, iv p1, iv p2, iv p3, rv b62, iv (1 : Int32), iv (2 : Int32), rv r_1793, .unset, .unset, .unset] [(.ref b62)])) _
      refine XS.aload X1801.here hx rfl (hb hby at_48) rfl rfl ?_
      exact kt
    obtain ⟨cq1805, kq1805, q1805a, q1805b, q1805c⟩ := isOf hZ e1801 J1801_0
    obtain ⟨_, _, ⟨T1805, L1805, k1805, n1805⟩, -, X1805, ⟨Lc1805, hQ1805, l1805, y1805, z1805⟩, st1805⟩ := X1801.virtualBack hx (y := (⟨"com/example/homethread/homethread/Items", "add", "(Ljava/lang/Object;)V"⟩ : MethodName)) (z := (⟨"com/example/homethread/homethread/Items", "add", "(Ljava/lang/Object;)V"⟩ : MethodName)) hown (mvT hZ (W 34 rfl)) (mvT hZ (W 35 rfl)) (notFace_of_selects (args := #[]) (mvT hZ (W 37 rfl))) (mvT hZ (W 37 rfl)) (mvT hZ (W 36 rfl)) (by decide) (backOf (W := 0) (rm_add6_2 l Z a0 hw [] b62 r_1793 k109_68 b109_68 h1801 n0 O1801 g_b62 g_b109_68 J68_3 F1803 J1801_0 J1801_1 J1801_2 J1801_3 J1801_4 (fun q => ne_b62_b109_68 q.symm)) hZ (W 38 rfl) (W 2 rfl) (by decide) (by decide)) q1805a q1805c (g := (mkF m 50 #[iv p0, iv p1, iv p2, iv p3, rv b62, iv (1 : Int32), iv (2 : Int32), rv r_1793, .unset, .unset, .unset] [(.ref r_1793), (.ref b62)])) rfl (by rw [hml]; rfl) (Steps.refl _) (argsL := [(.ref r_1793)]) (rest := []) (lenOf pd_15 rfl) rfl (by show 2 * 0 + _ ≤ _; exact Nat.le_of_eq rfl) (hb hby at_50) (fun _ _ => ⟨rfl, e1801, (by decide : 3 + 0 ≤ _), (by decide : 19 + 0 ≤ _)⟩)
    dsimp only [Pt.U, Pt.locs, Pt.cells, Pt.slots] at X1805 l1805 y1805 z1805 st1805 hQ1805
    replace l1805 := l1805.symm
    replace y1805 : 3 = k1805 := y1805.symm
    replace z1805 : 19 = n1805 := z1805.symm
    subst l1805 y1805 z1805
    obtain ⟨rfl, M1805, Kc1805, O1805, J1805_0, J1805_1, J1805_2, J1805_3, J1805_4⟩ := hQ1805
    obtain ⟨h1805, e1805⟩ : ∃ z, T1805.heap = z := ⟨_, rfl⟩
    rw [e1805] at Kc1805 O1805 J1805_0 J1805_1 J1805_2 J1805_3 J1805_4
    have N1805 := Fr.app N1801 M1805
    have K1805 : Keep h0 h1805 [] := K1801.trans Kc1805 (own_all2 (Or.inr sz_b62) (Or.inr sz_b109_68))
    have pre1806 : ∀ t, Steps p.tables e below (T1805.setTop (mkF m 53 #[iv p0, iv p1, iv p2, iv p3, rv b62, iv (1 : Int32), iv (2 : Int32), rv r_1793, .unset, .unset, .unset] [])) t → Steps p.tables e below (s₁.setTop (entryFrame m #[(.int p0), (.int p1), (.int p2), (.int p3)] maxLocals)) t := fun t kt => pre1804 _ (st1805.trans kt)
    have F1807 := F1803.keep Kc1805
    have pre1808 : ∀ t, Steps p.tables e below (T1805.setTop (mkF m 73 #[iv p0, iv p1, iv p2, iv p3, rv b62, iv (1 : Int32), iv (2 : Int32), rv r_1793, .unset, .unset, .unset] [(.ref b62)])) t → Steps p.tables e below (s₁.setTop (entryFrame m #[(.int p0), (.int p1), (.int p2), (.int p3)] maxLocals)) t := fun t kt => by
      refine pre1806 _ ?_
      show Steps p.tables e below (T1805.setTop (mkF m 53 #[iv p0, iv p1, iv p2, iv p3, rv b62, iv (1 : Int32), iv (2 : Int32), rv r_1793, .unset, .unset, .unset] [])) _
      refine XS.iload X1805.here hx rfl (hb hby at_53) rfl ?_
      refine XS.iconst X1805.here hx rfl (hb hby at_55) ?_
      refine XS.icmpYes X1805.here hx rfl (pc0 := 56) (pc' := 66) rfl (hb hby at_56) rfl (XT.ii_lt_t (by decide)) (by decide) (by decide) ?_
      refine XS.iload X1805.here hx rfl (hb hby at_66) rfl ?_
      show Steps p.tables e below (T1805.setTop (mkF m 68 #[iv p0, iv p1, iv p2, iv p3, rv b62, iv (1 : Int32), iv (2 : Int32), rv r_1793, .unset, .unset, .unset] [(.int (1 : Int32))])) _
      refine XS.ifNo X1805.here hx rfl (hb hby at_68) rfl (XT.i0_eq_f (by decide)) ?_
      refine XS.aload X1805.here hx rfl (hb hby at_71) rfl rfl ?_
      exact kt
    obtain ⟨cq1809, kq1809, q1809a, q1809b, q1809c⟩ := isOf hZ e1805 J1805_0
    obtain ⟨_, _, ⟨T1809, L1809, k1809, n1809⟩, -, X1809, ⟨Lc1809, hQ1809, l1809, y1809, z1809⟩, st1809⟩ := X1805.virtualBack hx (y := (⟨"com/example/homethread/homethread/Items", "isEmpty", "()Z"⟩ : MethodName)) (z := (⟨"com/example/homethread/homethread/Items", "isEmpty", "()Z"⟩ : MethodName)) hown (mvT hZ (W 13 rfl)) (mvT hZ (W 14 rfl)) (notFace_of_selects (args := #[]) (mvT hZ (W 16 rfl))) (mvT hZ (W 16 rfl)) (mvT hZ (W 15 rfl)) (by decide) (backOf (W := 0) (rm_isEmpty3_2 l Z a0 hw [] b62 h1805 n0 O1805 J1805_4) hZ (W 17 rfl) (W 2 rfl) (by decide) (by decide)) q1809a q1809c (g := (mkF m 73 #[iv p0, iv p1, iv p2, iv p3, rv b62, iv (1 : Int32), iv (2 : Int32), rv r_1793, .unset, .unset, .unset] [(.ref b62)])) rfl (by rw [hml]; rfl) (Steps.refl _) (argsL := []) (rest := []) (lenOf pd_12 rfl) rfl (by show 2 * 0 + _ ≤ _; exact Nat.le_of_eq rfl) (hb hby at_73) (fun _ _ => ⟨rfl, e1805, (by decide : 3 + 0 ≤ _), (by decide : 19 + 0 ≤ _)⟩)
    dsimp only [Pt.U, Pt.locs, Pt.cells, Pt.slots] at X1809 l1809 y1809 z1809 st1809 hQ1809
    replace l1809 := l1809.symm
    replace y1809 : 3 = k1809 := y1809.symm
    replace z1809 : 19 = n1809 := z1809.symm
    subst l1809 y1809 z1809
    obtain ⟨rfl, M1809, e1809⟩ := hQ1809
    have N1809 := Fr.app N1805 M1809
    have pre1810 : ∀ t, Steps p.tables e below (T1809.setTop (mkF m 76 #[iv p0, iv p1, iv p2, iv p3, rv b62, iv (1 : Int32), iv (2 : Int32), rv r_1793, .unset, .unset, .unset] [(.int (0 : Int32))])) t → Steps p.tables e below (s₁.setTop (entryFrame m #[(.int p0), (.int p1), (.int p2), (.int p3)] maxLocals)) t := fun t kt => pre1808 _ (st1809.trans kt)
    have pre1811 : ∀ t, Steps p.tables e below (T1809.setTop (mkF m 99 #[iv p0, iv p1, iv p2, iv p3, rv b62, iv (1 : Int32), iv (2 : Int32), rv r_1793, .unset, .unset, .unset] [(.int (p2 &&& (3 : Int32)))])) t → Steps p.tables e below (s₁.setTop (entryFrame m #[(.int p0), (.int p1), (.int p2), (.int p3)] maxLocals)) t := fun t kt => by
      refine pre1810 _ ?_
      show Steps p.tables e below (T1809.setTop (mkF m 76 #[iv p0, iv p1, iv p2, iv p3, rv b62, iv (1 : Int32), iv (2 : Int32), rv r_1793, .unset, .unset, .unset] [(.int (0 : Int32))])) _
      refine XS.iload X1809.here hx rfl (hb hby at_76) rfl ?_
      refine XS.ifYes X1809.here hx rfl (pc0 := 78) (pc' := 85) rfl (hb hby at_78) rfl (XT.i0_ne_t (by decide)) (by decide) (by decide) ?_
      refine XS.iconst X1809.here hx rfl (hb hby at_85) ?_
      refine XS.icmpNo X1809.here hx rfl (hb hby at_86) rfl (XT.ii_ne_f (by decide)) ?_
      show Steps p.tables e below (T1809.setTop (mkF m 89 #[iv p0, iv p1, iv p2, iv p3, rv b62, iv (1 : Int32), iv (2 : Int32), rv r_1793, .unset, .unset, .unset] [])) _
      refine XS.iconst X1809.here hx rfl (hb hby at_89) ?_
      refine XS.goto X1809.here hx rfl (pc0 := 90) (pc' := 94) rfl (hb hby at_90) (by decide) (by decide) ?_
      refine XS.istore X1809.here hx rfl (hb hby at_94) rfl (l' := #[iv p0, iv p1, iv p2, iv p3, rv b62, iv (1 : Int32), iv (2 : Int32), rv r_1793, .unset, .unset, .unset]) rfl ?_
      refine XS.iloadN X1809.here hx rfl (hb hby at_96) rfl ?_
      show Steps p.tables e below (T1809.setTop (mkF m 97 #[iv p0, iv p1, iv p2, iv p3, rv b62, iv (1 : Int32), iv (2 : Int32), rv r_1793, .unset, .unset, .unset] [(.int p2)])) _
      refine XS.iconst X1809.here hx rfl (hb hby at_97) ?_
      refine XS.iand X1809.here hx rfl (hb hby at_98) rfl ?_
      exact kt
    rcases own_mask3 p2 with hv1812 | hv1812 | hv1812 | hv1812
    · rw [hv1812] at pre1811
      have pre1813 : ∀ t, Steps p.tables e below (T1809.setTop (mkF m 205 #[iv p0, iv p1, iv p2, iv p3, rv b62, iv (1 : Int32), iv (2 : Int32), rv r_1793, iv (0 : Int32), iv (2 : Int32), .unset] [(.ref b62)])) t → Steps p.tables e below (s₁.setTop (entryFrame m #[(.int p0), (.int p1), (.int p2), (.int p3)] maxLocals)) t := fun t kt => by
        refine pre1811 _ ?_
        show Steps p.tables e below (T1809.setTop (mkF m 99 #[iv p0, iv p1, iv p2, iv p3, rv b62, iv (1 : Int32), iv (2 : Int32), rv r_1793, .unset, .unset, .unset] [(.int (0 : Int32))])) _
        refine XS.istore X1809.here hx rfl (hb hby at_99) rfl (l' := #[iv p0, iv p1, iv p2, iv p3, rv b62, iv (1 : Int32), iv (2 : Int32), rv r_1793, iv (0 : Int32), .unset, .unset]) rfl ?_
        refine XS.iload X1809.here hx rfl (hb hby at_101) rfl ?_
        refine XS.istore X1809.here hx rfl (hb hby at_103) rfl (l' := #[iv p0, iv p1, iv p2, iv p3, rv b62, iv (1 : Int32), iv (2 : Int32), rv r_1793, iv (0 : Int32), iv (2 : Int32), .unset]) rfl ?_
        refine XS.iload X1809.here hx rfl (hb hby at_105) rfl ?_
        show Steps p.tables e below (T1809.setTop (mkF m 107 #[iv p0, iv p1, iv p2, iv p3, rv b62, iv (1 : Int32), iv (2 : Int32), rv r_1793, iv (0 : Int32), iv (2 : Int32), .unset] [(.int (0 : Int32))])) _
        refine XS.iconst X1809.here hx rfl (hb hby at_107) ?_
        refine XS.icmpYes X1809.here hx rfl (pc0 := 108) (pc' := 122) rfl (hb hby at_108) rfl (XT.ii_ne_t (by decide)) (by decide) (by decide) ?_
        refine XS.iload X1809.here hx rfl (hb hby at_122) rfl ?_
        refine XS.iconst X1809.here hx rfl (hb hby at_124) ?_
        show Steps p.tables e below (T1809.setTop (mkF m 125 #[iv p0, iv p1, iv p2, iv p3, rv b62, iv (1 : Int32), iv (2 : Int32), rv r_1793, iv (0 : Int32), iv (2 : Int32), .unset] [(.int (2 : Int32)), (.int (0 : Int32))])) _
        refine XS.icmpYes X1809.here hx rfl (pc0 := 125) (pc' := 140) rfl (hb hby at_125) rfl (XT.ii_ne_t (by decide)) (by decide) (by decide) ?_
        refine XS.iload X1809.here hx rfl (hb hby at_140) rfl ?_
        refine XS.iconst X1809.here hx rfl (hb hby at_142) ?_
        refine XS.icmpYes X1809.here hx rfl (pc0 := 143) (pc' := 198) rfl (hb hby at_143) rfl (XT.ii_ne_t (by decide)) (by decide) (by decide) ?_
        show Steps p.tables e below (T1809.setTop (mkF m 198 #[iv p0, iv p1, iv p2, iv p3, rv b62, iv (1 : Int32), iv (2 : Int32), rv r_1793, iv (0 : Int32), iv (2 : Int32), .unset] [])) _
        refine XS.iload X1809.here hx rfl (hb hby at_198) rfl ?_
        refine XS.ifNo X1809.here hx rfl (hb hby at_200) rfl (XT.i0_eq_f (by decide)) ?_
        refine XS.aload X1809.here hx rfl (hb hby at_203) rfl rfl ?_
        exact kt
      obtain ⟨cq1814, kq1814, q1814a, q1814b, q1814c⟩ := isOf hZ e1809 J1805_0
      obtain ⟨_, _, ⟨T1814, L1814, k1814, n1814⟩, -, X1814, ⟨Lc1814, hQ1814, l1814, y1814, z1814⟩, st1814⟩ := X1809.virtualBack hx (y := (⟨"com/example/homethread/homethread/Items", "isEmpty", "()Z"⟩ : MethodName)) (z := (⟨"com/example/homethread/homethread/Items", "isEmpty", "()Z"⟩ : MethodName)) hown (mvT hZ (W 13 rfl)) (mvT hZ (W 14 rfl)) (notFace_of_selects (args := #[]) (mvT hZ (W 16 rfl))) (mvT hZ (W 16 rfl)) (mvT hZ (W 15 rfl)) (by decide) (backOf (W := 0) (rm_isEmpty3_2 l Z a0 hw [] b62 h1805 n0 O1805 J1805_4) hZ (W 17 rfl) (W 2 rfl) (by decide) (by decide)) q1814a q1814c (g := (mkF m 205 #[iv p0, iv p1, iv p2, iv p3, rv b62, iv (1 : Int32), iv (2 : Int32), rv r_1793, iv (0 : Int32), iv (2 : Int32), .unset] [(.ref b62)])) rfl (by rw [hml]; rfl) (Steps.refl _) (argsL := []) (rest := []) (lenOf pd_12 rfl) rfl (by show 2 * 0 + _ ≤ _; exact Nat.le_of_eq rfl) (hb hby at_205) (fun _ _ => ⟨rfl, e1809, (by decide : 3 + 0 ≤ _), (by decide : 19 + 0 ≤ _)⟩)
      dsimp only [Pt.U, Pt.locs, Pt.cells, Pt.slots] at X1814 l1814 y1814 z1814 st1814 hQ1814
      replace l1814 := l1814.symm
      replace y1814 : 3 = k1814 := y1814.symm
      replace z1814 : 19 = n1814 := z1814.symm
      subst l1814 y1814 z1814
      obtain ⟨rfl, M1814, e1814⟩ := hQ1814
      have N1814 := Fr.app N1809 M1814
      have pre1815 : ∀ t, Steps p.tables e below (T1814.setTop (mkF m 208 #[iv p0, iv p1, iv p2, iv p3, rv b62, iv (1 : Int32), iv (2 : Int32), rv r_1793, iv (0 : Int32), iv (2 : Int32), .unset] [(.int (0 : Int32))])) t → Steps p.tables e below (s₁.setTop (entryFrame m #[(.int p0), (.int p1), (.int p2), (.int p3)] maxLocals)) t := fun t kt => pre1813 _ (st1814.trans kt)
      have pre1816 : ∀ t, Steps p.tables e below (T1814.setTop (mkF m 232 #[iv p0, iv p1, iv p2, iv p3, rv b62, iv (1 : Int32), iv (2 : Int32), rv r_1793, iv (0 : Int32), iv (2 : Int32), .unset] [(.ref r_1793), (.ref b62)])) t → Steps p.tables e below (s₁.setTop (entryFrame m #[(.int p0), (.int p1), (.int p2), (.int p3)] maxLocals)) t := fun t kt => by
        refine pre1815 _ ?_
        show Steps p.tables e below (T1814.setTop (mkF m 208 #[iv p0, iv p1, iv p2, iv p3, rv b62, iv (1 : Int32), iv (2 : Int32), rv r_1793, iv (0 : Int32), iv (2 : Int32), .unset] [(.int (0 : Int32))])) _
        refine XS.iload X1814.here hx rfl (hb hby at_208) rfl ?_
        refine XS.ifYes X1814.here hx rfl (pc0 := 210) (pc' := 217) rfl (hb hby at_210) rfl (XT.i0_ne_t (by decide)) (by decide) (by decide) ?_
        refine XS.iconst X1814.here hx rfl (hb hby at_217) ?_
        refine XS.icmpNo X1814.here hx rfl (hb hby at_218) rfl (XT.ii_ne_f (by decide)) ?_
        show Steps p.tables e below (T1814.setTop (mkF m 221 #[iv p0, iv p1, iv p2, iv p3, rv b62, iv (1 : Int32), iv (2 : Int32), rv r_1793, iv (0 : Int32), iv (2 : Int32), .unset] [])) _
        refine XS.iconst X1814.here hx rfl (hb hby at_221) ?_
        refine XS.goto X1814.here hx rfl (pc0 := 222) (pc' := 226) rfl (hb hby at_222) (by decide) (by decide) ?_
        refine XS.istore X1814.here hx rfl (hb hby at_226) rfl (l' := #[iv p0, iv p1, iv p2, iv p3, rv b62, iv (1 : Int32), iv (2 : Int32), rv r_1793, iv (0 : Int32), iv (2 : Int32), .unset]) rfl ?_
        refine XS.aload X1814.here hx rfl (hb hby at_228) rfl rfl ?_
        show Steps p.tables e below (T1814.setTop (mkF m 230 #[iv p0, iv p1, iv p2, iv p3, rv b62, iv (1 : Int32), iv (2 : Int32), rv r_1793, iv (0 : Int32), iv (2 : Int32), .unset] [(.ref b62)])) _
        refine XS.aload X1814.here hx rfl (hb hby at_230) rfl rfl ?_
        exact kt
      obtain ⟨cq1817, kq1817, q1817a, q1817b, q1817c⟩ := isOf hZ e1814 J1805_0
      obtain ⟨_, _, ⟨T1817, L1817, k1817, n1817⟩, -, X1817, ⟨Lc1817, hQ1817, l1817, y1817, z1817⟩, st1817⟩ := X1814.virtualBack hx (y := (⟨"com/example/homethread/homethread/Items", "add", "(Ljava/lang/Object;)V"⟩ : MethodName)) (z := (⟨"com/example/homethread/homethread/Items", "add", "(Ljava/lang/Object;)V"⟩ : MethodName)) hown (mvT hZ (W 34 rfl)) (mvT hZ (W 35 rfl)) (notFace_of_selects (args := #[]) (mvT hZ (W 37 rfl))) (mvT hZ (W 37 rfl)) (mvT hZ (W 36 rfl)) (by decide) (backOf (W := 0) (rm_add6_5 l Z a0 hw [] b62 r_1793 k109_68 b109_68 h1805 n0 O1805 g_b62 g_b109_68 J68_3 F1807 J1805_0 J1805_1 J1805_2 J1805_3 J1805_4 (fun q => ne_b62_b109_68 q.symm)) hZ (W 38 rfl) (W 2 rfl) (by decide) (by decide)) q1817a q1817c (g := (mkF m 232 #[iv p0, iv p1, iv p2, iv p3, rv b62, iv (1 : Int32), iv (2 : Int32), rv r_1793, iv (0 : Int32), iv (2 : Int32), .unset] [(.ref r_1793), (.ref b62)])) rfl (by rw [hml]; rfl) (Steps.refl _) (argsL := [(.ref r_1793)]) (rest := []) (lenOf pd_15 rfl) rfl (by show 2 * 0 + _ ≤ _; exact Nat.le_of_eq rfl) (hb hby at_232) (fun _ _ => ⟨rfl, e1814, (by decide : 3 + 0 ≤ _), (by decide : 19 + 0 ≤ _)⟩)
      dsimp only [Pt.U, Pt.locs, Pt.cells, Pt.slots] at X1817 l1817 y1817 z1817 st1817 hQ1817
      replace l1817 := l1817.symm
      replace y1817 : 3 = k1817 := y1817.symm
      replace z1817 : 19 = n1817 := z1817.symm
      subst l1817 y1817 z1817
      obtain ⟨rfl, M1817, Kc1817, O1817, J1817_0, J1817_1, J1817_2, J1817_3, J1817_4⟩ := hQ1817
      obtain ⟨h1817, e1817⟩ : ∃ z, T1817.heap = z := ⟨_, rfl⟩
      rw [e1817] at Kc1817 O1817 J1817_0 J1817_1 J1817_2 J1817_3 J1817_4
      have N1817 := Fr.app N1814 M1817
      have K1817 : Keep h0 h1817 [] := K1805.trans Kc1817 (own_all2 (Or.inr sz_b62) (Or.inr sz_b109_68))
      have pre1923 : ∀ t, Steps p.tables e below (T1817.setTop (mkF m 235 #[iv p0, iv p1, iv p2, iv p3, rv b62, iv (1 : Int32), iv (2 : Int32), rv r_1793, iv (0 : Int32), iv (2 : Int32), .unset] [])) t → Steps p.tables e below (s₁.setTop (entryFrame m #[(.int p0), (.int p1), (.int p2), (.int p3)] maxLocals)) t := fun t kt => pre1816 _ (st1817.trans kt)
      have F1924 := F1807.keep Kc1817
      have pre1925 : ∀ t, Steps p.tables e below (T1817.setTop (mkF m 242 #[iv p0, iv p1, iv p2, iv p3, rv b62, iv (1 : Int32), iv (2 : Int32), rv r_1793, iv (0 : Int32), iv (2 : Int32), .unset] [(.ref b62)])) t → Steps p.tables e below (s₁.setTop (entryFrame m #[(.int p0), (.int p1), (.int p2), (.int p3)] maxLocals)) t := fun t kt => by
        refine pre1923 _ ?_
        show Steps p.tables e below (T1817.setTop (mkF m 235 #[iv p0, iv p1, iv p2, iv p3, rv b62, iv (1 : Int32), iv (2 : Int32), rv r_1793, iv (0 : Int32), iv (2 : Int32), .unset] [])) _
        refine XS.iload X1817.here hx rfl (hb hby at_235) rfl ?_
        refine XS.ifNo X1817.here hx rfl (hb hby at_237) rfl (XT.i0_eq_f (by decide)) ?_
        refine XS.aload X1817.here hx rfl (hb hby at_240) rfl rfl ?_
        exact kt
      obtain ⟨cq1926, kq1926, q1926a, q1926b, q1926c⟩ := isOf hZ e1817 J1817_0
      obtain ⟨_, _, ⟨T1926, L1926, k1926, n1926⟩, -, X1926, ⟨Lc1926, hQ1926, l1926, y1926, z1926⟩, st1926⟩ := X1817.virtualBack hx (y := (⟨"com/example/homethread/homethread/Items", "isEmpty", "()Z"⟩ : MethodName)) (z := (⟨"com/example/homethread/homethread/Items", "isEmpty", "()Z"⟩ : MethodName)) hown (mvT hZ (W 13 rfl)) (mvT hZ (W 14 rfl)) (notFace_of_selects (args := #[]) (mvT hZ (W 16 rfl))) (mvT hZ (W 16 rfl)) (mvT hZ (W 15 rfl)) (by decide) (backOf (W := 0) (rm_isEmpty3_3 l Z a0 hw [] b62 h1817 n0 O1817 J1817_4) hZ (W 17 rfl) (W 2 rfl) (by decide) (by decide)) q1926a q1926c (g := (mkF m 242 #[iv p0, iv p1, iv p2, iv p3, rv b62, iv (1 : Int32), iv (2 : Int32), rv r_1793, iv (0 : Int32), iv (2 : Int32), .unset] [(.ref b62)])) rfl (by rw [hml]; rfl) (Steps.refl _) (argsL := []) (rest := []) (lenOf pd_12 rfl) rfl (by show 2 * 0 + _ ≤ _; exact Nat.le_of_eq rfl) (hb hby at_242) (fun _ _ => ⟨rfl, e1817, (by decide : 3 + 0 ≤ _), (by decide : 19 + 0 ≤ _)⟩)
      dsimp only [Pt.U, Pt.locs, Pt.cells, Pt.slots] at X1926 l1926 y1926 z1926 st1926 hQ1926
      replace l1926 := l1926.symm
      replace y1926 : 3 = k1926 := y1926.symm
      replace z1926 : 19 = n1926 := z1926.symm
      subst l1926 y1926 z1926
      obtain ⟨rfl, M1926, e1926⟩ := hQ1926
      have N1926 := Fr.app N1817 M1926
      have pre1939 : ∀ t, Steps p.tables e below (T1926.setTop (mkF m 245 #[iv p0, iv p1, iv p2, iv p3, rv b62, iv (1 : Int32), iv (2 : Int32), rv r_1793, iv (0 : Int32), iv (2 : Int32), .unset] [(.int (0 : Int32))])) t → Steps p.tables e below (s₁.setTop (entryFrame m #[(.int p0), (.int p1), (.int p2), (.int p3)] maxLocals)) t := fun t kt => pre1925 _ (st1926.trans kt)
      have pre1940 : ∀ t, Steps p.tables e below (T1926.setTop (mkF m 257 #[iv p0, iv p1, iv p2, iv p3, rv b62, iv (1 : Int32), iv (2 : Int32), rv r_1793, iv (0 : Int32), iv (2 : Int32), .unset] [(.int (1 : Int32))])) t → Steps p.tables e below (s₁.setTop (entryFrame m #[(.int p0), (.int p1), (.int p2), (.int p3)] maxLocals)) t := fun t kt => by
        refine pre1939 _ ?_
        show Steps p.tables e below (T1926.setTop (mkF m 245 #[iv p0, iv p1, iv p2, iv p3, rv b62, iv (1 : Int32), iv (2 : Int32), rv r_1793, iv (0 : Int32), iv (2 : Int32), .unset] [(.int (0 : Int32))])) _
        refine XS.ifNo X1926.here hx rfl (hb hby at_245) rfl (XT.i0_ne_f (by decide)) ?_
        refine XS.iconst X1926.here hx rfl (hb hby at_248) ?_
        refine XS.goto X1926.here hx rfl (pc0 := 249) (pc' := 253) rfl (hb hby at_249) (by decide) (by decide) ?_
        refine XS.istore X1926.here hx rfl (hb hby at_253) rfl (l' := #[iv p0, iv p1, iv p2, iv p3, rv b62, iv (1 : Int32), iv (2 : Int32), rv r_1793, iv (0 : Int32), iv (2 : Int32), .unset]) rfl ?_
        show Steps p.tables e below (T1926.setTop (mkF m 255 #[iv p0, iv p1, iv p2, iv p3, rv b62, iv (1 : Int32), iv (2 : Int32), rv r_1793, iv (0 : Int32), iv (2 : Int32), .unset] [])) _
        refine XS.iload X1926.here hx rfl (hb hby at_255) rfl ?_
        exact kt
      obtain ⟨fs, hr, hrun, hended, hW, hsame⟩ := X1926.leave (v := some (.int (1 : Int32))) (fun h => by rw [Bd.returns] at h; cases h)
      refine ⟨_, _, pre1940 _ (retN X1926 hx (t := .boolean) Bd.returns (by simp) (hb hby at_257) hr), hrun, hended, _, _, rfl, ?_, ⟨_, rfl⟩, hW, hsame.mono (by decide) (by decide)⟩
      show Q_law Z p0 p1 p2 p3 ac mr a_NO_SLOTS kn h0 n0 _ T1926.heap _
      rw [e1926]
      exact ⟨rfl, N1926⟩
    · rw [hv1812] at pre1811
      have pre1941 : ∀ t, Steps p.tables e below (T1809.setTop (mkF m 113 #[iv p0, iv p1, iv p2, iv p3, rv b62, iv (1 : Int32), iv (2 : Int32), rv r_1793, iv (1 : Int32), iv (2 : Int32), .unset] [(.ref b62)])) t → Steps p.tables e below (s₁.setTop (entryFrame m #[(.int p0), (.int p1), (.int p2), (.int p3)] maxLocals)) t := fun t kt => by
        refine pre1811 _ ?_
        show Steps p.tables e below (T1809.setTop (mkF m 99 #[iv p0, iv p1, iv p2, iv p3, rv b62, iv (1 : Int32), iv (2 : Int32), rv r_1793, .unset, .unset, .unset] [(.int (1 : Int32))])) _
        refine XS.istore X1809.here hx rfl (hb hby at_99) rfl (l' := #[iv p0, iv p1, iv p2, iv p3, rv b62, iv (1 : Int32), iv (2 : Int32), rv r_1793, iv (1 : Int32), .unset, .unset]) rfl ?_
        refine XS.iload X1809.here hx rfl (hb hby at_101) rfl ?_
        refine XS.istore X1809.here hx rfl (hb hby at_103) rfl (l' := #[iv p0, iv p1, iv p2, iv p3, rv b62, iv (1 : Int32), iv (2 : Int32), rv r_1793, iv (1 : Int32), iv (2 : Int32), .unset]) rfl ?_
        refine XS.iload X1809.here hx rfl (hb hby at_105) rfl ?_
        show Steps p.tables e below (T1809.setTop (mkF m 107 #[iv p0, iv p1, iv p2, iv p3, rv b62, iv (1 : Int32), iv (2 : Int32), rv r_1793, iv (1 : Int32), iv (2 : Int32), .unset] [(.int (1 : Int32))])) _
        refine XS.iconst X1809.here hx rfl (hb hby at_107) ?_
        refine XS.icmpNo X1809.here hx rfl (hb hby at_108) rfl (XT.ii_ne_f (by decide)) ?_
        refine XS.aload X1809.here hx rfl (hb hby at_111) rfl rfl ?_
        exact kt
      obtain ⟨cq1942, kq1942, q1942a, q1942b, q1942c⟩ := isOf hZ e1809 J1805_0
      obtain ⟨_, _, ⟨T1942, L1942, k1942, n1942⟩, -, X1942, ⟨Lc1942, hQ1942, l1942, y1942, z1942⟩, st1942⟩ := X1809.virtualBack hx (y := (⟨"com/example/homethread/homethread/Items", "clear", "()V"⟩ : MethodName)) (z := (⟨"com/example/homethread/homethread/Items", "clear", "()V"⟩ : MethodName)) hown (mvT hZ (W 87 rfl)) (mvT hZ (W 88 rfl)) (notFace_of_selects (args := #[]) (mvT hZ (W 90 rfl))) (mvT hZ (W 90 rfl)) (mvT hZ (W 89 rfl)) (by decide) (backOf (W := 0) (rm_clear14_2 l Z a0 hw [] b62 b109_68 h1805 n0 O1805 g_b62 J1805_0 J1805_2 J1805_4) hZ (W 91 rfl) (W 2 rfl) (by decide) (by decide)) q1942a q1942c (g := (mkF m 113 #[iv p0, iv p1, iv p2, iv p3, rv b62, iv (1 : Int32), iv (2 : Int32), rv r_1793, iv (1 : Int32), iv (2 : Int32), .unset] [(.ref b62)])) rfl (by rw [hml]; rfl) (Steps.refl _) (argsL := []) (rest := []) (lenOf pd_4 rfl) rfl (by show 2 * 0 + _ ≤ _; exact Nat.le_of_eq rfl) (hb hby at_113) (fun _ _ => ⟨rfl, e1809, (by decide : 3 + 0 ≤ _), (by decide : 19 + 0 ≤ _)⟩)
      dsimp only [Pt.U, Pt.locs, Pt.cells, Pt.slots] at X1942 l1942 y1942 z1942 st1942 hQ1942
      replace l1942 := l1942.symm
      replace y1942 : 3 = k1942 := y1942.symm
      replace z1942 : 19 = n1942 := z1942.symm
      subst l1942 y1942 z1942
      obtain ⟨rfl, M1942, Kc1942, O1942, J1942_0, J1942_1, J1942_2⟩ := hQ1942
      obtain ⟨h1942, e1942⟩ : ∃ z, T1942.heap = z := ⟨_, rfl⟩
      rw [e1942] at Kc1942 O1942 J1942_0 J1942_1 J1942_2
      have N1942 := Fr.app N1809 M1942
      have K1942 : Keep h0 h1942 [] := K1805.trans Kc1942 (own_all1 (Or.inr sz_b62))
      have pre1970 : ∀ t, Steps p.tables e below (T1942.setTop (mkF m 116 #[iv p0, iv p1, iv p2, iv p3, rv b62, iv (1 : Int32), iv (2 : Int32), rv r_1793, iv (1 : Int32), iv (2 : Int32), .unset] [])) t → Steps p.tables e below (s₁.setTop (entryFrame m #[(.int p0), (.int p1), (.int p2), (.int p3)] maxLocals)) t := fun t kt => pre1941 _ (st1942.trans kt)
      have F1971 := F1807.keep Kc1942
      have F1972 := J1805_1.keep Kc1942
      have F1973 := J1805_3.keep Kc1942 (own_nm1 (fun q => ne_b62_b109_68 q.symm))
      have pre1974 : ∀ t, Steps p.tables e below (T1942.setTop (mkF m 205 #[iv p0, iv p1, iv p2, iv p3, rv b62, iv (1 : Int32), iv (2 : Int32), rv r_1793, iv (1 : Int32), iv (0 : Int32), .unset] [(.ref b62)])) t → Steps p.tables e below (s₁.setTop (entryFrame m #[(.int p0), (.int p1), (.int p2), (.int p3)] maxLocals)) t := fun t kt => by
        refine pre1970 _ ?_
        show Steps p.tables e below (T1942.setTop (mkF m 116 #[iv p0, iv p1, iv p2, iv p3, rv b62, iv (1 : Int32), iv (2 : Int32), rv r_1793, iv (1 : Int32), iv (2 : Int32), .unset] [])) _
        refine XS.iconst X1942.here hx rfl (hb hby at_116) ?_
        refine XS.istore X1942.here hx rfl (hb hby at_117) rfl (l' := #[iv p0, iv p1, iv p2, iv p3, rv b62, iv (1 : Int32), iv (2 : Int32), rv r_1793, iv (1 : Int32), iv (0 : Int32), .unset]) rfl ?_
        refine XS.goto X1942.here hx rfl (pc0 := 119) (pc' := 198) rfl (hb hby at_119) (by decide) (by decide) ?_
        refine XS.iload X1942.here hx rfl (hb hby at_198) rfl ?_
        show Steps p.tables e below (T1942.setTop (mkF m 200 #[iv p0, iv p1, iv p2, iv p3, rv b62, iv (1 : Int32), iv (2 : Int32), rv r_1793, iv (1 : Int32), iv (0 : Int32), .unset] [(.int (1 : Int32))])) _
        refine XS.ifNo X1942.here hx rfl (hb hby at_200) rfl (XT.i0_eq_f (by decide)) ?_
        refine XS.aload X1942.here hx rfl (hb hby at_203) rfl rfl ?_
        exact kt
      obtain ⟨cq1975, kq1975, q1975a, q1975b, q1975c⟩ := isOf hZ e1942 J1942_0
      obtain ⟨_, _, ⟨T1975, L1975, k1975, n1975⟩, -, X1975, ⟨Lc1975, hQ1975, l1975, y1975, z1975⟩, st1975⟩ := X1942.virtualBack hx (y := (⟨"com/example/homethread/homethread/Items", "isEmpty", "()Z"⟩ : MethodName)) (z := (⟨"com/example/homethread/homethread/Items", "isEmpty", "()Z"⟩ : MethodName)) hown (mvT hZ (W 13 rfl)) (mvT hZ (W 14 rfl)) (notFace_of_selects (args := #[]) (mvT hZ (W 16 rfl))) (mvT hZ (W 16 rfl)) (mvT hZ (W 15 rfl)) (by decide) (backOf (W := 0) (rm_isEmpty3_0 l Z a0 hw [] b62 h1942 n0 O1942 J1942_2) hZ (W 17 rfl) (W 2 rfl) (by decide) (by decide)) q1975a q1975c (g := (mkF m 205 #[iv p0, iv p1, iv p2, iv p3, rv b62, iv (1 : Int32), iv (2 : Int32), rv r_1793, iv (1 : Int32), iv (0 : Int32), .unset] [(.ref b62)])) rfl (by rw [hml]; rfl) (Steps.refl _) (argsL := []) (rest := []) (lenOf pd_12 rfl) rfl (by show 2 * 0 + _ ≤ _; exact Nat.le_of_eq rfl) (hb hby at_205) (fun _ _ => ⟨rfl, e1942, (by decide : 3 + 0 ≤ _), (by decide : 19 + 0 ≤ _)⟩)
      dsimp only [Pt.U, Pt.locs, Pt.cells, Pt.slots] at X1975 l1975 y1975 z1975 st1975 hQ1975
      replace l1975 := l1975.symm
      replace y1975 : 3 = k1975 := y1975.symm
      replace z1975 : 19 = n1975 := z1975.symm
      subst l1975 y1975 z1975
      obtain ⟨rfl, M1975, e1975⟩ := hQ1975
      have N1975 := Fr.app N1942 M1975
      have pre1976 : ∀ t, Steps p.tables e below (T1975.setTop (mkF m 208 #[iv p0, iv p1, iv p2, iv p3, rv b62, iv (1 : Int32), iv (2 : Int32), rv r_1793, iv (1 : Int32), iv (0 : Int32), .unset] [(.int (1 : Int32))])) t → Steps p.tables e below (s₁.setTop (entryFrame m #[(.int p0), (.int p1), (.int p2), (.int p3)] maxLocals)) t := fun t kt => pre1974 _ (st1975.trans kt)
      have pre1977 : ∀ t, Steps p.tables e below (T1975.setTop (mkF m 232 #[iv p0, iv p1, iv p2, iv p3, rv b62, iv (1 : Int32), iv (2 : Int32), rv r_1793, iv (1 : Int32), iv (0 : Int32), .unset] [(.ref r_1793), (.ref b62)])) t → Steps p.tables e below (s₁.setTop (entryFrame m #[(.int p0), (.int p1), (.int p2), (.int p3)] maxLocals)) t := fun t kt => by
        refine pre1976 _ ?_
        show Steps p.tables e below (T1975.setTop (mkF m 208 #[iv p0, iv p1, iv p2, iv p3, rv b62, iv (1 : Int32), iv (2 : Int32), rv r_1793, iv (1 : Int32), iv (0 : Int32), .unset] [(.int (1 : Int32))])) _
        refine XS.iload X1975.here hx rfl (hb hby at_208) rfl ?_
        refine XS.ifNo X1975.here hx rfl (hb hby at_210) rfl (XT.i0_ne_f (by decide)) ?_
        refine XS.iconst X1975.here hx rfl (hb hby at_213) ?_
        refine XS.goto X1975.here hx rfl (pc0 := 214) (pc' := 218) rfl (hb hby at_214) (by decide) (by decide) ?_
        show Steps p.tables e below (T1975.setTop (mkF m 218 #[iv p0, iv p1, iv p2, iv p3, rv b62, iv (1 : Int32), iv (2 : Int32), rv r_1793, iv (1 : Int32), iv (0 : Int32), .unset] [(.int (1 : Int32)), (.int (1 : Int32))])) _
        refine XS.icmpNo X1975.here hx rfl (hb hby at_218) rfl (XT.ii_ne_f (by decide)) ?_
        refine XS.iconst X1975.here hx rfl (hb hby at_221) ?_
        refine XS.goto X1975.here hx rfl (pc0 := 222) (pc' := 226) rfl (hb hby at_222) (by decide) (by decide) ?_
        refine XS.istore X1975.here hx rfl (hb hby at_226) rfl (l' := #[iv p0, iv p1, iv p2, iv p3, rv b62, iv (1 : Int32), iv (2 : Int32), rv r_1793, iv (1 : Int32), iv (0 : Int32), .unset]) rfl ?_
        show Steps p.tables e below (T1975.setTop (mkF m 228 #[iv p0, iv p1, iv p2, iv p3, rv b62, iv (1 : Int32), iv (2 : Int32), rv r_1793, iv (1 : Int32), iv (0 : Int32), .unset] [])) _
        refine XS.aload X1975.here hx rfl (hb hby at_228) rfl rfl ?_
        refine XS.aload X1975.here hx rfl (hb hby at_230) rfl rfl ?_
        exact kt
      obtain ⟨cq1978, kq1978, q1978a, q1978b, q1978c⟩ := isOf hZ e1975 J1942_0
      obtain ⟨_, _, ⟨T1978, L1978, k1978, n1978⟩, -, X1978, ⟨Lc1978, hQ1978, l1978, y1978, z1978⟩, st1978⟩ := X1975.virtualBack hx (y := (⟨"com/example/homethread/homethread/Items", "add", "(Ljava/lang/Object;)V"⟩ : MethodName)) (z := (⟨"com/example/homethread/homethread/Items", "add", "(Ljava/lang/Object;)V"⟩ : MethodName)) hown (mvT hZ (W 34 rfl)) (mvT hZ (W 35 rfl)) (notFace_of_selects (args := #[]) (mvT hZ (W 37 rfl))) (mvT hZ (W 37 rfl)) (mvT hZ (W 36 rfl)) (by decide) (backOf (W := 0) (rm_add6_6 l Z a0 hw [] b62 r_1793 k109_68 b109_68 h1942 n0 O1942 g_b109_68 g_b62 J68_3 F1971 F1972 F1973 J1942_0 J1942_1 J1942_2 (fun q => ne_b62_b109_68 q.symm)) hZ (W 38 rfl) (W 2 rfl) (by decide) (by decide)) q1978a q1978c (g := (mkF m 232 #[iv p0, iv p1, iv p2, iv p3, rv b62, iv (1 : Int32), iv (2 : Int32), rv r_1793, iv (1 : Int32), iv (0 : Int32), .unset] [(.ref r_1793), (.ref b62)])) rfl (by rw [hml]; rfl) (Steps.refl _) (argsL := [(.ref r_1793)]) (rest := []) (lenOf pd_15 rfl) rfl (by show 2 * 0 + _ ≤ _; exact Nat.le_of_eq rfl) (hb hby at_232) (fun _ _ => ⟨rfl, e1975, (by decide : 3 + 0 ≤ _), (by decide : 19 + 0 ≤ _)⟩)
      dsimp only [Pt.U, Pt.locs, Pt.cells, Pt.slots] at X1978 l1978 y1978 z1978 st1978 hQ1978
      replace l1978 := l1978.symm
      replace y1978 : 3 = k1978 := y1978.symm
      replace z1978 : 19 = n1978 := z1978.symm
      subst l1978 y1978 z1978
      obtain ⟨rfl, M1978, Kc1978, O1978, J1978_0, J1978_1, J1978_2, J1978_3, J1978_4⟩ := hQ1978
      obtain ⟨h1978, e1978⟩ : ∃ z, T1978.heap = z := ⟨_, rfl⟩
      rw [e1978] at Kc1978 O1978 J1978_0 J1978_1 J1978_2 J1978_3 J1978_4
      have N1978 := Fr.app N1975 M1978
      have K1978 : Keep h0 h1978 [] := K1942.trans Kc1978 (own_all2 (Or.inr sz_b109_68) (Or.inr sz_b62))
      have pre2084 : ∀ t, Steps p.tables e below (T1978.setTop (mkF m 235 #[iv p0, iv p1, iv p2, iv p3, rv b62, iv (1 : Int32), iv (2 : Int32), rv r_1793, iv (1 : Int32), iv (0 : Int32), .unset] [])) t → Steps p.tables e below (s₁.setTop (entryFrame m #[(.int p0), (.int p1), (.int p2), (.int p3)] maxLocals)) t := fun t kt => pre1977 _ (st1978.trans kt)
      have F2085 := F1971.keep Kc1978
      have pre2086 : ∀ t, Steps p.tables e below (T1978.setTop (mkF m 242 #[iv p0, iv p1, iv p2, iv p3, rv b62, iv (1 : Int32), iv (2 : Int32), rv r_1793, iv (1 : Int32), iv (0 : Int32), .unset] [(.ref b62)])) t → Steps p.tables e below (s₁.setTop (entryFrame m #[(.int p0), (.int p1), (.int p2), (.int p3)] maxLocals)) t := fun t kt => by
        refine pre2084 _ ?_
        show Steps p.tables e below (T1978.setTop (mkF m 235 #[iv p0, iv p1, iv p2, iv p3, rv b62, iv (1 : Int32), iv (2 : Int32), rv r_1793, iv (1 : Int32), iv (0 : Int32), .unset] [])) _
        refine XS.iload X1978.here hx rfl (hb hby at_235) rfl ?_
        refine XS.ifNo X1978.here hx rfl (hb hby at_237) rfl (XT.i0_eq_f (by decide)) ?_
        refine XS.aload X1978.here hx rfl (hb hby at_240) rfl rfl ?_
        exact kt
      obtain ⟨cq2087, kq2087, q2087a, q2087b, q2087c⟩ := isOf hZ e1978 J1978_1
      obtain ⟨_, _, ⟨T2087, L2087, k2087, n2087⟩, -, X2087, ⟨Lc2087, hQ2087, l2087, y2087, z2087⟩, st2087⟩ := X1978.virtualBack hx (y := (⟨"com/example/homethread/homethread/Items", "isEmpty", "()Z"⟩ : MethodName)) (z := (⟨"com/example/homethread/homethread/Items", "isEmpty", "()Z"⟩ : MethodName)) hown (mvT hZ (W 13 rfl)) (mvT hZ (W 14 rfl)) (notFace_of_selects (args := #[]) (mvT hZ (W 16 rfl))) (mvT hZ (W 16 rfl)) (mvT hZ (W 15 rfl)) (by decide) (backOf (W := 0) (rm_isEmpty3_1 l Z a0 hw [] b62 h1978 n0 O1978 J1978_4) hZ (W 17 rfl) (W 2 rfl) (by decide) (by decide)) q2087a q2087c (g := (mkF m 242 #[iv p0, iv p1, iv p2, iv p3, rv b62, iv (1 : Int32), iv (2 : Int32), rv r_1793, iv (1 : Int32), iv (0 : Int32), .unset] [(.ref b62)])) rfl (by rw [hml]; rfl) (Steps.refl _) (argsL := []) (rest := []) (lenOf pd_12 rfl) rfl (by show 2 * 0 + _ ≤ _; exact Nat.le_of_eq rfl) (hb hby at_242) (fun _ _ => ⟨rfl, e1978, (by decide : 3 + 0 ≤ _), (by decide : 19 + 0 ≤ _)⟩)
      dsimp only [Pt.U, Pt.locs, Pt.cells, Pt.slots] at X2087 l2087 y2087 z2087 st2087 hQ2087
      replace l2087 := l2087.symm
      replace y2087 : 3 = k2087 := y2087.symm
      replace z2087 : 19 = n2087 := z2087.symm
      subst l2087 y2087 z2087
      obtain ⟨rfl, M2087, e2087⟩ := hQ2087
      have N2087 := Fr.app N1978 M2087
      have pre2088 : ∀ t, Steps p.tables e below (T2087.setTop (mkF m 245 #[iv p0, iv p1, iv p2, iv p3, rv b62, iv (1 : Int32), iv (2 : Int32), rv r_1793, iv (1 : Int32), iv (0 : Int32), .unset] [(.int (0 : Int32))])) t → Steps p.tables e below (s₁.setTop (entryFrame m #[(.int p0), (.int p1), (.int p2), (.int p3)] maxLocals)) t := fun t kt => pre2086 _ (st2087.trans kt)
      have pre2089 : ∀ t, Steps p.tables e below (T2087.setTop (mkF m 257 #[iv p0, iv p1, iv p2, iv p3, rv b62, iv (1 : Int32), iv (2 : Int32), rv r_1793, iv (1 : Int32), iv (0 : Int32), .unset] [(.int (1 : Int32))])) t → Steps p.tables e below (s₁.setTop (entryFrame m #[(.int p0), (.int p1), (.int p2), (.int p3)] maxLocals)) t := fun t kt => by
        refine pre2088 _ ?_
        show Steps p.tables e below (T2087.setTop (mkF m 245 #[iv p0, iv p1, iv p2, iv p3, rv b62, iv (1 : Int32), iv (2 : Int32), rv r_1793, iv (1 : Int32), iv (0 : Int32), .unset] [(.int (0 : Int32))])) _
        refine XS.ifNo X2087.here hx rfl (hb hby at_245) rfl (XT.i0_ne_f (by decide)) ?_
        refine XS.iconst X2087.here hx rfl (hb hby at_248) ?_
        refine XS.goto X2087.here hx rfl (pc0 := 249) (pc' := 253) rfl (hb hby at_249) (by decide) (by decide) ?_
        refine XS.istore X2087.here hx rfl (hb hby at_253) rfl (l' := #[iv p0, iv p1, iv p2, iv p3, rv b62, iv (1 : Int32), iv (2 : Int32), rv r_1793, iv (1 : Int32), iv (0 : Int32), .unset]) rfl ?_
        show Steps p.tables e below (T2087.setTop (mkF m 255 #[iv p0, iv p1, iv p2, iv p3, rv b62, iv (1 : Int32), iv (2 : Int32), rv r_1793, iv (1 : Int32), iv (0 : Int32), .unset] [])) _
        refine XS.iload X2087.here hx rfl (hb hby at_255) rfl ?_
        exact kt
      obtain ⟨fs, hr, hrun, hended, hW, hsame⟩ := X2087.leave (v := some (.int (1 : Int32))) (fun h => by rw [Bd.returns] at h; cases h)
      refine ⟨_, _, pre2089 _ (retN X2087 hx (t := .boolean) Bd.returns (by simp) (hb hby at_257) hr), hrun, hended, _, _, rfl, ?_, ⟨_, rfl⟩, hW, hsame.mono (by decide) (by decide)⟩
      show Q_law Z p0 p1 p2 p3 ac mr a_NO_SLOTS kn h0 n0 _ T2087.heap _
      rw [e2087]
      exact ⟨rfl, N2087⟩
    · rw [hv1812] at pre1811
      have pre2090 : ∀ t, Steps p.tables e below (T1809.setTop (mkF m 131 #[iv p0, iv p1, iv p2, iv p3, rv b62, iv (1 : Int32), iv (2 : Int32), rv r_1793, iv (2 : Int32), iv (2 : Int32), .unset] [(.int p3), (.ref b62)])) t → Steps p.tables e below (s₁.setTop (entryFrame m #[(.int p0), (.int p1), (.int p2), (.int p3)] maxLocals)) t := fun t kt => by
        refine pre1811 _ ?_
        show Steps p.tables e below (T1809.setTop (mkF m 99 #[iv p0, iv p1, iv p2, iv p3, rv b62, iv (1 : Int32), iv (2 : Int32), rv r_1793, .unset, .unset, .unset] [(.int (2 : Int32))])) _
        refine XS.istore X1809.here hx rfl (hb hby at_99) rfl (l' := #[iv p0, iv p1, iv p2, iv p3, rv b62, iv (1 : Int32), iv (2 : Int32), rv r_1793, iv (2 : Int32), .unset, .unset]) rfl ?_
        refine XS.iload X1809.here hx rfl (hb hby at_101) rfl ?_
        refine XS.istore X1809.here hx rfl (hb hby at_103) rfl (l' := #[iv p0, iv p1, iv p2, iv p3, rv b62, iv (1 : Int32), iv (2 : Int32), rv r_1793, iv (2 : Int32), iv (2 : Int32), .unset]) rfl ?_
        refine XS.iload X1809.here hx rfl (hb hby at_105) rfl ?_
        show Steps p.tables e below (T1809.setTop (mkF m 107 #[iv p0, iv p1, iv p2, iv p3, rv b62, iv (1 : Int32), iv (2 : Int32), rv r_1793, iv (2 : Int32), iv (2 : Int32), .unset] [(.int (2 : Int32))])) _
        refine XS.iconst X1809.here hx rfl (hb hby at_107) ?_
        refine XS.icmpYes X1809.here hx rfl (pc0 := 108) (pc' := 122) rfl (hb hby at_108) rfl (XT.ii_ne_t (by decide)) (by decide) (by decide) ?_
        refine XS.iload X1809.here hx rfl (hb hby at_122) rfl ?_
        refine XS.iconst X1809.here hx rfl (hb hby at_124) ?_
        show Steps p.tables e below (T1809.setTop (mkF m 125 #[iv p0, iv p1, iv p2, iv p3, rv b62, iv (1 : Int32), iv (2 : Int32), rv r_1793, iv (2 : Int32), iv (2 : Int32), .unset] [(.int (2 : Int32)), (.int (2 : Int32))])) _
        refine XS.icmpNo X1809.here hx rfl (hb hby at_125) rfl (XT.ii_ne_f (by decide)) ?_
        refine XS.aload X1809.here hx rfl (hb hby at_128) rfl rfl ?_
        refine XS.iloadN X1809.here hx rfl (hb hby at_130) rfl ?_
        exact kt
      by_cases hc2096 : p3 < (16 : Int32)
      · obtain ⟨cq2097, kq2097, q2097a, q2097b, q2097c⟩ := isOf hZ e1809 J1805_0
        obtain ⟨_, _, ⟨T2097, L2097, k2097, n2097⟩, -, X2097, ⟨Lc2097, hQ2097, l2097, y2097, z2097⟩, st2097⟩ := X1809.virtualBack hx (y := (⟨"com/example/homethread/homethread/Items", "clearAndTrim", "(I)V"⟩ : MethodName)) (z := (⟨"com/example/homethread/homethread/Items", "clearAndTrim", "(I)V"⟩ : MethodName)) hown (mvT hZ (W 27 rfl)) (mvT hZ (W 28 rfl)) (notFace_of_selects (args := #[]) (mvT hZ (W 30 rfl))) (mvT hZ (W 30 rfl)) (mvT hZ (W 29 rfl)) (by decide) (backOf (W := 0) (rm_clearAndTrim5_7 l Z a0 hw [] b62 p3 a_NO_SLOTS k109_68 r_1793 b109_68 h1805 n0 O1805 G4 g_b62 J1805_0 J1805_2 J1805_3 J1805_4 (fun q => ne_b62_b109_68 q.symm) hc2096) hZ (W 31 rfl) (W 2 rfl) (by decide) (by decide)) q2097a q2097c (g := (mkF m 131 #[iv p0, iv p1, iv p2, iv p3, rv b62, iv (1 : Int32), iv (2 : Int32), rv r_1793, iv (2 : Int32), iv (2 : Int32), .unset] [(.int p3), (.ref b62)])) rfl (by rw [hml]; rfl) (Steps.refl _) (argsL := [(.int p3)]) (rest := []) (lenOf pd_6 rfl) rfl (by show 2 * 0 + _ ≤ _; exact Nat.le_of_eq rfl) (hb hby at_131) (fun _ _ => ⟨rfl, e1809, (by decide : 3 + 0 ≤ _), (by decide : 19 + 0 ≤ _)⟩)
        dsimp only [Pt.U, Pt.locs, Pt.cells, Pt.slots] at X2097 l2097 y2097 z2097 st2097 hQ2097
        replace l2097 := l2097.symm
        replace y2097 : 3 = k2097 := y2097.symm
        replace z2097 : 19 = n2097 := z2097.symm
        subst l2097 y2097 z2097
        obtain ⟨rfl, M2097, Kc2097, O2097, J2097_0, J2097_1, J2097_2⟩ := hQ2097
        obtain ⟨h2097, e2097⟩ : ∃ z, T2097.heap = z := ⟨_, rfl⟩
        rw [e2097] at Kc2097 O2097 J2097_0 J2097_1 J2097_2
        have N2097 := Fr.app N1809 M2097
        have K2097 : Keep h0 h2097 [] := K1805.trans Kc2097 (own_all1 (Or.inr sz_b62))
        have pre2162 : ∀ t, Steps p.tables e below (T2097.setTop (mkF m 134 #[iv p0, iv p1, iv p2, iv p3, rv b62, iv (1 : Int32), iv (2 : Int32), rv r_1793, iv (2 : Int32), iv (2 : Int32), .unset] [])) t → Steps p.tables e below (s₁.setTop (entryFrame m #[(.int p0), (.int p1), (.int p2), (.int p3)] maxLocals)) t := fun t kt => pre2090 _ (st2097.trans kt)
        have F2163 := F1807.keep Kc2097
        have F2164 := J1805_1.keep Kc2097
        have F2165 := J1805_3.keep Kc2097 (own_nm1 (fun q => ne_b62_b109_68 q.symm))
        have pre2166 : ∀ t, Steps p.tables e below (T2097.setTop (mkF m 205 #[iv p0, iv p1, iv p2, iv p3, rv b62, iv (1 : Int32), iv (2 : Int32), rv r_1793, iv (2 : Int32), iv (0 : Int32), .unset] [(.ref b62)])) t → Steps p.tables e below (s₁.setTop (entryFrame m #[(.int p0), (.int p1), (.int p2), (.int p3)] maxLocals)) t := fun t kt => by
          refine pre2162 _ ?_
          show Steps p.tables e below (T2097.setTop (mkF m 134 #[iv p0, iv p1, iv p2, iv p3, rv b62, iv (1 : Int32), iv (2 : Int32), rv r_1793, iv (2 : Int32), iv (2 : Int32), .unset] [])) _
          refine XS.iconst X2097.here hx rfl (hb hby at_134) ?_
          refine XS.istore X2097.here hx rfl (hb hby at_135) rfl (l' := #[iv p0, iv p1, iv p2, iv p3, rv b62, iv (1 : Int32), iv (2 : Int32), rv r_1793, iv (2 : Int32), iv (0 : Int32), .unset]) rfl ?_
          refine XS.goto X2097.here hx rfl (pc0 := 137) (pc' := 198) rfl (hb hby at_137) (by decide) (by decide) ?_
          refine XS.iload X2097.here hx rfl (hb hby at_198) rfl ?_
          show Steps p.tables e below (T2097.setTop (mkF m 200 #[iv p0, iv p1, iv p2, iv p3, rv b62, iv (1 : Int32), iv (2 : Int32), rv r_1793, iv (2 : Int32), iv (0 : Int32), .unset] [(.int (1 : Int32))])) _
          refine XS.ifNo X2097.here hx rfl (hb hby at_200) rfl (XT.i0_eq_f (by decide)) ?_
          refine XS.aload X2097.here hx rfl (hb hby at_203) rfl rfl ?_
          exact kt
        obtain ⟨cq2167, kq2167, q2167a, q2167b, q2167c⟩ := isOf hZ e2097 J2097_0
        obtain ⟨_, _, ⟨T2167, L2167, k2167, n2167⟩, -, X2167, ⟨Lc2167, hQ2167, l2167, y2167, z2167⟩, st2167⟩ := X2097.virtualBack hx (y := (⟨"com/example/homethread/homethread/Items", "isEmpty", "()Z"⟩ : MethodName)) (z := (⟨"com/example/homethread/homethread/Items", "isEmpty", "()Z"⟩ : MethodName)) hown (mvT hZ (W 13 rfl)) (mvT hZ (W 14 rfl)) (notFace_of_selects (args := #[]) (mvT hZ (W 16 rfl))) (mvT hZ (W 16 rfl)) (mvT hZ (W 15 rfl)) (by decide) (backOf (W := 0) (rm_isEmpty3_0 l Z a0 hw [] b62 h2097 n0 O2097 J2097_2) hZ (W 17 rfl) (W 2 rfl) (by decide) (by decide)) q2167a q2167c (g := (mkF m 205 #[iv p0, iv p1, iv p2, iv p3, rv b62, iv (1 : Int32), iv (2 : Int32), rv r_1793, iv (2 : Int32), iv (0 : Int32), .unset] [(.ref b62)])) rfl (by rw [hml]; rfl) (Steps.refl _) (argsL := []) (rest := []) (lenOf pd_12 rfl) rfl (by show 2 * 0 + _ ≤ _; exact Nat.le_of_eq rfl) (hb hby at_205) (fun _ _ => ⟨rfl, e2097, (by decide : 3 + 0 ≤ _), (by decide : 19 + 0 ≤ _)⟩)
        dsimp only [Pt.U, Pt.locs, Pt.cells, Pt.slots] at X2167 l2167 y2167 z2167 st2167 hQ2167
        replace l2167 := l2167.symm
        replace y2167 : 3 = k2167 := y2167.symm
        replace z2167 : 19 = n2167 := z2167.symm
        subst l2167 y2167 z2167
        obtain ⟨rfl, M2167, e2167⟩ := hQ2167
        have N2167 := Fr.app N2097 M2167
        have pre2168 : ∀ t, Steps p.tables e below (T2167.setTop (mkF m 208 #[iv p0, iv p1, iv p2, iv p3, rv b62, iv (1 : Int32), iv (2 : Int32), rv r_1793, iv (2 : Int32), iv (0 : Int32), .unset] [(.int (1 : Int32))])) t → Steps p.tables e below (s₁.setTop (entryFrame m #[(.int p0), (.int p1), (.int p2), (.int p3)] maxLocals)) t := fun t kt => pre2166 _ (st2167.trans kt)
        have pre2169 : ∀ t, Steps p.tables e below (T2167.setTop (mkF m 232 #[iv p0, iv p1, iv p2, iv p3, rv b62, iv (1 : Int32), iv (2 : Int32), rv r_1793, iv (2 : Int32), iv (0 : Int32), .unset] [(.ref r_1793), (.ref b62)])) t → Steps p.tables e below (s₁.setTop (entryFrame m #[(.int p0), (.int p1), (.int p2), (.int p3)] maxLocals)) t := fun t kt => by
          refine pre2168 _ ?_
          show Steps p.tables e below (T2167.setTop (mkF m 208 #[iv p0, iv p1, iv p2, iv p3, rv b62, iv (1 : Int32), iv (2 : Int32), rv r_1793, iv (2 : Int32), iv (0 : Int32), .unset] [(.int (1 : Int32))])) _
          refine XS.iload X2167.here hx rfl (hb hby at_208) rfl ?_
          refine XS.ifNo X2167.here hx rfl (hb hby at_210) rfl (XT.i0_ne_f (by decide)) ?_
          refine XS.iconst X2167.here hx rfl (hb hby at_213) ?_
          refine XS.goto X2167.here hx rfl (pc0 := 214) (pc' := 218) rfl (hb hby at_214) (by decide) (by decide) ?_
          show Steps p.tables e below (T2167.setTop (mkF m 218 #[iv p0, iv p1, iv p2, iv p3, rv b62, iv (1 : Int32), iv (2 : Int32), rv r_1793, iv (2 : Int32), iv (0 : Int32), .unset] [(.int (1 : Int32)), (.int (1 : Int32))])) _
          refine XS.icmpNo X2167.here hx rfl (hb hby at_218) rfl (XT.ii_ne_f (by decide)) ?_
          refine XS.iconst X2167.here hx rfl (hb hby at_221) ?_
          refine XS.goto X2167.here hx rfl (pc0 := 222) (pc' := 226) rfl (hb hby at_222) (by decide) (by decide) ?_
          refine XS.istore X2167.here hx rfl (hb hby at_226) rfl (l' := #[iv p0, iv p1, iv p2, iv p3, rv b62, iv (1 : Int32), iv (2 : Int32), rv r_1793, iv (2 : Int32), iv (0 : Int32), .unset]) rfl ?_
          show Steps p.tables e below (T2167.setTop (mkF m 228 #[iv p0, iv p1, iv p2, iv p3, rv b62, iv (1 : Int32), iv (2 : Int32), rv r_1793, iv (2 : Int32), iv (0 : Int32), .unset] [])) _
          refine XS.aload X2167.here hx rfl (hb hby at_228) rfl rfl ?_
          refine XS.aload X2167.here hx rfl (hb hby at_230) rfl rfl ?_
          exact kt
        obtain ⟨cq2170, kq2170, q2170a, q2170b, q2170c⟩ := isOf hZ e2167 J2097_0
        obtain ⟨_, _, ⟨T2170, L2170, k2170, n2170⟩, -, X2170, ⟨Lc2170, hQ2170, l2170, y2170, z2170⟩, st2170⟩ := X2167.virtualBack hx (y := (⟨"com/example/homethread/homethread/Items", "add", "(Ljava/lang/Object;)V"⟩ : MethodName)) (z := (⟨"com/example/homethread/homethread/Items", "add", "(Ljava/lang/Object;)V"⟩ : MethodName)) hown (mvT hZ (W 34 rfl)) (mvT hZ (W 35 rfl)) (notFace_of_selects (args := #[]) (mvT hZ (W 37 rfl))) (mvT hZ (W 37 rfl)) (mvT hZ (W 36 rfl)) (by decide) (backOf (W := 0) (rm_add6_4 l Z a0 hw [] b62 r_1793 mr a_NO_SLOTS kn h2097 n0 O2097 G3 G5 G6 g_b62 F2163 J2097_0 J2097_1 J2097_2) hZ (W 38 rfl) (W 2 rfl) (by decide) (by decide)) q2170a q2170c (g := (mkF m 232 #[iv p0, iv p1, iv p2, iv p3, rv b62, iv (1 : Int32), iv (2 : Int32), rv r_1793, iv (2 : Int32), iv (0 : Int32), .unset] [(.ref r_1793), (.ref b62)])) rfl (by rw [hml]; rfl) (Steps.refl _) (argsL := [(.ref r_1793)]) (rest := []) (lenOf pd_15 rfl) rfl (by show 2 * 0 + _ ≤ _; exact Nat.le_of_eq rfl) (hb hby at_232) (fun _ _ => ⟨rfl, e2167, (by decide : 3 + 1 ≤ _), (by decide : 19 + 16 ≤ _)⟩)
        dsimp only [Pt.U, Pt.locs, Pt.cells, Pt.slots] at X2170 l2170 y2170 z2170 st2170 hQ2170
        replace l2170 := l2170.symm
        replace y2170 : 4 = k2170 := y2170.symm
        replace z2170 : 35 = n2170 := z2170.symm
        subst l2170 y2170 z2170
        obtain ⟨k1289_2170, b1289_2170, rfl, M2170, Kc2170, O2170, J2170_0, J2170_1, J2170_2, J2170_3, J2170_4, J2170_5, P2170_0⟩ := hQ2170
        obtain ⟨h2170, e2170⟩ : ∃ z, T2170.heap = z := ⟨_, rfl⟩
        rw [e2170] at Kc2170 O2170 J2170_0 J2170_2 J2170_3 J2170_4 J2170_5
        try rw [e2170] at P2170_0
        have N2170 := Fr.app N2167 M2170
        have K2170 : Keep h0 h2170 [] := K2097.trans Kc2170 (own_all1 (Or.inr sz_b62))
        have pre2171 : ∀ t, Steps p.tables e below (T2170.setTop (mkF m 235 #[iv p0, iv p1, iv p2, iv p3, rv b62, iv (1 : Int32), iv (2 : Int32), rv r_1793, iv (2 : Int32), iv (0 : Int32), .unset] [])) t → Steps p.tables e below (s₁.setTop (entryFrame m #[(.int p0), (.int p1), (.int p2), (.int p3)] maxLocals)) t := fun t kt => pre2169 _ (st2170.trans kt)
        have F2172 := F2163.keep Kc2170
        have F2173 := F2164.keep Kc2170
        have F2174 := F2165.keep Kc2170 (own_nm1 (fun q => ne_b62_b109_68 q.symm))
        have sz_b1289_2170 : h0.size ≤ b1289_2170 := Nat.le_trans K2097.1 P2170_0
        have ne_a_NO_SLOTS_b1289_2170 : a_NO_SLOTS ≠ b1289_2170 := Nat.ne_of_lt (Nat.lt_of_lt_of_le (G5.ext O2097.2).lt P2170_0)
        have ne_r_1793_b1289_2170 : r_1793 ≠ b1289_2170 := Nat.ne_of_lt (Nat.lt_of_lt_of_le F2163.lt P2170_0)
        have ne_b109_68_b1289_2170 : b109_68 ≠ b1289_2170 := Nat.ne_of_lt (Nat.lt_of_lt_of_le F2164.lt P2170_0)
        have ne_b62_b1289_2170 : b62 ≠ b1289_2170 := Nat.ne_of_lt (Nat.lt_of_lt_of_le J2097_0.lt P2170_0)
        have g_b1289_2170 : n0 ≤ b1289_2170 := Nat.le_trans (Nat.le_trans (Nat.le_of_eq O0.1.symm) O0.2.1) sz_b1289_2170
        have pre2175 : ∀ t, Steps p.tables e below (T2170.setTop (mkF m 242 #[iv p0, iv p1, iv p2, iv p3, rv b62, iv (1 : Int32), iv (2 : Int32), rv r_1793, iv (2 : Int32), iv (0 : Int32), .unset] [(.ref b62)])) t → Steps p.tables e below (s₁.setTop (entryFrame m #[(.int p0), (.int p1), (.int p2), (.int p3)] maxLocals)) t := fun t kt => by
          refine pre2171 _ ?_
          show Steps p.tables e below (T2170.setTop (mkF m 235 #[iv p0, iv p1, iv p2, iv p3, rv b62, iv (1 : Int32), iv (2 : Int32), rv r_1793, iv (2 : Int32), iv (0 : Int32), .unset] [])) _
          refine XS.iload X2170.here hx rfl (hb hby at_235) rfl ?_
          refine XS.ifNo X2170.here hx rfl (hb hby at_237) rfl (XT.i0_eq_f (by decide)) ?_
          refine XS.aload X2170.here hx rfl (hb hby at_240) rfl rfl ?_
          exact kt
        obtain ⟨cq2176, kq2176, q2176a, q2176b, q2176c⟩ := isOf hZ e2170 J2170_0
        obtain ⟨_, _, ⟨T2176, L2176, k2176, n2176⟩, -, X2176, ⟨Lc2176, hQ2176, l2176, y2176, z2176⟩, st2176⟩ := X2170.virtualBack hx (y := (⟨"com/example/homethread/homethread/Items", "isEmpty", "()Z"⟩ : MethodName)) (z := (⟨"com/example/homethread/homethread/Items", "isEmpty", "()Z"⟩ : MethodName)) hown (mvT hZ (W 13 rfl)) (mvT hZ (W 14 rfl)) (notFace_of_selects (args := #[]) (mvT hZ (W 16 rfl))) (mvT hZ (W 16 rfl)) (mvT hZ (W 15 rfl)) (by decide) (backOf (W := 0) (rm_isEmpty3_1 l Z a0 hw [] b62 h2170 n0 O2170 J2170_5) hZ (W 17 rfl) (W 2 rfl) (by decide) (by decide)) q2176a q2176c (g := (mkF m 242 #[iv p0, iv p1, iv p2, iv p3, rv b62, iv (1 : Int32), iv (2 : Int32), rv r_1793, iv (2 : Int32), iv (0 : Int32), .unset] [(.ref b62)])) rfl (by rw [hml]; rfl) (Steps.refl _) (argsL := []) (rest := []) (lenOf pd_12 rfl) rfl (by show 2 * 0 + _ ≤ _; exact Nat.le_of_eq rfl) (hb hby at_242) (fun _ _ => ⟨rfl, e2170, (by decide : 4 + 0 ≤ _), (by decide : 35 + 0 ≤ _)⟩)
        dsimp only [Pt.U, Pt.locs, Pt.cells, Pt.slots] at X2176 l2176 y2176 z2176 st2176 hQ2176
        replace l2176 := l2176.symm
        replace y2176 : 4 = k2176 := y2176.symm
        replace z2176 : 35 = n2176 := z2176.symm
        subst l2176 y2176 z2176
        obtain ⟨rfl, M2176, e2176⟩ := hQ2176
        have N2176 := Fr.app N2170 M2176
        have pre2177 : ∀ t, Steps p.tables e below (T2176.setTop (mkF m 245 #[iv p0, iv p1, iv p2, iv p3, rv b62, iv (1 : Int32), iv (2 : Int32), rv r_1793, iv (2 : Int32), iv (0 : Int32), .unset] [(.int (0 : Int32))])) t → Steps p.tables e below (s₁.setTop (entryFrame m #[(.int p0), (.int p1), (.int p2), (.int p3)] maxLocals)) t := fun t kt => pre2175 _ (st2176.trans kt)
        have pre2178 : ∀ t, Steps p.tables e below (T2176.setTop (mkF m 257 #[iv p0, iv p1, iv p2, iv p3, rv b62, iv (1 : Int32), iv (2 : Int32), rv r_1793, iv (2 : Int32), iv (0 : Int32), .unset] [(.int (1 : Int32))])) t → Steps p.tables e below (s₁.setTop (entryFrame m #[(.int p0), (.int p1), (.int p2), (.int p3)] maxLocals)) t := fun t kt => by
          refine pre2177 _ ?_
          show Steps p.tables e below (T2176.setTop (mkF m 245 #[iv p0, iv p1, iv p2, iv p3, rv b62, iv (1 : Int32), iv (2 : Int32), rv r_1793, iv (2 : Int32), iv (0 : Int32), .unset] [(.int (0 : Int32))])) _
          refine XS.ifNo X2176.here hx rfl (hb hby at_245) rfl (XT.i0_ne_f (by decide)) ?_
          refine XS.iconst X2176.here hx rfl (hb hby at_248) ?_
          refine XS.goto X2176.here hx rfl (pc0 := 249) (pc' := 253) rfl (hb hby at_249) (by decide) (by decide) ?_
          refine XS.istore X2176.here hx rfl (hb hby at_253) rfl (l' := #[iv p0, iv p1, iv p2, iv p3, rv b62, iv (1 : Int32), iv (2 : Int32), rv r_1793, iv (2 : Int32), iv (0 : Int32), .unset]) rfl ?_
          show Steps p.tables e below (T2176.setTop (mkF m 255 #[iv p0, iv p1, iv p2, iv p3, rv b62, iv (1 : Int32), iv (2 : Int32), rv r_1793, iv (2 : Int32), iv (0 : Int32), .unset] [])) _
          refine XS.iload X2176.here hx rfl (hb hby at_255) rfl ?_
          exact kt
        obtain ⟨fs, hr, hrun, hended, hW, hsame⟩ := X2176.leave (v := some (.int (1 : Int32))) (fun h => by rw [Bd.returns] at h; cases h)
        refine ⟨_, _, pre2178 _ (retN X2176 hx (t := .boolean) Bd.returns (by simp) (hb hby at_257) hr), hrun, hended, _, _, rfl, ?_, ⟨_, rfl⟩, hW, hsame.mono (by decide) (by decide)⟩
        show Q_law Z p0 p1 p2 p3 ac mr a_NO_SLOTS kn h0 n0 _ T2176.heap _
        rw [e2176]
        exact ⟨rfl, N2176⟩
      · obtain ⟨cq2179, kq2179, q2179a, q2179b, q2179c⟩ := isOf hZ e1809 J1805_0
        obtain ⟨_, _, ⟨T2179, L2179, k2179, n2179⟩, -, X2179, ⟨Lc2179, hQ2179, l2179, y2179, z2179⟩, st2179⟩ := X1809.virtualBack hx (y := (⟨"com/example/homethread/homethread/Items", "clearAndTrim", "(I)V"⟩ : MethodName)) (z := (⟨"com/example/homethread/homethread/Items", "clearAndTrim", "(I)V"⟩ : MethodName)) hown (mvT hZ (W 27 rfl)) (mvT hZ (W 28 rfl)) (notFace_of_selects (args := #[]) (mvT hZ (W 30 rfl))) (mvT hZ (W 30 rfl)) (mvT hZ (W 29 rfl)) (by decide) (backOf (W := 0) (rm_clearAndTrim5_8 l Z a0 hw [] b62 p3 k109_68 r_1793 b109_68 h1805 n0 O1805 g_b62 J1805_0 J1805_2 J1805_3 J1805_4 (fun q => ne_b62_b109_68 q.symm) hc2096) hZ (W 31 rfl) (W 2 rfl) (by decide) (by decide)) q2179a q2179c (g := (mkF m 131 #[iv p0, iv p1, iv p2, iv p3, rv b62, iv (1 : Int32), iv (2 : Int32), rv r_1793, iv (2 : Int32), iv (2 : Int32), .unset] [(.int p3), (.ref b62)])) rfl (by rw [hml]; rfl) (Steps.refl _) (argsL := [(.int p3)]) (rest := []) (lenOf pd_6 rfl) rfl (by show 2 * 0 + _ ≤ _; exact Nat.le_of_eq rfl) (hb hby at_131) (fun _ _ => ⟨rfl, e1809, (by decide : 3 + 0 ≤ _), (by decide : 19 + 0 ≤ _)⟩)
        dsimp only [Pt.U, Pt.locs, Pt.cells, Pt.slots] at X2179 l2179 y2179 z2179 st2179 hQ2179
        replace l2179 := l2179.symm
        replace y2179 : 3 = k2179 := y2179.symm
        replace z2179 : 19 = n2179 := z2179.symm
        subst l2179 y2179 z2179
        obtain ⟨rfl, M2179, Kc2179, O2179, J2179_0, J2179_1, J2179_2⟩ := hQ2179
        obtain ⟨h2179, e2179⟩ : ∃ z, T2179.heap = z := ⟨_, rfl⟩
        rw [e2179] at Kc2179 O2179 J2179_0 J2179_1 J2179_2
        have N2179 := Fr.app N1809 M2179
        have K2179 : Keep h0 h2179 [] := K1805.trans Kc2179 (own_all1 (Or.inr sz_b62))
        have pre2215 : ∀ t, Steps p.tables e below (T2179.setTop (mkF m 134 #[iv p0, iv p1, iv p2, iv p3, rv b62, iv (1 : Int32), iv (2 : Int32), rv r_1793, iv (2 : Int32), iv (2 : Int32), .unset] [])) t → Steps p.tables e below (s₁.setTop (entryFrame m #[(.int p0), (.int p1), (.int p2), (.int p3)] maxLocals)) t := fun t kt => pre2090 _ (st2179.trans kt)
        have F2216 := F1807.keep Kc2179
        have F2217 := J1805_1.keep Kc2179
        have F2218 := J1805_3.keep Kc2179 (own_nm1 (fun q => ne_b62_b109_68 q.symm))
        have pre2219 : ∀ t, Steps p.tables e below (T2179.setTop (mkF m 205 #[iv p0, iv p1, iv p2, iv p3, rv b62, iv (1 : Int32), iv (2 : Int32), rv r_1793, iv (2 : Int32), iv (0 : Int32), .unset] [(.ref b62)])) t → Steps p.tables e below (s₁.setTop (entryFrame m #[(.int p0), (.int p1), (.int p2), (.int p3)] maxLocals)) t := fun t kt => by
          refine pre2215 _ ?_
          show Steps p.tables e below (T2179.setTop (mkF m 134 #[iv p0, iv p1, iv p2, iv p3, rv b62, iv (1 : Int32), iv (2 : Int32), rv r_1793, iv (2 : Int32), iv (2 : Int32), .unset] [])) _
          refine XS.iconst X2179.here hx rfl (hb hby at_134) ?_
          refine XS.istore X2179.here hx rfl (hb hby at_135) rfl (l' := #[iv p0, iv p1, iv p2, iv p3, rv b62, iv (1 : Int32), iv (2 : Int32), rv r_1793, iv (2 : Int32), iv (0 : Int32), .unset]) rfl ?_
          refine XS.goto X2179.here hx rfl (pc0 := 137) (pc' := 198) rfl (hb hby at_137) (by decide) (by decide) ?_
          refine XS.iload X2179.here hx rfl (hb hby at_198) rfl ?_
          show Steps p.tables e below (T2179.setTop (mkF m 200 #[iv p0, iv p1, iv p2, iv p3, rv b62, iv (1 : Int32), iv (2 : Int32), rv r_1793, iv (2 : Int32), iv (0 : Int32), .unset] [(.int (1 : Int32))])) _
          refine XS.ifNo X2179.here hx rfl (hb hby at_200) rfl (XT.i0_eq_f (by decide)) ?_
          refine XS.aload X2179.here hx rfl (hb hby at_203) rfl rfl ?_
          exact kt
        obtain ⟨cq2220, kq2220, q2220a, q2220b, q2220c⟩ := isOf hZ e2179 J2179_0
        obtain ⟨_, _, ⟨T2220, L2220, k2220, n2220⟩, -, X2220, ⟨Lc2220, hQ2220, l2220, y2220, z2220⟩, st2220⟩ := X2179.virtualBack hx (y := (⟨"com/example/homethread/homethread/Items", "isEmpty", "()Z"⟩ : MethodName)) (z := (⟨"com/example/homethread/homethread/Items", "isEmpty", "()Z"⟩ : MethodName)) hown (mvT hZ (W 13 rfl)) (mvT hZ (W 14 rfl)) (notFace_of_selects (args := #[]) (mvT hZ (W 16 rfl))) (mvT hZ (W 16 rfl)) (mvT hZ (W 15 rfl)) (by decide) (backOf (W := 0) (rm_isEmpty3_0 l Z a0 hw [] b62 h2179 n0 O2179 J2179_2) hZ (W 17 rfl) (W 2 rfl) (by decide) (by decide)) q2220a q2220c (g := (mkF m 205 #[iv p0, iv p1, iv p2, iv p3, rv b62, iv (1 : Int32), iv (2 : Int32), rv r_1793, iv (2 : Int32), iv (0 : Int32), .unset] [(.ref b62)])) rfl (by rw [hml]; rfl) (Steps.refl _) (argsL := []) (rest := []) (lenOf pd_12 rfl) rfl (by show 2 * 0 + _ ≤ _; exact Nat.le_of_eq rfl) (hb hby at_205) (fun _ _ => ⟨rfl, e2179, (by decide : 3 + 0 ≤ _), (by decide : 19 + 0 ≤ _)⟩)
        dsimp only [Pt.U, Pt.locs, Pt.cells, Pt.slots] at X2220 l2220 y2220 z2220 st2220 hQ2220
        replace l2220 := l2220.symm
        replace y2220 : 3 = k2220 := y2220.symm
        replace z2220 : 19 = n2220 := z2220.symm
        subst l2220 y2220 z2220
        obtain ⟨rfl, M2220, e2220⟩ := hQ2220
        have N2220 := Fr.app N2179 M2220
        have pre2221 : ∀ t, Steps p.tables e below (T2220.setTop (mkF m 208 #[iv p0, iv p1, iv p2, iv p3, rv b62, iv (1 : Int32), iv (2 : Int32), rv r_1793, iv (2 : Int32), iv (0 : Int32), .unset] [(.int (1 : Int32))])) t → Steps p.tables e below (s₁.setTop (entryFrame m #[(.int p0), (.int p1), (.int p2), (.int p3)] maxLocals)) t := fun t kt => pre2219 _ (st2220.trans kt)
        have pre2222 : ∀ t, Steps p.tables e below (T2220.setTop (mkF m 232 #[iv p0, iv p1, iv p2, iv p3, rv b62, iv (1 : Int32), iv (2 : Int32), rv r_1793, iv (2 : Int32), iv (0 : Int32), .unset] [(.ref r_1793), (.ref b62)])) t → Steps p.tables e below (s₁.setTop (entryFrame m #[(.int p0), (.int p1), (.int p2), (.int p3)] maxLocals)) t := fun t kt => by
          refine pre2221 _ ?_
          show Steps p.tables e below (T2220.setTop (mkF m 208 #[iv p0, iv p1, iv p2, iv p3, rv b62, iv (1 : Int32), iv (2 : Int32), rv r_1793, iv (2 : Int32), iv (0 : Int32), .unset] [(.int (1 : Int32))])) _
          refine XS.iload X2220.here hx rfl (hb hby at_208) rfl ?_
          refine XS.ifNo X2220.here hx rfl (hb hby at_210) rfl (XT.i0_ne_f (by decide)) ?_
          refine XS.iconst X2220.here hx rfl (hb hby at_213) ?_
          refine XS.goto X2220.here hx rfl (pc0 := 214) (pc' := 218) rfl (hb hby at_214) (by decide) (by decide) ?_
          show Steps p.tables e below (T2220.setTop (mkF m 218 #[iv p0, iv p1, iv p2, iv p3, rv b62, iv (1 : Int32), iv (2 : Int32), rv r_1793, iv (2 : Int32), iv (0 : Int32), .unset] [(.int (1 : Int32)), (.int (1 : Int32))])) _
          refine XS.icmpNo X2220.here hx rfl (hb hby at_218) rfl (XT.ii_ne_f (by decide)) ?_
          refine XS.iconst X2220.here hx rfl (hb hby at_221) ?_
          refine XS.goto X2220.here hx rfl (pc0 := 222) (pc' := 226) rfl (hb hby at_222) (by decide) (by decide) ?_
          refine XS.istore X2220.here hx rfl (hb hby at_226) rfl (l' := #[iv p0, iv p1, iv p2, iv p3, rv b62, iv (1 : Int32), iv (2 : Int32), rv r_1793, iv (2 : Int32), iv (0 : Int32), .unset]) rfl ?_
          show Steps p.tables e below (T2220.setTop (mkF m 228 #[iv p0, iv p1, iv p2, iv p3, rv b62, iv (1 : Int32), iv (2 : Int32), rv r_1793, iv (2 : Int32), iv (0 : Int32), .unset] [])) _
          refine XS.aload X2220.here hx rfl (hb hby at_228) rfl rfl ?_
          refine XS.aload X2220.here hx rfl (hb hby at_230) rfl rfl ?_
          exact kt
        obtain ⟨cq2223, kq2223, q2223a, q2223b, q2223c⟩ := isOf hZ e2220 J2179_0
        obtain ⟨_, _, ⟨T2223, L2223, k2223, n2223⟩, -, X2223, ⟨Lc2223, hQ2223, l2223, y2223, z2223⟩, st2223⟩ := X2220.virtualBack hx (y := (⟨"com/example/homethread/homethread/Items", "add", "(Ljava/lang/Object;)V"⟩ : MethodName)) (z := (⟨"com/example/homethread/homethread/Items", "add", "(Ljava/lang/Object;)V"⟩ : MethodName)) hown (mvT hZ (W 34 rfl)) (mvT hZ (W 35 rfl)) (notFace_of_selects (args := #[]) (mvT hZ (W 37 rfl))) (mvT hZ (W 37 rfl)) (mvT hZ (W 36 rfl)) (by decide) (backOf (W := 0) (rm_add6_6 l Z a0 hw [] b62 r_1793 k109_68 b109_68 h2179 n0 O2179 g_b109_68 g_b62 J68_3 F2216 F2217 F2218 J2179_0 J2179_1 J2179_2 (fun q => ne_b62_b109_68 q.symm)) hZ (W 38 rfl) (W 2 rfl) (by decide) (by decide)) q2223a q2223c (g := (mkF m 232 #[iv p0, iv p1, iv p2, iv p3, rv b62, iv (1 : Int32), iv (2 : Int32), rv r_1793, iv (2 : Int32), iv (0 : Int32), .unset] [(.ref r_1793), (.ref b62)])) rfl (by rw [hml]; rfl) (Steps.refl _) (argsL := [(.ref r_1793)]) (rest := []) (lenOf pd_15 rfl) rfl (by show 2 * 0 + _ ≤ _; exact Nat.le_of_eq rfl) (hb hby at_232) (fun _ _ => ⟨rfl, e2220, (by decide : 3 + 0 ≤ _), (by decide : 19 + 0 ≤ _)⟩)
        dsimp only [Pt.U, Pt.locs, Pt.cells, Pt.slots] at X2223 l2223 y2223 z2223 st2223 hQ2223
        replace l2223 := l2223.symm
        replace y2223 : 3 = k2223 := y2223.symm
        replace z2223 : 19 = n2223 := z2223.symm
        subst l2223 y2223 z2223
        obtain ⟨rfl, M2223, Kc2223, O2223, J2223_0, J2223_1, J2223_2, J2223_3, J2223_4⟩ := hQ2223
        obtain ⟨h2223, e2223⟩ : ∃ z, T2223.heap = z := ⟨_, rfl⟩
        rw [e2223] at Kc2223 O2223 J2223_0 J2223_1 J2223_2 J2223_3 J2223_4
        have N2223 := Fr.app N2220 M2223
        have K2223 : Keep h0 h2223 [] := K2179.trans Kc2223 (own_all2 (Or.inr sz_b109_68) (Or.inr sz_b62))
        have pre2224 : ∀ t, Steps p.tables e below (T2223.setTop (mkF m 235 #[iv p0, iv p1, iv p2, iv p3, rv b62, iv (1 : Int32), iv (2 : Int32), rv r_1793, iv (2 : Int32), iv (0 : Int32), .unset] [])) t → Steps p.tables e below (s₁.setTop (entryFrame m #[(.int p0), (.int p1), (.int p2), (.int p3)] maxLocals)) t := fun t kt => pre2222 _ (st2223.trans kt)
        have F2225 := F2216.keep Kc2223
        have pre2226 : ∀ t, Steps p.tables e below (T2223.setTop (mkF m 242 #[iv p0, iv p1, iv p2, iv p3, rv b62, iv (1 : Int32), iv (2 : Int32), rv r_1793, iv (2 : Int32), iv (0 : Int32), .unset] [(.ref b62)])) t → Steps p.tables e below (s₁.setTop (entryFrame m #[(.int p0), (.int p1), (.int p2), (.int p3)] maxLocals)) t := fun t kt => by
          refine pre2224 _ ?_
          show Steps p.tables e below (T2223.setTop (mkF m 235 #[iv p0, iv p1, iv p2, iv p3, rv b62, iv (1 : Int32), iv (2 : Int32), rv r_1793, iv (2 : Int32), iv (0 : Int32), .unset] [])) _
          refine XS.iload X2223.here hx rfl (hb hby at_235) rfl ?_
          refine XS.ifNo X2223.here hx rfl (hb hby at_237) rfl (XT.i0_eq_f (by decide)) ?_
          refine XS.aload X2223.here hx rfl (hb hby at_240) rfl rfl ?_
          exact kt
        obtain ⟨cq2227, kq2227, q2227a, q2227b, q2227c⟩ := isOf hZ e2223 J2223_1
        obtain ⟨_, _, ⟨T2227, L2227, k2227, n2227⟩, -, X2227, ⟨Lc2227, hQ2227, l2227, y2227, z2227⟩, st2227⟩ := X2223.virtualBack hx (y := (⟨"com/example/homethread/homethread/Items", "isEmpty", "()Z"⟩ : MethodName)) (z := (⟨"com/example/homethread/homethread/Items", "isEmpty", "()Z"⟩ : MethodName)) hown (mvT hZ (W 13 rfl)) (mvT hZ (W 14 rfl)) (notFace_of_selects (args := #[]) (mvT hZ (W 16 rfl))) (mvT hZ (W 16 rfl)) (mvT hZ (W 15 rfl)) (by decide) (backOf (W := 0) (rm_isEmpty3_1 l Z a0 hw [] b62 h2223 n0 O2223 J2223_4) hZ (W 17 rfl) (W 2 rfl) (by decide) (by decide)) q2227a q2227c (g := (mkF m 242 #[iv p0, iv p1, iv p2, iv p3, rv b62, iv (1 : Int32), iv (2 : Int32), rv r_1793, iv (2 : Int32), iv (0 : Int32), .unset] [(.ref b62)])) rfl (by rw [hml]; rfl) (Steps.refl _) (argsL := []) (rest := []) (lenOf pd_12 rfl) rfl (by show 2 * 0 + _ ≤ _; exact Nat.le_of_eq rfl) (hb hby at_242) (fun _ _ => ⟨rfl, e2223, (by decide : 3 + 0 ≤ _), (by decide : 19 + 0 ≤ _)⟩)
        dsimp only [Pt.U, Pt.locs, Pt.cells, Pt.slots] at X2227 l2227 y2227 z2227 st2227 hQ2227
        replace l2227 := l2227.symm
        replace y2227 : 3 = k2227 := y2227.symm
        replace z2227 : 19 = n2227 := z2227.symm
        subst l2227 y2227 z2227
        obtain ⟨rfl, M2227, e2227⟩ := hQ2227
        have N2227 := Fr.app N2223 M2227
        have pre2228 : ∀ t, Steps p.tables e below (T2227.setTop (mkF m 245 #[iv p0, iv p1, iv p2, iv p3, rv b62, iv (1 : Int32), iv (2 : Int32), rv r_1793, iv (2 : Int32), iv (0 : Int32), .unset] [(.int (0 : Int32))])) t → Steps p.tables e below (s₁.setTop (entryFrame m #[(.int p0), (.int p1), (.int p2), (.int p3)] maxLocals)) t := fun t kt => pre2226 _ (st2227.trans kt)
        have pre2229 : ∀ t, Steps p.tables e below (T2227.setTop (mkF m 257 #[iv p0, iv p1, iv p2, iv p3, rv b62, iv (1 : Int32), iv (2 : Int32), rv r_1793, iv (2 : Int32), iv (0 : Int32), .unset] [(.int (1 : Int32))])) t → Steps p.tables e below (s₁.setTop (entryFrame m #[(.int p0), (.int p1), (.int p2), (.int p3)] maxLocals)) t := fun t kt => by
          refine pre2228 _ ?_
          show Steps p.tables e below (T2227.setTop (mkF m 245 #[iv p0, iv p1, iv p2, iv p3, rv b62, iv (1 : Int32), iv (2 : Int32), rv r_1793, iv (2 : Int32), iv (0 : Int32), .unset] [(.int (0 : Int32))])) _
          refine XS.ifNo X2227.here hx rfl (hb hby at_245) rfl (XT.i0_ne_f (by decide)) ?_
          refine XS.iconst X2227.here hx rfl (hb hby at_248) ?_
          refine XS.goto X2227.here hx rfl (pc0 := 249) (pc' := 253) rfl (hb hby at_249) (by decide) (by decide) ?_
          refine XS.istore X2227.here hx rfl (hb hby at_253) rfl (l' := #[iv p0, iv p1, iv p2, iv p3, rv b62, iv (1 : Int32), iv (2 : Int32), rv r_1793, iv (2 : Int32), iv (0 : Int32), .unset]) rfl ?_
          show Steps p.tables e below (T2227.setTop (mkF m 255 #[iv p0, iv p1, iv p2, iv p3, rv b62, iv (1 : Int32), iv (2 : Int32), rv r_1793, iv (2 : Int32), iv (0 : Int32), .unset] [])) _
          refine XS.iload X2227.here hx rfl (hb hby at_255) rfl ?_
          exact kt
        obtain ⟨fs, hr, hrun, hended, hW, hsame⟩ := X2227.leave (v := some (.int (1 : Int32))) (fun h => by rw [Bd.returns] at h; cases h)
        refine ⟨_, _, pre2229 _ (retN X2227 hx (t := .boolean) Bd.returns (by simp) (hb hby at_257) hr), hrun, hended, _, _, rfl, ?_, ⟨_, rfl⟩, hW, hsame.mono (by decide) (by decide)⟩
        show Q_law Z p0 p1 p2 p3 ac mr a_NO_SLOTS kn h0 n0 _ T2227.heap _
        rw [e2227]
        exact ⟨rfl, N2227⟩
    · rw [hv1812] at pre1811
      have pre2230 : ∀ t, Steps p.tables e below (T1809.setTop (mkF m 151 #[iv p0, iv p1, iv p2, iv p3, rv b62, iv (1 : Int32), iv (2 : Int32), rv r_1793, iv (3 : Int32), iv (2 : Int32), .unset] [(.int (0 : Int32)), (.ref r_1793), (.ref b62)])) t → Steps p.tables e below (s₁.setTop (entryFrame m #[(.int p0), (.int p1), (.int p2), (.int p3)] maxLocals)) t := fun t kt => by
        refine pre1811 _ ?_
        show Steps p.tables e below (T1809.setTop (mkF m 99 #[iv p0, iv p1, iv p2, iv p3, rv b62, iv (1 : Int32), iv (2 : Int32), rv r_1793, .unset, .unset, .unset] [(.int (3 : Int32))])) _
        refine XS.istore X1809.here hx rfl (hb hby at_99) rfl (l' := #[iv p0, iv p1, iv p2, iv p3, rv b62, iv (1 : Int32), iv (2 : Int32), rv r_1793, iv (3 : Int32), .unset, .unset]) rfl ?_
        refine XS.iload X1809.here hx rfl (hb hby at_101) rfl ?_
        refine XS.istore X1809.here hx rfl (hb hby at_103) rfl (l' := #[iv p0, iv p1, iv p2, iv p3, rv b62, iv (1 : Int32), iv (2 : Int32), rv r_1793, iv (3 : Int32), iv (2 : Int32), .unset]) rfl ?_
        refine XS.iload X1809.here hx rfl (hb hby at_105) rfl ?_
        show Steps p.tables e below (T1809.setTop (mkF m 107 #[iv p0, iv p1, iv p2, iv p3, rv b62, iv (1 : Int32), iv (2 : Int32), rv r_1793, iv (3 : Int32), iv (2 : Int32), .unset] [(.int (3 : Int32))])) _
        refine XS.iconst X1809.here hx rfl (hb hby at_107) ?_
        refine XS.icmpYes X1809.here hx rfl (pc0 := 108) (pc' := 122) rfl (hb hby at_108) rfl (XT.ii_ne_t (by decide)) (by decide) (by decide) ?_
        refine XS.iload X1809.here hx rfl (hb hby at_122) rfl ?_
        refine XS.iconst X1809.here hx rfl (hb hby at_124) ?_
        show Steps p.tables e below (T1809.setTop (mkF m 125 #[iv p0, iv p1, iv p2, iv p3, rv b62, iv (1 : Int32), iv (2 : Int32), rv r_1793, iv (3 : Int32), iv (2 : Int32), .unset] [(.int (2 : Int32)), (.int (3 : Int32))])) _
        refine XS.icmpYes X1809.here hx rfl (pc0 := 125) (pc' := 140) rfl (hb hby at_125) rfl (XT.ii_ne_t (by decide)) (by decide) (by decide) ?_
        refine XS.iload X1809.here hx rfl (hb hby at_140) rfl ?_
        refine XS.iconst X1809.here hx rfl (hb hby at_142) ?_
        refine XS.icmpNo X1809.here hx rfl (hb hby at_143) rfl (XT.ii_ne_f (by decide)) ?_
        show Steps p.tables e below (T1809.setTop (mkF m 146 #[iv p0, iv p1, iv p2, iv p3, rv b62, iv (1 : Int32), iv (2 : Int32), rv r_1793, iv (3 : Int32), iv (2 : Int32), .unset] [])) _
        refine XS.aload X1809.here hx rfl (hb hby at_146) rfl rfl ?_
        refine XS.aload X1809.here hx rfl (hb hby at_148) rfl rfl ?_
        refine XS.iconst X1809.here hx rfl (hb hby at_150) ?_
        exact kt
      obtain ⟨cq2231, kq2231, q2231a, q2231b, q2231c⟩ := isOf hZ e1809 J1805_0
      obtain ⟨_, _, ⟨T2231, L2231, k2231, n2231⟩, -, X2231, ⟨Lc2231, hQ2231, l2231, y2231, z2231⟩, st2231⟩ := X1809.virtualBack hx (y := (⟨"com/example/homethread/homethread/Items", "removeLast", "(Ljava/lang/Object;I)Z"⟩ : MethodName)) (z := (⟨"com/example/homethread/homethread/Items", "removeLast", "(Ljava/lang/Object;I)Z"⟩ : MethodName)) hown (mvT hZ (W 81 rfl)) (mvT hZ (W 82 rfl)) (notFace_of_selects (args := #[]) (mvT hZ (W 84 rfl))) (mvT hZ (W 84 rfl)) (mvT hZ (W 83 rfl)) (by decide) (backOf (W := 0) (rm_removeLast13_2 l Z a0 hw [] b62 r_1793 k109_68 b109_68 h1805 n0 O1805 g_b62 g_b109_68 J1805_0 J1805_1 J1805_2 J1805_3 J1805_4 (fun q => ne_b62_b109_68 q.symm)) hZ (W 85 rfl) (W 2 rfl) (by decide) (by decide)) q2231a q2231c (g := (mkF m 151 #[iv p0, iv p1, iv p2, iv p3, rv b62, iv (1 : Int32), iv (2 : Int32), rv r_1793, iv (3 : Int32), iv (2 : Int32), .unset] [(.int (0 : Int32)), (.ref r_1793), (.ref b62)])) rfl (by rw [hml]; rfl) (Steps.refl _) (argsL := [(.ref r_1793), (.int (0 : Int32))]) (rest := []) (lenOf pd_29 rfl) rfl (by show 2 * 0 + _ ≤ _; exact Nat.le_of_eq rfl) (hb hby at_151) (fun _ _ => ⟨rfl, e1809, (by decide : 3 + 0 ≤ _), (by decide : 19 + 0 ≤ _)⟩)
      dsimp only [Pt.U, Pt.locs, Pt.cells, Pt.slots] at X2231 l2231 y2231 z2231 st2231 hQ2231
      replace l2231 := l2231.symm
      replace y2231 : 3 = k2231 := y2231.symm
      replace z2231 : 19 = n2231 := z2231.symm
      subst l2231 y2231 z2231
      obtain ⟨rfl, M2231, Kc2231, O2231, J2231_0, J2231_1, J2231_2, J2231_3, J2231_4⟩ := hQ2231
      obtain ⟨h2231, e2231⟩ : ∃ z, T2231.heap = z := ⟨_, rfl⟩
      rw [e2231] at Kc2231 O2231 J2231_0 J2231_1 J2231_2 J2231_3 J2231_4
      have N2231 := Fr.app N1809 M2231
      have K2231 : Keep h0 h2231 [] := K1805.trans Kc2231 (own_all2 (Or.inr sz_b62) (Or.inr sz_b109_68))
      have pre2391 : ∀ t, Steps p.tables e below (T2231.setTop (mkF m 154 #[iv p0, iv p1, iv p2, iv p3, rv b62, iv (1 : Int32), iv (2 : Int32), rv r_1793, iv (3 : Int32), iv (2 : Int32), .unset] [(.int (1 : Int32))])) t → Steps p.tables e below (s₁.setTop (entryFrame m #[(.int p0), (.int p1), (.int p2), (.int p3)] maxLocals)) t := fun t kt => pre2230 _ (st2231.trans kt)
      have F2392 := F1807.keep Kc2231
      have pre2393 : ∀ t, Steps p.tables e below (T2231.setTop (mkF m 205 #[iv p0, iv p1, iv p2, iv p3, rv b62, iv (1 : Int32), iv (2 : Int32), rv r_1793, iv (3 : Int32), iv (1 : Int32), iv (1 : Int32)] [(.ref b62)])) t → Steps p.tables e below (s₁.setTop (entryFrame m #[(.int p0), (.int p1), (.int p2), (.int p3)] maxLocals)) t := fun t kt => by
        refine pre2391 _ ?_
        show Steps p.tables e below (T2231.setTop (mkF m 154 #[iv p0, iv p1, iv p2, iv p3, rv b62, iv (1 : Int32), iv (2 : Int32), rv r_1793, iv (3 : Int32), iv (2 : Int32), .unset] [(.int (1 : Int32))])) _
        refine XS.istore X2231.here hx rfl (hb hby at_154) rfl (l' := #[iv p0, iv p1, iv p2, iv p3, rv b62, iv (1 : Int32), iv (2 : Int32), rv r_1793, iv (3 : Int32), iv (2 : Int32), iv (1 : Int32)]) rfl ?_
        refine XS.iload X2231.here hx rfl (hb hby at_156) rfl ?_
        refine XS.ifNo X2231.here hx rfl (hb hby at_158) rfl (XT.i0_eq_f (by decide)) ?_
        refine XS.iload X2231.here hx rfl (hb hby at_161) rfl ?_
        show Steps p.tables e below (T2231.setTop (mkF m 163 #[iv p0, iv p1, iv p2, iv p3, rv b62, iv (1 : Int32), iv (2 : Int32), rv r_1793, iv (3 : Int32), iv (2 : Int32), iv (1 : Int32)] [(.int (1 : Int32))])) _
        refine XS.iload X2231.here hx rfl (hb hby at_163) rfl ?_
        refine XS.ifNo X2231.here hx rfl (hb hby at_165) rfl (XT.i0_le_f (by decide)) ?_
        refine XS.iconst X2231.here hx rfl (hb hby at_168) ?_
        refine XS.goto X2231.here hx rfl (pc0 := 169) (pc' := 173) rfl (hb hby at_169) (by decide) (by decide) ?_
        show Steps p.tables e below (T2231.setTop (mkF m 173 #[iv p0, iv p1, iv p2, iv p3, rv b62, iv (1 : Int32), iv (2 : Int32), rv r_1793, iv (3 : Int32), iv (2 : Int32), iv (1 : Int32)] [(.int (1 : Int32)), (.int (1 : Int32))])) _
        refine XS.icmpNo X2231.here hx rfl (hb hby at_173) rfl (XT.ii_ne_f (by decide)) ?_
        refine XS.iconst X2231.here hx rfl (hb hby at_176) ?_
        refine XS.goto X2231.here hx rfl (pc0 := 177) (pc' := 181) rfl (hb hby at_177) (by decide) (by decide) ?_
        refine XS.istore X2231.here hx rfl (hb hby at_181) rfl (l' := #[iv p0, iv p1, iv p2, iv p3, rv b62, iv (1 : Int32), iv (2 : Int32), rv r_1793, iv (3 : Int32), iv (2 : Int32), iv (1 : Int32)]) rfl ?_
        show Steps p.tables e below (T2231.setTop (mkF m 183 #[iv p0, iv p1, iv p2, iv p3, rv b62, iv (1 : Int32), iv (2 : Int32), rv r_1793, iv (3 : Int32), iv (2 : Int32), iv (1 : Int32)] [])) _
        refine XS.iload X2231.here hx rfl (hb hby at_183) rfl ?_
        refine XS.ifNo X2231.here hx rfl (hb hby at_185) rfl (XT.i0_le_f (by decide)) ?_
        refine XS.iload X2231.here hx rfl (hb hby at_188) rfl ?_
        refine XS.iconst X2231.here hx rfl (hb hby at_190) ?_
        show Steps p.tables e below (T2231.setTop (mkF m 191 #[iv p0, iv p1, iv p2, iv p3, rv b62, iv (1 : Int32), iv (2 : Int32), rv r_1793, iv (3 : Int32), iv (2 : Int32), iv (1 : Int32)] [(.int (1 : Int32)), (.int (2 : Int32))])) _
        refine XS.isub X2231.here hx rfl (hb hby at_191) rfl ?_
        show  Steps p.tables e below (T2231.setTop (mkF m 192 #[iv p0, iv p1, iv p2, iv p3, rv b62, iv (1 : Int32), iv (2 : Int32), rv r_1793, iv (3 : Int32), iv (2 : Int32), iv (1 : Int32)] [(.int ((2 : Int32) - (1 : Int32)))])) _
        rw [(by decide : (((2 : Int32) - (1 : Int32)) : Int32) = (1 : Int32))]
        refine XS.goto X2231.here hx rfl (pc0 := 192) (pc' := 196) rfl (hb hby at_192) (by decide) (by decide) ?_
        refine XS.istore X2231.here hx rfl (hb hby at_196) rfl (l' := #[iv p0, iv p1, iv p2, iv p3, rv b62, iv (1 : Int32), iv (2 : Int32), rv r_1793, iv (3 : Int32), iv (1 : Int32), iv (1 : Int32)]) rfl ?_
        refine XS.iload X2231.here hx rfl (hb hby at_198) rfl ?_
        show Steps p.tables e below (T2231.setTop (mkF m 200 #[iv p0, iv p1, iv p2, iv p3, rv b62, iv (1 : Int32), iv (2 : Int32), rv r_1793, iv (3 : Int32), iv (1 : Int32), iv (1 : Int32)] [(.int (1 : Int32))])) _
        refine XS.ifNo X2231.here hx rfl (hb hby at_200) rfl (XT.i0_eq_f (by decide)) ?_
        refine XS.aload X2231.here hx rfl (hb hby at_203) rfl rfl ?_
        exact kt
      obtain ⟨cq2394, kq2394, q2394a, q2394b, q2394c⟩ := isOf hZ e2231 J2231_0
      obtain ⟨_, _, ⟨T2394, L2394, k2394, n2394⟩, -, X2394, ⟨Lc2394, hQ2394, l2394, y2394, z2394⟩, st2394⟩ := X2231.virtualBack hx (y := (⟨"com/example/homethread/homethread/Items", "isEmpty", "()Z"⟩ : MethodName)) (z := (⟨"com/example/homethread/homethread/Items", "isEmpty", "()Z"⟩ : MethodName)) hown (mvT hZ (W 13 rfl)) (mvT hZ (W 14 rfl)) (notFace_of_selects (args := #[]) (mvT hZ (W 16 rfl))) (mvT hZ (W 16 rfl)) (mvT hZ (W 15 rfl)) (by decide) (backOf (W := 0) (rm_isEmpty3_1 l Z a0 hw [] b62 h2231 n0 O2231 J2231_3) hZ (W 17 rfl) (W 2 rfl) (by decide) (by decide)) q2394a q2394c (g := (mkF m 205 #[iv p0, iv p1, iv p2, iv p3, rv b62, iv (1 : Int32), iv (2 : Int32), rv r_1793, iv (3 : Int32), iv (1 : Int32), iv (1 : Int32)] [(.ref b62)])) rfl (by rw [hml]; rfl) (Steps.refl _) (argsL := []) (rest := []) (lenOf pd_12 rfl) rfl (by show 2 * 0 + _ ≤ _; exact Nat.le_of_eq rfl) (hb hby at_205) (fun _ _ => ⟨rfl, e2231, (by decide : 3 + 0 ≤ _), (by decide : 19 + 0 ≤ _)⟩)
      dsimp only [Pt.U, Pt.locs, Pt.cells, Pt.slots] at X2394 l2394 y2394 z2394 st2394 hQ2394
      replace l2394 := l2394.symm
      replace y2394 : 3 = k2394 := y2394.symm
      replace z2394 : 19 = n2394 := z2394.symm
      subst l2394 y2394 z2394
      obtain ⟨rfl, M2394, e2394⟩ := hQ2394
      have N2394 := Fr.app N2231 M2394
      have pre2395 : ∀ t, Steps p.tables e below (T2394.setTop (mkF m 208 #[iv p0, iv p1, iv p2, iv p3, rv b62, iv (1 : Int32), iv (2 : Int32), rv r_1793, iv (3 : Int32), iv (1 : Int32), iv (1 : Int32)] [(.int (0 : Int32))])) t → Steps p.tables e below (s₁.setTop (entryFrame m #[(.int p0), (.int p1), (.int p2), (.int p3)] maxLocals)) t := fun t kt => pre2393 _ (st2394.trans kt)
      have pre2396 : ∀ t, Steps p.tables e below (T2394.setTop (mkF m 232 #[iv p0, iv p1, iv p2, iv p3, rv b62, iv (1 : Int32), iv (2 : Int32), rv r_1793, iv (3 : Int32), iv (1 : Int32), iv (1 : Int32)] [(.ref r_1793), (.ref b62)])) t → Steps p.tables e below (s₁.setTop (entryFrame m #[(.int p0), (.int p1), (.int p2), (.int p3)] maxLocals)) t := fun t kt => by
        refine pre2395 _ ?_
        show Steps p.tables e below (T2394.setTop (mkF m 208 #[iv p0, iv p1, iv p2, iv p3, rv b62, iv (1 : Int32), iv (2 : Int32), rv r_1793, iv (3 : Int32), iv (1 : Int32), iv (1 : Int32)] [(.int (0 : Int32))])) _
        refine XS.iload X2394.here hx rfl (hb hby at_208) rfl ?_
        refine XS.ifYes X2394.here hx rfl (pc0 := 210) (pc' := 217) rfl (hb hby at_210) rfl (XT.i0_ne_t (by decide)) (by decide) (by decide) ?_
        refine XS.iconst X2394.here hx rfl (hb hby at_217) ?_
        refine XS.icmpNo X2394.here hx rfl (hb hby at_218) rfl (XT.ii_ne_f (by decide)) ?_
        show Steps p.tables e below (T2394.setTop (mkF m 221 #[iv p0, iv p1, iv p2, iv p3, rv b62, iv (1 : Int32), iv (2 : Int32), rv r_1793, iv (3 : Int32), iv (1 : Int32), iv (1 : Int32)] [])) _
        refine XS.iconst X2394.here hx rfl (hb hby at_221) ?_
        refine XS.goto X2394.here hx rfl (pc0 := 222) (pc' := 226) rfl (hb hby at_222) (by decide) (by decide) ?_
        refine XS.istore X2394.here hx rfl (hb hby at_226) rfl (l' := #[iv p0, iv p1, iv p2, iv p3, rv b62, iv (1 : Int32), iv (2 : Int32), rv r_1793, iv (3 : Int32), iv (1 : Int32), iv (1 : Int32)]) rfl ?_
        refine XS.aload X2394.here hx rfl (hb hby at_228) rfl rfl ?_
        show Steps p.tables e below (T2394.setTop (mkF m 230 #[iv p0, iv p1, iv p2, iv p3, rv b62, iv (1 : Int32), iv (2 : Int32), rv r_1793, iv (3 : Int32), iv (1 : Int32), iv (1 : Int32)] [(.ref b62)])) _
        refine XS.aload X2394.here hx rfl (hb hby at_230) rfl rfl ?_
        exact kt
      obtain ⟨cq2397, kq2397, q2397a, q2397b, q2397c⟩ := isOf hZ e2394 J2231_0
      obtain ⟨_, _, ⟨T2397, L2397, k2397, n2397⟩, -, X2397, ⟨Lc2397, hQ2397, l2397, y2397, z2397⟩, st2397⟩ := X2394.virtualBack hx (y := (⟨"com/example/homethread/homethread/Items", "add", "(Ljava/lang/Object;)V"⟩ : MethodName)) (z := (⟨"com/example/homethread/homethread/Items", "add", "(Ljava/lang/Object;)V"⟩ : MethodName)) hown (mvT hZ (W 34 rfl)) (mvT hZ (W 35 rfl)) (notFace_of_selects (args := #[]) (mvT hZ (W 37 rfl))) (mvT hZ (W 37 rfl)) (mvT hZ (W 36 rfl)) (by decide) (backOf (W := 0) (rm_add6_2 l Z a0 hw [] b62 r_1793 k109_68 b109_68 h2231 n0 O2231 g_b62 g_b109_68 J68_3 F2392 J2231_0 J2231_1 J2231_2 J2231_4 J2231_3 (fun q => ne_b62_b109_68 q.symm)) hZ (W 38 rfl) (W 2 rfl) (by decide) (by decide)) q2397a q2397c (g := (mkF m 232 #[iv p0, iv p1, iv p2, iv p3, rv b62, iv (1 : Int32), iv (2 : Int32), rv r_1793, iv (3 : Int32), iv (1 : Int32), iv (1 : Int32)] [(.ref r_1793), (.ref b62)])) rfl (by rw [hml]; rfl) (Steps.refl _) (argsL := [(.ref r_1793)]) (rest := []) (lenOf pd_15 rfl) rfl (by show 2 * 0 + _ ≤ _; exact Nat.le_of_eq rfl) (hb hby at_232) (fun _ _ => ⟨rfl, e2394, (by decide : 3 + 0 ≤ _), (by decide : 19 + 0 ≤ _)⟩)
      dsimp only [Pt.U, Pt.locs, Pt.cells, Pt.slots] at X2397 l2397 y2397 z2397 st2397 hQ2397
      replace l2397 := l2397.symm
      replace y2397 : 3 = k2397 := y2397.symm
      replace z2397 : 19 = n2397 := z2397.symm
      subst l2397 y2397 z2397
      obtain ⟨rfl, M2397, Kc2397, O2397, J2397_0, J2397_1, J2397_2, J2397_3, J2397_4⟩ := hQ2397
      obtain ⟨h2397, e2397⟩ : ∃ z, T2397.heap = z := ⟨_, rfl⟩
      rw [e2397] at Kc2397 O2397 J2397_0 J2397_1 J2397_2 J2397_3 J2397_4
      have N2397 := Fr.app N2394 M2397
      have K2397 : Keep h0 h2397 [] := K2231.trans Kc2397 (own_all2 (Or.inr sz_b62) (Or.inr sz_b109_68))
      have pre2398 : ∀ t, Steps p.tables e below (T2397.setTop (mkF m 235 #[iv p0, iv p1, iv p2, iv p3, rv b62, iv (1 : Int32), iv (2 : Int32), rv r_1793, iv (3 : Int32), iv (1 : Int32), iv (1 : Int32)] [])) t → Steps p.tables e below (s₁.setTop (entryFrame m #[(.int p0), (.int p1), (.int p2), (.int p3)] maxLocals)) t := fun t kt => pre2396 _ (st2397.trans kt)
      have F2399 := F2392.keep Kc2397
      have pre2400 : ∀ t, Steps p.tables e below (T2397.setTop (mkF m 242 #[iv p0, iv p1, iv p2, iv p3, rv b62, iv (1 : Int32), iv (2 : Int32), rv r_1793, iv (3 : Int32), iv (1 : Int32), iv (1 : Int32)] [(.ref b62)])) t → Steps p.tables e below (s₁.setTop (entryFrame m #[(.int p0), (.int p1), (.int p2), (.int p3)] maxLocals)) t := fun t kt => by
        refine pre2398 _ ?_
        show Steps p.tables e below (T2397.setTop (mkF m 235 #[iv p0, iv p1, iv p2, iv p3, rv b62, iv (1 : Int32), iv (2 : Int32), rv r_1793, iv (3 : Int32), iv (1 : Int32), iv (1 : Int32)] [])) _
        refine XS.iload X2397.here hx rfl (hb hby at_235) rfl ?_
        refine XS.ifNo X2397.here hx rfl (hb hby at_237) rfl (XT.i0_eq_f (by decide)) ?_
        refine XS.aload X2397.here hx rfl (hb hby at_240) rfl rfl ?_
        exact kt
      obtain ⟨cq2401, kq2401, q2401a, q2401b, q2401c⟩ := isOf hZ e2397 J2397_0
      obtain ⟨_, _, ⟨T2401, L2401, k2401, n2401⟩, -, X2401, ⟨Lc2401, hQ2401, l2401, y2401, z2401⟩, st2401⟩ := X2397.virtualBack hx (y := (⟨"com/example/homethread/homethread/Items", "isEmpty", "()Z"⟩ : MethodName)) (z := (⟨"com/example/homethread/homethread/Items", "isEmpty", "()Z"⟩ : MethodName)) hown (mvT hZ (W 13 rfl)) (mvT hZ (W 14 rfl)) (notFace_of_selects (args := #[]) (mvT hZ (W 16 rfl))) (mvT hZ (W 16 rfl)) (mvT hZ (W 15 rfl)) (by decide) (backOf (W := 0) (rm_isEmpty3_2 l Z a0 hw [] b62 h2397 n0 O2397 J2397_4) hZ (W 17 rfl) (W 2 rfl) (by decide) (by decide)) q2401a q2401c (g := (mkF m 242 #[iv p0, iv p1, iv p2, iv p3, rv b62, iv (1 : Int32), iv (2 : Int32), rv r_1793, iv (3 : Int32), iv (1 : Int32), iv (1 : Int32)] [(.ref b62)])) rfl (by rw [hml]; rfl) (Steps.refl _) (argsL := []) (rest := []) (lenOf pd_12 rfl) rfl (by show 2 * 0 + _ ≤ _; exact Nat.le_of_eq rfl) (hb hby at_242) (fun _ _ => ⟨rfl, e2397, (by decide : 3 + 0 ≤ _), (by decide : 19 + 0 ≤ _)⟩)
      dsimp only [Pt.U, Pt.locs, Pt.cells, Pt.slots] at X2401 l2401 y2401 z2401 st2401 hQ2401
      replace l2401 := l2401.symm
      replace y2401 : 3 = k2401 := y2401.symm
      replace z2401 : 19 = n2401 := z2401.symm
      subst l2401 y2401 z2401
      obtain ⟨rfl, M2401, e2401⟩ := hQ2401
      have N2401 := Fr.app N2397 M2401
      have pre2402 : ∀ t, Steps p.tables e below (T2401.setTop (mkF m 245 #[iv p0, iv p1, iv p2, iv p3, rv b62, iv (1 : Int32), iv (2 : Int32), rv r_1793, iv (3 : Int32), iv (1 : Int32), iv (1 : Int32)] [(.int (0 : Int32))])) t → Steps p.tables e below (s₁.setTop (entryFrame m #[(.int p0), (.int p1), (.int p2), (.int p3)] maxLocals)) t := fun t kt => pre2400 _ (st2401.trans kt)
      have pre2403 : ∀ t, Steps p.tables e below (T2401.setTop (mkF m 257 #[iv p0, iv p1, iv p2, iv p3, rv b62, iv (1 : Int32), iv (2 : Int32), rv r_1793, iv (3 : Int32), iv (1 : Int32), iv (1 : Int32)] [(.int (1 : Int32))])) t → Steps p.tables e below (s₁.setTop (entryFrame m #[(.int p0), (.int p1), (.int p2), (.int p3)] maxLocals)) t := fun t kt => by
        refine pre2402 _ ?_
        show Steps p.tables e below (T2401.setTop (mkF m 245 #[iv p0, iv p1, iv p2, iv p3, rv b62, iv (1 : Int32), iv (2 : Int32), rv r_1793, iv (3 : Int32), iv (1 : Int32), iv (1 : Int32)] [(.int (0 : Int32))])) _
        refine XS.ifNo X2401.here hx rfl (hb hby at_245) rfl (XT.i0_ne_f (by decide)) ?_
        refine XS.iconst X2401.here hx rfl (hb hby at_248) ?_
        refine XS.goto X2401.here hx rfl (pc0 := 249) (pc' := 253) rfl (hb hby at_249) (by decide) (by decide) ?_
        refine XS.istore X2401.here hx rfl (hb hby at_253) rfl (l' := #[iv p0, iv p1, iv p2, iv p3, rv b62, iv (1 : Int32), iv (2 : Int32), rv r_1793, iv (3 : Int32), iv (1 : Int32), iv (1 : Int32)]) rfl ?_
        show Steps p.tables e below (T2401.setTop (mkF m 255 #[iv p0, iv p1, iv p2, iv p3, rv b62, iv (1 : Int32), iv (2 : Int32), rv r_1793, iv (3 : Int32), iv (1 : Int32), iv (1 : Int32)] [])) _
        refine XS.iload X2401.here hx rfl (hb hby at_255) rfl ?_
        exact kt
      obtain ⟨fs, hr, hrun, hended, hW, hsame⟩ := X2401.leave (v := some (.int (1 : Int32))) (fun h => by rw [Bd.returns] at h; cases h)
      refine ⟨_, _, pre2403 _ (retN X2401 hx (t := .boolean) Bd.returns (by simp) (hb hby at_257) hr), hrun, hended, _, _, rfl, ?_, ⟨_, rfl⟩, hW, hsame.mono (by decide) (by decide)⟩
      show Q_law Z p0 p1 p2 p3 ac mr a_NO_SLOTS kn h0 n0 _ T2401.heap _
      rw [e2401]
      exact ⟨rfl, N2401⟩
  · rw [hv140] at pre139
    have pre2404 : ∀ t, Steps p.tables e below (T125.setTop (mkF m 22 #[iv p0, iv p1, iv p2, iv p3, rv b62, iv (1 : Int32), iv (3 : Int32), .unset, .unset, .unset, .unset] [(.int p1)])) t → Steps p.tables e below (s₁.setTop (entryFrame m #[(.int p0), (.int p1), (.int p2), (.int p3)] maxLocals)) t := fun t kt => by
      refine pre139 _ ?_
      show Steps p.tables e below (T125.setTop (mkF m 19 #[iv p0, iv p1, iv p2, iv p3, rv b62, iv (1 : Int32), .unset, .unset, .unset, .unset, .unset] [(.int (3 : Int32))])) _
      refine XS.istore X125.here hx rfl (hb hby at_19) rfl (l' := #[iv p0, iv p1, iv p2, iv p3, rv b62, iv (1 : Int32), iv (3 : Int32), .unset, .unset, .unset, .unset]) rfl ?_
      refine XS.iloadN X125.here hx rfl (hb hby at_21) rfl ?_
      exact kt
    obtain ⟨_, _, ⟨T2405, L2405, k2405, n2405⟩, -, X2405, ⟨Lc2405, hQ2405, l2405, y2405, z2405⟩, st2405⟩ := Jvm.LawKit.callS X125 hx (y := (⟨"java/lang/Integer", "valueOf", "(I)Ljava/lang/Integer;"⟩ : MethodName)) hown (mvT hZ (W 20 rfl)) (mvT hZ (W 21 rfl)) (mvT hZ (W 22 rfl)) (mvT hZ (W 23 rfl)) (by decide) (backOf (W := 0) (rm_valueOf l Z a0 hw [] p1 ac h68 n0 O68 G0 G1 G2) hZ (W 23 rfl) (W 22 rfl) (by decide) (by decide)) (g := (mkF m 22 #[iv p0, iv p1, iv p2, iv p3, rv b62, iv (1 : Int32), iv (3 : Int32), .unset, .unset, .unset, .unset] [(.int p1)])) rfl (by rw [hml]; rfl) (argsL := [(.int p1)]) (rest := []) (lenOf pd_13 rfl) rfl (by show 2 * 0 + _ ≤ _; exact Nat.le_of_eq rfl) (hb hby at_22) (fun _ _ => ⟨rfl, e125, (by decide : 2 + 1 ≤ _), (by decide : 18 + 1 ≤ _)⟩)
    dsimp only [Pt.U, Pt.locs, Pt.cells, Pt.slots] at X2405 l2405 y2405 z2405 st2405 hQ2405
    replace l2405 := l2405.symm
    replace y2405 : 3 = k2405 := y2405.symm
    replace z2405 : 19 = n2405 := z2405.symm
    subst l2405 y2405 z2405
    obtain ⟨r_2405, rfl, M2405, Kc2405, O2405, J2405_0⟩ := hQ2405
    obtain ⟨h2405, e2405⟩ : ∃ z, T2405.heap = z := ⟨_, rfl⟩
    rw [e2405] at Kc2405 O2405 J2405_0
    have N2405 := Fr.app N125 M2405
    have K2405 : Keep h0 h2405 [] := K68.trans Kc2405 (own_all0 )
    have pre2406 : ∀ t, Steps p.tables e below (T2405.setTop (mkF m 25 #[iv p0, iv p1, iv p2, iv p3, rv b62, iv (1 : Int32), iv (3 : Int32), .unset, .unset, .unset, .unset] [(.ref r_2405)])) t → Steps p.tables e below (s₁.setTop (entryFrame m #[(.int p0), (.int p1), (.int p2), (.int p3)] maxLocals)) t := fun t kt => pre2404 _ (st2405 _ kt)
    have F2407 := J68_0.keep Kc2405
    have F2408 := J68_1.keep Kc2405 (own_nm0 )
    have F2409 := J68_2.keep Kc2405 (own_nm0 )
    have F2410 := J68_4.keep Kc2405
    have F2411 := J68_5.keep Kc2405 (own_nm0 )
    have pre2412 : ∀ t, Steps p.tables e below (T2405.setTop (mkF m 37 #[iv p0, iv p1, iv p2, iv p3, rv b62, iv (1 : Int32), iv (3 : Int32), rv r_2405, .unset, .unset, .unset] [(.ref r_2405), (.ref b62)])) t → Steps p.tables e below (s₁.setTop (entryFrame m #[(.int p0), (.int p1), (.int p2), (.int p3)] maxLocals)) t := fun t kt => by
      refine pre2406 _ ?_
      show Steps p.tables e below (T2405.setTop (mkF m 25 #[iv p0, iv p1, iv p2, iv p3, rv b62, iv (1 : Int32), iv (3 : Int32), .unset, .unset, .unset, .unset] [(.ref r_2405)])) _
      refine XS.astore X2405.here hx rfl (hb hby at_25) rfl rfl (l' := #[iv p0, iv p1, iv p2, iv p3, rv b62, iv (1 : Int32), iv (3 : Int32), rv r_2405, .unset, .unset, .unset]) rfl ?_
      refine XS.iload X2405.here hx rfl (hb hby at_27) rfl ?_
      refine XS.iconst X2405.here hx rfl (hb hby at_29) ?_
      refine XS.icmpNo X2405.here hx rfl (hb hby at_30) rfl (XT.ii_lt_f (by decide)) ?_
      show Steps p.tables e below (T2405.setTop (mkF m 33 #[iv p0, iv p1, iv p2, iv p3, rv b62, iv (1 : Int32), iv (3 : Int32), rv r_2405, .unset, .unset, .unset] [])) _
      refine XS.aload X2405.here hx rfl (hb hby at_33) rfl rfl ?_
      refine XS.aload X2405.here hx rfl (hb hby at_35) rfl rfl ?_
      exact kt
    obtain ⟨cq2413, kq2413, q2413a, q2413b, q2413c⟩ := isOf hZ e2405 F2407
    obtain ⟨_, _, ⟨T2413, L2413, k2413, n2413⟩, -, X2413, ⟨Lc2413, hQ2413, l2413, y2413, z2413⟩, st2413⟩ := X2405.virtualBack hx (y := (⟨"com/example/homethread/homethread/Items", "add", "(Ljava/lang/Object;)V"⟩ : MethodName)) (z := (⟨"com/example/homethread/homethread/Items", "add", "(Ljava/lang/Object;)V"⟩ : MethodName)) hown (mvT hZ (W 34 rfl)) (mvT hZ (W 35 rfl)) (notFace_of_selects (args := #[]) (mvT hZ (W 37 rfl))) (mvT hZ (W 37 rfl)) (mvT hZ (W 36 rfl)) (by decide) (backOf (W := 0) (rm_add6_0 l Z a0 hw [] b62 r_2405 b109_68 k109_68 h2405 n0 O2405 g_b62 g_b109_68 F2407 F2408 F2409 J68_3 F2410 F2411 J2405_0 (fun q => ne_b62_b109_68 q.symm)) hZ (W 38 rfl) (W 2 rfl) (by decide) (by decide)) q2413a q2413c (g := (mkF m 37 #[iv p0, iv p1, iv p2, iv p3, rv b62, iv (1 : Int32), iv (3 : Int32), rv r_2405, .unset, .unset, .unset] [(.ref r_2405), (.ref b62)])) rfl (by rw [hml]; rfl) (Steps.refl _) (argsL := [(.ref r_2405)]) (rest := []) (lenOf pd_15 rfl) rfl (by show 2 * 0 + _ ≤ _; exact Nat.le_of_eq rfl) (hb hby at_37) (fun _ _ => ⟨rfl, e2405, (by decide : 3 + 0 ≤ _), (by decide : 19 + 0 ≤ _)⟩)
    dsimp only [Pt.U, Pt.locs, Pt.cells, Pt.slots] at X2413 l2413 y2413 z2413 st2413 hQ2413
    replace l2413 := l2413.symm
    replace y2413 : 3 = k2413 := y2413.symm
    replace z2413 : 19 = n2413 := z2413.symm
    subst l2413 y2413 z2413
    obtain ⟨rfl, M2413, Kc2413, O2413, J2413_0, J2413_1, J2413_2, J2413_3, J2413_4⟩ := hQ2413
    obtain ⟨h2413, e2413⟩ : ∃ z, T2413.heap = z := ⟨_, rfl⟩
    rw [e2413] at Kc2413 O2413 J2413_0 J2413_1 J2413_2 J2413_3 J2413_4
    have N2413 := Fr.app N2405 M2413
    have K2413 : Keep h0 h2413 [] := K2405.trans Kc2413 (own_all2 (Or.inr sz_b62) (Or.inr sz_b109_68))
    have pre2414 : ∀ t, Steps p.tables e below (T2413.setTop (mkF m 40 #[iv p0, iv p1, iv p2, iv p3, rv b62, iv (1 : Int32), iv (3 : Int32), rv r_2405, .unset, .unset, .unset] [])) t → Steps p.tables e below (s₁.setTop (entryFrame m #[(.int p0), (.int p1), (.int p2), (.int p3)] maxLocals)) t := fun t kt => pre2412 _ (st2413.trans kt)
    have F2415 := J2405_0.keep Kc2413
    have pre2416 : ∀ t, Steps p.tables e below (T2413.setTop (mkF m 50 #[iv p0, iv p1, iv p2, iv p3, rv b62, iv (1 : Int32), iv (3 : Int32), rv r_2405, .unset, .unset, .unset] [(.ref r_2405), (.ref b62)])) t → Steps p.tables e below (s₁.setTop (entryFrame m #[(.int p0), (.int p1), (.int p2), (.int p3)] maxLocals)) t := fun t kt => by
      refine pre2414 _ ?_
      show Steps p.tables e below (T2413.setTop (mkF m 40 #[iv p0, iv p1, iv p2, iv p3, rv b62, iv (1 : Int32), iv (3 : Int32), rv r_2405, .unset, .unset, .unset] [])) _
      refine XS.iload X2413.here hx rfl (hb hby at_40) rfl ?_
      refine XS.iconst X2413.here hx rfl (hb hby at_42) ?_
      refine XS.icmpNo X2413.here hx rfl (hb hby at_43) rfl (XT.ii_lt_f (by decide)) ?_
      refine XS.aload X2413.here hx rfl (hb hby at_46) rfl rfl ?_
      show Steps p.tables e below (T2413.setTop (mkF m 48 #[iv p0, iv p1, iv p2, iv p3, rv b62, iv (1 : Int32), iv (3 : Int32), rv r_2405, .unset, .unset, .unset] [(.ref b62)])) _
      refine XS.aload X2413.here hx rfl (hb hby at_48) rfl rfl ?_
      exact kt
    obtain ⟨cq2417, kq2417, q2417a, q2417b, q2417c⟩ := isOf hZ e2413 J2413_0
    obtain ⟨_, _, ⟨T2417, L2417, k2417, n2417⟩, -, X2417, ⟨Lc2417, hQ2417, l2417, y2417, z2417⟩, st2417⟩ := X2413.virtualBack hx (y := (⟨"com/example/homethread/homethread/Items", "add", "(Ljava/lang/Object;)V"⟩ : MethodName)) (z := (⟨"com/example/homethread/homethread/Items", "add", "(Ljava/lang/Object;)V"⟩ : MethodName)) hown (mvT hZ (W 34 rfl)) (mvT hZ (W 35 rfl)) (notFace_of_selects (args := #[]) (mvT hZ (W 37 rfl))) (mvT hZ (W 37 rfl)) (mvT hZ (W 36 rfl)) (by decide) (backOf (W := 0) (rm_add6_2 l Z a0 hw [] b62 r_2405 k109_68 b109_68 h2413 n0 O2413 g_b62 g_b109_68 J68_3 F2415 J2413_0 J2413_1 J2413_2 J2413_3 J2413_4 (fun q => ne_b62_b109_68 q.symm)) hZ (W 38 rfl) (W 2 rfl) (by decide) (by decide)) q2417a q2417c (g := (mkF m 50 #[iv p0, iv p1, iv p2, iv p3, rv b62, iv (1 : Int32), iv (3 : Int32), rv r_2405, .unset, .unset, .unset] [(.ref r_2405), (.ref b62)])) rfl (by rw [hml]; rfl) (Steps.refl _) (argsL := [(.ref r_2405)]) (rest := []) (lenOf pd_15 rfl) rfl (by show 2 * 0 + _ ≤ _; exact Nat.le_of_eq rfl) (hb hby at_50) (fun _ _ => ⟨rfl, e2413, (by decide : 3 + 0 ≤ _), (by decide : 19 + 0 ≤ _)⟩)
    dsimp only [Pt.U, Pt.locs, Pt.cells, Pt.slots] at X2417 l2417 y2417 z2417 st2417 hQ2417
    replace l2417 := l2417.symm
    replace y2417 : 3 = k2417 := y2417.symm
    replace z2417 : 19 = n2417 := z2417.symm
    subst l2417 y2417 z2417
    obtain ⟨rfl, M2417, Kc2417, O2417, J2417_0, J2417_1, J2417_2, J2417_3, J2417_4⟩ := hQ2417
    obtain ⟨h2417, e2417⟩ : ∃ z, T2417.heap = z := ⟨_, rfl⟩
    rw [e2417] at Kc2417 O2417 J2417_0 J2417_1 J2417_2 J2417_3 J2417_4
    have N2417 := Fr.app N2413 M2417
    have K2417 : Keep h0 h2417 [] := K2413.trans Kc2417 (own_all2 (Or.inr sz_b62) (Or.inr sz_b109_68))
    have pre2418 : ∀ t, Steps p.tables e below (T2417.setTop (mkF m 53 #[iv p0, iv p1, iv p2, iv p3, rv b62, iv (1 : Int32), iv (3 : Int32), rv r_2405, .unset, .unset, .unset] [])) t → Steps p.tables e below (s₁.setTop (entryFrame m #[(.int p0), (.int p1), (.int p2), (.int p3)] maxLocals)) t := fun t kt => pre2416 _ (st2417.trans kt)
    have F2419 := F2415.keep Kc2417
    have pre2420 : ∀ t, Steps p.tables e below (T2417.setTop (mkF m 63 #[iv p0, iv p1, iv p2, iv p3, rv b62, iv (1 : Int32), iv (3 : Int32), rv r_2405, .unset, .unset, .unset] [(.ref r_2405), (.ref b62)])) t → Steps p.tables e below (s₁.setTop (entryFrame m #[(.int p0), (.int p1), (.int p2), (.int p3)] maxLocals)) t := fun t kt => by
      refine pre2418 _ ?_
      show Steps p.tables e below (T2417.setTop (mkF m 53 #[iv p0, iv p1, iv p2, iv p3, rv b62, iv (1 : Int32), iv (3 : Int32), rv r_2405, .unset, .unset, .unset] [])) _
      refine XS.iload X2417.here hx rfl (hb hby at_53) rfl ?_
      refine XS.iconst X2417.here hx rfl (hb hby at_55) ?_
      refine XS.icmpNo X2417.here hx rfl (hb hby at_56) rfl (XT.ii_lt_f (by decide)) ?_
      refine XS.aload X2417.here hx rfl (hb hby at_59) rfl rfl ?_
      show Steps p.tables e below (T2417.setTop (mkF m 61 #[iv p0, iv p1, iv p2, iv p3, rv b62, iv (1 : Int32), iv (3 : Int32), rv r_2405, .unset, .unset, .unset] [(.ref b62)])) _
      refine XS.aload X2417.here hx rfl (hb hby at_61) rfl rfl ?_
      exact kt
    obtain ⟨cq2421, kq2421, q2421a, q2421b, q2421c⟩ := isOf hZ e2417 J2417_0
    obtain ⟨_, _, ⟨T2421, L2421, k2421, n2421⟩, -, X2421, ⟨Lc2421, hQ2421, l2421, y2421, z2421⟩, st2421⟩ := X2417.virtualBack hx (y := (⟨"com/example/homethread/homethread/Items", "add", "(Ljava/lang/Object;)V"⟩ : MethodName)) (z := (⟨"com/example/homethread/homethread/Items", "add", "(Ljava/lang/Object;)V"⟩ : MethodName)) hown (mvT hZ (W 34 rfl)) (mvT hZ (W 35 rfl)) (notFace_of_selects (args := #[]) (mvT hZ (W 37 rfl))) (mvT hZ (W 37 rfl)) (mvT hZ (W 36 rfl)) (by decide) (backOf (W := 0) (rm_add6_5 l Z a0 hw [] b62 r_2405 k109_68 b109_68 h2417 n0 O2417 g_b62 g_b109_68 J68_3 F2419 J2417_0 J2417_1 J2417_2 J2417_3 J2417_4 (fun q => ne_b62_b109_68 q.symm)) hZ (W 38 rfl) (W 2 rfl) (by decide) (by decide)) q2421a q2421c (g := (mkF m 63 #[iv p0, iv p1, iv p2, iv p3, rv b62, iv (1 : Int32), iv (3 : Int32), rv r_2405, .unset, .unset, .unset] [(.ref r_2405), (.ref b62)])) rfl (by rw [hml]; rfl) (Steps.refl _) (argsL := [(.ref r_2405)]) (rest := []) (lenOf pd_15 rfl) rfl (by show 2 * 0 + _ ≤ _; exact Nat.le_of_eq rfl) (hb hby at_63) (fun _ _ => ⟨rfl, e2417, (by decide : 3 + 0 ≤ _), (by decide : 19 + 0 ≤ _)⟩)
    dsimp only [Pt.U, Pt.locs, Pt.cells, Pt.slots] at X2421 l2421 y2421 z2421 st2421 hQ2421
    replace l2421 := l2421.symm
    replace y2421 : 3 = k2421 := y2421.symm
    replace z2421 : 19 = n2421 := z2421.symm
    subst l2421 y2421 z2421
    obtain ⟨rfl, M2421, Kc2421, O2421, J2421_0, J2421_1, J2421_2, J2421_3, J2421_4⟩ := hQ2421
    obtain ⟨h2421, e2421⟩ : ∃ z, T2421.heap = z := ⟨_, rfl⟩
    rw [e2421] at Kc2421 O2421 J2421_0 J2421_1 J2421_2 J2421_3 J2421_4
    have N2421 := Fr.app N2417 M2421
    have K2421 : Keep h0 h2421 [] := K2417.trans Kc2421 (own_all2 (Or.inr sz_b62) (Or.inr sz_b109_68))
    have pre2422 : ∀ t, Steps p.tables e below (T2421.setTop (mkF m 66 #[iv p0, iv p1, iv p2, iv p3, rv b62, iv (1 : Int32), iv (3 : Int32), rv r_2405, .unset, .unset, .unset] [])) t → Steps p.tables e below (s₁.setTop (entryFrame m #[(.int p0), (.int p1), (.int p2), (.int p3)] maxLocals)) t := fun t kt => pre2420 _ (st2421.trans kt)
    have F2423 := F2419.keep Kc2421
    have pre2424 : ∀ t, Steps p.tables e below (T2421.setTop (mkF m 73 #[iv p0, iv p1, iv p2, iv p3, rv b62, iv (1 : Int32), iv (3 : Int32), rv r_2405, .unset, .unset, .unset] [(.ref b62)])) t → Steps p.tables e below (s₁.setTop (entryFrame m #[(.int p0), (.int p1), (.int p2), (.int p3)] maxLocals)) t := fun t kt => by
      refine pre2422 _ ?_
      show Steps p.tables e below (T2421.setTop (mkF m 66 #[iv p0, iv p1, iv p2, iv p3, rv b62, iv (1 : Int32), iv (3 : Int32), rv r_2405, .unset, .unset, .unset] [])) _
      refine XS.iload X2421.here hx rfl (hb hby at_66) rfl ?_
      refine XS.ifNo X2421.here hx rfl (hb hby at_68) rfl (XT.i0_eq_f (by decide)) ?_
      refine XS.aload X2421.here hx rfl (hb hby at_71) rfl rfl ?_
      exact kt
    obtain ⟨cq2425, kq2425, q2425a, q2425b, q2425c⟩ := isOf hZ e2421 J2421_0
    obtain ⟨_, _, ⟨T2425, L2425, k2425, n2425⟩, -, X2425, ⟨Lc2425, hQ2425, l2425, y2425, z2425⟩, st2425⟩ := X2421.virtualBack hx (y := (⟨"com/example/homethread/homethread/Items", "isEmpty", "()Z"⟩ : MethodName)) (z := (⟨"com/example/homethread/homethread/Items", "isEmpty", "()Z"⟩ : MethodName)) hown (mvT hZ (W 13 rfl)) (mvT hZ (W 14 rfl)) (notFace_of_selects (args := #[]) (mvT hZ (W 16 rfl))) (mvT hZ (W 16 rfl)) (mvT hZ (W 15 rfl)) (by decide) (backOf (W := 0) (rm_isEmpty3_3 l Z a0 hw [] b62 h2421 n0 O2421 J2421_4) hZ (W 17 rfl) (W 2 rfl) (by decide) (by decide)) q2425a q2425c (g := (mkF m 73 #[iv p0, iv p1, iv p2, iv p3, rv b62, iv (1 : Int32), iv (3 : Int32), rv r_2405, .unset, .unset, .unset] [(.ref b62)])) rfl (by rw [hml]; rfl) (Steps.refl _) (argsL := []) (rest := []) (lenOf pd_12 rfl) rfl (by show 2 * 0 + _ ≤ _; exact Nat.le_of_eq rfl) (hb hby at_73) (fun _ _ => ⟨rfl, e2421, (by decide : 3 + 0 ≤ _), (by decide : 19 + 0 ≤ _)⟩)
    dsimp only [Pt.U, Pt.locs, Pt.cells, Pt.slots] at X2425 l2425 y2425 z2425 st2425 hQ2425
    replace l2425 := l2425.symm
    replace y2425 : 3 = k2425 := y2425.symm
    replace z2425 : 19 = n2425 := z2425.symm
    subst l2425 y2425 z2425
    obtain ⟨rfl, M2425, e2425⟩ := hQ2425
    have N2425 := Fr.app N2421 M2425
    have pre2426 : ∀ t, Steps p.tables e below (T2425.setTop (mkF m 76 #[iv p0, iv p1, iv p2, iv p3, rv b62, iv (1 : Int32), iv (3 : Int32), rv r_2405, .unset, .unset, .unset] [(.int (0 : Int32))])) t → Steps p.tables e below (s₁.setTop (entryFrame m #[(.int p0), (.int p1), (.int p2), (.int p3)] maxLocals)) t := fun t kt => pre2424 _ (st2425.trans kt)
    have pre2427 : ∀ t, Steps p.tables e below (T2425.setTop (mkF m 99 #[iv p0, iv p1, iv p2, iv p3, rv b62, iv (1 : Int32), iv (3 : Int32), rv r_2405, .unset, .unset, .unset] [(.int (p2 &&& (3 : Int32)))])) t → Steps p.tables e below (s₁.setTop (entryFrame m #[(.int p0), (.int p1), (.int p2), (.int p3)] maxLocals)) t := fun t kt => by
      refine pre2426 _ ?_
      show Steps p.tables e below (T2425.setTop (mkF m 76 #[iv p0, iv p1, iv p2, iv p3, rv b62, iv (1 : Int32), iv (3 : Int32), rv r_2405, .unset, .unset, .unset] [(.int (0 : Int32))])) _
      refine XS.iload X2425.here hx rfl (hb hby at_76) rfl ?_
      refine XS.ifYes X2425.here hx rfl (pc0 := 78) (pc' := 85) rfl (hb hby at_78) rfl (XT.i0_ne_t (by decide)) (by decide) (by decide) ?_
      refine XS.iconst X2425.here hx rfl (hb hby at_85) ?_
      refine XS.icmpNo X2425.here hx rfl (hb hby at_86) rfl (XT.ii_ne_f (by decide)) ?_
      show Steps p.tables e below (T2425.setTop (mkF m 89 #[iv p0, iv p1, iv p2, iv p3, rv b62, iv (1 : Int32), iv (3 : Int32), rv r_2405, .unset, .unset, .unset] [])) _
      refine XS.iconst X2425.here hx rfl (hb hby at_89) ?_
      refine XS.goto X2425.here hx rfl (pc0 := 90) (pc' := 94) rfl (hb hby at_90) (by decide) (by decide) ?_
      refine XS.istore X2425.here hx rfl (hb hby at_94) rfl (l' := #[iv p0, iv p1, iv p2, iv p3, rv b62, iv (1 : Int32), iv (3 : Int32), rv r_2405, .unset, .unset, .unset]) rfl ?_
      refine XS.iloadN X2425.here hx rfl (hb hby at_96) rfl ?_
      show Steps p.tables e below (T2425.setTop (mkF m 97 #[iv p0, iv p1, iv p2, iv p3, rv b62, iv (1 : Int32), iv (3 : Int32), rv r_2405, .unset, .unset, .unset] [(.int p2)])) _
      refine XS.iconst X2425.here hx rfl (hb hby at_97) ?_
      refine XS.iand X2425.here hx rfl (hb hby at_98) rfl ?_
      exact kt
    rcases own_mask3 p2 with hv2428 | hv2428 | hv2428 | hv2428
    · rw [hv2428] at pre2427
      have pre2429 : ∀ t, Steps p.tables e below (T2425.setTop (mkF m 205 #[iv p0, iv p1, iv p2, iv p3, rv b62, iv (1 : Int32), iv (3 : Int32), rv r_2405, iv (0 : Int32), iv (3 : Int32), .unset] [(.ref b62)])) t → Steps p.tables e below (s₁.setTop (entryFrame m #[(.int p0), (.int p1), (.int p2), (.int p3)] maxLocals)) t := fun t kt => by
        refine pre2427 _ ?_
        show Steps p.tables e below (T2425.setTop (mkF m 99 #[iv p0, iv p1, iv p2, iv p3, rv b62, iv (1 : Int32), iv (3 : Int32), rv r_2405, .unset, .unset, .unset] [(.int (0 : Int32))])) _
        refine XS.istore X2425.here hx rfl (hb hby at_99) rfl (l' := #[iv p0, iv p1, iv p2, iv p3, rv b62, iv (1 : Int32), iv (3 : Int32), rv r_2405, iv (0 : Int32), .unset, .unset]) rfl ?_
        refine XS.iload X2425.here hx rfl (hb hby at_101) rfl ?_
        refine XS.istore X2425.here hx rfl (hb hby at_103) rfl (l' := #[iv p0, iv p1, iv p2, iv p3, rv b62, iv (1 : Int32), iv (3 : Int32), rv r_2405, iv (0 : Int32), iv (3 : Int32), .unset]) rfl ?_
        refine XS.iload X2425.here hx rfl (hb hby at_105) rfl ?_
        show Steps p.tables e below (T2425.setTop (mkF m 107 #[iv p0, iv p1, iv p2, iv p3, rv b62, iv (1 : Int32), iv (3 : Int32), rv r_2405, iv (0 : Int32), iv (3 : Int32), .unset] [(.int (0 : Int32))])) _
        refine XS.iconst X2425.here hx rfl (hb hby at_107) ?_
        refine XS.icmpYes X2425.here hx rfl (pc0 := 108) (pc' := 122) rfl (hb hby at_108) rfl (XT.ii_ne_t (by decide)) (by decide) (by decide) ?_
        refine XS.iload X2425.here hx rfl (hb hby at_122) rfl ?_
        refine XS.iconst X2425.here hx rfl (hb hby at_124) ?_
        show Steps p.tables e below (T2425.setTop (mkF m 125 #[iv p0, iv p1, iv p2, iv p3, rv b62, iv (1 : Int32), iv (3 : Int32), rv r_2405, iv (0 : Int32), iv (3 : Int32), .unset] [(.int (2 : Int32)), (.int (0 : Int32))])) _
        refine XS.icmpYes X2425.here hx rfl (pc0 := 125) (pc' := 140) rfl (hb hby at_125) rfl (XT.ii_ne_t (by decide)) (by decide) (by decide) ?_
        refine XS.iload X2425.here hx rfl (hb hby at_140) rfl ?_
        refine XS.iconst X2425.here hx rfl (hb hby at_142) ?_
        refine XS.icmpYes X2425.here hx rfl (pc0 := 143) (pc' := 198) rfl (hb hby at_143) rfl (XT.ii_ne_t (by decide)) (by decide) (by decide) ?_
        show Steps p.tables e below (T2425.setTop (mkF m 198 #[iv p0, iv p1, iv p2, iv p3, rv b62, iv (1 : Int32), iv (3 : Int32), rv r_2405, iv (0 : Int32), iv (3 : Int32), .unset] [])) _
        refine XS.iload X2425.here hx rfl (hb hby at_198) rfl ?_
        refine XS.ifNo X2425.here hx rfl (hb hby at_200) rfl (XT.i0_eq_f (by decide)) ?_
        refine XS.aload X2425.here hx rfl (hb hby at_203) rfl rfl ?_
        exact kt
      obtain ⟨cq2430, kq2430, q2430a, q2430b, q2430c⟩ := isOf hZ e2425 J2421_0
      obtain ⟨_, _, ⟨T2430, L2430, k2430, n2430⟩, -, X2430, ⟨Lc2430, hQ2430, l2430, y2430, z2430⟩, st2430⟩ := X2425.virtualBack hx (y := (⟨"com/example/homethread/homethread/Items", "isEmpty", "()Z"⟩ : MethodName)) (z := (⟨"com/example/homethread/homethread/Items", "isEmpty", "()Z"⟩ : MethodName)) hown (mvT hZ (W 13 rfl)) (mvT hZ (W 14 rfl)) (notFace_of_selects (args := #[]) (mvT hZ (W 16 rfl))) (mvT hZ (W 16 rfl)) (mvT hZ (W 15 rfl)) (by decide) (backOf (W := 0) (rm_isEmpty3_3 l Z a0 hw [] b62 h2421 n0 O2421 J2421_4) hZ (W 17 rfl) (W 2 rfl) (by decide) (by decide)) q2430a q2430c (g := (mkF m 205 #[iv p0, iv p1, iv p2, iv p3, rv b62, iv (1 : Int32), iv (3 : Int32), rv r_2405, iv (0 : Int32), iv (3 : Int32), .unset] [(.ref b62)])) rfl (by rw [hml]; rfl) (Steps.refl _) (argsL := []) (rest := []) (lenOf pd_12 rfl) rfl (by show 2 * 0 + _ ≤ _; exact Nat.le_of_eq rfl) (hb hby at_205) (fun _ _ => ⟨rfl, e2425, (by decide : 3 + 0 ≤ _), (by decide : 19 + 0 ≤ _)⟩)
      dsimp only [Pt.U, Pt.locs, Pt.cells, Pt.slots] at X2430 l2430 y2430 z2430 st2430 hQ2430
      replace l2430 := l2430.symm
      replace y2430 : 3 = k2430 := y2430.symm
      replace z2430 : 19 = n2430 := z2430.symm
      subst l2430 y2430 z2430
      obtain ⟨rfl, M2430, e2430⟩ := hQ2430
      have N2430 := Fr.app N2425 M2430
      have pre2431 : ∀ t, Steps p.tables e below (T2430.setTop (mkF m 208 #[iv p0, iv p1, iv p2, iv p3, rv b62, iv (1 : Int32), iv (3 : Int32), rv r_2405, iv (0 : Int32), iv (3 : Int32), .unset] [(.int (0 : Int32))])) t → Steps p.tables e below (s₁.setTop (entryFrame m #[(.int p0), (.int p1), (.int p2), (.int p3)] maxLocals)) t := fun t kt => pre2429 _ (st2430.trans kt)
      have pre2432 : ∀ t, Steps p.tables e below (T2430.setTop (mkF m 232 #[iv p0, iv p1, iv p2, iv p3, rv b62, iv (1 : Int32), iv (3 : Int32), rv r_2405, iv (0 : Int32), iv (3 : Int32), .unset] [(.ref r_2405), (.ref b62)])) t → Steps p.tables e below (s₁.setTop (entryFrame m #[(.int p0), (.int p1), (.int p2), (.int p3)] maxLocals)) t := fun t kt => by
        refine pre2431 _ ?_
        show Steps p.tables e below (T2430.setTop (mkF m 208 #[iv p0, iv p1, iv p2, iv p3, rv b62, iv (1 : Int32), iv (3 : Int32), rv r_2405, iv (0 : Int32), iv (3 : Int32), .unset] [(.int (0 : Int32))])) _
        refine XS.iload X2430.here hx rfl (hb hby at_208) rfl ?_
        refine XS.ifYes X2430.here hx rfl (pc0 := 210) (pc' := 217) rfl (hb hby at_210) rfl (XT.i0_ne_t (by decide)) (by decide) (by decide) ?_
        refine XS.iconst X2430.here hx rfl (hb hby at_217) ?_
        refine XS.icmpNo X2430.here hx rfl (hb hby at_218) rfl (XT.ii_ne_f (by decide)) ?_
        show Steps p.tables e below (T2430.setTop (mkF m 221 #[iv p0, iv p1, iv p2, iv p3, rv b62, iv (1 : Int32), iv (3 : Int32), rv r_2405, iv (0 : Int32), iv (3 : Int32), .unset] [])) _
        refine XS.iconst X2430.here hx rfl (hb hby at_221) ?_
        refine XS.goto X2430.here hx rfl (pc0 := 222) (pc' := 226) rfl (hb hby at_222) (by decide) (by decide) ?_
        refine XS.istore X2430.here hx rfl (hb hby at_226) rfl (l' := #[iv p0, iv p1, iv p2, iv p3, rv b62, iv (1 : Int32), iv (3 : Int32), rv r_2405, iv (0 : Int32), iv (3 : Int32), .unset]) rfl ?_
        refine XS.aload X2430.here hx rfl (hb hby at_228) rfl rfl ?_
        show Steps p.tables e below (T2430.setTop (mkF m 230 #[iv p0, iv p1, iv p2, iv p3, rv b62, iv (1 : Int32), iv (3 : Int32), rv r_2405, iv (0 : Int32), iv (3 : Int32), .unset] [(.ref b62)])) _
        refine XS.aload X2430.here hx rfl (hb hby at_230) rfl rfl ?_
        exact kt
      obtain ⟨cq2433, kq2433, q2433a, q2433b, q2433c⟩ := isOf hZ e2430 J2421_0
      obtain ⟨_, _, ⟨T2433, L2433, k2433, n2433⟩, -, X2433, ⟨Lc2433, hQ2433, l2433, y2433, z2433⟩, st2433⟩ := X2430.virtualBack hx (y := (⟨"com/example/homethread/homethread/Items", "add", "(Ljava/lang/Object;)V"⟩ : MethodName)) (z := (⟨"com/example/homethread/homethread/Items", "add", "(Ljava/lang/Object;)V"⟩ : MethodName)) hown (mvT hZ (W 34 rfl)) (mvT hZ (W 35 rfl)) (notFace_of_selects (args := #[]) (mvT hZ (W 37 rfl))) (mvT hZ (W 37 rfl)) (mvT hZ (W 36 rfl)) (by decide) (backOf (W := 0) (rm_add6_7 l Z a0 hw [] b62 r_2405 k109_68 b109_68 h2421 n0 O2421 g_b62 g_b109_68 J68_3 F2423 J2421_0 J2421_1 J2421_2 J2421_3 J2421_4 (fun q => ne_b62_b109_68 q.symm)) hZ (W 38 rfl) (W 2 rfl) (by decide) (by decide)) q2433a q2433c (g := (mkF m 232 #[iv p0, iv p1, iv p2, iv p3, rv b62, iv (1 : Int32), iv (3 : Int32), rv r_2405, iv (0 : Int32), iv (3 : Int32), .unset] [(.ref r_2405), (.ref b62)])) rfl (by rw [hml]; rfl) (Steps.refl _) (argsL := [(.ref r_2405)]) (rest := []) (lenOf pd_15 rfl) rfl (by show 2 * 0 + _ ≤ _; exact Nat.le_of_eq rfl) (hb hby at_232) (fun _ _ => ⟨rfl, e2430, (by decide : 3 + 0 ≤ _), (by decide : 19 + 0 ≤ _)⟩)
      dsimp only [Pt.U, Pt.locs, Pt.cells, Pt.slots] at X2433 l2433 y2433 z2433 st2433 hQ2433
      replace l2433 := l2433.symm
      replace y2433 : 3 = k2433 := y2433.symm
      replace z2433 : 19 = n2433 := z2433.symm
      subst l2433 y2433 z2433
      obtain ⟨rfl, M2433, Kc2433, O2433, J2433_0, J2433_1, J2433_2, J2433_3, J2433_4⟩ := hQ2433
      obtain ⟨h2433, e2433⟩ : ∃ z, T2433.heap = z := ⟨_, rfl⟩
      rw [e2433] at Kc2433 O2433 J2433_0 J2433_1 J2433_2 J2433_3 J2433_4
      have N2433 := Fr.app N2430 M2433
      have K2433 : Keep h0 h2433 [] := K2421.trans Kc2433 (own_all2 (Or.inr sz_b62) (Or.inr sz_b109_68))
      have pre2539 : ∀ t, Steps p.tables e below (T2433.setTop (mkF m 235 #[iv p0, iv p1, iv p2, iv p3, rv b62, iv (1 : Int32), iv (3 : Int32), rv r_2405, iv (0 : Int32), iv (3 : Int32), .unset] [])) t → Steps p.tables e below (s₁.setTop (entryFrame m #[(.int p0), (.int p1), (.int p2), (.int p3)] maxLocals)) t := fun t kt => pre2432 _ (st2433.trans kt)
      have F2540 := F2423.keep Kc2433
      have pre2541 : ∀ t, Steps p.tables e below (T2433.setTop (mkF m 242 #[iv p0, iv p1, iv p2, iv p3, rv b62, iv (1 : Int32), iv (3 : Int32), rv r_2405, iv (0 : Int32), iv (3 : Int32), .unset] [(.ref b62)])) t → Steps p.tables e below (s₁.setTop (entryFrame m #[(.int p0), (.int p1), (.int p2), (.int p3)] maxLocals)) t := fun t kt => by
        refine pre2539 _ ?_
        show Steps p.tables e below (T2433.setTop (mkF m 235 #[iv p0, iv p1, iv p2, iv p3, rv b62, iv (1 : Int32), iv (3 : Int32), rv r_2405, iv (0 : Int32), iv (3 : Int32), .unset] [])) _
        refine XS.iload X2433.here hx rfl (hb hby at_235) rfl ?_
        refine XS.ifNo X2433.here hx rfl (hb hby at_237) rfl (XT.i0_eq_f (by decide)) ?_
        refine XS.aload X2433.here hx rfl (hb hby at_240) rfl rfl ?_
        exact kt
      obtain ⟨cq2542, kq2542, q2542a, q2542b, q2542c⟩ := isOf hZ e2433 J2433_0
      obtain ⟨_, _, ⟨T2542, L2542, k2542, n2542⟩, -, X2542, ⟨Lc2542, hQ2542, l2542, y2542, z2542⟩, st2542⟩ := X2433.virtualBack hx (y := (⟨"com/example/homethread/homethread/Items", "isEmpty", "()Z"⟩ : MethodName)) (z := (⟨"com/example/homethread/homethread/Items", "isEmpty", "()Z"⟩ : MethodName)) hown (mvT hZ (W 13 rfl)) (mvT hZ (W 14 rfl)) (notFace_of_selects (args := #[]) (mvT hZ (W 16 rfl))) (mvT hZ (W 16 rfl)) (mvT hZ (W 15 rfl)) (by decide) (backOf (W := 0) (rm_isEmpty3_4 l Z a0 hw [] b62 h2433 n0 O2433 J2433_4) hZ (W 17 rfl) (W 2 rfl) (by decide) (by decide)) q2542a q2542c (g := (mkF m 242 #[iv p0, iv p1, iv p2, iv p3, rv b62, iv (1 : Int32), iv (3 : Int32), rv r_2405, iv (0 : Int32), iv (3 : Int32), .unset] [(.ref b62)])) rfl (by rw [hml]; rfl) (Steps.refl _) (argsL := []) (rest := []) (lenOf pd_12 rfl) rfl (by show 2 * 0 + _ ≤ _; exact Nat.le_of_eq rfl) (hb hby at_242) (fun _ _ => ⟨rfl, e2433, (by decide : 3 + 0 ≤ _), (by decide : 19 + 0 ≤ _)⟩)
      dsimp only [Pt.U, Pt.locs, Pt.cells, Pt.slots] at X2542 l2542 y2542 z2542 st2542 hQ2542
      replace l2542 := l2542.symm
      replace y2542 : 3 = k2542 := y2542.symm
      replace z2542 : 19 = n2542 := z2542.symm
      subst l2542 y2542 z2542
      obtain ⟨rfl, M2542, e2542⟩ := hQ2542
      have N2542 := Fr.app N2433 M2542
      have pre2555 : ∀ t, Steps p.tables e below (T2542.setTop (mkF m 245 #[iv p0, iv p1, iv p2, iv p3, rv b62, iv (1 : Int32), iv (3 : Int32), rv r_2405, iv (0 : Int32), iv (3 : Int32), .unset] [(.int (0 : Int32))])) t → Steps p.tables e below (s₁.setTop (entryFrame m #[(.int p0), (.int p1), (.int p2), (.int p3)] maxLocals)) t := fun t kt => pre2541 _ (st2542.trans kt)
      have pre2556 : ∀ t, Steps p.tables e below (T2542.setTop (mkF m 257 #[iv p0, iv p1, iv p2, iv p3, rv b62, iv (1 : Int32), iv (3 : Int32), rv r_2405, iv (0 : Int32), iv (3 : Int32), .unset] [(.int (1 : Int32))])) t → Steps p.tables e below (s₁.setTop (entryFrame m #[(.int p0), (.int p1), (.int p2), (.int p3)] maxLocals)) t := fun t kt => by
        refine pre2555 _ ?_
        show Steps p.tables e below (T2542.setTop (mkF m 245 #[iv p0, iv p1, iv p2, iv p3, rv b62, iv (1 : Int32), iv (3 : Int32), rv r_2405, iv (0 : Int32), iv (3 : Int32), .unset] [(.int (0 : Int32))])) _
        refine XS.ifNo X2542.here hx rfl (hb hby at_245) rfl (XT.i0_ne_f (by decide)) ?_
        refine XS.iconst X2542.here hx rfl (hb hby at_248) ?_
        refine XS.goto X2542.here hx rfl (pc0 := 249) (pc' := 253) rfl (hb hby at_249) (by decide) (by decide) ?_
        refine XS.istore X2542.here hx rfl (hb hby at_253) rfl (l' := #[iv p0, iv p1, iv p2, iv p3, rv b62, iv (1 : Int32), iv (3 : Int32), rv r_2405, iv (0 : Int32), iv (3 : Int32), .unset]) rfl ?_
        show Steps p.tables e below (T2542.setTop (mkF m 255 #[iv p0, iv p1, iv p2, iv p3, rv b62, iv (1 : Int32), iv (3 : Int32), rv r_2405, iv (0 : Int32), iv (3 : Int32), .unset] [])) _
        refine XS.iload X2542.here hx rfl (hb hby at_255) rfl ?_
        exact kt
      obtain ⟨fs, hr, hrun, hended, hW, hsame⟩ := X2542.leave (v := some (.int (1 : Int32))) (fun h => by rw [Bd.returns] at h; cases h)
      refine ⟨_, _, pre2556 _ (retN X2542 hx (t := .boolean) Bd.returns (by simp) (hb hby at_257) hr), hrun, hended, _, _, rfl, ?_, ⟨_, rfl⟩, hW, hsame.mono (by decide) (by decide)⟩
      show Q_law Z p0 p1 p2 p3 ac mr a_NO_SLOTS kn h0 n0 _ T2542.heap _
      rw [e2542]
      exact ⟨rfl, N2542⟩
    · rw [hv2428] at pre2427
      have pre2557 : ∀ t, Steps p.tables e below (T2425.setTop (mkF m 113 #[iv p0, iv p1, iv p2, iv p3, rv b62, iv (1 : Int32), iv (3 : Int32), rv r_2405, iv (1 : Int32), iv (3 : Int32), .unset] [(.ref b62)])) t → Steps p.tables e below (s₁.setTop (entryFrame m #[(.int p0), (.int p1), (.int p2), (.int p3)] maxLocals)) t := fun t kt => by
        refine pre2427 _ ?_
        show Steps p.tables e below (T2425.setTop (mkF m 99 #[iv p0, iv p1, iv p2, iv p3, rv b62, iv (1 : Int32), iv (3 : Int32), rv r_2405, .unset, .unset, .unset] [(.int (1 : Int32))])) _
        refine XS.istore X2425.here hx rfl (hb hby at_99) rfl (l' := #[iv p0, iv p1, iv p2, iv p3, rv b62, iv (1 : Int32), iv (3 : Int32), rv r_2405, iv (1 : Int32), .unset, .unset]) rfl ?_
        refine XS.iload X2425.here hx rfl (hb hby at_101) rfl ?_
        refine XS.istore X2425.here hx rfl (hb hby at_103) rfl (l' := #[iv p0, iv p1, iv p2, iv p3, rv b62, iv (1 : Int32), iv (3 : Int32), rv r_2405, iv (1 : Int32), iv (3 : Int32), .unset]) rfl ?_
        refine XS.iload X2425.here hx rfl (hb hby at_105) rfl ?_
        show Steps p.tables e below (T2425.setTop (mkF m 107 #[iv p0, iv p1, iv p2, iv p3, rv b62, iv (1 : Int32), iv (3 : Int32), rv r_2405, iv (1 : Int32), iv (3 : Int32), .unset] [(.int (1 : Int32))])) _
        refine XS.iconst X2425.here hx rfl (hb hby at_107) ?_
        refine XS.icmpNo X2425.here hx rfl (hb hby at_108) rfl (XT.ii_ne_f (by decide)) ?_
        refine XS.aload X2425.here hx rfl (hb hby at_111) rfl rfl ?_
        exact kt
      obtain ⟨cq2558, kq2558, q2558a, q2558b, q2558c⟩ := isOf hZ e2425 J2421_0
      obtain ⟨_, _, ⟨T2558, L2558, k2558, n2558⟩, -, X2558, ⟨Lc2558, hQ2558, l2558, y2558, z2558⟩, st2558⟩ := X2425.virtualBack hx (y := (⟨"com/example/homethread/homethread/Items", "clear", "()V"⟩ : MethodName)) (z := (⟨"com/example/homethread/homethread/Items", "clear", "()V"⟩ : MethodName)) hown (mvT hZ (W 87 rfl)) (mvT hZ (W 88 rfl)) (notFace_of_selects (args := #[]) (mvT hZ (W 90 rfl))) (mvT hZ (W 90 rfl)) (mvT hZ (W 89 rfl)) (by decide) (backOf (W := 0) (rm_clear14_3 l Z a0 hw [] b62 b109_68 h2421 n0 O2421 g_b62 J2421_0 J2421_2 J2421_4) hZ (W 91 rfl) (W 2 rfl) (by decide) (by decide)) q2558a q2558c (g := (mkF m 113 #[iv p0, iv p1, iv p2, iv p3, rv b62, iv (1 : Int32), iv (3 : Int32), rv r_2405, iv (1 : Int32), iv (3 : Int32), .unset] [(.ref b62)])) rfl (by rw [hml]; rfl) (Steps.refl _) (argsL := []) (rest := []) (lenOf pd_4 rfl) rfl (by show 2 * 0 + _ ≤ _; exact Nat.le_of_eq rfl) (hb hby at_113) (fun _ _ => ⟨rfl, e2425, (by decide : 3 + 0 ≤ _), (by decide : 19 + 0 ≤ _)⟩)
      dsimp only [Pt.U, Pt.locs, Pt.cells, Pt.slots] at X2558 l2558 y2558 z2558 st2558 hQ2558
      replace l2558 := l2558.symm
      replace y2558 : 3 = k2558 := y2558.symm
      replace z2558 : 19 = n2558 := z2558.symm
      subst l2558 y2558 z2558
      obtain ⟨rfl, M2558, Kc2558, O2558, J2558_0, J2558_1, J2558_2⟩ := hQ2558
      obtain ⟨h2558, e2558⟩ : ∃ z, T2558.heap = z := ⟨_, rfl⟩
      rw [e2558] at Kc2558 O2558 J2558_0 J2558_1 J2558_2
      have N2558 := Fr.app N2425 M2558
      have K2558 : Keep h0 h2558 [] := K2421.trans Kc2558 (own_all1 (Or.inr sz_b62))
      have pre2586 : ∀ t, Steps p.tables e below (T2558.setTop (mkF m 116 #[iv p0, iv p1, iv p2, iv p3, rv b62, iv (1 : Int32), iv (3 : Int32), rv r_2405, iv (1 : Int32), iv (3 : Int32), .unset] [])) t → Steps p.tables e below (s₁.setTop (entryFrame m #[(.int p0), (.int p1), (.int p2), (.int p3)] maxLocals)) t := fun t kt => pre2557 _ (st2558.trans kt)
      have F2587 := F2423.keep Kc2558
      have F2588 := J2421_1.keep Kc2558
      have F2589 := J2421_3.keep Kc2558 (own_nm1 (fun q => ne_b62_b109_68 q.symm))
      have pre2590 : ∀ t, Steps p.tables e below (T2558.setTop (mkF m 205 #[iv p0, iv p1, iv p2, iv p3, rv b62, iv (1 : Int32), iv (3 : Int32), rv r_2405, iv (1 : Int32), iv (0 : Int32), .unset] [(.ref b62)])) t → Steps p.tables e below (s₁.setTop (entryFrame m #[(.int p0), (.int p1), (.int p2), (.int p3)] maxLocals)) t := fun t kt => by
        refine pre2586 _ ?_
        show Steps p.tables e below (T2558.setTop (mkF m 116 #[iv p0, iv p1, iv p2, iv p3, rv b62, iv (1 : Int32), iv (3 : Int32), rv r_2405, iv (1 : Int32), iv (3 : Int32), .unset] [])) _
        refine XS.iconst X2558.here hx rfl (hb hby at_116) ?_
        refine XS.istore X2558.here hx rfl (hb hby at_117) rfl (l' := #[iv p0, iv p1, iv p2, iv p3, rv b62, iv (1 : Int32), iv (3 : Int32), rv r_2405, iv (1 : Int32), iv (0 : Int32), .unset]) rfl ?_
        refine XS.goto X2558.here hx rfl (pc0 := 119) (pc' := 198) rfl (hb hby at_119) (by decide) (by decide) ?_
        refine XS.iload X2558.here hx rfl (hb hby at_198) rfl ?_
        show Steps p.tables e below (T2558.setTop (mkF m 200 #[iv p0, iv p1, iv p2, iv p3, rv b62, iv (1 : Int32), iv (3 : Int32), rv r_2405, iv (1 : Int32), iv (0 : Int32), .unset] [(.int (1 : Int32))])) _
        refine XS.ifNo X2558.here hx rfl (hb hby at_200) rfl (XT.i0_eq_f (by decide)) ?_
        refine XS.aload X2558.here hx rfl (hb hby at_203) rfl rfl ?_
        exact kt
      obtain ⟨cq2591, kq2591, q2591a, q2591b, q2591c⟩ := isOf hZ e2558 J2558_0
      obtain ⟨_, _, ⟨T2591, L2591, k2591, n2591⟩, -, X2591, ⟨Lc2591, hQ2591, l2591, y2591, z2591⟩, st2591⟩ := X2558.virtualBack hx (y := (⟨"com/example/homethread/homethread/Items", "isEmpty", "()Z"⟩ : MethodName)) (z := (⟨"com/example/homethread/homethread/Items", "isEmpty", "()Z"⟩ : MethodName)) hown (mvT hZ (W 13 rfl)) (mvT hZ (W 14 rfl)) (notFace_of_selects (args := #[]) (mvT hZ (W 16 rfl))) (mvT hZ (W 16 rfl)) (mvT hZ (W 15 rfl)) (by decide) (backOf (W := 0) (rm_isEmpty3_0 l Z a0 hw [] b62 h2558 n0 O2558 J2558_2) hZ (W 17 rfl) (W 2 rfl) (by decide) (by decide)) q2591a q2591c (g := (mkF m 205 #[iv p0, iv p1, iv p2, iv p3, rv b62, iv (1 : Int32), iv (3 : Int32), rv r_2405, iv (1 : Int32), iv (0 : Int32), .unset] [(.ref b62)])) rfl (by rw [hml]; rfl) (Steps.refl _) (argsL := []) (rest := []) (lenOf pd_12 rfl) rfl (by show 2 * 0 + _ ≤ _; exact Nat.le_of_eq rfl) (hb hby at_205) (fun _ _ => ⟨rfl, e2558, (by decide : 3 + 0 ≤ _), (by decide : 19 + 0 ≤ _)⟩)
      dsimp only [Pt.U, Pt.locs, Pt.cells, Pt.slots] at X2591 l2591 y2591 z2591 st2591 hQ2591
      replace l2591 := l2591.symm
      replace y2591 : 3 = k2591 := y2591.symm
      replace z2591 : 19 = n2591 := z2591.symm
      subst l2591 y2591 z2591
      obtain ⟨rfl, M2591, e2591⟩ := hQ2591
      have N2591 := Fr.app N2558 M2591
      have pre2592 : ∀ t, Steps p.tables e below (T2591.setTop (mkF m 208 #[iv p0, iv p1, iv p2, iv p3, rv b62, iv (1 : Int32), iv (3 : Int32), rv r_2405, iv (1 : Int32), iv (0 : Int32), .unset] [(.int (1 : Int32))])) t → Steps p.tables e below (s₁.setTop (entryFrame m #[(.int p0), (.int p1), (.int p2), (.int p3)] maxLocals)) t := fun t kt => pre2590 _ (st2591.trans kt)
      have pre2593 : ∀ t, Steps p.tables e below (T2591.setTop (mkF m 232 #[iv p0, iv p1, iv p2, iv p3, rv b62, iv (1 : Int32), iv (3 : Int32), rv r_2405, iv (1 : Int32), iv (0 : Int32), .unset] [(.ref r_2405), (.ref b62)])) t → Steps p.tables e below (s₁.setTop (entryFrame m #[(.int p0), (.int p1), (.int p2), (.int p3)] maxLocals)) t := fun t kt => by
        refine pre2592 _ ?_
        show Steps p.tables e below (T2591.setTop (mkF m 208 #[iv p0, iv p1, iv p2, iv p3, rv b62, iv (1 : Int32), iv (3 : Int32), rv r_2405, iv (1 : Int32), iv (0 : Int32), .unset] [(.int (1 : Int32))])) _
        refine XS.iload X2591.here hx rfl (hb hby at_208) rfl ?_
        refine XS.ifNo X2591.here hx rfl (hb hby at_210) rfl (XT.i0_ne_f (by decide)) ?_
        refine XS.iconst X2591.here hx rfl (hb hby at_213) ?_
        refine XS.goto X2591.here hx rfl (pc0 := 214) (pc' := 218) rfl (hb hby at_214) (by decide) (by decide) ?_
        show Steps p.tables e below (T2591.setTop (mkF m 218 #[iv p0, iv p1, iv p2, iv p3, rv b62, iv (1 : Int32), iv (3 : Int32), rv r_2405, iv (1 : Int32), iv (0 : Int32), .unset] [(.int (1 : Int32)), (.int (1 : Int32))])) _
        refine XS.icmpNo X2591.here hx rfl (hb hby at_218) rfl (XT.ii_ne_f (by decide)) ?_
        refine XS.iconst X2591.here hx rfl (hb hby at_221) ?_
        refine XS.goto X2591.here hx rfl (pc0 := 222) (pc' := 226) rfl (hb hby at_222) (by decide) (by decide) ?_
        refine XS.istore X2591.here hx rfl (hb hby at_226) rfl (l' := #[iv p0, iv p1, iv p2, iv p3, rv b62, iv (1 : Int32), iv (3 : Int32), rv r_2405, iv (1 : Int32), iv (0 : Int32), .unset]) rfl ?_
        show Steps p.tables e below (T2591.setTop (mkF m 228 #[iv p0, iv p1, iv p2, iv p3, rv b62, iv (1 : Int32), iv (3 : Int32), rv r_2405, iv (1 : Int32), iv (0 : Int32), .unset] [])) _
        refine XS.aload X2591.here hx rfl (hb hby at_228) rfl rfl ?_
        refine XS.aload X2591.here hx rfl (hb hby at_230) rfl rfl ?_
        exact kt
      obtain ⟨cq2594, kq2594, q2594a, q2594b, q2594c⟩ := isOf hZ e2591 J2558_0
      obtain ⟨_, _, ⟨T2594, L2594, k2594, n2594⟩, -, X2594, ⟨Lc2594, hQ2594, l2594, y2594, z2594⟩, st2594⟩ := X2591.virtualBack hx (y := (⟨"com/example/homethread/homethread/Items", "add", "(Ljava/lang/Object;)V"⟩ : MethodName)) (z := (⟨"com/example/homethread/homethread/Items", "add", "(Ljava/lang/Object;)V"⟩ : MethodName)) hown (mvT hZ (W 34 rfl)) (mvT hZ (W 35 rfl)) (notFace_of_selects (args := #[]) (mvT hZ (W 37 rfl))) (mvT hZ (W 37 rfl)) (mvT hZ (W 36 rfl)) (by decide) (backOf (W := 0) (rm_add6_8 l Z a0 hw [] b62 r_2405 k109_68 b109_68 h2558 n0 O2558 g_b109_68 g_b62 J68_3 F2587 F2588 F2589 J2558_0 J2558_1 J2558_2 (fun q => ne_b62_b109_68 q.symm)) hZ (W 38 rfl) (W 2 rfl) (by decide) (by decide)) q2594a q2594c (g := (mkF m 232 #[iv p0, iv p1, iv p2, iv p3, rv b62, iv (1 : Int32), iv (3 : Int32), rv r_2405, iv (1 : Int32), iv (0 : Int32), .unset] [(.ref r_2405), (.ref b62)])) rfl (by rw [hml]; rfl) (Steps.refl _) (argsL := [(.ref r_2405)]) (rest := []) (lenOf pd_15 rfl) rfl (by show 2 * 0 + _ ≤ _; exact Nat.le_of_eq rfl) (hb hby at_232) (fun _ _ => ⟨rfl, e2591, (by decide : 3 + 0 ≤ _), (by decide : 19 + 0 ≤ _)⟩)
      dsimp only [Pt.U, Pt.locs, Pt.cells, Pt.slots] at X2594 l2594 y2594 z2594 st2594 hQ2594
      replace l2594 := l2594.symm
      replace y2594 : 3 = k2594 := y2594.symm
      replace z2594 : 19 = n2594 := z2594.symm
      subst l2594 y2594 z2594
      obtain ⟨rfl, M2594, Kc2594, O2594, J2594_0, J2594_1, J2594_2, J2594_3, J2594_4⟩ := hQ2594
      obtain ⟨h2594, e2594⟩ : ∃ z, T2594.heap = z := ⟨_, rfl⟩
      rw [e2594] at Kc2594 O2594 J2594_0 J2594_1 J2594_2 J2594_3 J2594_4
      have N2594 := Fr.app N2591 M2594
      have K2594 : Keep h0 h2594 [] := K2558.trans Kc2594 (own_all2 (Or.inr sz_b109_68) (Or.inr sz_b62))
      have pre2700 : ∀ t, Steps p.tables e below (T2594.setTop (mkF m 235 #[iv p0, iv p1, iv p2, iv p3, rv b62, iv (1 : Int32), iv (3 : Int32), rv r_2405, iv (1 : Int32), iv (0 : Int32), .unset] [])) t → Steps p.tables e below (s₁.setTop (entryFrame m #[(.int p0), (.int p1), (.int p2), (.int p3)] maxLocals)) t := fun t kt => pre2593 _ (st2594.trans kt)
      have F2701 := F2587.keep Kc2594
      have pre2702 : ∀ t, Steps p.tables e below (T2594.setTop (mkF m 242 #[iv p0, iv p1, iv p2, iv p3, rv b62, iv (1 : Int32), iv (3 : Int32), rv r_2405, iv (1 : Int32), iv (0 : Int32), .unset] [(.ref b62)])) t → Steps p.tables e below (s₁.setTop (entryFrame m #[(.int p0), (.int p1), (.int p2), (.int p3)] maxLocals)) t := fun t kt => by
        refine pre2700 _ ?_
        show Steps p.tables e below (T2594.setTop (mkF m 235 #[iv p0, iv p1, iv p2, iv p3, rv b62, iv (1 : Int32), iv (3 : Int32), rv r_2405, iv (1 : Int32), iv (0 : Int32), .unset] [])) _
        refine XS.iload X2594.here hx rfl (hb hby at_235) rfl ?_
        refine XS.ifNo X2594.here hx rfl (hb hby at_237) rfl (XT.i0_eq_f (by decide)) ?_
        refine XS.aload X2594.here hx rfl (hb hby at_240) rfl rfl ?_
        exact kt
      obtain ⟨cq2703, kq2703, q2703a, q2703b, q2703c⟩ := isOf hZ e2594 J2594_1
      obtain ⟨_, _, ⟨T2703, L2703, k2703, n2703⟩, -, X2703, ⟨Lc2703, hQ2703, l2703, y2703, z2703⟩, st2703⟩ := X2594.virtualBack hx (y := (⟨"com/example/homethread/homethread/Items", "isEmpty", "()Z"⟩ : MethodName)) (z := (⟨"com/example/homethread/homethread/Items", "isEmpty", "()Z"⟩ : MethodName)) hown (mvT hZ (W 13 rfl)) (mvT hZ (W 14 rfl)) (notFace_of_selects (args := #[]) (mvT hZ (W 16 rfl))) (mvT hZ (W 16 rfl)) (mvT hZ (W 15 rfl)) (by decide) (backOf (W := 0) (rm_isEmpty3_1 l Z a0 hw [] b62 h2594 n0 O2594 J2594_4) hZ (W 17 rfl) (W 2 rfl) (by decide) (by decide)) q2703a q2703c (g := (mkF m 242 #[iv p0, iv p1, iv p2, iv p3, rv b62, iv (1 : Int32), iv (3 : Int32), rv r_2405, iv (1 : Int32), iv (0 : Int32), .unset] [(.ref b62)])) rfl (by rw [hml]; rfl) (Steps.refl _) (argsL := []) (rest := []) (lenOf pd_12 rfl) rfl (by show 2 * 0 + _ ≤ _; exact Nat.le_of_eq rfl) (hb hby at_242) (fun _ _ => ⟨rfl, e2594, (by decide : 3 + 0 ≤ _), (by decide : 19 + 0 ≤ _)⟩)
      dsimp only [Pt.U, Pt.locs, Pt.cells, Pt.slots] at X2703 l2703 y2703 z2703 st2703 hQ2703
      replace l2703 := l2703.symm
      replace y2703 : 3 = k2703 := y2703.symm
      replace z2703 : 19 = n2703 := z2703.symm
      subst l2703 y2703 z2703
      obtain ⟨rfl, M2703, e2703⟩ := hQ2703
      have N2703 := Fr.app N2594 M2703
      have pre2704 : ∀ t, Steps p.tables e below (T2703.setTop (mkF m 245 #[iv p0, iv p1, iv p2, iv p3, rv b62, iv (1 : Int32), iv (3 : Int32), rv r_2405, iv (1 : Int32), iv (0 : Int32), .unset] [(.int (0 : Int32))])) t → Steps p.tables e below (s₁.setTop (entryFrame m #[(.int p0), (.int p1), (.int p2), (.int p3)] maxLocals)) t := fun t kt => pre2702 _ (st2703.trans kt)
      have pre2705 : ∀ t, Steps p.tables e below (T2703.setTop (mkF m 257 #[iv p0, iv p1, iv p2, iv p3, rv b62, iv (1 : Int32), iv (3 : Int32), rv r_2405, iv (1 : Int32), iv (0 : Int32), .unset] [(.int (1 : Int32))])) t → Steps p.tables e below (s₁.setTop (entryFrame m #[(.int p0), (.int p1), (.int p2), (.int p3)] maxLocals)) t := fun t kt => by
        refine pre2704 _ ?_
        show Steps p.tables e below (T2703.setTop (mkF m 245 #[iv p0, iv p1, iv p2, iv p3, rv b62, iv (1 : Int32), iv (3 : Int32), rv r_2405, iv (1 : Int32), iv (0 : Int32), .unset] [(.int (0 : Int32))])) _
        refine XS.ifNo X2703.here hx rfl (hb hby at_245) rfl (XT.i0_ne_f (by decide)) ?_
        refine XS.iconst X2703.here hx rfl (hb hby at_248) ?_
        refine XS.goto X2703.here hx rfl (pc0 := 249) (pc' := 253) rfl (hb hby at_249) (by decide) (by decide) ?_
        refine XS.istore X2703.here hx rfl (hb hby at_253) rfl (l' := #[iv p0, iv p1, iv p2, iv p3, rv b62, iv (1 : Int32), iv (3 : Int32), rv r_2405, iv (1 : Int32), iv (0 : Int32), .unset]) rfl ?_
        show Steps p.tables e below (T2703.setTop (mkF m 255 #[iv p0, iv p1, iv p2, iv p3, rv b62, iv (1 : Int32), iv (3 : Int32), rv r_2405, iv (1 : Int32), iv (0 : Int32), .unset] [])) _
        refine XS.iload X2703.here hx rfl (hb hby at_255) rfl ?_
        exact kt
      obtain ⟨fs, hr, hrun, hended, hW, hsame⟩ := X2703.leave (v := some (.int (1 : Int32))) (fun h => by rw [Bd.returns] at h; cases h)
      refine ⟨_, _, pre2705 _ (retN X2703 hx (t := .boolean) Bd.returns (by simp) (hb hby at_257) hr), hrun, hended, _, _, rfl, ?_, ⟨_, rfl⟩, hW, hsame.mono (by decide) (by decide)⟩
      show Q_law Z p0 p1 p2 p3 ac mr a_NO_SLOTS kn h0 n0 _ T2703.heap _
      rw [e2703]
      exact ⟨rfl, N2703⟩
    · rw [hv2428] at pre2427
      have pre2706 : ∀ t, Steps p.tables e below (T2425.setTop (mkF m 131 #[iv p0, iv p1, iv p2, iv p3, rv b62, iv (1 : Int32), iv (3 : Int32), rv r_2405, iv (2 : Int32), iv (3 : Int32), .unset] [(.int p3), (.ref b62)])) t → Steps p.tables e below (s₁.setTop (entryFrame m #[(.int p0), (.int p1), (.int p2), (.int p3)] maxLocals)) t := fun t kt => by
        refine pre2427 _ ?_
        show Steps p.tables e below (T2425.setTop (mkF m 99 #[iv p0, iv p1, iv p2, iv p3, rv b62, iv (1 : Int32), iv (3 : Int32), rv r_2405, .unset, .unset, .unset] [(.int (2 : Int32))])) _
        refine XS.istore X2425.here hx rfl (hb hby at_99) rfl (l' := #[iv p0, iv p1, iv p2, iv p3, rv b62, iv (1 : Int32), iv (3 : Int32), rv r_2405, iv (2 : Int32), .unset, .unset]) rfl ?_
        refine XS.iload X2425.here hx rfl (hb hby at_101) rfl ?_
        refine XS.istore X2425.here hx rfl (hb hby at_103) rfl (l' := #[iv p0, iv p1, iv p2, iv p3, rv b62, iv (1 : Int32), iv (3 : Int32), rv r_2405, iv (2 : Int32), iv (3 : Int32), .unset]) rfl ?_
        refine XS.iload X2425.here hx rfl (hb hby at_105) rfl ?_
        show Steps p.tables e below (T2425.setTop (mkF m 107 #[iv p0, iv p1, iv p2, iv p3, rv b62, iv (1 : Int32), iv (3 : Int32), rv r_2405, iv (2 : Int32), iv (3 : Int32), .unset] [(.int (2 : Int32))])) _
        refine XS.iconst X2425.here hx rfl (hb hby at_107) ?_
        refine XS.icmpYes X2425.here hx rfl (pc0 := 108) (pc' := 122) rfl (hb hby at_108) rfl (XT.ii_ne_t (by decide)) (by decide) (by decide) ?_
        refine XS.iload X2425.here hx rfl (hb hby at_122) rfl ?_
        refine XS.iconst X2425.here hx rfl (hb hby at_124) ?_
        show Steps p.tables e below (T2425.setTop (mkF m 125 #[iv p0, iv p1, iv p2, iv p3, rv b62, iv (1 : Int32), iv (3 : Int32), rv r_2405, iv (2 : Int32), iv (3 : Int32), .unset] [(.int (2 : Int32)), (.int (2 : Int32))])) _
        refine XS.icmpNo X2425.here hx rfl (hb hby at_125) rfl (XT.ii_ne_f (by decide)) ?_
        refine XS.aload X2425.here hx rfl (hb hby at_128) rfl rfl ?_
        refine XS.iloadN X2425.here hx rfl (hb hby at_130) rfl ?_
        exact kt
      by_cases hc2712 : p3 < (16 : Int32)
      · obtain ⟨cq2713, kq2713, q2713a, q2713b, q2713c⟩ := isOf hZ e2425 J2421_0
        obtain ⟨_, _, ⟨T2713, L2713, k2713, n2713⟩, -, X2713, ⟨Lc2713, hQ2713, l2713, y2713, z2713⟩, st2713⟩ := X2425.virtualBack hx (y := (⟨"com/example/homethread/homethread/Items", "clearAndTrim", "(I)V"⟩ : MethodName)) (z := (⟨"com/example/homethread/homethread/Items", "clearAndTrim", "(I)V"⟩ : MethodName)) hown (mvT hZ (W 27 rfl)) (mvT hZ (W 28 rfl)) (notFace_of_selects (args := #[]) (mvT hZ (W 30 rfl))) (mvT hZ (W 30 rfl)) (mvT hZ (W 29 rfl)) (by decide) (backOf (W := 0) (rm_clearAndTrim5_10 l Z a0 hw [] b62 p3 a_NO_SLOTS k109_68 r_2405 b109_68 h2421 n0 O2421 G4 g_b62 J2421_0 J2421_2 J2421_3 J2421_4 (fun q => ne_b62_b109_68 q.symm) hc2712) hZ (W 31 rfl) (W 2 rfl) (by decide) (by decide)) q2713a q2713c (g := (mkF m 131 #[iv p0, iv p1, iv p2, iv p3, rv b62, iv (1 : Int32), iv (3 : Int32), rv r_2405, iv (2 : Int32), iv (3 : Int32), .unset] [(.int p3), (.ref b62)])) rfl (by rw [hml]; rfl) (Steps.refl _) (argsL := [(.int p3)]) (rest := []) (lenOf pd_6 rfl) rfl (by show 2 * 0 + _ ≤ _; exact Nat.le_of_eq rfl) (hb hby at_131) (fun _ _ => ⟨rfl, e2425, (by decide : 3 + 0 ≤ _), (by decide : 19 + 0 ≤ _)⟩)
        dsimp only [Pt.U, Pt.locs, Pt.cells, Pt.slots] at X2713 l2713 y2713 z2713 st2713 hQ2713
        replace l2713 := l2713.symm
        replace y2713 : 3 = k2713 := y2713.symm
        replace z2713 : 19 = n2713 := z2713.symm
        subst l2713 y2713 z2713
        obtain ⟨rfl, M2713, Kc2713, O2713, J2713_0, J2713_1, J2713_2⟩ := hQ2713
        obtain ⟨h2713, e2713⟩ : ∃ z, T2713.heap = z := ⟨_, rfl⟩
        rw [e2713] at Kc2713 O2713 J2713_0 J2713_1 J2713_2
        have N2713 := Fr.app N2425 M2713
        have K2713 : Keep h0 h2713 [] := K2421.trans Kc2713 (own_all1 (Or.inr sz_b62))
        have pre2778 : ∀ t, Steps p.tables e below (T2713.setTop (mkF m 134 #[iv p0, iv p1, iv p2, iv p3, rv b62, iv (1 : Int32), iv (3 : Int32), rv r_2405, iv (2 : Int32), iv (3 : Int32), .unset] [])) t → Steps p.tables e below (s₁.setTop (entryFrame m #[(.int p0), (.int p1), (.int p2), (.int p3)] maxLocals)) t := fun t kt => pre2706 _ (st2713.trans kt)
        have F2779 := F2423.keep Kc2713
        have F2780 := J2421_1.keep Kc2713
        have F2781 := J2421_3.keep Kc2713 (own_nm1 (fun q => ne_b62_b109_68 q.symm))
        have pre2782 : ∀ t, Steps p.tables e below (T2713.setTop (mkF m 205 #[iv p0, iv p1, iv p2, iv p3, rv b62, iv (1 : Int32), iv (3 : Int32), rv r_2405, iv (2 : Int32), iv (0 : Int32), .unset] [(.ref b62)])) t → Steps p.tables e below (s₁.setTop (entryFrame m #[(.int p0), (.int p1), (.int p2), (.int p3)] maxLocals)) t := fun t kt => by
          refine pre2778 _ ?_
          show Steps p.tables e below (T2713.setTop (mkF m 134 #[iv p0, iv p1, iv p2, iv p3, rv b62, iv (1 : Int32), iv (3 : Int32), rv r_2405, iv (2 : Int32), iv (3 : Int32), .unset] [])) _
          refine XS.iconst X2713.here hx rfl (hb hby at_134) ?_
          refine XS.istore X2713.here hx rfl (hb hby at_135) rfl (l' := #[iv p0, iv p1, iv p2, iv p3, rv b62, iv (1 : Int32), iv (3 : Int32), rv r_2405, iv (2 : Int32), iv (0 : Int32), .unset]) rfl ?_
          refine XS.goto X2713.here hx rfl (pc0 := 137) (pc' := 198) rfl (hb hby at_137) (by decide) (by decide) ?_
          refine XS.iload X2713.here hx rfl (hb hby at_198) rfl ?_
          show Steps p.tables e below (T2713.setTop (mkF m 200 #[iv p0, iv p1, iv p2, iv p3, rv b62, iv (1 : Int32), iv (3 : Int32), rv r_2405, iv (2 : Int32), iv (0 : Int32), .unset] [(.int (1 : Int32))])) _
          refine XS.ifNo X2713.here hx rfl (hb hby at_200) rfl (XT.i0_eq_f (by decide)) ?_
          refine XS.aload X2713.here hx rfl (hb hby at_203) rfl rfl ?_
          exact kt
        obtain ⟨cq2783, kq2783, q2783a, q2783b, q2783c⟩ := isOf hZ e2713 J2713_0
        obtain ⟨_, _, ⟨T2783, L2783, k2783, n2783⟩, -, X2783, ⟨Lc2783, hQ2783, l2783, y2783, z2783⟩, st2783⟩ := X2713.virtualBack hx (y := (⟨"com/example/homethread/homethread/Items", "isEmpty", "()Z"⟩ : MethodName)) (z := (⟨"com/example/homethread/homethread/Items", "isEmpty", "()Z"⟩ : MethodName)) hown (mvT hZ (W 13 rfl)) (mvT hZ (W 14 rfl)) (notFace_of_selects (args := #[]) (mvT hZ (W 16 rfl))) (mvT hZ (W 16 rfl)) (mvT hZ (W 15 rfl)) (by decide) (backOf (W := 0) (rm_isEmpty3_0 l Z a0 hw [] b62 h2713 n0 O2713 J2713_2) hZ (W 17 rfl) (W 2 rfl) (by decide) (by decide)) q2783a q2783c (g := (mkF m 205 #[iv p0, iv p1, iv p2, iv p3, rv b62, iv (1 : Int32), iv (3 : Int32), rv r_2405, iv (2 : Int32), iv (0 : Int32), .unset] [(.ref b62)])) rfl (by rw [hml]; rfl) (Steps.refl _) (argsL := []) (rest := []) (lenOf pd_12 rfl) rfl (by show 2 * 0 + _ ≤ _; exact Nat.le_of_eq rfl) (hb hby at_205) (fun _ _ => ⟨rfl, e2713, (by decide : 3 + 0 ≤ _), (by decide : 19 + 0 ≤ _)⟩)
        dsimp only [Pt.U, Pt.locs, Pt.cells, Pt.slots] at X2783 l2783 y2783 z2783 st2783 hQ2783
        replace l2783 := l2783.symm
        replace y2783 : 3 = k2783 := y2783.symm
        replace z2783 : 19 = n2783 := z2783.symm
        subst l2783 y2783 z2783
        obtain ⟨rfl, M2783, e2783⟩ := hQ2783
        have N2783 := Fr.app N2713 M2783
        have pre2784 : ∀ t, Steps p.tables e below (T2783.setTop (mkF m 208 #[iv p0, iv p1, iv p2, iv p3, rv b62, iv (1 : Int32), iv (3 : Int32), rv r_2405, iv (2 : Int32), iv (0 : Int32), .unset] [(.int (1 : Int32))])) t → Steps p.tables e below (s₁.setTop (entryFrame m #[(.int p0), (.int p1), (.int p2), (.int p3)] maxLocals)) t := fun t kt => pre2782 _ (st2783.trans kt)
        have pre2785 : ∀ t, Steps p.tables e below (T2783.setTop (mkF m 232 #[iv p0, iv p1, iv p2, iv p3, rv b62, iv (1 : Int32), iv (3 : Int32), rv r_2405, iv (2 : Int32), iv (0 : Int32), .unset] [(.ref r_2405), (.ref b62)])) t → Steps p.tables e below (s₁.setTop (entryFrame m #[(.int p0), (.int p1), (.int p2), (.int p3)] maxLocals)) t := fun t kt => by
          refine pre2784 _ ?_
          show Steps p.tables e below (T2783.setTop (mkF m 208 #[iv p0, iv p1, iv p2, iv p3, rv b62, iv (1 : Int32), iv (3 : Int32), rv r_2405, iv (2 : Int32), iv (0 : Int32), .unset] [(.int (1 : Int32))])) _
          refine XS.iload X2783.here hx rfl (hb hby at_208) rfl ?_
          refine XS.ifNo X2783.here hx rfl (hb hby at_210) rfl (XT.i0_ne_f (by decide)) ?_
          refine XS.iconst X2783.here hx rfl (hb hby at_213) ?_
          refine XS.goto X2783.here hx rfl (pc0 := 214) (pc' := 218) rfl (hb hby at_214) (by decide) (by decide) ?_
          show Steps p.tables e below (T2783.setTop (mkF m 218 #[iv p0, iv p1, iv p2, iv p3, rv b62, iv (1 : Int32), iv (3 : Int32), rv r_2405, iv (2 : Int32), iv (0 : Int32), .unset] [(.int (1 : Int32)), (.int (1 : Int32))])) _
          refine XS.icmpNo X2783.here hx rfl (hb hby at_218) rfl (XT.ii_ne_f (by decide)) ?_
          refine XS.iconst X2783.here hx rfl (hb hby at_221) ?_
          refine XS.goto X2783.here hx rfl (pc0 := 222) (pc' := 226) rfl (hb hby at_222) (by decide) (by decide) ?_
          refine XS.istore X2783.here hx rfl (hb hby at_226) rfl (l' := #[iv p0, iv p1, iv p2, iv p3, rv b62, iv (1 : Int32), iv (3 : Int32), rv r_2405, iv (2 : Int32), iv (0 : Int32), .unset]) rfl ?_
          show Steps p.tables e below (T2783.setTop (mkF m 228 #[iv p0, iv p1, iv p2, iv p3, rv b62, iv (1 : Int32), iv (3 : Int32), rv r_2405, iv (2 : Int32), iv (0 : Int32), .unset] [])) _
          refine XS.aload X2783.here hx rfl (hb hby at_228) rfl rfl ?_
          refine XS.aload X2783.here hx rfl (hb hby at_230) rfl rfl ?_
          exact kt
        obtain ⟨cq2786, kq2786, q2786a, q2786b, q2786c⟩ := isOf hZ e2783 J2713_0
        obtain ⟨_, _, ⟨T2786, L2786, k2786, n2786⟩, -, X2786, ⟨Lc2786, hQ2786, l2786, y2786, z2786⟩, st2786⟩ := X2783.virtualBack hx (y := (⟨"com/example/homethread/homethread/Items", "add", "(Ljava/lang/Object;)V"⟩ : MethodName)) (z := (⟨"com/example/homethread/homethread/Items", "add", "(Ljava/lang/Object;)V"⟩ : MethodName)) hown (mvT hZ (W 34 rfl)) (mvT hZ (W 35 rfl)) (notFace_of_selects (args := #[]) (mvT hZ (W 37 rfl))) (mvT hZ (W 37 rfl)) (mvT hZ (W 36 rfl)) (by decide) (backOf (W := 0) (rm_add6_4 l Z a0 hw [] b62 r_2405 mr a_NO_SLOTS kn h2713 n0 O2713 G3 G5 G6 g_b62 F2779 J2713_0 J2713_1 J2713_2) hZ (W 38 rfl) (W 2 rfl) (by decide) (by decide)) q2786a q2786c (g := (mkF m 232 #[iv p0, iv p1, iv p2, iv p3, rv b62, iv (1 : Int32), iv (3 : Int32), rv r_2405, iv (2 : Int32), iv (0 : Int32), .unset] [(.ref r_2405), (.ref b62)])) rfl (by rw [hml]; rfl) (Steps.refl _) (argsL := [(.ref r_2405)]) (rest := []) (lenOf pd_15 rfl) rfl (by show 2 * 0 + _ ≤ _; exact Nat.le_of_eq rfl) (hb hby at_232) (fun _ _ => ⟨rfl, e2783, (by decide : 3 + 1 ≤ _), (by decide : 19 + 16 ≤ _)⟩)
        dsimp only [Pt.U, Pt.locs, Pt.cells, Pt.slots] at X2786 l2786 y2786 z2786 st2786 hQ2786
        replace l2786 := l2786.symm
        replace y2786 : 4 = k2786 := y2786.symm
        replace z2786 : 35 = n2786 := z2786.symm
        subst l2786 y2786 z2786
        obtain ⟨k1289_2786, b1289_2786, rfl, M2786, Kc2786, O2786, J2786_0, J2786_1, J2786_2, J2786_3, J2786_4, J2786_5, P2786_0⟩ := hQ2786
        obtain ⟨h2786, e2786⟩ : ∃ z, T2786.heap = z := ⟨_, rfl⟩
        rw [e2786] at Kc2786 O2786 J2786_0 J2786_2 J2786_3 J2786_4 J2786_5
        try rw [e2786] at P2786_0
        have N2786 := Fr.app N2783 M2786
        have K2786 : Keep h0 h2786 [] := K2713.trans Kc2786 (own_all1 (Or.inr sz_b62))
        have pre2787 : ∀ t, Steps p.tables e below (T2786.setTop (mkF m 235 #[iv p0, iv p1, iv p2, iv p3, rv b62, iv (1 : Int32), iv (3 : Int32), rv r_2405, iv (2 : Int32), iv (0 : Int32), .unset] [])) t → Steps p.tables e below (s₁.setTop (entryFrame m #[(.int p0), (.int p1), (.int p2), (.int p3)] maxLocals)) t := fun t kt => pre2785 _ (st2786.trans kt)
        have F2788 := F2779.keep Kc2786
        have F2789 := F2780.keep Kc2786
        have F2790 := F2781.keep Kc2786 (own_nm1 (fun q => ne_b62_b109_68 q.symm))
        have sz_b1289_2786 : h0.size ≤ b1289_2786 := Nat.le_trans K2713.1 P2786_0
        have ne_a_NO_SLOTS_b1289_2786 : a_NO_SLOTS ≠ b1289_2786 := Nat.ne_of_lt (Nat.lt_of_lt_of_le (G5.ext O2713.2).lt P2786_0)
        have ne_r_2405_b1289_2786 : r_2405 ≠ b1289_2786 := Nat.ne_of_lt (Nat.lt_of_lt_of_le F2779.lt P2786_0)
        have ne_b109_68_b1289_2786 : b109_68 ≠ b1289_2786 := Nat.ne_of_lt (Nat.lt_of_lt_of_le F2780.lt P2786_0)
        have ne_b62_b1289_2786 : b62 ≠ b1289_2786 := Nat.ne_of_lt (Nat.lt_of_lt_of_le J2713_0.lt P2786_0)
        have g_b1289_2786 : n0 ≤ b1289_2786 := Nat.le_trans (Nat.le_trans (Nat.le_of_eq O0.1.symm) O0.2.1) sz_b1289_2786
        have pre2791 : ∀ t, Steps p.tables e below (T2786.setTop (mkF m 242 #[iv p0, iv p1, iv p2, iv p3, rv b62, iv (1 : Int32), iv (3 : Int32), rv r_2405, iv (2 : Int32), iv (0 : Int32), .unset] [(.ref b62)])) t → Steps p.tables e below (s₁.setTop (entryFrame m #[(.int p0), (.int p1), (.int p2), (.int p3)] maxLocals)) t := fun t kt => by
          refine pre2787 _ ?_
          show Steps p.tables e below (T2786.setTop (mkF m 235 #[iv p0, iv p1, iv p2, iv p3, rv b62, iv (1 : Int32), iv (3 : Int32), rv r_2405, iv (2 : Int32), iv (0 : Int32), .unset] [])) _
          refine XS.iload X2786.here hx rfl (hb hby at_235) rfl ?_
          refine XS.ifNo X2786.here hx rfl (hb hby at_237) rfl (XT.i0_eq_f (by decide)) ?_
          refine XS.aload X2786.here hx rfl (hb hby at_240) rfl rfl ?_
          exact kt
        obtain ⟨cq2792, kq2792, q2792a, q2792b, q2792c⟩ := isOf hZ e2786 J2786_0
        obtain ⟨_, _, ⟨T2792, L2792, k2792, n2792⟩, -, X2792, ⟨Lc2792, hQ2792, l2792, y2792, z2792⟩, st2792⟩ := X2786.virtualBack hx (y := (⟨"com/example/homethread/homethread/Items", "isEmpty", "()Z"⟩ : MethodName)) (z := (⟨"com/example/homethread/homethread/Items", "isEmpty", "()Z"⟩ : MethodName)) hown (mvT hZ (W 13 rfl)) (mvT hZ (W 14 rfl)) (notFace_of_selects (args := #[]) (mvT hZ (W 16 rfl))) (mvT hZ (W 16 rfl)) (mvT hZ (W 15 rfl)) (by decide) (backOf (W := 0) (rm_isEmpty3_1 l Z a0 hw [] b62 h2786 n0 O2786 J2786_5) hZ (W 17 rfl) (W 2 rfl) (by decide) (by decide)) q2792a q2792c (g := (mkF m 242 #[iv p0, iv p1, iv p2, iv p3, rv b62, iv (1 : Int32), iv (3 : Int32), rv r_2405, iv (2 : Int32), iv (0 : Int32), .unset] [(.ref b62)])) rfl (by rw [hml]; rfl) (Steps.refl _) (argsL := []) (rest := []) (lenOf pd_12 rfl) rfl (by show 2 * 0 + _ ≤ _; exact Nat.le_of_eq rfl) (hb hby at_242) (fun _ _ => ⟨rfl, e2786, (by decide : 4 + 0 ≤ _), (by decide : 35 + 0 ≤ _)⟩)
        dsimp only [Pt.U, Pt.locs, Pt.cells, Pt.slots] at X2792 l2792 y2792 z2792 st2792 hQ2792
        replace l2792 := l2792.symm
        replace y2792 : 4 = k2792 := y2792.symm
        replace z2792 : 35 = n2792 := z2792.symm
        subst l2792 y2792 z2792
        obtain ⟨rfl, M2792, e2792⟩ := hQ2792
        have N2792 := Fr.app N2786 M2792
        have pre2793 : ∀ t, Steps p.tables e below (T2792.setTop (mkF m 245 #[iv p0, iv p1, iv p2, iv p3, rv b62, iv (1 : Int32), iv (3 : Int32), rv r_2405, iv (2 : Int32), iv (0 : Int32), .unset] [(.int (0 : Int32))])) t → Steps p.tables e below (s₁.setTop (entryFrame m #[(.int p0), (.int p1), (.int p2), (.int p3)] maxLocals)) t := fun t kt => pre2791 _ (st2792.trans kt)
        have pre2794 : ∀ t, Steps p.tables e below (T2792.setTop (mkF m 257 #[iv p0, iv p1, iv p2, iv p3, rv b62, iv (1 : Int32), iv (3 : Int32), rv r_2405, iv (2 : Int32), iv (0 : Int32), .unset] [(.int (1 : Int32))])) t → Steps p.tables e below (s₁.setTop (entryFrame m #[(.int p0), (.int p1), (.int p2), (.int p3)] maxLocals)) t := fun t kt => by
          refine pre2793 _ ?_
          show Steps p.tables e below (T2792.setTop (mkF m 245 #[iv p0, iv p1, iv p2, iv p3, rv b62, iv (1 : Int32), iv (3 : Int32), rv r_2405, iv (2 : Int32), iv (0 : Int32), .unset] [(.int (0 : Int32))])) _
          refine XS.ifNo X2792.here hx rfl (hb hby at_245) rfl (XT.i0_ne_f (by decide)) ?_
          refine XS.iconst X2792.here hx rfl (hb hby at_248) ?_
          refine XS.goto X2792.here hx rfl (pc0 := 249) (pc' := 253) rfl (hb hby at_249) (by decide) (by decide) ?_
          refine XS.istore X2792.here hx rfl (hb hby at_253) rfl (l' := #[iv p0, iv p1, iv p2, iv p3, rv b62, iv (1 : Int32), iv (3 : Int32), rv r_2405, iv (2 : Int32), iv (0 : Int32), .unset]) rfl ?_
          show Steps p.tables e below (T2792.setTop (mkF m 255 #[iv p0, iv p1, iv p2, iv p3, rv b62, iv (1 : Int32), iv (3 : Int32), rv r_2405, iv (2 : Int32), iv (0 : Int32), .unset] [])) _
          refine XS.iload X2792.here hx rfl (hb hby at_255) rfl ?_
          exact kt
        obtain ⟨fs, hr, hrun, hended, hW, hsame⟩ := X2792.leave (v := some (.int (1 : Int32))) (fun h => by rw [Bd.returns] at h; cases h)
        refine ⟨_, _, pre2794 _ (retN X2792 hx (t := .boolean) Bd.returns (by simp) (hb hby at_257) hr), hrun, hended, _, _, rfl, ?_, ⟨_, rfl⟩, hW, hsame.mono (by decide) (by decide)⟩
        show Q_law Z p0 p1 p2 p3 ac mr a_NO_SLOTS kn h0 n0 _ T2792.heap _
        rw [e2792]
        exact ⟨rfl, N2792⟩
      · obtain ⟨cq2795, kq2795, q2795a, q2795b, q2795c⟩ := isOf hZ e2425 J2421_0
        obtain ⟨_, _, ⟨T2795, L2795, k2795, n2795⟩, -, X2795, ⟨Lc2795, hQ2795, l2795, y2795, z2795⟩, st2795⟩ := X2425.virtualBack hx (y := (⟨"com/example/homethread/homethread/Items", "clearAndTrim", "(I)V"⟩ : MethodName)) (z := (⟨"com/example/homethread/homethread/Items", "clearAndTrim", "(I)V"⟩ : MethodName)) hown (mvT hZ (W 27 rfl)) (mvT hZ (W 28 rfl)) (notFace_of_selects (args := #[]) (mvT hZ (W 30 rfl))) (mvT hZ (W 30 rfl)) (mvT hZ (W 29 rfl)) (by decide) (backOf (W := 0) (rm_clearAndTrim5_11 l Z a0 hw [] b62 p3 k109_68 r_2405 b109_68 h2421 n0 O2421 g_b62 J2421_0 J2421_2 J2421_3 J2421_4 (fun q => ne_b62_b109_68 q.symm) hc2712) hZ (W 31 rfl) (W 2 rfl) (by decide) (by decide)) q2795a q2795c (g := (mkF m 131 #[iv p0, iv p1, iv p2, iv p3, rv b62, iv (1 : Int32), iv (3 : Int32), rv r_2405, iv (2 : Int32), iv (3 : Int32), .unset] [(.int p3), (.ref b62)])) rfl (by rw [hml]; rfl) (Steps.refl _) (argsL := [(.int p3)]) (rest := []) (lenOf pd_6 rfl) rfl (by show 2 * 0 + _ ≤ _; exact Nat.le_of_eq rfl) (hb hby at_131) (fun _ _ => ⟨rfl, e2425, (by decide : 3 + 0 ≤ _), (by decide : 19 + 0 ≤ _)⟩)
        dsimp only [Pt.U, Pt.locs, Pt.cells, Pt.slots] at X2795 l2795 y2795 z2795 st2795 hQ2795
        replace l2795 := l2795.symm
        replace y2795 : 3 = k2795 := y2795.symm
        replace z2795 : 19 = n2795 := z2795.symm
        subst l2795 y2795 z2795
        obtain ⟨rfl, M2795, Kc2795, O2795, J2795_0, J2795_1, J2795_2⟩ := hQ2795
        obtain ⟨h2795, e2795⟩ : ∃ z, T2795.heap = z := ⟨_, rfl⟩
        rw [e2795] at Kc2795 O2795 J2795_0 J2795_1 J2795_2
        have N2795 := Fr.app N2425 M2795
        have K2795 : Keep h0 h2795 [] := K2421.trans Kc2795 (own_all1 (Or.inr sz_b62))
        have pre2831 : ∀ t, Steps p.tables e below (T2795.setTop (mkF m 134 #[iv p0, iv p1, iv p2, iv p3, rv b62, iv (1 : Int32), iv (3 : Int32), rv r_2405, iv (2 : Int32), iv (3 : Int32), .unset] [])) t → Steps p.tables e below (s₁.setTop (entryFrame m #[(.int p0), (.int p1), (.int p2), (.int p3)] maxLocals)) t := fun t kt => pre2706 _ (st2795.trans kt)
        have F2832 := F2423.keep Kc2795
        have F2833 := J2421_1.keep Kc2795
        have F2834 := J2421_3.keep Kc2795 (own_nm1 (fun q => ne_b62_b109_68 q.symm))
        have pre2835 : ∀ t, Steps p.tables e below (T2795.setTop (mkF m 205 #[iv p0, iv p1, iv p2, iv p3, rv b62, iv (1 : Int32), iv (3 : Int32), rv r_2405, iv (2 : Int32), iv (0 : Int32), .unset] [(.ref b62)])) t → Steps p.tables e below (s₁.setTop (entryFrame m #[(.int p0), (.int p1), (.int p2), (.int p3)] maxLocals)) t := fun t kt => by
          refine pre2831 _ ?_
          show Steps p.tables e below (T2795.setTop (mkF m 134 #[iv p0, iv p1, iv p2, iv p3, rv b62, iv (1 : Int32), iv (3 : Int32), rv r_2405, iv (2 : Int32), iv (3 : Int32), .unset] [])) _
          refine XS.iconst X2795.here hx rfl (hb hby at_134) ?_
          refine XS.istore X2795.here hx rfl (hb hby at_135) rfl (l' := #[iv p0, iv p1, iv p2, iv p3, rv b62, iv (1 : Int32), iv (3 : Int32), rv r_2405, iv (2 : Int32), iv (0 : Int32), .unset]) rfl ?_
          refine XS.goto X2795.here hx rfl (pc0 := 137) (pc' := 198) rfl (hb hby at_137) (by decide) (by decide) ?_
          refine XS.iload X2795.here hx rfl (hb hby at_198) rfl ?_
          show Steps p.tables e below (T2795.setTop (mkF m 200 #[iv p0, iv p1, iv p2, iv p3, rv b62, iv (1 : Int32), iv (3 : Int32), rv r_2405, iv (2 : Int32), iv (0 : Int32), .unset] [(.int (1 : Int32))])) _
          refine XS.ifNo X2795.here hx rfl (hb hby at_200) rfl (XT.i0_eq_f (by decide)) ?_
          refine XS.aload X2795.here hx rfl (hb hby at_203) rfl rfl ?_
          exact kt
        obtain ⟨cq2836, kq2836, q2836a, q2836b, q2836c⟩ := isOf hZ e2795 J2795_0
        obtain ⟨_, _, ⟨T2836, L2836, k2836, n2836⟩, -, X2836, ⟨Lc2836, hQ2836, l2836, y2836, z2836⟩, st2836⟩ := X2795.virtualBack hx (y := (⟨"com/example/homethread/homethread/Items", "isEmpty", "()Z"⟩ : MethodName)) (z := (⟨"com/example/homethread/homethread/Items", "isEmpty", "()Z"⟩ : MethodName)) hown (mvT hZ (W 13 rfl)) (mvT hZ (W 14 rfl)) (notFace_of_selects (args := #[]) (mvT hZ (W 16 rfl))) (mvT hZ (W 16 rfl)) (mvT hZ (W 15 rfl)) (by decide) (backOf (W := 0) (rm_isEmpty3_0 l Z a0 hw [] b62 h2795 n0 O2795 J2795_2) hZ (W 17 rfl) (W 2 rfl) (by decide) (by decide)) q2836a q2836c (g := (mkF m 205 #[iv p0, iv p1, iv p2, iv p3, rv b62, iv (1 : Int32), iv (3 : Int32), rv r_2405, iv (2 : Int32), iv (0 : Int32), .unset] [(.ref b62)])) rfl (by rw [hml]; rfl) (Steps.refl _) (argsL := []) (rest := []) (lenOf pd_12 rfl) rfl (by show 2 * 0 + _ ≤ _; exact Nat.le_of_eq rfl) (hb hby at_205) (fun _ _ => ⟨rfl, e2795, (by decide : 3 + 0 ≤ _), (by decide : 19 + 0 ≤ _)⟩)
        dsimp only [Pt.U, Pt.locs, Pt.cells, Pt.slots] at X2836 l2836 y2836 z2836 st2836 hQ2836
        replace l2836 := l2836.symm
        replace y2836 : 3 = k2836 := y2836.symm
        replace z2836 : 19 = n2836 := z2836.symm
        subst l2836 y2836 z2836
        obtain ⟨rfl, M2836, e2836⟩ := hQ2836
        have N2836 := Fr.app N2795 M2836
        have pre2837 : ∀ t, Steps p.tables e below (T2836.setTop (mkF m 208 #[iv p0, iv p1, iv p2, iv p3, rv b62, iv (1 : Int32), iv (3 : Int32), rv r_2405, iv (2 : Int32), iv (0 : Int32), .unset] [(.int (1 : Int32))])) t → Steps p.tables e below (s₁.setTop (entryFrame m #[(.int p0), (.int p1), (.int p2), (.int p3)] maxLocals)) t := fun t kt => pre2835 _ (st2836.trans kt)
        have pre2838 : ∀ t, Steps p.tables e below (T2836.setTop (mkF m 232 #[iv p0, iv p1, iv p2, iv p3, rv b62, iv (1 : Int32), iv (3 : Int32), rv r_2405, iv (2 : Int32), iv (0 : Int32), .unset] [(.ref r_2405), (.ref b62)])) t → Steps p.tables e below (s₁.setTop (entryFrame m #[(.int p0), (.int p1), (.int p2), (.int p3)] maxLocals)) t := fun t kt => by
          refine pre2837 _ ?_
          show Steps p.tables e below (T2836.setTop (mkF m 208 #[iv p0, iv p1, iv p2, iv p3, rv b62, iv (1 : Int32), iv (3 : Int32), rv r_2405, iv (2 : Int32), iv (0 : Int32), .unset] [(.int (1 : Int32))])) _
          refine XS.iload X2836.here hx rfl (hb hby at_208) rfl ?_
          refine XS.ifNo X2836.here hx rfl (hb hby at_210) rfl (XT.i0_ne_f (by decide)) ?_
          refine XS.iconst X2836.here hx rfl (hb hby at_213) ?_
          refine XS.goto X2836.here hx rfl (pc0 := 214) (pc' := 218) rfl (hb hby at_214) (by decide) (by decide) ?_
          show Steps p.tables e below (T2836.setTop (mkF m 218 #[iv p0, iv p1, iv p2, iv p3, rv b62, iv (1 : Int32), iv (3 : Int32), rv r_2405, iv (2 : Int32), iv (0 : Int32), .unset] [(.int (1 : Int32)), (.int (1 : Int32))])) _
          refine XS.icmpNo X2836.here hx rfl (hb hby at_218) rfl (XT.ii_ne_f (by decide)) ?_
          refine XS.iconst X2836.here hx rfl (hb hby at_221) ?_
          refine XS.goto X2836.here hx rfl (pc0 := 222) (pc' := 226) rfl (hb hby at_222) (by decide) (by decide) ?_
          refine XS.istore X2836.here hx rfl (hb hby at_226) rfl (l' := #[iv p0, iv p1, iv p2, iv p3, rv b62, iv (1 : Int32), iv (3 : Int32), rv r_2405, iv (2 : Int32), iv (0 : Int32), .unset]) rfl ?_
          show Steps p.tables e below (T2836.setTop (mkF m 228 #[iv p0, iv p1, iv p2, iv p3, rv b62, iv (1 : Int32), iv (3 : Int32), rv r_2405, iv (2 : Int32), iv (0 : Int32), .unset] [])) _
          refine XS.aload X2836.here hx rfl (hb hby at_228) rfl rfl ?_
          refine XS.aload X2836.here hx rfl (hb hby at_230) rfl rfl ?_
          exact kt
        obtain ⟨cq2839, kq2839, q2839a, q2839b, q2839c⟩ := isOf hZ e2836 J2795_0
        obtain ⟨_, _, ⟨T2839, L2839, k2839, n2839⟩, -, X2839, ⟨Lc2839, hQ2839, l2839, y2839, z2839⟩, st2839⟩ := X2836.virtualBack hx (y := (⟨"com/example/homethread/homethread/Items", "add", "(Ljava/lang/Object;)V"⟩ : MethodName)) (z := (⟨"com/example/homethread/homethread/Items", "add", "(Ljava/lang/Object;)V"⟩ : MethodName)) hown (mvT hZ (W 34 rfl)) (mvT hZ (W 35 rfl)) (notFace_of_selects (args := #[]) (mvT hZ (W 37 rfl))) (mvT hZ (W 37 rfl)) (mvT hZ (W 36 rfl)) (by decide) (backOf (W := 0) (rm_add6_8 l Z a0 hw [] b62 r_2405 k109_68 b109_68 h2795 n0 O2795 g_b109_68 g_b62 J68_3 F2832 F2833 F2834 J2795_0 J2795_1 J2795_2 (fun q => ne_b62_b109_68 q.symm)) hZ (W 38 rfl) (W 2 rfl) (by decide) (by decide)) q2839a q2839c (g := (mkF m 232 #[iv p0, iv p1, iv p2, iv p3, rv b62, iv (1 : Int32), iv (3 : Int32), rv r_2405, iv (2 : Int32), iv (0 : Int32), .unset] [(.ref r_2405), (.ref b62)])) rfl (by rw [hml]; rfl) (Steps.refl _) (argsL := [(.ref r_2405)]) (rest := []) (lenOf pd_15 rfl) rfl (by show 2 * 0 + _ ≤ _; exact Nat.le_of_eq rfl) (hb hby at_232) (fun _ _ => ⟨rfl, e2836, (by decide : 3 + 0 ≤ _), (by decide : 19 + 0 ≤ _)⟩)
        dsimp only [Pt.U, Pt.locs, Pt.cells, Pt.slots] at X2839 l2839 y2839 z2839 st2839 hQ2839
        replace l2839 := l2839.symm
        replace y2839 : 3 = k2839 := y2839.symm
        replace z2839 : 19 = n2839 := z2839.symm
        subst l2839 y2839 z2839
        obtain ⟨rfl, M2839, Kc2839, O2839, J2839_0, J2839_1, J2839_2, J2839_3, J2839_4⟩ := hQ2839
        obtain ⟨h2839, e2839⟩ : ∃ z, T2839.heap = z := ⟨_, rfl⟩
        rw [e2839] at Kc2839 O2839 J2839_0 J2839_1 J2839_2 J2839_3 J2839_4
        have N2839 := Fr.app N2836 M2839
        have K2839 : Keep h0 h2839 [] := K2795.trans Kc2839 (own_all2 (Or.inr sz_b109_68) (Or.inr sz_b62))
        have pre2840 : ∀ t, Steps p.tables e below (T2839.setTop (mkF m 235 #[iv p0, iv p1, iv p2, iv p3, rv b62, iv (1 : Int32), iv (3 : Int32), rv r_2405, iv (2 : Int32), iv (0 : Int32), .unset] [])) t → Steps p.tables e below (s₁.setTop (entryFrame m #[(.int p0), (.int p1), (.int p2), (.int p3)] maxLocals)) t := fun t kt => pre2838 _ (st2839.trans kt)
        have F2841 := F2832.keep Kc2839
        have pre2842 : ∀ t, Steps p.tables e below (T2839.setTop (mkF m 242 #[iv p0, iv p1, iv p2, iv p3, rv b62, iv (1 : Int32), iv (3 : Int32), rv r_2405, iv (2 : Int32), iv (0 : Int32), .unset] [(.ref b62)])) t → Steps p.tables e below (s₁.setTop (entryFrame m #[(.int p0), (.int p1), (.int p2), (.int p3)] maxLocals)) t := fun t kt => by
          refine pre2840 _ ?_
          show Steps p.tables e below (T2839.setTop (mkF m 235 #[iv p0, iv p1, iv p2, iv p3, rv b62, iv (1 : Int32), iv (3 : Int32), rv r_2405, iv (2 : Int32), iv (0 : Int32), .unset] [])) _
          refine XS.iload X2839.here hx rfl (hb hby at_235) rfl ?_
          refine XS.ifNo X2839.here hx rfl (hb hby at_237) rfl (XT.i0_eq_f (by decide)) ?_
          refine XS.aload X2839.here hx rfl (hb hby at_240) rfl rfl ?_
          exact kt
        obtain ⟨cq2843, kq2843, q2843a, q2843b, q2843c⟩ := isOf hZ e2839 J2839_1
        obtain ⟨_, _, ⟨T2843, L2843, k2843, n2843⟩, -, X2843, ⟨Lc2843, hQ2843, l2843, y2843, z2843⟩, st2843⟩ := X2839.virtualBack hx (y := (⟨"com/example/homethread/homethread/Items", "isEmpty", "()Z"⟩ : MethodName)) (z := (⟨"com/example/homethread/homethread/Items", "isEmpty", "()Z"⟩ : MethodName)) hown (mvT hZ (W 13 rfl)) (mvT hZ (W 14 rfl)) (notFace_of_selects (args := #[]) (mvT hZ (W 16 rfl))) (mvT hZ (W 16 rfl)) (mvT hZ (W 15 rfl)) (by decide) (backOf (W := 0) (rm_isEmpty3_1 l Z a0 hw [] b62 h2839 n0 O2839 J2839_4) hZ (W 17 rfl) (W 2 rfl) (by decide) (by decide)) q2843a q2843c (g := (mkF m 242 #[iv p0, iv p1, iv p2, iv p3, rv b62, iv (1 : Int32), iv (3 : Int32), rv r_2405, iv (2 : Int32), iv (0 : Int32), .unset] [(.ref b62)])) rfl (by rw [hml]; rfl) (Steps.refl _) (argsL := []) (rest := []) (lenOf pd_12 rfl) rfl (by show 2 * 0 + _ ≤ _; exact Nat.le_of_eq rfl) (hb hby at_242) (fun _ _ => ⟨rfl, e2839, (by decide : 3 + 0 ≤ _), (by decide : 19 + 0 ≤ _)⟩)
        dsimp only [Pt.U, Pt.locs, Pt.cells, Pt.slots] at X2843 l2843 y2843 z2843 st2843 hQ2843
        replace l2843 := l2843.symm
        replace y2843 : 3 = k2843 := y2843.symm
        replace z2843 : 19 = n2843 := z2843.symm
        subst l2843 y2843 z2843
        obtain ⟨rfl, M2843, e2843⟩ := hQ2843
        have N2843 := Fr.app N2839 M2843
        have pre2844 : ∀ t, Steps p.tables e below (T2843.setTop (mkF m 245 #[iv p0, iv p1, iv p2, iv p3, rv b62, iv (1 : Int32), iv (3 : Int32), rv r_2405, iv (2 : Int32), iv (0 : Int32), .unset] [(.int (0 : Int32))])) t → Steps p.tables e below (s₁.setTop (entryFrame m #[(.int p0), (.int p1), (.int p2), (.int p3)] maxLocals)) t := fun t kt => pre2842 _ (st2843.trans kt)
        have pre2845 : ∀ t, Steps p.tables e below (T2843.setTop (mkF m 257 #[iv p0, iv p1, iv p2, iv p3, rv b62, iv (1 : Int32), iv (3 : Int32), rv r_2405, iv (2 : Int32), iv (0 : Int32), .unset] [(.int (1 : Int32))])) t → Steps p.tables e below (s₁.setTop (entryFrame m #[(.int p0), (.int p1), (.int p2), (.int p3)] maxLocals)) t := fun t kt => by
          refine pre2844 _ ?_
          show Steps p.tables e below (T2843.setTop (mkF m 245 #[iv p0, iv p1, iv p2, iv p3, rv b62, iv (1 : Int32), iv (3 : Int32), rv r_2405, iv (2 : Int32), iv (0 : Int32), .unset] [(.int (0 : Int32))])) _
          refine XS.ifNo X2843.here hx rfl (hb hby at_245) rfl (XT.i0_ne_f (by decide)) ?_
          refine XS.iconst X2843.here hx rfl (hb hby at_248) ?_
          refine XS.goto X2843.here hx rfl (pc0 := 249) (pc' := 253) rfl (hb hby at_249) (by decide) (by decide) ?_
          refine XS.istore X2843.here hx rfl (hb hby at_253) rfl (l' := #[iv p0, iv p1, iv p2, iv p3, rv b62, iv (1 : Int32), iv (3 : Int32), rv r_2405, iv (2 : Int32), iv (0 : Int32), .unset]) rfl ?_
          show Steps p.tables e below (T2843.setTop (mkF m 255 #[iv p0, iv p1, iv p2, iv p3, rv b62, iv (1 : Int32), iv (3 : Int32), rv r_2405, iv (2 : Int32), iv (0 : Int32), .unset] [])) _
          refine XS.iload X2843.here hx rfl (hb hby at_255) rfl ?_
          exact kt
        obtain ⟨fs, hr, hrun, hended, hW, hsame⟩ := X2843.leave (v := some (.int (1 : Int32))) (fun h => by rw [Bd.returns] at h; cases h)
        refine ⟨_, _, pre2845 _ (retN X2843 hx (t := .boolean) Bd.returns (by simp) (hb hby at_257) hr), hrun, hended, _, _, rfl, ?_, ⟨_, rfl⟩, hW, hsame.mono (by decide) (by decide)⟩
        show Q_law Z p0 p1 p2 p3 ac mr a_NO_SLOTS kn h0 n0 _ T2843.heap _
        rw [e2843]
        exact ⟨rfl, N2843⟩
    · rw [hv2428] at pre2427
      have pre2846 : ∀ t, Steps p.tables e below (T2425.setTop (mkF m 151 #[iv p0, iv p1, iv p2, iv p3, rv b62, iv (1 : Int32), iv (3 : Int32), rv r_2405, iv (3 : Int32), iv (3 : Int32), .unset] [(.int (0 : Int32)), (.ref r_2405), (.ref b62)])) t → Steps p.tables e below (s₁.setTop (entryFrame m #[(.int p0), (.int p1), (.int p2), (.int p3)] maxLocals)) t := fun t kt => by
        refine pre2427 _ ?_
        show Steps p.tables e below (T2425.setTop (mkF m 99 #[iv p0, iv p1, iv p2, iv p3, rv b62, iv (1 : Int32), iv (3 : Int32), rv r_2405, .unset, .unset, .unset] [(.int (3 : Int32))])) _
        refine XS.istore X2425.here hx rfl (hb hby at_99) rfl (l' := #[iv p0, iv p1, iv p2, iv p3, rv b62, iv (1 : Int32), iv (3 : Int32), rv r_2405, iv (3 : Int32), .unset, .unset]) rfl ?_
        refine XS.iload X2425.here hx rfl (hb hby at_101) rfl ?_
        refine XS.istore X2425.here hx rfl (hb hby at_103) rfl (l' := #[iv p0, iv p1, iv p2, iv p3, rv b62, iv (1 : Int32), iv (3 : Int32), rv r_2405, iv (3 : Int32), iv (3 : Int32), .unset]) rfl ?_
        refine XS.iload X2425.here hx rfl (hb hby at_105) rfl ?_
        show Steps p.tables e below (T2425.setTop (mkF m 107 #[iv p0, iv p1, iv p2, iv p3, rv b62, iv (1 : Int32), iv (3 : Int32), rv r_2405, iv (3 : Int32), iv (3 : Int32), .unset] [(.int (3 : Int32))])) _
        refine XS.iconst X2425.here hx rfl (hb hby at_107) ?_
        refine XS.icmpYes X2425.here hx rfl (pc0 := 108) (pc' := 122) rfl (hb hby at_108) rfl (XT.ii_ne_t (by decide)) (by decide) (by decide) ?_
        refine XS.iload X2425.here hx rfl (hb hby at_122) rfl ?_
        refine XS.iconst X2425.here hx rfl (hb hby at_124) ?_
        show Steps p.tables e below (T2425.setTop (mkF m 125 #[iv p0, iv p1, iv p2, iv p3, rv b62, iv (1 : Int32), iv (3 : Int32), rv r_2405, iv (3 : Int32), iv (3 : Int32), .unset] [(.int (2 : Int32)), (.int (3 : Int32))])) _
        refine XS.icmpYes X2425.here hx rfl (pc0 := 125) (pc' := 140) rfl (hb hby at_125) rfl (XT.ii_ne_t (by decide)) (by decide) (by decide) ?_
        refine XS.iload X2425.here hx rfl (hb hby at_140) rfl ?_
        refine XS.iconst X2425.here hx rfl (hb hby at_142) ?_
        refine XS.icmpNo X2425.here hx rfl (hb hby at_143) rfl (XT.ii_ne_f (by decide)) ?_
        show Steps p.tables e below (T2425.setTop (mkF m 146 #[iv p0, iv p1, iv p2, iv p3, rv b62, iv (1 : Int32), iv (3 : Int32), rv r_2405, iv (3 : Int32), iv (3 : Int32), .unset] [])) _
        refine XS.aload X2425.here hx rfl (hb hby at_146) rfl rfl ?_
        refine XS.aload X2425.here hx rfl (hb hby at_148) rfl rfl ?_
        refine XS.iconst X2425.here hx rfl (hb hby at_150) ?_
        exact kt
      obtain ⟨cq2847, kq2847, q2847a, q2847b, q2847c⟩ := isOf hZ e2425 J2421_0
      obtain ⟨_, _, ⟨T2847, L2847, k2847, n2847⟩, -, X2847, ⟨Lc2847, hQ2847, l2847, y2847, z2847⟩, st2847⟩ := X2425.virtualBack hx (y := (⟨"com/example/homethread/homethread/Items", "removeLast", "(Ljava/lang/Object;I)Z"⟩ : MethodName)) (z := (⟨"com/example/homethread/homethread/Items", "removeLast", "(Ljava/lang/Object;I)Z"⟩ : MethodName)) hown (mvT hZ (W 81 rfl)) (mvT hZ (W 82 rfl)) (notFace_of_selects (args := #[]) (mvT hZ (W 84 rfl))) (mvT hZ (W 84 rfl)) (mvT hZ (W 83 rfl)) (by decide) (backOf (W := 0) (rm_removeLast13_3 l Z a0 hw [] b62 r_2405 k109_68 b109_68 h2421 n0 O2421 g_b62 g_b109_68 J2421_0 J2421_1 J2421_2 J2421_3 J2421_4 (fun q => ne_b62_b109_68 q.symm)) hZ (W 85 rfl) (W 2 rfl) (by decide) (by decide)) q2847a q2847c (g := (mkF m 151 #[iv p0, iv p1, iv p2, iv p3, rv b62, iv (1 : Int32), iv (3 : Int32), rv r_2405, iv (3 : Int32), iv (3 : Int32), .unset] [(.int (0 : Int32)), (.ref r_2405), (.ref b62)])) rfl (by rw [hml]; rfl) (Steps.refl _) (argsL := [(.ref r_2405), (.int (0 : Int32))]) (rest := []) (lenOf pd_29 rfl) rfl (by show 2 * 0 + _ ≤ _; exact Nat.le_of_eq rfl) (hb hby at_151) (fun _ _ => ⟨rfl, e2425, (by decide : 3 + 0 ≤ _), (by decide : 19 + 0 ≤ _)⟩)
      dsimp only [Pt.U, Pt.locs, Pt.cells, Pt.slots] at X2847 l2847 y2847 z2847 st2847 hQ2847
      replace l2847 := l2847.symm
      replace y2847 : 3 = k2847 := y2847.symm
      replace z2847 : 19 = n2847 := z2847.symm
      subst l2847 y2847 z2847
      obtain ⟨rfl, M2847, Kc2847, O2847, J2847_0, J2847_1, J2847_2, J2847_3, J2847_4⟩ := hQ2847
      obtain ⟨h2847, e2847⟩ : ∃ z, T2847.heap = z := ⟨_, rfl⟩
      rw [e2847] at Kc2847 O2847 J2847_0 J2847_1 J2847_2 J2847_3 J2847_4
      have N2847 := Fr.app N2425 M2847
      have K2847 : Keep h0 h2847 [] := K2421.trans Kc2847 (own_all2 (Or.inr sz_b62) (Or.inr sz_b109_68))
      have pre3007 : ∀ t, Steps p.tables e below (T2847.setTop (mkF m 154 #[iv p0, iv p1, iv p2, iv p3, rv b62, iv (1 : Int32), iv (3 : Int32), rv r_2405, iv (3 : Int32), iv (3 : Int32), .unset] [(.int (1 : Int32))])) t → Steps p.tables e below (s₁.setTop (entryFrame m #[(.int p0), (.int p1), (.int p2), (.int p3)] maxLocals)) t := fun t kt => pre2846 _ (st2847.trans kt)
      have F3008 := F2423.keep Kc2847
      have pre3009 : ∀ t, Steps p.tables e below (T2847.setTop (mkF m 205 #[iv p0, iv p1, iv p2, iv p3, rv b62, iv (1 : Int32), iv (3 : Int32), rv r_2405, iv (3 : Int32), iv (2 : Int32), iv (1 : Int32)] [(.ref b62)])) t → Steps p.tables e below (s₁.setTop (entryFrame m #[(.int p0), (.int p1), (.int p2), (.int p3)] maxLocals)) t := fun t kt => by
        refine pre3007 _ ?_
        show Steps p.tables e below (T2847.setTop (mkF m 154 #[iv p0, iv p1, iv p2, iv p3, rv b62, iv (1 : Int32), iv (3 : Int32), rv r_2405, iv (3 : Int32), iv (3 : Int32), .unset] [(.int (1 : Int32))])) _
        refine XS.istore X2847.here hx rfl (hb hby at_154) rfl (l' := #[iv p0, iv p1, iv p2, iv p3, rv b62, iv (1 : Int32), iv (3 : Int32), rv r_2405, iv (3 : Int32), iv (3 : Int32), iv (1 : Int32)]) rfl ?_
        refine XS.iload X2847.here hx rfl (hb hby at_156) rfl ?_
        refine XS.ifNo X2847.here hx rfl (hb hby at_158) rfl (XT.i0_eq_f (by decide)) ?_
        refine XS.iload X2847.here hx rfl (hb hby at_161) rfl ?_
        show Steps p.tables e below (T2847.setTop (mkF m 163 #[iv p0, iv p1, iv p2, iv p3, rv b62, iv (1 : Int32), iv (3 : Int32), rv r_2405, iv (3 : Int32), iv (3 : Int32), iv (1 : Int32)] [(.int (1 : Int32))])) _
        refine XS.iload X2847.here hx rfl (hb hby at_163) rfl ?_
        refine XS.ifNo X2847.here hx rfl (hb hby at_165) rfl (XT.i0_le_f (by decide)) ?_
        refine XS.iconst X2847.here hx rfl (hb hby at_168) ?_
        refine XS.goto X2847.here hx rfl (pc0 := 169) (pc' := 173) rfl (hb hby at_169) (by decide) (by decide) ?_
        show Steps p.tables e below (T2847.setTop (mkF m 173 #[iv p0, iv p1, iv p2, iv p3, rv b62, iv (1 : Int32), iv (3 : Int32), rv r_2405, iv (3 : Int32), iv (3 : Int32), iv (1 : Int32)] [(.int (1 : Int32)), (.int (1 : Int32))])) _
        refine XS.icmpNo X2847.here hx rfl (hb hby at_173) rfl (XT.ii_ne_f (by decide)) ?_
        refine XS.iconst X2847.here hx rfl (hb hby at_176) ?_
        refine XS.goto X2847.here hx rfl (pc0 := 177) (pc' := 181) rfl (hb hby at_177) (by decide) (by decide) ?_
        refine XS.istore X2847.here hx rfl (hb hby at_181) rfl (l' := #[iv p0, iv p1, iv p2, iv p3, rv b62, iv (1 : Int32), iv (3 : Int32), rv r_2405, iv (3 : Int32), iv (3 : Int32), iv (1 : Int32)]) rfl ?_
        show Steps p.tables e below (T2847.setTop (mkF m 183 #[iv p0, iv p1, iv p2, iv p3, rv b62, iv (1 : Int32), iv (3 : Int32), rv r_2405, iv (3 : Int32), iv (3 : Int32), iv (1 : Int32)] [])) _
        refine XS.iload X2847.here hx rfl (hb hby at_183) rfl ?_
        refine XS.ifNo X2847.here hx rfl (hb hby at_185) rfl (XT.i0_le_f (by decide)) ?_
        refine XS.iload X2847.here hx rfl (hb hby at_188) rfl ?_
        refine XS.iconst X2847.here hx rfl (hb hby at_190) ?_
        show Steps p.tables e below (T2847.setTop (mkF m 191 #[iv p0, iv p1, iv p2, iv p3, rv b62, iv (1 : Int32), iv (3 : Int32), rv r_2405, iv (3 : Int32), iv (3 : Int32), iv (1 : Int32)] [(.int (1 : Int32)), (.int (3 : Int32))])) _
        refine XS.isub X2847.here hx rfl (hb hby at_191) rfl ?_
        show  Steps p.tables e below (T2847.setTop (mkF m 192 #[iv p0, iv p1, iv p2, iv p3, rv b62, iv (1 : Int32), iv (3 : Int32), rv r_2405, iv (3 : Int32), iv (3 : Int32), iv (1 : Int32)] [(.int ((3 : Int32) - (1 : Int32)))])) _
        rw [(by decide : (((3 : Int32) - (1 : Int32)) : Int32) = (2 : Int32))]
        refine XS.goto X2847.here hx rfl (pc0 := 192) (pc' := 196) rfl (hb hby at_192) (by decide) (by decide) ?_
        refine XS.istore X2847.here hx rfl (hb hby at_196) rfl (l' := #[iv p0, iv p1, iv p2, iv p3, rv b62, iv (1 : Int32), iv (3 : Int32), rv r_2405, iv (3 : Int32), iv (2 : Int32), iv (1 : Int32)]) rfl ?_
        refine XS.iload X2847.here hx rfl (hb hby at_198) rfl ?_
        show Steps p.tables e below (T2847.setTop (mkF m 200 #[iv p0, iv p1, iv p2, iv p3, rv b62, iv (1 : Int32), iv (3 : Int32), rv r_2405, iv (3 : Int32), iv (2 : Int32), iv (1 : Int32)] [(.int (1 : Int32))])) _
        refine XS.ifNo X2847.here hx rfl (hb hby at_200) rfl (XT.i0_eq_f (by decide)) ?_
        refine XS.aload X2847.here hx rfl (hb hby at_203) rfl rfl ?_
        exact kt
      obtain ⟨cq3010, kq3010, q3010a, q3010b, q3010c⟩ := isOf hZ e2847 J2847_0
      obtain ⟨_, _, ⟨T3010, L3010, k3010, n3010⟩, -, X3010, ⟨Lc3010, hQ3010, l3010, y3010, z3010⟩, st3010⟩ := X2847.virtualBack hx (y := (⟨"com/example/homethread/homethread/Items", "isEmpty", "()Z"⟩ : MethodName)) (z := (⟨"com/example/homethread/homethread/Items", "isEmpty", "()Z"⟩ : MethodName)) hown (mvT hZ (W 13 rfl)) (mvT hZ (W 14 rfl)) (notFace_of_selects (args := #[]) (mvT hZ (W 16 rfl))) (mvT hZ (W 16 rfl)) (mvT hZ (W 15 rfl)) (by decide) (backOf (W := 0) (rm_isEmpty3_2 l Z a0 hw [] b62 h2847 n0 O2847 J2847_3) hZ (W 17 rfl) (W 2 rfl) (by decide) (by decide)) q3010a q3010c (g := (mkF m 205 #[iv p0, iv p1, iv p2, iv p3, rv b62, iv (1 : Int32), iv (3 : Int32), rv r_2405, iv (3 : Int32), iv (2 : Int32), iv (1 : Int32)] [(.ref b62)])) rfl (by rw [hml]; rfl) (Steps.refl _) (argsL := []) (rest := []) (lenOf pd_12 rfl) rfl (by show 2 * 0 + _ ≤ _; exact Nat.le_of_eq rfl) (hb hby at_205) (fun _ _ => ⟨rfl, e2847, (by decide : 3 + 0 ≤ _), (by decide : 19 + 0 ≤ _)⟩)
      dsimp only [Pt.U, Pt.locs, Pt.cells, Pt.slots] at X3010 l3010 y3010 z3010 st3010 hQ3010
      replace l3010 := l3010.symm
      replace y3010 : 3 = k3010 := y3010.symm
      replace z3010 : 19 = n3010 := z3010.symm
      subst l3010 y3010 z3010
      obtain ⟨rfl, M3010, e3010⟩ := hQ3010
      have N3010 := Fr.app N2847 M3010
      have pre3011 : ∀ t, Steps p.tables e below (T3010.setTop (mkF m 208 #[iv p0, iv p1, iv p2, iv p3, rv b62, iv (1 : Int32), iv (3 : Int32), rv r_2405, iv (3 : Int32), iv (2 : Int32), iv (1 : Int32)] [(.int (0 : Int32))])) t → Steps p.tables e below (s₁.setTop (entryFrame m #[(.int p0), (.int p1), (.int p2), (.int p3)] maxLocals)) t := fun t kt => pre3009 _ (st3010.trans kt)
      have pre3012 : ∀ t, Steps p.tables e below (T3010.setTop (mkF m 232 #[iv p0, iv p1, iv p2, iv p3, rv b62, iv (1 : Int32), iv (3 : Int32), rv r_2405, iv (3 : Int32), iv (2 : Int32), iv (1 : Int32)] [(.ref r_2405), (.ref b62)])) t → Steps p.tables e below (s₁.setTop (entryFrame m #[(.int p0), (.int p1), (.int p2), (.int p3)] maxLocals)) t := fun t kt => by
        refine pre3011 _ ?_
        show Steps p.tables e below (T3010.setTop (mkF m 208 #[iv p0, iv p1, iv p2, iv p3, rv b62, iv (1 : Int32), iv (3 : Int32), rv r_2405, iv (3 : Int32), iv (2 : Int32), iv (1 : Int32)] [(.int (0 : Int32))])) _
        refine XS.iload X3010.here hx rfl (hb hby at_208) rfl ?_
        refine XS.ifYes X3010.here hx rfl (pc0 := 210) (pc' := 217) rfl (hb hby at_210) rfl (XT.i0_ne_t (by decide)) (by decide) (by decide) ?_
        refine XS.iconst X3010.here hx rfl (hb hby at_217) ?_
        refine XS.icmpNo X3010.here hx rfl (hb hby at_218) rfl (XT.ii_ne_f (by decide)) ?_
        show Steps p.tables e below (T3010.setTop (mkF m 221 #[iv p0, iv p1, iv p2, iv p3, rv b62, iv (1 : Int32), iv (3 : Int32), rv r_2405, iv (3 : Int32), iv (2 : Int32), iv (1 : Int32)] [])) _
        refine XS.iconst X3010.here hx rfl (hb hby at_221) ?_
        refine XS.goto X3010.here hx rfl (pc0 := 222) (pc' := 226) rfl (hb hby at_222) (by decide) (by decide) ?_
        refine XS.istore X3010.here hx rfl (hb hby at_226) rfl (l' := #[iv p0, iv p1, iv p2, iv p3, rv b62, iv (1 : Int32), iv (3 : Int32), rv r_2405, iv (3 : Int32), iv (2 : Int32), iv (1 : Int32)]) rfl ?_
        refine XS.aload X3010.here hx rfl (hb hby at_228) rfl rfl ?_
        show Steps p.tables e below (T3010.setTop (mkF m 230 #[iv p0, iv p1, iv p2, iv p3, rv b62, iv (1 : Int32), iv (3 : Int32), rv r_2405, iv (3 : Int32), iv (2 : Int32), iv (1 : Int32)] [(.ref b62)])) _
        refine XS.aload X3010.here hx rfl (hb hby at_230) rfl rfl ?_
        exact kt
      obtain ⟨cq3013, kq3013, q3013a, q3013b, q3013c⟩ := isOf hZ e3010 J2847_0
      obtain ⟨_, _, ⟨T3013, L3013, k3013, n3013⟩, -, X3013, ⟨Lc3013, hQ3013, l3013, y3013, z3013⟩, st3013⟩ := X3010.virtualBack hx (y := (⟨"com/example/homethread/homethread/Items", "add", "(Ljava/lang/Object;)V"⟩ : MethodName)) (z := (⟨"com/example/homethread/homethread/Items", "add", "(Ljava/lang/Object;)V"⟩ : MethodName)) hown (mvT hZ (W 34 rfl)) (mvT hZ (W 35 rfl)) (notFace_of_selects (args := #[]) (mvT hZ (W 37 rfl))) (mvT hZ (W 37 rfl)) (mvT hZ (W 36 rfl)) (by decide) (backOf (W := 0) (rm_add6_5 l Z a0 hw [] b62 r_2405 k109_68 b109_68 h2847 n0 O2847 g_b62 g_b109_68 J68_3 F3008 J2847_0 J2847_1 J2847_2 J2847_4 J2847_3 (fun q => ne_b62_b109_68 q.symm)) hZ (W 38 rfl) (W 2 rfl) (by decide) (by decide)) q3013a q3013c (g := (mkF m 232 #[iv p0, iv p1, iv p2, iv p3, rv b62, iv (1 : Int32), iv (3 : Int32), rv r_2405, iv (3 : Int32), iv (2 : Int32), iv (1 : Int32)] [(.ref r_2405), (.ref b62)])) rfl (by rw [hml]; rfl) (Steps.refl _) (argsL := [(.ref r_2405)]) (rest := []) (lenOf pd_15 rfl) rfl (by show 2 * 0 + _ ≤ _; exact Nat.le_of_eq rfl) (hb hby at_232) (fun _ _ => ⟨rfl, e3010, (by decide : 3 + 0 ≤ _), (by decide : 19 + 0 ≤ _)⟩)
      dsimp only [Pt.U, Pt.locs, Pt.cells, Pt.slots] at X3013 l3013 y3013 z3013 st3013 hQ3013
      replace l3013 := l3013.symm
      replace y3013 : 3 = k3013 := y3013.symm
      replace z3013 : 19 = n3013 := z3013.symm
      subst l3013 y3013 z3013
      obtain ⟨rfl, M3013, Kc3013, O3013, J3013_0, J3013_1, J3013_2, J3013_3, J3013_4⟩ := hQ3013
      obtain ⟨h3013, e3013⟩ : ∃ z, T3013.heap = z := ⟨_, rfl⟩
      rw [e3013] at Kc3013 O3013 J3013_0 J3013_1 J3013_2 J3013_3 J3013_4
      have N3013 := Fr.app N3010 M3013
      have K3013 : Keep h0 h3013 [] := K2847.trans Kc3013 (own_all2 (Or.inr sz_b62) (Or.inr sz_b109_68))
      have pre3014 : ∀ t, Steps p.tables e below (T3013.setTop (mkF m 235 #[iv p0, iv p1, iv p2, iv p3, rv b62, iv (1 : Int32), iv (3 : Int32), rv r_2405, iv (3 : Int32), iv (2 : Int32), iv (1 : Int32)] [])) t → Steps p.tables e below (s₁.setTop (entryFrame m #[(.int p0), (.int p1), (.int p2), (.int p3)] maxLocals)) t := fun t kt => pre3012 _ (st3013.trans kt)
      have F3015 := F3008.keep Kc3013
      have pre3016 : ∀ t, Steps p.tables e below (T3013.setTop (mkF m 242 #[iv p0, iv p1, iv p2, iv p3, rv b62, iv (1 : Int32), iv (3 : Int32), rv r_2405, iv (3 : Int32), iv (2 : Int32), iv (1 : Int32)] [(.ref b62)])) t → Steps p.tables e below (s₁.setTop (entryFrame m #[(.int p0), (.int p1), (.int p2), (.int p3)] maxLocals)) t := fun t kt => by
        refine pre3014 _ ?_
        show Steps p.tables e below (T3013.setTop (mkF m 235 #[iv p0, iv p1, iv p2, iv p3, rv b62, iv (1 : Int32), iv (3 : Int32), rv r_2405, iv (3 : Int32), iv (2 : Int32), iv (1 : Int32)] [])) _
        refine XS.iload X3013.here hx rfl (hb hby at_235) rfl ?_
        refine XS.ifNo X3013.here hx rfl (hb hby at_237) rfl (XT.i0_eq_f (by decide)) ?_
        refine XS.aload X3013.here hx rfl (hb hby at_240) rfl rfl ?_
        exact kt
      obtain ⟨cq3017, kq3017, q3017a, q3017b, q3017c⟩ := isOf hZ e3013 J3013_0
      obtain ⟨_, _, ⟨T3017, L3017, k3017, n3017⟩, -, X3017, ⟨Lc3017, hQ3017, l3017, y3017, z3017⟩, st3017⟩ := X3013.virtualBack hx (y := (⟨"com/example/homethread/homethread/Items", "isEmpty", "()Z"⟩ : MethodName)) (z := (⟨"com/example/homethread/homethread/Items", "isEmpty", "()Z"⟩ : MethodName)) hown (mvT hZ (W 13 rfl)) (mvT hZ (W 14 rfl)) (notFace_of_selects (args := #[]) (mvT hZ (W 16 rfl))) (mvT hZ (W 16 rfl)) (mvT hZ (W 15 rfl)) (by decide) (backOf (W := 0) (rm_isEmpty3_3 l Z a0 hw [] b62 h3013 n0 O3013 J3013_4) hZ (W 17 rfl) (W 2 rfl) (by decide) (by decide)) q3017a q3017c (g := (mkF m 242 #[iv p0, iv p1, iv p2, iv p3, rv b62, iv (1 : Int32), iv (3 : Int32), rv r_2405, iv (3 : Int32), iv (2 : Int32), iv (1 : Int32)] [(.ref b62)])) rfl (by rw [hml]; rfl) (Steps.refl _) (argsL := []) (rest := []) (lenOf pd_12 rfl) rfl (by show 2 * 0 + _ ≤ _; exact Nat.le_of_eq rfl) (hb hby at_242) (fun _ _ => ⟨rfl, e3013, (by decide : 3 + 0 ≤ _), (by decide : 19 + 0 ≤ _)⟩)
      dsimp only [Pt.U, Pt.locs, Pt.cells, Pt.slots] at X3017 l3017 y3017 z3017 st3017 hQ3017
      replace l3017 := l3017.symm
      replace y3017 : 3 = k3017 := y3017.symm
      replace z3017 : 19 = n3017 := z3017.symm
      subst l3017 y3017 z3017
      obtain ⟨rfl, M3017, e3017⟩ := hQ3017
      have N3017 := Fr.app N3013 M3017
      have pre3018 : ∀ t, Steps p.tables e below (T3017.setTop (mkF m 245 #[iv p0, iv p1, iv p2, iv p3, rv b62, iv (1 : Int32), iv (3 : Int32), rv r_2405, iv (3 : Int32), iv (2 : Int32), iv (1 : Int32)] [(.int (0 : Int32))])) t → Steps p.tables e below (s₁.setTop (entryFrame m #[(.int p0), (.int p1), (.int p2), (.int p3)] maxLocals)) t := fun t kt => pre3016 _ (st3017.trans kt)
      have pre3019 : ∀ t, Steps p.tables e below (T3017.setTop (mkF m 257 #[iv p0, iv p1, iv p2, iv p3, rv b62, iv (1 : Int32), iv (3 : Int32), rv r_2405, iv (3 : Int32), iv (2 : Int32), iv (1 : Int32)] [(.int (1 : Int32))])) t → Steps p.tables e below (s₁.setTop (entryFrame m #[(.int p0), (.int p1), (.int p2), (.int p3)] maxLocals)) t := fun t kt => by
        refine pre3018 _ ?_
        show Steps p.tables e below (T3017.setTop (mkF m 245 #[iv p0, iv p1, iv p2, iv p3, rv b62, iv (1 : Int32), iv (3 : Int32), rv r_2405, iv (3 : Int32), iv (2 : Int32), iv (1 : Int32)] [(.int (0 : Int32))])) _
        refine XS.ifNo X3017.here hx rfl (hb hby at_245) rfl (XT.i0_ne_f (by decide)) ?_
        refine XS.iconst X3017.here hx rfl (hb hby at_248) ?_
        refine XS.goto X3017.here hx rfl (pc0 := 249) (pc' := 253) rfl (hb hby at_249) (by decide) (by decide) ?_
        refine XS.istore X3017.here hx rfl (hb hby at_253) rfl (l' := #[iv p0, iv p1, iv p2, iv p3, rv b62, iv (1 : Int32), iv (3 : Int32), rv r_2405, iv (3 : Int32), iv (2 : Int32), iv (1 : Int32)]) rfl ?_
        show Steps p.tables e below (T3017.setTop (mkF m 255 #[iv p0, iv p1, iv p2, iv p3, rv b62, iv (1 : Int32), iv (3 : Int32), rv r_2405, iv (3 : Int32), iv (2 : Int32), iv (1 : Int32)] [])) _
        refine XS.iload X3017.here hx rfl (hb hby at_255) rfl ?_
        exact kt
      obtain ⟨fs, hr, hrun, hended, hW, hsame⟩ := X3017.leave (v := some (.int (1 : Int32))) (fun h => by rw [Bd.returns] at h; cases h)
      refine ⟨_, _, pre3019 _ (retN X3017 hx (t := .boolean) Bd.returns (by simp) (hb hby at_257) hr), hrun, hended, _, _, rfl, ?_, ⟨_, rfl⟩, hW, hsame.mono (by decide) (by decide)⟩
      show Q_law Z p0 p1 p2 p3 ac mr a_NO_SLOTS kn h0 n0 _ T3017.heap _
      rw [e3017]
      exact ⟨rfl, N3017⟩
set_option maxRecDepth 65536 in
set_option maxHeartbeats 40000000 in
theorem comes_1 {Post : Tables → Env → Array Value → State → Outcome → State → Prop} (hpost : ∀ tb e args s v u, (limb_1_1.after args s (.returned v) u = true ∧ limb_1_2.after args s (.returned v) u = true ∧ True) → FrameEnd s (.returned v) u (Jvm.fieldLocs frame_1_writes args s ++ Jvm.arrayLocs frame_1_arrays args s ++ Jvm.staticLocs frame_1_statics s) 16 192 → Post tb e args s (.returned v) u) :
    ArmFor flags0 classFile x code maxLocals ret World_1 tables_1 room_1 Calls_1 rest_1 Pre_1 Post := by
  intro l hfl _ _ p e ha hc hk s m args below hf hA hF happ hP
  obtain ⟨hcalls, hrest, hpre⟩ := hP
  obtain ⟨-, -, -, hnamed, -, -, -, hat⟩ := (Spec.applies_iff hf).mp happ
  obtain ⟨hg, hn⟩ := and_e (Cond.before_iff.mp (show (Jvm.Cond.and given_1 narrow_1).before args s = true from hpre))
  obtain ⟨given_1_2, given_1_3⟩ := and_e hg
  obtain ⟨given_1_4, given_1_5⟩ := and_e given_1_3
  obtain ⟨given_1_6, given_1_7⟩ := and_e given_1_5
  obtain ⟨given_1_8, given_1_9⟩ := and_e given_1_7
  obtain ⟨narrow_1_2, narrow_1_3⟩ := and_e hn
  obtain ⟨narrow_1_4, narrow_1_5⟩ := and_e narrow_1_3
  obtain ⟨w0, w1, w2, w3, rfl⟩ : ∃ w0 w1 w2 w3 : Value, args = #[w0, w1, w2, w3] := by
    have hs : args.size = 4 := by simpa [Cond.value, given_1] using given_1_2
    obtain ⟨L⟩ := args
    match L, hs with
    | [w0, w1, w2, w3], _ => exact ⟨w0, w1, w2, w3, rfl⟩
  have hw := fun d (hd : d ∈ tables_1) => atoms_spec (ws := Jvm.Cond.code x code maxLocals ret :: tables_1) hat d (List.mem_cons_of_mem _ hd)
  have W := fun {d : Jvm.Cond} (i : Nat) (q : tables_1[i]? = some d) => hw d (List.mem_of_getElem? q)
  have hfit : Fit s := fun {y c} hc i hi => by
    obtain ⟨ha, rfl⟩ := Array.getElem?_eq_some_iff.mp hc
    have q := List.all_eq_true.mp ((Array.all_eq_true_iff_forall_mem.mp hF) _ (Array.getElem_mem ha)) i (List.mem_range.mpr hi)
    simpa [Array.getElem?_eq_getElem hi] using q
  obtain ⟨hsets, hown0⟩ := atoms_of _ (rest_1_c_eq ▸ (show rest_1_c.before _ s = true from hrest))
  have hr0 := Cond.before_iff.mp hown0
  obtain ⟨i0, ei0⟩ := is_v given_1_4
  obtain rfl : w0 = (.int i0) := Option.some.inj ei0
  obtain ⟨i1, ei1⟩ := is_v given_1_6
  obtain rfl : w1 = (.int i1) := Option.some.inj ei1
  obtain ⟨i2, ei2⟩ := is_v given_1_8
  obtain rfl : w2 = (.int i2) := Option.some.inj ei2
  obtain ⟨i3, ei3⟩ := is_v given_1_9
  obtain rfl : w3 = (.int i3) := Option.some.inj ei3
  obtain ⟨a_NO_SLOTS, ev_NO_SLOTS⟩ := exa_v narrow_1_4
  have S_NO_SLOTS : Sta s s.heap "com/example/homethread/homethread/Items" "NO_SLOTS" "[Ljava/lang/Object;" (.ref a_NO_SLOTS) := Sta.start ev_NO_SLOTS (Or.inr ⟨(W 2 rfl), (W 33 rfl)⟩)
  have E_NO_SLOTS : Exa s s.heap a_NO_SLOTS "[Ljava/lang/Object;" := Exa.start ev_NO_SLOTS narrow_1_4
  have S_high : Sta s s.heap "java/lang/Integer$IntegerCache" "high" "I" (.int (127 : Int32)) := Sta.start (own_eqI (Cond.before_iff.mp (hsets _ (List.mem_of_getElem? (i := 3) rfl)))) (Or.inl (hsets _ (List.mem_of_getElem? (i := 1) rfl)))
  obtain ⟨ac, ev_cache⟩ := arr_v (Cond.before_iff.mp (hsets _ (List.mem_of_getElem? (i := 4) rfl)))
  have S_cache : Sta s s.heap "java/lang/Integer$IntegerCache" "cache" "[Ljava/lang/Integer;" (.ref ac) := Sta.start ev_cache (Or.inr ⟨(W 25 rfl), (hsets _ (List.mem_of_getElem? (i := 2) rfl))⟩)
  have H_cache : own_cache s ac := own_cache_start ev_cache (Cond.before_iff.mp (hsets _ (List.mem_of_getElem? (i := 4) rfl))) (Cond.before_iff.mp (hsets _ (List.mem_of_getElem? (i := 6) rfl))) (Cond.before_iff.mp (hsets _ (List.mem_of_getElem? (i := 7) rfl)))
  obtain ⟨⟨cM, kM, mr, hm1, hm2, hm3, -⟩, -⟩ := hcalls
  have M_oa : own_mir s "[Ljava/lang/Object;" mr := ⟨cM, kM, hm1, hm2, hm3⟩
  obtain ⟨kn, V_ns⟩ := own_arv0 (dv := .null) hfit ev_NO_SLOTS narrow_1_2 narrow_1_5
  obtain ⟨n, o, h1, h2, h3, _, L, rfl, ⟨rfl, N⟩, hq⟩ := rm_law l s _ hw tables_1 i0 i1 i2 i3 ac mr a_NO_SLOTS kn s.heap s.heap.size (Old.start s) S_high S_cache H_cache M_oa S_NO_SLOTS E_NO_SLOTS V_ns p e ha hc hk s m _ below hf ((Spec.applies_iff_loose hf).mp happ).1 ⟨rfl, State.Warmed39.refl s, rfl⟩ trivial
  refine ⟨n, _, h1, h2, h3, hpost _ _ _ _ _ _ ⟨Cond.after_iff.mpr rfl, Cond.after_iff.mpr (eq_i res_at (Term.int_eval (1)) rfl), trivial⟩ ⟨hq.1, hq.2.1, (hq.2.2.sift fun y hy => Or.inr (N y hy)).mono (by decide) (by decide)⟩⟩
theorem main_1_1 : Claimed_1_1 := comes_1 fun _ _ _ _ _ _ h hF => ⟨h.1, hF⟩
theorem main_1_2 : Claimed_1_2 := comes_1 fun _ _ _ _ _ _ h hF => ⟨h.2.1, hF⟩
end Jvm.Pilot.@@N@@
namespace Jvm.Pilot.@@N@@
open Jvm Jvm.ClassFile Sem Op Lib Jvm.Free Jvm.Stand Jvm.Pilot.@@N@@.Jvm.D
/-! MADE BY PROGRAM (witnessworld.py) out of the Statement's table words and the real class files: 19 classes; the members and pool entries that the words name. The judged class is class 1, her method 1. -/
namespace start1
open Jvm.ClassFile
def u (s : String) : CpInfo := .utf8 (stringToUtf16 s)
/-- a pool by its gaps: so many unusable entries, then the entry; so many at the end -/
def gap : Nat → List CpInfo → List CpInfo
  | 0, r => r
  | n + 1, r => .unusable :: gap n r
def poolList (es : List (Nat × CpInfo)) (last : Nat) : List CpInfo := es.foldr (fun e r => gap e.1 (e.2 :: r)) (gap last [])
def pool (es : List (Nat × CpInfo)) (last : Nat) : Array CpInfo := ⟨poolList es last⟩
def fileOf (pool : Array CpInfo) (this : Nat) (attrs : Array Attribute := #[]) (ms : Array MethodInfo := #[]) (fl : Nat := 33) (sup : Nat := 0) (ifs : Array Nat := #[]) (fds : Array FieldInfo := #[]) : ClassFile where
  minorVersion := 0
  majorVersion := 65
  constantPool := pool
  accessFlags := fl
  thisClass := this
  superClass := sup
  interfaces := ifs
  fields := fds
  methods := ms
  attributes := attrs
def plain (name : String) (sup : Option ClassId) : Class where
  name := name
  kind := .ordinary
  loader := none
  accessFlags := 33
  super := sup
  interfaces := #[]
  cf := none
  fields := #[]
  methods := #[]
  instanceTypes := #[]
  staticTypes := #[]
  resolved := #[]
  callSites := []
  init := .initialized
  statics := none
  mirror := none

def pool0 : Array CpInfo := pool [(5, u "<init>"), (0, u "()V"), (1, .class_ 10), (1, u "java/lang/Object"), (0, u "getClass"), (0, u "()Ljava/lang/Class;")] 111

def k0c0 : Code := { maxStack := 0, maxLocals := 1, code := object_method_1_code, exceptionTable := #[], attributes := #[] }
def k0m0 : Method := { name := "<init>", desc := "()V", sig := { parameters := [], returnType := none }, accessFlags := 1, code := some k0c0 }
def k0m1 : Method := { name := "getClass", desc := "()Ljava/lang/Class;", sig := { parameters := [], returnType := some (.object "java/lang/Class") }, accessFlags := 273, code := none }
/-- java/lang/Object -/
def k0 : Class := { plain "java/lang/Object" none with
  accessFlags := 33
  interfaces := #[]
  cf := some (fileOf pool0 8 #[] #[{ accessFlags := 1, nameIndex := 5, descriptorIndex := 6, attributes := #[] }, { accessFlags := 273, nameIndex := 11, descriptorIndex := 12, attributes := #[] }] 33 0 #[] #[])
  fields := #[]
  methods := #[k0m0, k0m1]
  instanceTypes := #[]
  staticTypes := #[]
  resolved := Array.replicate 124 none
  statics := none }

def pool1 : Array CpInfo := pool [(2, .class_ 4), (0, .nameAndType 5 6), (0, u "java/lang/Object"), (0, u "<init>"), (0, u "()V"), (0, .class_ 8), (0, u "com/example/homethread/homethread/Items"), (0, .methodref 7 3), (0, .methodref 7 11), (0, .nameAndType 12 13), (0, u "isEmpty"), (0, u "()Z"), (0, .methodref 15 16), (0, .class_ 17), (0, .nameAndType 18 19), (0, u "java/lang/Integer"), (0, u "valueOf"), (0, u "(I)Ljava/lang/Integer;"), (0, .methodref 7 21), (0, .nameAndType 22 23), (0, u "add"), (0, u "(Ljava/lang/Object;)V"), (0, .methodref 7 25), (0, .nameAndType 26 6), (0, u "clear"), (0, .methodref 7 28), (0, .nameAndType 29 30), (0, u "clearAndTrim"), (0, u "(I)V"), (0, .methodref 7 32), (0, .nameAndType 33 34), (0, u "removeLast"), (0, u "(Ljava/lang/Object;I)Z"), (0, .class_ 36), (0, u "com/example/homethread/homethread/ItemsIsEmptyPinLaw"), (2, u "law"), (0, u "(IIII)Z")] 3

def k1m0 : Method := { name := "<init>", desc := "()V", sig := { parameters := [], returnType := none }, accessFlags := 1, code := none }
def k1c1 : Code := { maxStack := 3, maxLocals := 11, code := code, exceptionTable := #[], attributes := #[] }
def k1m1 : Method := { name := "law", desc := "(IIII)Z", sig := { parameters := [.int, .int, .int, .int], returnType := some .boolean }, accessFlags := 9, code := some k1c1 }
/-- com/example/homethread/homethread/ItemsIsEmptyPinLaw -/
def k1 : Class := { plain "com/example/homethread/homethread/ItemsIsEmptyPinLaw" (some 0) with
  accessFlags := 49
  interfaces := #[]
  cf := some (fileOf pool1 35 #[] #[{ accessFlags := 1, nameIndex := 5, descriptorIndex := 6, attributes := #[] }, { accessFlags := 9, nameIndex := 39, descriptorIndex := 40, attributes := #[] }] 49 2 #[] #[])
  fields := #[]
  methods := #[k1m0, k1m1]
  instanceTypes := #[]
  staticTypes := #[]
  resolved := Array.replicate 44 none
  statics := none }

def pool2 : Array CpInfo := pool [(1, .methodref 2 3), (0, .class_ 4), (0, .nameAndType 5 6), (0, u "java/lang/Object"), (0, u "<init>"), (0, u "()V"), (0, .class_ 8), (0, u "com/example/homethread/homethread/Items"), (0, .fieldref 7 10), (0, .nameAndType 11 12), (0, u "slots"), (0, u "[Ljava/lang/Object;"), (36, u "()Z"), (32, .fieldref 7 83), (0, .nameAndType 84 85), (0, u "size"), (0, u "I"), (0, .methodref 87 88), (0, .class_ 89), (0, .nameAndType 90 91), (0, u "java/lang/Math"), (0, u "max"), (0, u "(II)I"), (2, .integer 2147483647), (0, .methodref 96 97), (0, .class_ 98), (0, .nameAndType 99 100), (0, u "java/util/Arrays"), (0, u "copyOf"), (0, u "([Ljava/lang/Object;I)[Ljava/lang/Object;"), (0, .fieldref 7 102), (0, .nameAndType 103 12), (0, u "NO_SLOTS"), (0, .methodref 105 106), (0, .class_ 107), (0, .nameAndType 108 109), (0, u "java/lang/System"), (0, u "arraycopy"), (0, u "(Ljava/lang/Object;ILjava/lang/Object;II)V"), (0, u "FIRST_SLOTS"), (16, u "isEmpty"), (1, u "add"), (0, u "(Ljava/lang/Object;)V"), (3, u "clear"), (0, u "clearAndTrim"), (0, u "(I)V"), (0, u "removeLast"), (0, u "(Ljava/lang/Object;I)Z")] 6

def k2c0 : Code := { maxStack := 2, maxLocals := 1, code := prog_9_method_1_code, exceptionTable := #[], attributes := #[] }
def k2m0 : Method := { name := "<init>", desc := "()V", sig := { parameters := [], returnType := none }, accessFlags := 0, code := some k2c0 }
def k2c1 : Code := { maxStack := 1, maxLocals := 1, code := prog_9_method_6_code, exceptionTable := #[], attributes := #[] }
def k2m1 : Method := { name := "isEmpty", desc := "()Z", sig := { parameters := [], returnType := some .boolean }, accessFlags := 0, code := some k2c1 }
def k2c2 : Code := { maxStack := 4, maxLocals := 3, code := prog_9_method_8_code, exceptionTable := #[], attributes := #[] }
def k2m2 : Method := { name := "add", desc := "(Ljava/lang/Object;)V", sig := { parameters := [(.object "java/lang/Object")], returnType := none }, accessFlags := 0, code := some k2c2 }
def k2c3 : Code := { maxStack := 2, maxLocals := 1, code := prog_9_method_10_code, exceptionTable := #[], attributes := #[] }
def k2m3 : Method := { name := "clear", desc := "()V", sig := { parameters := [], returnType := none }, accessFlags := 0, code := some k2c3 }
def k2c4 : Code := { maxStack := 2, maxLocals := 2, code := prog_9_method_11_code, exceptionTable := #[], attributes := #[] }
def k2m4 : Method := { name := "clearAndTrim", desc := "(I)V", sig := { parameters := [.int], returnType := none }, accessFlags := 0, code := some k2c4 }
def k2c5 : Code := { maxStack := 6, maxLocals := 4, code := prog_9_method_12_code, exceptionTable := #[], attributes := #[] }
def k2m5 : Method := { name := "removeLast", desc := "(Ljava/lang/Object;I)Z", sig := { parameters := [(.object "java/lang/Object"), .int], returnType := some .boolean }, accessFlags := 0, code := some k2c5 }
/-- com/example/homethread/homethread/Items -/
def k2 : Class := { plain "com/example/homethread/homethread/Items" (some 0) with
  accessFlags := 48
  interfaces := #[]
  cf := some (fileOf pool2 7 #[] #[{ accessFlags := 0, nameIndex := 5, descriptorIndex := 6, attributes := #[] }, { accessFlags := 0, nameIndex := 127, descriptorIndex := 49, attributes := #[] }, { accessFlags := 0, nameIndex := 129, descriptorIndex := 130, attributes := #[] }, { accessFlags := 0, nameIndex := 134, descriptorIndex := 6, attributes := #[] }, { accessFlags := 0, nameIndex := 135, descriptorIndex := 136, attributes := #[] }, { accessFlags := 0, nameIndex := 137, descriptorIndex := 138, attributes := #[] }] 48 2 #[] #[{ accessFlags := 26, nameIndex := 110, descriptorIndex := 85, attributes := #[] }, { accessFlags := 26, nameIndex := 103, descriptorIndex := 12, attributes := #[] }, { accessFlags := 2, nameIndex := 11, descriptorIndex := 12, attributes := #[] }, { accessFlags := 2, nameIndex := 84, descriptorIndex := 85, attributes := #[] }])
  fields := #[{ name := "FIRST_SLOTS", type := .int, accessFlags := 26, slot := 0, constantValue := 0 }, { name := "NO_SLOTS", type := (.array (.object "java/lang/Object")), accessFlags := 26, slot := 1, constantValue := 0 }, { name := "slots", type := (.array (.object "java/lang/Object")), accessFlags := 2, slot := 0, constantValue := 0 }, { name := "size", type := .int, accessFlags := 2, slot := 1, constantValue := 0 }]
  methods := #[k2m0, k2m1, k2m2, k2m3, k2m4, k2m5]
  instanceTypes := #[(.array (.object "java/lang/Object")), .int]
  staticTypes := #[.int, (.array (.object "java/lang/Object"))]
  resolved := Array.replicate 145 none
  statics := some 0 }

def pool3 : Array CpInfo := pool [(1, .class_ 2), (0, u "java/io/Serializable"), (0, .class_ 4), (0, u "java/lang/Object")] 2

/-- java/io/Serializable -/
def k3 : Class := { plain "java/io/Serializable" (some 0) with
  accessFlags := 1537
  interfaces := #[]
  cf := some (fileOf pool3 1 #[] #[] 1537 3 #[] #[])
  fields := #[]
  methods := #[]
  instanceTypes := #[]
  staticTypes := #[]
  resolved := Array.replicate 7 none
  statics := none }

def pool4 : Array CpInfo := pool [(1, .methodref 2 3), (0, .class_ 4), (0, .nameAndType 5 6), (0, u "java/lang/Object"), (0, u "<init>"), (0, u "()V"), (1, .class_ 10), (1, u "java/lang/Number"), (2, .class_ 14), (0, u "java/io/Serializable"), (0, u "serialVersionUID"), (0, u "J")] 20

def k4c0 : Code := { maxStack := 1, maxLocals := 1, code := jdk_18_method_1_code, exceptionTable := #[], attributes := #[] }
def k4m0 : Method := { name := "<init>", desc := "()V", sig := { parameters := [], returnType := none }, accessFlags := 1, code := some k4c0 }
/-- java/lang/Number -/
def k4 : Class := { plain "java/lang/Number" (some 0) with
  accessFlags := 1057
  interfaces := #[3]
  cf := some (fileOf pool4 8 #[] #[{ accessFlags := 1, nameIndex := 5, descriptorIndex := 6, attributes := #[] }] 1057 2 #[13] #[{ accessFlags := 26, nameIndex := 15, descriptorIndex := 16, attributes := #[] }])
  fields := #[{ name := "serialVersionUID", type := .long, accessFlags := 26, slot := 0, constantValue := 0 }]
  methods := #[k4m0]
  instanceTypes := #[]
  staticTypes := #[.long]
  resolved := Array.replicate 37 none
  statics := none }

def pool5 : Array CpInfo := pool [(1, .class_ 2), (0, u "java/lang/Comparable"), (0, .class_ 4), (0, u "java/lang/Object")] 7

/-- java/lang/Comparable -/
def k5 : Class := { plain "java/lang/Comparable" (some 0) with
  accessFlags := 1537
  interfaces := #[]
  cf := some (fileOf pool5 1 #[] #[] 1537 3 #[] #[])
  fields := #[]
  methods := #[]
  instanceTypes := #[]
  staticTypes := #[]
  resolved := Array.replicate 12 none
  statics := none }

def pool6 : Array CpInfo := pool [(1, .class_ 2), (0, u "java/lang/constant/Constable"), (0, .class_ 4), (0, u "java/lang/Object")] 6

/-- java/lang/constant/Constable -/
def k6 : Class := { plain "java/lang/constant/Constable" (some 0) with
  accessFlags := 1537
  interfaces := #[]
  cf := some (fileOf pool6 1 #[] #[] 1537 3 #[] #[])
  fields := #[]
  methods := #[]
  instanceTypes := #[]
  staticTypes := #[]
  resolved := Array.replicate 11 none
  statics := none }

def pool7 : Array CpInfo := pool [(1, .class_ 2), (0, u "java/lang/constant/ConstantDesc"), (0, .class_ 4), (0, u "java/lang/Object")] 32

/-- java/lang/constant/ConstantDesc -/
def k7 : Class := { plain "java/lang/constant/ConstantDesc" (some 0) with
  accessFlags := 1537
  interfaces := #[]
  cf := some (fileOf pool7 1 #[] #[] 1537 3 #[] #[])
  fields := #[]
  methods := #[]
  instanceTypes := #[]
  staticTypes := #[]
  resolved := Array.replicate 37 none
  statics := none }

def pool8 : Array CpInfo := pool [(1, .class_ 2), (0, u "java/lang/Integer"), (16, u "digits"), (0, u "[C"), (46, u "<init>"), (17, u "DigitOnes"), (0, u "[B"), (2, u "DigitTens"), (10, .nameAndType 67 101), (0, u "()V"), (85, u "valueOf"), (0, u "(I)Ljava/lang/Integer;"), (0, .class_ 190), (0, u "java/lang/Integer$IntegerCache"), (0, .fieldref 189 192), (0, .nameAndType 193 194), (0, u "high"), (0, u "I"), (0, .fieldref 189 196), (0, .nameAndType 197 198), (0, u "cache"), (0, u "[Ljava/lang/Integer;"), (0, .methodref 1 200), (0, .nameAndType 67 201), (0, u "(I)V"), (0, .methodref 203 100), (0, .class_ 204), (0, u "java/lang/Number"), (0, .fieldref 1 206), (0, .nameAndType 207 194), (0, u "value"), (94, u "TYPE"), (0, u "Ljava/lang/Class;"), (0, .class_ 305), (0, u "java/lang/Comparable"), (0, .class_ 307), (0, u "java/lang/constant/Constable"), (0, .class_ 309), (0, u "java/lang/constant/ConstantDesc"), (0, u "MIN_VALUE"), (1, u "MAX_VALUE"), (3, u "SIZE"), (1, u "BYTES"), (1, u "serialVersionUID"), (0, u "J")] 131

def k8c0 : Code := { maxStack := 3, maxLocals := 1, code := jdk_33_method_22_code, exceptionTable := #[], attributes := #[] }
def k8m0 : Method := { name := "valueOf", desc := "(I)Ljava/lang/Integer;", sig := { parameters := [.int], returnType := some (.object "java/lang/Integer") }, accessFlags := 9, code := some k8c0 }
def k8c1 : Code := { maxStack := 2, maxLocals := 2, code := jdk_33_method_23_code, exceptionTable := #[], attributes := #[] }
def k8m1 : Method := { name := "<init>", desc := "(I)V", sig := { parameters := [.int], returnType := none }, accessFlags := 1, code := some k8c1 }
/-- java/lang/Integer -/
def k8 : Class := { plain "java/lang/Integer" (some 4) with
  accessFlags := 49
  interfaces := #[5, 6, 7]
  cf := some (fileOf pool8 1 #[.nestMembers #[189]] #[{ accessFlags := 9, nameIndex := 187, descriptorIndex := 188, attributes := #[] }, { accessFlags := 1, nameIndex := 67, descriptorIndex := 201, attributes := #[] }] 49 203 #[304, 306, 308] #[{ accessFlags := 25, nameIndex := 310, descriptorIndex := 194, attributes := #[] }, { accessFlags := 25, nameIndex := 312, descriptorIndex := 194, attributes := #[] }, { accessFlags := 25, nameIndex := 302, descriptorIndex := 303, attributes := #[] }, { accessFlags := 24, nameIndex := 19, descriptorIndex := 20, attributes := #[] }, { accessFlags := 24, nameIndex := 89, descriptorIndex := 86, attributes := #[] }, { accessFlags := 24, nameIndex := 85, descriptorIndex := 86, attributes := #[] }, { accessFlags := 18, nameIndex := 207, descriptorIndex := 194, attributes := #[] }, { accessFlags := 25, nameIndex := 316, descriptorIndex := 194, attributes := #[] }, { accessFlags := 25, nameIndex := 318, descriptorIndex := 194, attributes := #[] }, { accessFlags := 26, nameIndex := 320, descriptorIndex := 321, attributes := #[] }])
  fields := #[{ name := "MIN_VALUE", type := .int, accessFlags := 25, slot := 0, constantValue := 0 }, { name := "MAX_VALUE", type := .int, accessFlags := 25, slot := 1, constantValue := 0 }, { name := "TYPE", type := (.object "java/lang/Class"), accessFlags := 25, slot := 2, constantValue := 0 }, { name := "digits", type := (.array .char), accessFlags := 24, slot := 3, constantValue := 0 }, { name := "DigitTens", type := (.array .byte), accessFlags := 24, slot := 4, constantValue := 0 }, { name := "DigitOnes", type := (.array .byte), accessFlags := 24, slot := 5, constantValue := 0 }, { name := "value", type := .int, accessFlags := 18, slot := 0, constantValue := 0 }, { name := "SIZE", type := .int, accessFlags := 25, slot := 6, constantValue := 0 }, { name := "BYTES", type := .int, accessFlags := 25, slot := 7, constantValue := 0 }, { name := "serialVersionUID", type := .long, accessFlags := 26, slot := 8, constantValue := 0 }]
  methods := #[k8m0, k8m1]
  instanceTypes := #[.int]
  staticTypes := #[.int, .int, (.object "java/lang/Class"), (.array .char), (.array .byte), (.array .byte), .int, .int, .long]
  resolved := Array.replicate 453 none
  statics := none }

def pool9 : Array CpInfo := pool [(2, .class_ 4), (1, u "java/lang/Object"), (0, u "<init>"), (0, u "()V"), (0, .class_ 8), (0, u "java/lang/Integer"), (7, .class_ 18), (1, u "java/lang/Integer$IntegerCache"), (0, u "$assertionsDisabled"), (0, u "Z"), (26, u "high"), (0, u "I"), (8, u "archivedCache"), (0, u "[Ljava/lang/Integer;"), (12, u "cache"), (0, u "low")] 27

def k9m0 : Method := { name := "<init>", desc := "()V", sig := { parameters := [], returnType := none }, accessFlags := 2, code := none }
/-- java/lang/Integer$IntegerCache -/
def k9 : Class := { plain "java/lang/Integer$IntegerCache" (some 0) with
  accessFlags := 48
  interfaces := #[]
  cf := some (fileOf pool9 16 #[.nestHost 7] #[{ accessFlags := 2, nameIndex := 5, descriptorIndex := 6, attributes := #[] }] 48 2 #[] #[{ accessFlags := 24, nameIndex := 72, descriptorIndex := 48, attributes := #[] }, { accessFlags := 24, nameIndex := 47, descriptorIndex := 48, attributes := #[] }, { accessFlags := 24, nameIndex := 71, descriptorIndex := 58, attributes := #[] }, { accessFlags := 8, nameIndex := 57, descriptorIndex := 58, attributes := #[] }, { accessFlags := 4120, nameIndex := 19, descriptorIndex := 20, attributes := #[] }])
  fields := #[{ name := "low", type := .int, accessFlags := 24, slot := 0, constantValue := 0 }, { name := "high", type := .int, accessFlags := 24, slot := 1, constantValue := 0 }, { name := "cache", type := (.array (.object "java/lang/Integer")), accessFlags := 24, slot := 2, constantValue := 0 }, { name := "archivedCache", type := (.array (.object "java/lang/Integer")), accessFlags := 8, slot := 3, constantValue := 0 }, { name := "$assertionsDisabled", type := .boolean, accessFlags := 4120, slot := 4, constantValue := 0 }]
  methods := #[k9m0]
  instanceTypes := #[]
  staticTypes := #[.int, .int, (.array (.object "java/lang/Integer")), (.array (.object "java/lang/Integer")), .boolean]
  resolved := Array.replicate 100 none
  statics := some 1 }

def pool10 : Array CpInfo := pool [(1, .class_ 2), (0, u "java/lang/Math"), (1, .class_ 6), (1, u "java/lang/Object"), (0, u "<init>"), (0, u "()V"), (89, .class_ 100), (1, u "java/lang/Math$RandomNumberGeneratorHolder"), (71, u "negativeZeroFloatBits"), (0, u "J"), (2, u "negativeZeroDoubleBits"), (21, u "max"), (2, u "min"), (43, u "$assertionsDisabled"), (0, u "Z"), (88, u "(II)I"), (2, u "twoToTheDoubleScaleDown"), (0, u "D"), (4, u "twoToTheDoubleScaleUp"), (9, u "E"), (3, u "PI"), (2, u "TAU"), (2, u "DEGREES_TO_RADIANS"), (0, u "RADIANS_TO_DEGREES")] 94

def k10m0 : Method := { name := "<init>", desc := "()V", sig := { parameters := [], returnType := none }, accessFlags := 2, code := none }
def k10c1 : Code := { maxStack := 2, maxLocals := 2, code := jdk_29_method_65_code, exceptionTable := #[], attributes := #[] }
def k10m1 : Method := { name := "max", desc := "(II)I", sig := { parameters := [.int, .int], returnType := some .int }, accessFlags := 9, code := some k10c1 }
def k10c2 : Code := { maxStack := 2, maxLocals := 2, code := jdk_29_method_69_code, exceptionTable := #[], attributes := #[] }
def k10m2 : Method := { name := "min", desc := "(II)I", sig := { parameters := [.int, .int], returnType := some .int }, accessFlags := 9, code := some k10c2 }
/-- java/lang/Math -/
def k10 : Class := { plain "java/lang/Math" (some 0) with
  accessFlags := 49
  interfaces := #[]
  cf := some (fileOf pool10 1 #[.nestMembers #[98]] #[{ accessFlags := 2, nameIndex := 7, descriptorIndex := 8, attributes := #[] }, { accessFlags := 9, nameIndex := 198, descriptorIndex := 335, attributes := #[] }, { accessFlags := 9, nameIndex := 201, descriptorIndex := 335, attributes := #[] }] 49 4 #[] #[{ accessFlags := 25, nameIndex := 354, descriptorIndex := 339, attributes := #[] }, { accessFlags := 25, nameIndex := 358, descriptorIndex := 339, attributes := #[] }, { accessFlags := 25, nameIndex := 361, descriptorIndex := 339, attributes := #[] }, { accessFlags := 26, nameIndex := 364, descriptorIndex := 339, attributes := #[] }, { accessFlags := 26, nameIndex := 365, descriptorIndex := 339, attributes := #[] }, { accessFlags := 26, nameIndex := 172, descriptorIndex := 173, attributes := #[] }, { accessFlags := 26, nameIndex := 176, descriptorIndex := 173, attributes := #[] }, { accessFlags := 8, nameIndex := 344, descriptorIndex := 339, attributes := #[] }, { accessFlags := 8, nameIndex := 338, descriptorIndex := 339, attributes := #[] }, { accessFlags := 4120, nameIndex := 245, descriptorIndex := 246, attributes := #[] }])
  fields := #[{ name := "E", type := .double, accessFlags := 25, slot := 0, constantValue := 0 }, { name := "PI", type := .double, accessFlags := 25, slot := 1, constantValue := 0 }, { name := "TAU", type := .double, accessFlags := 25, slot := 2, constantValue := 0 }, { name := "DEGREES_TO_RADIANS", type := .double, accessFlags := 26, slot := 3, constantValue := 0 }, { name := "RADIANS_TO_DEGREES", type := .double, accessFlags := 26, slot := 4, constantValue := 0 }, { name := "negativeZeroFloatBits", type := .long, accessFlags := 26, slot := 5, constantValue := 0 }, { name := "negativeZeroDoubleBits", type := .long, accessFlags := 26, slot := 6, constantValue := 0 }, { name := "twoToTheDoubleScaleUp", type := .double, accessFlags := 8, slot := 7, constantValue := 0 }, { name := "twoToTheDoubleScaleDown", type := .double, accessFlags := 8, slot := 8, constantValue := 0 }, { name := "$assertionsDisabled", type := .boolean, accessFlags := 4120, slot := 9, constantValue := 0 }]
  methods := #[k10m0, k10m1, k10m2]
  instanceTypes := #[]
  staticTypes := #[.double, .double, .double, .double, .double, .long, .long, .double, .double, .boolean]
  resolved := Array.replicate 460 none
  statics := none }

def pool11 : Array CpInfo := pool [(2, .class_ 4), (1, u "java/lang/Object"), (0, u "<init>"), (0, u "()V"), (7, .class_ 16), (1, u "java/util/Arrays"), (57, .class_ 76), (1, u "java/util/Arrays$NaturalOrder"), (9, .methodref 2 87), (0, .nameAndType 88 89), (0, u "getClass"), (0, u "()Ljava/lang/Class;"), (20, .class_ 111), (0, u "[Ljava/lang/Object;"), (1, .class_ 115), (1, u "java/util/Arrays$LegacyMergeSort"), (1, u "Z"), (32, .methodref 151 152), (0, .class_ 153), (0, .nameAndType 154 155), (0, u "java/lang/System"), (0, u "arraycopy"), (0, u "(Ljava/lang/Object;ILjava/lang/Object;II)V"), (144, .methodref 14 301), (0, .nameAndType 302 303), (0, u "copyOf"), (0, u "([Ljava/lang/Object;ILjava/lang/Class;)[Ljava/lang/Object;"), (0, .methodref 305 306), (0, .class_ 307), (0, .nameAndType 308 309), (0, u "java/lang/Math"), (0, u "min"), (0, u "(II)I"), (65, .class_ 376), (0, u "java/util/Arrays$ArrayList"), (68, u "$assertionsDisabled"), (269, u "MIN_ARRAY_SORT_GRAN"), (0, u "I"), (2, u "INSERTIONSORT_THRESHOLD"), (140, u "([Ljava/lang/Object;I)[Ljava/lang/Object;"), (114, .class_ 976), (0, u "java/util/Arrays$ArrayItr")] 52

def k11m0 : Method := { name := "<init>", desc := "()V", sig := { parameters := [], returnType := none }, accessFlags := 2, code := none }
def k11c1 : Code := { maxStack := 3, maxLocals := 2, code := jdk_65_method_119_code, exceptionTable := #[], attributes := #[] }
def k11m1 : Method := { name := "copyOf", desc := "([Ljava/lang/Object;I)[Ljava/lang/Object;", sig := { parameters := [(.array (.object "java/lang/Object")), .int], returnType := some (.array (.object "java/lang/Object")) }, accessFlags := 9, code := some k11c1 }
def k11c2 : Code := { maxStack := 6, maxLocals := 4, code := jdk_65_method_120_code, exceptionTable := #[], attributes := #[] }
def k11m2 : Method := { name := "copyOf", desc := "([Ljava/lang/Object;ILjava/lang/Class;)[Ljava/lang/Object;", sig := { parameters := [(.array (.object "java/lang/Object")), .int, (.object "java/lang/Class")], returnType := some (.array (.object "java/lang/Object")) }, accessFlags := 9, code := some k11c2 }
/-- java/util/Arrays -/
def k11 : Class := { plain "java/util/Arrays" (some 0) with
  accessFlags := 49
  interfaces := #[]
  cf := some (fileOf pool11 14 #[.nestMembers #[975, 375, 113, 74]] #[{ accessFlags := 2, nameIndex := 5, descriptorIndex := 6, attributes := #[] }, { accessFlags := 9, nameIndex := 302, descriptorIndex := 860, attributes := #[] }, { accessFlags := 9, nameIndex := 302, descriptorIndex := 303, attributes := #[] }] 49 2 #[] #[{ accessFlags := 26, nameIndex := 715, descriptorIndex := 716, attributes := #[] }, { accessFlags := 26, nameIndex := 719, descriptorIndex := 716, attributes := #[] }, { accessFlags := 4120, nameIndex := 445, descriptorIndex := 117, attributes := #[] }])
  fields := #[{ name := "MIN_ARRAY_SORT_GRAN", type := .int, accessFlags := 26, slot := 0, constantValue := 0 }, { name := "INSERTIONSORT_THRESHOLD", type := .int, accessFlags := 26, slot := 1, constantValue := 0 }, { name := "$assertionsDisabled", type := .boolean, accessFlags := 4120, slot := 2, constantValue := 0 }]
  methods := #[k11m0, k11m1, k11m2]
  instanceTypes := #[]
  staticTypes := #[.int, .int, .boolean]
  resolved := Array.replicate 1029 none
  statics := none }

def pool12 : Array CpInfo := pool [(2, .class_ 4), (1, u "java/lang/Object"), (0, u "<init>"), (0, u "()V"), (1, .class_ 10), (1, u "java/lang/System"), (0, u "allowSecurityManager"), (0, u "I"), (16, u "cons"), (0, u "Ljava/io/Console;"), (77, .class_ 110), (1, u "java/lang/System$CallersHolder"), (43, u "initialErrStream"), (0, u "Ljava/io/PrintStream;"), (19, u "security"), (0, u "Ljava/lang/SecurityManager;"), (31, .class_ 209), (0, u "java/lang/System$1"), (7, u "props"), (0, u "Ljava/util/Properties;"), (2, u "lineSeparator"), (0, u "Ljava/lang/String;"), (96, .class_ 321), (1, u "java/lang/System$LoggerFinder"), (5, .class_ 328), (0, u "java/lang/System$Logger"), (67, u "err"), (2, u "out"), (91, u "notSupportedJnuEncoding"), (15, u "in"), (17, u "initialIn"), (0, u "Ljava/io/InputStream;"), (35, u "bootLayer"), (0, u "Ljava/lang/ModuleLayer;"), (99, .class_ 664), (0, u "java/lang/System$2"), (9, u "NEVER"), (2, u "MAYBE"), (49, u "arraycopy"), (0, u "(Ljava/lang/Object;ILjava/lang/Object;II)V"), (72, .class_ 802), (0, u "java/lang/System$Logger$Level")] 31

def k12m0 : Method := { name := "<init>", desc := "()V", sig := { parameters := [], returnType := none }, accessFlags := 2, code := none }
def k12m1 : Method := { name := "arraycopy", desc := "(Ljava/lang/Object;ILjava/lang/Object;II)V", sig := { parameters := [(.object "java/lang/Object"), .int, (.object "java/lang/Object"), .int, .int], returnType := none }, accessFlags := 265, code := none }
/-- java/lang/System -/
def k12 : Class := { plain "java/lang/System" (some 0) with
  accessFlags := 49
  interfaces := #[]
  cf := some (fileOf pool12 8 #[.nestMembers #[319, 327, 801, 108, 663, 208]] #[{ accessFlags := 2, nameIndex := 5, descriptorIndex := 6, attributes := #[] }, { accessFlags := 265, nameIndex := 727, descriptorIndex := 728, attributes := #[] }] 49 2 #[] #[{ accessFlags := 25, nameIndex := 507, descriptorIndex := 526, attributes := #[] }, { accessFlags := 25, nameIndex := 399, descriptorIndex := 155, attributes := #[] }, { accessFlags := 25, nameIndex := 396, descriptorIndex := 155, attributes := #[] }, { accessFlags := 10, nameIndex := 525, descriptorIndex := 526, attributes := #[] }, { accessFlags := 26, nameIndex := 674, descriptorIndex := 12, attributes := #[] }, { accessFlags := 26, nameIndex := 677, descriptorIndex := 12, attributes := #[] }, { accessFlags := 10, nameIndex := 11, descriptorIndex := 12, attributes := #[] }, { accessFlags := 74, nameIndex := 175, descriptorIndex := 176, attributes := #[] }, { accessFlags := 10, nameIndex := 491, descriptorIndex := 222, attributes := #[] }, { accessFlags := 74, nameIndex := 29, descriptorIndex := 30, attributes := #[] }, { accessFlags := 74, nameIndex := 154, descriptorIndex := 155, attributes := #[] }, { accessFlags := 10, nameIndex := 217, descriptorIndex := 218, attributes := #[] }, { accessFlags := 10, nameIndex := 221, descriptorIndex := 222, attributes := #[] }, { accessFlags := 8, nameIndex := 562, descriptorIndex := 563, attributes := #[] }])
  fields := #[{ name := "in", type := (.object "java/io/InputStream"), accessFlags := 25, slot := 0, constantValue := 0 }, { name := "out", type := (.object "java/io/PrintStream"), accessFlags := 25, slot := 1, constantValue := 0 }, { name := "err", type := (.object "java/io/PrintStream"), accessFlags := 25, slot := 2, constantValue := 0 }, { name := "initialIn", type := (.object "java/io/InputStream"), accessFlags := 10, slot := 3, constantValue := 0 }, { name := "NEVER", type := .int, accessFlags := 26, slot := 4, constantValue := 0 }, { name := "MAYBE", type := .int, accessFlags := 26, slot := 5, constantValue := 0 }, { name := "allowSecurityManager", type := .int, accessFlags := 10, slot := 6, constantValue := 0 }, { name := "security", type := (.object "java/lang/SecurityManager"), accessFlags := 74, slot := 7, constantValue := 0 }, { name := "notSupportedJnuEncoding", type := (.object "java/lang/String"), accessFlags := 10, slot := 8, constantValue := 0 }, { name := "cons", type := (.object "java/io/Console"), accessFlags := 74, slot := 9, constantValue := 0 }, { name := "initialErrStream", type := (.object "java/io/PrintStream"), accessFlags := 74, slot := 10, constantValue := 0 }, { name := "props", type := (.object "java/util/Properties"), accessFlags := 10, slot := 11, constantValue := 0 }, { name := "lineSeparator", type := (.object "java/lang/String"), accessFlags := 10, slot := 12, constantValue := 0 }, { name := "bootLayer", type := (.object "java/lang/ModuleLayer"), accessFlags := 8, slot := 13, constantValue := 0 }]
  methods := #[k12m0, k12m1]
  instanceTypes := #[]
  staticTypes := #[(.object "java/io/InputStream"), (.object "java/io/PrintStream"), (.object "java/io/PrintStream"), (.object "java/io/InputStream"), .int, .int, .int, (.object "java/lang/SecurityManager"), (.object "java/lang/String"), (.object "java/io/Console"), (.object "java/io/PrintStream"), (.object "java/util/Properties"), (.object "java/lang/String"), (.object "java/lang/ModuleLayer")]
  resolved := Array.replicate 834 none
  statics := none }

def pool13 : Array CpInfo := pool [(1, u "java/lang/Class"), (0, .class_ 1), (0, u "java/lang/Object"), (0, .class_ 3)] 0

/-- java/lang/Class -/
def k13 : Class := { plain "java/lang/Class" (some 0) with
  accessFlags := 49
  interfaces := #[]
  cf := some (fileOf pool13 2 #[] #[] 49 4 #[] #[])
  fields := #[]
  methods := #[]
  instanceTypes := #[]
  staticTypes := #[]
  resolved := Array.replicate 5 none
  statics := none }

def pool14 : Array CpInfo := pool [(1, u "java/lang/Cloneable"), (0, .class_ 1), (0, u "java/lang/Object"), (0, .class_ 3)] 3

/-- java/lang/Cloneable -/
def k14 : Class := { plain "java/lang/Cloneable" (some 0) with
  accessFlags := 1537
  interfaces := #[]
  cf := some (fileOf pool14 2 #[] #[] 1537 4 #[] #[])
  fields := #[]
  methods := #[]
  instanceTypes := #[]
  staticTypes := #[]
  resolved := Array.replicate 8 none
  statics := none }

/-- the primitive byte -/
def k15 : Class := { plain "byte" none with kind := .primitive 'B', accessFlags := 0x411 }
/-- [B -/
def k16 : Class := { plain "[B" (some 0) with kind := .array 15 .byte, interfaces := #[14, 3], accessFlags := 1041 }

/-- [Ljava/lang/Integer; -/
def k17 : Class := { plain "[Ljava/lang/Integer;" (some 0) with kind := .array 8 (.object "java/lang/Integer"), interfaces := #[14, 3], accessFlags := 1041 }

/-- [Ljava/lang/Object; -/
def k18 : Class := { plain "[Ljava/lang/Object;" (some 0) with kind := .array 0 (.object "java/lang/Object"), interfaces := #[14, 3], accessFlags := 1041, mirror := some 2 }

def heap : Heap := #[{ cls := 2, slots := #[.int 0, .ref 4], vm := .statics 2 },
  { cls := 9, slots := #[.int 0, .int 127, .ref 3, .null, .int 0], vm := .statics 9 },
  { cls := 13, slots := #[], vm := .mirror 18 },
  { cls := 17, slots := #[.ref 5, .ref 6, .ref 7, .ref 8, .ref 9, .ref 10, .ref 11, .ref 12, .ref 13, .ref 14, .ref 15, .ref 16, .ref 17, .ref 18, .ref 19, .ref 20, .ref 21, .ref 22, .ref 23, .ref 24, .ref 25, .ref 26, .ref 27, .ref 28, .ref 29, .ref 30, .ref 31, .ref 32, .ref 33, .ref 34, .ref 35, .ref 36, .ref 37, .ref 38, .ref 39, .ref 40, .ref 41, .ref 42, .ref 43, .ref 44, .ref 45, .ref 46, .ref 47, .ref 48, .ref 49, .ref 50, .ref 51, .ref 52, .ref 53, .ref 54, .ref 55, .ref 56, .ref 57, .ref 58, .ref 59, .ref 60, .ref 61, .ref 62, .ref 63, .ref 64, .ref 65, .ref 66, .ref 67, .ref 68, .ref 69, .ref 70, .ref 71, .ref 72, .ref 73, .ref 74, .ref 75, .ref 76, .ref 77, .ref 78, .ref 79, .ref 80, .ref 81, .ref 82, .ref 83, .ref 84, .ref 85, .ref 86, .ref 87, .ref 88, .ref 89, .ref 90, .ref 91, .ref 92, .ref 93, .ref 94, .ref 95, .ref 96, .ref 97, .ref 98, .ref 99, .ref 100, .ref 101, .ref 102, .ref 103, .ref 104, .ref 105, .ref 106, .ref 107, .ref 108, .ref 109, .ref 110, .ref 111, .ref 112, .ref 113, .ref 114, .ref 115, .ref 116, .ref 117, .ref 118, .ref 119, .ref 120, .ref 121, .ref 122, .ref 123, .ref 124, .ref 125, .ref 126, .ref 127, .ref 128, .ref 129, .ref 130, .ref 131, .ref 132, .ref 133, .ref 134, .ref 135, .ref 136, .ref 137, .ref 138, .ref 139, .ref 140, .ref 141, .ref 142, .ref 143, .ref 144, .ref 145, .ref 146, .ref 147, .ref 148, .ref 149, .ref 150, .ref 151, .ref 152, .ref 153, .ref 154, .ref 155, .ref 156, .ref 157, .ref 158, .ref 159, .ref 160, .ref 161, .ref 162, .ref 163, .ref 164, .ref 165, .ref 166, .ref 167, .ref 168, .ref 169, .ref 170, .ref 171, .ref 172, .ref 173, .ref 174, .ref 175, .ref 176, .ref 177, .ref 178, .ref 179, .ref 180, .ref 181, .ref 182, .ref 183, .ref 184, .ref 185, .ref 186, .ref 187, .ref 188, .ref 189, .ref 190, .ref 191, .ref 192, .ref 193, .ref 194, .ref 195, .ref 196, .ref 197, .ref 198, .ref 199, .ref 200, .ref 201, .ref 202, .ref 203, .ref 204, .ref 205, .ref 206, .ref 207, .ref 208, .ref 209, .ref 210, .ref 211, .ref 212, .ref 213, .ref 214, .ref 215, .ref 216, .ref 217, .ref 218, .ref 219, .ref 220, .ref 221, .ref 222, .ref 223, .ref 224, .ref 225, .ref 226, .ref 227, .ref 228, .ref 229, .ref 230, .ref 231, .ref 232, .ref 233, .ref 234, .ref 235, .ref 236, .ref 237, .ref 238, .ref 239, .ref 240, .ref 241, .ref 242, .ref 243, .ref 244, .ref 245, .ref 246, .ref 247, .ref 248, .ref 249, .ref 250, .ref 251, .ref 252, .ref 253, .ref 254, .ref 255, .ref 256, .ref 257, .ref 258, .ref 259, .ref 260], vm := .none },
  { cls := 18, slots := #[], vm := .none },
  { cls := 8, slots := #[.int (-128)], vm := .none },
  { cls := 8, slots := #[.int (-127)], vm := .none },
  { cls := 8, slots := #[.int (-126)], vm := .none },
  { cls := 8, slots := #[.int (-125)], vm := .none },
  { cls := 8, slots := #[.int (-124)], vm := .none },
  { cls := 8, slots := #[.int (-123)], vm := .none },
  { cls := 8, slots := #[.int (-122)], vm := .none },
  { cls := 8, slots := #[.int (-121)], vm := .none },
  { cls := 8, slots := #[.int (-120)], vm := .none },
  { cls := 8, slots := #[.int (-119)], vm := .none },
  { cls := 8, slots := #[.int (-118)], vm := .none },
  { cls := 8, slots := #[.int (-117)], vm := .none },
  { cls := 8, slots := #[.int (-116)], vm := .none },
  { cls := 8, slots := #[.int (-115)], vm := .none },
  { cls := 8, slots := #[.int (-114)], vm := .none },
  { cls := 8, slots := #[.int (-113)], vm := .none },
  { cls := 8, slots := #[.int (-112)], vm := .none },
  { cls := 8, slots := #[.int (-111)], vm := .none },
  { cls := 8, slots := #[.int (-110)], vm := .none },
  { cls := 8, slots := #[.int (-109)], vm := .none },
  { cls := 8, slots := #[.int (-108)], vm := .none },
  { cls := 8, slots := #[.int (-107)], vm := .none },
  { cls := 8, slots := #[.int (-106)], vm := .none },
  { cls := 8, slots := #[.int (-105)], vm := .none },
  { cls := 8, slots := #[.int (-104)], vm := .none },
  { cls := 8, slots := #[.int (-103)], vm := .none },
  { cls := 8, slots := #[.int (-102)], vm := .none },
  { cls := 8, slots := #[.int (-101)], vm := .none },
  { cls := 8, slots := #[.int (-100)], vm := .none },
  { cls := 8, slots := #[.int (-99)], vm := .none },
  { cls := 8, slots := #[.int (-98)], vm := .none },
  { cls := 8, slots := #[.int (-97)], vm := .none },
  { cls := 8, slots := #[.int (-96)], vm := .none },
  { cls := 8, slots := #[.int (-95)], vm := .none },
  { cls := 8, slots := #[.int (-94)], vm := .none },
  { cls := 8, slots := #[.int (-93)], vm := .none },
  { cls := 8, slots := #[.int (-92)], vm := .none },
  { cls := 8, slots := #[.int (-91)], vm := .none },
  { cls := 8, slots := #[.int (-90)], vm := .none },
  { cls := 8, slots := #[.int (-89)], vm := .none },
  { cls := 8, slots := #[.int (-88)], vm := .none },
  { cls := 8, slots := #[.int (-87)], vm := .none },
  { cls := 8, slots := #[.int (-86)], vm := .none },
  { cls := 8, slots := #[.int (-85)], vm := .none },
  { cls := 8, slots := #[.int (-84)], vm := .none },
  { cls := 8, slots := #[.int (-83)], vm := .none },
  { cls := 8, slots := #[.int (-82)], vm := .none },
  { cls := 8, slots := #[.int (-81)], vm := .none },
  { cls := 8, slots := #[.int (-80)], vm := .none },
  { cls := 8, slots := #[.int (-79)], vm := .none },
  { cls := 8, slots := #[.int (-78)], vm := .none },
  { cls := 8, slots := #[.int (-77)], vm := .none },
  { cls := 8, slots := #[.int (-76)], vm := .none },
  { cls := 8, slots := #[.int (-75)], vm := .none },
  { cls := 8, slots := #[.int (-74)], vm := .none },
  { cls := 8, slots := #[.int (-73)], vm := .none },
  { cls := 8, slots := #[.int (-72)], vm := .none },
  { cls := 8, slots := #[.int (-71)], vm := .none },
  { cls := 8, slots := #[.int (-70)], vm := .none },
  { cls := 8, slots := #[.int (-69)], vm := .none },
  { cls := 8, slots := #[.int (-68)], vm := .none },
  { cls := 8, slots := #[.int (-67)], vm := .none },
  { cls := 8, slots := #[.int (-66)], vm := .none },
  { cls := 8, slots := #[.int (-65)], vm := .none },
  { cls := 8, slots := #[.int (-64)], vm := .none },
  { cls := 8, slots := #[.int (-63)], vm := .none },
  { cls := 8, slots := #[.int (-62)], vm := .none },
  { cls := 8, slots := #[.int (-61)], vm := .none },
  { cls := 8, slots := #[.int (-60)], vm := .none },
  { cls := 8, slots := #[.int (-59)], vm := .none },
  { cls := 8, slots := #[.int (-58)], vm := .none },
  { cls := 8, slots := #[.int (-57)], vm := .none },
  { cls := 8, slots := #[.int (-56)], vm := .none },
  { cls := 8, slots := #[.int (-55)], vm := .none },
  { cls := 8, slots := #[.int (-54)], vm := .none },
  { cls := 8, slots := #[.int (-53)], vm := .none },
  { cls := 8, slots := #[.int (-52)], vm := .none },
  { cls := 8, slots := #[.int (-51)], vm := .none },
  { cls := 8, slots := #[.int (-50)], vm := .none },
  { cls := 8, slots := #[.int (-49)], vm := .none },
  { cls := 8, slots := #[.int (-48)], vm := .none },
  { cls := 8, slots := #[.int (-47)], vm := .none },
  { cls := 8, slots := #[.int (-46)], vm := .none },
  { cls := 8, slots := #[.int (-45)], vm := .none },
  { cls := 8, slots := #[.int (-44)], vm := .none },
  { cls := 8, slots := #[.int (-43)], vm := .none },
  { cls := 8, slots := #[.int (-42)], vm := .none },
  { cls := 8, slots := #[.int (-41)], vm := .none },
  { cls := 8, slots := #[.int (-40)], vm := .none },
  { cls := 8, slots := #[.int (-39)], vm := .none },
  { cls := 8, slots := #[.int (-38)], vm := .none },
  { cls := 8, slots := #[.int (-37)], vm := .none },
  { cls := 8, slots := #[.int (-36)], vm := .none },
  { cls := 8, slots := #[.int (-35)], vm := .none },
  { cls := 8, slots := #[.int (-34)], vm := .none },
  { cls := 8, slots := #[.int (-33)], vm := .none },
  { cls := 8, slots := #[.int (-32)], vm := .none },
  { cls := 8, slots := #[.int (-31)], vm := .none },
  { cls := 8, slots := #[.int (-30)], vm := .none },
  { cls := 8, slots := #[.int (-29)], vm := .none },
  { cls := 8, slots := #[.int (-28)], vm := .none },
  { cls := 8, slots := #[.int (-27)], vm := .none },
  { cls := 8, slots := #[.int (-26)], vm := .none },
  { cls := 8, slots := #[.int (-25)], vm := .none },
  { cls := 8, slots := #[.int (-24)], vm := .none },
  { cls := 8, slots := #[.int (-23)], vm := .none },
  { cls := 8, slots := #[.int (-22)], vm := .none },
  { cls := 8, slots := #[.int (-21)], vm := .none },
  { cls := 8, slots := #[.int (-20)], vm := .none },
  { cls := 8, slots := #[.int (-19)], vm := .none },
  { cls := 8, slots := #[.int (-18)], vm := .none },
  { cls := 8, slots := #[.int (-17)], vm := .none },
  { cls := 8, slots := #[.int (-16)], vm := .none },
  { cls := 8, slots := #[.int (-15)], vm := .none },
  { cls := 8, slots := #[.int (-14)], vm := .none },
  { cls := 8, slots := #[.int (-13)], vm := .none },
  { cls := 8, slots := #[.int (-12)], vm := .none },
  { cls := 8, slots := #[.int (-11)], vm := .none },
  { cls := 8, slots := #[.int (-10)], vm := .none },
  { cls := 8, slots := #[.int (-9)], vm := .none },
  { cls := 8, slots := #[.int (-8)], vm := .none },
  { cls := 8, slots := #[.int (-7)], vm := .none },
  { cls := 8, slots := #[.int (-6)], vm := .none },
  { cls := 8, slots := #[.int (-5)], vm := .none },
  { cls := 8, slots := #[.int (-4)], vm := .none },
  { cls := 8, slots := #[.int (-3)], vm := .none },
  { cls := 8, slots := #[.int (-2)], vm := .none },
  { cls := 8, slots := #[.int (-1)], vm := .none },
  { cls := 8, slots := #[.int 0], vm := .none },
  { cls := 8, slots := #[.int 1], vm := .none },
  { cls := 8, slots := #[.int 2], vm := .none },
  { cls := 8, slots := #[.int 3], vm := .none },
  { cls := 8, slots := #[.int 4], vm := .none },
  { cls := 8, slots := #[.int 5], vm := .none },
  { cls := 8, slots := #[.int 6], vm := .none },
  { cls := 8, slots := #[.int 7], vm := .none },
  { cls := 8, slots := #[.int 8], vm := .none },
  { cls := 8, slots := #[.int 9], vm := .none },
  { cls := 8, slots := #[.int 10], vm := .none },
  { cls := 8, slots := #[.int 11], vm := .none },
  { cls := 8, slots := #[.int 12], vm := .none },
  { cls := 8, slots := #[.int 13], vm := .none },
  { cls := 8, slots := #[.int 14], vm := .none },
  { cls := 8, slots := #[.int 15], vm := .none },
  { cls := 8, slots := #[.int 16], vm := .none },
  { cls := 8, slots := #[.int 17], vm := .none },
  { cls := 8, slots := #[.int 18], vm := .none },
  { cls := 8, slots := #[.int 19], vm := .none },
  { cls := 8, slots := #[.int 20], vm := .none },
  { cls := 8, slots := #[.int 21], vm := .none },
  { cls := 8, slots := #[.int 22], vm := .none },
  { cls := 8, slots := #[.int 23], vm := .none },
  { cls := 8, slots := #[.int 24], vm := .none },
  { cls := 8, slots := #[.int 25], vm := .none },
  { cls := 8, slots := #[.int 26], vm := .none },
  { cls := 8, slots := #[.int 27], vm := .none },
  { cls := 8, slots := #[.int 28], vm := .none },
  { cls := 8, slots := #[.int 29], vm := .none },
  { cls := 8, slots := #[.int 30], vm := .none },
  { cls := 8, slots := #[.int 31], vm := .none },
  { cls := 8, slots := #[.int 32], vm := .none },
  { cls := 8, slots := #[.int 33], vm := .none },
  { cls := 8, slots := #[.int 34], vm := .none },
  { cls := 8, slots := #[.int 35], vm := .none },
  { cls := 8, slots := #[.int 36], vm := .none },
  { cls := 8, slots := #[.int 37], vm := .none },
  { cls := 8, slots := #[.int 38], vm := .none },
  { cls := 8, slots := #[.int 39], vm := .none },
  { cls := 8, slots := #[.int 40], vm := .none },
  { cls := 8, slots := #[.int 41], vm := .none },
  { cls := 8, slots := #[.int 42], vm := .none },
  { cls := 8, slots := #[.int 43], vm := .none },
  { cls := 8, slots := #[.int 44], vm := .none },
  { cls := 8, slots := #[.int 45], vm := .none },
  { cls := 8, slots := #[.int 46], vm := .none },
  { cls := 8, slots := #[.int 47], vm := .none },
  { cls := 8, slots := #[.int 48], vm := .none },
  { cls := 8, slots := #[.int 49], vm := .none },
  { cls := 8, slots := #[.int 50], vm := .none },
  { cls := 8, slots := #[.int 51], vm := .none },
  { cls := 8, slots := #[.int 52], vm := .none },
  { cls := 8, slots := #[.int 53], vm := .none },
  { cls := 8, slots := #[.int 54], vm := .none },
  { cls := 8, slots := #[.int 55], vm := .none },
  { cls := 8, slots := #[.int 56], vm := .none },
  { cls := 8, slots := #[.int 57], vm := .none },
  { cls := 8, slots := #[.int 58], vm := .none },
  { cls := 8, slots := #[.int 59], vm := .none },
  { cls := 8, slots := #[.int 60], vm := .none },
  { cls := 8, slots := #[.int 61], vm := .none },
  { cls := 8, slots := #[.int 62], vm := .none },
  { cls := 8, slots := #[.int 63], vm := .none },
  { cls := 8, slots := #[.int 64], vm := .none },
  { cls := 8, slots := #[.int 65], vm := .none },
  { cls := 8, slots := #[.int 66], vm := .none },
  { cls := 8, slots := #[.int 67], vm := .none },
  { cls := 8, slots := #[.int 68], vm := .none },
  { cls := 8, slots := #[.int 69], vm := .none },
  { cls := 8, slots := #[.int 70], vm := .none },
  { cls := 8, slots := #[.int 71], vm := .none },
  { cls := 8, slots := #[.int 72], vm := .none },
  { cls := 8, slots := #[.int 73], vm := .none },
  { cls := 8, slots := #[.int 74], vm := .none },
  { cls := 8, slots := #[.int 75], vm := .none },
  { cls := 8, slots := #[.int 76], vm := .none },
  { cls := 8, slots := #[.int 77], vm := .none },
  { cls := 8, slots := #[.int 78], vm := .none },
  { cls := 8, slots := #[.int 79], vm := .none },
  { cls := 8, slots := #[.int 80], vm := .none },
  { cls := 8, slots := #[.int 81], vm := .none },
  { cls := 8, slots := #[.int 82], vm := .none },
  { cls := 8, slots := #[.int 83], vm := .none },
  { cls := 8, slots := #[.int 84], vm := .none },
  { cls := 8, slots := #[.int 85], vm := .none },
  { cls := 8, slots := #[.int 86], vm := .none },
  { cls := 8, slots := #[.int 87], vm := .none },
  { cls := 8, slots := #[.int 88], vm := .none },
  { cls := 8, slots := #[.int 89], vm := .none },
  { cls := 8, slots := #[.int 90], vm := .none },
  { cls := 8, slots := #[.int 91], vm := .none },
  { cls := 8, slots := #[.int 92], vm := .none },
  { cls := 8, slots := #[.int 93], vm := .none },
  { cls := 8, slots := #[.int 94], vm := .none },
  { cls := 8, slots := #[.int 95], vm := .none },
  { cls := 8, slots := #[.int 96], vm := .none },
  { cls := 8, slots := #[.int 97], vm := .none },
  { cls := 8, slots := #[.int 98], vm := .none },
  { cls := 8, slots := #[.int 99], vm := .none },
  { cls := 8, slots := #[.int 100], vm := .none },
  { cls := 8, slots := #[.int 101], vm := .none },
  { cls := 8, slots := #[.int 102], vm := .none },
  { cls := 8, slots := #[.int 103], vm := .none },
  { cls := 8, slots := #[.int 104], vm := .none },
  { cls := 8, slots := #[.int 105], vm := .none },
  { cls := 8, slots := #[.int 106], vm := .none },
  { cls := 8, slots := #[.int 107], vm := .none },
  { cls := 8, slots := #[.int 108], vm := .none },
  { cls := 8, slots := #[.int 109], vm := .none },
  { cls := 8, slots := #[.int 110], vm := .none },
  { cls := 8, slots := #[.int 111], vm := .none },
  { cls := 8, slots := #[.int 112], vm := .none },
  { cls := 8, slots := #[.int 113], vm := .none },
  { cls := 8, slots := #[.int 114], vm := .none },
  { cls := 8, slots := #[.int 115], vm := .none },
  { cls := 8, slots := #[.int 116], vm := .none },
  { cls := 8, slots := #[.int 117], vm := .none },
  { cls := 8, slots := #[.int 118], vm := .none },
  { cls := 8, slots := #[.int 119], vm := .none },
  { cls := 8, slots := #[.int 120], vm := .none },
  { cls := 8, slots := #[.int 121], vm := .none },
  { cls := 8, slots := #[.int 122], vm := .none },
  { cls := 8, slots := #[.int 123], vm := .none },
  { cls := 8, slots := #[.int 124], vm := .none },
  { cls := 8, slots := #[.int 125], vm := .none },
  { cls := 8, slots := #[.int 126], vm := .none },
  { cls := 8, slots := #[.int 127], vm := .none }]
def classes : Array Class := #[k0, k1, k2, k3, k4, k5, k6, k7, k8, k9, k10, k11, k12, k13, k14, k15, k16, k17, k18]
def interned : List (Array UInt16 × Addr) := []
def slotsUsed : Nat := 519
def theMethod : MethodId := ⟨1, 1⟩
def args0 : Array Value := #[.int 5, .int 4, .int 5, .int 4]
def aboutOver (below : List Frame) : State where
  vm := { classes := classes, interned := interned.toArray }
  heap := heap
  slotsUsed := slotsUsed
  threads := #[{ frames := .invoking theMethod args0 :: below }]
def below0 : List Frame := [.native { method := ⟨0, 0⟩, args := #[] }]
def about1 : State := aboutOver below0
def p0 : Program := .bare "" "" ""
def e0 : Env := launch0.env 0 0 0
theorem w_frames : about1.frames = Frame.invoking theMethod args0 :: below0 := rfl
set_option maxRecDepth 65536 in
theorem w_args : argsFit about1.vm theMethod args0 = true := by decide +kernel
set_option maxRecDepth 65536 in
theorem w_heap : heapFits about1 = true := by decide +kernel
set_option maxRecDepth 65536 in
theorem w_runnable : about1.curStatus? = some .runnable := by decide +kernel
set_option maxRecDepth 65536 in
theorem w_alone : about1.alone = true := by decide +kernel
set_option maxRecDepth 65536 in
theorem w_named : about1.methodNamed? x = some theMethod := by decide +kernel
set_option maxRecDepth 65536 in
theorem w_hears : about1.hears theMethod below0 = true := by decide +kernel
set_option maxRecDepth 65536 in
theorem w_ripe : about1.ripe theMethod args0 below0 = true := by decide +kernel
theorem w_running : about1.status = .running := rfl
set_option maxRecDepth 65536 in
theorem w_room : about1.hasRoom e0.platform room_1 = true :=
  launch0.hasRoom_least _ room_1 (by decide +kernel) (by decide +kernel) (by decide +kernel) (by decide +kernel) (by decide +kernel) (by decide +kernel)
theorem allAtoms_all (ts : List Jvm.Cond) (a : Array Jvm.Value) (st : Jvm.State) : (allAtoms ts).before a st = ts.all (fun c => c.before a st) := by
  induction ts with
  | nil => rfl
  | cons c t ih =>
    show (Jvm.Cond.and c (allAtoms t)).before a st = _
    rw [Jvm.Cond.before_and, ih, List.all_cons]
def words1 : List Jvm.Cond := Jvm.Cond.code x code maxLocals ret :: tables_1
/-- a 'code' word, met by the world's own term for the bytes: nothing is compared byte by byte -/
theorem code_word {y : MethodName} {bytes : ByteArray} {mx : Nat} {rt : Option FieldType} {a : Array Value} {s : State} {m : MethodId} {meth : Method} {c : Code} (h1 : s.methodNamed? y = some m) (h2 : s.vm.method? m = some meth) (h3 : meth.code = some c) (h4 : c.code = bytes)
    (h5 : (c.maxLocals == mx && c.exceptionTable.isEmpty && decide (c.maxStack ≤ mostOperands) && decide (meth.sig.returnType = rt) && !meth.locks && decide (parseMethodDescriptor y.desc = some meth.sig)) = true) : (Jvm.Cond.code y bytes mx rt).before a s = true := by
  simp only [Bool.and_eq_true, beq_iff_eq, Bool.not_eq_true', decide_eq_true_eq] at h5
  obtain ⟨⟨⟨⟨⟨g1, g2⟩, g3⟩, g4⟩, g5⟩, g6⟩ := h5
  simp [Cond.before, Cond.holds, Cond.value, h1, h2, h3, h4, g1, g2, g3, g4, g5, g6]
def isCode : Jvm.Cond → Bool
  | .code _ _ _ _ => true
  | _ => false
theorem all_split {L : List Jvm.Cond} {P : Jvm.Cond → Bool} (h1 : L.all (fun c => isCode c || P c) = true) (h2 : ∀ c ∈ L.filter isCode, P c = true) : L.all P = true := by
  refine List.all_eq_true.mpr fun c hc => ?_
  have h := List.all_eq_true.mp h1 c hc
  rcases Bool.eq_false_or_eq_true (isCode c) with hi | hi
  · exact h2 c (List.mem_filter.mpr ⟨hc, hi⟩)
  · simpa [hi] using h
set_option maxRecDepth 65536 in
theorem w_c0 : (Jvm.Cond.code x code maxLocals ret).before args0 about1 = true := code_word (m := ⟨1, 1⟩) (meth := k1m1) (c := k1c1) (by decide +kernel) rfl rfl rfl (by decide +kernel)
set_option maxRecDepth 65536 in
theorem w_c1 : (Jvm.Cond.code ({ cls := "com/example/homethread/homethread/Items", name := "<init>", desc := "()V" } : Jvm.MethodName) prog_9_method_1_code (1 : Nat) (Option.none : Option Jvm.ClassFile.FieldType)).before args0 about1 = true := code_word (m := ⟨2, 0⟩) (meth := k2m0) (c := k2c0) (by decide +kernel) rfl rfl rfl (by decide +kernel)
set_option maxRecDepth 65536 in
theorem w_c2 : (Jvm.Cond.code ({ cls := "java/lang/Object", name := "<init>", desc := "()V" } : Jvm.MethodName) object_method_1_code (1 : Nat) (Option.none : Option Jvm.ClassFile.FieldType)).before args0 about1 = true := code_word (m := ⟨0, 0⟩) (meth := k0m0) (c := k0c0) (by decide +kernel) rfl rfl rfl (by decide +kernel)
set_option maxRecDepth 65536 in
theorem w_c3 : (Jvm.Cond.code ({ cls := "com/example/homethread/homethread/Items", name := "isEmpty", desc := "()Z" } : Jvm.MethodName) prog_9_method_6_code (1 : Nat) (Option.some Jvm.ClassFile.FieldType.boolean)).before args0 about1 = true := code_word (m := ⟨2, 1⟩) (meth := k2m1) (c := k2c1) (by decide +kernel) rfl rfl rfl (by decide +kernel)
set_option maxRecDepth 65536 in
theorem w_c4 : (Jvm.Cond.code ({ cls := "java/lang/Integer", name := "valueOf", desc := "(I)Ljava/lang/Integer;" } : Jvm.MethodName) jdk_33_method_22_code (1 : Nat) (Option.some (Jvm.ClassFile.FieldType.object "java/lang/Integer"))).before args0 about1 = true := code_word (m := ⟨8, 0⟩) (meth := k8m0) (c := k8c0) (by decide +kernel) rfl rfl rfl (by decide +kernel)
set_option maxRecDepth 65536 in
theorem w_c5 : (Jvm.Cond.code ({ cls := "com/example/homethread/homethread/Items", name := "clearAndTrim", desc := "(I)V" } : Jvm.MethodName) prog_9_method_11_code (2 : Nat) (Option.none : Option Jvm.ClassFile.FieldType)).before args0 about1 = true := code_word (m := ⟨2, 4⟩) (meth := k2m4) (c := k2c4) (by decide +kernel) rfl rfl rfl (by decide +kernel)
set_option maxRecDepth 65536 in
theorem w_c6 : (Jvm.Cond.code ({ cls := "com/example/homethread/homethread/Items", name := "add", desc := "(Ljava/lang/Object;)V" } : Jvm.MethodName) prog_9_method_8_code (3 : Nat) (Option.none : Option Jvm.ClassFile.FieldType)).before args0 about1 = true := code_word (m := ⟨2, 2⟩) (meth := k2m2) (c := k2c2) (by decide +kernel) rfl rfl rfl (by decide +kernel)
set_option maxRecDepth 65536 in
theorem w_c7 : (Jvm.Cond.code ({ cls := "java/lang/Math", name := "max", desc := "(II)I" } : Jvm.MethodName) jdk_29_method_65_code (2 : Nat) (Option.some Jvm.ClassFile.FieldType.int)).before args0 about1 = true := code_word (m := ⟨10, 1⟩) (meth := k10m1) (c := k10c1) (by decide +kernel) rfl rfl rfl (by decide +kernel)
set_option maxRecDepth 65536 in
theorem w_c8 : (Jvm.Cond.code ({ cls := "java/util/Arrays", name := "copyOf", desc := "([Ljava/lang/Object;I)[Ljava/lang/Object;" } : Jvm.MethodName) jdk_65_method_119_code (2 : Nat) (Option.some (Jvm.ClassFile.FieldType.array (Jvm.ClassFile.FieldType.object "java/lang/Object")))).before args0 about1 = true := code_word (m := ⟨11, 1⟩) (meth := k11m1) (c := k11c1) (by decide +kernel) rfl rfl rfl (by decide +kernel)
set_option maxRecDepth 65536 in
theorem w_c9 : (Jvm.Cond.code ({ cls := "java/util/Arrays", name := "copyOf", desc := "([Ljava/lang/Object;ILjava/lang/Class;)[Ljava/lang/Object;" } : Jvm.MethodName) jdk_65_method_120_code (4 : Nat) (Option.some (Jvm.ClassFile.FieldType.array (Jvm.ClassFile.FieldType.object "java/lang/Object")))).before args0 about1 = true := code_word (m := ⟨11, 2⟩) (meth := k11m2) (c := k11c2) (by decide +kernel) rfl rfl rfl (by decide +kernel)
set_option maxRecDepth 65536 in
theorem w_c10 : (Jvm.Cond.code ({ cls := "java/lang/Math", name := "min", desc := "(II)I" } : Jvm.MethodName) jdk_29_method_69_code (2 : Nat) (Option.some Jvm.ClassFile.FieldType.int)).before args0 about1 = true := code_word (m := ⟨10, 2⟩) (meth := k10m2) (c := k10c2) (by decide +kernel) rfl rfl rfl (by decide +kernel)
set_option maxRecDepth 65536 in
theorem w_c11 : (Jvm.Cond.code ({ cls := "java/lang/Integer", name := "<init>", desc := "(I)V" } : Jvm.MethodName) jdk_33_method_23_code (2 : Nat) (Option.none : Option Jvm.ClassFile.FieldType)).before args0 about1 = true := code_word (m := ⟨8, 1⟩) (meth := k8m1) (c := k8c1) (by decide +kernel) rfl rfl rfl (by decide +kernel)
set_option maxRecDepth 65536 in
theorem w_c12 : (Jvm.Cond.code ({ cls := "java/lang/Number", name := "<init>", desc := "()V" } : Jvm.MethodName) jdk_18_method_1_code (1 : Nat) (Option.none : Option Jvm.ClassFile.FieldType)).before args0 about1 = true := code_word (m := ⟨4, 0⟩) (meth := k4m0) (c := k4c0) (by decide +kernel) rfl rfl rfl (by decide +kernel)
set_option maxRecDepth 65536 in
theorem w_c13 : (Jvm.Cond.code ({ cls := "com/example/homethread/homethread/Items", name := "removeLast", desc := "(Ljava/lang/Object;I)Z" } : Jvm.MethodName) prog_9_method_12_code (4 : Nat) (Option.some Jvm.ClassFile.FieldType.boolean)).before args0 about1 = true := code_word (m := ⟨2, 5⟩) (meth := k2m5) (c := k2c5) (by decide +kernel) rfl rfl rfl (by decide +kernel)
set_option maxRecDepth 65536 in
theorem w_c14 : (Jvm.Cond.code ({ cls := "com/example/homethread/homethread/Items", name := "clear", desc := "()V" } : Jvm.MethodName) prog_9_method_10_code (1 : Nat) (Option.none : Option Jvm.ClassFile.FieldType)).before args0 about1 = true := code_word (m := ⟨2, 3⟩) (meth := k2m3) (c := k2c3) (by decide +kernel) rfl rfl rfl (by decide +kernel)
def codes1 : List Jvm.Cond := [Jvm.Cond.code x code maxLocals ret, Jvm.Cond.code ({ cls := "com/example/homethread/homethread/Items", name := "<init>", desc := "()V" } : Jvm.MethodName) prog_9_method_1_code (1 : Nat) (Option.none : Option Jvm.ClassFile.FieldType), Jvm.Cond.code ({ cls := "java/lang/Object", name := "<init>", desc := "()V" } : Jvm.MethodName) object_method_1_code (1 : Nat) (Option.none : Option Jvm.ClassFile.FieldType), Jvm.Cond.code ({ cls := "com/example/homethread/homethread/Items", name := "isEmpty", desc := "()Z" } : Jvm.MethodName) prog_9_method_6_code (1 : Nat) (Option.some Jvm.ClassFile.FieldType.boolean), Jvm.Cond.code ({ cls := "java/lang/Integer", name := "valueOf", desc := "(I)Ljava/lang/Integer;" } : Jvm.MethodName) jdk_33_method_22_code (1 : Nat) (Option.some (Jvm.ClassFile.FieldType.object "java/lang/Integer")), Jvm.Cond.code ({ cls := "com/example/homethread/homethread/Items", name := "clearAndTrim", desc := "(I)V" } : Jvm.MethodName) prog_9_method_11_code (2 : Nat) (Option.none : Option Jvm.ClassFile.FieldType), Jvm.Cond.code ({ cls := "com/example/homethread/homethread/Items", name := "add", desc := "(Ljava/lang/Object;)V" } : Jvm.MethodName) prog_9_method_8_code (3 : Nat) (Option.none : Option Jvm.ClassFile.FieldType), Jvm.Cond.code ({ cls := "java/lang/Math", name := "max", desc := "(II)I" } : Jvm.MethodName) jdk_29_method_65_code (2 : Nat) (Option.some Jvm.ClassFile.FieldType.int), Jvm.Cond.code ({ cls := "java/util/Arrays", name := "copyOf", desc := "([Ljava/lang/Object;I)[Ljava/lang/Object;" } : Jvm.MethodName) jdk_65_method_119_code (2 : Nat) (Option.some (Jvm.ClassFile.FieldType.array (Jvm.ClassFile.FieldType.object "java/lang/Object"))), Jvm.Cond.code ({ cls := "java/util/Arrays", name := "copyOf", desc := "([Ljava/lang/Object;ILjava/lang/Class;)[Ljava/lang/Object;" } : Jvm.MethodName) jdk_65_method_120_code (4 : Nat) (Option.some (Jvm.ClassFile.FieldType.array (Jvm.ClassFile.FieldType.object "java/lang/Object"))), Jvm.Cond.code ({ cls := "java/lang/Math", name := "min", desc := "(II)I" } : Jvm.MethodName) jdk_29_method_69_code (2 : Nat) (Option.some Jvm.ClassFile.FieldType.int), Jvm.Cond.code ({ cls := "java/lang/Integer", name := "<init>", desc := "(I)V" } : Jvm.MethodName) jdk_33_method_23_code (2 : Nat) (Option.none : Option Jvm.ClassFile.FieldType), Jvm.Cond.code ({ cls := "java/lang/Number", name := "<init>", desc := "()V" } : Jvm.MethodName) jdk_18_method_1_code (1 : Nat) (Option.none : Option Jvm.ClassFile.FieldType), Jvm.Cond.code ({ cls := "com/example/homethread/homethread/Items", name := "removeLast", desc := "(Ljava/lang/Object;I)Z" } : Jvm.MethodName) prog_9_method_12_code (4 : Nat) (Option.some Jvm.ClassFile.FieldType.boolean), Jvm.Cond.code ({ cls := "com/example/homethread/homethread/Items", name := "clear", desc := "()V" } : Jvm.MethodName) prog_9_method_10_code (1 : Nat) (Option.none : Option Jvm.ClassFile.FieldType)]
set_option maxRecDepth 65536 in
theorem codes_eq : words1.filter isCode = codes1 := rfl
theorem w_codes : ∀ c ∈ words1.filter isCode, c.before args0 about1 = true := by
  rw [codes_eq]
  intro c hc
  simp only [codes1, List.mem_cons, List.not_mem_nil, or_false] at hc
  rcases hc with rfl | rfl | rfl | rfl | rfl | rfl | rfl | rfl | rfl | rfl | rfl | rfl | rfl | rfl | rfl
  · exact w_c0
  · exact w_c1
  · exact w_c2
  · exact w_c3
  · exact w_c4
  · exact w_c5
  · exact w_c6
  · exact w_c7
  · exact w_c8
  · exact w_c9
  · exact w_c10
  · exact w_c11
  · exact w_c12
  · exact w_c13
  · exact w_c14
set_option maxRecDepth 65536 in
theorem w_t1 : (words1.take 24).all (fun c => isCode c || c.before args0 about1) = true := by decide +kernel
set_option maxRecDepth 65536 in
theorem w_t2 : ((words1.drop 24).take 24).all (fun c => isCode c || c.before args0 about1) = true := by decide +kernel
set_option maxRecDepth 65536 in
theorem w_t3 : (((words1.drop 24).drop 24).take 24).all (fun c => isCode c || c.before args0 about1) = true := by decide +kernel
set_option maxRecDepth 65536 in
theorem w_t4 : (((words1.drop 24).drop 24).drop 24).all (fun c => isCode c || c.before args0 about1) = true := by decide +kernel
theorem w_tables : (allAtoms (Jvm.Cond.code x code maxLocals ret :: tables_1)).before args0 about1 = true := by
  rw [allAtoms_all]
  show words1.all (fun c => c.before args0 about1) = true
  refine all_split ?_ w_codes
  rw [← List.take_append_drop 24 words1, List.all_append, w_t1, ← List.take_append_drop 24 (words1.drop 24), List.all_append, w_t2, ← List.take_append_drop 24 ((words1.drop 24).drop 24), List.all_append, w_t3, w_t4]
  rfl
set_option maxRecDepth 65536 in
theorem w_rest : rest_1_c.before args0 about1 = true := by decide +kernel
set_option maxRecDepth 65536 in
theorem w_case : (Jvm.Cond.and given_1 narrow_1).before args0 about1 = true := by decide +kernel
theorem w_applies : (headSpec (Jvm.Cond.code x code maxLocals ret :: tables_1) room_1).applies x e0.platform about1 = true :=
  (Spec.applies_iff w_frames).mpr ⟨w_running, w_runnable, w_alone, w_named, w_hears, w_ripe, w_room, w_tables⟩
set_option maxRecDepth 65536 in
theorem atStart : AtStart classFile x code maxLocals ret World_1 tables_1 room_1 Calls_1 rest_1 Pre_1 launch0 p0 e0 about1 theMethod args0 below0 :=
  ⟨lists_1, trivial, launch0.admits_env _ _ _, launch0.least_env, fairChoices_fair.cas, fairChoices_fair.clock, w_frames, w_args, w_heap, w_applies, ⟨⟨18, k18, 2, by decide +kernel, rfl, rfl, _, rfl, rfl⟩, trivial⟩, w_rest, w_case⟩
end start1
theorem witness_1 : WitnessClaimed_1 := ⟨start1.p0, start1.e0, start1.about1, start1.theMethod, start1.args0, start1.below0, start1.atStart⟩
end Jvm.Pilot.@@N@@
