import JvmDerived
import JvmDerived.Pilot.@@N@@Statement
import JvmDerived.Pilot.@@N@@Code
set_option linter.unusedVariables false
set_option linter.unusedSimpArgs false
namespace Jvm.RoadKit
open Sem ClassFile Op Lib Jvm.Stand Jvm.Free Jvm.LawKit
section New
variable {p : Program} {l : Launch} {e : Env} {R : Room} {s : State} {m : MethodId} {args : Array Value} {below : List Frame} {meth : Method} {c : Code} {T : State} {locs : List Loc} {cells slots : Nat}
theorem retI (X : Stand p l e R s m args below meth c T locs cells slots) (hx : p.tables.exec = Jvm.exec) {pc : Nat} {Ls : Array Slot} {z : Int32} {rest : List Value} (hret : meth.sig.returnType = some .int) (hd : decode c.code pc = .ok (.ireturn, 1)) {fs : List Frame}
    (hl : ∀ (f : JFrame) (acts : List Action), f.method = m → f.locked = none → f.entered = [] → (doReturn e (T.setTop f) acts (some (.int z))).1 = T.setFrames fs) : Steps p.tables e below (T.setTop (mkF m pc Ls (.int z :: rest))) (T.setFrames fs) := by
  have hm' : T.vm.method? m = some meth := X.method'
  have hn : narrow .int (.int z) = .int z := rfl
  show Steps p.tables e below (T.setTop { method := m, pc := pc, locals := Ls, stack := _ :: rest, locked := none }) _
  jvm_step X.here [X.here.top, hx, hd, hm', hret, hn]
  first | (intro acts; rw [hl _ acts rfl rfl rfl]) | rw [hl _ _ rfl rfl rfl]
  exact Steps.refl _
end New
end Jvm.RoadKit
namespace Jvm.Pilot.@@N@@
open Jvm Jvm.ClassFile Sem Op Lib Jvm.Free Jvm.Stand Jvm.LawKit Jvm.RoadKit Bundle Jvm.Pilot.@@N@@.Jvm.D
theorem own_fld_ne {Z : State} {h : Heap} {a b : Addr} {C n d : String} {v w : Value} (F : Fld Z h a C n d v) (G : Fld Z h b C n d w) (q : v ≠ w) : a ≠ b := fun e => by
  subst e
  obtain ⟨c1, cf1, k1, i1, f1, a1, a2, -, -, -, -, a7⟩ := F
  obtain ⟨c2, cf2, k2, i2, f2, b1, b2, -, -, -, -, b7⟩ := G
  cases a1.symm.trans b1
  cases a2.symm.trans b2
  exact q (Option.some.inj (a7.symm.trans b7))
theorem own_fldI {args : Array Value} {s : State} {t : Term} {a : Addr} {C n d : String} {k : Int32} (ht : t.eval args s none [] s = some (.ref a)) (h : (Jvm.Cond.eq (Term.field t C n d) (Term.int k)).value args s none s [] = some true) : Fld s s.heap a C n d (.int k) := by
  apply Fld.start
  have e1 : (Term.field t C n d).eval args s none [] s = s.fieldOf? a C n d := fld_at ht
  have e2 : (Term.int k).eval args s none [] s = some (.int k) := Term.int_eval k
  simp only [Cond.value, e1, e2] at h
  split at h <;> simp_all
theorem own_nm0 {a : Addr} : a ∉ ([] : List Addr) := List.not_mem_nil
theorem own_nm1 {a x : Addr} (h : a ≠ x) : a ∉ [x] := fun q => h (List.mem_singleton.mp q)
theorem own_nm2 {a x y : Addr} (h : a ≠ x) (h2 : a ≠ y) : a ∉ [x, y] := fun q => by
  rcases List.mem_cons.mp q with q | q
  · exact h q
  · exact h2 (List.mem_singleton.mp q)
theorem own_nm3 {a x y z : Addr} (h : a ≠ x) (h2 : a ≠ y) (h3 : a ≠ z) : a ∉ [x, y, z] := fun q => by
  rcases List.mem_cons.mp q with q | q
  · exact h q
  · exact own_nm2 h2 h3 q
theorem own_all0 {P : Addr → Prop} : ∀ x ∈ ([] : List Addr), P x := fun x q => (List.not_mem_nil q).elim
theorem own_all1 {P : Addr → Prop} {a : Addr} (h : P a) : ∀ x ∈ [a], P x := fun x q => by rw [List.mem_singleton.mp q]; exact h
theorem own_all2 {P : Addr → Prop} {a b : Addr} (h : P a) (h2 : P b) : ∀ x ∈ [a, b], P x := fun x q => by
  rcases List.mem_cons.mp q with q | q
  · rw [q]; exact h
  · rw [List.mem_singleton.mp q]; exact h2
theorem own_all3 {P : Addr → Prop} {a b c : Addr} (h : P a) (h2 : P b) (h3 : P c) : ∀ x ∈ [a, b, c], P x := fun x q => by
  rcases List.mem_cons.mp q with q | q
  · rw [q]; exact h
  · exact own_all2 h2 h3 x q
theorem own_selpriv {s : State} {args : Array Value} {y : MethodName} {n : Nat} (wi : (Jvm.Cond.instantiable y.cls n).before args s = true) (hp : (Jvm.Cond.privateMethod y).before args s = true) (hi : (Jvm.Cond.instanceMethod y).before args s = true) (hy : y.cls ≠ "java/lang/invoke/MethodHandle" ∧ y.cls ≠ "java/lang/invoke/VarHandle") : (Jvm.Cond.selects y.cls y y).before args s = true := by
  obtain ⟨c, k, h1, h2, -, h4, -⟩ := Cond.instantiable_spec wi
  exact selects_self_of_private h1 h2 (by simp at h4; exact h4.1) (Cond.privateMethod_at hp) hi hy
theorem pn_0 : plainName "com/example/contexture/contexture/engine/evaluation/TallyClearPinLaw" = true := by first | (simp [plainName, overriddenIn]; done) | decide +kernel
theorem ef_1 (m : MethodId) (x0 : Int32) : entryFrame m #[(.int x0)] 2 = mkF m 0 #[.val (.int x0), .unset] [] := by first | (simp [entryFrame, mkF, argsToLocals, Value.category]; done) | rfl
theorem d1_0 : decode method_2_code 0 = .ok (.iload_n 0, 1) := by decide +kernel
theorem d1_1 : decode method_2_code 1 = .ok (.iconst 3, 1) := by decide +kernel
theorem d1_2 : decode method_2_code 2 = .ok (.iand, 1) := by decide +kernel
theorem d1_3 : decode method_2_code 3 = .ok (.istore_n 1, 1) := by decide +kernel
theorem d1_4 : decode method_2_code 4 = .ok (.iload_n 1, 1) := by decide +kernel
theorem d1_5 : decode method_2_code 5 = .ok (.ifCond .ne 7, 3) := by decide +kernel
theorem d1_8 : decode method_2_code 8 = .ok (.getstatic 7, 3) := by decide +kernel
theorem d1_11 : decode method_2_code 11 = .ok (.areturn, 1) := by decide +kernel
theorem d1_12 : decode method_2_code 12 = .ok (.iload_n 1, 1) := by decide +kernel
theorem d1_13 : decode method_2_code 13 = .ok (.iconst 1, 1) := by decide +kernel
theorem d1_14 : decode method_2_code 14 = .ok (.if_icmp .ne 7, 3) := by decide +kernel
theorem d1_17 : decode method_2_code 17 = .ok (.getstatic 13, 3) := by decide +kernel
theorem d1_20 : decode method_2_code 20 = .ok (.areturn, 1) := by decide +kernel
theorem d1_21 : decode method_2_code 21 = .ok (.getstatic 16, 3) := by decide +kernel
theorem d1_24 : decode method_2_code 24 = .ok (.areturn, 1) := by decide +kernel
def Q_v (Z : State) (yy : Int32) (a_TRUE : Addr) (a_FALSE : Addr) (a_UNKNOWN : Addr) (h0 : Heap) (n0 : Nat) (v : Option Value) (h : Heap) (L : List Loc) : Prop := ∃ (r : Addr), v = some (.ref r) ∧ Fr n0 L ∧ h = h0 ∧ (r = a_TRUE ∨ r = a_FALSE ∨ r = a_UNKNOWN)
set_option maxRecDepth 65536 in
set_option maxHeartbeats 40000000 in
theorem rm_v (l : Launch) (Z : State) (a0 : Array Value) (hw : ∀ d ∈ tables_1, d.before a0 Z = true) (ws : List Jvm.Cond) (yy : Int32) (a_TRUE : Addr) (a_FALSE : Addr) (a_UNKNOWN : Addr) (h0 : Heap) (n0 : Nat) (O0 : Old Z n0 h0) (G0 : Sta Z Z.heap "com/example/contexture/contexture/engine/evaluation/TruthValue" "TRUE" "Lcom/example/contexture/contexture/engine/evaluation/TruthValue;" (.ref a_TRUE)) (G1 : Sta Z Z.heap "com/example/contexture/contexture/engine/evaluation/TruthValue" "FALSE" "Lcom/example/contexture/contexture/engine/evaluation/TruthValue;" (.ref a_FALSE)) (G2 : Sta Z Z.heap "com/example/contexture/contexture/engine/evaluation/TruthValue" "UNKNOWN" "Lcom/example/contexture/contexture/engine/evaluation/TruthValue;" (.ref a_UNKNOWN)) :
    MetFree l (⟨"com/example/contexture/contexture/engine/evaluation/TallyClearPinLaw", "v", "(I)Lcom/example/contexture/contexture/engine/evaluation/TruthValue;"⟩ : MethodName) (head1 (Jvm.Cond.code (⟨"com/example/contexture/contexture/engine/evaluation/TallyClearPinLaw", "v", "(I)Lcom/example/contexture/contexture/engine/evaluation/TruthValue;"⟩ : MethodName) method_2_code 2 (some (.object "com/example/contexture/contexture/engine/evaluation/TruthValue")) :: ws) ({ frames := 0, cells := 0, slots := 0, locals := 0 } : Room)) (fun a U => a = #[(.int yy)] ∧ Z.Warmed39 U.vm ∧ U.heap = h0) (fun _ _ _ _ _ => True) (fun _ U o U' => ∃ v L, o = .returned v ∧ Q_v Z yy a_TRUE a_FALSE a_UNKNOWN h0 n0 v U'.heap L ∧ FrameEnd U o U' L ({ frames := 0, cells := 0, slots := 0, locals := 0 } : Room).cells ({ frames := 0, cells := 0, slots := 0, locals := 0 } : Room).slots) := by
  refine MetFree.of_bodySF (plainFor_of_name pn_0) hisR ?_
  intro p e s m args below meth c s₁ Bd hml0 hP hK
  have W := fun {d : Jvm.Cond} (i : Nat) (q : tables_1[i]? = some d) => hw d (List.mem_of_getElem? q)
  obtain ⟨rfl, hZ, hh⟩ := hP
  have hx := Bd.exec
  have hby := Bd.bytes
  have hml : c.maxLocals = 2 := hml0
  have hown : s.vm.findClass "com/example/contexture/contexture/engine/evaluation/TallyClearPinLaw" = some m.cls := findClass_of_methodNamed Bd.named
  have hnm := (name_of_methodNamed Bd.named Bd.method).1
  have X0 : Stand p l e ({ frames := 0, cells := 0, slots := 0, locals := 0 } : Room) s m #[(.int yy)] below meth c s₁ [] 0 0 := Stand.of_body Bd
  have e0 : s₁.heap = h0 := by rw [← hh, Bd.state]; rfl
  have N0 := Fr.nil n0
  have pre0 : ∀ t, Steps p.tables e below (s₁.setTop (mkF m 0 #[iv yy, .unset] [])) t → Steps p.tables e below (s₁.setTop (entryFrame m #[(.int yy)] 2)) t := fun t k => castTop (ef_1 m yy) k
  have K0 : Keep h0 h0 [] := Keep.refl h0 []
  have pre1 : ∀ t, Steps p.tables e below (s₁.setTop (mkF m 5 #[iv yy, iv (yy &&& (3 : Int32))] [(.int (yy &&& (3 : Int32)))])) t → Steps p.tables e below (s₁.setTop (entryFrame m #[(.int yy)] 2)) t := fun t kt => by
    refine pre0 _ ?_
    show Steps p.tables e below (s₁.setTop (mkF m 0 #[iv yy, .unset] [])) _
    refine XS.iloadN X0.here hx rfl (hb hby d1_0) rfl ?_
    refine XS.iconst X0.here hx rfl (hb hby d1_1) ?_
    refine XS.iand X0.here hx rfl (hb hby d1_2) rfl ?_
    refine XS.istoreN X0.here hx rfl (hb hby d1_3) rfl (l' := #[iv yy, iv (yy &&& (3 : Int32))]) rfl ?_
    show Steps p.tables e below (s₁.setTop (mkF m 4 #[iv yy, iv (yy &&& (3 : Int32))] [])) _
    refine XS.iloadN X0.here hx rfl (hb hby d1_4) rfl ?_
    exact kt
  by_cases hc2 : (yy &&& (3 : Int32)) = (0 : Int32)
  · have pre3 : ∀ t, Steps p.tables e below (s₁.setTop (mkF m 8 #[iv yy, iv (yy &&& (3 : Int32))] [])) t → Steps p.tables e below (s₁.setTop (entryFrame m #[(.int yy)] 2)) t := fun t kt => by
      refine pre1 _ ?_
      show Steps p.tables e below (s₁.setTop (mkF m 5 #[iv yy, iv (yy &&& (3 : Int32))] [(.int (yy &&& (3 : Int32)))])) _
      refine XS.ifNo X0.here hx rfl (hb hby d1_5) rfl (XT.i0_ne_f hc2) ?_
      exact kt
    obtain ⟨T4, X4, e4, st4⟩ := getS2 X0 hx hZ hown (host := "") (Or.inl (W 8 rfl)) Via.refl e0 (G0.ext O0.2) (g := (mkF m 8 #[iv yy, iv (yy &&& (3 : Int32))] [])) rfl (hb hby d1_8)
    have pre5 : ∀ t, Steps p.tables e below (T4.setTop (mkF m 11 #[iv yy, iv (yy &&& (3 : Int32))] [(.ref a_TRUE)])) t → Steps p.tables e below (s₁.setTop (entryFrame m #[(.int yy)] 2)) t := fun t kt => pre3 _ (st4 _ kt)
    obtain ⟨fs, hr, hrun, hended, hW, hsame⟩ := X4.leave (v := some (.ref a_TRUE)) (fun h => by rw [Bd.returns] at h; cases h)
    refine ⟨_, _, pre5 _ (X4.areturnOut hx rfl Bd.returns rfl (hb hby d1_11) hr), hrun, hended, _, _, rfl, ?_, ⟨_, rfl⟩, hW, hsame.mono (by decide) (by decide)⟩
    show Q_v Z yy a_TRUE a_FALSE a_UNKNOWN h0 n0 _ T4.heap _
    rw [e4]
    exact ⟨a_TRUE, rfl, N0, rfl, Or.inl rfl⟩
  · have pre6 : ∀ t, Steps p.tables e below (s₁.setTop (mkF m 14 #[iv yy, iv (yy &&& (3 : Int32))] [(.int (1 : Int32)), (.int (yy &&& (3 : Int32)))])) t → Steps p.tables e below (s₁.setTop (entryFrame m #[(.int yy)] 2)) t := fun t kt => by
      refine pre1 _ ?_
      show Steps p.tables e below (s₁.setTop (mkF m 5 #[iv yy, iv (yy &&& (3 : Int32))] [(.int (yy &&& (3 : Int32)))])) _
      refine XS.ifYes X0.here hx rfl (pc0 := 5) (pc' := 12) rfl (hb hby d1_5) rfl (XT.i0_ne_t hc2) (by decide) (by decide) ?_
      refine XS.iloadN X0.here hx rfl (hb hby d1_12) rfl ?_
      refine XS.iconst X0.here hx rfl (hb hby d1_13) ?_
      exact kt
    by_cases hc7 : (yy &&& (3 : Int32)) = (1 : Int32)
    · have pre8 : ∀ t, Steps p.tables e below (s₁.setTop (mkF m 17 #[iv yy, iv (yy &&& (3 : Int32))] [])) t → Steps p.tables e below (s₁.setTop (entryFrame m #[(.int yy)] 2)) t := fun t kt => by
        refine pre6 _ ?_
        show Steps p.tables e below (s₁.setTop (mkF m 14 #[iv yy, iv (yy &&& (3 : Int32))] [(.int (1 : Int32)), (.int (yy &&& (3 : Int32)))])) _
        refine XS.icmpNo X0.here hx rfl (hb hby d1_14) rfl (XT.ii_ne_f hc7) ?_
        exact kt
      obtain ⟨T9, X9, e9, st9⟩ := getS2 X0 hx hZ hown (host := "") (Or.inl (W 10 rfl)) Via.refl e0 (G1.ext O0.2) (g := (mkF m 17 #[iv yy, iv (yy &&& (3 : Int32))] [])) rfl (hb hby d1_17)
      have pre10 : ∀ t, Steps p.tables e below (T9.setTop (mkF m 20 #[iv yy, iv (yy &&& (3 : Int32))] [(.ref a_FALSE)])) t → Steps p.tables e below (s₁.setTop (entryFrame m #[(.int yy)] 2)) t := fun t kt => pre8 _ (st9 _ kt)
      obtain ⟨fs, hr, hrun, hended, hW, hsame⟩ := X9.leave (v := some (.ref a_FALSE)) (fun h => by rw [Bd.returns] at h; cases h)
      refine ⟨_, _, pre10 _ (X9.areturnOut hx rfl Bd.returns rfl (hb hby d1_20) hr), hrun, hended, _, _, rfl, ?_, ⟨_, rfl⟩, hW, hsame.mono (by decide) (by decide)⟩
      show Q_v Z yy a_TRUE a_FALSE a_UNKNOWN h0 n0 _ T9.heap _
      rw [e9]
      exact ⟨a_FALSE, rfl, N0, rfl, Or.inr (Or.inl rfl)⟩
    · have pre11 : ∀ t, Steps p.tables e below (s₁.setTop (mkF m 21 #[iv yy, iv (yy &&& (3 : Int32))] [])) t → Steps p.tables e below (s₁.setTop (entryFrame m #[(.int yy)] 2)) t := fun t kt => by
        refine pre6 _ ?_
        show Steps p.tables e below (s₁.setTop (mkF m 14 #[iv yy, iv (yy &&& (3 : Int32))] [(.int (1 : Int32)), (.int (yy &&& (3 : Int32)))])) _
        refine XS.icmpYes X0.here hx rfl (pc0 := 14) (pc' := 21) rfl (hb hby d1_14) rfl (XT.ii_ne_t hc7) (by decide) (by decide) ?_
        exact kt
      obtain ⟨T12, X12, e12, st12⟩ := getS2 X0 hx hZ hown (host := "") (Or.inl (W 5 rfl)) Via.refl e0 (G2.ext O0.2) (g := (mkF m 21 #[iv yy, iv (yy &&& (3 : Int32))] [])) rfl (hb hby d1_21)
      have pre13 : ∀ t, Steps p.tables e below (T12.setTop (mkF m 24 #[iv yy, iv (yy &&& (3 : Int32))] [(.ref a_UNKNOWN)])) t → Steps p.tables e below (s₁.setTop (entryFrame m #[(.int yy)] 2)) t := fun t kt => pre11 _ (st12 _ kt)
      obtain ⟨fs, hr, hrun, hended, hW, hsame⟩ := X12.leave (v := some (.ref a_UNKNOWN)) (fun h => by rw [Bd.returns] at h; cases h)
      refine ⟨_, _, pre13 _ (X12.areturnOut hx rfl Bd.returns rfl (hb hby d1_24) hr), hrun, hended, _, _, rfl, ?_, ⟨_, rfl⟩, hW, hsame.mono (by decide) (by decide)⟩
      show Q_v Z yy a_TRUE a_FALSE a_UNKNOWN h0 n0 _ T12.heap _
      rw [e12]
      exact ⟨a_UNKNOWN, rfl, N0, rfl, Or.inr (Or.inr rfl)⟩
theorem pn_2 : plainName "com/example/contexture/contexture/engine/evaluation/TruthValue$Tally" = true := by first | (simp [plainName, overriddenIn]; done) | decide +kernel
theorem ef_3 (m : MethodId) (x0 : Addr) (x1 : Addr) : entryFrame m #[(.ref x0), (.ref x1)] 2 = mkF m 0 #[.val (.ref x0), .val (.ref x1)] [] := by first | (simp [entryFrame, mkF, argsToLocals, Value.category]; done) | rfl
theorem d5_0 : decode prog_17_method_2_code 0 = .ok (.aload_n 1, 1) := by decide +kernel
theorem d5_1 : decode prog_17_method_2_code 1 = .ok (.invokevirtual 7, 3) := by decide +kernel
theorem d6_0 : decode jdk_37_method_2_code 0 = .ok (.aload_n 0, 1) := by decide +kernel
theorem d6_1 : decode jdk_37_method_2_code 1 = .ok (.getfield 7, 3) := by decide +kernel
theorem d6_4 : decode jdk_37_method_2_code 4 = .ok (.ireturn, 1) := by decide +kernel
theorem pn_4 : plainName "java/lang/Enum" = true := by first | (simp [plainName, overriddenIn]; done) | decide +kernel
theorem ef_5 (m : MethodId) (x0 : Addr) : entryFrame m #[(.ref x0)] 1 = mkF m 0 #[.val (.ref x0)] [] := by first | (simp [entryFrame, mkF, argsToLocals, Value.category]; done) | rfl
def Q_ordinal6_0 (Z : State) (r : Addr) (h0 : Heap) (n0 : Nat) (v : Option Value) (h : Heap) (L : List Loc) : Prop := v = some (.int (0 : Int32)) ∧ Fr n0 L ∧ h = h0
set_option maxRecDepth 65536 in
set_option maxHeartbeats 40000000 in
theorem rm_ordinal6_0 (l : Launch) (Z : State) (a0 : Array Value) (hw : ∀ d ∈ tables_1, d.before a0 Z = true) (ws : List Jvm.Cond) (r : Addr) (h0 : Heap) (n0 : Nat) (O0 : Old Z n0 h0) (G0 : Fld Z Z.heap r "java/lang/Enum" "ordinal" "I" (.int (0 : Int32))) :
    MetFree l (⟨"java/lang/Enum", "ordinal", "()I"⟩ : MethodName) (head1 (Jvm.Cond.code (⟨"java/lang/Enum", "ordinal", "()I"⟩ : MethodName) jdk_37_method_2_code 1 (some .int) :: ws) ({ frames := 0, cells := 0, slots := 0, locals := 0 } : Room)) (fun a U => a = #[(.ref r)] ∧ Z.Warmed39 U.vm ∧ U.heap = h0) (fun _ _ _ _ _ => True) (fun _ U o U' => ∃ v L, o = .returned v ∧ Q_ordinal6_0 Z r h0 n0 v U'.heap L ∧ FrameEnd U o U' L ({ frames := 0, cells := 0, slots := 0, locals := 0 } : Room).cells ({ frames := 0, cells := 0, slots := 0, locals := 0 } : Room).slots) := by
  refine MetFree.of_bodySF (plainFor_of_name pn_4) hisR ?_
  intro p e s m args below meth c s₁ Bd hml0 hP hK
  have W := fun {d : Jvm.Cond} (i : Nat) (q : tables_1[i]? = some d) => hw d (List.mem_of_getElem? q)
  obtain ⟨rfl, hZ, hh⟩ := hP
  have hx := Bd.exec
  have hby := Bd.bytes
  have hml : c.maxLocals = 1 := hml0
  have hown : s.vm.findClass "java/lang/Enum" = some m.cls := findClass_of_methodNamed Bd.named
  have hnm := (name_of_methodNamed Bd.named Bd.method).1
  have X0 : Stand p l e ({ frames := 0, cells := 0, slots := 0, locals := 0 } : Room) s m #[(.ref r)] below meth c s₁ [] 0 0 := Stand.of_body Bd
  have e0 : s₁.heap = h0 := by rw [← hh, Bd.state]; rfl
  have N0 := Fr.nil n0
  have pre0 : ∀ t, Steps p.tables e below (s₁.setTop (mkF m 0 #[rv r] [])) t → Steps p.tables e below (s₁.setTop (entryFrame m #[(.ref r)] 1)) t := fun t k => castTop (ef_5 m r) k
  have K0 : Keep h0 h0 [] := Keep.refl h0 []
  have pre22 : ∀ t, Steps p.tables e below (s₁.setTop (mkF m 1 #[rv r] [(.ref r)])) t → Steps p.tables e below (s₁.setTop (entryFrame m #[(.ref r)] 1)) t := fun t kt => by
    refine pre0 _ ?_
    show Steps p.tables e below (s₁.setTop (mkF m 0 #[rv r] [])) _
    refine XS.aloadN X0.here hx rfl (hb hby d6_0) rfl rfl ?_
    exact kt
  obtain ⟨T23, X23, e23, st23⟩ := getF X0 hx hZ hown (host := "") (Or.inl (W 44 rfl)) Via.refl e0 (G0.ext O0.2) (g := (mkF m 1 #[rv r] [(.ref r)])) rfl rfl (hb hby d6_1)
  have pre24 : ∀ t, Steps p.tables e below (T23.setTop (mkF m 4 #[rv r] [(.int (0 : Int32))])) t → Steps p.tables e below (s₁.setTop (entryFrame m #[(.ref r)] 1)) t := fun t kt => pre22 _ (st23 _ kt)
  obtain ⟨fs, hr, hrun, hended, hW, hsame⟩ := X23.leave (v := some (.int (0 : Int32))) (fun h => by rw [Bd.returns] at h; cases h)
  refine ⟨_, _, pre24 _ (retI X23 hx Bd.returns (hb hby d6_4) hr), hrun, hended, _, _, rfl, ?_, ⟨_, rfl⟩, hW, hsame.mono (by decide) (by decide)⟩
  show Q_ordinal6_0 Z r h0 n0 _ T23.heap _
  rw [e23]
  exact ⟨rfl, N0, rfl⟩
theorem pd_6 : parseMethodDescriptor "()I" = some ⟨[], some .int⟩ := by decide +kernel
theorem d5_4 : decode prog_17_method_2_code 4 = .ok (.tableswitch 64 0 2 #[28, 41, 54], 28) := by decide +kernel
theorem d5_32 : decode prog_17_method_2_code 32 = .ok (.aload_n 0, 1) := by decide +kernel
theorem d5_33 : decode prog_17_method_2_code 33 = .ok (.dup, 1) := by decide +kernel
theorem d5_34 : decode prog_17_method_2_code 34 = .ok (.getfield 13, 3) := by decide +kernel
theorem d5_37 : decode prog_17_method_2_code 37 = .ok (.iconst 1, 1) := by decide +kernel
theorem d5_38 : decode prog_17_method_2_code 38 = .ok (.iadd, 1) := by decide +kernel
theorem d5_39 : decode prog_17_method_2_code 39 = .ok (.putfield 13, 3) := by decide +kernel
theorem d5_42 : decode prog_17_method_2_code 42 = .ok (.goto 26, 3) := by decide +kernel
theorem d5_68 : decode prog_17_method_2_code 68 = .ok (.return_, 1) := by decide +kernel
def Q_add0 (Z : State) (tl : Addr) (r : Addr) (n1 : Int32) (n2 : Int32) (n3 : Int32) (h0 : Heap) (n0 : Nat) (v : Option Value) (h : Heap) (L : List Loc) : Prop := v = none ∧ Fr n0 L ∧ Keep h0 h [tl] ∧ Old Z n0 h ∧ Exa Z h tl "com/example/contexture/contexture/engine/evaluation/TruthValue$Tally" ∧ Fld Z h tl "com/example/contexture/contexture/engine/evaluation/TruthValue$Tally" "trues" "I" (.int (n1 + (1 : Int32))) ∧ Fld Z h tl "com/example/contexture/contexture/engine/evaluation/TruthValue$Tally" "falses" "I" (.int n2) ∧ Fld Z h tl "com/example/contexture/contexture/engine/evaluation/TruthValue$Tally" "unknowns" "I" (.int n3)
set_option maxRecDepth 65536 in
set_option maxHeartbeats 40000000 in
theorem rm_add0 (l : Launch) (Z : State) (a0 : Array Value) (hw : ∀ d ∈ tables_1, d.before a0 Z = true) (ws : List Jvm.Cond) (tl : Addr) (r : Addr) (n1 : Int32) (n2 : Int32) (n3 : Int32) (h0 : Heap) (n0 : Nat) (O0 : Old Z n0 h0) (G0 : Exa Z Z.heap r "com/example/contexture/contexture/engine/evaluation/TruthValue") (G1 : Fld Z Z.heap r "java/lang/Enum" "ordinal" "I" (.int (0 : Int32))) (g_tl : n0 ≤ tl) (Fi0 : Exa Z h0 tl "com/example/contexture/contexture/engine/evaluation/TruthValue$Tally") (Fi1 : Fld Z h0 tl "com/example/contexture/contexture/engine/evaluation/TruthValue$Tally" "trues" "I" (.int n1)) (Fi2 : Fld Z h0 tl "com/example/contexture/contexture/engine/evaluation/TruthValue$Tally" "falses" "I" (.int n2)) (Fi3 : Fld Z h0 tl "com/example/contexture/contexture/engine/evaluation/TruthValue$Tally" "unknowns" "I" (.int n3)) :
    MetFree l (⟨"com/example/contexture/contexture/engine/evaluation/TruthValue$Tally", "add", "(Lcom/example/contexture/contexture/engine/evaluation/TruthValue;)V"⟩ : MethodName) (head1 (Jvm.Cond.code (⟨"com/example/contexture/contexture/engine/evaluation/TruthValue$Tally", "add", "(Lcom/example/contexture/contexture/engine/evaluation/TruthValue;)V"⟩ : MethodName) prog_17_method_2_code 2 none :: ws) ({ frames := 1, cells := 0, slots := 0, locals := 12 } : Room)) (fun a U => a = #[(.ref tl), (.ref r)] ∧ Z.Warmed39 U.vm ∧ U.heap = h0) (fun _ _ _ _ _ => True) (fun _ U o U' => ∃ v L, o = .returned v ∧ Q_add0 Z tl r n1 n2 n3 h0 n0 v U'.heap L ∧ FrameEnd U o U' L ({ frames := 1, cells := 0, slots := 0, locals := 12 } : Room).cells ({ frames := 1, cells := 0, slots := 0, locals := 12 } : Room).slots) := by
  refine MetFree.of_bodySF (plainFor_of_name pn_2) hisR ?_
  intro p e s m args below meth c s₁ Bd hml0 hP hK
  have W := fun {d : Jvm.Cond} (i : Nat) (q : tables_1[i]? = some d) => hw d (List.mem_of_getElem? q)
  obtain ⟨rfl, hZ, hh⟩ := hP
  have hx := Bd.exec
  have hby := Bd.bytes
  have hml : c.maxLocals = 2 := hml0
  have hown : s.vm.findClass "com/example/contexture/contexture/engine/evaluation/TruthValue$Tally" = some m.cls := findClass_of_methodNamed Bd.named
  have hnm := (name_of_methodNamed Bd.named Bd.method).1
  have X0 : Stand p l e ({ frames := 1, cells := 0, slots := 0, locals := 12 } : Room) s m #[(.ref tl), (.ref r)] below meth c s₁ [] 0 0 := Stand.of_body Bd
  have e0 : s₁.heap = h0 := by rw [← hh, Bd.state]; rfl
  have N0 := Fr.nil n0
  have pre0 : ∀ t, Steps p.tables e below (s₁.setTop (mkF m 0 #[rv tl, rv r] [])) t → Steps p.tables e below (s₁.setTop (entryFrame m #[(.ref tl), (.ref r)] 2)) t := fun t k => castTop (ef_3 m tl r) k
  have K0 : Keep h0 h0 [tl] := Keep.refl h0 [tl]
  have pre14 : ∀ t, Steps p.tables e below (s₁.setTop (mkF m 1 #[rv tl, rv r] [(.ref r)])) t → Steps p.tables e below (s₁.setTop (entryFrame m #[(.ref tl), (.ref r)] 2)) t := fun t kt => by
    refine pre0 _ ?_
    show Steps p.tables e below (s₁.setTop (mkF m 0 #[rv tl, rv r] [])) _
    refine XS.aloadN X0.here hx rfl (hb hby d5_0) rfl rfl ?_
    exact kt
  obtain ⟨cq15, kq15, q15a, q15b, q15c⟩ := isOf hZ e0 (G0.ext O0.2)
  obtain ⟨_, _, ⟨T15, L15, k15, n15⟩, -, X15, ⟨Lc15, hQ15, l15, y15, z15⟩, st15⟩ := X0.virtualBackUp hx (x := (⟨"com/example/contexture/contexture/engine/evaluation/TruthValue", "ordinal", "()I"⟩ : MethodName)) (y := (⟨"java/lang/Enum", "ordinal", "()I"⟩ : MethodName)) (owner := "java/lang/Enum") hown (mvT hZ (W 37 rfl)) (mvT hZ (W 38 rfl)) (mvT hZ (W 39 rfl)) (by decide) (mvT hZ (W 41 rfl)) (mvT hZ (W 40 rfl)) (backOf (W := 0) (rm_ordinal6_0 l Z a0 hw [] r h0 n0 O0 G1) hZ (W 43 rfl) (W 42 rfl) (by decide) (by decide)) q15a q15c (g := (mkF m 1 #[rv tl, rv r] [(.ref r)])) rfl (by rw [hml]; rfl) (Steps.refl _) (argsL := []) (rest := []) (lenOf pd_6 rfl) rfl (by show 2 * 0 + _ ≤ _; exact Nat.le_of_eq rfl) (hb hby d5_1) (fun _ _ => ⟨rfl, e0, (by decide : 0 + 0 ≤ _), (by decide : 0 + 0 ≤ _)⟩)
  dsimp only [Pt.U, Pt.locs, Pt.cells, Pt.slots] at X15 l15 y15 z15 st15 hQ15
  replace l15 := l15.symm
  replace y15 : 0 = k15 := y15.symm
  replace z15 : 0 = n15 := z15.symm
  subst l15 y15 z15
  obtain ⟨rfl, M15, e15⟩ := hQ15
  have N15 := Fr.app N0 M15
  have pre25 : ∀ t, Steps p.tables e below (T15.setTop (mkF m 4 #[rv tl, rv r] [(.int (0 : Int32))])) t → Steps p.tables e below (s₁.setTop (entryFrame m #[(.ref tl), (.ref r)] 2)) t := fun t kt => pre14 _ (st15.trans kt)
  have pre26 : ∀ t, Steps p.tables e below (T15.setTop (mkF m 34 #[rv tl, rv r] [(.ref tl), (.ref tl)])) t → Steps p.tables e below (s₁.setTop (entryFrame m #[(.ref tl), (.ref r)] 2)) t := fun t kt => by
    refine pre25 _ ?_
    show Steps p.tables e below (T15.setTop (mkF m 4 #[rv tl, rv r] [(.int (0 : Int32))])) _
    refine XS.tswIn X15.here hx rfl (pc0 := 4) (pc' := 32) rfl (hb hby d5_4) rfl (by decide) (o := 28) (by decide) (by decide) (by decide) ?_
    refine XS.aloadN X15.here hx rfl (hb hby d5_32) rfl rfl ?_
    refine XS.dup X15.here hx rfl (hb hby d5_33) rfl rfl ?_
    exact kt
  obtain ⟨T27, X27, e27, st27⟩ := getF X15 hx hZ hown (host := "") (Or.inl (W 26 rfl)) Via.refl e15 Fi1 (g := (mkF m 34 #[rv tl, rv r] [(.ref tl), (.ref tl)])) rfl rfl (hb hby d5_34)
  have pre28 : ∀ t, Steps p.tables e below (T27.setTop (mkF m 37 #[rv tl, rv r] [(.int n1), (.ref tl)])) t → Steps p.tables e below (s₁.setTop (entryFrame m #[(.ref tl), (.ref r)] 2)) t := fun t kt => pre26 _ (st27 _ kt)
  have pre29 : ∀ t, Steps p.tables e below (T27.setTop (mkF m 39 #[rv tl, rv r] [(.int (n1 + (1 : Int32))), (.ref tl)])) t → Steps p.tables e below (s₁.setTop (entryFrame m #[(.ref tl), (.ref r)] 2)) t := fun t kt => by
    refine pre28 _ ?_
    show Steps p.tables e below (T27.setTop (mkF m 37 #[rv tl, rv r] [(.int n1), (.ref tl)])) _
    refine XS.iconst X27.here hx rfl (hb hby d5_37) ?_
    refine XS.iadd X27.here hx rfl (hb hby d5_38) rfl ?_
    exact kt
  obtain ⟨T30, h30, X30, e30, W30, st30⟩ := putF X27 hx hZ hown (host := "") (Or.inl (W 26 rfl)) Via.refl e27 Fi1 Fi0 (Or.inl (W 27 rfl)) (W 13 rfl) (ty := .int) (by decide) rfl rfl (g := (mkF m 39 #[rv tl, rv r] [(.int (n1 + (1 : Int32))), (.ref tl)])) rfl rfl (hb hby d5_39)
  have pre31 : ∀ t, Steps p.tables e below (T30.setTop (mkF m 42 #[rv tl, rv r] [])) t → Steps p.tables e below (s₁.setTop (entryFrame m #[(.ref tl), (.ref r)] 2)) t := fun t kt => pre29 _ (st30 _ kt)
  have N30 := Fr.snoc X30 N15 g_tl
  have O30 := O0.wr W30 g_tl
  have K30 : Keep h0 h30 [tl] := K0.wr W30 (Or.inl (List.mem_of_getElem? (i := 0) rfl))
  have F32 := Fi0.wr W30
  have F33 := Fi2.other W30 (Or.inr (slot_ne (Or.inl (W 29 rfl)) (Or.inl (W 27 rfl)) (by decide) (t := .int) (t' := .int) (by decide) (by decide)))
  have F34 := Fi3.other W30 (Or.inr (slot_ne (Or.inl (W 31 rfl)) (Or.inl (W 27 rfl)) (by decide) (t := .int) (t' := .int) (by decide) (by decide)))
  have F35 : Fld Z h30 tl "com/example/contexture/contexture/engine/evaluation/TruthValue$Tally" "trues" "I" (.int (n1 + (1 : Int32))) := Fi1.same W30
  have pre36 : ∀ t, Steps p.tables e below (T30.setTop (mkF m 68 #[rv tl, rv r] [])) t → Steps p.tables e below (s₁.setTop (entryFrame m #[(.ref tl), (.ref r)] 2)) t := fun t kt => by
    refine pre31 _ ?_
    show Steps p.tables e below (T30.setTop (mkF m 42 #[rv tl, rv r] [])) _
    refine XS.goto X30.here hx rfl (pc0 := 42) (pc' := 68) rfl (hb hby d5_42) (by decide) (by decide) ?_
    exact kt
  obtain ⟨fs, hr, hrun, hended, hW, hsame⟩ := X30.leave (v := none) (fun _ => rfl)
  refine ⟨_, _, pre36 _ (X30.returnOut hx Bd.returns (hb hby d5_68) hr), hrun, hended, _, _, rfl, ?_, ⟨_, rfl⟩, hW, hsame.mono (by decide) (by decide)⟩
  show Q_add0 Z tl r n1 n2 n3 h0 n0 _ T30.heap _
  rw [e30]
  exact ⟨rfl, N30, K30, O30, F32, F35, F33, F34⟩
def Q_ordinal6_1 (Z : State) (r : Addr) (h0 : Heap) (n0 : Nat) (v : Option Value) (h : Heap) (L : List Loc) : Prop := v = some (.int (1 : Int32)) ∧ Fr n0 L ∧ h = h0
set_option maxRecDepth 65536 in
set_option maxHeartbeats 40000000 in
theorem rm_ordinal6_1 (l : Launch) (Z : State) (a0 : Array Value) (hw : ∀ d ∈ tables_1, d.before a0 Z = true) (ws : List Jvm.Cond) (r : Addr) (h0 : Heap) (n0 : Nat) (O0 : Old Z n0 h0) (G0 : Fld Z Z.heap r "java/lang/Enum" "ordinal" "I" (.int (1 : Int32))) :
    MetFree l (⟨"java/lang/Enum", "ordinal", "()I"⟩ : MethodName) (head1 (Jvm.Cond.code (⟨"java/lang/Enum", "ordinal", "()I"⟩ : MethodName) jdk_37_method_2_code 1 (some .int) :: ws) ({ frames := 0, cells := 0, slots := 0, locals := 0 } : Room)) (fun a U => a = #[(.ref r)] ∧ Z.Warmed39 U.vm ∧ U.heap = h0) (fun _ _ _ _ _ => True) (fun _ U o U' => ∃ v L, o = .returned v ∧ Q_ordinal6_1 Z r h0 n0 v U'.heap L ∧ FrameEnd U o U' L ({ frames := 0, cells := 0, slots := 0, locals := 0 } : Room).cells ({ frames := 0, cells := 0, slots := 0, locals := 0 } : Room).slots) := by
  refine MetFree.of_bodySF (plainFor_of_name pn_4) hisR ?_
  intro p e s m args below meth c s₁ Bd hml0 hP hK
  have W := fun {d : Jvm.Cond} (i : Nat) (q : tables_1[i]? = some d) => hw d (List.mem_of_getElem? q)
  obtain ⟨rfl, hZ, hh⟩ := hP
  have hx := Bd.exec
  have hby := Bd.bytes
  have hml : c.maxLocals = 1 := hml0
  have hown : s.vm.findClass "java/lang/Enum" = some m.cls := findClass_of_methodNamed Bd.named
  have hnm := (name_of_methodNamed Bd.named Bd.method).1
  have X0 : Stand p l e ({ frames := 0, cells := 0, slots := 0, locals := 0 } : Room) s m #[(.ref r)] below meth c s₁ [] 0 0 := Stand.of_body Bd
  have e0 : s₁.heap = h0 := by rw [← hh, Bd.state]; rfl
  have N0 := Fr.nil n0
  have pre0 : ∀ t, Steps p.tables e below (s₁.setTop (mkF m 0 #[rv r] [])) t → Steps p.tables e below (s₁.setTop (entryFrame m #[(.ref r)] 1)) t := fun t k => castTop (ef_5 m r) k
  have K0 : Keep h0 h0 [] := Keep.refl h0 []
  have pre45 : ∀ t, Steps p.tables e below (s₁.setTop (mkF m 1 #[rv r] [(.ref r)])) t → Steps p.tables e below (s₁.setTop (entryFrame m #[(.ref r)] 1)) t := fun t kt => by
    refine pre0 _ ?_
    show Steps p.tables e below (s₁.setTop (mkF m 0 #[rv r] [])) _
    refine XS.aloadN X0.here hx rfl (hb hby d6_0) rfl rfl ?_
    exact kt
  obtain ⟨T46, X46, e46, st46⟩ := getF X0 hx hZ hown (host := "") (Or.inl (W 44 rfl)) Via.refl e0 (G0.ext O0.2) (g := (mkF m 1 #[rv r] [(.ref r)])) rfl rfl (hb hby d6_1)
  have pre47 : ∀ t, Steps p.tables e below (T46.setTop (mkF m 4 #[rv r] [(.int (1 : Int32))])) t → Steps p.tables e below (s₁.setTop (entryFrame m #[(.ref r)] 1)) t := fun t kt => pre45 _ (st46 _ kt)
  obtain ⟨fs, hr, hrun, hended, hW, hsame⟩ := X46.leave (v := some (.int (1 : Int32))) (fun h => by rw [Bd.returns] at h; cases h)
  refine ⟨_, _, pre47 _ (retI X46 hx Bd.returns (hb hby d6_4) hr), hrun, hended, _, _, rfl, ?_, ⟨_, rfl⟩, hW, hsame.mono (by decide) (by decide)⟩
  show Q_ordinal6_1 Z r h0 n0 _ T46.heap _
  rw [e46]
  exact ⟨rfl, N0, rfl⟩
theorem d5_45 : decode prog_17_method_2_code 45 = .ok (.aload_n 0, 1) := by decide +kernel
theorem d5_46 : decode prog_17_method_2_code 46 = .ok (.dup, 1) := by decide +kernel
theorem d5_47 : decode prog_17_method_2_code 47 = .ok (.getfield 19, 3) := by decide +kernel
theorem d5_50 : decode prog_17_method_2_code 50 = .ok (.iconst 1, 1) := by decide +kernel
theorem d5_51 : decode prog_17_method_2_code 51 = .ok (.iadd, 1) := by decide +kernel
theorem d5_52 : decode prog_17_method_2_code 52 = .ok (.putfield 19, 3) := by decide +kernel
theorem d5_55 : decode prog_17_method_2_code 55 = .ok (.goto 13, 3) := by decide +kernel
def Q_add1 (Z : State) (tl : Addr) (r : Addr) (n1 : Int32) (n2 : Int32) (n3 : Int32) (h0 : Heap) (n0 : Nat) (v : Option Value) (h : Heap) (L : List Loc) : Prop := v = none ∧ Fr n0 L ∧ Keep h0 h [tl] ∧ Old Z n0 h ∧ Exa Z h tl "com/example/contexture/contexture/engine/evaluation/TruthValue$Tally" ∧ Fld Z h tl "com/example/contexture/contexture/engine/evaluation/TruthValue$Tally" "trues" "I" (.int n1) ∧ Fld Z h tl "com/example/contexture/contexture/engine/evaluation/TruthValue$Tally" "falses" "I" (.int (n2 + (1 : Int32))) ∧ Fld Z h tl "com/example/contexture/contexture/engine/evaluation/TruthValue$Tally" "unknowns" "I" (.int n3)
set_option maxRecDepth 65536 in
set_option maxHeartbeats 40000000 in
theorem rm_add1 (l : Launch) (Z : State) (a0 : Array Value) (hw : ∀ d ∈ tables_1, d.before a0 Z = true) (ws : List Jvm.Cond) (tl : Addr) (r : Addr) (n1 : Int32) (n2 : Int32) (n3 : Int32) (h0 : Heap) (n0 : Nat) (O0 : Old Z n0 h0) (G0 : Exa Z Z.heap r "com/example/contexture/contexture/engine/evaluation/TruthValue") (G1 : Fld Z Z.heap r "java/lang/Enum" "ordinal" "I" (.int (1 : Int32))) (g_tl : n0 ≤ tl) (Fi0 : Exa Z h0 tl "com/example/contexture/contexture/engine/evaluation/TruthValue$Tally") (Fi1 : Fld Z h0 tl "com/example/contexture/contexture/engine/evaluation/TruthValue$Tally" "trues" "I" (.int n1)) (Fi2 : Fld Z h0 tl "com/example/contexture/contexture/engine/evaluation/TruthValue$Tally" "falses" "I" (.int n2)) (Fi3 : Fld Z h0 tl "com/example/contexture/contexture/engine/evaluation/TruthValue$Tally" "unknowns" "I" (.int n3)) :
    MetFree l (⟨"com/example/contexture/contexture/engine/evaluation/TruthValue$Tally", "add", "(Lcom/example/contexture/contexture/engine/evaluation/TruthValue;)V"⟩ : MethodName) (head1 (Jvm.Cond.code (⟨"com/example/contexture/contexture/engine/evaluation/TruthValue$Tally", "add", "(Lcom/example/contexture/contexture/engine/evaluation/TruthValue;)V"⟩ : MethodName) prog_17_method_2_code 2 none :: ws) ({ frames := 1, cells := 0, slots := 0, locals := 12 } : Room)) (fun a U => a = #[(.ref tl), (.ref r)] ∧ Z.Warmed39 U.vm ∧ U.heap = h0) (fun _ _ _ _ _ => True) (fun _ U o U' => ∃ v L, o = .returned v ∧ Q_add1 Z tl r n1 n2 n3 h0 n0 v U'.heap L ∧ FrameEnd U o U' L ({ frames := 1, cells := 0, slots := 0, locals := 12 } : Room).cells ({ frames := 1, cells := 0, slots := 0, locals := 12 } : Room).slots) := by
  refine MetFree.of_bodySF (plainFor_of_name pn_2) hisR ?_
  intro p e s m args below meth c s₁ Bd hml0 hP hK
  have W := fun {d : Jvm.Cond} (i : Nat) (q : tables_1[i]? = some d) => hw d (List.mem_of_getElem? q)
  obtain ⟨rfl, hZ, hh⟩ := hP
  have hx := Bd.exec
  have hby := Bd.bytes
  have hml : c.maxLocals = 2 := hml0
  have hown : s.vm.findClass "com/example/contexture/contexture/engine/evaluation/TruthValue$Tally" = some m.cls := findClass_of_methodNamed Bd.named
  have hnm := (name_of_methodNamed Bd.named Bd.method).1
  have X0 : Stand p l e ({ frames := 1, cells := 0, slots := 0, locals := 12 } : Room) s m #[(.ref tl), (.ref r)] below meth c s₁ [] 0 0 := Stand.of_body Bd
  have e0 : s₁.heap = h0 := by rw [← hh, Bd.state]; rfl
  have N0 := Fr.nil n0
  have pre0 : ∀ t, Steps p.tables e below (s₁.setTop (mkF m 0 #[rv tl, rv r] [])) t → Steps p.tables e below (s₁.setTop (entryFrame m #[(.ref tl), (.ref r)] 2)) t := fun t k => castTop (ef_3 m tl r) k
  have K0 : Keep h0 h0 [tl] := Keep.refl h0 [tl]
  have pre37 : ∀ t, Steps p.tables e below (s₁.setTop (mkF m 1 #[rv tl, rv r] [(.ref r)])) t → Steps p.tables e below (s₁.setTop (entryFrame m #[(.ref tl), (.ref r)] 2)) t := fun t kt => by
    refine pre0 _ ?_
    show Steps p.tables e below (s₁.setTop (mkF m 0 #[rv tl, rv r] [])) _
    refine XS.aloadN X0.here hx rfl (hb hby d5_0) rfl rfl ?_
    exact kt
  obtain ⟨cq38, kq38, q38a, q38b, q38c⟩ := isOf hZ e0 (G0.ext O0.2)
  obtain ⟨_, _, ⟨T38, L38, k38, n38⟩, -, X38, ⟨Lc38, hQ38, l38, y38, z38⟩, st38⟩ := X0.virtualBackUp hx (x := (⟨"com/example/contexture/contexture/engine/evaluation/TruthValue", "ordinal", "()I"⟩ : MethodName)) (y := (⟨"java/lang/Enum", "ordinal", "()I"⟩ : MethodName)) (owner := "java/lang/Enum") hown (mvT hZ (W 37 rfl)) (mvT hZ (W 38 rfl)) (mvT hZ (W 39 rfl)) (by decide) (mvT hZ (W 41 rfl)) (mvT hZ (W 40 rfl)) (backOf (W := 0) (rm_ordinal6_1 l Z a0 hw [] r h0 n0 O0 G1) hZ (W 43 rfl) (W 42 rfl) (by decide) (by decide)) q38a q38c (g := (mkF m 1 #[rv tl, rv r] [(.ref r)])) rfl (by rw [hml]; rfl) (Steps.refl _) (argsL := []) (rest := []) (lenOf pd_6 rfl) rfl (by show 2 * 0 + _ ≤ _; exact Nat.le_of_eq rfl) (hb hby d5_1) (fun _ _ => ⟨rfl, e0, (by decide : 0 + 0 ≤ _), (by decide : 0 + 0 ≤ _)⟩)
  dsimp only [Pt.U, Pt.locs, Pt.cells, Pt.slots] at X38 l38 y38 z38 st38 hQ38
  replace l38 := l38.symm
  replace y38 : 0 = k38 := y38.symm
  replace z38 : 0 = n38 := z38.symm
  subst l38 y38 z38
  obtain ⟨rfl, M38, e38⟩ := hQ38
  have N38 := Fr.app N0 M38
  have pre48 : ∀ t, Steps p.tables e below (T38.setTop (mkF m 4 #[rv tl, rv r] [(.int (1 : Int32))])) t → Steps p.tables e below (s₁.setTop (entryFrame m #[(.ref tl), (.ref r)] 2)) t := fun t kt => pre37 _ (st38.trans kt)
  have pre49 : ∀ t, Steps p.tables e below (T38.setTop (mkF m 47 #[rv tl, rv r] [(.ref tl), (.ref tl)])) t → Steps p.tables e below (s₁.setTop (entryFrame m #[(.ref tl), (.ref r)] 2)) t := fun t kt => by
    refine pre48 _ ?_
    show Steps p.tables e below (T38.setTop (mkF m 4 #[rv tl, rv r] [(.int (1 : Int32))])) _
    refine XS.tswIn X38.here hx rfl (pc0 := 4) (pc' := 45) rfl (hb hby d5_4) rfl (by decide) (o := 41) (by decide) (by decide) (by decide) ?_
    refine XS.aloadN X38.here hx rfl (hb hby d5_45) rfl rfl ?_
    refine XS.dup X38.here hx rfl (hb hby d5_46) rfl rfl ?_
    exact kt
  obtain ⟨T50, X50, e50, st50⟩ := getF X38 hx hZ hown (host := "") (Or.inl (W 28 rfl)) Via.refl e38 Fi2 (g := (mkF m 47 #[rv tl, rv r] [(.ref tl), (.ref tl)])) rfl rfl (hb hby d5_47)
  have pre51 : ∀ t, Steps p.tables e below (T50.setTop (mkF m 50 #[rv tl, rv r] [(.int n2), (.ref tl)])) t → Steps p.tables e below (s₁.setTop (entryFrame m #[(.ref tl), (.ref r)] 2)) t := fun t kt => pre49 _ (st50 _ kt)
  have pre52 : ∀ t, Steps p.tables e below (T50.setTop (mkF m 52 #[rv tl, rv r] [(.int (n2 + (1 : Int32))), (.ref tl)])) t → Steps p.tables e below (s₁.setTop (entryFrame m #[(.ref tl), (.ref r)] 2)) t := fun t kt => by
    refine pre51 _ ?_
    show Steps p.tables e below (T50.setTop (mkF m 50 #[rv tl, rv r] [(.int n2), (.ref tl)])) _
    refine XS.iconst X50.here hx rfl (hb hby d5_50) ?_
    refine XS.iadd X50.here hx rfl (hb hby d5_51) rfl ?_
    exact kt
  obtain ⟨T53, h53, X53, e53, W53, st53⟩ := putF X50 hx hZ hown (host := "") (Or.inl (W 28 rfl)) Via.refl e50 Fi2 Fi0 (Or.inl (W 29 rfl)) (W 13 rfl) (ty := .int) (by decide) rfl rfl (g := (mkF m 52 #[rv tl, rv r] [(.int (n2 + (1 : Int32))), (.ref tl)])) rfl rfl (hb hby d5_52)
  have pre54 : ∀ t, Steps p.tables e below (T53.setTop (mkF m 55 #[rv tl, rv r] [])) t → Steps p.tables e below (s₁.setTop (entryFrame m #[(.ref tl), (.ref r)] 2)) t := fun t kt => pre52 _ (st53 _ kt)
  have N53 := Fr.snoc X53 N38 g_tl
  have O53 := O0.wr W53 g_tl
  have K53 : Keep h0 h53 [tl] := K0.wr W53 (Or.inl (List.mem_of_getElem? (i := 0) rfl))
  have F55 := Fi0.wr W53
  have F56 := Fi1.other W53 (Or.inr (slot_ne (Or.inl (W 27 rfl)) (Or.inl (W 29 rfl)) (by decide) (t := .int) (t' := .int) (by decide) (by decide)))
  have F57 := Fi3.other W53 (Or.inr (slot_ne (Or.inl (W 31 rfl)) (Or.inl (W 29 rfl)) (by decide) (t := .int) (t' := .int) (by decide) (by decide)))
  have F58 : Fld Z h53 tl "com/example/contexture/contexture/engine/evaluation/TruthValue$Tally" "falses" "I" (.int (n2 + (1 : Int32))) := Fi2.same W53
  have pre59 : ∀ t, Steps p.tables e below (T53.setTop (mkF m 68 #[rv tl, rv r] [])) t → Steps p.tables e below (s₁.setTop (entryFrame m #[(.ref tl), (.ref r)] 2)) t := fun t kt => by
    refine pre54 _ ?_
    show Steps p.tables e below (T53.setTop (mkF m 55 #[rv tl, rv r] [])) _
    refine XS.goto X53.here hx rfl (pc0 := 55) (pc' := 68) rfl (hb hby d5_55) (by decide) (by decide) ?_
    exact kt
  obtain ⟨fs, hr, hrun, hended, hW, hsame⟩ := X53.leave (v := none) (fun _ => rfl)
  refine ⟨_, _, pre59 _ (X53.returnOut hx Bd.returns (hb hby d5_68) hr), hrun, hended, _, _, rfl, ?_, ⟨_, rfl⟩, hW, hsame.mono (by decide) (by decide)⟩
  show Q_add1 Z tl r n1 n2 n3 h0 n0 _ T53.heap _
  rw [e53]
  exact ⟨rfl, N53, K53, O53, F55, F56, F58, F57⟩
def Q_ordinal6_2 (Z : State) (r : Addr) (h0 : Heap) (n0 : Nat) (v : Option Value) (h : Heap) (L : List Loc) : Prop := v = some (.int (2 : Int32)) ∧ Fr n0 L ∧ h = h0
set_option maxRecDepth 65536 in
set_option maxHeartbeats 40000000 in
theorem rm_ordinal6_2 (l : Launch) (Z : State) (a0 : Array Value) (hw : ∀ d ∈ tables_1, d.before a0 Z = true) (ws : List Jvm.Cond) (r : Addr) (h0 : Heap) (n0 : Nat) (O0 : Old Z n0 h0) (G0 : Fld Z Z.heap r "java/lang/Enum" "ordinal" "I" (.int (2 : Int32))) :
    MetFree l (⟨"java/lang/Enum", "ordinal", "()I"⟩ : MethodName) (head1 (Jvm.Cond.code (⟨"java/lang/Enum", "ordinal", "()I"⟩ : MethodName) jdk_37_method_2_code 1 (some .int) :: ws) ({ frames := 0, cells := 0, slots := 0, locals := 0 } : Room)) (fun a U => a = #[(.ref r)] ∧ Z.Warmed39 U.vm ∧ U.heap = h0) (fun _ _ _ _ _ => True) (fun _ U o U' => ∃ v L, o = .returned v ∧ Q_ordinal6_2 Z r h0 n0 v U'.heap L ∧ FrameEnd U o U' L ({ frames := 0, cells := 0, slots := 0, locals := 0 } : Room).cells ({ frames := 0, cells := 0, slots := 0, locals := 0 } : Room).slots) := by
  refine MetFree.of_bodySF (plainFor_of_name pn_4) hisR ?_
  intro p e s m args below meth c s₁ Bd hml0 hP hK
  have W := fun {d : Jvm.Cond} (i : Nat) (q : tables_1[i]? = some d) => hw d (List.mem_of_getElem? q)
  obtain ⟨rfl, hZ, hh⟩ := hP
  have hx := Bd.exec
  have hby := Bd.bytes
  have hml : c.maxLocals = 1 := hml0
  have hown : s.vm.findClass "java/lang/Enum" = some m.cls := findClass_of_methodNamed Bd.named
  have hnm := (name_of_methodNamed Bd.named Bd.method).1
  have X0 : Stand p l e ({ frames := 0, cells := 0, slots := 0, locals := 0 } : Room) s m #[(.ref r)] below meth c s₁ [] 0 0 := Stand.of_body Bd
  have e0 : s₁.heap = h0 := by rw [← hh, Bd.state]; rfl
  have N0 := Fr.nil n0
  have pre0 : ∀ t, Steps p.tables e below (s₁.setTop (mkF m 0 #[rv r] [])) t → Steps p.tables e below (s₁.setTop (entryFrame m #[(.ref r)] 1)) t := fun t k => castTop (ef_5 m r) k
  have K0 : Keep h0 h0 [] := Keep.refl h0 []
  have pre68 : ∀ t, Steps p.tables e below (s₁.setTop (mkF m 1 #[rv r] [(.ref r)])) t → Steps p.tables e below (s₁.setTop (entryFrame m #[(.ref r)] 1)) t := fun t kt => by
    refine pre0 _ ?_
    show Steps p.tables e below (s₁.setTop (mkF m 0 #[rv r] [])) _
    refine XS.aloadN X0.here hx rfl (hb hby d6_0) rfl rfl ?_
    exact kt
  obtain ⟨T69, X69, e69, st69⟩ := getF X0 hx hZ hown (host := "") (Or.inl (W 44 rfl)) Via.refl e0 (G0.ext O0.2) (g := (mkF m 1 #[rv r] [(.ref r)])) rfl rfl (hb hby d6_1)
  have pre70 : ∀ t, Steps p.tables e below (T69.setTop (mkF m 4 #[rv r] [(.int (2 : Int32))])) t → Steps p.tables e below (s₁.setTop (entryFrame m #[(.ref r)] 1)) t := fun t kt => pre68 _ (st69 _ kt)
  obtain ⟨fs, hr, hrun, hended, hW, hsame⟩ := X69.leave (v := some (.int (2 : Int32))) (fun h => by rw [Bd.returns] at h; cases h)
  refine ⟨_, _, pre70 _ (retI X69 hx Bd.returns (hb hby d6_4) hr), hrun, hended, _, _, rfl, ?_, ⟨_, rfl⟩, hW, hsame.mono (by decide) (by decide)⟩
  show Q_ordinal6_2 Z r h0 n0 _ T69.heap _
  rw [e69]
  exact ⟨rfl, N0, rfl⟩
theorem d5_58 : decode prog_17_method_2_code 58 = .ok (.aload_n 0, 1) := by decide +kernel
theorem d5_59 : decode prog_17_method_2_code 59 = .ok (.dup, 1) := by decide +kernel
theorem d5_60 : decode prog_17_method_2_code 60 = .ok (.getfield 22, 3) := by decide +kernel
theorem d5_63 : decode prog_17_method_2_code 63 = .ok (.iconst 1, 1) := by decide +kernel
theorem d5_64 : decode prog_17_method_2_code 64 = .ok (.iadd, 1) := by decide +kernel
theorem d5_65 : decode prog_17_method_2_code 65 = .ok (.putfield 22, 3) := by decide +kernel
def Q_add2 (Z : State) (tl : Addr) (r : Addr) (n1 : Int32) (n2 : Int32) (n3 : Int32) (h0 : Heap) (n0 : Nat) (v : Option Value) (h : Heap) (L : List Loc) : Prop := v = none ∧ Fr n0 L ∧ Keep h0 h [tl] ∧ Old Z n0 h ∧ Exa Z h tl "com/example/contexture/contexture/engine/evaluation/TruthValue$Tally" ∧ Fld Z h tl "com/example/contexture/contexture/engine/evaluation/TruthValue$Tally" "trues" "I" (.int n1) ∧ Fld Z h tl "com/example/contexture/contexture/engine/evaluation/TruthValue$Tally" "falses" "I" (.int n2) ∧ Fld Z h tl "com/example/contexture/contexture/engine/evaluation/TruthValue$Tally" "unknowns" "I" (.int (n3 + (1 : Int32)))
set_option maxRecDepth 65536 in
set_option maxHeartbeats 40000000 in
theorem rm_add2 (l : Launch) (Z : State) (a0 : Array Value) (hw : ∀ d ∈ tables_1, d.before a0 Z = true) (ws : List Jvm.Cond) (tl : Addr) (r : Addr) (n1 : Int32) (n2 : Int32) (n3 : Int32) (h0 : Heap) (n0 : Nat) (O0 : Old Z n0 h0) (G0 : Exa Z Z.heap r "com/example/contexture/contexture/engine/evaluation/TruthValue") (G1 : Fld Z Z.heap r "java/lang/Enum" "ordinal" "I" (.int (2 : Int32))) (g_tl : n0 ≤ tl) (Fi0 : Exa Z h0 tl "com/example/contexture/contexture/engine/evaluation/TruthValue$Tally") (Fi1 : Fld Z h0 tl "com/example/contexture/contexture/engine/evaluation/TruthValue$Tally" "trues" "I" (.int n1)) (Fi2 : Fld Z h0 tl "com/example/contexture/contexture/engine/evaluation/TruthValue$Tally" "falses" "I" (.int n2)) (Fi3 : Fld Z h0 tl "com/example/contexture/contexture/engine/evaluation/TruthValue$Tally" "unknowns" "I" (.int n3)) :
    MetFree l (⟨"com/example/contexture/contexture/engine/evaluation/TruthValue$Tally", "add", "(Lcom/example/contexture/contexture/engine/evaluation/TruthValue;)V"⟩ : MethodName) (head1 (Jvm.Cond.code (⟨"com/example/contexture/contexture/engine/evaluation/TruthValue$Tally", "add", "(Lcom/example/contexture/contexture/engine/evaluation/TruthValue;)V"⟩ : MethodName) prog_17_method_2_code 2 none :: ws) ({ frames := 1, cells := 0, slots := 0, locals := 12 } : Room)) (fun a U => a = #[(.ref tl), (.ref r)] ∧ Z.Warmed39 U.vm ∧ U.heap = h0) (fun _ _ _ _ _ => True) (fun _ U o U' => ∃ v L, o = .returned v ∧ Q_add2 Z tl r n1 n2 n3 h0 n0 v U'.heap L ∧ FrameEnd U o U' L ({ frames := 1, cells := 0, slots := 0, locals := 12 } : Room).cells ({ frames := 1, cells := 0, slots := 0, locals := 12 } : Room).slots) := by
  refine MetFree.of_bodySF (plainFor_of_name pn_2) hisR ?_
  intro p e s m args below meth c s₁ Bd hml0 hP hK
  have W := fun {d : Jvm.Cond} (i : Nat) (q : tables_1[i]? = some d) => hw d (List.mem_of_getElem? q)
  obtain ⟨rfl, hZ, hh⟩ := hP
  have hx := Bd.exec
  have hby := Bd.bytes
  have hml : c.maxLocals = 2 := hml0
  have hown : s.vm.findClass "com/example/contexture/contexture/engine/evaluation/TruthValue$Tally" = some m.cls := findClass_of_methodNamed Bd.named
  have hnm := (name_of_methodNamed Bd.named Bd.method).1
  have X0 : Stand p l e ({ frames := 1, cells := 0, slots := 0, locals := 12 } : Room) s m #[(.ref tl), (.ref r)] below meth c s₁ [] 0 0 := Stand.of_body Bd
  have e0 : s₁.heap = h0 := by rw [← hh, Bd.state]; rfl
  have N0 := Fr.nil n0
  have pre0 : ∀ t, Steps p.tables e below (s₁.setTop (mkF m 0 #[rv tl, rv r] [])) t → Steps p.tables e below (s₁.setTop (entryFrame m #[(.ref tl), (.ref r)] 2)) t := fun t k => castTop (ef_3 m tl r) k
  have K0 : Keep h0 h0 [tl] := Keep.refl h0 [tl]
  have pre60 : ∀ t, Steps p.tables e below (s₁.setTop (mkF m 1 #[rv tl, rv r] [(.ref r)])) t → Steps p.tables e below (s₁.setTop (entryFrame m #[(.ref tl), (.ref r)] 2)) t := fun t kt => by
    refine pre0 _ ?_
    show Steps p.tables e below (s₁.setTop (mkF m 0 #[rv tl, rv r] [])) _
    refine XS.aloadN X0.here hx rfl (hb hby d5_0) rfl rfl ?_
    exact kt
  obtain ⟨cq61, kq61, q61a, q61b, q61c⟩ := isOf hZ e0 (G0.ext O0.2)
  obtain ⟨_, _, ⟨T61, L61, k61, n61⟩, -, X61, ⟨Lc61, hQ61, l61, y61, z61⟩, st61⟩ := X0.virtualBackUp hx (x := (⟨"com/example/contexture/contexture/engine/evaluation/TruthValue", "ordinal", "()I"⟩ : MethodName)) (y := (⟨"java/lang/Enum", "ordinal", "()I"⟩ : MethodName)) (owner := "java/lang/Enum") hown (mvT hZ (W 37 rfl)) (mvT hZ (W 38 rfl)) (mvT hZ (W 39 rfl)) (by decide) (mvT hZ (W 41 rfl)) (mvT hZ (W 40 rfl)) (backOf (W := 0) (rm_ordinal6_2 l Z a0 hw [] r h0 n0 O0 G1) hZ (W 43 rfl) (W 42 rfl) (by decide) (by decide)) q61a q61c (g := (mkF m 1 #[rv tl, rv r] [(.ref r)])) rfl (by rw [hml]; rfl) (Steps.refl _) (argsL := []) (rest := []) (lenOf pd_6 rfl) rfl (by show 2 * 0 + _ ≤ _; exact Nat.le_of_eq rfl) (hb hby d5_1) (fun _ _ => ⟨rfl, e0, (by decide : 0 + 0 ≤ _), (by decide : 0 + 0 ≤ _)⟩)
  dsimp only [Pt.U, Pt.locs, Pt.cells, Pt.slots] at X61 l61 y61 z61 st61 hQ61
  replace l61 := l61.symm
  replace y61 : 0 = k61 := y61.symm
  replace z61 : 0 = n61 := z61.symm
  subst l61 y61 z61
  obtain ⟨rfl, M61, e61⟩ := hQ61
  have N61 := Fr.app N0 M61
  have pre71 : ∀ t, Steps p.tables e below (T61.setTop (mkF m 4 #[rv tl, rv r] [(.int (2 : Int32))])) t → Steps p.tables e below (s₁.setTop (entryFrame m #[(.ref tl), (.ref r)] 2)) t := fun t kt => pre60 _ (st61.trans kt)
  have pre72 : ∀ t, Steps p.tables e below (T61.setTop (mkF m 60 #[rv tl, rv r] [(.ref tl), (.ref tl)])) t → Steps p.tables e below (s₁.setTop (entryFrame m #[(.ref tl), (.ref r)] 2)) t := fun t kt => by
    refine pre71 _ ?_
    show Steps p.tables e below (T61.setTop (mkF m 4 #[rv tl, rv r] [(.int (2 : Int32))])) _
    refine XS.tswIn X61.here hx rfl (pc0 := 4) (pc' := 58) rfl (hb hby d5_4) rfl (by decide) (o := 54) (by decide) (by decide) (by decide) ?_
    refine XS.aloadN X61.here hx rfl (hb hby d5_58) rfl rfl ?_
    refine XS.dup X61.here hx rfl (hb hby d5_59) rfl rfl ?_
    exact kt
  obtain ⟨T73, X73, e73, st73⟩ := getF X61 hx hZ hown (host := "") (Or.inl (W 30 rfl)) Via.refl e61 Fi3 (g := (mkF m 60 #[rv tl, rv r] [(.ref tl), (.ref tl)])) rfl rfl (hb hby d5_60)
  have pre74 : ∀ t, Steps p.tables e below (T73.setTop (mkF m 63 #[rv tl, rv r] [(.int n3), (.ref tl)])) t → Steps p.tables e below (s₁.setTop (entryFrame m #[(.ref tl), (.ref r)] 2)) t := fun t kt => pre72 _ (st73 _ kt)
  have pre75 : ∀ t, Steps p.tables e below (T73.setTop (mkF m 65 #[rv tl, rv r] [(.int (n3 + (1 : Int32))), (.ref tl)])) t → Steps p.tables e below (s₁.setTop (entryFrame m #[(.ref tl), (.ref r)] 2)) t := fun t kt => by
    refine pre74 _ ?_
    show Steps p.tables e below (T73.setTop (mkF m 63 #[rv tl, rv r] [(.int n3), (.ref tl)])) _
    refine XS.iconst X73.here hx rfl (hb hby d5_63) ?_
    refine XS.iadd X73.here hx rfl (hb hby d5_64) rfl ?_
    exact kt
  obtain ⟨T76, h76, X76, e76, W76, st76⟩ := putF X73 hx hZ hown (host := "") (Or.inl (W 30 rfl)) Via.refl e73 Fi3 Fi0 (Or.inl (W 31 rfl)) (W 13 rfl) (ty := .int) (by decide) rfl rfl (g := (mkF m 65 #[rv tl, rv r] [(.int (n3 + (1 : Int32))), (.ref tl)])) rfl rfl (hb hby d5_65)
  have pre77 : ∀ t, Steps p.tables e below (T76.setTop (mkF m 68 #[rv tl, rv r] [])) t → Steps p.tables e below (s₁.setTop (entryFrame m #[(.ref tl), (.ref r)] 2)) t := fun t kt => pre75 _ (st76 _ kt)
  have N76 := Fr.snoc X76 N61 g_tl
  have O76 := O0.wr W76 g_tl
  have K76 : Keep h0 h76 [tl] := K0.wr W76 (Or.inl (List.mem_of_getElem? (i := 0) rfl))
  have F78 := Fi0.wr W76
  have F79 := Fi1.other W76 (Or.inr (slot_ne (Or.inl (W 27 rfl)) (Or.inl (W 31 rfl)) (by decide) (t := .int) (t' := .int) (by decide) (by decide)))
  have F80 := Fi2.other W76 (Or.inr (slot_ne (Or.inl (W 29 rfl)) (Or.inl (W 31 rfl)) (by decide) (t := .int) (t' := .int) (by decide) (by decide)))
  have F81 : Fld Z h76 tl "com/example/contexture/contexture/engine/evaluation/TruthValue$Tally" "unknowns" "I" (.int (n3 + (1 : Int32))) := Fi3.same W76
  obtain ⟨fs, hr, hrun, hended, hW, hsame⟩ := X76.leave (v := none) (fun _ => rfl)
  refine ⟨_, _, pre77 _ (X76.returnOut hx Bd.returns (hb hby d5_68) hr), hrun, hended, _, _, rfl, ?_, ⟨_, rfl⟩, hW, hsame.mono (by decide) (by decide)⟩
  show Q_add2 Z tl r n1 n2 n3 h0 n0 _ T76.heap _
  rw [e76]
  exact ⟨rfl, N76, K76, O76, F78, F79, F80, F81⟩
theorem ef_7 (m : MethodId) (x0 : Addr) : entryFrame m #[(.ref x0)] 1 = mkF m 0 #[.val (.ref x0)] [] := by first | (simp [entryFrame, mkF, argsToLocals, Value.category]; done) | rfl
theorem d4_0 : decode prog_17_method_3_code 0 = .ok (.aload_n 0, 1) := by decide +kernel
theorem d4_1 : decode prog_17_method_3_code 1 = .ok (.iconst 0, 1) := by decide +kernel
theorem d4_2 : decode prog_17_method_3_code 2 = .ok (.putfield 13, 3) := by decide +kernel
theorem d4_5 : decode prog_17_method_3_code 5 = .ok (.aload_n 0, 1) := by decide +kernel
theorem d4_6 : decode prog_17_method_3_code 6 = .ok (.iconst 0, 1) := by decide +kernel
theorem d4_7 : decode prog_17_method_3_code 7 = .ok (.putfield 19, 3) := by decide +kernel
theorem d4_10 : decode prog_17_method_3_code 10 = .ok (.aload_n 0, 1) := by decide +kernel
theorem d4_11 : decode prog_17_method_3_code 11 = .ok (.iconst 0, 1) := by decide +kernel
theorem d4_12 : decode prog_17_method_3_code 12 = .ok (.putfield 22, 3) := by decide +kernel
theorem d4_15 : decode prog_17_method_3_code 15 = .ok (.return_, 1) := by decide +kernel
def Q_clear (Z : State) (tl : Addr) (n1 : Int32) (n2 : Int32) (n3 : Int32) (h0 : Heap) (n0 : Nat) (v : Option Value) (h : Heap) (L : List Loc) : Prop := v = none ∧ Fr n0 L ∧ Keep h0 h [tl] ∧ Old Z n0 h ∧ Exa Z h tl "com/example/contexture/contexture/engine/evaluation/TruthValue$Tally" ∧ Fld Z h tl "com/example/contexture/contexture/engine/evaluation/TruthValue$Tally" "trues" "I" (.int (0 : Int32)) ∧ Fld Z h tl "com/example/contexture/contexture/engine/evaluation/TruthValue$Tally" "falses" "I" (.int (0 : Int32)) ∧ Fld Z h tl "com/example/contexture/contexture/engine/evaluation/TruthValue$Tally" "unknowns" "I" (.int (0 : Int32))
set_option maxRecDepth 65536 in
set_option maxHeartbeats 40000000 in
theorem rm_clear (l : Launch) (Z : State) (a0 : Array Value) (hw : ∀ d ∈ tables_1, d.before a0 Z = true) (ws : List Jvm.Cond) (tl : Addr) (n1 : Int32) (n2 : Int32) (n3 : Int32) (h0 : Heap) (n0 : Nat) (O0 : Old Z n0 h0) (g_tl : n0 ≤ tl) (Fi0 : Exa Z h0 tl "com/example/contexture/contexture/engine/evaluation/TruthValue$Tally") (Fi1 : Fld Z h0 tl "com/example/contexture/contexture/engine/evaluation/TruthValue$Tally" "trues" "I" (.int n1)) (Fi2 : Fld Z h0 tl "com/example/contexture/contexture/engine/evaluation/TruthValue$Tally" "falses" "I" (.int n2)) (Fi3 : Fld Z h0 tl "com/example/contexture/contexture/engine/evaluation/TruthValue$Tally" "unknowns" "I" (.int n3)) :
    MetFree l (⟨"com/example/contexture/contexture/engine/evaluation/TruthValue$Tally", "clear", "()V"⟩ : MethodName) (head1 (Jvm.Cond.code (⟨"com/example/contexture/contexture/engine/evaluation/TruthValue$Tally", "clear", "()V"⟩ : MethodName) prog_17_method_3_code 1 none :: ws) ({ frames := 0, cells := 0, slots := 0, locals := 0 } : Room)) (fun a U => a = #[(.ref tl)] ∧ Z.Warmed39 U.vm ∧ U.heap = h0) (fun _ _ _ _ _ => True) (fun _ U o U' => ∃ v L, o = .returned v ∧ Q_clear Z tl n1 n2 n3 h0 n0 v U'.heap L ∧ FrameEnd U o U' L ({ frames := 0, cells := 0, slots := 0, locals := 0 } : Room).cells ({ frames := 0, cells := 0, slots := 0, locals := 0 } : Room).slots) := by
  refine MetFree.of_bodySF (plainFor_of_name pn_2) hisR ?_
  intro p e s m args below meth c s₁ Bd hml0 hP hK
  have W := fun {d : Jvm.Cond} (i : Nat) (q : tables_1[i]? = some d) => hw d (List.mem_of_getElem? q)
  obtain ⟨rfl, hZ, hh⟩ := hP
  have hx := Bd.exec
  have hby := Bd.bytes
  have hml : c.maxLocals = 1 := hml0
  have hown : s.vm.findClass "com/example/contexture/contexture/engine/evaluation/TruthValue$Tally" = some m.cls := findClass_of_methodNamed Bd.named
  have hnm := (name_of_methodNamed Bd.named Bd.method).1
  have X0 : Stand p l e ({ frames := 0, cells := 0, slots := 0, locals := 0 } : Room) s m #[(.ref tl)] below meth c s₁ [] 0 0 := Stand.of_body Bd
  have e0 : s₁.heap = h0 := by rw [← hh, Bd.state]; rfl
  have N0 := Fr.nil n0
  have pre0 : ∀ t, Steps p.tables e below (s₁.setTop (mkF m 0 #[rv tl] [])) t → Steps p.tables e below (s₁.setTop (entryFrame m #[(.ref tl)] 1)) t := fun t k => castTop (ef_7 m tl) k
  have K0 : Keep h0 h0 [tl] := Keep.refl h0 [tl]
  have pre82 : ∀ t, Steps p.tables e below (s₁.setTop (mkF m 2 #[rv tl] [(.int (0 : Int32)), (.ref tl)])) t → Steps p.tables e below (s₁.setTop (entryFrame m #[(.ref tl)] 1)) t := fun t kt => by
    refine pre0 _ ?_
    show Steps p.tables e below (s₁.setTop (mkF m 0 #[rv tl] [])) _
    refine XS.aloadN X0.here hx rfl (hb hby d4_0) rfl rfl ?_
    refine XS.iconst X0.here hx rfl (hb hby d4_1) ?_
    exact kt
  obtain ⟨T83, h83, X83, e83, W83, st83⟩ := putF X0 hx hZ hown (host := "") (Or.inl (W 26 rfl)) Via.refl e0 Fi1 Fi0 (Or.inl (W 27 rfl)) (W 13 rfl) (ty := .int) (by decide) rfl rfl (g := (mkF m 2 #[rv tl] [(.int (0 : Int32)), (.ref tl)])) rfl rfl (hb hby d4_2)
  have pre84 : ∀ t, Steps p.tables e below (T83.setTop (mkF m 5 #[rv tl] [])) t → Steps p.tables e below (s₁.setTop (entryFrame m #[(.ref tl)] 1)) t := fun t kt => pre82 _ (st83 _ kt)
  have N83 := Fr.snoc X83 N0 g_tl
  have O83 := O0.wr W83 g_tl
  have K83 : Keep h0 h83 [tl] := K0.wr W83 (Or.inl (List.mem_of_getElem? (i := 0) rfl))
  have F85 := Fi0.wr W83
  have F86 := Fi2.other W83 (Or.inr (slot_ne (Or.inl (W 29 rfl)) (Or.inl (W 27 rfl)) (by decide) (t := .int) (t' := .int) (by decide) (by decide)))
  have F87 := Fi3.other W83 (Or.inr (slot_ne (Or.inl (W 31 rfl)) (Or.inl (W 27 rfl)) (by decide) (t := .int) (t' := .int) (by decide) (by decide)))
  have F88 : Fld Z h83 tl "com/example/contexture/contexture/engine/evaluation/TruthValue$Tally" "trues" "I" (.int (0 : Int32)) := Fi1.same W83
  have pre89 : ∀ t, Steps p.tables e below (T83.setTop (mkF m 7 #[rv tl] [(.int (0 : Int32)), (.ref tl)])) t → Steps p.tables e below (s₁.setTop (entryFrame m #[(.ref tl)] 1)) t := fun t kt => by
    refine pre84 _ ?_
    show Steps p.tables e below (T83.setTop (mkF m 5 #[rv tl] [])) _
    refine XS.aloadN X83.here hx rfl (hb hby d4_5) rfl rfl ?_
    refine XS.iconst X83.here hx rfl (hb hby d4_6) ?_
    exact kt
  obtain ⟨T90, h90, X90, e90, W90, st90⟩ := putF X83 hx hZ hown (host := "") (Or.inl (W 28 rfl)) Via.refl e83 F86 F85 (Or.inl (W 29 rfl)) (W 13 rfl) (ty := .int) (by decide) rfl rfl (g := (mkF m 7 #[rv tl] [(.int (0 : Int32)), (.ref tl)])) rfl rfl (hb hby d4_7)
  have pre91 : ∀ t, Steps p.tables e below (T90.setTop (mkF m 10 #[rv tl] [])) t → Steps p.tables e below (s₁.setTop (entryFrame m #[(.ref tl)] 1)) t := fun t kt => pre89 _ (st90 _ kt)
  have N90 := Fr.snoc X90 N83 g_tl
  have O90 := O83.wr W90 g_tl
  have K90 : Keep h0 h90 [tl] := K83.wr W90 (Or.inl (List.mem_of_getElem? (i := 0) rfl))
  have F92 := F85.wr W90
  have F93 := F87.other W90 (Or.inr (slot_ne (Or.inl (W 31 rfl)) (Or.inl (W 29 rfl)) (by decide) (t := .int) (t' := .int) (by decide) (by decide)))
  have F94 := F88.other W90 (Or.inr (slot_ne (Or.inl (W 27 rfl)) (Or.inl (W 29 rfl)) (by decide) (t := .int) (t' := .int) (by decide) (by decide)))
  have F95 : Fld Z h90 tl "com/example/contexture/contexture/engine/evaluation/TruthValue$Tally" "falses" "I" (.int (0 : Int32)) := F86.same W90
  have pre96 : ∀ t, Steps p.tables e below (T90.setTop (mkF m 12 #[rv tl] [(.int (0 : Int32)), (.ref tl)])) t → Steps p.tables e below (s₁.setTop (entryFrame m #[(.ref tl)] 1)) t := fun t kt => by
    refine pre91 _ ?_
    show Steps p.tables e below (T90.setTop (mkF m 10 #[rv tl] [])) _
    refine XS.aloadN X90.here hx rfl (hb hby d4_10) rfl rfl ?_
    refine XS.iconst X90.here hx rfl (hb hby d4_11) ?_
    exact kt
  obtain ⟨T97, h97, X97, e97, W97, st97⟩ := putF X90 hx hZ hown (host := "") (Or.inl (W 30 rfl)) Via.refl e90 F93 F92 (Or.inl (W 31 rfl)) (W 13 rfl) (ty := .int) (by decide) rfl rfl (g := (mkF m 12 #[rv tl] [(.int (0 : Int32)), (.ref tl)])) rfl rfl (hb hby d4_12)
  have pre98 : ∀ t, Steps p.tables e below (T97.setTop (mkF m 15 #[rv tl] [])) t → Steps p.tables e below (s₁.setTop (entryFrame m #[(.ref tl)] 1)) t := fun t kt => pre96 _ (st97 _ kt)
  have N97 := Fr.snoc X97 N90 g_tl
  have O97 := O90.wr W97 g_tl
  have K97 : Keep h0 h97 [tl] := K90.wr W97 (Or.inl (List.mem_of_getElem? (i := 0) rfl))
  have F99 := F92.wr W97
  have F100 := F94.other W97 (Or.inr (slot_ne (Or.inl (W 27 rfl)) (Or.inl (W 31 rfl)) (by decide) (t := .int) (t' := .int) (by decide) (by decide)))
  have F101 := F95.other W97 (Or.inr (slot_ne (Or.inl (W 29 rfl)) (Or.inl (W 31 rfl)) (by decide) (t := .int) (t' := .int) (by decide) (by decide)))
  have F102 : Fld Z h97 tl "com/example/contexture/contexture/engine/evaluation/TruthValue$Tally" "unknowns" "I" (.int (0 : Int32)) := F93.same W97
  obtain ⟨fs, hr, hrun, hended, hW, hsame⟩ := X97.leave (v := none) (fun _ => rfl)
  refine ⟨_, _, pre98 _ (X97.returnOut hx Bd.returns (hb hby d4_15) hr), hrun, hended, _, _, rfl, ?_, ⟨_, rfl⟩, hW, hsame.mono (by decide) (by decide)⟩
  show Q_clear Z tl n1 n2 n3 h0 n0 _ T97.heap _
  rw [e97]
  exact ⟨rfl, N97, K97, O97, F99, F100, F101, F102⟩
theorem ef_8 (m : MethodId) (x0 : Int32) (x1 : Int32) (x2 : Int32) (x3 : Int32) : entryFrame m #[(.int x0), (.int x1), (.int x2), (.int x3)] maxLocals = mkF m 0 #[.val (.int x0), .val (.int x1), .val (.int x2), .val (.int x3), .unset, .unset, .unset, .unset, .unset, .unset, .unset, .unset, .unset, .unset, .unset, .unset, .unset, .unset] [] := by first | (simp [entryFrame, mkF, argsToLocals, Value.category, maxLocals]; done) | rfl
theorem pd_9 : parseMethodDescriptor "(I)Lcom/example/contexture/contexture/engine/evaluation/TruthValue;" = some ⟨[.int], some (.object "com/example/contexture/contexture/engine/evaluation/TruthValue")⟩ := by decide +kernel
theorem d2_0 : decode prog_17_method_1_code 0 = .ok (.aload_n 0, 1) := by decide +kernel
theorem d2_1 : decode prog_17_method_1_code 1 = .ok (.invokespecial 1, 3) := by decide +kernel
theorem d2_4 : decode prog_17_method_1_code 4 = .ok (.return_, 1) := by decide +kernel
theorem ef_10 (m : MethodId) (x0 : Addr) : entryFrame m #[(.ref x0)] 1 = mkF m 0 #[.val (.ref x0)] [] := by first | (simp [entryFrame, mkF, argsToLocals, Value.category]; done) | rfl
def Q_init2_0 (Z : State) (b120 : Addr) (h0 : Heap) (n0 : Nat) (v : Option Value) (h : Heap) (L : List Loc) : Prop := v = none ∧ Fr n0 L ∧ h = h0
set_option maxRecDepth 65536 in
set_option maxHeartbeats 40000000 in
theorem rm_init2_0 (l : Launch) (Z : State) (a0 : Array Value) (hw : ∀ d ∈ tables_1, d.before a0 Z = true) (ws : List Jvm.Cond) (b120 : Addr) (h0 : Heap) (n0 : Nat) (O0 : Old Z n0 h0) :
    MetFree l (⟨"com/example/contexture/contexture/engine/evaluation/TruthValue$Tally", "<init>", "()V"⟩ : MethodName) (head1 (Jvm.Cond.code (⟨"com/example/contexture/contexture/engine/evaluation/TruthValue$Tally", "<init>", "()V"⟩ : MethodName) prog_17_method_1_code 1 none :: ws) ({ frames := 1, cells := 0, slots := 0, locals := 12 } : Room)) (fun a U => a = #[(.ref b120)] ∧ Z.Warmed39 U.vm ∧ U.heap = h0) (fun _ _ _ _ _ => True) (fun _ U o U' => ∃ v L, o = .returned v ∧ Q_init2_0 Z b120 h0 n0 v U'.heap L ∧ FrameEnd U o U' L ({ frames := 1, cells := 0, slots := 0, locals := 12 } : Room).cells ({ frames := 1, cells := 0, slots := 0, locals := 12 } : Room).slots) := by
  refine MetFree.of_bodySF (plainFor_of_name pn_2) hisR ?_
  intro p e s m args below meth c s₁ Bd hml0 hP hK
  have W := fun {d : Jvm.Cond} (i : Nat) (q : tables_1[i]? = some d) => hw d (List.mem_of_getElem? q)
  obtain ⟨rfl, hZ, hh⟩ := hP
  have hx := Bd.exec
  have hby := Bd.bytes
  have hml : c.maxLocals = 1 := hml0
  have hown : s.vm.findClass "com/example/contexture/contexture/engine/evaluation/TruthValue$Tally" = some m.cls := findClass_of_methodNamed Bd.named
  have hnm := (name_of_methodNamed Bd.named Bd.method).1
  have X0 : Stand p l e ({ frames := 1, cells := 0, slots := 0, locals := 12 } : Room) s m #[(.ref b120)] below meth c s₁ [] 0 0 := Stand.of_body Bd
  have e0 : s₁.heap = h0 := by rw [← hh, Bd.state]; rfl
  have N0 := Fr.nil n0
  have pre0 : ∀ t, Steps p.tables e below (s₁.setTop (mkF m 0 #[rv b120] [])) t → Steps p.tables e below (s₁.setTop (entryFrame m #[(.ref b120)] 1)) t := fun t k => castTop (ef_10 m b120) k
  have K0 : Keep h0 h0 [] := Keep.refl h0 []
  have pre134 : ∀ t, Steps p.tables e below (s₁.setTop (mkF m 1 #[rv b120] [(.ref b120)])) t → Steps p.tables e below (s₁.setTop (entryFrame m #[(.ref b120)] 1)) t := fun t kt => by
    refine pre0 _ ?_
    show Steps p.tables e below (s₁.setTop (mkF m 0 #[rv b120] [])) _
    refine XS.aloadN X0.here hx rfl (hb hby d2_0) rfl rfl ?_
    exact kt
  obtain ⟨T135, X135, e135, st135⟩ := initO X0 hx hZ hown (W 18 rfl) (W 19 rfl) (W 20 rfl) e0 (g := (mkF m 1 #[rv b120] [(.ref b120)])) rfl (by rw [hml]; rfl) rfl (hb hby d2_1) (by decide) (W := 0) (by show 2 * 0 + _ ≤ _; exact Nat.le_of_eq rfl) (by decide)
  have pre136 : ∀ t, Steps p.tables e below (T135.setTop (mkF m 4 #[rv b120] [])) t → Steps p.tables e below (s₁.setTop (entryFrame m #[(.ref b120)] 1)) t := fun t kt => pre134 _ (st135 _ kt)
  obtain ⟨fs, hr, hrun, hended, hW, hsame⟩ := X135.leave (v := none) (fun _ => rfl)
  refine ⟨_, _, pre136 _ (X135.returnOut hx Bd.returns (hb hby d2_4) hr), hrun, hended, _, _, rfl, ?_, ⟨_, rfl⟩, hW, hsame.mono (by decide) (by decide)⟩
  show Q_init2_0 Z b120 h0 n0 _ T135.heap _
  rw [e135]
  exact ⟨rfl, N0, rfl⟩
theorem pd_11 : parseMethodDescriptor "()V" = some ⟨[], none⟩ := by decide +kernel
theorem pd_12 : parseMethodDescriptor "(Lcom/example/contexture/contexture/engine/evaluation/TruthValue;)V" = some ⟨[(.object "com/example/contexture/contexture/engine/evaluation/TruthValue")], none⟩ := by decide +kernel
theorem d7_0 : decode prog_17_method_4_code 0 = .ok (.aload_n 0, 1) := by decide +kernel
theorem d7_1 : decode prog_17_method_4_code 1 = .ok (.getfield 19, 3) := by decide +kernel
theorem d7_4 : decode prog_17_method_4_code 4 = .ok (.ifCond .le 9, 3) := by decide +kernel
theorem d7_13 : decode prog_17_method_4_code 13 = .ok (.aload_n 0, 1) := by decide +kernel
theorem d7_14 : decode prog_17_method_4_code 14 = .ok (.getstatic 29, 3) := by decide +kernel
theorem d7_17 : decode prog_17_method_4_code 17 = .ok (.invokevirtual 32, 3) := by decide +kernel
theorem d11_0 : decode prog_17_method_7_code 0 = .ok (.aload_n 0, 1) := by decide +kernel
theorem d11_1 : decode prog_17_method_7_code 1 = .ok (.getfield 22, 3) := by decide +kernel
theorem d11_4 : decode prog_17_method_7_code 4 = .ok (.ifCond .le 9, 3) := by decide +kernel
theorem d11_13 : decode prog_17_method_7_code 13 = .ok (.aload_n 1, 1) := by decide +kernel
theorem d11_14 : decode prog_17_method_7_code 14 = .ok (.areturn, 1) := by decide +kernel
theorem ef_13 (m : MethodId) (x0 : Addr) (x1 : Addr) : entryFrame m #[(.ref x0), (.ref x1)] 2 = mkF m 0 #[.val (.ref x0), .val (.ref x1)] [] := by first | (simp [entryFrame, mkF, argsToLocals, Value.category]; done) | rfl
def Q_settledBy11_0 (Z : State) (b120 : Addr) (a_TRUE : Addr) (h0 : Heap) (n0 : Nat) (v : Option Value) (h : Heap) (L : List Loc) : Prop := v = some (.ref a_TRUE) ∧ Fr n0 L ∧ h = h0
set_option maxRecDepth 65536 in
set_option maxHeartbeats 40000000 in
theorem rm_settledBy11_0 (l : Launch) (Z : State) (a0 : Array Value) (hw : ∀ d ∈ tables_1, d.before a0 Z = true) (ws : List Jvm.Cond) (b120 : Addr) (a_TRUE : Addr) (h0 : Heap) (n0 : Nat) (O0 : Old Z n0 h0) (Fi0 : Fld Z h0 b120 "com/example/contexture/contexture/engine/evaluation/TruthValue$Tally" "unknowns" "I" (.int (0 : Int32))) :
    MetFree l (⟨"com/example/contexture/contexture/engine/evaluation/TruthValue$Tally", "settledBy", "(Lcom/example/contexture/contexture/engine/evaluation/TruthValue;)Lcom/example/contexture/contexture/engine/evaluation/TruthValue;"⟩ : MethodName) (head1 (Jvm.Cond.code (⟨"com/example/contexture/contexture/engine/evaluation/TruthValue$Tally", "settledBy", "(Lcom/example/contexture/contexture/engine/evaluation/TruthValue;)Lcom/example/contexture/contexture/engine/evaluation/TruthValue;"⟩ : MethodName) prog_17_method_7_code 2 (some (.object "com/example/contexture/contexture/engine/evaluation/TruthValue")) :: ws) ({ frames := 0, cells := 0, slots := 0, locals := 0 } : Room)) (fun a U => a = #[(.ref b120), (.ref a_TRUE)] ∧ Z.Warmed39 U.vm ∧ U.heap = h0) (fun _ _ _ _ _ => True) (fun _ U o U' => ∃ v L, o = .returned v ∧ Q_settledBy11_0 Z b120 a_TRUE h0 n0 v U'.heap L ∧ FrameEnd U o U' L ({ frames := 0, cells := 0, slots := 0, locals := 0 } : Room).cells ({ frames := 0, cells := 0, slots := 0, locals := 0 } : Room).slots) := by
  refine MetFree.of_bodySF (plainFor_of_name pn_2) hisR ?_
  intro p e s m args below meth c s₁ Bd hml0 hP hK
  have W := fun {d : Jvm.Cond} (i : Nat) (q : tables_1[i]? = some d) => hw d (List.mem_of_getElem? q)
  obtain ⟨rfl, hZ, hh⟩ := hP
  have hx := Bd.exec
  have hby := Bd.bytes
  have hml : c.maxLocals = 2 := hml0
  have hown : s.vm.findClass "com/example/contexture/contexture/engine/evaluation/TruthValue$Tally" = some m.cls := findClass_of_methodNamed Bd.named
  have hnm := (name_of_methodNamed Bd.named Bd.method).1
  have X0 : Stand p l e ({ frames := 0, cells := 0, slots := 0, locals := 0 } : Room) s m #[(.ref b120), (.ref a_TRUE)] below meth c s₁ [] 0 0 := Stand.of_body Bd
  have e0 : s₁.heap = h0 := by rw [← hh, Bd.state]; rfl
  have N0 := Fr.nil n0
  have pre0 : ∀ t, Steps p.tables e below (s₁.setTop (mkF m 0 #[rv b120, rv a_TRUE] [])) t → Steps p.tables e below (s₁.setTop (entryFrame m #[(.ref b120), (.ref a_TRUE)] 2)) t := fun t k => castTop (ef_13 m b120 a_TRUE) k
  have K0 : Keep h0 h0 [] := Keep.refl h0 []
  have pre256 : ∀ t, Steps p.tables e below (s₁.setTop (mkF m 1 #[rv b120, rv a_TRUE] [(.ref b120)])) t → Steps p.tables e below (s₁.setTop (entryFrame m #[(.ref b120), (.ref a_TRUE)] 2)) t := fun t kt => by
    refine pre0 _ ?_
    show Steps p.tables e below (s₁.setTop (mkF m 0 #[rv b120, rv a_TRUE] [])) _
    refine XS.aloadN X0.here hx rfl (hb hby d11_0) rfl rfl ?_
    exact kt
  obtain ⟨T257, X257, e257, st257⟩ := getF X0 hx hZ hown (host := "") (Or.inl (W 30 rfl)) Via.refl e0 Fi0 (g := (mkF m 1 #[rv b120, rv a_TRUE] [(.ref b120)])) rfl rfl (hb hby d11_1)
  have pre258 : ∀ t, Steps p.tables e below (T257.setTop (mkF m 4 #[rv b120, rv a_TRUE] [(.int (0 : Int32))])) t → Steps p.tables e below (s₁.setTop (entryFrame m #[(.ref b120), (.ref a_TRUE)] 2)) t := fun t kt => pre256 _ (st257 _ kt)
  have pre259 : ∀ t, Steps p.tables e below (T257.setTop (mkF m 14 #[rv b120, rv a_TRUE] [(.ref a_TRUE)])) t → Steps p.tables e below (s₁.setTop (entryFrame m #[(.ref b120), (.ref a_TRUE)] 2)) t := fun t kt => by
    refine pre258 _ ?_
    show Steps p.tables e below (T257.setTop (mkF m 4 #[rv b120, rv a_TRUE] [(.int (0 : Int32))])) _
    refine XS.ifYes X257.here hx rfl (pc0 := 4) (pc' := 13) rfl (hb hby d11_4) rfl (XT.i0_le_t (by decide)) (by decide) (by decide) ?_
    refine XS.aloadN X257.here hx rfl (hb hby d11_13) rfl rfl ?_
    exact kt
  obtain ⟨fs, hr, hrun, hended, hW, hsame⟩ := X257.leave (v := some (.ref a_TRUE)) (fun h => by rw [Bd.returns] at h; cases h)
  refine ⟨_, _, pre259 _ (X257.areturnOut hx rfl Bd.returns rfl (hb hby d11_14) hr), hrun, hended, _, _, rfl, ?_, ⟨_, rfl⟩, hW, hsame.mono (by decide) (by decide)⟩
  show Q_settledBy11_0 Z b120 a_TRUE h0 n0 _ T257.heap _
  rw [e257]
  exact ⟨rfl, N0, rfl⟩
theorem pd_14 : parseMethodDescriptor "(Lcom/example/contexture/contexture/engine/evaluation/TruthValue;)Lcom/example/contexture/contexture/engine/evaluation/TruthValue;" = some ⟨[(.object "com/example/contexture/contexture/engine/evaluation/TruthValue")], some (.object "com/example/contexture/contexture/engine/evaluation/TruthValue")⟩ := by decide +kernel
theorem d7_20 : decode prog_17_method_4_code 20 = .ok (.areturn, 1) := by decide +kernel
theorem ef_15 (m : MethodId) (x0 : Addr) : entryFrame m #[(.ref x0)] 1 = mkF m 0 #[.val (.ref x0)] [] := by first | (simp [entryFrame, mkF, argsToLocals, Value.category]; done) | rfl
def Q_and7_0 (Z : State) (b120 : Addr) (a_TRUE : Addr) (h0 : Heap) (n0 : Nat) (v : Option Value) (h : Heap) (L : List Loc) : Prop := v = some (.ref a_TRUE) ∧ Fr n0 L ∧ h = h0
set_option maxRecDepth 65536 in
set_option maxHeartbeats 40000000 in
theorem rm_and7_0 (l : Launch) (Z : State) (a0 : Array Value) (hw : ∀ d ∈ tables_1, d.before a0 Z = true) (ws : List Jvm.Cond) (b120 : Addr) (a_TRUE : Addr) (h0 : Heap) (n0 : Nat) (O0 : Old Z n0 h0) (G0 : Sta Z Z.heap "com/example/contexture/contexture/engine/evaluation/TruthValue" "TRUE" "Lcom/example/contexture/contexture/engine/evaluation/TruthValue;" (.ref a_TRUE)) (Fi0 : Exa Z h0 b120 "com/example/contexture/contexture/engine/evaluation/TruthValue$Tally") (Fi1 : Fld Z h0 b120 "com/example/contexture/contexture/engine/evaluation/TruthValue$Tally" "falses" "I" (.int (0 : Int32))) (Fi2 : Fld Z h0 b120 "com/example/contexture/contexture/engine/evaluation/TruthValue$Tally" "unknowns" "I" (.int (0 : Int32))) :
    MetFree l (⟨"com/example/contexture/contexture/engine/evaluation/TruthValue$Tally", "and", "()Lcom/example/contexture/contexture/engine/evaluation/TruthValue;"⟩ : MethodName) (head1 (Jvm.Cond.code (⟨"com/example/contexture/contexture/engine/evaluation/TruthValue$Tally", "and", "()Lcom/example/contexture/contexture/engine/evaluation/TruthValue;"⟩ : MethodName) prog_17_method_4_code 1 (some (.object "com/example/contexture/contexture/engine/evaluation/TruthValue")) :: ws) ({ frames := 1, cells := 0, slots := 0, locals := 13 } : Room)) (fun a U => a = #[(.ref b120)] ∧ Z.Warmed39 U.vm ∧ U.heap = h0) (fun _ _ _ _ _ => True) (fun _ U o U' => ∃ v L, o = .returned v ∧ Q_and7_0 Z b120 a_TRUE h0 n0 v U'.heap L ∧ FrameEnd U o U' L ({ frames := 1, cells := 0, slots := 0, locals := 13 } : Room).cells ({ frames := 1, cells := 0, slots := 0, locals := 13 } : Room).slots) := by
  refine MetFree.of_bodySF (plainFor_of_name pn_2) hisR ?_
  intro p e s m args below meth c s₁ Bd hml0 hP hK
  have W := fun {d : Jvm.Cond} (i : Nat) (q : tables_1[i]? = some d) => hw d (List.mem_of_getElem? q)
  obtain ⟨rfl, hZ, hh⟩ := hP
  have hx := Bd.exec
  have hby := Bd.bytes
  have hml : c.maxLocals = 1 := hml0
  have hown : s.vm.findClass "com/example/contexture/contexture/engine/evaluation/TruthValue$Tally" = some m.cls := findClass_of_methodNamed Bd.named
  have hnm := (name_of_methodNamed Bd.named Bd.method).1
  have X0 : Stand p l e ({ frames := 1, cells := 0, slots := 0, locals := 13 } : Room) s m #[(.ref b120)] below meth c s₁ [] 0 0 := Stand.of_body Bd
  have e0 : s₁.heap = h0 := by rw [← hh, Bd.state]; rfl
  have N0 := Fr.nil n0
  have pre0 : ∀ t, Steps p.tables e below (s₁.setTop (mkF m 0 #[rv b120] [])) t → Steps p.tables e below (s₁.setTop (entryFrame m #[(.ref b120)] 1)) t := fun t k => castTop (ef_15 m b120) k
  have K0 : Keep h0 h0 [] := Keep.refl h0 []
  have pre269 : ∀ t, Steps p.tables e below (s₁.setTop (mkF m 1 #[rv b120] [(.ref b120)])) t → Steps p.tables e below (s₁.setTop (entryFrame m #[(.ref b120)] 1)) t := fun t kt => by
    refine pre0 _ ?_
    show Steps p.tables e below (s₁.setTop (mkF m 0 #[rv b120] [])) _
    refine XS.aloadN X0.here hx rfl (hb hby d7_0) rfl rfl ?_
    exact kt
  obtain ⟨T270, X270, e270, st270⟩ := getF X0 hx hZ hown (host := "") (Or.inl (W 28 rfl)) Via.refl e0 Fi1 (g := (mkF m 1 #[rv b120] [(.ref b120)])) rfl rfl (hb hby d7_1)
  have pre271 : ∀ t, Steps p.tables e below (T270.setTop (mkF m 4 #[rv b120] [(.int (0 : Int32))])) t → Steps p.tables e below (s₁.setTop (entryFrame m #[(.ref b120)] 1)) t := fun t kt => pre269 _ (st270 _ kt)
  have pre272 : ∀ t, Steps p.tables e below (T270.setTop (mkF m 14 #[rv b120] [(.ref b120)])) t → Steps p.tables e below (s₁.setTop (entryFrame m #[(.ref b120)] 1)) t := fun t kt => by
    refine pre271 _ ?_
    show Steps p.tables e below (T270.setTop (mkF m 4 #[rv b120] [(.int (0 : Int32))])) _
    refine XS.ifYes X270.here hx rfl (pc0 := 4) (pc' := 13) rfl (hb hby d7_4) rfl (XT.i0_le_t (by decide)) (by decide) (by decide) ?_
    refine XS.aloadN X270.here hx rfl (hb hby d7_13) rfl rfl ?_
    exact kt
  obtain ⟨T273, X273, e273, st273⟩ := getS2 X270 hx hZ hown (host := "") (Or.inl (W 57 rfl)) Via.refl e270 (G0.ext O0.2) (g := (mkF m 14 #[rv b120] [(.ref b120)])) rfl (hb hby d7_14)
  have pre274 : ∀ t, Steps p.tables e below (T273.setTop (mkF m 17 #[rv b120] [(.ref a_TRUE), (.ref b120)])) t → Steps p.tables e below (s₁.setTop (entryFrame m #[(.ref b120)] 1)) t := fun t kt => pre272 _ (st273 _ kt)
  obtain ⟨cq275, q275, q275'⟩ := (Fi0).cell
  obtain ⟨_, _, ⟨T275, L275, k275, n275⟩, -, X275, ⟨Lc275, hQ275, l275, y275, z275⟩, st275⟩ := X273.privateBack hx (y := (⟨"com/example/contexture/contexture/engine/evaluation/TruthValue$Tally", "settledBy", "(Lcom/example/contexture/contexture/engine/evaluation/TruthValue;)Lcom/example/contexture/contexture/engine/evaluation/TruthValue;"⟩ : MethodName)) hown (mvT hZ (W 67 rfl)) (mvT hZ (W 68 rfl)) (own_selpriv (mvT hZ (W 13 rfl)) (mvP hZ (W 69 rfl)) (mvT hZ (W 68 rfl)) (by decide)) (Cond.privateMethod_at (mvP hZ (W 69 rfl) (args := #[]))) (mvT hZ (W 70 rfl)) (by decide) (backOf (W := 0) (rm_settledBy11_0 l Z a0 hw [] b120 a_TRUE h0 n0 O0 Fi2) hZ (W 70 rfl) (W 14 rfl) (by decide) (by decide)) (g := (mkF m 17 #[rv b120] [(.ref a_TRUE), (.ref b120)])) rfl (by rw [hml]; rfl) (Steps.refl _) (a := b120) (by rw [e273]; exact q275) q275' (argsL := [(.ref a_TRUE)]) (rest := []) (lenOf pd_14 rfl) rfl (by show 2 * 0 + _ ≤ _; exact Nat.le_of_eq rfl) (hb hby d7_17) (fun _ _ => ⟨rfl, e273, (by decide : 0 + 0 ≤ _), (by decide : 0 + 0 ≤ _)⟩)
  dsimp only [Pt.U, Pt.locs, Pt.cells, Pt.slots] at X275 l275 y275 z275 st275 hQ275
  replace l275 := l275.symm
  replace y275 : 0 = k275 := y275.symm
  replace z275 : 0 = n275 := z275.symm
  subst l275 y275 z275
  obtain ⟨rfl, M275, e275⟩ := hQ275
  have N275 := Fr.app N0 M275
  have pre276 : ∀ t, Steps p.tables e below (T275.setTop (mkF m 20 #[rv b120] [(.ref a_TRUE)])) t → Steps p.tables e below (s₁.setTop (entryFrame m #[(.ref b120)] 1)) t := fun t kt => pre274 _ (st275.trans kt)
  obtain ⟨fs, hr, hrun, hended, hW, hsame⟩ := X275.leave (v := some (.ref a_TRUE)) (fun h => by rw [Bd.returns] at h; cases h)
  refine ⟨_, _, pre276 _ (X275.areturnOut hx rfl Bd.returns rfl (hb hby d7_20) hr), hrun, hended, _, _, rfl, ?_, ⟨_, rfl⟩, hW, hsame.mono (by decide) (by decide)⟩
  show Q_and7_0 Z b120 a_TRUE h0 n0 _ T275.heap _
  rw [e275]
  exact ⟨rfl, N275, rfl⟩
theorem pd_16 : parseMethodDescriptor "()Lcom/example/contexture/contexture/engine/evaluation/TruthValue;" = some ⟨[], some (.object "com/example/contexture/contexture/engine/evaluation/TruthValue")⟩ := by decide +kernel
theorem d8_0 : decode prog_17_method_5_code 0 = .ok (.aload_n 0, 1) := by decide +kernel
theorem d8_1 : decode prog_17_method_5_code 1 = .ok (.getfield 13, 3) := by decide +kernel
theorem d8_4 : decode prog_17_method_5_code 4 = .ok (.ifCond .le 9, 3) := by decide +kernel
theorem d8_7 : decode prog_17_method_5_code 7 = .ok (.getstatic 29, 3) := by decide +kernel
theorem d8_10 : decode prog_17_method_5_code 10 = .ok (.goto 10, 3) := by decide +kernel
theorem d8_20 : decode prog_17_method_5_code 20 = .ok (.areturn, 1) := by decide +kernel
theorem ef_17 (m : MethodId) (x0 : Addr) : entryFrame m #[(.ref x0)] 1 = mkF m 0 #[.val (.ref x0)] [] := by first | (simp [entryFrame, mkF, argsToLocals, Value.category]; done) | rfl
def Q_or8_0 (Z : State) (b120 : Addr) (a_TRUE : Addr) (h0 : Heap) (n0 : Nat) (v : Option Value) (h : Heap) (L : List Loc) : Prop := v = some (.ref a_TRUE) ∧ Fr n0 L ∧ h = h0
set_option maxRecDepth 65536 in
set_option maxHeartbeats 40000000 in
theorem rm_or8_0 (l : Launch) (Z : State) (a0 : Array Value) (hw : ∀ d ∈ tables_1, d.before a0 Z = true) (ws : List Jvm.Cond) (b120 : Addr) (a_TRUE : Addr) (h0 : Heap) (n0 : Nat) (O0 : Old Z n0 h0) (G0 : Sta Z Z.heap "com/example/contexture/contexture/engine/evaluation/TruthValue" "TRUE" "Lcom/example/contexture/contexture/engine/evaluation/TruthValue;" (.ref a_TRUE)) (Fi0 : Fld Z h0 b120 "com/example/contexture/contexture/engine/evaluation/TruthValue$Tally" "trues" "I" (.int (((0 : Int32) + (1 : Int32)) + (1 : Int32)))) :
    MetFree l (⟨"com/example/contexture/contexture/engine/evaluation/TruthValue$Tally", "or", "()Lcom/example/contexture/contexture/engine/evaluation/TruthValue;"⟩ : MethodName) (head1 (Jvm.Cond.code (⟨"com/example/contexture/contexture/engine/evaluation/TruthValue$Tally", "or", "()Lcom/example/contexture/contexture/engine/evaluation/TruthValue;"⟩ : MethodName) prog_17_method_5_code 1 (some (.object "com/example/contexture/contexture/engine/evaluation/TruthValue")) :: ws) ({ frames := 0, cells := 0, slots := 0, locals := 0 } : Room)) (fun a U => a = #[(.ref b120)] ∧ Z.Warmed39 U.vm ∧ U.heap = h0) (fun _ _ _ _ _ => True) (fun _ U o U' => ∃ v L, o = .returned v ∧ Q_or8_0 Z b120 a_TRUE h0 n0 v U'.heap L ∧ FrameEnd U o U' L ({ frames := 0, cells := 0, slots := 0, locals := 0 } : Room).cells ({ frames := 0, cells := 0, slots := 0, locals := 0 } : Room).slots) := by
  refine MetFree.of_bodySF (plainFor_of_name pn_2) hisR ?_
  intro p e s m args below meth c s₁ Bd hml0 hP hK
  have W := fun {d : Jvm.Cond} (i : Nat) (q : tables_1[i]? = some d) => hw d (List.mem_of_getElem? q)
  obtain ⟨rfl, hZ, hh⟩ := hP
  have hx := Bd.exec
  have hby := Bd.bytes
  have hml : c.maxLocals = 1 := hml0
  have hown : s.vm.findClass "com/example/contexture/contexture/engine/evaluation/TruthValue$Tally" = some m.cls := findClass_of_methodNamed Bd.named
  have hnm := (name_of_methodNamed Bd.named Bd.method).1
  have X0 : Stand p l e ({ frames := 0, cells := 0, slots := 0, locals := 0 } : Room) s m #[(.ref b120)] below meth c s₁ [] 0 0 := Stand.of_body Bd
  have e0 : s₁.heap = h0 := by rw [← hh, Bd.state]; rfl
  have N0 := Fr.nil n0
  have pre0 : ∀ t, Steps p.tables e below (s₁.setTop (mkF m 0 #[rv b120] [])) t → Steps p.tables e below (s₁.setTop (entryFrame m #[(.ref b120)] 1)) t := fun t k => castTop (ef_17 m b120) k
  have K0 : Keep h0 h0 [] := Keep.refl h0 []
  have pre294 : ∀ t, Steps p.tables e below (s₁.setTop (mkF m 1 #[rv b120] [(.ref b120)])) t → Steps p.tables e below (s₁.setTop (entryFrame m #[(.ref b120)] 1)) t := fun t kt => by
    refine pre0 _ ?_
    show Steps p.tables e below (s₁.setTop (mkF m 0 #[rv b120] [])) _
    refine XS.aloadN X0.here hx rfl (hb hby d8_0) rfl rfl ?_
    exact kt
  obtain ⟨T295, X295, e295, st295⟩ := getF X0 hx hZ hown (host := "") (Or.inl (W 26 rfl)) Via.refl e0 Fi0 (g := (mkF m 1 #[rv b120] [(.ref b120)])) rfl rfl (hb hby d8_1)
  have pre296 : ∀ t, Steps p.tables e below (T295.setTop (mkF m 4 #[rv b120] [(.int (((0 : Int32) + (1 : Int32)) + (1 : Int32)))])) t → Steps p.tables e below (s₁.setTop (entryFrame m #[(.ref b120)] 1)) t := fun t kt => pre294 _ (st295 _ kt)
  have pre297 : ∀ t, Steps p.tables e below (T295.setTop (mkF m 7 #[rv b120] [])) t → Steps p.tables e below (s₁.setTop (entryFrame m #[(.ref b120)] 1)) t := fun t kt => by
    refine pre296 _ ?_
    show Steps p.tables e below (T295.setTop (mkF m 4 #[rv b120] [(.int (((0 : Int32) + (1 : Int32)) + (1 : Int32)))])) _
    refine XS.ifNo X295.here hx rfl (hb hby d8_4) rfl (XT.i0_le_f (by decide)) ?_
    exact kt
  obtain ⟨T298, X298, e298, st298⟩ := getS2 X295 hx hZ hown (host := "") (Or.inl (W 57 rfl)) Via.refl e295 (G0.ext O0.2) (g := (mkF m 7 #[rv b120] [])) rfl (hb hby d8_7)
  have pre299 : ∀ t, Steps p.tables e below (T298.setTop (mkF m 10 #[rv b120] [(.ref a_TRUE)])) t → Steps p.tables e below (s₁.setTop (entryFrame m #[(.ref b120)] 1)) t := fun t kt => pre297 _ (st298 _ kt)
  have pre300 : ∀ t, Steps p.tables e below (T298.setTop (mkF m 20 #[rv b120] [(.ref a_TRUE)])) t → Steps p.tables e below (s₁.setTop (entryFrame m #[(.ref b120)] 1)) t := fun t kt => by
    refine pre299 _ ?_
    show Steps p.tables e below (T298.setTop (mkF m 10 #[rv b120] [(.ref a_TRUE)])) _
    refine XS.goto X298.here hx rfl (pc0 := 10) (pc' := 20) rfl (hb hby d8_10) (by decide) (by decide) ?_
    exact kt
  obtain ⟨fs, hr, hrun, hended, hW, hsame⟩ := X298.leave (v := some (.ref a_TRUE)) (fun h => by rw [Bd.returns] at h; cases h)
  refine ⟨_, _, pre300 _ (X298.areturnOut hx rfl Bd.returns rfl (hb hby d8_20) hr), hrun, hended, _, _, rfl, ?_, ⟨_, rfl⟩, hW, hsame.mono (by decide) (by decide)⟩
  show Q_or8_0 Z b120 a_TRUE h0 n0 _ T298.heap _
  rw [e298]
  exact ⟨rfl, N0, rfl⟩
theorem d9_0 : decode prog_17_method_6_code 0 = .ok (.aload_n 0, 1) := by decide +kernel
theorem d9_1 : decode prog_17_method_6_code 1 = .ok (.aload_n 0, 1) := by decide +kernel
theorem d9_2 : decode prog_17_method_6_code 2 = .ok (.getfield 13, 3) := by decide +kernel
theorem d9_5 : decode prog_17_method_6_code 5 = .ok (.iconst 1, 1) := by decide +kernel
theorem d9_6 : decode prog_17_method_6_code 6 = .ok (.if_icmp .ne 7, 3) := by decide +kernel
theorem d9_13 : decode prog_17_method_6_code 13 = .ok (.iconst 0, 1) := by decide +kernel
theorem d9_14 : decode prog_17_method_6_code 14 = .ok (.invokestatic 36, 3) := by decide +kernel
theorem d10_0 : decode prog_15_method_4_code 0 = .ok (.iload_n 0, 1) := by decide +kernel
theorem d10_1 : decode prog_15_method_4_code 1 = .ok (.ifCond .eq 9, 3) := by decide +kernel
theorem d10_10 : decode prog_15_method_4_code 10 = .ok (.getstatic 7, 3) := by decide +kernel
theorem d10_13 : decode prog_15_method_4_code 13 = .ok (.areturn, 1) := by decide +kernel
theorem pn_18 : plainName "com/example/contexture/contexture/engine/evaluation/TruthValue" = true := by first | (simp [plainName, overriddenIn]; done) | decide +kernel
theorem ef_19 (m : MethodId) (x0 : Int32) : entryFrame m #[(.int x0)] 1 = mkF m 0 #[.val (.int x0)] [] := by first | (simp [entryFrame, mkF, argsToLocals, Value.category]; done) | rfl
def Q_of10_0 (Z : State) (a_FALSE : Addr) (h0 : Heap) (n0 : Nat) (v : Option Value) (h : Heap) (L : List Loc) : Prop := v = some (.ref a_FALSE) ∧ Fr n0 L ∧ h = h0
set_option maxRecDepth 65536 in
set_option maxHeartbeats 40000000 in
theorem rm_of10_0 (l : Launch) (Z : State) (a0 : Array Value) (hw : ∀ d ∈ tables_1, d.before a0 Z = true) (ws : List Jvm.Cond) (a_FALSE : Addr) (h0 : Heap) (n0 : Nat) (O0 : Old Z n0 h0) (G0 : Sta Z Z.heap "com/example/contexture/contexture/engine/evaluation/TruthValue" "FALSE" "Lcom/example/contexture/contexture/engine/evaluation/TruthValue;" (.ref a_FALSE)) :
    MetFree l (⟨"com/example/contexture/contexture/engine/evaluation/TruthValue", "of", "(Z)Lcom/example/contexture/contexture/engine/evaluation/TruthValue;"⟩ : MethodName) (head1 (Jvm.Cond.code (⟨"com/example/contexture/contexture/engine/evaluation/TruthValue", "of", "(Z)Lcom/example/contexture/contexture/engine/evaluation/TruthValue;"⟩ : MethodName) prog_15_method_4_code 1 (some (.object "com/example/contexture/contexture/engine/evaluation/TruthValue")) :: ws) ({ frames := 0, cells := 0, slots := 0, locals := 0 } : Room)) (fun a U => a = #[(.int (0 : Int32))] ∧ Z.Warmed39 U.vm ∧ U.heap = h0) (fun _ _ _ _ _ => True) (fun _ U o U' => ∃ v L, o = .returned v ∧ Q_of10_0 Z a_FALSE h0 n0 v U'.heap L ∧ FrameEnd U o U' L ({ frames := 0, cells := 0, slots := 0, locals := 0 } : Room).cells ({ frames := 0, cells := 0, slots := 0, locals := 0 } : Room).slots) := by
  refine MetFree.of_bodySF (plainFor_of_name pn_18) hisR ?_
  intro p e s m args below meth c s₁ Bd hml0 hP hK
  have W := fun {d : Jvm.Cond} (i : Nat) (q : tables_1[i]? = some d) => hw d (List.mem_of_getElem? q)
  obtain ⟨rfl, hZ, hh⟩ := hP
  have hx := Bd.exec
  have hby := Bd.bytes
  have hml : c.maxLocals = 1 := hml0
  have hown : s.vm.findClass "com/example/contexture/contexture/engine/evaluation/TruthValue" = some m.cls := findClass_of_methodNamed Bd.named
  have hnm := (name_of_methodNamed Bd.named Bd.method).1
  have X0 : Stand p l e ({ frames := 0, cells := 0, slots := 0, locals := 0 } : Room) s m #[(.int (0 : Int32))] below meth c s₁ [] 0 0 := Stand.of_body Bd
  have e0 : s₁.heap = h0 := by rw [← hh, Bd.state]; rfl
  have N0 := Fr.nil n0
  have pre0 : ∀ t, Steps p.tables e below (s₁.setTop (mkF m 0 #[iv (0 : Int32)] [])) t → Steps p.tables e below (s₁.setTop (entryFrame m #[(.int (0 : Int32))] 1)) t := fun t k => castTop (ef_19 m (0 : Int32)) k
  have K0 : Keep h0 h0 [] := Keep.refl h0 []
  have pre315 : ∀ t, Steps p.tables e below (s₁.setTop (mkF m 10 #[iv (0 : Int32)] [])) t → Steps p.tables e below (s₁.setTop (entryFrame m #[(.int (0 : Int32))] 1)) t := fun t kt => by
    refine pre0 _ ?_
    show Steps p.tables e below (s₁.setTop (mkF m 0 #[iv (0 : Int32)] [])) _
    refine XS.iloadN X0.here hx rfl (hb hby d10_0) rfl ?_
    refine XS.ifYes X0.here hx rfl (pc0 := 1) (pc' := 10) rfl (hb hby d10_1) rfl (XT.i0_eq_t (by decide)) (by decide) (by decide) ?_
    exact kt
  obtain ⟨T316, X316, e316, st316⟩ := getS2 X0 hx hZ hown (host := "") (Or.inl (W 72 rfl)) Via.refl e0 (G0.ext O0.2) (g := (mkF m 10 #[iv (0 : Int32)] [])) rfl (hb hby d10_10)
  have pre317 : ∀ t, Steps p.tables e below (T316.setTop (mkF m 13 #[iv (0 : Int32)] [(.ref a_FALSE)])) t → Steps p.tables e below (s₁.setTop (entryFrame m #[(.int (0 : Int32))] 1)) t := fun t kt => pre315 _ (st316 _ kt)
  obtain ⟨fs, hr, hrun, hended, hW, hsame⟩ := X316.leave (v := some (.ref a_FALSE)) (fun h => by rw [Bd.returns] at h; cases h)
  refine ⟨_, _, pre317 _ (X316.areturnOut hx rfl Bd.returns rfl (hb hby d10_13) hr), hrun, hended, _, _, rfl, ?_, ⟨_, rfl⟩, hW, hsame.mono (by decide) (by decide)⟩
  show Q_of10_0 Z a_FALSE h0 n0 _ T316.heap _
  rw [e316]
  exact ⟨rfl, N0, rfl⟩
theorem pd_20 : parseMethodDescriptor "(Z)Lcom/example/contexture/contexture/engine/evaluation/TruthValue;" = some ⟨[.boolean], some (.object "com/example/contexture/contexture/engine/evaluation/TruthValue")⟩ := by decide +kernel
theorem d9_17 : decode prog_17_method_6_code 17 = .ok (.invokevirtual 32, 3) := by decide +kernel
theorem d9_20 : decode prog_17_method_6_code 20 = .ok (.areturn, 1) := by decide +kernel
theorem ef_21 (m : MethodId) (x0 : Addr) : entryFrame m #[(.ref x0)] 1 = mkF m 0 #[.val (.ref x0)] [] := by first | (simp [entryFrame, mkF, argsToLocals, Value.category]; done) | rfl
def Q_xor9_0 (Z : State) (b120 : Addr) (a_FALSE : Addr) (h0 : Heap) (n0 : Nat) (v : Option Value) (h : Heap) (L : List Loc) : Prop := v = some (.ref a_FALSE) ∧ Fr n0 L ∧ h = h0
set_option maxRecDepth 65536 in
set_option maxHeartbeats 40000000 in
theorem rm_xor9_0 (l : Launch) (Z : State) (a0 : Array Value) (hw : ∀ d ∈ tables_1, d.before a0 Z = true) (ws : List Jvm.Cond) (b120 : Addr) (a_FALSE : Addr) (h0 : Heap) (n0 : Nat) (O0 : Old Z n0 h0) (G0 : Sta Z Z.heap "com/example/contexture/contexture/engine/evaluation/TruthValue" "FALSE" "Lcom/example/contexture/contexture/engine/evaluation/TruthValue;" (.ref a_FALSE)) (Fi0 : Exa Z h0 b120 "com/example/contexture/contexture/engine/evaluation/TruthValue$Tally") (Fi1 : Fld Z h0 b120 "com/example/contexture/contexture/engine/evaluation/TruthValue$Tally" "trues" "I" (.int (((0 : Int32) + (1 : Int32)) + (1 : Int32)))) (Fi2 : Fld Z h0 b120 "com/example/contexture/contexture/engine/evaluation/TruthValue$Tally" "unknowns" "I" (.int (0 : Int32))) :
    MetFree l (⟨"com/example/contexture/contexture/engine/evaluation/TruthValue$Tally", "xor", "()Lcom/example/contexture/contexture/engine/evaluation/TruthValue;"⟩ : MethodName) (head1 (Jvm.Cond.code (⟨"com/example/contexture/contexture/engine/evaluation/TruthValue$Tally", "xor", "()Lcom/example/contexture/contexture/engine/evaluation/TruthValue;"⟩ : MethodName) prog_17_method_6_code 1 (some (.object "com/example/contexture/contexture/engine/evaluation/TruthValue")) :: ws) ({ frames := 1, cells := 0, slots := 0, locals := 13 } : Room)) (fun a U => a = #[(.ref b120)] ∧ Z.Warmed39 U.vm ∧ U.heap = h0) (fun _ _ _ _ _ => True) (fun _ U o U' => ∃ v L, o = .returned v ∧ Q_xor9_0 Z b120 a_FALSE h0 n0 v U'.heap L ∧ FrameEnd U o U' L ({ frames := 1, cells := 0, slots := 0, locals := 13 } : Room).cells ({ frames := 1, cells := 0, slots := 0, locals := 13 } : Room).slots) := by
  refine MetFree.of_bodySF (plainFor_of_name pn_2) hisR ?_
  intro p e s m args below meth c s₁ Bd hml0 hP hK
  have W := fun {d : Jvm.Cond} (i : Nat) (q : tables_1[i]? = some d) => hw d (List.mem_of_getElem? q)
  obtain ⟨rfl, hZ, hh⟩ := hP
  have hx := Bd.exec
  have hby := Bd.bytes
  have hml : c.maxLocals = 1 := hml0
  have hown : s.vm.findClass "com/example/contexture/contexture/engine/evaluation/TruthValue$Tally" = some m.cls := findClass_of_methodNamed Bd.named
  have hnm := (name_of_methodNamed Bd.named Bd.method).1
  have X0 : Stand p l e ({ frames := 1, cells := 0, slots := 0, locals := 13 } : Room) s m #[(.ref b120)] below meth c s₁ [] 0 0 := Stand.of_body Bd
  have e0 : s₁.heap = h0 := by rw [← hh, Bd.state]; rfl
  have N0 := Fr.nil n0
  have pre0 : ∀ t, Steps p.tables e below (s₁.setTop (mkF m 0 #[rv b120] [])) t → Steps p.tables e below (s₁.setTop (entryFrame m #[(.ref b120)] 1)) t := fun t k => castTop (ef_21 m b120) k
  have K0 : Keep h0 h0 [] := Keep.refl h0 []
  have pre329 : ∀ t, Steps p.tables e below (s₁.setTop (mkF m 2 #[rv b120] [(.ref b120), (.ref b120)])) t → Steps p.tables e below (s₁.setTop (entryFrame m #[(.ref b120)] 1)) t := fun t kt => by
    refine pre0 _ ?_
    show Steps p.tables e below (s₁.setTop (mkF m 0 #[rv b120] [])) _
    refine XS.aloadN X0.here hx rfl (hb hby d9_0) rfl rfl ?_
    refine XS.aloadN X0.here hx rfl (hb hby d9_1) rfl rfl ?_
    exact kt
  obtain ⟨T330, X330, e330, st330⟩ := getF X0 hx hZ hown (host := "") (Or.inl (W 26 rfl)) Via.refl e0 Fi1 (g := (mkF m 2 #[rv b120] [(.ref b120), (.ref b120)])) rfl rfl (hb hby d9_2)
  have pre331 : ∀ t, Steps p.tables e below (T330.setTop (mkF m 5 #[rv b120] [(.int (((0 : Int32) + (1 : Int32)) + (1 : Int32))), (.ref b120)])) t → Steps p.tables e below (s₁.setTop (entryFrame m #[(.ref b120)] 1)) t := fun t kt => pre329 _ (st330 _ kt)
  have pre332 : ∀ t, Steps p.tables e below (T330.setTop (mkF m 14 #[rv b120] [(.int (0 : Int32)), (.ref b120)])) t → Steps p.tables e below (s₁.setTop (entryFrame m #[(.ref b120)] 1)) t := fun t kt => by
    refine pre331 _ ?_
    show Steps p.tables e below (T330.setTop (mkF m 5 #[rv b120] [(.int (((0 : Int32) + (1 : Int32)) + (1 : Int32))), (.ref b120)])) _
    refine XS.iconst X330.here hx rfl (hb hby d9_5) ?_
    refine XS.icmpYes X330.here hx rfl (pc0 := 6) (pc' := 13) rfl (hb hby d9_6) rfl (XT.ii_ne_t (by decide)) (by decide) (by decide) ?_
    refine XS.iconst X330.here hx rfl (hb hby d9_13) ?_
    exact kt
  obtain ⟨_, _, ⟨T333, L333, k333, n333⟩, -, X333, ⟨Lc333, hQ333, l333, y333, z333⟩, st333⟩ := Jvm.LawKit.callS X330 hx (y := (⟨"com/example/contexture/contexture/engine/evaluation/TruthValue", "of", "(Z)Lcom/example/contexture/contexture/engine/evaluation/TruthValue;"⟩ : MethodName)) hown (mvT hZ (W 63 rfl)) (mvT hZ (W 64 rfl)) (mvT hZ (W 6 rfl)) (mvT hZ (W 65 rfl)) (by decide) (backOf (W := 1) (rm_of10_0 l Z a0 hw [] a_FALSE h0 n0 O0 G0) hZ (W 65 rfl) (W 6 rfl) (by decide) (by decide)) (g := (mkF m 14 #[rv b120] [(.int (0 : Int32)), (.ref b120)])) rfl (by rw [hml]; rfl) (argsL := [(.int (0 : Int32))]) (rest := [(.ref b120)]) (lenOf pd_20 rfl) rfl (by show 2 * 0 + _ ≤ _; exact Nat.le_of_eq rfl) (hb hby d9_14) (fun _ _ => ⟨rfl, e330, (by decide : 0 + 0 ≤ _), (by decide : 0 + 0 ≤ _)⟩)
  dsimp only [Pt.U, Pt.locs, Pt.cells, Pt.slots] at X333 l333 y333 z333 st333 hQ333
  replace l333 := l333.symm
  replace y333 : 0 = k333 := y333.symm
  replace z333 : 0 = n333 := z333.symm
  subst l333 y333 z333
  obtain ⟨rfl, M333, e333⟩ := hQ333
  have N333 := Fr.app N0 M333
  have pre334 : ∀ t, Steps p.tables e below (T333.setTop (mkF m 17 #[rv b120] [(.ref a_FALSE), (.ref b120)])) t → Steps p.tables e below (s₁.setTop (entryFrame m #[(.ref b120)] 1)) t := fun t kt => pre332 _ (st333 _ kt)
  obtain ⟨cq335, q335, q335'⟩ := (Fi0).cell
  obtain ⟨_, _, ⟨T335, L335, k335, n335⟩, -, X335, ⟨Lc335, hQ335, l335, y335, z335⟩, st335⟩ := X333.privateBack hx (y := (⟨"com/example/contexture/contexture/engine/evaluation/TruthValue$Tally", "settledBy", "(Lcom/example/contexture/contexture/engine/evaluation/TruthValue;)Lcom/example/contexture/contexture/engine/evaluation/TruthValue;"⟩ : MethodName)) hown (mvT hZ (W 67 rfl)) (mvT hZ (W 68 rfl)) (own_selpriv (mvT hZ (W 13 rfl)) (mvP hZ (W 69 rfl)) (mvT hZ (W 68 rfl)) (by decide)) (Cond.privateMethod_at (mvP hZ (W 69 rfl) (args := #[]))) (mvT hZ (W 70 rfl)) (by decide) (backOf (W := 0) (rm_settledBy11_0 l Z a0 hw [] b120 a_FALSE h0 n0 O0 Fi2) hZ (W 70 rfl) (W 14 rfl) (by decide) (by decide)) (g := (mkF m 17 #[rv b120] [(.ref a_FALSE), (.ref b120)])) rfl (by rw [hml]; rfl) (Steps.refl _) (a := b120) (by rw [e333]; exact q335) q335' (argsL := [(.ref a_FALSE)]) (rest := []) (lenOf pd_14 rfl) rfl (by show 2 * 0 + _ ≤ _; exact Nat.le_of_eq rfl) (hb hby d9_17) (fun _ _ => ⟨rfl, e333, (by decide : 0 + 0 ≤ _), (by decide : 0 + 0 ≤ _)⟩)
  dsimp only [Pt.U, Pt.locs, Pt.cells, Pt.slots] at X335 l335 y335 z335 st335 hQ335
  replace l335 := l335.symm
  replace y335 : 0 = k335 := y335.symm
  replace z335 : 0 = n335 := z335.symm
  subst l335 y335 z335
  obtain ⟨rfl, M335, e335⟩ := hQ335
  have N335 := Fr.app N333 M335
  have pre336 : ∀ t, Steps p.tables e below (T335.setTop (mkF m 20 #[rv b120] [(.ref a_FALSE)])) t → Steps p.tables e below (s₁.setTop (entryFrame m #[(.ref b120)] 1)) t := fun t kt => pre334 _ (st335.trans kt)
  obtain ⟨fs, hr, hrun, hended, hW, hsame⟩ := X335.leave (v := some (.ref a_FALSE)) (fun h => by rw [Bd.returns] at h; cases h)
  refine ⟨_, _, pre336 _ (X335.areturnOut hx rfl Bd.returns rfl (hb hby d9_20) hr), hrun, hended, _, _, rfl, ?_, ⟨_, rfl⟩, hW, hsame.mono (by decide) (by decide)⟩
  show Q_xor9_0 Z b120 a_FALSE h0 n0 _ T335.heap _
  rw [e335]
  exact ⟨rfl, N335, rfl⟩
theorem d7_7 : decode prog_17_method_4_code 7 = .ok (.getstatic 25, 3) := by decide +kernel
theorem d7_10 : decode prog_17_method_4_code 10 = .ok (.goto 10, 3) := by decide +kernel
def Q_and7_1 (Z : State) (b120 : Addr) (a_FALSE : Addr) (h0 : Heap) (n0 : Nat) (v : Option Value) (h : Heap) (L : List Loc) : Prop := v = some (.ref a_FALSE) ∧ Fr n0 L ∧ h = h0
set_option maxRecDepth 65536 in
set_option maxHeartbeats 40000000 in
theorem rm_and7_1 (l : Launch) (Z : State) (a0 : Array Value) (hw : ∀ d ∈ tables_1, d.before a0 Z = true) (ws : List Jvm.Cond) (b120 : Addr) (a_FALSE : Addr) (h0 : Heap) (n0 : Nat) (O0 : Old Z n0 h0) (G0 : Sta Z Z.heap "com/example/contexture/contexture/engine/evaluation/TruthValue" "FALSE" "Lcom/example/contexture/contexture/engine/evaluation/TruthValue;" (.ref a_FALSE)) (Fi0 : Fld Z h0 b120 "com/example/contexture/contexture/engine/evaluation/TruthValue$Tally" "falses" "I" (.int ((0 : Int32) + (1 : Int32)))) :
    MetFree l (⟨"com/example/contexture/contexture/engine/evaluation/TruthValue$Tally", "and", "()Lcom/example/contexture/contexture/engine/evaluation/TruthValue;"⟩ : MethodName) (head1 (Jvm.Cond.code (⟨"com/example/contexture/contexture/engine/evaluation/TruthValue$Tally", "and", "()Lcom/example/contexture/contexture/engine/evaluation/TruthValue;"⟩ : MethodName) prog_17_method_4_code 1 (some (.object "com/example/contexture/contexture/engine/evaluation/TruthValue")) :: ws) ({ frames := 0, cells := 0, slots := 0, locals := 0 } : Room)) (fun a U => a = #[(.ref b120)] ∧ Z.Warmed39 U.vm ∧ U.heap = h0) (fun _ _ _ _ _ => True) (fun _ U o U' => ∃ v L, o = .returned v ∧ Q_and7_1 Z b120 a_FALSE h0 n0 v U'.heap L ∧ FrameEnd U o U' L ({ frames := 0, cells := 0, slots := 0, locals := 0 } : Room).cells ({ frames := 0, cells := 0, slots := 0, locals := 0 } : Room).slots) := by
  refine MetFree.of_bodySF (plainFor_of_name pn_2) hisR ?_
  intro p e s m args below meth c s₁ Bd hml0 hP hK
  have W := fun {d : Jvm.Cond} (i : Nat) (q : tables_1[i]? = some d) => hw d (List.mem_of_getElem? q)
  obtain ⟨rfl, hZ, hh⟩ := hP
  have hx := Bd.exec
  have hby := Bd.bytes
  have hml : c.maxLocals = 1 := hml0
  have hown : s.vm.findClass "com/example/contexture/contexture/engine/evaluation/TruthValue$Tally" = some m.cls := findClass_of_methodNamed Bd.named
  have hnm := (name_of_methodNamed Bd.named Bd.method).1
  have X0 : Stand p l e ({ frames := 0, cells := 0, slots := 0, locals := 0 } : Room) s m #[(.ref b120)] below meth c s₁ [] 0 0 := Stand.of_body Bd
  have e0 : s₁.heap = h0 := by rw [← hh, Bd.state]; rfl
  have N0 := Fr.nil n0
  have pre0 : ∀ t, Steps p.tables e below (s₁.setTop (mkF m 0 #[rv b120] [])) t → Steps p.tables e below (s₁.setTop (entryFrame m #[(.ref b120)] 1)) t := fun t k => castTop (ef_15 m b120) k
  have K0 : Keep h0 h0 [] := Keep.refl h0 []
  have pre377 : ∀ t, Steps p.tables e below (s₁.setTop (mkF m 1 #[rv b120] [(.ref b120)])) t → Steps p.tables e below (s₁.setTop (entryFrame m #[(.ref b120)] 1)) t := fun t kt => by
    refine pre0 _ ?_
    show Steps p.tables e below (s₁.setTop (mkF m 0 #[rv b120] [])) _
    refine XS.aloadN X0.here hx rfl (hb hby d7_0) rfl rfl ?_
    exact kt
  obtain ⟨T378, X378, e378, st378⟩ := getF X0 hx hZ hown (host := "") (Or.inl (W 28 rfl)) Via.refl e0 Fi0 (g := (mkF m 1 #[rv b120] [(.ref b120)])) rfl rfl (hb hby d7_1)
  have pre379 : ∀ t, Steps p.tables e below (T378.setTop (mkF m 4 #[rv b120] [(.int ((0 : Int32) + (1 : Int32)))])) t → Steps p.tables e below (s₁.setTop (entryFrame m #[(.ref b120)] 1)) t := fun t kt => pre377 _ (st378 _ kt)
  have pre380 : ∀ t, Steps p.tables e below (T378.setTop (mkF m 7 #[rv b120] [])) t → Steps p.tables e below (s₁.setTop (entryFrame m #[(.ref b120)] 1)) t := fun t kt => by
    refine pre379 _ ?_
    show Steps p.tables e below (T378.setTop (mkF m 4 #[rv b120] [(.int ((0 : Int32) + (1 : Int32)))])) _
    refine XS.ifNo X378.here hx rfl (hb hby d7_4) rfl (XT.i0_le_f (by decide)) ?_
    exact kt
  obtain ⟨T381, X381, e381, st381⟩ := getS2 X378 hx hZ hown (host := "") (Or.inl (W 51 rfl)) Via.refl e378 (G0.ext O0.2) (g := (mkF m 7 #[rv b120] [])) rfl (hb hby d7_7)
  have pre382 : ∀ t, Steps p.tables e below (T381.setTop (mkF m 10 #[rv b120] [(.ref a_FALSE)])) t → Steps p.tables e below (s₁.setTop (entryFrame m #[(.ref b120)] 1)) t := fun t kt => pre380 _ (st381 _ kt)
  have pre383 : ∀ t, Steps p.tables e below (T381.setTop (mkF m 20 #[rv b120] [(.ref a_FALSE)])) t → Steps p.tables e below (s₁.setTop (entryFrame m #[(.ref b120)] 1)) t := fun t kt => by
    refine pre382 _ ?_
    show Steps p.tables e below (T381.setTop (mkF m 10 #[rv b120] [(.ref a_FALSE)])) _
    refine XS.goto X381.here hx rfl (pc0 := 10) (pc' := 20) rfl (hb hby d7_10) (by decide) (by decide) ?_
    exact kt
  obtain ⟨fs, hr, hrun, hended, hW, hsame⟩ := X381.leave (v := some (.ref a_FALSE)) (fun h => by rw [Bd.returns] at h; cases h)
  refine ⟨_, _, pre383 _ (X381.areturnOut hx rfl Bd.returns rfl (hb hby d7_20) hr), hrun, hended, _, _, rfl, ?_, ⟨_, rfl⟩, hW, hsame.mono (by decide) (by decide)⟩
  show Q_and7_1 Z b120 a_FALSE h0 n0 _ T381.heap _
  rw [e381]
  exact ⟨rfl, N0, rfl⟩
def Q_or8_1 (Z : State) (b120 : Addr) (a_TRUE : Addr) (h0 : Heap) (n0 : Nat) (v : Option Value) (h : Heap) (L : List Loc) : Prop := v = some (.ref a_TRUE) ∧ Fr n0 L ∧ h = h0
set_option maxRecDepth 65536 in
set_option maxHeartbeats 40000000 in
theorem rm_or8_1 (l : Launch) (Z : State) (a0 : Array Value) (hw : ∀ d ∈ tables_1, d.before a0 Z = true) (ws : List Jvm.Cond) (b120 : Addr) (a_TRUE : Addr) (h0 : Heap) (n0 : Nat) (O0 : Old Z n0 h0) (G0 : Sta Z Z.heap "com/example/contexture/contexture/engine/evaluation/TruthValue" "TRUE" "Lcom/example/contexture/contexture/engine/evaluation/TruthValue;" (.ref a_TRUE)) (Fi0 : Fld Z h0 b120 "com/example/contexture/contexture/engine/evaluation/TruthValue$Tally" "trues" "I" (.int ((0 : Int32) + (1 : Int32)))) :
    MetFree l (⟨"com/example/contexture/contexture/engine/evaluation/TruthValue$Tally", "or", "()Lcom/example/contexture/contexture/engine/evaluation/TruthValue;"⟩ : MethodName) (head1 (Jvm.Cond.code (⟨"com/example/contexture/contexture/engine/evaluation/TruthValue$Tally", "or", "()Lcom/example/contexture/contexture/engine/evaluation/TruthValue;"⟩ : MethodName) prog_17_method_5_code 1 (some (.object "com/example/contexture/contexture/engine/evaluation/TruthValue")) :: ws) ({ frames := 0, cells := 0, slots := 0, locals := 0 } : Room)) (fun a U => a = #[(.ref b120)] ∧ Z.Warmed39 U.vm ∧ U.heap = h0) (fun _ _ _ _ _ => True) (fun _ U o U' => ∃ v L, o = .returned v ∧ Q_or8_1 Z b120 a_TRUE h0 n0 v U'.heap L ∧ FrameEnd U o U' L ({ frames := 0, cells := 0, slots := 0, locals := 0 } : Room).cells ({ frames := 0, cells := 0, slots := 0, locals := 0 } : Room).slots) := by
  refine MetFree.of_bodySF (plainFor_of_name pn_2) hisR ?_
  intro p e s m args below meth c s₁ Bd hml0 hP hK
  have W := fun {d : Jvm.Cond} (i : Nat) (q : tables_1[i]? = some d) => hw d (List.mem_of_getElem? q)
  obtain ⟨rfl, hZ, hh⟩ := hP
  have hx := Bd.exec
  have hby := Bd.bytes
  have hml : c.maxLocals = 1 := hml0
  have hown : s.vm.findClass "com/example/contexture/contexture/engine/evaluation/TruthValue$Tally" = some m.cls := findClass_of_methodNamed Bd.named
  have hnm := (name_of_methodNamed Bd.named Bd.method).1
  have X0 : Stand p l e ({ frames := 0, cells := 0, slots := 0, locals := 0 } : Room) s m #[(.ref b120)] below meth c s₁ [] 0 0 := Stand.of_body Bd
  have e0 : s₁.heap = h0 := by rw [← hh, Bd.state]; rfl
  have N0 := Fr.nil n0
  have pre0 : ∀ t, Steps p.tables e below (s₁.setTop (mkF m 0 #[rv b120] [])) t → Steps p.tables e below (s₁.setTop (entryFrame m #[(.ref b120)] 1)) t := fun t k => castTop (ef_17 m b120) k
  have K0 : Keep h0 h0 [] := Keep.refl h0 []
  have pre401 : ∀ t, Steps p.tables e below (s₁.setTop (mkF m 1 #[rv b120] [(.ref b120)])) t → Steps p.tables e below (s₁.setTop (entryFrame m #[(.ref b120)] 1)) t := fun t kt => by
    refine pre0 _ ?_
    show Steps p.tables e below (s₁.setTop (mkF m 0 #[rv b120] [])) _
    refine XS.aloadN X0.here hx rfl (hb hby d8_0) rfl rfl ?_
    exact kt
  obtain ⟨T402, X402, e402, st402⟩ := getF X0 hx hZ hown (host := "") (Or.inl (W 26 rfl)) Via.refl e0 Fi0 (g := (mkF m 1 #[rv b120] [(.ref b120)])) rfl rfl (hb hby d8_1)
  have pre403 : ∀ t, Steps p.tables e below (T402.setTop (mkF m 4 #[rv b120] [(.int ((0 : Int32) + (1 : Int32)))])) t → Steps p.tables e below (s₁.setTop (entryFrame m #[(.ref b120)] 1)) t := fun t kt => pre401 _ (st402 _ kt)
  have pre404 : ∀ t, Steps p.tables e below (T402.setTop (mkF m 7 #[rv b120] [])) t → Steps p.tables e below (s₁.setTop (entryFrame m #[(.ref b120)] 1)) t := fun t kt => by
    refine pre403 _ ?_
    show Steps p.tables e below (T402.setTop (mkF m 4 #[rv b120] [(.int ((0 : Int32) + (1 : Int32)))])) _
    refine XS.ifNo X402.here hx rfl (hb hby d8_4) rfl (XT.i0_le_f (by decide)) ?_
    exact kt
  obtain ⟨T405, X405, e405, st405⟩ := getS2 X402 hx hZ hown (host := "") (Or.inl (W 57 rfl)) Via.refl e402 (G0.ext O0.2) (g := (mkF m 7 #[rv b120] [])) rfl (hb hby d8_7)
  have pre406 : ∀ t, Steps p.tables e below (T405.setTop (mkF m 10 #[rv b120] [(.ref a_TRUE)])) t → Steps p.tables e below (s₁.setTop (entryFrame m #[(.ref b120)] 1)) t := fun t kt => pre404 _ (st405 _ kt)
  have pre407 : ∀ t, Steps p.tables e below (T405.setTop (mkF m 20 #[rv b120] [(.ref a_TRUE)])) t → Steps p.tables e below (s₁.setTop (entryFrame m #[(.ref b120)] 1)) t := fun t kt => by
    refine pre406 _ ?_
    show Steps p.tables e below (T405.setTop (mkF m 10 #[rv b120] [(.ref a_TRUE)])) _
    refine XS.goto X405.here hx rfl (pc0 := 10) (pc' := 20) rfl (hb hby d8_10) (by decide) (by decide) ?_
    exact kt
  obtain ⟨fs, hr, hrun, hended, hW, hsame⟩ := X405.leave (v := some (.ref a_TRUE)) (fun h => by rw [Bd.returns] at h; cases h)
  refine ⟨_, _, pre407 _ (X405.areturnOut hx rfl Bd.returns rfl (hb hby d8_20) hr), hrun, hended, _, _, rfl, ?_, ⟨_, rfl⟩, hW, hsame.mono (by decide) (by decide)⟩
  show Q_or8_1 Z b120 a_TRUE h0 n0 _ T405.heap _
  rw [e405]
  exact ⟨rfl, N0, rfl⟩
theorem d9_9 : decode prog_17_method_6_code 9 = .ok (.iconst 1, 1) := by decide +kernel
theorem d9_10 : decode prog_17_method_6_code 10 = .ok (.goto 4, 3) := by decide +kernel
theorem d10_4 : decode prog_15_method_4_code 4 = .ok (.getstatic 3, 3) := by decide +kernel
theorem d10_7 : decode prog_15_method_4_code 7 = .ok (.goto 6, 3) := by decide +kernel
def Q_of10_1 (Z : State) (a_TRUE : Addr) (h0 : Heap) (n0 : Nat) (v : Option Value) (h : Heap) (L : List Loc) : Prop := v = some (.ref a_TRUE) ∧ Fr n0 L ∧ h = h0
set_option maxRecDepth 65536 in
set_option maxHeartbeats 40000000 in
theorem rm_of10_1 (l : Launch) (Z : State) (a0 : Array Value) (hw : ∀ d ∈ tables_1, d.before a0 Z = true) (ws : List Jvm.Cond) (a_TRUE : Addr) (h0 : Heap) (n0 : Nat) (O0 : Old Z n0 h0) (G0 : Sta Z Z.heap "com/example/contexture/contexture/engine/evaluation/TruthValue" "TRUE" "Lcom/example/contexture/contexture/engine/evaluation/TruthValue;" (.ref a_TRUE)) :
    MetFree l (⟨"com/example/contexture/contexture/engine/evaluation/TruthValue", "of", "(Z)Lcom/example/contexture/contexture/engine/evaluation/TruthValue;"⟩ : MethodName) (head1 (Jvm.Cond.code (⟨"com/example/contexture/contexture/engine/evaluation/TruthValue", "of", "(Z)Lcom/example/contexture/contexture/engine/evaluation/TruthValue;"⟩ : MethodName) prog_15_method_4_code 1 (some (.object "com/example/contexture/contexture/engine/evaluation/TruthValue")) :: ws) ({ frames := 0, cells := 0, slots := 0, locals := 0 } : Room)) (fun a U => a = #[(.int (1 : Int32))] ∧ Z.Warmed39 U.vm ∧ U.heap = h0) (fun _ _ _ _ _ => True) (fun _ U o U' => ∃ v L, o = .returned v ∧ Q_of10_1 Z a_TRUE h0 n0 v U'.heap L ∧ FrameEnd U o U' L ({ frames := 0, cells := 0, slots := 0, locals := 0 } : Room).cells ({ frames := 0, cells := 0, slots := 0, locals := 0 } : Room).slots) := by
  refine MetFree.of_bodySF (plainFor_of_name pn_18) hisR ?_
  intro p e s m args below meth c s₁ Bd hml0 hP hK
  have W := fun {d : Jvm.Cond} (i : Nat) (q : tables_1[i]? = some d) => hw d (List.mem_of_getElem? q)
  obtain ⟨rfl, hZ, hh⟩ := hP
  have hx := Bd.exec
  have hby := Bd.bytes
  have hml : c.maxLocals = 1 := hml0
  have hown : s.vm.findClass "com/example/contexture/contexture/engine/evaluation/TruthValue" = some m.cls := findClass_of_methodNamed Bd.named
  have hnm := (name_of_methodNamed Bd.named Bd.method).1
  have X0 : Stand p l e ({ frames := 0, cells := 0, slots := 0, locals := 0 } : Room) s m #[(.int (1 : Int32))] below meth c s₁ [] 0 0 := Stand.of_body Bd
  have e0 : s₁.heap = h0 := by rw [← hh, Bd.state]; rfl
  have N0 := Fr.nil n0
  have pre0 : ∀ t, Steps p.tables e below (s₁.setTop (mkF m 0 #[iv (1 : Int32)] [])) t → Steps p.tables e below (s₁.setTop (entryFrame m #[(.int (1 : Int32))] 1)) t := fun t k => castTop (ef_19 m (1 : Int32)) k
  have K0 : Keep h0 h0 [] := Keep.refl h0 []
  have pre424 : ∀ t, Steps p.tables e below (s₁.setTop (mkF m 4 #[iv (1 : Int32)] [])) t → Steps p.tables e below (s₁.setTop (entryFrame m #[(.int (1 : Int32))] 1)) t := fun t kt => by
    refine pre0 _ ?_
    show Steps p.tables e below (s₁.setTop (mkF m 0 #[iv (1 : Int32)] [])) _
    refine XS.iloadN X0.here hx rfl (hb hby d10_0) rfl ?_
    refine XS.ifNo X0.here hx rfl (hb hby d10_1) rfl (XT.i0_eq_f (by decide)) ?_
    exact kt
  obtain ⟨T425, X425, e425, st425⟩ := getS2 X0 hx hZ hown (host := "") (Or.inl (W 66 rfl)) Via.refl e0 (G0.ext O0.2) (g := (mkF m 4 #[iv (1 : Int32)] [])) rfl (hb hby d10_4)
  have pre426 : ∀ t, Steps p.tables e below (T425.setTop (mkF m 7 #[iv (1 : Int32)] [(.ref a_TRUE)])) t → Steps p.tables e below (s₁.setTop (entryFrame m #[(.int (1 : Int32))] 1)) t := fun t kt => pre424 _ (st425 _ kt)
  have pre427 : ∀ t, Steps p.tables e below (T425.setTop (mkF m 13 #[iv (1 : Int32)] [(.ref a_TRUE)])) t → Steps p.tables e below (s₁.setTop (entryFrame m #[(.int (1 : Int32))] 1)) t := fun t kt => by
    refine pre426 _ ?_
    show Steps p.tables e below (T425.setTop (mkF m 7 #[iv (1 : Int32)] [(.ref a_TRUE)])) _
    refine XS.goto X425.here hx rfl (pc0 := 7) (pc' := 13) rfl (hb hby d10_7) (by decide) (by decide) ?_
    exact kt
  obtain ⟨fs, hr, hrun, hended, hW, hsame⟩ := X425.leave (v := some (.ref a_TRUE)) (fun h => by rw [Bd.returns] at h; cases h)
  refine ⟨_, _, pre427 _ (X425.areturnOut hx rfl Bd.returns rfl (hb hby d10_13) hr), hrun, hended, _, _, rfl, ?_, ⟨_, rfl⟩, hW, hsame.mono (by decide) (by decide)⟩
  show Q_of10_1 Z a_TRUE h0 n0 _ T425.heap _
  rw [e425]
  exact ⟨rfl, N0, rfl⟩
def Q_xor9_1 (Z : State) (b120 : Addr) (a_TRUE : Addr) (h0 : Heap) (n0 : Nat) (v : Option Value) (h : Heap) (L : List Loc) : Prop := v = some (.ref a_TRUE) ∧ Fr n0 L ∧ h = h0
set_option maxRecDepth 65536 in
set_option maxHeartbeats 40000000 in
theorem rm_xor9_1 (l : Launch) (Z : State) (a0 : Array Value) (hw : ∀ d ∈ tables_1, d.before a0 Z = true) (ws : List Jvm.Cond) (b120 : Addr) (a_TRUE : Addr) (h0 : Heap) (n0 : Nat) (O0 : Old Z n0 h0) (G0 : Sta Z Z.heap "com/example/contexture/contexture/engine/evaluation/TruthValue" "TRUE" "Lcom/example/contexture/contexture/engine/evaluation/TruthValue;" (.ref a_TRUE)) (Fi0 : Exa Z h0 b120 "com/example/contexture/contexture/engine/evaluation/TruthValue$Tally") (Fi1 : Fld Z h0 b120 "com/example/contexture/contexture/engine/evaluation/TruthValue$Tally" "trues" "I" (.int ((0 : Int32) + (1 : Int32)))) (Fi2 : Fld Z h0 b120 "com/example/contexture/contexture/engine/evaluation/TruthValue$Tally" "unknowns" "I" (.int (0 : Int32))) :
    MetFree l (⟨"com/example/contexture/contexture/engine/evaluation/TruthValue$Tally", "xor", "()Lcom/example/contexture/contexture/engine/evaluation/TruthValue;"⟩ : MethodName) (head1 (Jvm.Cond.code (⟨"com/example/contexture/contexture/engine/evaluation/TruthValue$Tally", "xor", "()Lcom/example/contexture/contexture/engine/evaluation/TruthValue;"⟩ : MethodName) prog_17_method_6_code 1 (some (.object "com/example/contexture/contexture/engine/evaluation/TruthValue")) :: ws) ({ frames := 1, cells := 0, slots := 0, locals := 13 } : Room)) (fun a U => a = #[(.ref b120)] ∧ Z.Warmed39 U.vm ∧ U.heap = h0) (fun _ _ _ _ _ => True) (fun _ U o U' => ∃ v L, o = .returned v ∧ Q_xor9_1 Z b120 a_TRUE h0 n0 v U'.heap L ∧ FrameEnd U o U' L ({ frames := 1, cells := 0, slots := 0, locals := 13 } : Room).cells ({ frames := 1, cells := 0, slots := 0, locals := 13 } : Room).slots) := by
  refine MetFree.of_bodySF (plainFor_of_name pn_2) hisR ?_
  intro p e s m args below meth c s₁ Bd hml0 hP hK
  have W := fun {d : Jvm.Cond} (i : Nat) (q : tables_1[i]? = some d) => hw d (List.mem_of_getElem? q)
  obtain ⟨rfl, hZ, hh⟩ := hP
  have hx := Bd.exec
  have hby := Bd.bytes
  have hml : c.maxLocals = 1 := hml0
  have hown : s.vm.findClass "com/example/contexture/contexture/engine/evaluation/TruthValue$Tally" = some m.cls := findClass_of_methodNamed Bd.named
  have hnm := (name_of_methodNamed Bd.named Bd.method).1
  have X0 : Stand p l e ({ frames := 1, cells := 0, slots := 0, locals := 13 } : Room) s m #[(.ref b120)] below meth c s₁ [] 0 0 := Stand.of_body Bd
  have e0 : s₁.heap = h0 := by rw [← hh, Bd.state]; rfl
  have N0 := Fr.nil n0
  have pre0 : ∀ t, Steps p.tables e below (s₁.setTop (mkF m 0 #[rv b120] [])) t → Steps p.tables e below (s₁.setTop (entryFrame m #[(.ref b120)] 1)) t := fun t k => castTop (ef_21 m b120) k
  have K0 : Keep h0 h0 [] := Keep.refl h0 []
  have pre439 : ∀ t, Steps p.tables e below (s₁.setTop (mkF m 2 #[rv b120] [(.ref b120), (.ref b120)])) t → Steps p.tables e below (s₁.setTop (entryFrame m #[(.ref b120)] 1)) t := fun t kt => by
    refine pre0 _ ?_
    show Steps p.tables e below (s₁.setTop (mkF m 0 #[rv b120] [])) _
    refine XS.aloadN X0.here hx rfl (hb hby d9_0) rfl rfl ?_
    refine XS.aloadN X0.here hx rfl (hb hby d9_1) rfl rfl ?_
    exact kt
  obtain ⟨T440, X440, e440, st440⟩ := getF X0 hx hZ hown (host := "") (Or.inl (W 26 rfl)) Via.refl e0 Fi1 (g := (mkF m 2 #[rv b120] [(.ref b120), (.ref b120)])) rfl rfl (hb hby d9_2)
  have pre441 : ∀ t, Steps p.tables e below (T440.setTop (mkF m 5 #[rv b120] [(.int ((0 : Int32) + (1 : Int32))), (.ref b120)])) t → Steps p.tables e below (s₁.setTop (entryFrame m #[(.ref b120)] 1)) t := fun t kt => pre439 _ (st440 _ kt)
  have pre442 : ∀ t, Steps p.tables e below (T440.setTop (mkF m 14 #[rv b120] [(.int (1 : Int32)), (.ref b120)])) t → Steps p.tables e below (s₁.setTop (entryFrame m #[(.ref b120)] 1)) t := fun t kt => by
    refine pre441 _ ?_
    show Steps p.tables e below (T440.setTop (mkF m 5 #[rv b120] [(.int ((0 : Int32) + (1 : Int32))), (.ref b120)])) _
    refine XS.iconst X440.here hx rfl (hb hby d9_5) ?_
    refine XS.icmpNo X440.here hx rfl (hb hby d9_6) rfl (XT.ii_ne_f (by decide)) ?_
    refine XS.iconst X440.here hx rfl (hb hby d9_9) ?_
    refine XS.goto X440.here hx rfl (pc0 := 10) (pc' := 14) rfl (hb hby d9_10) (by decide) (by decide) ?_
    exact kt
  obtain ⟨_, _, ⟨T443, L443, k443, n443⟩, -, X443, ⟨Lc443, hQ443, l443, y443, z443⟩, st443⟩ := Jvm.LawKit.callS X440 hx (y := (⟨"com/example/contexture/contexture/engine/evaluation/TruthValue", "of", "(Z)Lcom/example/contexture/contexture/engine/evaluation/TruthValue;"⟩ : MethodName)) hown (mvT hZ (W 63 rfl)) (mvT hZ (W 64 rfl)) (mvT hZ (W 6 rfl)) (mvT hZ (W 65 rfl)) (by decide) (backOf (W := 1) (rm_of10_1 l Z a0 hw [] a_TRUE h0 n0 O0 G0) hZ (W 65 rfl) (W 6 rfl) (by decide) (by decide)) (g := (mkF m 14 #[rv b120] [(.int (1 : Int32)), (.ref b120)])) rfl (by rw [hml]; rfl) (argsL := [(.int (1 : Int32))]) (rest := [(.ref b120)]) (lenOf pd_20 rfl) rfl (by show 2 * 0 + _ ≤ _; exact Nat.le_of_eq rfl) (hb hby d9_14) (fun _ _ => ⟨rfl, e440, (by decide : 0 + 0 ≤ _), (by decide : 0 + 0 ≤ _)⟩)
  dsimp only [Pt.U, Pt.locs, Pt.cells, Pt.slots] at X443 l443 y443 z443 st443 hQ443
  replace l443 := l443.symm
  replace y443 : 0 = k443 := y443.symm
  replace z443 : 0 = n443 := z443.symm
  subst l443 y443 z443
  obtain ⟨rfl, M443, e443⟩ := hQ443
  have N443 := Fr.app N0 M443
  have pre444 : ∀ t, Steps p.tables e below (T443.setTop (mkF m 17 #[rv b120] [(.ref a_TRUE), (.ref b120)])) t → Steps p.tables e below (s₁.setTop (entryFrame m #[(.ref b120)] 1)) t := fun t kt => pre442 _ (st443 _ kt)
  obtain ⟨cq445, q445, q445'⟩ := (Fi0).cell
  obtain ⟨_, _, ⟨T445, L445, k445, n445⟩, -, X445, ⟨Lc445, hQ445, l445, y445, z445⟩, st445⟩ := X443.privateBack hx (y := (⟨"com/example/contexture/contexture/engine/evaluation/TruthValue$Tally", "settledBy", "(Lcom/example/contexture/contexture/engine/evaluation/TruthValue;)Lcom/example/contexture/contexture/engine/evaluation/TruthValue;"⟩ : MethodName)) hown (mvT hZ (W 67 rfl)) (mvT hZ (W 68 rfl)) (own_selpriv (mvT hZ (W 13 rfl)) (mvP hZ (W 69 rfl)) (mvT hZ (W 68 rfl)) (by decide)) (Cond.privateMethod_at (mvP hZ (W 69 rfl) (args := #[]))) (mvT hZ (W 70 rfl)) (by decide) (backOf (W := 0) (rm_settledBy11_0 l Z a0 hw [] b120 a_TRUE h0 n0 O0 Fi2) hZ (W 70 rfl) (W 14 rfl) (by decide) (by decide)) (g := (mkF m 17 #[rv b120] [(.ref a_TRUE), (.ref b120)])) rfl (by rw [hml]; rfl) (Steps.refl _) (a := b120) (by rw [e443]; exact q445) q445' (argsL := [(.ref a_TRUE)]) (rest := []) (lenOf pd_14 rfl) rfl (by show 2 * 0 + _ ≤ _; exact Nat.le_of_eq rfl) (hb hby d9_17) (fun _ _ => ⟨rfl, e443, (by decide : 0 + 0 ≤ _), (by decide : 0 + 0 ≤ _)⟩)
  dsimp only [Pt.U, Pt.locs, Pt.cells, Pt.slots] at X445 l445 y445 z445 st445 hQ445
  replace l445 := l445.symm
  replace y445 : 0 = k445 := y445.symm
  replace z445 : 0 = n445 := z445.symm
  subst l445 y445 z445
  obtain ⟨rfl, M445, e445⟩ := hQ445
  have N445 := Fr.app N443 M445
  have pre446 : ∀ t, Steps p.tables e below (T445.setTop (mkF m 20 #[rv b120] [(.ref a_TRUE)])) t → Steps p.tables e below (s₁.setTop (entryFrame m #[(.ref b120)] 1)) t := fun t kt => pre444 _ (st445.trans kt)
  obtain ⟨fs, hr, hrun, hended, hW, hsame⟩ := X445.leave (v := some (.ref a_TRUE)) (fun h => by rw [Bd.returns] at h; cases h)
  refine ⟨_, _, pre446 _ (X445.areturnOut hx rfl Bd.returns rfl (hb hby d9_20) hr), hrun, hended, _, _, rfl, ?_, ⟨_, rfl⟩, hW, hsame.mono (by decide) (by decide)⟩
  show Q_xor9_1 Z b120 a_TRUE h0 n0 _ T445.heap _
  rw [e445]
  exact ⟨rfl, N445, rfl⟩
theorem d11_7 : decode prog_17_method_7_code 7 = .ok (.getstatic 40, 3) := by decide +kernel
theorem d11_10 : decode prog_17_method_7_code 10 = .ok (.goto 4, 3) := by decide +kernel
def Q_settledBy11_1 (Z : State) (b120 : Addr) (a_TRUE : Addr) (a_UNKNOWN : Addr) (h0 : Heap) (n0 : Nat) (v : Option Value) (h : Heap) (L : List Loc) : Prop := v = some (.ref a_UNKNOWN) ∧ Fr n0 L ∧ h = h0
set_option maxRecDepth 65536 in
set_option maxHeartbeats 40000000 in
theorem rm_settledBy11_1 (l : Launch) (Z : State) (a0 : Array Value) (hw : ∀ d ∈ tables_1, d.before a0 Z = true) (ws : List Jvm.Cond) (b120 : Addr) (a_TRUE : Addr) (a_UNKNOWN : Addr) (h0 : Heap) (n0 : Nat) (O0 : Old Z n0 h0) (G0 : Sta Z Z.heap "com/example/contexture/contexture/engine/evaluation/TruthValue" "UNKNOWN" "Lcom/example/contexture/contexture/engine/evaluation/TruthValue;" (.ref a_UNKNOWN)) (Fi0 : Fld Z h0 b120 "com/example/contexture/contexture/engine/evaluation/TruthValue$Tally" "unknowns" "I" (.int ((0 : Int32) + (1 : Int32)))) :
    MetFree l (⟨"com/example/contexture/contexture/engine/evaluation/TruthValue$Tally", "settledBy", "(Lcom/example/contexture/contexture/engine/evaluation/TruthValue;)Lcom/example/contexture/contexture/engine/evaluation/TruthValue;"⟩ : MethodName) (head1 (Jvm.Cond.code (⟨"com/example/contexture/contexture/engine/evaluation/TruthValue$Tally", "settledBy", "(Lcom/example/contexture/contexture/engine/evaluation/TruthValue;)Lcom/example/contexture/contexture/engine/evaluation/TruthValue;"⟩ : MethodName) prog_17_method_7_code 2 (some (.object "com/example/contexture/contexture/engine/evaluation/TruthValue")) :: ws) ({ frames := 0, cells := 0, slots := 0, locals := 0 } : Room)) (fun a U => a = #[(.ref b120), (.ref a_TRUE)] ∧ Z.Warmed39 U.vm ∧ U.heap = h0) (fun _ _ _ _ _ => True) (fun _ U o U' => ∃ v L, o = .returned v ∧ Q_settledBy11_1 Z b120 a_TRUE a_UNKNOWN h0 n0 v U'.heap L ∧ FrameEnd U o U' L ({ frames := 0, cells := 0, slots := 0, locals := 0 } : Room).cells ({ frames := 0, cells := 0, slots := 0, locals := 0 } : Room).slots) := by
  refine MetFree.of_bodySF (plainFor_of_name pn_2) hisR ?_
  intro p e s m args below meth c s₁ Bd hml0 hP hK
  have W := fun {d : Jvm.Cond} (i : Nat) (q : tables_1[i]? = some d) => hw d (List.mem_of_getElem? q)
  obtain ⟨rfl, hZ, hh⟩ := hP
  have hx := Bd.exec
  have hby := Bd.bytes
  have hml : c.maxLocals = 2 := hml0
  have hown : s.vm.findClass "com/example/contexture/contexture/engine/evaluation/TruthValue$Tally" = some m.cls := findClass_of_methodNamed Bd.named
  have hnm := (name_of_methodNamed Bd.named Bd.method).1
  have X0 : Stand p l e ({ frames := 0, cells := 0, slots := 0, locals := 0 } : Room) s m #[(.ref b120), (.ref a_TRUE)] below meth c s₁ [] 0 0 := Stand.of_body Bd
  have e0 : s₁.heap = h0 := by rw [← hh, Bd.state]; rfl
  have N0 := Fr.nil n0
  have pre0 : ∀ t, Steps p.tables e below (s₁.setTop (mkF m 0 #[rv b120, rv a_TRUE] [])) t → Steps p.tables e below (s₁.setTop (entryFrame m #[(.ref b120), (.ref a_TRUE)] 2)) t := fun t k => castTop (ef_13 m b120 a_TRUE) k
  have K0 : Keep h0 h0 [] := Keep.refl h0 []
  have pre494 : ∀ t, Steps p.tables e below (s₁.setTop (mkF m 1 #[rv b120, rv a_TRUE] [(.ref b120)])) t → Steps p.tables e below (s₁.setTop (entryFrame m #[(.ref b120), (.ref a_TRUE)] 2)) t := fun t kt => by
    refine pre0 _ ?_
    show Steps p.tables e below (s₁.setTop (mkF m 0 #[rv b120, rv a_TRUE] [])) _
    refine XS.aloadN X0.here hx rfl (hb hby d11_0) rfl rfl ?_
    exact kt
  obtain ⟨T495, X495, e495, st495⟩ := getF X0 hx hZ hown (host := "") (Or.inl (W 30 rfl)) Via.refl e0 Fi0 (g := (mkF m 1 #[rv b120, rv a_TRUE] [(.ref b120)])) rfl rfl (hb hby d11_1)
  have pre496 : ∀ t, Steps p.tables e below (T495.setTop (mkF m 4 #[rv b120, rv a_TRUE] [(.int ((0 : Int32) + (1 : Int32)))])) t → Steps p.tables e below (s₁.setTop (entryFrame m #[(.ref b120), (.ref a_TRUE)] 2)) t := fun t kt => pre494 _ (st495 _ kt)
  have pre497 : ∀ t, Steps p.tables e below (T495.setTop (mkF m 7 #[rv b120, rv a_TRUE] [])) t → Steps p.tables e below (s₁.setTop (entryFrame m #[(.ref b120), (.ref a_TRUE)] 2)) t := fun t kt => by
    refine pre496 _ ?_
    show Steps p.tables e below (T495.setTop (mkF m 4 #[rv b120, rv a_TRUE] [(.int ((0 : Int32) + (1 : Int32)))])) _
    refine XS.ifNo X495.here hx rfl (hb hby d11_4) rfl (XT.i0_le_f (by decide)) ?_
    exact kt
  obtain ⟨T498, X498, e498, st498⟩ := getS2 X495 hx hZ hown (host := "") (Or.inl (W 71 rfl)) Via.refl e495 (G0.ext O0.2) (g := (mkF m 7 #[rv b120, rv a_TRUE] [])) rfl (hb hby d11_7)
  have pre499 : ∀ t, Steps p.tables e below (T498.setTop (mkF m 10 #[rv b120, rv a_TRUE] [(.ref a_UNKNOWN)])) t → Steps p.tables e below (s₁.setTop (entryFrame m #[(.ref b120), (.ref a_TRUE)] 2)) t := fun t kt => pre497 _ (st498 _ kt)
  have pre500 : ∀ t, Steps p.tables e below (T498.setTop (mkF m 14 #[rv b120, rv a_TRUE] [(.ref a_UNKNOWN)])) t → Steps p.tables e below (s₁.setTop (entryFrame m #[(.ref b120), (.ref a_TRUE)] 2)) t := fun t kt => by
    refine pre499 _ ?_
    show Steps p.tables e below (T498.setTop (mkF m 10 #[rv b120, rv a_TRUE] [(.ref a_UNKNOWN)])) _
    refine XS.goto X498.here hx rfl (pc0 := 10) (pc' := 14) rfl (hb hby d11_10) (by decide) (by decide) ?_
    exact kt
  obtain ⟨fs, hr, hrun, hended, hW, hsame⟩ := X498.leave (v := some (.ref a_UNKNOWN)) (fun h => by rw [Bd.returns] at h; cases h)
  refine ⟨_, _, pre500 _ (X498.areturnOut hx rfl Bd.returns rfl (hb hby d11_14) hr), hrun, hended, _, _, rfl, ?_, ⟨_, rfl⟩, hW, hsame.mono (by decide) (by decide)⟩
  show Q_settledBy11_1 Z b120 a_TRUE a_UNKNOWN h0 n0 _ T498.heap _
  rw [e498]
  exact ⟨rfl, N0, rfl⟩
def Q_and7_2 (Z : State) (b120 : Addr) (a_UNKNOWN : Addr) (a_TRUE : Addr) (h0 : Heap) (n0 : Nat) (v : Option Value) (h : Heap) (L : List Loc) : Prop := v = some (.ref a_UNKNOWN) ∧ Fr n0 L ∧ h = h0
set_option maxRecDepth 65536 in
set_option maxHeartbeats 40000000 in
theorem rm_and7_2 (l : Launch) (Z : State) (a0 : Array Value) (hw : ∀ d ∈ tables_1, d.before a0 Z = true) (ws : List Jvm.Cond) (b120 : Addr) (a_UNKNOWN : Addr) (a_TRUE : Addr) (h0 : Heap) (n0 : Nat) (O0 : Old Z n0 h0) (G0 : Sta Z Z.heap "com/example/contexture/contexture/engine/evaluation/TruthValue" "UNKNOWN" "Lcom/example/contexture/contexture/engine/evaluation/TruthValue;" (.ref a_UNKNOWN)) (G1 : Sta Z Z.heap "com/example/contexture/contexture/engine/evaluation/TruthValue" "TRUE" "Lcom/example/contexture/contexture/engine/evaluation/TruthValue;" (.ref a_TRUE)) (Fi0 : Exa Z h0 b120 "com/example/contexture/contexture/engine/evaluation/TruthValue$Tally") (Fi1 : Fld Z h0 b120 "com/example/contexture/contexture/engine/evaluation/TruthValue$Tally" "falses" "I" (.int (0 : Int32))) (Fi2 : Fld Z h0 b120 "com/example/contexture/contexture/engine/evaluation/TruthValue$Tally" "unknowns" "I" (.int ((0 : Int32) + (1 : Int32)))) :
    MetFree l (⟨"com/example/contexture/contexture/engine/evaluation/TruthValue$Tally", "and", "()Lcom/example/contexture/contexture/engine/evaluation/TruthValue;"⟩ : MethodName) (head1 (Jvm.Cond.code (⟨"com/example/contexture/contexture/engine/evaluation/TruthValue$Tally", "and", "()Lcom/example/contexture/contexture/engine/evaluation/TruthValue;"⟩ : MethodName) prog_17_method_4_code 1 (some (.object "com/example/contexture/contexture/engine/evaluation/TruthValue")) :: ws) ({ frames := 1, cells := 0, slots := 0, locals := 13 } : Room)) (fun a U => a = #[(.ref b120)] ∧ Z.Warmed39 U.vm ∧ U.heap = h0) (fun _ _ _ _ _ => True) (fun _ U o U' => ∃ v L, o = .returned v ∧ Q_and7_2 Z b120 a_UNKNOWN a_TRUE h0 n0 v U'.heap L ∧ FrameEnd U o U' L ({ frames := 1, cells := 0, slots := 0, locals := 13 } : Room).cells ({ frames := 1, cells := 0, slots := 0, locals := 13 } : Room).slots) := by
  refine MetFree.of_bodySF (plainFor_of_name pn_2) hisR ?_
  intro p e s m args below meth c s₁ Bd hml0 hP hK
  have W := fun {d : Jvm.Cond} (i : Nat) (q : tables_1[i]? = some d) => hw d (List.mem_of_getElem? q)
  obtain ⟨rfl, hZ, hh⟩ := hP
  have hx := Bd.exec
  have hby := Bd.bytes
  have hml : c.maxLocals = 1 := hml0
  have hown : s.vm.findClass "com/example/contexture/contexture/engine/evaluation/TruthValue$Tally" = some m.cls := findClass_of_methodNamed Bd.named
  have hnm := (name_of_methodNamed Bd.named Bd.method).1
  have X0 : Stand p l e ({ frames := 1, cells := 0, slots := 0, locals := 13 } : Room) s m #[(.ref b120)] below meth c s₁ [] 0 0 := Stand.of_body Bd
  have e0 : s₁.heap = h0 := by rw [← hh, Bd.state]; rfl
  have N0 := Fr.nil n0
  have pre0 : ∀ t, Steps p.tables e below (s₁.setTop (mkF m 0 #[rv b120] [])) t → Steps p.tables e below (s₁.setTop (entryFrame m #[(.ref b120)] 1)) t := fun t k => castTop (ef_15 m b120) k
  have K0 : Keep h0 h0 [] := Keep.refl h0 []
  have pre510 : ∀ t, Steps p.tables e below (s₁.setTop (mkF m 1 #[rv b120] [(.ref b120)])) t → Steps p.tables e below (s₁.setTop (entryFrame m #[(.ref b120)] 1)) t := fun t kt => by
    refine pre0 _ ?_
    show Steps p.tables e below (s₁.setTop (mkF m 0 #[rv b120] [])) _
    refine XS.aloadN X0.here hx rfl (hb hby d7_0) rfl rfl ?_
    exact kt
  obtain ⟨T511, X511, e511, st511⟩ := getF X0 hx hZ hown (host := "") (Or.inl (W 28 rfl)) Via.refl e0 Fi1 (g := (mkF m 1 #[rv b120] [(.ref b120)])) rfl rfl (hb hby d7_1)
  have pre512 : ∀ t, Steps p.tables e below (T511.setTop (mkF m 4 #[rv b120] [(.int (0 : Int32))])) t → Steps p.tables e below (s₁.setTop (entryFrame m #[(.ref b120)] 1)) t := fun t kt => pre510 _ (st511 _ kt)
  have pre513 : ∀ t, Steps p.tables e below (T511.setTop (mkF m 14 #[rv b120] [(.ref b120)])) t → Steps p.tables e below (s₁.setTop (entryFrame m #[(.ref b120)] 1)) t := fun t kt => by
    refine pre512 _ ?_
    show Steps p.tables e below (T511.setTop (mkF m 4 #[rv b120] [(.int (0 : Int32))])) _
    refine XS.ifYes X511.here hx rfl (pc0 := 4) (pc' := 13) rfl (hb hby d7_4) rfl (XT.i0_le_t (by decide)) (by decide) (by decide) ?_
    refine XS.aloadN X511.here hx rfl (hb hby d7_13) rfl rfl ?_
    exact kt
  obtain ⟨T514, X514, e514, st514⟩ := getS2 X511 hx hZ hown (host := "") (Or.inl (W 57 rfl)) Via.refl e511 (G1.ext O0.2) (g := (mkF m 14 #[rv b120] [(.ref b120)])) rfl (hb hby d7_14)
  have pre515 : ∀ t, Steps p.tables e below (T514.setTop (mkF m 17 #[rv b120] [(.ref a_TRUE), (.ref b120)])) t → Steps p.tables e below (s₁.setTop (entryFrame m #[(.ref b120)] 1)) t := fun t kt => pre513 _ (st514 _ kt)
  obtain ⟨cq516, q516, q516'⟩ := (Fi0).cell
  obtain ⟨_, _, ⟨T516, L516, k516, n516⟩, -, X516, ⟨Lc516, hQ516, l516, y516, z516⟩, st516⟩ := X514.privateBack hx (y := (⟨"com/example/contexture/contexture/engine/evaluation/TruthValue$Tally", "settledBy", "(Lcom/example/contexture/contexture/engine/evaluation/TruthValue;)Lcom/example/contexture/contexture/engine/evaluation/TruthValue;"⟩ : MethodName)) hown (mvT hZ (W 67 rfl)) (mvT hZ (W 68 rfl)) (own_selpriv (mvT hZ (W 13 rfl)) (mvP hZ (W 69 rfl)) (mvT hZ (W 68 rfl)) (by decide)) (Cond.privateMethod_at (mvP hZ (W 69 rfl) (args := #[]))) (mvT hZ (W 70 rfl)) (by decide) (backOf (W := 0) (rm_settledBy11_1 l Z a0 hw [] b120 a_TRUE a_UNKNOWN h0 n0 O0 G0 Fi2) hZ (W 70 rfl) (W 14 rfl) (by decide) (by decide)) (g := (mkF m 17 #[rv b120] [(.ref a_TRUE), (.ref b120)])) rfl (by rw [hml]; rfl) (Steps.refl _) (a := b120) (by rw [e514]; exact q516) q516' (argsL := [(.ref a_TRUE)]) (rest := []) (lenOf pd_14 rfl) rfl (by show 2 * 0 + _ ≤ _; exact Nat.le_of_eq rfl) (hb hby d7_17) (fun _ _ => ⟨rfl, e514, (by decide : 0 + 0 ≤ _), (by decide : 0 + 0 ≤ _)⟩)
  dsimp only [Pt.U, Pt.locs, Pt.cells, Pt.slots] at X516 l516 y516 z516 st516 hQ516
  replace l516 := l516.symm
  replace y516 : 0 = k516 := y516.symm
  replace z516 : 0 = n516 := z516.symm
  subst l516 y516 z516
  obtain ⟨rfl, M516, e516⟩ := hQ516
  have N516 := Fr.app N0 M516
  have pre517 : ∀ t, Steps p.tables e below (T516.setTop (mkF m 20 #[rv b120] [(.ref a_UNKNOWN)])) t → Steps p.tables e below (s₁.setTop (entryFrame m #[(.ref b120)] 1)) t := fun t kt => pre515 _ (st516.trans kt)
  obtain ⟨fs, hr, hrun, hended, hW, hsame⟩ := X516.leave (v := some (.ref a_UNKNOWN)) (fun h => by rw [Bd.returns] at h; cases h)
  refine ⟨_, _, pre517 _ (X516.areturnOut hx rfl Bd.returns rfl (hb hby d7_20) hr), hrun, hended, _, _, rfl, ?_, ⟨_, rfl⟩, hW, hsame.mono (by decide) (by decide)⟩
  show Q_and7_2 Z b120 a_UNKNOWN a_TRUE h0 n0 _ T516.heap _
  rw [e516]
  exact ⟨rfl, N516, rfl⟩
def Q_xor9_2 (Z : State) (b120 : Addr) (a_UNKNOWN : Addr) (a_TRUE : Addr) (h0 : Heap) (n0 : Nat) (v : Option Value) (h : Heap) (L : List Loc) : Prop := v = some (.ref a_UNKNOWN) ∧ Fr n0 L ∧ h = h0
set_option maxRecDepth 65536 in
set_option maxHeartbeats 40000000 in
theorem rm_xor9_2 (l : Launch) (Z : State) (a0 : Array Value) (hw : ∀ d ∈ tables_1, d.before a0 Z = true) (ws : List Jvm.Cond) (b120 : Addr) (a_UNKNOWN : Addr) (a_TRUE : Addr) (h0 : Heap) (n0 : Nat) (O0 : Old Z n0 h0) (G0 : Sta Z Z.heap "com/example/contexture/contexture/engine/evaluation/TruthValue" "UNKNOWN" "Lcom/example/contexture/contexture/engine/evaluation/TruthValue;" (.ref a_UNKNOWN)) (G1 : Sta Z Z.heap "com/example/contexture/contexture/engine/evaluation/TruthValue" "TRUE" "Lcom/example/contexture/contexture/engine/evaluation/TruthValue;" (.ref a_TRUE)) (Fi0 : Exa Z h0 b120 "com/example/contexture/contexture/engine/evaluation/TruthValue$Tally") (Fi1 : Fld Z h0 b120 "com/example/contexture/contexture/engine/evaluation/TruthValue$Tally" "trues" "I" (.int ((0 : Int32) + (1 : Int32)))) (Fi2 : Fld Z h0 b120 "com/example/contexture/contexture/engine/evaluation/TruthValue$Tally" "unknowns" "I" (.int ((0 : Int32) + (1 : Int32)))) :
    MetFree l (⟨"com/example/contexture/contexture/engine/evaluation/TruthValue$Tally", "xor", "()Lcom/example/contexture/contexture/engine/evaluation/TruthValue;"⟩ : MethodName) (head1 (Jvm.Cond.code (⟨"com/example/contexture/contexture/engine/evaluation/TruthValue$Tally", "xor", "()Lcom/example/contexture/contexture/engine/evaluation/TruthValue;"⟩ : MethodName) prog_17_method_6_code 1 (some (.object "com/example/contexture/contexture/engine/evaluation/TruthValue")) :: ws) ({ frames := 1, cells := 0, slots := 0, locals := 13 } : Room)) (fun a U => a = #[(.ref b120)] ∧ Z.Warmed39 U.vm ∧ U.heap = h0) (fun _ _ _ _ _ => True) (fun _ U o U' => ∃ v L, o = .returned v ∧ Q_xor9_2 Z b120 a_UNKNOWN a_TRUE h0 n0 v U'.heap L ∧ FrameEnd U o U' L ({ frames := 1, cells := 0, slots := 0, locals := 13 } : Room).cells ({ frames := 1, cells := 0, slots := 0, locals := 13 } : Room).slots) := by
  refine MetFree.of_bodySF (plainFor_of_name pn_2) hisR ?_
  intro p e s m args below meth c s₁ Bd hml0 hP hK
  have W := fun {d : Jvm.Cond} (i : Nat) (q : tables_1[i]? = some d) => hw d (List.mem_of_getElem? q)
  obtain ⟨rfl, hZ, hh⟩ := hP
  have hx := Bd.exec
  have hby := Bd.bytes
  have hml : c.maxLocals = 1 := hml0
  have hown : s.vm.findClass "com/example/contexture/contexture/engine/evaluation/TruthValue$Tally" = some m.cls := findClass_of_methodNamed Bd.named
  have hnm := (name_of_methodNamed Bd.named Bd.method).1
  have X0 : Stand p l e ({ frames := 1, cells := 0, slots := 0, locals := 13 } : Room) s m #[(.ref b120)] below meth c s₁ [] 0 0 := Stand.of_body Bd
  have e0 : s₁.heap = h0 := by rw [← hh, Bd.state]; rfl
  have N0 := Fr.nil n0
  have pre0 : ∀ t, Steps p.tables e below (s₁.setTop (mkF m 0 #[rv b120] [])) t → Steps p.tables e below (s₁.setTop (entryFrame m #[(.ref b120)] 1)) t := fun t k => castTop (ef_21 m b120) k
  have K0 : Keep h0 h0 [] := Keep.refl h0 []
  have pre540 : ∀ t, Steps p.tables e below (s₁.setTop (mkF m 2 #[rv b120] [(.ref b120), (.ref b120)])) t → Steps p.tables e below (s₁.setTop (entryFrame m #[(.ref b120)] 1)) t := fun t kt => by
    refine pre0 _ ?_
    show Steps p.tables e below (s₁.setTop (mkF m 0 #[rv b120] [])) _
    refine XS.aloadN X0.here hx rfl (hb hby d9_0) rfl rfl ?_
    refine XS.aloadN X0.here hx rfl (hb hby d9_1) rfl rfl ?_
    exact kt
  obtain ⟨T541, X541, e541, st541⟩ := getF X0 hx hZ hown (host := "") (Or.inl (W 26 rfl)) Via.refl e0 Fi1 (g := (mkF m 2 #[rv b120] [(.ref b120), (.ref b120)])) rfl rfl (hb hby d9_2)
  have pre542 : ∀ t, Steps p.tables e below (T541.setTop (mkF m 5 #[rv b120] [(.int ((0 : Int32) + (1 : Int32))), (.ref b120)])) t → Steps p.tables e below (s₁.setTop (entryFrame m #[(.ref b120)] 1)) t := fun t kt => pre540 _ (st541 _ kt)
  have pre543 : ∀ t, Steps p.tables e below (T541.setTop (mkF m 14 #[rv b120] [(.int (1 : Int32)), (.ref b120)])) t → Steps p.tables e below (s₁.setTop (entryFrame m #[(.ref b120)] 1)) t := fun t kt => by
    refine pre542 _ ?_
    show Steps p.tables e below (T541.setTop (mkF m 5 #[rv b120] [(.int ((0 : Int32) + (1 : Int32))), (.ref b120)])) _
    refine XS.iconst X541.here hx rfl (hb hby d9_5) ?_
    refine XS.icmpNo X541.here hx rfl (hb hby d9_6) rfl (XT.ii_ne_f (by decide)) ?_
    refine XS.iconst X541.here hx rfl (hb hby d9_9) ?_
    refine XS.goto X541.here hx rfl (pc0 := 10) (pc' := 14) rfl (hb hby d9_10) (by decide) (by decide) ?_
    exact kt
  obtain ⟨_, _, ⟨T544, L544, k544, n544⟩, -, X544, ⟨Lc544, hQ544, l544, y544, z544⟩, st544⟩ := Jvm.LawKit.callS X541 hx (y := (⟨"com/example/contexture/contexture/engine/evaluation/TruthValue", "of", "(Z)Lcom/example/contexture/contexture/engine/evaluation/TruthValue;"⟩ : MethodName)) hown (mvT hZ (W 63 rfl)) (mvT hZ (W 64 rfl)) (mvT hZ (W 6 rfl)) (mvT hZ (W 65 rfl)) (by decide) (backOf (W := 1) (rm_of10_1 l Z a0 hw [] a_TRUE h0 n0 O0 G1) hZ (W 65 rfl) (W 6 rfl) (by decide) (by decide)) (g := (mkF m 14 #[rv b120] [(.int (1 : Int32)), (.ref b120)])) rfl (by rw [hml]; rfl) (argsL := [(.int (1 : Int32))]) (rest := [(.ref b120)]) (lenOf pd_20 rfl) rfl (by show 2 * 0 + _ ≤ _; exact Nat.le_of_eq rfl) (hb hby d9_14) (fun _ _ => ⟨rfl, e541, (by decide : 0 + 0 ≤ _), (by decide : 0 + 0 ≤ _)⟩)
  dsimp only [Pt.U, Pt.locs, Pt.cells, Pt.slots] at X544 l544 y544 z544 st544 hQ544
  replace l544 := l544.symm
  replace y544 : 0 = k544 := y544.symm
  replace z544 : 0 = n544 := z544.symm
  subst l544 y544 z544
  obtain ⟨rfl, M544, e544⟩ := hQ544
  have N544 := Fr.app N0 M544
  have pre545 : ∀ t, Steps p.tables e below (T544.setTop (mkF m 17 #[rv b120] [(.ref a_TRUE), (.ref b120)])) t → Steps p.tables e below (s₁.setTop (entryFrame m #[(.ref b120)] 1)) t := fun t kt => pre543 _ (st544 _ kt)
  obtain ⟨cq546, q546, q546'⟩ := (Fi0).cell
  obtain ⟨_, _, ⟨T546, L546, k546, n546⟩, -, X546, ⟨Lc546, hQ546, l546, y546, z546⟩, st546⟩ := X544.privateBack hx (y := (⟨"com/example/contexture/contexture/engine/evaluation/TruthValue$Tally", "settledBy", "(Lcom/example/contexture/contexture/engine/evaluation/TruthValue;)Lcom/example/contexture/contexture/engine/evaluation/TruthValue;"⟩ : MethodName)) hown (mvT hZ (W 67 rfl)) (mvT hZ (W 68 rfl)) (own_selpriv (mvT hZ (W 13 rfl)) (mvP hZ (W 69 rfl)) (mvT hZ (W 68 rfl)) (by decide)) (Cond.privateMethod_at (mvP hZ (W 69 rfl) (args := #[]))) (mvT hZ (W 70 rfl)) (by decide) (backOf (W := 0) (rm_settledBy11_1 l Z a0 hw [] b120 a_TRUE a_UNKNOWN h0 n0 O0 G0 Fi2) hZ (W 70 rfl) (W 14 rfl) (by decide) (by decide)) (g := (mkF m 17 #[rv b120] [(.ref a_TRUE), (.ref b120)])) rfl (by rw [hml]; rfl) (Steps.refl _) (a := b120) (by rw [e544]; exact q546) q546' (argsL := [(.ref a_TRUE)]) (rest := []) (lenOf pd_14 rfl) rfl (by show 2 * 0 + _ ≤ _; exact Nat.le_of_eq rfl) (hb hby d9_17) (fun _ _ => ⟨rfl, e544, (by decide : 0 + 0 ≤ _), (by decide : 0 + 0 ≤ _)⟩)
  dsimp only [Pt.U, Pt.locs, Pt.cells, Pt.slots] at X546 l546 y546 z546 st546 hQ546
  replace l546 := l546.symm
  replace y546 : 0 = k546 := y546.symm
  replace z546 : 0 = n546 := z546.symm
  subst l546 y546 z546
  obtain ⟨rfl, M546, e546⟩ := hQ546
  have N546 := Fr.app N544 M546
  have pre547 : ∀ t, Steps p.tables e below (T546.setTop (mkF m 20 #[rv b120] [(.ref a_UNKNOWN)])) t → Steps p.tables e below (s₁.setTop (entryFrame m #[(.ref b120)] 1)) t := fun t kt => pre545 _ (st546.trans kt)
  obtain ⟨fs, hr, hrun, hended, hW, hsame⟩ := X546.leave (v := some (.ref a_UNKNOWN)) (fun h => by rw [Bd.returns] at h; cases h)
  refine ⟨_, _, pre547 _ (X546.areturnOut hx rfl Bd.returns rfl (hb hby d9_20) hr), hrun, hended, _, _, rfl, ?_, ⟨_, rfl⟩, hW, hsame.mono (by decide) (by decide)⟩
  show Q_xor9_2 Z b120 a_UNKNOWN a_TRUE h0 n0 _ T546.heap _
  rw [e546]
  exact ⟨rfl, N546, rfl⟩
def Q_and7_3 (Z : State) (b120 : Addr) (a_FALSE : Addr) (h0 : Heap) (n0 : Nat) (v : Option Value) (h : Heap) (L : List Loc) : Prop := v = some (.ref a_FALSE) ∧ Fr n0 L ∧ h = h0
set_option maxRecDepth 65536 in
set_option maxHeartbeats 40000000 in
theorem rm_and7_3 (l : Launch) (Z : State) (a0 : Array Value) (hw : ∀ d ∈ tables_1, d.before a0 Z = true) (ws : List Jvm.Cond) (b120 : Addr) (a_FALSE : Addr) (h0 : Heap) (n0 : Nat) (O0 : Old Z n0 h0) (G0 : Sta Z Z.heap "com/example/contexture/contexture/engine/evaluation/TruthValue" "FALSE" "Lcom/example/contexture/contexture/engine/evaluation/TruthValue;" (.ref a_FALSE)) (Fi0 : Fld Z h0 b120 "com/example/contexture/contexture/engine/evaluation/TruthValue$Tally" "falses" "I" (.int (((0 : Int32) + (1 : Int32)) + (1 : Int32)))) :
    MetFree l (⟨"com/example/contexture/contexture/engine/evaluation/TruthValue$Tally", "and", "()Lcom/example/contexture/contexture/engine/evaluation/TruthValue;"⟩ : MethodName) (head1 (Jvm.Cond.code (⟨"com/example/contexture/contexture/engine/evaluation/TruthValue$Tally", "and", "()Lcom/example/contexture/contexture/engine/evaluation/TruthValue;"⟩ : MethodName) prog_17_method_4_code 1 (some (.object "com/example/contexture/contexture/engine/evaluation/TruthValue")) :: ws) ({ frames := 0, cells := 0, slots := 0, locals := 0 } : Room)) (fun a U => a = #[(.ref b120)] ∧ Z.Warmed39 U.vm ∧ U.heap = h0) (fun _ _ _ _ _ => True) (fun _ U o U' => ∃ v L, o = .returned v ∧ Q_and7_3 Z b120 a_FALSE h0 n0 v U'.heap L ∧ FrameEnd U o U' L ({ frames := 0, cells := 0, slots := 0, locals := 0 } : Room).cells ({ frames := 0, cells := 0, slots := 0, locals := 0 } : Room).slots) := by
  refine MetFree.of_bodySF (plainFor_of_name pn_2) hisR ?_
  intro p e s m args below meth c s₁ Bd hml0 hP hK
  have W := fun {d : Jvm.Cond} (i : Nat) (q : tables_1[i]? = some d) => hw d (List.mem_of_getElem? q)
  obtain ⟨rfl, hZ, hh⟩ := hP
  have hx := Bd.exec
  have hby := Bd.bytes
  have hml : c.maxLocals = 1 := hml0
  have hown : s.vm.findClass "com/example/contexture/contexture/engine/evaluation/TruthValue$Tally" = some m.cls := findClass_of_methodNamed Bd.named
  have hnm := (name_of_methodNamed Bd.named Bd.method).1
  have X0 : Stand p l e ({ frames := 0, cells := 0, slots := 0, locals := 0 } : Room) s m #[(.ref b120)] below meth c s₁ [] 0 0 := Stand.of_body Bd
  have e0 : s₁.heap = h0 := by rw [← hh, Bd.state]; rfl
  have N0 := Fr.nil n0
  have pre0 : ∀ t, Steps p.tables e below (s₁.setTop (mkF m 0 #[rv b120] [])) t → Steps p.tables e below (s₁.setTop (entryFrame m #[(.ref b120)] 1)) t := fun t k => castTop (ef_15 m b120) k
  have K0 : Keep h0 h0 [] := Keep.refl h0 []
  have pre653 : ∀ t, Steps p.tables e below (s₁.setTop (mkF m 1 #[rv b120] [(.ref b120)])) t → Steps p.tables e below (s₁.setTop (entryFrame m #[(.ref b120)] 1)) t := fun t kt => by
    refine pre0 _ ?_
    show Steps p.tables e below (s₁.setTop (mkF m 0 #[rv b120] [])) _
    refine XS.aloadN X0.here hx rfl (hb hby d7_0) rfl rfl ?_
    exact kt
  obtain ⟨T654, X654, e654, st654⟩ := getF X0 hx hZ hown (host := "") (Or.inl (W 28 rfl)) Via.refl e0 Fi0 (g := (mkF m 1 #[rv b120] [(.ref b120)])) rfl rfl (hb hby d7_1)
  have pre655 : ∀ t, Steps p.tables e below (T654.setTop (mkF m 4 #[rv b120] [(.int (((0 : Int32) + (1 : Int32)) + (1 : Int32)))])) t → Steps p.tables e below (s₁.setTop (entryFrame m #[(.ref b120)] 1)) t := fun t kt => pre653 _ (st654 _ kt)
  have pre656 : ∀ t, Steps p.tables e below (T654.setTop (mkF m 7 #[rv b120] [])) t → Steps p.tables e below (s₁.setTop (entryFrame m #[(.ref b120)] 1)) t := fun t kt => by
    refine pre655 _ ?_
    show Steps p.tables e below (T654.setTop (mkF m 4 #[rv b120] [(.int (((0 : Int32) + (1 : Int32)) + (1 : Int32)))])) _
    refine XS.ifNo X654.here hx rfl (hb hby d7_4) rfl (XT.i0_le_f (by decide)) ?_
    exact kt
  obtain ⟨T657, X657, e657, st657⟩ := getS2 X654 hx hZ hown (host := "") (Or.inl (W 51 rfl)) Via.refl e654 (G0.ext O0.2) (g := (mkF m 7 #[rv b120] [])) rfl (hb hby d7_7)
  have pre658 : ∀ t, Steps p.tables e below (T657.setTop (mkF m 10 #[rv b120] [(.ref a_FALSE)])) t → Steps p.tables e below (s₁.setTop (entryFrame m #[(.ref b120)] 1)) t := fun t kt => pre656 _ (st657 _ kt)
  have pre659 : ∀ t, Steps p.tables e below (T657.setTop (mkF m 20 #[rv b120] [(.ref a_FALSE)])) t → Steps p.tables e below (s₁.setTop (entryFrame m #[(.ref b120)] 1)) t := fun t kt => by
    refine pre658 _ ?_
    show Steps p.tables e below (T657.setTop (mkF m 10 #[rv b120] [(.ref a_FALSE)])) _
    refine XS.goto X657.here hx rfl (pc0 := 10) (pc' := 20) rfl (hb hby d7_10) (by decide) (by decide) ?_
    exact kt
  obtain ⟨fs, hr, hrun, hended, hW, hsame⟩ := X657.leave (v := some (.ref a_FALSE)) (fun h => by rw [Bd.returns] at h; cases h)
  refine ⟨_, _, pre659 _ (X657.areturnOut hx rfl Bd.returns rfl (hb hby d7_20) hr), hrun, hended, _, _, rfl, ?_, ⟨_, rfl⟩, hW, hsame.mono (by decide) (by decide)⟩
  show Q_and7_3 Z b120 a_FALSE h0 n0 _ T657.heap _
  rw [e657]
  exact ⟨rfl, N0, rfl⟩
theorem d8_13 : decode prog_17_method_5_code 13 = .ok (.aload_n 0, 1) := by decide +kernel
theorem d8_14 : decode prog_17_method_5_code 14 = .ok (.getstatic 25, 3) := by decide +kernel
theorem d8_17 : decode prog_17_method_5_code 17 = .ok (.invokevirtual 32, 3) := by decide +kernel
def Q_or8_2 (Z : State) (b120 : Addr) (a_FALSE : Addr) (h0 : Heap) (n0 : Nat) (v : Option Value) (h : Heap) (L : List Loc) : Prop := v = some (.ref a_FALSE) ∧ Fr n0 L ∧ h = h0
set_option maxRecDepth 65536 in
set_option maxHeartbeats 40000000 in
theorem rm_or8_2 (l : Launch) (Z : State) (a0 : Array Value) (hw : ∀ d ∈ tables_1, d.before a0 Z = true) (ws : List Jvm.Cond) (b120 : Addr) (a_FALSE : Addr) (h0 : Heap) (n0 : Nat) (O0 : Old Z n0 h0) (G0 : Sta Z Z.heap "com/example/contexture/contexture/engine/evaluation/TruthValue" "FALSE" "Lcom/example/contexture/contexture/engine/evaluation/TruthValue;" (.ref a_FALSE)) (Fi0 : Exa Z h0 b120 "com/example/contexture/contexture/engine/evaluation/TruthValue$Tally") (Fi1 : Fld Z h0 b120 "com/example/contexture/contexture/engine/evaluation/TruthValue$Tally" "trues" "I" (.int (0 : Int32))) (Fi2 : Fld Z h0 b120 "com/example/contexture/contexture/engine/evaluation/TruthValue$Tally" "unknowns" "I" (.int (0 : Int32))) :
    MetFree l (⟨"com/example/contexture/contexture/engine/evaluation/TruthValue$Tally", "or", "()Lcom/example/contexture/contexture/engine/evaluation/TruthValue;"⟩ : MethodName) (head1 (Jvm.Cond.code (⟨"com/example/contexture/contexture/engine/evaluation/TruthValue$Tally", "or", "()Lcom/example/contexture/contexture/engine/evaluation/TruthValue;"⟩ : MethodName) prog_17_method_5_code 1 (some (.object "com/example/contexture/contexture/engine/evaluation/TruthValue")) :: ws) ({ frames := 1, cells := 0, slots := 0, locals := 13 } : Room)) (fun a U => a = #[(.ref b120)] ∧ Z.Warmed39 U.vm ∧ U.heap = h0) (fun _ _ _ _ _ => True) (fun _ U o U' => ∃ v L, o = .returned v ∧ Q_or8_2 Z b120 a_FALSE h0 n0 v U'.heap L ∧ FrameEnd U o U' L ({ frames := 1, cells := 0, slots := 0, locals := 13 } : Room).cells ({ frames := 1, cells := 0, slots := 0, locals := 13 } : Room).slots) := by
  refine MetFree.of_bodySF (plainFor_of_name pn_2) hisR ?_
  intro p e s m args below meth c s₁ Bd hml0 hP hK
  have W := fun {d : Jvm.Cond} (i : Nat) (q : tables_1[i]? = some d) => hw d (List.mem_of_getElem? q)
  obtain ⟨rfl, hZ, hh⟩ := hP
  have hx := Bd.exec
  have hby := Bd.bytes
  have hml : c.maxLocals = 1 := hml0
  have hown : s.vm.findClass "com/example/contexture/contexture/engine/evaluation/TruthValue$Tally" = some m.cls := findClass_of_methodNamed Bd.named
  have hnm := (name_of_methodNamed Bd.named Bd.method).1
  have X0 : Stand p l e ({ frames := 1, cells := 0, slots := 0, locals := 13 } : Room) s m #[(.ref b120)] below meth c s₁ [] 0 0 := Stand.of_body Bd
  have e0 : s₁.heap = h0 := by rw [← hh, Bd.state]; rfl
  have N0 := Fr.nil n0
  have pre0 : ∀ t, Steps p.tables e below (s₁.setTop (mkF m 0 #[rv b120] [])) t → Steps p.tables e below (s₁.setTop (entryFrame m #[(.ref b120)] 1)) t := fun t k => castTop (ef_17 m b120) k
  have K0 : Keep h0 h0 [] := Keep.refl h0 []
  have pre679 : ∀ t, Steps p.tables e below (s₁.setTop (mkF m 1 #[rv b120] [(.ref b120)])) t → Steps p.tables e below (s₁.setTop (entryFrame m #[(.ref b120)] 1)) t := fun t kt => by
    refine pre0 _ ?_
    show Steps p.tables e below (s₁.setTop (mkF m 0 #[rv b120] [])) _
    refine XS.aloadN X0.here hx rfl (hb hby d8_0) rfl rfl ?_
    exact kt
  obtain ⟨T680, X680, e680, st680⟩ := getF X0 hx hZ hown (host := "") (Or.inl (W 26 rfl)) Via.refl e0 Fi1 (g := (mkF m 1 #[rv b120] [(.ref b120)])) rfl rfl (hb hby d8_1)
  have pre681 : ∀ t, Steps p.tables e below (T680.setTop (mkF m 4 #[rv b120] [(.int (0 : Int32))])) t → Steps p.tables e below (s₁.setTop (entryFrame m #[(.ref b120)] 1)) t := fun t kt => pre679 _ (st680 _ kt)
  have pre682 : ∀ t, Steps p.tables e below (T680.setTop (mkF m 14 #[rv b120] [(.ref b120)])) t → Steps p.tables e below (s₁.setTop (entryFrame m #[(.ref b120)] 1)) t := fun t kt => by
    refine pre681 _ ?_
    show Steps p.tables e below (T680.setTop (mkF m 4 #[rv b120] [(.int (0 : Int32))])) _
    refine XS.ifYes X680.here hx rfl (pc0 := 4) (pc' := 13) rfl (hb hby d8_4) rfl (XT.i0_le_t (by decide)) (by decide) (by decide) ?_
    refine XS.aloadN X680.here hx rfl (hb hby d8_13) rfl rfl ?_
    exact kt
  obtain ⟨T683, X683, e683, st683⟩ := getS2 X680 hx hZ hown (host := "") (Or.inl (W 51 rfl)) Via.refl e680 (G0.ext O0.2) (g := (mkF m 14 #[rv b120] [(.ref b120)])) rfl (hb hby d8_14)
  have pre684 : ∀ t, Steps p.tables e below (T683.setTop (mkF m 17 #[rv b120] [(.ref a_FALSE), (.ref b120)])) t → Steps p.tables e below (s₁.setTop (entryFrame m #[(.ref b120)] 1)) t := fun t kt => pre682 _ (st683 _ kt)
  obtain ⟨cq685, q685, q685'⟩ := (Fi0).cell
  obtain ⟨_, _, ⟨T685, L685, k685, n685⟩, -, X685, ⟨Lc685, hQ685, l685, y685, z685⟩, st685⟩ := X683.privateBack hx (y := (⟨"com/example/contexture/contexture/engine/evaluation/TruthValue$Tally", "settledBy", "(Lcom/example/contexture/contexture/engine/evaluation/TruthValue;)Lcom/example/contexture/contexture/engine/evaluation/TruthValue;"⟩ : MethodName)) hown (mvT hZ (W 67 rfl)) (mvT hZ (W 68 rfl)) (own_selpriv (mvT hZ (W 13 rfl)) (mvP hZ (W 69 rfl)) (mvT hZ (W 68 rfl)) (by decide)) (Cond.privateMethod_at (mvP hZ (W 69 rfl) (args := #[]))) (mvT hZ (W 70 rfl)) (by decide) (backOf (W := 0) (rm_settledBy11_0 l Z a0 hw [] b120 a_FALSE h0 n0 O0 Fi2) hZ (W 70 rfl) (W 14 rfl) (by decide) (by decide)) (g := (mkF m 17 #[rv b120] [(.ref a_FALSE), (.ref b120)])) rfl (by rw [hml]; rfl) (Steps.refl _) (a := b120) (by rw [e683]; exact q685) q685' (argsL := [(.ref a_FALSE)]) (rest := []) (lenOf pd_14 rfl) rfl (by show 2 * 0 + _ ≤ _; exact Nat.le_of_eq rfl) (hb hby d8_17) (fun _ _ => ⟨rfl, e683, (by decide : 0 + 0 ≤ _), (by decide : 0 + 0 ≤ _)⟩)
  dsimp only [Pt.U, Pt.locs, Pt.cells, Pt.slots] at X685 l685 y685 z685 st685 hQ685
  replace l685 := l685.symm
  replace y685 : 0 = k685 := y685.symm
  replace z685 : 0 = n685 := z685.symm
  subst l685 y685 z685
  obtain ⟨rfl, M685, e685⟩ := hQ685
  have N685 := Fr.app N0 M685
  have pre686 : ∀ t, Steps p.tables e below (T685.setTop (mkF m 20 #[rv b120] [(.ref a_FALSE)])) t → Steps p.tables e below (s₁.setTop (entryFrame m #[(.ref b120)] 1)) t := fun t kt => pre684 _ (st685.trans kt)
  obtain ⟨fs, hr, hrun, hended, hW, hsame⟩ := X685.leave (v := some (.ref a_FALSE)) (fun h => by rw [Bd.returns] at h; cases h)
  refine ⟨_, _, pre686 _ (X685.areturnOut hx rfl Bd.returns rfl (hb hby d8_20) hr), hrun, hended, _, _, rfl, ?_, ⟨_, rfl⟩, hW, hsame.mono (by decide) (by decide)⟩
  show Q_or8_2 Z b120 a_FALSE h0 n0 _ T685.heap _
  rw [e685]
  exact ⟨rfl, N685, rfl⟩
def Q_xor9_3 (Z : State) (b120 : Addr) (a_FALSE : Addr) (h0 : Heap) (n0 : Nat) (v : Option Value) (h : Heap) (L : List Loc) : Prop := v = some (.ref a_FALSE) ∧ Fr n0 L ∧ h = h0
set_option maxRecDepth 65536 in
set_option maxHeartbeats 40000000 in
theorem rm_xor9_3 (l : Launch) (Z : State) (a0 : Array Value) (hw : ∀ d ∈ tables_1, d.before a0 Z = true) (ws : List Jvm.Cond) (b120 : Addr) (a_FALSE : Addr) (h0 : Heap) (n0 : Nat) (O0 : Old Z n0 h0) (G0 : Sta Z Z.heap "com/example/contexture/contexture/engine/evaluation/TruthValue" "FALSE" "Lcom/example/contexture/contexture/engine/evaluation/TruthValue;" (.ref a_FALSE)) (Fi0 : Exa Z h0 b120 "com/example/contexture/contexture/engine/evaluation/TruthValue$Tally") (Fi1 : Fld Z h0 b120 "com/example/contexture/contexture/engine/evaluation/TruthValue$Tally" "trues" "I" (.int (0 : Int32))) (Fi2 : Fld Z h0 b120 "com/example/contexture/contexture/engine/evaluation/TruthValue$Tally" "unknowns" "I" (.int (0 : Int32))) :
    MetFree l (⟨"com/example/contexture/contexture/engine/evaluation/TruthValue$Tally", "xor", "()Lcom/example/contexture/contexture/engine/evaluation/TruthValue;"⟩ : MethodName) (head1 (Jvm.Cond.code (⟨"com/example/contexture/contexture/engine/evaluation/TruthValue$Tally", "xor", "()Lcom/example/contexture/contexture/engine/evaluation/TruthValue;"⟩ : MethodName) prog_17_method_6_code 1 (some (.object "com/example/contexture/contexture/engine/evaluation/TruthValue")) :: ws) ({ frames := 1, cells := 0, slots := 0, locals := 13 } : Room)) (fun a U => a = #[(.ref b120)] ∧ Z.Warmed39 U.vm ∧ U.heap = h0) (fun _ _ _ _ _ => True) (fun _ U o U' => ∃ v L, o = .returned v ∧ Q_xor9_3 Z b120 a_FALSE h0 n0 v U'.heap L ∧ FrameEnd U o U' L ({ frames := 1, cells := 0, slots := 0, locals := 13 } : Room).cells ({ frames := 1, cells := 0, slots := 0, locals := 13 } : Room).slots) := by
  refine MetFree.of_bodySF (plainFor_of_name pn_2) hisR ?_
  intro p e s m args below meth c s₁ Bd hml0 hP hK
  have W := fun {d : Jvm.Cond} (i : Nat) (q : tables_1[i]? = some d) => hw d (List.mem_of_getElem? q)
  obtain ⟨rfl, hZ, hh⟩ := hP
  have hx := Bd.exec
  have hby := Bd.bytes
  have hml : c.maxLocals = 1 := hml0
  have hown : s.vm.findClass "com/example/contexture/contexture/engine/evaluation/TruthValue$Tally" = some m.cls := findClass_of_methodNamed Bd.named
  have hnm := (name_of_methodNamed Bd.named Bd.method).1
  have X0 : Stand p l e ({ frames := 1, cells := 0, slots := 0, locals := 13 } : Room) s m #[(.ref b120)] below meth c s₁ [] 0 0 := Stand.of_body Bd
  have e0 : s₁.heap = h0 := by rw [← hh, Bd.state]; rfl
  have N0 := Fr.nil n0
  have pre0 : ∀ t, Steps p.tables e below (s₁.setTop (mkF m 0 #[rv b120] [])) t → Steps p.tables e below (s₁.setTop (entryFrame m #[(.ref b120)] 1)) t := fun t k => castTop (ef_21 m b120) k
  have K0 : Keep h0 h0 [] := Keep.refl h0 []
  have pre706 : ∀ t, Steps p.tables e below (s₁.setTop (mkF m 2 #[rv b120] [(.ref b120), (.ref b120)])) t → Steps p.tables e below (s₁.setTop (entryFrame m #[(.ref b120)] 1)) t := fun t kt => by
    refine pre0 _ ?_
    show Steps p.tables e below (s₁.setTop (mkF m 0 #[rv b120] [])) _
    refine XS.aloadN X0.here hx rfl (hb hby d9_0) rfl rfl ?_
    refine XS.aloadN X0.here hx rfl (hb hby d9_1) rfl rfl ?_
    exact kt
  obtain ⟨T707, X707, e707, st707⟩ := getF X0 hx hZ hown (host := "") (Or.inl (W 26 rfl)) Via.refl e0 Fi1 (g := (mkF m 2 #[rv b120] [(.ref b120), (.ref b120)])) rfl rfl (hb hby d9_2)
  have pre708 : ∀ t, Steps p.tables e below (T707.setTop (mkF m 5 #[rv b120] [(.int (0 : Int32)), (.ref b120)])) t → Steps p.tables e below (s₁.setTop (entryFrame m #[(.ref b120)] 1)) t := fun t kt => pre706 _ (st707 _ kt)
  have pre709 : ∀ t, Steps p.tables e below (T707.setTop (mkF m 14 #[rv b120] [(.int (0 : Int32)), (.ref b120)])) t → Steps p.tables e below (s₁.setTop (entryFrame m #[(.ref b120)] 1)) t := fun t kt => by
    refine pre708 _ ?_
    show Steps p.tables e below (T707.setTop (mkF m 5 #[rv b120] [(.int (0 : Int32)), (.ref b120)])) _
    refine XS.iconst X707.here hx rfl (hb hby d9_5) ?_
    refine XS.icmpYes X707.here hx rfl (pc0 := 6) (pc' := 13) rfl (hb hby d9_6) rfl (XT.ii_ne_t (by decide)) (by decide) (by decide) ?_
    refine XS.iconst X707.here hx rfl (hb hby d9_13) ?_
    exact kt
  obtain ⟨_, _, ⟨T710, L710, k710, n710⟩, -, X710, ⟨Lc710, hQ710, l710, y710, z710⟩, st710⟩ := Jvm.LawKit.callS X707 hx (y := (⟨"com/example/contexture/contexture/engine/evaluation/TruthValue", "of", "(Z)Lcom/example/contexture/contexture/engine/evaluation/TruthValue;"⟩ : MethodName)) hown (mvT hZ (W 63 rfl)) (mvT hZ (W 64 rfl)) (mvT hZ (W 6 rfl)) (mvT hZ (W 65 rfl)) (by decide) (backOf (W := 1) (rm_of10_0 l Z a0 hw [] a_FALSE h0 n0 O0 G0) hZ (W 65 rfl) (W 6 rfl) (by decide) (by decide)) (g := (mkF m 14 #[rv b120] [(.int (0 : Int32)), (.ref b120)])) rfl (by rw [hml]; rfl) (argsL := [(.int (0 : Int32))]) (rest := [(.ref b120)]) (lenOf pd_20 rfl) rfl (by show 2 * 0 + _ ≤ _; exact Nat.le_of_eq rfl) (hb hby d9_14) (fun _ _ => ⟨rfl, e707, (by decide : 0 + 0 ≤ _), (by decide : 0 + 0 ≤ _)⟩)
  dsimp only [Pt.U, Pt.locs, Pt.cells, Pt.slots] at X710 l710 y710 z710 st710 hQ710
  replace l710 := l710.symm
  replace y710 : 0 = k710 := y710.symm
  replace z710 : 0 = n710 := z710.symm
  subst l710 y710 z710
  obtain ⟨rfl, M710, e710⟩ := hQ710
  have N710 := Fr.app N0 M710
  have pre711 : ∀ t, Steps p.tables e below (T710.setTop (mkF m 17 #[rv b120] [(.ref a_FALSE), (.ref b120)])) t → Steps p.tables e below (s₁.setTop (entryFrame m #[(.ref b120)] 1)) t := fun t kt => pre709 _ (st710 _ kt)
  obtain ⟨cq712, q712, q712'⟩ := (Fi0).cell
  obtain ⟨_, _, ⟨T712, L712, k712, n712⟩, -, X712, ⟨Lc712, hQ712, l712, y712, z712⟩, st712⟩ := X710.privateBack hx (y := (⟨"com/example/contexture/contexture/engine/evaluation/TruthValue$Tally", "settledBy", "(Lcom/example/contexture/contexture/engine/evaluation/TruthValue;)Lcom/example/contexture/contexture/engine/evaluation/TruthValue;"⟩ : MethodName)) hown (mvT hZ (W 67 rfl)) (mvT hZ (W 68 rfl)) (own_selpriv (mvT hZ (W 13 rfl)) (mvP hZ (W 69 rfl)) (mvT hZ (W 68 rfl)) (by decide)) (Cond.privateMethod_at (mvP hZ (W 69 rfl) (args := #[]))) (mvT hZ (W 70 rfl)) (by decide) (backOf (W := 0) (rm_settledBy11_0 l Z a0 hw [] b120 a_FALSE h0 n0 O0 Fi2) hZ (W 70 rfl) (W 14 rfl) (by decide) (by decide)) (g := (mkF m 17 #[rv b120] [(.ref a_FALSE), (.ref b120)])) rfl (by rw [hml]; rfl) (Steps.refl _) (a := b120) (by rw [e710]; exact q712) q712' (argsL := [(.ref a_FALSE)]) (rest := []) (lenOf pd_14 rfl) rfl (by show 2 * 0 + _ ≤ _; exact Nat.le_of_eq rfl) (hb hby d9_17) (fun _ _ => ⟨rfl, e710, (by decide : 0 + 0 ≤ _), (by decide : 0 + 0 ≤ _)⟩)
  dsimp only [Pt.U, Pt.locs, Pt.cells, Pt.slots] at X712 l712 y712 z712 st712 hQ712
  replace l712 := l712.symm
  replace y712 : 0 = k712 := y712.symm
  replace z712 : 0 = n712 := z712.symm
  subst l712 y712 z712
  obtain ⟨rfl, M712, e712⟩ := hQ712
  have N712 := Fr.app N710 M712
  have pre713 : ∀ t, Steps p.tables e below (T712.setTop (mkF m 20 #[rv b120] [(.ref a_FALSE)])) t → Steps p.tables e below (s₁.setTop (entryFrame m #[(.ref b120)] 1)) t := fun t kt => pre711 _ (st712.trans kt)
  obtain ⟨fs, hr, hrun, hended, hW, hsame⟩ := X712.leave (v := some (.ref a_FALSE)) (fun h => by rw [Bd.returns] at h; cases h)
  refine ⟨_, _, pre713 _ (X712.areturnOut hx rfl Bd.returns rfl (hb hby d9_20) hr), hrun, hended, _, _, rfl, ?_, ⟨_, rfl⟩, hW, hsame.mono (by decide) (by decide)⟩
  show Q_xor9_3 Z b120 a_FALSE h0 n0 _ T712.heap _
  rw [e712]
  exact ⟨rfl, N712, rfl⟩
def Q_or8_3 (Z : State) (b120 : Addr) (a_UNKNOWN : Addr) (a_FALSE : Addr) (h0 : Heap) (n0 : Nat) (v : Option Value) (h : Heap) (L : List Loc) : Prop := v = some (.ref a_UNKNOWN) ∧ Fr n0 L ∧ h = h0
set_option maxRecDepth 65536 in
set_option maxHeartbeats 40000000 in
theorem rm_or8_3 (l : Launch) (Z : State) (a0 : Array Value) (hw : ∀ d ∈ tables_1, d.before a0 Z = true) (ws : List Jvm.Cond) (b120 : Addr) (a_UNKNOWN : Addr) (a_FALSE : Addr) (h0 : Heap) (n0 : Nat) (O0 : Old Z n0 h0) (G0 : Sta Z Z.heap "com/example/contexture/contexture/engine/evaluation/TruthValue" "UNKNOWN" "Lcom/example/contexture/contexture/engine/evaluation/TruthValue;" (.ref a_UNKNOWN)) (G1 : Sta Z Z.heap "com/example/contexture/contexture/engine/evaluation/TruthValue" "FALSE" "Lcom/example/contexture/contexture/engine/evaluation/TruthValue;" (.ref a_FALSE)) (Fi0 : Exa Z h0 b120 "com/example/contexture/contexture/engine/evaluation/TruthValue$Tally") (Fi1 : Fld Z h0 b120 "com/example/contexture/contexture/engine/evaluation/TruthValue$Tally" "trues" "I" (.int (0 : Int32))) (Fi2 : Fld Z h0 b120 "com/example/contexture/contexture/engine/evaluation/TruthValue$Tally" "unknowns" "I" (.int ((0 : Int32) + (1 : Int32)))) :
    MetFree l (⟨"com/example/contexture/contexture/engine/evaluation/TruthValue$Tally", "or", "()Lcom/example/contexture/contexture/engine/evaluation/TruthValue;"⟩ : MethodName) (head1 (Jvm.Cond.code (⟨"com/example/contexture/contexture/engine/evaluation/TruthValue$Tally", "or", "()Lcom/example/contexture/contexture/engine/evaluation/TruthValue;"⟩ : MethodName) prog_17_method_5_code 1 (some (.object "com/example/contexture/contexture/engine/evaluation/TruthValue")) :: ws) ({ frames := 1, cells := 0, slots := 0, locals := 13 } : Room)) (fun a U => a = #[(.ref b120)] ∧ Z.Warmed39 U.vm ∧ U.heap = h0) (fun _ _ _ _ _ => True) (fun _ U o U' => ∃ v L, o = .returned v ∧ Q_or8_3 Z b120 a_UNKNOWN a_FALSE h0 n0 v U'.heap L ∧ FrameEnd U o U' L ({ frames := 1, cells := 0, slots := 0, locals := 13 } : Room).cells ({ frames := 1, cells := 0, slots := 0, locals := 13 } : Room).slots) := by
  refine MetFree.of_bodySF (plainFor_of_name pn_2) hisR ?_
  intro p e s m args below meth c s₁ Bd hml0 hP hK
  have W := fun {d : Jvm.Cond} (i : Nat) (q : tables_1[i]? = some d) => hw d (List.mem_of_getElem? q)
  obtain ⟨rfl, hZ, hh⟩ := hP
  have hx := Bd.exec
  have hby := Bd.bytes
  have hml : c.maxLocals = 1 := hml0
  have hown : s.vm.findClass "com/example/contexture/contexture/engine/evaluation/TruthValue$Tally" = some m.cls := findClass_of_methodNamed Bd.named
  have hnm := (name_of_methodNamed Bd.named Bd.method).1
  have X0 : Stand p l e ({ frames := 1, cells := 0, slots := 0, locals := 13 } : Room) s m #[(.ref b120)] below meth c s₁ [] 0 0 := Stand.of_body Bd
  have e0 : s₁.heap = h0 := by rw [← hh, Bd.state]; rfl
  have N0 := Fr.nil n0
  have pre0 : ∀ t, Steps p.tables e below (s₁.setTop (mkF m 0 #[rv b120] [])) t → Steps p.tables e below (s₁.setTop (entryFrame m #[(.ref b120)] 1)) t := fun t k => castTop (ef_17 m b120) k
  have K0 : Keep h0 h0 [] := Keep.refl h0 []
  have pre762 : ∀ t, Steps p.tables e below (s₁.setTop (mkF m 1 #[rv b120] [(.ref b120)])) t → Steps p.tables e below (s₁.setTop (entryFrame m #[(.ref b120)] 1)) t := fun t kt => by
    refine pre0 _ ?_
    show Steps p.tables e below (s₁.setTop (mkF m 0 #[rv b120] [])) _
    refine XS.aloadN X0.here hx rfl (hb hby d8_0) rfl rfl ?_
    exact kt
  obtain ⟨T763, X763, e763, st763⟩ := getF X0 hx hZ hown (host := "") (Or.inl (W 26 rfl)) Via.refl e0 Fi1 (g := (mkF m 1 #[rv b120] [(.ref b120)])) rfl rfl (hb hby d8_1)
  have pre764 : ∀ t, Steps p.tables e below (T763.setTop (mkF m 4 #[rv b120] [(.int (0 : Int32))])) t → Steps p.tables e below (s₁.setTop (entryFrame m #[(.ref b120)] 1)) t := fun t kt => pre762 _ (st763 _ kt)
  have pre765 : ∀ t, Steps p.tables e below (T763.setTop (mkF m 14 #[rv b120] [(.ref b120)])) t → Steps p.tables e below (s₁.setTop (entryFrame m #[(.ref b120)] 1)) t := fun t kt => by
    refine pre764 _ ?_
    show Steps p.tables e below (T763.setTop (mkF m 4 #[rv b120] [(.int (0 : Int32))])) _
    refine XS.ifYes X763.here hx rfl (pc0 := 4) (pc' := 13) rfl (hb hby d8_4) rfl (XT.i0_le_t (by decide)) (by decide) (by decide) ?_
    refine XS.aloadN X763.here hx rfl (hb hby d8_13) rfl rfl ?_
    exact kt
  obtain ⟨T766, X766, e766, st766⟩ := getS2 X763 hx hZ hown (host := "") (Or.inl (W 51 rfl)) Via.refl e763 (G1.ext O0.2) (g := (mkF m 14 #[rv b120] [(.ref b120)])) rfl (hb hby d8_14)
  have pre767 : ∀ t, Steps p.tables e below (T766.setTop (mkF m 17 #[rv b120] [(.ref a_FALSE), (.ref b120)])) t → Steps p.tables e below (s₁.setTop (entryFrame m #[(.ref b120)] 1)) t := fun t kt => pre765 _ (st766 _ kt)
  obtain ⟨cq768, q768, q768'⟩ := (Fi0).cell
  obtain ⟨_, _, ⟨T768, L768, k768, n768⟩, -, X768, ⟨Lc768, hQ768, l768, y768, z768⟩, st768⟩ := X766.privateBack hx (y := (⟨"com/example/contexture/contexture/engine/evaluation/TruthValue$Tally", "settledBy", "(Lcom/example/contexture/contexture/engine/evaluation/TruthValue;)Lcom/example/contexture/contexture/engine/evaluation/TruthValue;"⟩ : MethodName)) hown (mvT hZ (W 67 rfl)) (mvT hZ (W 68 rfl)) (own_selpriv (mvT hZ (W 13 rfl)) (mvP hZ (W 69 rfl)) (mvT hZ (W 68 rfl)) (by decide)) (Cond.privateMethod_at (mvP hZ (W 69 rfl) (args := #[]))) (mvT hZ (W 70 rfl)) (by decide) (backOf (W := 0) (rm_settledBy11_1 l Z a0 hw [] b120 a_FALSE a_UNKNOWN h0 n0 O0 G0 Fi2) hZ (W 70 rfl) (W 14 rfl) (by decide) (by decide)) (g := (mkF m 17 #[rv b120] [(.ref a_FALSE), (.ref b120)])) rfl (by rw [hml]; rfl) (Steps.refl _) (a := b120) (by rw [e766]; exact q768) q768' (argsL := [(.ref a_FALSE)]) (rest := []) (lenOf pd_14 rfl) rfl (by show 2 * 0 + _ ≤ _; exact Nat.le_of_eq rfl) (hb hby d8_17) (fun _ _ => ⟨rfl, e766, (by decide : 0 + 0 ≤ _), (by decide : 0 + 0 ≤ _)⟩)
  dsimp only [Pt.U, Pt.locs, Pt.cells, Pt.slots] at X768 l768 y768 z768 st768 hQ768
  replace l768 := l768.symm
  replace y768 : 0 = k768 := y768.symm
  replace z768 : 0 = n768 := z768.symm
  subst l768 y768 z768
  obtain ⟨rfl, M768, e768⟩ := hQ768
  have N768 := Fr.app N0 M768
  have pre769 : ∀ t, Steps p.tables e below (T768.setTop (mkF m 20 #[rv b120] [(.ref a_UNKNOWN)])) t → Steps p.tables e below (s₁.setTop (entryFrame m #[(.ref b120)] 1)) t := fun t kt => pre767 _ (st768.trans kt)
  obtain ⟨fs, hr, hrun, hended, hW, hsame⟩ := X768.leave (v := some (.ref a_UNKNOWN)) (fun h => by rw [Bd.returns] at h; cases h)
  refine ⟨_, _, pre769 _ (X768.areturnOut hx rfl Bd.returns rfl (hb hby d8_20) hr), hrun, hended, _, _, rfl, ?_, ⟨_, rfl⟩, hW, hsame.mono (by decide) (by decide)⟩
  show Q_or8_3 Z b120 a_UNKNOWN a_FALSE h0 n0 _ T768.heap _
  rw [e768]
  exact ⟨rfl, N768, rfl⟩
def Q_xor9_4 (Z : State) (b120 : Addr) (a_UNKNOWN : Addr) (a_FALSE : Addr) (h0 : Heap) (n0 : Nat) (v : Option Value) (h : Heap) (L : List Loc) : Prop := v = some (.ref a_UNKNOWN) ∧ Fr n0 L ∧ h = h0
set_option maxRecDepth 65536 in
set_option maxHeartbeats 40000000 in
theorem rm_xor9_4 (l : Launch) (Z : State) (a0 : Array Value) (hw : ∀ d ∈ tables_1, d.before a0 Z = true) (ws : List Jvm.Cond) (b120 : Addr) (a_UNKNOWN : Addr) (a_FALSE : Addr) (h0 : Heap) (n0 : Nat) (O0 : Old Z n0 h0) (G0 : Sta Z Z.heap "com/example/contexture/contexture/engine/evaluation/TruthValue" "UNKNOWN" "Lcom/example/contexture/contexture/engine/evaluation/TruthValue;" (.ref a_UNKNOWN)) (G1 : Sta Z Z.heap "com/example/contexture/contexture/engine/evaluation/TruthValue" "FALSE" "Lcom/example/contexture/contexture/engine/evaluation/TruthValue;" (.ref a_FALSE)) (Fi0 : Exa Z h0 b120 "com/example/contexture/contexture/engine/evaluation/TruthValue$Tally") (Fi1 : Fld Z h0 b120 "com/example/contexture/contexture/engine/evaluation/TruthValue$Tally" "trues" "I" (.int (0 : Int32))) (Fi2 : Fld Z h0 b120 "com/example/contexture/contexture/engine/evaluation/TruthValue$Tally" "unknowns" "I" (.int ((0 : Int32) + (1 : Int32)))) :
    MetFree l (⟨"com/example/contexture/contexture/engine/evaluation/TruthValue$Tally", "xor", "()Lcom/example/contexture/contexture/engine/evaluation/TruthValue;"⟩ : MethodName) (head1 (Jvm.Cond.code (⟨"com/example/contexture/contexture/engine/evaluation/TruthValue$Tally", "xor", "()Lcom/example/contexture/contexture/engine/evaluation/TruthValue;"⟩ : MethodName) prog_17_method_6_code 1 (some (.object "com/example/contexture/contexture/engine/evaluation/TruthValue")) :: ws) ({ frames := 1, cells := 0, slots := 0, locals := 13 } : Room)) (fun a U => a = #[(.ref b120)] ∧ Z.Warmed39 U.vm ∧ U.heap = h0) (fun _ _ _ _ _ => True) (fun _ U o U' => ∃ v L, o = .returned v ∧ Q_xor9_4 Z b120 a_UNKNOWN a_FALSE h0 n0 v U'.heap L ∧ FrameEnd U o U' L ({ frames := 1, cells := 0, slots := 0, locals := 13 } : Room).cells ({ frames := 1, cells := 0, slots := 0, locals := 13 } : Room).slots) := by
  refine MetFree.of_bodySF (plainFor_of_name pn_2) hisR ?_
  intro p e s m args below meth c s₁ Bd hml0 hP hK
  have W := fun {d : Jvm.Cond} (i : Nat) (q : tables_1[i]? = some d) => hw d (List.mem_of_getElem? q)
  obtain ⟨rfl, hZ, hh⟩ := hP
  have hx := Bd.exec
  have hby := Bd.bytes
  have hml : c.maxLocals = 1 := hml0
  have hown : s.vm.findClass "com/example/contexture/contexture/engine/evaluation/TruthValue$Tally" = some m.cls := findClass_of_methodNamed Bd.named
  have hnm := (name_of_methodNamed Bd.named Bd.method).1
  have X0 : Stand p l e ({ frames := 1, cells := 0, slots := 0, locals := 13 } : Room) s m #[(.ref b120)] below meth c s₁ [] 0 0 := Stand.of_body Bd
  have e0 : s₁.heap = h0 := by rw [← hh, Bd.state]; rfl
  have N0 := Fr.nil n0
  have pre0 : ∀ t, Steps p.tables e below (s₁.setTop (mkF m 0 #[rv b120] [])) t → Steps p.tables e below (s₁.setTop (entryFrame m #[(.ref b120)] 1)) t := fun t k => castTop (ef_21 m b120) k
  have K0 : Keep h0 h0 [] := Keep.refl h0 []
  have pre789 : ∀ t, Steps p.tables e below (s₁.setTop (mkF m 2 #[rv b120] [(.ref b120), (.ref b120)])) t → Steps p.tables e below (s₁.setTop (entryFrame m #[(.ref b120)] 1)) t := fun t kt => by
    refine pre0 _ ?_
    show Steps p.tables e below (s₁.setTop (mkF m 0 #[rv b120] [])) _
    refine XS.aloadN X0.here hx rfl (hb hby d9_0) rfl rfl ?_
    refine XS.aloadN X0.here hx rfl (hb hby d9_1) rfl rfl ?_
    exact kt
  obtain ⟨T790, X790, e790, st790⟩ := getF X0 hx hZ hown (host := "") (Or.inl (W 26 rfl)) Via.refl e0 Fi1 (g := (mkF m 2 #[rv b120] [(.ref b120), (.ref b120)])) rfl rfl (hb hby d9_2)
  have pre791 : ∀ t, Steps p.tables e below (T790.setTop (mkF m 5 #[rv b120] [(.int (0 : Int32)), (.ref b120)])) t → Steps p.tables e below (s₁.setTop (entryFrame m #[(.ref b120)] 1)) t := fun t kt => pre789 _ (st790 _ kt)
  have pre792 : ∀ t, Steps p.tables e below (T790.setTop (mkF m 14 #[rv b120] [(.int (0 : Int32)), (.ref b120)])) t → Steps p.tables e below (s₁.setTop (entryFrame m #[(.ref b120)] 1)) t := fun t kt => by
    refine pre791 _ ?_
    show Steps p.tables e below (T790.setTop (mkF m 5 #[rv b120] [(.int (0 : Int32)), (.ref b120)])) _
    refine XS.iconst X790.here hx rfl (hb hby d9_5) ?_
    refine XS.icmpYes X790.here hx rfl (pc0 := 6) (pc' := 13) rfl (hb hby d9_6) rfl (XT.ii_ne_t (by decide)) (by decide) (by decide) ?_
    refine XS.iconst X790.here hx rfl (hb hby d9_13) ?_
    exact kt
  obtain ⟨_, _, ⟨T793, L793, k793, n793⟩, -, X793, ⟨Lc793, hQ793, l793, y793, z793⟩, st793⟩ := Jvm.LawKit.callS X790 hx (y := (⟨"com/example/contexture/contexture/engine/evaluation/TruthValue", "of", "(Z)Lcom/example/contexture/contexture/engine/evaluation/TruthValue;"⟩ : MethodName)) hown (mvT hZ (W 63 rfl)) (mvT hZ (W 64 rfl)) (mvT hZ (W 6 rfl)) (mvT hZ (W 65 rfl)) (by decide) (backOf (W := 1) (rm_of10_0 l Z a0 hw [] a_FALSE h0 n0 O0 G1) hZ (W 65 rfl) (W 6 rfl) (by decide) (by decide)) (g := (mkF m 14 #[rv b120] [(.int (0 : Int32)), (.ref b120)])) rfl (by rw [hml]; rfl) (argsL := [(.int (0 : Int32))]) (rest := [(.ref b120)]) (lenOf pd_20 rfl) rfl (by show 2 * 0 + _ ≤ _; exact Nat.le_of_eq rfl) (hb hby d9_14) (fun _ _ => ⟨rfl, e790, (by decide : 0 + 0 ≤ _), (by decide : 0 + 0 ≤ _)⟩)
  dsimp only [Pt.U, Pt.locs, Pt.cells, Pt.slots] at X793 l793 y793 z793 st793 hQ793
  replace l793 := l793.symm
  replace y793 : 0 = k793 := y793.symm
  replace z793 : 0 = n793 := z793.symm
  subst l793 y793 z793
  obtain ⟨rfl, M793, e793⟩ := hQ793
  have N793 := Fr.app N0 M793
  have pre794 : ∀ t, Steps p.tables e below (T793.setTop (mkF m 17 #[rv b120] [(.ref a_FALSE), (.ref b120)])) t → Steps p.tables e below (s₁.setTop (entryFrame m #[(.ref b120)] 1)) t := fun t kt => pre792 _ (st793 _ kt)
  obtain ⟨cq795, q795, q795'⟩ := (Fi0).cell
  obtain ⟨_, _, ⟨T795, L795, k795, n795⟩, -, X795, ⟨Lc795, hQ795, l795, y795, z795⟩, st795⟩ := X793.privateBack hx (y := (⟨"com/example/contexture/contexture/engine/evaluation/TruthValue$Tally", "settledBy", "(Lcom/example/contexture/contexture/engine/evaluation/TruthValue;)Lcom/example/contexture/contexture/engine/evaluation/TruthValue;"⟩ : MethodName)) hown (mvT hZ (W 67 rfl)) (mvT hZ (W 68 rfl)) (own_selpriv (mvT hZ (W 13 rfl)) (mvP hZ (W 69 rfl)) (mvT hZ (W 68 rfl)) (by decide)) (Cond.privateMethod_at (mvP hZ (W 69 rfl) (args := #[]))) (mvT hZ (W 70 rfl)) (by decide) (backOf (W := 0) (rm_settledBy11_1 l Z a0 hw [] b120 a_FALSE a_UNKNOWN h0 n0 O0 G0 Fi2) hZ (W 70 rfl) (W 14 rfl) (by decide) (by decide)) (g := (mkF m 17 #[rv b120] [(.ref a_FALSE), (.ref b120)])) rfl (by rw [hml]; rfl) (Steps.refl _) (a := b120) (by rw [e793]; exact q795) q795' (argsL := [(.ref a_FALSE)]) (rest := []) (lenOf pd_14 rfl) rfl (by show 2 * 0 + _ ≤ _; exact Nat.le_of_eq rfl) (hb hby d9_17) (fun _ _ => ⟨rfl, e793, (by decide : 0 + 0 ≤ _), (by decide : 0 + 0 ≤ _)⟩)
  dsimp only [Pt.U, Pt.locs, Pt.cells, Pt.slots] at X795 l795 y795 z795 st795 hQ795
  replace l795 := l795.symm
  replace y795 : 0 = k795 := y795.symm
  replace z795 : 0 = n795 := z795.symm
  subst l795 y795 z795
  obtain ⟨rfl, M795, e795⟩ := hQ795
  have N795 := Fr.app N793 M795
  have pre796 : ∀ t, Steps p.tables e below (T795.setTop (mkF m 20 #[rv b120] [(.ref a_UNKNOWN)])) t → Steps p.tables e below (s₁.setTop (entryFrame m #[(.ref b120)] 1)) t := fun t kt => pre794 _ (st795.trans kt)
  obtain ⟨fs, hr, hrun, hended, hW, hsame⟩ := X795.leave (v := some (.ref a_UNKNOWN)) (fun h => by rw [Bd.returns] at h; cases h)
  refine ⟨_, _, pre796 _ (X795.areturnOut hx rfl Bd.returns rfl (hb hby d9_20) hr), hrun, hended, _, _, rfl, ?_, ⟨_, rfl⟩, hW, hsame.mono (by decide) (by decide)⟩
  show Q_xor9_4 Z b120 a_UNKNOWN a_FALSE h0 n0 _ T795.heap _
  rw [e795]
  exact ⟨rfl, N795, rfl⟩
def Q_settledBy11_2 (Z : State) (b120 : Addr) (a_TRUE : Addr) (a_UNKNOWN : Addr) (h0 : Heap) (n0 : Nat) (v : Option Value) (h : Heap) (L : List Loc) : Prop := v = some (.ref a_UNKNOWN) ∧ Fr n0 L ∧ h = h0
set_option maxRecDepth 65536 in
set_option maxHeartbeats 40000000 in
theorem rm_settledBy11_2 (l : Launch) (Z : State) (a0 : Array Value) (hw : ∀ d ∈ tables_1, d.before a0 Z = true) (ws : List Jvm.Cond) (b120 : Addr) (a_TRUE : Addr) (a_UNKNOWN : Addr) (h0 : Heap) (n0 : Nat) (O0 : Old Z n0 h0) (G0 : Sta Z Z.heap "com/example/contexture/contexture/engine/evaluation/TruthValue" "UNKNOWN" "Lcom/example/contexture/contexture/engine/evaluation/TruthValue;" (.ref a_UNKNOWN)) (Fi0 : Fld Z h0 b120 "com/example/contexture/contexture/engine/evaluation/TruthValue$Tally" "unknowns" "I" (.int (((0 : Int32) + (1 : Int32)) + (1 : Int32)))) :
    MetFree l (⟨"com/example/contexture/contexture/engine/evaluation/TruthValue$Tally", "settledBy", "(Lcom/example/contexture/contexture/engine/evaluation/TruthValue;)Lcom/example/contexture/contexture/engine/evaluation/TruthValue;"⟩ : MethodName) (head1 (Jvm.Cond.code (⟨"com/example/contexture/contexture/engine/evaluation/TruthValue$Tally", "settledBy", "(Lcom/example/contexture/contexture/engine/evaluation/TruthValue;)Lcom/example/contexture/contexture/engine/evaluation/TruthValue;"⟩ : MethodName) prog_17_method_7_code 2 (some (.object "com/example/contexture/contexture/engine/evaluation/TruthValue")) :: ws) ({ frames := 0, cells := 0, slots := 0, locals := 0 } : Room)) (fun a U => a = #[(.ref b120), (.ref a_TRUE)] ∧ Z.Warmed39 U.vm ∧ U.heap = h0) (fun _ _ _ _ _ => True) (fun _ U o U' => ∃ v L, o = .returned v ∧ Q_settledBy11_2 Z b120 a_TRUE a_UNKNOWN h0 n0 v U'.heap L ∧ FrameEnd U o U' L ({ frames := 0, cells := 0, slots := 0, locals := 0 } : Room).cells ({ frames := 0, cells := 0, slots := 0, locals := 0 } : Room).slots) := by
  refine MetFree.of_bodySF (plainFor_of_name pn_2) hisR ?_
  intro p e s m args below meth c s₁ Bd hml0 hP hK
  have W := fun {d : Jvm.Cond} (i : Nat) (q : tables_1[i]? = some d) => hw d (List.mem_of_getElem? q)
  obtain ⟨rfl, hZ, hh⟩ := hP
  have hx := Bd.exec
  have hby := Bd.bytes
  have hml : c.maxLocals = 2 := hml0
  have hown : s.vm.findClass "com/example/contexture/contexture/engine/evaluation/TruthValue$Tally" = some m.cls := findClass_of_methodNamed Bd.named
  have hnm := (name_of_methodNamed Bd.named Bd.method).1
  have X0 : Stand p l e ({ frames := 0, cells := 0, slots := 0, locals := 0 } : Room) s m #[(.ref b120), (.ref a_TRUE)] below meth c s₁ [] 0 0 := Stand.of_body Bd
  have e0 : s₁.heap = h0 := by rw [← hh, Bd.state]; rfl
  have N0 := Fr.nil n0
  have pre0 : ∀ t, Steps p.tables e below (s₁.setTop (mkF m 0 #[rv b120, rv a_TRUE] [])) t → Steps p.tables e below (s₁.setTop (entryFrame m #[(.ref b120), (.ref a_TRUE)] 2)) t := fun t k => castTop (ef_13 m b120 a_TRUE) k
  have K0 : Keep h0 h0 [] := Keep.refl h0 []
  have pre947 : ∀ t, Steps p.tables e below (s₁.setTop (mkF m 1 #[rv b120, rv a_TRUE] [(.ref b120)])) t → Steps p.tables e below (s₁.setTop (entryFrame m #[(.ref b120), (.ref a_TRUE)] 2)) t := fun t kt => by
    refine pre0 _ ?_
    show Steps p.tables e below (s₁.setTop (mkF m 0 #[rv b120, rv a_TRUE] [])) _
    refine XS.aloadN X0.here hx rfl (hb hby d11_0) rfl rfl ?_
    exact kt
  obtain ⟨T948, X948, e948, st948⟩ := getF X0 hx hZ hown (host := "") (Or.inl (W 30 rfl)) Via.refl e0 Fi0 (g := (mkF m 1 #[rv b120, rv a_TRUE] [(.ref b120)])) rfl rfl (hb hby d11_1)
  have pre949 : ∀ t, Steps p.tables e below (T948.setTop (mkF m 4 #[rv b120, rv a_TRUE] [(.int (((0 : Int32) + (1 : Int32)) + (1 : Int32)))])) t → Steps p.tables e below (s₁.setTop (entryFrame m #[(.ref b120), (.ref a_TRUE)] 2)) t := fun t kt => pre947 _ (st948 _ kt)
  have pre950 : ∀ t, Steps p.tables e below (T948.setTop (mkF m 7 #[rv b120, rv a_TRUE] [])) t → Steps p.tables e below (s₁.setTop (entryFrame m #[(.ref b120), (.ref a_TRUE)] 2)) t := fun t kt => by
    refine pre949 _ ?_
    show Steps p.tables e below (T948.setTop (mkF m 4 #[rv b120, rv a_TRUE] [(.int (((0 : Int32) + (1 : Int32)) + (1 : Int32)))])) _
    refine XS.ifNo X948.here hx rfl (hb hby d11_4) rfl (XT.i0_le_f (by decide)) ?_
    exact kt
  obtain ⟨T951, X951, e951, st951⟩ := getS2 X948 hx hZ hown (host := "") (Or.inl (W 71 rfl)) Via.refl e948 (G0.ext O0.2) (g := (mkF m 7 #[rv b120, rv a_TRUE] [])) rfl (hb hby d11_7)
  have pre952 : ∀ t, Steps p.tables e below (T951.setTop (mkF m 10 #[rv b120, rv a_TRUE] [(.ref a_UNKNOWN)])) t → Steps p.tables e below (s₁.setTop (entryFrame m #[(.ref b120), (.ref a_TRUE)] 2)) t := fun t kt => pre950 _ (st951 _ kt)
  have pre953 : ∀ t, Steps p.tables e below (T951.setTop (mkF m 14 #[rv b120, rv a_TRUE] [(.ref a_UNKNOWN)])) t → Steps p.tables e below (s₁.setTop (entryFrame m #[(.ref b120), (.ref a_TRUE)] 2)) t := fun t kt => by
    refine pre952 _ ?_
    show Steps p.tables e below (T951.setTop (mkF m 10 #[rv b120, rv a_TRUE] [(.ref a_UNKNOWN)])) _
    refine XS.goto X951.here hx rfl (pc0 := 10) (pc' := 14) rfl (hb hby d11_10) (by decide) (by decide) ?_
    exact kt
  obtain ⟨fs, hr, hrun, hended, hW, hsame⟩ := X951.leave (v := some (.ref a_UNKNOWN)) (fun h => by rw [Bd.returns] at h; cases h)
  refine ⟨_, _, pre953 _ (X951.areturnOut hx rfl Bd.returns rfl (hb hby d11_14) hr), hrun, hended, _, _, rfl, ?_, ⟨_, rfl⟩, hW, hsame.mono (by decide) (by decide)⟩
  show Q_settledBy11_2 Z b120 a_TRUE a_UNKNOWN h0 n0 _ T951.heap _
  rw [e951]
  exact ⟨rfl, N0, rfl⟩
def Q_and7_4 (Z : State) (b120 : Addr) (a_UNKNOWN : Addr) (a_TRUE : Addr) (h0 : Heap) (n0 : Nat) (v : Option Value) (h : Heap) (L : List Loc) : Prop := v = some (.ref a_UNKNOWN) ∧ Fr n0 L ∧ h = h0
set_option maxRecDepth 65536 in
set_option maxHeartbeats 40000000 in
theorem rm_and7_4 (l : Launch) (Z : State) (a0 : Array Value) (hw : ∀ d ∈ tables_1, d.before a0 Z = true) (ws : List Jvm.Cond) (b120 : Addr) (a_UNKNOWN : Addr) (a_TRUE : Addr) (h0 : Heap) (n0 : Nat) (O0 : Old Z n0 h0) (G0 : Sta Z Z.heap "com/example/contexture/contexture/engine/evaluation/TruthValue" "UNKNOWN" "Lcom/example/contexture/contexture/engine/evaluation/TruthValue;" (.ref a_UNKNOWN)) (G1 : Sta Z Z.heap "com/example/contexture/contexture/engine/evaluation/TruthValue" "TRUE" "Lcom/example/contexture/contexture/engine/evaluation/TruthValue;" (.ref a_TRUE)) (Fi0 : Exa Z h0 b120 "com/example/contexture/contexture/engine/evaluation/TruthValue$Tally") (Fi1 : Fld Z h0 b120 "com/example/contexture/contexture/engine/evaluation/TruthValue$Tally" "falses" "I" (.int (0 : Int32))) (Fi2 : Fld Z h0 b120 "com/example/contexture/contexture/engine/evaluation/TruthValue$Tally" "unknowns" "I" (.int (((0 : Int32) + (1 : Int32)) + (1 : Int32)))) :
    MetFree l (⟨"com/example/contexture/contexture/engine/evaluation/TruthValue$Tally", "and", "()Lcom/example/contexture/contexture/engine/evaluation/TruthValue;"⟩ : MethodName) (head1 (Jvm.Cond.code (⟨"com/example/contexture/contexture/engine/evaluation/TruthValue$Tally", "and", "()Lcom/example/contexture/contexture/engine/evaluation/TruthValue;"⟩ : MethodName) prog_17_method_4_code 1 (some (.object "com/example/contexture/contexture/engine/evaluation/TruthValue")) :: ws) ({ frames := 1, cells := 0, slots := 0, locals := 13 } : Room)) (fun a U => a = #[(.ref b120)] ∧ Z.Warmed39 U.vm ∧ U.heap = h0) (fun _ _ _ _ _ => True) (fun _ U o U' => ∃ v L, o = .returned v ∧ Q_and7_4 Z b120 a_UNKNOWN a_TRUE h0 n0 v U'.heap L ∧ FrameEnd U o U' L ({ frames := 1, cells := 0, slots := 0, locals := 13 } : Room).cells ({ frames := 1, cells := 0, slots := 0, locals := 13 } : Room).slots) := by
  refine MetFree.of_bodySF (plainFor_of_name pn_2) hisR ?_
  intro p e s m args below meth c s₁ Bd hml0 hP hK
  have W := fun {d : Jvm.Cond} (i : Nat) (q : tables_1[i]? = some d) => hw d (List.mem_of_getElem? q)
  obtain ⟨rfl, hZ, hh⟩ := hP
  have hx := Bd.exec
  have hby := Bd.bytes
  have hml : c.maxLocals = 1 := hml0
  have hown : s.vm.findClass "com/example/contexture/contexture/engine/evaluation/TruthValue$Tally" = some m.cls := findClass_of_methodNamed Bd.named
  have hnm := (name_of_methodNamed Bd.named Bd.method).1
  have X0 : Stand p l e ({ frames := 1, cells := 0, slots := 0, locals := 13 } : Room) s m #[(.ref b120)] below meth c s₁ [] 0 0 := Stand.of_body Bd
  have e0 : s₁.heap = h0 := by rw [← hh, Bd.state]; rfl
  have N0 := Fr.nil n0
  have pre0 : ∀ t, Steps p.tables e below (s₁.setTop (mkF m 0 #[rv b120] [])) t → Steps p.tables e below (s₁.setTop (entryFrame m #[(.ref b120)] 1)) t := fun t k => castTop (ef_15 m b120) k
  have K0 : Keep h0 h0 [] := Keep.refl h0 []
  have pre963 : ∀ t, Steps p.tables e below (s₁.setTop (mkF m 1 #[rv b120] [(.ref b120)])) t → Steps p.tables e below (s₁.setTop (entryFrame m #[(.ref b120)] 1)) t := fun t kt => by
    refine pre0 _ ?_
    show Steps p.tables e below (s₁.setTop (mkF m 0 #[rv b120] [])) _
    refine XS.aloadN X0.here hx rfl (hb hby d7_0) rfl rfl ?_
    exact kt
  obtain ⟨T964, X964, e964, st964⟩ := getF X0 hx hZ hown (host := "") (Or.inl (W 28 rfl)) Via.refl e0 Fi1 (g := (mkF m 1 #[rv b120] [(.ref b120)])) rfl rfl (hb hby d7_1)
  have pre965 : ∀ t, Steps p.tables e below (T964.setTop (mkF m 4 #[rv b120] [(.int (0 : Int32))])) t → Steps p.tables e below (s₁.setTop (entryFrame m #[(.ref b120)] 1)) t := fun t kt => pre963 _ (st964 _ kt)
  have pre966 : ∀ t, Steps p.tables e below (T964.setTop (mkF m 14 #[rv b120] [(.ref b120)])) t → Steps p.tables e below (s₁.setTop (entryFrame m #[(.ref b120)] 1)) t := fun t kt => by
    refine pre965 _ ?_
    show Steps p.tables e below (T964.setTop (mkF m 4 #[rv b120] [(.int (0 : Int32))])) _
    refine XS.ifYes X964.here hx rfl (pc0 := 4) (pc' := 13) rfl (hb hby d7_4) rfl (XT.i0_le_t (by decide)) (by decide) (by decide) ?_
    refine XS.aloadN X964.here hx rfl (hb hby d7_13) rfl rfl ?_
    exact kt
  obtain ⟨T967, X967, e967, st967⟩ := getS2 X964 hx hZ hown (host := "") (Or.inl (W 57 rfl)) Via.refl e964 (G1.ext O0.2) (g := (mkF m 14 #[rv b120] [(.ref b120)])) rfl (hb hby d7_14)
  have pre968 : ∀ t, Steps p.tables e below (T967.setTop (mkF m 17 #[rv b120] [(.ref a_TRUE), (.ref b120)])) t → Steps p.tables e below (s₁.setTop (entryFrame m #[(.ref b120)] 1)) t := fun t kt => pre966 _ (st967 _ kt)
  obtain ⟨cq969, q969, q969'⟩ := (Fi0).cell
  obtain ⟨_, _, ⟨T969, L969, k969, n969⟩, -, X969, ⟨Lc969, hQ969, l969, y969, z969⟩, st969⟩ := X967.privateBack hx (y := (⟨"com/example/contexture/contexture/engine/evaluation/TruthValue$Tally", "settledBy", "(Lcom/example/contexture/contexture/engine/evaluation/TruthValue;)Lcom/example/contexture/contexture/engine/evaluation/TruthValue;"⟩ : MethodName)) hown (mvT hZ (W 67 rfl)) (mvT hZ (W 68 rfl)) (own_selpriv (mvT hZ (W 13 rfl)) (mvP hZ (W 69 rfl)) (mvT hZ (W 68 rfl)) (by decide)) (Cond.privateMethod_at (mvP hZ (W 69 rfl) (args := #[]))) (mvT hZ (W 70 rfl)) (by decide) (backOf (W := 0) (rm_settledBy11_2 l Z a0 hw [] b120 a_TRUE a_UNKNOWN h0 n0 O0 G0 Fi2) hZ (W 70 rfl) (W 14 rfl) (by decide) (by decide)) (g := (mkF m 17 #[rv b120] [(.ref a_TRUE), (.ref b120)])) rfl (by rw [hml]; rfl) (Steps.refl _) (a := b120) (by rw [e967]; exact q969) q969' (argsL := [(.ref a_TRUE)]) (rest := []) (lenOf pd_14 rfl) rfl (by show 2 * 0 + _ ≤ _; exact Nat.le_of_eq rfl) (hb hby d7_17) (fun _ _ => ⟨rfl, e967, (by decide : 0 + 0 ≤ _), (by decide : 0 + 0 ≤ _)⟩)
  dsimp only [Pt.U, Pt.locs, Pt.cells, Pt.slots] at X969 l969 y969 z969 st969 hQ969
  replace l969 := l969.symm
  replace y969 : 0 = k969 := y969.symm
  replace z969 : 0 = n969 := z969.symm
  subst l969 y969 z969
  obtain ⟨rfl, M969, e969⟩ := hQ969
  have N969 := Fr.app N0 M969
  have pre970 : ∀ t, Steps p.tables e below (T969.setTop (mkF m 20 #[rv b120] [(.ref a_UNKNOWN)])) t → Steps p.tables e below (s₁.setTop (entryFrame m #[(.ref b120)] 1)) t := fun t kt => pre968 _ (st969.trans kt)
  obtain ⟨fs, hr, hrun, hended, hW, hsame⟩ := X969.leave (v := some (.ref a_UNKNOWN)) (fun h => by rw [Bd.returns] at h; cases h)
  refine ⟨_, _, pre970 _ (X969.areturnOut hx rfl Bd.returns rfl (hb hby d7_20) hr), hrun, hended, _, _, rfl, ?_, ⟨_, rfl⟩, hW, hsame.mono (by decide) (by decide)⟩
  show Q_and7_4 Z b120 a_UNKNOWN a_TRUE h0 n0 _ T969.heap _
  rw [e969]
  exact ⟨rfl, N969, rfl⟩
def Q_or8_4 (Z : State) (b120 : Addr) (a_UNKNOWN : Addr) (a_FALSE : Addr) (h0 : Heap) (n0 : Nat) (v : Option Value) (h : Heap) (L : List Loc) : Prop := v = some (.ref a_UNKNOWN) ∧ Fr n0 L ∧ h = h0
set_option maxRecDepth 65536 in
set_option maxHeartbeats 40000000 in
theorem rm_or8_4 (l : Launch) (Z : State) (a0 : Array Value) (hw : ∀ d ∈ tables_1, d.before a0 Z = true) (ws : List Jvm.Cond) (b120 : Addr) (a_UNKNOWN : Addr) (a_FALSE : Addr) (h0 : Heap) (n0 : Nat) (O0 : Old Z n0 h0) (G0 : Sta Z Z.heap "com/example/contexture/contexture/engine/evaluation/TruthValue" "UNKNOWN" "Lcom/example/contexture/contexture/engine/evaluation/TruthValue;" (.ref a_UNKNOWN)) (G1 : Sta Z Z.heap "com/example/contexture/contexture/engine/evaluation/TruthValue" "FALSE" "Lcom/example/contexture/contexture/engine/evaluation/TruthValue;" (.ref a_FALSE)) (Fi0 : Exa Z h0 b120 "com/example/contexture/contexture/engine/evaluation/TruthValue$Tally") (Fi1 : Fld Z h0 b120 "com/example/contexture/contexture/engine/evaluation/TruthValue$Tally" "trues" "I" (.int (0 : Int32))) (Fi2 : Fld Z h0 b120 "com/example/contexture/contexture/engine/evaluation/TruthValue$Tally" "unknowns" "I" (.int (((0 : Int32) + (1 : Int32)) + (1 : Int32)))) :
    MetFree l (⟨"com/example/contexture/contexture/engine/evaluation/TruthValue$Tally", "or", "()Lcom/example/contexture/contexture/engine/evaluation/TruthValue;"⟩ : MethodName) (head1 (Jvm.Cond.code (⟨"com/example/contexture/contexture/engine/evaluation/TruthValue$Tally", "or", "()Lcom/example/contexture/contexture/engine/evaluation/TruthValue;"⟩ : MethodName) prog_17_method_5_code 1 (some (.object "com/example/contexture/contexture/engine/evaluation/TruthValue")) :: ws) ({ frames := 1, cells := 0, slots := 0, locals := 13 } : Room)) (fun a U => a = #[(.ref b120)] ∧ Z.Warmed39 U.vm ∧ U.heap = h0) (fun _ _ _ _ _ => True) (fun _ U o U' => ∃ v L, o = .returned v ∧ Q_or8_4 Z b120 a_UNKNOWN a_FALSE h0 n0 v U'.heap L ∧ FrameEnd U o U' L ({ frames := 1, cells := 0, slots := 0, locals := 13 } : Room).cells ({ frames := 1, cells := 0, slots := 0, locals := 13 } : Room).slots) := by
  refine MetFree.of_bodySF (plainFor_of_name pn_2) hisR ?_
  intro p e s m args below meth c s₁ Bd hml0 hP hK
  have W := fun {d : Jvm.Cond} (i : Nat) (q : tables_1[i]? = some d) => hw d (List.mem_of_getElem? q)
  obtain ⟨rfl, hZ, hh⟩ := hP
  have hx := Bd.exec
  have hby := Bd.bytes
  have hml : c.maxLocals = 1 := hml0
  have hown : s.vm.findClass "com/example/contexture/contexture/engine/evaluation/TruthValue$Tally" = some m.cls := findClass_of_methodNamed Bd.named
  have hnm := (name_of_methodNamed Bd.named Bd.method).1
  have X0 : Stand p l e ({ frames := 1, cells := 0, slots := 0, locals := 13 } : Room) s m #[(.ref b120)] below meth c s₁ [] 0 0 := Stand.of_body Bd
  have e0 : s₁.heap = h0 := by rw [← hh, Bd.state]; rfl
  have N0 := Fr.nil n0
  have pre0 : ∀ t, Steps p.tables e below (s₁.setTop (mkF m 0 #[rv b120] [])) t → Steps p.tables e below (s₁.setTop (entryFrame m #[(.ref b120)] 1)) t := fun t k => castTop (ef_17 m b120) k
  have K0 : Keep h0 h0 [] := Keep.refl h0 []
  have pre990 : ∀ t, Steps p.tables e below (s₁.setTop (mkF m 1 #[rv b120] [(.ref b120)])) t → Steps p.tables e below (s₁.setTop (entryFrame m #[(.ref b120)] 1)) t := fun t kt => by
    refine pre0 _ ?_
    show Steps p.tables e below (s₁.setTop (mkF m 0 #[rv b120] [])) _
    refine XS.aloadN X0.here hx rfl (hb hby d8_0) rfl rfl ?_
    exact kt
  obtain ⟨T991, X991, e991, st991⟩ := getF X0 hx hZ hown (host := "") (Or.inl (W 26 rfl)) Via.refl e0 Fi1 (g := (mkF m 1 #[rv b120] [(.ref b120)])) rfl rfl (hb hby d8_1)
  have pre992 : ∀ t, Steps p.tables e below (T991.setTop (mkF m 4 #[rv b120] [(.int (0 : Int32))])) t → Steps p.tables e below (s₁.setTop (entryFrame m #[(.ref b120)] 1)) t := fun t kt => pre990 _ (st991 _ kt)
  have pre993 : ∀ t, Steps p.tables e below (T991.setTop (mkF m 14 #[rv b120] [(.ref b120)])) t → Steps p.tables e below (s₁.setTop (entryFrame m #[(.ref b120)] 1)) t := fun t kt => by
    refine pre992 _ ?_
    show Steps p.tables e below (T991.setTop (mkF m 4 #[rv b120] [(.int (0 : Int32))])) _
    refine XS.ifYes X991.here hx rfl (pc0 := 4) (pc' := 13) rfl (hb hby d8_4) rfl (XT.i0_le_t (by decide)) (by decide) (by decide) ?_
    refine XS.aloadN X991.here hx rfl (hb hby d8_13) rfl rfl ?_
    exact kt
  obtain ⟨T994, X994, e994, st994⟩ := getS2 X991 hx hZ hown (host := "") (Or.inl (W 51 rfl)) Via.refl e991 (G1.ext O0.2) (g := (mkF m 14 #[rv b120] [(.ref b120)])) rfl (hb hby d8_14)
  have pre995 : ∀ t, Steps p.tables e below (T994.setTop (mkF m 17 #[rv b120] [(.ref a_FALSE), (.ref b120)])) t → Steps p.tables e below (s₁.setTop (entryFrame m #[(.ref b120)] 1)) t := fun t kt => pre993 _ (st994 _ kt)
  obtain ⟨cq996, q996, q996'⟩ := (Fi0).cell
  obtain ⟨_, _, ⟨T996, L996, k996, n996⟩, -, X996, ⟨Lc996, hQ996, l996, y996, z996⟩, st996⟩ := X994.privateBack hx (y := (⟨"com/example/contexture/contexture/engine/evaluation/TruthValue$Tally", "settledBy", "(Lcom/example/contexture/contexture/engine/evaluation/TruthValue;)Lcom/example/contexture/contexture/engine/evaluation/TruthValue;"⟩ : MethodName)) hown (mvT hZ (W 67 rfl)) (mvT hZ (W 68 rfl)) (own_selpriv (mvT hZ (W 13 rfl)) (mvP hZ (W 69 rfl)) (mvT hZ (W 68 rfl)) (by decide)) (Cond.privateMethod_at (mvP hZ (W 69 rfl) (args := #[]))) (mvT hZ (W 70 rfl)) (by decide) (backOf (W := 0) (rm_settledBy11_2 l Z a0 hw [] b120 a_FALSE a_UNKNOWN h0 n0 O0 G0 Fi2) hZ (W 70 rfl) (W 14 rfl) (by decide) (by decide)) (g := (mkF m 17 #[rv b120] [(.ref a_FALSE), (.ref b120)])) rfl (by rw [hml]; rfl) (Steps.refl _) (a := b120) (by rw [e994]; exact q996) q996' (argsL := [(.ref a_FALSE)]) (rest := []) (lenOf pd_14 rfl) rfl (by show 2 * 0 + _ ≤ _; exact Nat.le_of_eq rfl) (hb hby d8_17) (fun _ _ => ⟨rfl, e994, (by decide : 0 + 0 ≤ _), (by decide : 0 + 0 ≤ _)⟩)
  dsimp only [Pt.U, Pt.locs, Pt.cells, Pt.slots] at X996 l996 y996 z996 st996 hQ996
  replace l996 := l996.symm
  replace y996 : 0 = k996 := y996.symm
  replace z996 : 0 = n996 := z996.symm
  subst l996 y996 z996
  obtain ⟨rfl, M996, e996⟩ := hQ996
  have N996 := Fr.app N0 M996
  have pre997 : ∀ t, Steps p.tables e below (T996.setTop (mkF m 20 #[rv b120] [(.ref a_UNKNOWN)])) t → Steps p.tables e below (s₁.setTop (entryFrame m #[(.ref b120)] 1)) t := fun t kt => pre995 _ (st996.trans kt)
  obtain ⟨fs, hr, hrun, hended, hW, hsame⟩ := X996.leave (v := some (.ref a_UNKNOWN)) (fun h => by rw [Bd.returns] at h; cases h)
  refine ⟨_, _, pre997 _ (X996.areturnOut hx rfl Bd.returns rfl (hb hby d8_20) hr), hrun, hended, _, _, rfl, ?_, ⟨_, rfl⟩, hW, hsame.mono (by decide) (by decide)⟩
  show Q_or8_4 Z b120 a_UNKNOWN a_FALSE h0 n0 _ T996.heap _
  rw [e996]
  exact ⟨rfl, N996, rfl⟩
def Q_xor9_5 (Z : State) (b120 : Addr) (a_UNKNOWN : Addr) (a_FALSE : Addr) (h0 : Heap) (n0 : Nat) (v : Option Value) (h : Heap) (L : List Loc) : Prop := v = some (.ref a_UNKNOWN) ∧ Fr n0 L ∧ h = h0
set_option maxRecDepth 65536 in
set_option maxHeartbeats 40000000 in
theorem rm_xor9_5 (l : Launch) (Z : State) (a0 : Array Value) (hw : ∀ d ∈ tables_1, d.before a0 Z = true) (ws : List Jvm.Cond) (b120 : Addr) (a_UNKNOWN : Addr) (a_FALSE : Addr) (h0 : Heap) (n0 : Nat) (O0 : Old Z n0 h0) (G0 : Sta Z Z.heap "com/example/contexture/contexture/engine/evaluation/TruthValue" "UNKNOWN" "Lcom/example/contexture/contexture/engine/evaluation/TruthValue;" (.ref a_UNKNOWN)) (G1 : Sta Z Z.heap "com/example/contexture/contexture/engine/evaluation/TruthValue" "FALSE" "Lcom/example/contexture/contexture/engine/evaluation/TruthValue;" (.ref a_FALSE)) (Fi0 : Exa Z h0 b120 "com/example/contexture/contexture/engine/evaluation/TruthValue$Tally") (Fi1 : Fld Z h0 b120 "com/example/contexture/contexture/engine/evaluation/TruthValue$Tally" "trues" "I" (.int (0 : Int32))) (Fi2 : Fld Z h0 b120 "com/example/contexture/contexture/engine/evaluation/TruthValue$Tally" "unknowns" "I" (.int (((0 : Int32) + (1 : Int32)) + (1 : Int32)))) :
    MetFree l (⟨"com/example/contexture/contexture/engine/evaluation/TruthValue$Tally", "xor", "()Lcom/example/contexture/contexture/engine/evaluation/TruthValue;"⟩ : MethodName) (head1 (Jvm.Cond.code (⟨"com/example/contexture/contexture/engine/evaluation/TruthValue$Tally", "xor", "()Lcom/example/contexture/contexture/engine/evaluation/TruthValue;"⟩ : MethodName) prog_17_method_6_code 1 (some (.object "com/example/contexture/contexture/engine/evaluation/TruthValue")) :: ws) ({ frames := 1, cells := 0, slots := 0, locals := 13 } : Room)) (fun a U => a = #[(.ref b120)] ∧ Z.Warmed39 U.vm ∧ U.heap = h0) (fun _ _ _ _ _ => True) (fun _ U o U' => ∃ v L, o = .returned v ∧ Q_xor9_5 Z b120 a_UNKNOWN a_FALSE h0 n0 v U'.heap L ∧ FrameEnd U o U' L ({ frames := 1, cells := 0, slots := 0, locals := 13 } : Room).cells ({ frames := 1, cells := 0, slots := 0, locals := 13 } : Room).slots) := by
  refine MetFree.of_bodySF (plainFor_of_name pn_2) hisR ?_
  intro p e s m args below meth c s₁ Bd hml0 hP hK
  have W := fun {d : Jvm.Cond} (i : Nat) (q : tables_1[i]? = some d) => hw d (List.mem_of_getElem? q)
  obtain ⟨rfl, hZ, hh⟩ := hP
  have hx := Bd.exec
  have hby := Bd.bytes
  have hml : c.maxLocals = 1 := hml0
  have hown : s.vm.findClass "com/example/contexture/contexture/engine/evaluation/TruthValue$Tally" = some m.cls := findClass_of_methodNamed Bd.named
  have hnm := (name_of_methodNamed Bd.named Bd.method).1
  have X0 : Stand p l e ({ frames := 1, cells := 0, slots := 0, locals := 13 } : Room) s m #[(.ref b120)] below meth c s₁ [] 0 0 := Stand.of_body Bd
  have e0 : s₁.heap = h0 := by rw [← hh, Bd.state]; rfl
  have N0 := Fr.nil n0
  have pre0 : ∀ t, Steps p.tables e below (s₁.setTop (mkF m 0 #[rv b120] [])) t → Steps p.tables e below (s₁.setTop (entryFrame m #[(.ref b120)] 1)) t := fun t k => castTop (ef_21 m b120) k
  have K0 : Keep h0 h0 [] := Keep.refl h0 []
  have pre1017 : ∀ t, Steps p.tables e below (s₁.setTop (mkF m 2 #[rv b120] [(.ref b120), (.ref b120)])) t → Steps p.tables e below (s₁.setTop (entryFrame m #[(.ref b120)] 1)) t := fun t kt => by
    refine pre0 _ ?_
    show Steps p.tables e below (s₁.setTop (mkF m 0 #[rv b120] [])) _
    refine XS.aloadN X0.here hx rfl (hb hby d9_0) rfl rfl ?_
    refine XS.aloadN X0.here hx rfl (hb hby d9_1) rfl rfl ?_
    exact kt
  obtain ⟨T1018, X1018, e1018, st1018⟩ := getF X0 hx hZ hown (host := "") (Or.inl (W 26 rfl)) Via.refl e0 Fi1 (g := (mkF m 2 #[rv b120] [(.ref b120), (.ref b120)])) rfl rfl (hb hby d9_2)
  have pre1019 : ∀ t, Steps p.tables e below (T1018.setTop (mkF m 5 #[rv b120] [(.int (0 : Int32)), (.ref b120)])) t → Steps p.tables e below (s₁.setTop (entryFrame m #[(.ref b120)] 1)) t := fun t kt => pre1017 _ (st1018 _ kt)
  have pre1020 : ∀ t, Steps p.tables e below (T1018.setTop (mkF m 14 #[rv b120] [(.int (0 : Int32)), (.ref b120)])) t → Steps p.tables e below (s₁.setTop (entryFrame m #[(.ref b120)] 1)) t := fun t kt => by
    refine pre1019 _ ?_
    show Steps p.tables e below (T1018.setTop (mkF m 5 #[rv b120] [(.int (0 : Int32)), (.ref b120)])) _
    refine XS.iconst X1018.here hx rfl (hb hby d9_5) ?_
    refine XS.icmpYes X1018.here hx rfl (pc0 := 6) (pc' := 13) rfl (hb hby d9_6) rfl (XT.ii_ne_t (by decide)) (by decide) (by decide) ?_
    refine XS.iconst X1018.here hx rfl (hb hby d9_13) ?_
    exact kt
  obtain ⟨_, _, ⟨T1021, L1021, k1021, n1021⟩, -, X1021, ⟨Lc1021, hQ1021, l1021, y1021, z1021⟩, st1021⟩ := Jvm.LawKit.callS X1018 hx (y := (⟨"com/example/contexture/contexture/engine/evaluation/TruthValue", "of", "(Z)Lcom/example/contexture/contexture/engine/evaluation/TruthValue;"⟩ : MethodName)) hown (mvT hZ (W 63 rfl)) (mvT hZ (W 64 rfl)) (mvT hZ (W 6 rfl)) (mvT hZ (W 65 rfl)) (by decide) (backOf (W := 1) (rm_of10_0 l Z a0 hw [] a_FALSE h0 n0 O0 G1) hZ (W 65 rfl) (W 6 rfl) (by decide) (by decide)) (g := (mkF m 14 #[rv b120] [(.int (0 : Int32)), (.ref b120)])) rfl (by rw [hml]; rfl) (argsL := [(.int (0 : Int32))]) (rest := [(.ref b120)]) (lenOf pd_20 rfl) rfl (by show 2 * 0 + _ ≤ _; exact Nat.le_of_eq rfl) (hb hby d9_14) (fun _ _ => ⟨rfl, e1018, (by decide : 0 + 0 ≤ _), (by decide : 0 + 0 ≤ _)⟩)
  dsimp only [Pt.U, Pt.locs, Pt.cells, Pt.slots] at X1021 l1021 y1021 z1021 st1021 hQ1021
  replace l1021 := l1021.symm
  replace y1021 : 0 = k1021 := y1021.symm
  replace z1021 : 0 = n1021 := z1021.symm
  subst l1021 y1021 z1021
  obtain ⟨rfl, M1021, e1021⟩ := hQ1021
  have N1021 := Fr.app N0 M1021
  have pre1022 : ∀ t, Steps p.tables e below (T1021.setTop (mkF m 17 #[rv b120] [(.ref a_FALSE), (.ref b120)])) t → Steps p.tables e below (s₁.setTop (entryFrame m #[(.ref b120)] 1)) t := fun t kt => pre1020 _ (st1021 _ kt)
  obtain ⟨cq1023, q1023, q1023'⟩ := (Fi0).cell
  obtain ⟨_, _, ⟨T1023, L1023, k1023, n1023⟩, -, X1023, ⟨Lc1023, hQ1023, l1023, y1023, z1023⟩, st1023⟩ := X1021.privateBack hx (y := (⟨"com/example/contexture/contexture/engine/evaluation/TruthValue$Tally", "settledBy", "(Lcom/example/contexture/contexture/engine/evaluation/TruthValue;)Lcom/example/contexture/contexture/engine/evaluation/TruthValue;"⟩ : MethodName)) hown (mvT hZ (W 67 rfl)) (mvT hZ (W 68 rfl)) (own_selpriv (mvT hZ (W 13 rfl)) (mvP hZ (W 69 rfl)) (mvT hZ (W 68 rfl)) (by decide)) (Cond.privateMethod_at (mvP hZ (W 69 rfl) (args := #[]))) (mvT hZ (W 70 rfl)) (by decide) (backOf (W := 0) (rm_settledBy11_2 l Z a0 hw [] b120 a_FALSE a_UNKNOWN h0 n0 O0 G0 Fi2) hZ (W 70 rfl) (W 14 rfl) (by decide) (by decide)) (g := (mkF m 17 #[rv b120] [(.ref a_FALSE), (.ref b120)])) rfl (by rw [hml]; rfl) (Steps.refl _) (a := b120) (by rw [e1021]; exact q1023) q1023' (argsL := [(.ref a_FALSE)]) (rest := []) (lenOf pd_14 rfl) rfl (by show 2 * 0 + _ ≤ _; exact Nat.le_of_eq rfl) (hb hby d9_17) (fun _ _ => ⟨rfl, e1021, (by decide : 0 + 0 ≤ _), (by decide : 0 + 0 ≤ _)⟩)
  dsimp only [Pt.U, Pt.locs, Pt.cells, Pt.slots] at X1023 l1023 y1023 z1023 st1023 hQ1023
  replace l1023 := l1023.symm
  replace y1023 : 0 = k1023 := y1023.symm
  replace z1023 : 0 = n1023 := z1023.symm
  subst l1023 y1023 z1023
  obtain ⟨rfl, M1023, e1023⟩ := hQ1023
  have N1023 := Fr.app N1021 M1023
  have pre1024 : ∀ t, Steps p.tables e below (T1023.setTop (mkF m 20 #[rv b120] [(.ref a_UNKNOWN)])) t → Steps p.tables e below (s₁.setTop (entryFrame m #[(.ref b120)] 1)) t := fun t kt => pre1022 _ (st1023.trans kt)
  obtain ⟨fs, hr, hrun, hended, hW, hsame⟩ := X1023.leave (v := some (.ref a_UNKNOWN)) (fun h => by rw [Bd.returns] at h; cases h)
  refine ⟨_, _, pre1024 _ (X1023.areturnOut hx rfl Bd.returns rfl (hb hby d9_20) hr), hrun, hended, _, _, rfl, ?_, ⟨_, rfl⟩, hW, hsame.mono (by decide) (by decide)⟩
  show Q_xor9_5 Z b120 a_UNKNOWN a_FALSE h0 n0 _ T1023.heap _
  rw [e1023]
  exact ⟨rfl, N1023, rfl⟩
def Q_law (Z : State) (p0 : Int32) (p1 : Int32) (p2 : Int32) (p3 : Int32) (a_UNKNOWN : Addr) (a_TRUE : Addr) (a_FALSE : Addr) (h0 : Heap) (n0 : Nat) (v : Option Value) (h : Heap) (L : List Loc) : Prop := v = some (.int (1 : Int32)) ∧ Fr n0 L
set_option maxRecDepth 65536 in
set_option maxHeartbeats 40000000 in
theorem rm_law (l : Launch) (Z : State) (a0 : Array Value) (hw : ∀ d ∈ tables_1, d.before a0 Z = true) (ws : List Jvm.Cond) (p0 : Int32) (p1 : Int32) (p2 : Int32) (p3 : Int32) (a_UNKNOWN : Addr) (a_TRUE : Addr) (a_FALSE : Addr) (h0 : Heap) (n0 : Nat) (O0 : Old Z n0 h0) (G0 : Sta Z Z.heap "com/example/contexture/contexture/engine/evaluation/TruthValue" "UNKNOWN" "Lcom/example/contexture/contexture/engine/evaluation/TruthValue;" (.ref a_UNKNOWN)) (G1 : Exa Z Z.heap a_UNKNOWN "com/example/contexture/contexture/engine/evaluation/TruthValue") (G2 : Sta Z Z.heap "com/example/contexture/contexture/engine/evaluation/TruthValue" "TRUE" "Lcom/example/contexture/contexture/engine/evaluation/TruthValue;" (.ref a_TRUE)) (G3 : Exa Z Z.heap a_TRUE "com/example/contexture/contexture/engine/evaluation/TruthValue") (G4 : Sta Z Z.heap "com/example/contexture/contexture/engine/evaluation/TruthValue" "FALSE" "Lcom/example/contexture/contexture/engine/evaluation/TruthValue;" (.ref a_FALSE)) (G5 : Exa Z Z.heap a_FALSE "com/example/contexture/contexture/engine/evaluation/TruthValue") (G6 : Fld Z Z.heap a_FALSE "java/lang/Enum" "ordinal" "I" (.int (1 : Int32))) (G7 : Fld Z Z.heap a_TRUE "java/lang/Enum" "ordinal" "I" (.int (0 : Int32))) (G8 : Fld Z Z.heap a_UNKNOWN "java/lang/Enum" "ordinal" "I" (.int (2 : Int32))) :
    MetFree l x (head1 (Jvm.Cond.code x code maxLocals ret :: ws) room_1) (fun a U => a = #[(.int p0), (.int p1), (.int p2), (.int p3)] ∧ Z.Warmed39 U.vm ∧ U.heap = h0) (fun _ _ _ _ _ => True) (fun _ U o U' => ∃ v L, o = .returned v ∧ Q_law Z p0 p1 p2 p3 a_UNKNOWN a_TRUE a_FALSE h0 n0 v U'.heap L ∧ FrameEnd U o U' L room_1.cells room_1.slots) := by
  refine MetFree.of_bodySF (plainFor_of_name pn_0) hisR ?_
  intro p e s m args below meth c s₁ Bd hml0 hP hK
  have W := fun {d : Jvm.Cond} (i : Nat) (q : tables_1[i]? = some d) => hw d (List.mem_of_getElem? q)
  obtain ⟨rfl, hZ, hh⟩ := hP
  have hx := Bd.exec
  have hby := Bd.bytes
  have hml : c.maxLocals = 18 := hml0
  have hown : s.vm.findClass "com/example/contexture/contexture/engine/evaluation/TallyClearPinLaw" = some m.cls := findClass_of_methodNamed Bd.named
  have hnm := (name_of_methodNamed Bd.named Bd.method).1
  have X0 : Stand p l e room_1 s m #[(.int p0), (.int p1), (.int p2), (.int p3)] below meth c s₁ [] 0 0 := Stand.of_body Bd
  have e0 : s₁.heap = h0 := by rw [← hh, Bd.state]; rfl
  have N0 := Fr.nil n0
  have pre0 : ∀ t, Steps p.tables e below (s₁.setTop (mkF m 0 #[iv p0, iv p1, iv p2, iv p3, .unset, .unset, .unset, .unset, .unset, .unset, .unset, .unset, .unset, .unset, .unset, .unset, .unset, .unset] [])) t → Steps p.tables e below (s₁.setTop (entryFrame m #[(.int p0), (.int p1), (.int p2), (.int p3)] maxLocals)) t := fun t k => castTop (ef_8 m p0 p1 p2 p3) k
  have K0 : Keep h0 h0 [] := Keep.refl h0 []
  have ne_a_FALSE_a_TRUE : a_FALSE ≠ a_TRUE := own_fld_ne G6 G7 (by decide)
  have ne_a_FALSE_a_UNKNOWN : a_FALSE ≠ a_UNKNOWN := own_fld_ne G6 G8 (by decide)
  have ne_a_TRUE_a_UNKNOWN : a_TRUE ≠ a_UNKNOWN := own_fld_ne G7 G8 (by decide)
  have pre103 : ∀ t, Steps p.tables e below (s₁.setTop (mkF m 13 #[iv p0, iv p1, iv p2, iv p3, iv (p0 &&& (3 : Int32)), iv ((p2 &&& (2147483647 : Int32)) - ((p2 &&& (2147483647 : Int32)) / (3 : Int32)) * (3 : Int32)), .unset, .unset, .unset, .unset, .unset, .unset, .unset, .unset, .unset, .unset, .unset, .unset] [])) t → Steps p.tables e below (s₁.setTop (entryFrame m #[(.int p0), (.int p1), (.int p2), (.int p3)] maxLocals)) t := fun t kt => by
    refine pre0 _ ?_
    show Steps p.tables e below (s₁.setTop (mkF m 0 #[iv p0, iv p1, iv p2, iv p3, .unset, .unset, .unset, .unset, .unset, .unset, .unset, .unset, .unset, .unset, .unset, .unset, .unset, .unset] [])) _
    refine XS.iloadN X0.here hx rfl (hb hby at_0) rfl ?_
    refine XS.iconst X0.here hx rfl (hb hby at_1) ?_
    refine XS.iand X0.here hx rfl (hb hby at_2) rfl ?_
    refine XS.istore X0.here hx rfl (hb hby at_3) rfl (l' := #[iv p0, iv p1, iv p2, iv p3, iv (p0 &&& (3 : Int32)), .unset, .unset, .unset, .unset, .unset, .unset, .unset, .unset, .unset, .unset, .unset, .unset, .unset]) rfl ?_
    show Steps p.tables e below (s₁.setTop (mkF m 5 #[iv p0, iv p1, iv p2, iv p3, iv (p0 &&& (3 : Int32)), .unset, .unset, .unset, .unset, .unset, .unset, .unset, .unset, .unset, .unset, .unset, .unset, .unset] [])) _
    refine XS.iloadN X0.here hx rfl (hb hby at_5) rfl ?_
    refine X0.ldcInt hx hown (mvT hZ (W 0 rfl)) (g := (mkF m 6 #[iv p0, iv p1, iv p2, iv p3, iv (p0 &&& (3 : Int32)), .unset, .unset, .unset, .unset, .unset, .unset, .unset, .unset, .unset, .unset, .unset, .unset, .unset] [(.int p2)])) rfl (hb hby at_6) _ ?_
    refine XS.iand X0.here hx rfl (hb hby at_8) rfl ?_
    refine XS.iconst X0.here hx rfl (hb hby at_9) ?_
    show Steps p.tables e below (s₁.setTop (mkF m 10 #[iv p0, iv p1, iv p2, iv p3, iv (p0 &&& (3 : Int32)), .unset, .unset, .unset, .unset, .unset, .unset, .unset, .unset, .unset, .unset, .unset, .unset, .unset] [(.int (3 : Int32)), (.int (p2 &&& (2147483647 : Int32)))])) _
    refine XS.irem X0.here hx rfl (hb hby at_10) rfl (by decide) ?_
    refine XS.istore X0.here hx rfl (hb hby at_11) rfl (l' := #[iv p0, iv p1, iv p2, iv p3, iv (p0 &&& (3 : Int32)), iv ((p2 &&& (2147483647 : Int32)) - ((p2 &&& (2147483647 : Int32)) / (3 : Int32)) * (3 : Int32)), .unset, .unset, .unset, .unset, .unset, .unset, .unset, .unset, .unset, .unset, .unset, .unset]) rfl ?_
    exact kt
  obtain ⟨mv, hmv⟩ : ∃ z, z = ((p2 &&& (2147483647 : Int32)) - ((p2 &&& (2147483647 : Int32)) / (3 : Int32)) * (3 : Int32)) := ⟨_, rfl⟩
  rw [← hmv] at pre103
  have pre104 : ∀ t, Steps p.tables e below (s₁.setTop (mkF m 14 #[iv p0, iv p1, iv p2, iv p3, iv (p0 &&& (3 : Int32)), iv mv, .unset, .unset, .unset, .unset, .unset, .unset, .unset, .unset, .unset, .unset, .unset, .unset] [(.int p1)])) t → Steps p.tables e below (s₁.setTop (entryFrame m #[(.int p0), (.int p1), (.int p2), (.int p3)] maxLocals)) t := fun t kt => by
    refine pre103 _ ?_
    show Steps p.tables e below (s₁.setTop (mkF m 13 #[iv p0, iv p1, iv p2, iv p3, iv (p0 &&& (3 : Int32)), iv mv, .unset, .unset, .unset, .unset, .unset, .unset, .unset, .unset, .unset, .unset, .unset, .unset] [])) _
    refine XS.iloadN X0.here hx rfl (hb hby at_13) rfl ?_
    exact kt
  obtain ⟨_, _, ⟨T105, L105, k105, n105⟩, -, X105, ⟨Lc105, hQ105, l105, y105, z105⟩, st105⟩ := Jvm.LawKit.callS X0 hx (y := (⟨"com/example/contexture/contexture/engine/evaluation/TallyClearPinLaw", "v", "(I)Lcom/example/contexture/contexture/engine/evaluation/TruthValue;"⟩ : MethodName)) hown (mvT hZ (W 1 rfl)) (mvT hZ (W 2 rfl)) (mvT hZ (W 3 rfl)) (mvT hZ (W 4 rfl)) (by decide) (backOf (W := 0) (rm_v l Z a0 hw [] p1 a_TRUE a_FALSE a_UNKNOWN h0 n0 O0 G2 G4 G0) hZ (W 4 rfl) (W 3 rfl) (by decide) (by decide)) (g := (mkF m 14 #[iv p0, iv p1, iv p2, iv p3, iv (p0 &&& (3 : Int32)), iv mv, .unset, .unset, .unset, .unset, .unset, .unset, .unset, .unset, .unset, .unset, .unset, .unset] [(.int p1)])) rfl (by rw [hml]; rfl) (argsL := [(.int p1)]) (rest := []) (lenOf pd_9 rfl) rfl (by show 2 * 0 + _ ≤ _; exact Nat.le_of_eq rfl) (hb hby at_14) (fun _ _ => ⟨rfl, e0, (by decide : 0 + 0 ≤ _), (by decide : 0 + 0 ≤ _)⟩)
  dsimp only [Pt.U, Pt.locs, Pt.cells, Pt.slots] at X105 l105 y105 z105 st105 hQ105
  replace l105 := l105.symm
  replace y105 : 0 = k105 := y105.symm
  replace z105 : 0 = n105 := z105.symm
  subst l105 y105 z105
  obtain ⟨r_105, rfl, M105, e105, P105_0⟩ := hQ105
  have N105 := Fr.app N0 M105
  have pre106 : ∀ t, Steps p.tables e below (T105.setTop (mkF m 17 #[iv p0, iv p1, iv p2, iv p3, iv (p0 &&& (3 : Int32)), iv mv, .unset, .unset, .unset, .unset, .unset, .unset, .unset, .unset, .unset, .unset, .unset, .unset] [(.ref r_105)])) t → Steps p.tables e below (s₁.setTop (entryFrame m #[(.int p0), (.int p1), (.int p2), (.int p3)] maxLocals)) t := fun t kt => pre104 _ (st105 _ kt)
  have pre107 : ∀ t, Steps p.tables e below (T105.setTop (mkF m 22 #[iv p0, iv p1, iv p2, iv p3, iv (p0 &&& (3 : Int32)), iv mv, rv r_105, .unset, .unset, .unset, .unset, .unset, .unset, .unset, .unset, .unset, .unset, .unset] [(.int ((p1.toUInt32 >>> ((2 : Int32) &&& 31).toUInt32).toInt32))])) t → Steps p.tables e below (s₁.setTop (entryFrame m #[(.int p0), (.int p1), (.int p2), (.int p3)] maxLocals)) t := fun t kt => by
    refine pre106 _ ?_
    show Steps p.tables e below (T105.setTop (mkF m 17 #[iv p0, iv p1, iv p2, iv p3, iv (p0 &&& (3 : Int32)), iv mv, .unset, .unset, .unset, .unset, .unset, .unset, .unset, .unset, .unset, .unset, .unset, .unset] [(.ref r_105)])) _
    refine XS.astore X105.here hx rfl (hb hby at_17) rfl rfl (l' := #[iv p0, iv p1, iv p2, iv p3, iv (p0 &&& (3 : Int32)), iv mv, rv r_105, .unset, .unset, .unset, .unset, .unset, .unset, .unset, .unset, .unset, .unset, .unset]) rfl ?_
    refine XS.iloadN X105.here hx rfl (hb hby at_19) rfl ?_
    refine XS.iconst X105.here hx rfl (hb hby at_20) ?_
    refine XS.iushr X105.here hx rfl (hb hby at_21) rfl ?_
    exact kt
  obtain ⟨_, _, ⟨T108, L108, k108, n108⟩, -, X108, ⟨Lc108, hQ108, l108, y108, z108⟩, st108⟩ := Jvm.LawKit.callS X105 hx (y := (⟨"com/example/contexture/contexture/engine/evaluation/TallyClearPinLaw", "v", "(I)Lcom/example/contexture/contexture/engine/evaluation/TruthValue;"⟩ : MethodName)) hown (mvT hZ (W 1 rfl)) (mvT hZ (W 2 rfl)) (mvT hZ (W 3 rfl)) (mvT hZ (W 4 rfl)) (by decide) (backOf (W := 0) (rm_v l Z a0 hw [] (((p1.toUInt32 >>> ((2 : Int32) &&& 31).toUInt32).toInt32)) a_TRUE a_FALSE a_UNKNOWN h0 n0 O0 G2 G4 G0) hZ (W 4 rfl) (W 3 rfl) (by decide) (by decide)) (g := (mkF m 22 #[iv p0, iv p1, iv p2, iv p3, iv (p0 &&& (3 : Int32)), iv mv, rv r_105, .unset, .unset, .unset, .unset, .unset, .unset, .unset, .unset, .unset, .unset, .unset] [(.int ((p1.toUInt32 >>> ((2 : Int32) &&& 31).toUInt32).toInt32))])) rfl (by rw [hml]; rfl) (argsL := [(.int ((p1.toUInt32 >>> ((2 : Int32) &&& 31).toUInt32).toInt32))]) (rest := []) (lenOf pd_9 rfl) rfl (by show 2 * 0 + _ ≤ _; exact Nat.le_of_eq rfl) (hb hby at_22) (fun _ _ => ⟨rfl, e105, (by decide : 0 + 0 ≤ _), (by decide : 0 + 0 ≤ _)⟩)
  dsimp only [Pt.U, Pt.locs, Pt.cells, Pt.slots] at X108 l108 y108 z108 st108 hQ108
  replace l108 := l108.symm
  replace y108 : 0 = k108 := y108.symm
  replace z108 : 0 = n108 := z108.symm
  subst l108 y108 z108
  obtain ⟨r_108, rfl, M108, e108, P108_0⟩ := hQ108
  have N108 := Fr.app N105 M108
  have pre109 : ∀ t, Steps p.tables e below (T108.setTop (mkF m 25 #[iv p0, iv p1, iv p2, iv p3, iv (p0 &&& (3 : Int32)), iv mv, rv r_105, .unset, .unset, .unset, .unset, .unset, .unset, .unset, .unset, .unset, .unset, .unset] [(.ref r_108)])) t → Steps p.tables e below (s₁.setTop (entryFrame m #[(.int p0), (.int p1), (.int p2), (.int p3)] maxLocals)) t := fun t kt => pre107 _ (st108 _ kt)
  have pre110 : ∀ t, Steps p.tables e below (T108.setTop (mkF m 30 #[iv p0, iv p1, iv p2, iv p3, iv (p0 &&& (3 : Int32)), iv mv, rv r_105, rv r_108, .unset, .unset, .unset, .unset, .unset, .unset, .unset, .unset, .unset, .unset] [(.int ((p1.toUInt32 >>> ((4 : Int32) &&& 31).toUInt32).toInt32))])) t → Steps p.tables e below (s₁.setTop (entryFrame m #[(.int p0), (.int p1), (.int p2), (.int p3)] maxLocals)) t := fun t kt => by
    refine pre109 _ ?_
    show Steps p.tables e below (T108.setTop (mkF m 25 #[iv p0, iv p1, iv p2, iv p3, iv (p0 &&& (3 : Int32)), iv mv, rv r_105, .unset, .unset, .unset, .unset, .unset, .unset, .unset, .unset, .unset, .unset, .unset] [(.ref r_108)])) _
    refine XS.astore X108.here hx rfl (hb hby at_25) rfl rfl (l' := #[iv p0, iv p1, iv p2, iv p3, iv (p0 &&& (3 : Int32)), iv mv, rv r_105, rv r_108, .unset, .unset, .unset, .unset, .unset, .unset, .unset, .unset, .unset, .unset]) rfl ?_
    refine XS.iloadN X108.here hx rfl (hb hby at_27) rfl ?_
    refine XS.iconst X108.here hx rfl (hb hby at_28) ?_
    refine XS.iushr X108.here hx rfl (hb hby at_29) rfl ?_
    exact kt
  obtain ⟨_, _, ⟨T111, L111, k111, n111⟩, -, X111, ⟨Lc111, hQ111, l111, y111, z111⟩, st111⟩ := Jvm.LawKit.callS X108 hx (y := (⟨"com/example/contexture/contexture/engine/evaluation/TallyClearPinLaw", "v", "(I)Lcom/example/contexture/contexture/engine/evaluation/TruthValue;"⟩ : MethodName)) hown (mvT hZ (W 1 rfl)) (mvT hZ (W 2 rfl)) (mvT hZ (W 3 rfl)) (mvT hZ (W 4 rfl)) (by decide) (backOf (W := 0) (rm_v l Z a0 hw [] (((p1.toUInt32 >>> ((4 : Int32) &&& 31).toUInt32).toInt32)) a_TRUE a_FALSE a_UNKNOWN h0 n0 O0 G2 G4 G0) hZ (W 4 rfl) (W 3 rfl) (by decide) (by decide)) (g := (mkF m 30 #[iv p0, iv p1, iv p2, iv p3, iv (p0 &&& (3 : Int32)), iv mv, rv r_105, rv r_108, .unset, .unset, .unset, .unset, .unset, .unset, .unset, .unset, .unset, .unset] [(.int ((p1.toUInt32 >>> ((4 : Int32) &&& 31).toUInt32).toInt32))])) rfl (by rw [hml]; rfl) (argsL := [(.int ((p1.toUInt32 >>> ((4 : Int32) &&& 31).toUInt32).toInt32))]) (rest := []) (lenOf pd_9 rfl) rfl (by show 2 * 0 + _ ≤ _; exact Nat.le_of_eq rfl) (hb hby at_30) (fun _ _ => ⟨rfl, e108, (by decide : 0 + 0 ≤ _), (by decide : 0 + 0 ≤ _)⟩)
  dsimp only [Pt.U, Pt.locs, Pt.cells, Pt.slots] at X111 l111 y111 z111 st111 hQ111
  replace l111 := l111.symm
  replace y111 : 0 = k111 := y111.symm
  replace z111 : 0 = n111 := z111.symm
  subst l111 y111 z111
  obtain ⟨r_111, rfl, M111, e111, P111_0⟩ := hQ111
  have N111 := Fr.app N108 M111
  have pre112 : ∀ t, Steps p.tables e below (T111.setTop (mkF m 33 #[iv p0, iv p1, iv p2, iv p3, iv (p0 &&& (3 : Int32)), iv mv, rv r_105, rv r_108, .unset, .unset, .unset, .unset, .unset, .unset, .unset, .unset, .unset, .unset] [(.ref r_111)])) t → Steps p.tables e below (s₁.setTop (entryFrame m #[(.int p0), (.int p1), (.int p2), (.int p3)] maxLocals)) t := fun t kt => pre110 _ (st111 _ kt)
  have pre113 : ∀ t, Steps p.tables e below (T111.setTop (mkF m 36 #[iv p0, iv p1, iv p2, iv p3, iv (p0 &&& (3 : Int32)), iv mv, rv r_105, rv r_108, rv r_111, .unset, .unset, .unset, .unset, .unset, .unset, .unset, .unset, .unset] [(.int p3)])) t → Steps p.tables e below (s₁.setTop (entryFrame m #[(.int p0), (.int p1), (.int p2), (.int p3)] maxLocals)) t := fun t kt => by
    refine pre112 _ ?_
    show Steps p.tables e below (T111.setTop (mkF m 33 #[iv p0, iv p1, iv p2, iv p3, iv (p0 &&& (3 : Int32)), iv mv, rv r_105, rv r_108, .unset, .unset, .unset, .unset, .unset, .unset, .unset, .unset, .unset, .unset] [(.ref r_111)])) _
    refine XS.astore X111.here hx rfl (hb hby at_33) rfl rfl (l' := #[iv p0, iv p1, iv p2, iv p3, iv (p0 &&& (3 : Int32)), iv mv, rv r_105, rv r_108, rv r_111, .unset, .unset, .unset, .unset, .unset, .unset, .unset, .unset, .unset]) rfl ?_
    refine XS.iloadN X111.here hx rfl (hb hby at_35) rfl ?_
    exact kt
  obtain ⟨_, _, ⟨T114, L114, k114, n114⟩, -, X114, ⟨Lc114, hQ114, l114, y114, z114⟩, st114⟩ := Jvm.LawKit.callS X111 hx (y := (⟨"com/example/contexture/contexture/engine/evaluation/TallyClearPinLaw", "v", "(I)Lcom/example/contexture/contexture/engine/evaluation/TruthValue;"⟩ : MethodName)) hown (mvT hZ (W 1 rfl)) (mvT hZ (W 2 rfl)) (mvT hZ (W 3 rfl)) (mvT hZ (W 4 rfl)) (by decide) (backOf (W := 0) (rm_v l Z a0 hw [] p3 a_TRUE a_FALSE a_UNKNOWN h0 n0 O0 G2 G4 G0) hZ (W 4 rfl) (W 3 rfl) (by decide) (by decide)) (g := (mkF m 36 #[iv p0, iv p1, iv p2, iv p3, iv (p0 &&& (3 : Int32)), iv mv, rv r_105, rv r_108, rv r_111, .unset, .unset, .unset, .unset, .unset, .unset, .unset, .unset, .unset] [(.int p3)])) rfl (by rw [hml]; rfl) (argsL := [(.int p3)]) (rest := []) (lenOf pd_9 rfl) rfl (by show 2 * 0 + _ ≤ _; exact Nat.le_of_eq rfl) (hb hby at_36) (fun _ _ => ⟨rfl, e111, (by decide : 0 + 0 ≤ _), (by decide : 0 + 0 ≤ _)⟩)
  dsimp only [Pt.U, Pt.locs, Pt.cells, Pt.slots] at X114 l114 y114 z114 st114 hQ114
  replace l114 := l114.symm
  replace y114 : 0 = k114 := y114.symm
  replace z114 : 0 = n114 := z114.symm
  subst l114 y114 z114
  obtain ⟨r_114, rfl, M114, e114, P114_0⟩ := hQ114
  have N114 := Fr.app N111 M114
  have pre115 : ∀ t, Steps p.tables e below (T114.setTop (mkF m 39 #[iv p0, iv p1, iv p2, iv p3, iv (p0 &&& (3 : Int32)), iv mv, rv r_105, rv r_108, rv r_111, .unset, .unset, .unset, .unset, .unset, .unset, .unset, .unset, .unset] [(.ref r_114)])) t → Steps p.tables e below (s₁.setTop (entryFrame m #[(.int p0), (.int p1), (.int p2), (.int p3)] maxLocals)) t := fun t kt => pre113 _ (st114 _ kt)
  have pre116 : ∀ t, Steps p.tables e below (T114.setTop (mkF m 44 #[iv p0, iv p1, iv p2, iv p3, iv (p0 &&& (3 : Int32)), iv mv, rv r_105, rv r_108, rv r_111, rv r_114, .unset, .unset, .unset, .unset, .unset, .unset, .unset, .unset] [(.int ((p3.toUInt32 >>> ((2 : Int32) &&& 31).toUInt32).toInt32))])) t → Steps p.tables e below (s₁.setTop (entryFrame m #[(.int p0), (.int p1), (.int p2), (.int p3)] maxLocals)) t := fun t kt => by
    refine pre115 _ ?_
    show Steps p.tables e below (T114.setTop (mkF m 39 #[iv p0, iv p1, iv p2, iv p3, iv (p0 &&& (3 : Int32)), iv mv, rv r_105, rv r_108, rv r_111, .unset, .unset, .unset, .unset, .unset, .unset, .unset, .unset, .unset] [(.ref r_114)])) _
    refine XS.astore X114.here hx rfl (hb hby at_39) rfl rfl (l' := #[iv p0, iv p1, iv p2, iv p3, iv (p0 &&& (3 : Int32)), iv mv, rv r_105, rv r_108, rv r_111, rv r_114, .unset, .unset, .unset, .unset, .unset, .unset, .unset, .unset]) rfl ?_
    refine XS.iloadN X114.here hx rfl (hb hby at_41) rfl ?_
    refine XS.iconst X114.here hx rfl (hb hby at_42) ?_
    refine XS.iushr X114.here hx rfl (hb hby at_43) rfl ?_
    exact kt
  obtain ⟨_, _, ⟨T117, L117, k117, n117⟩, -, X117, ⟨Lc117, hQ117, l117, y117, z117⟩, st117⟩ := Jvm.LawKit.callS X114 hx (y := (⟨"com/example/contexture/contexture/engine/evaluation/TallyClearPinLaw", "v", "(I)Lcom/example/contexture/contexture/engine/evaluation/TruthValue;"⟩ : MethodName)) hown (mvT hZ (W 1 rfl)) (mvT hZ (W 2 rfl)) (mvT hZ (W 3 rfl)) (mvT hZ (W 4 rfl)) (by decide) (backOf (W := 0) (rm_v l Z a0 hw [] (((p3.toUInt32 >>> ((2 : Int32) &&& 31).toUInt32).toInt32)) a_TRUE a_FALSE a_UNKNOWN h0 n0 O0 G2 G4 G0) hZ (W 4 rfl) (W 3 rfl) (by decide) (by decide)) (g := (mkF m 44 #[iv p0, iv p1, iv p2, iv p3, iv (p0 &&& (3 : Int32)), iv mv, rv r_105, rv r_108, rv r_111, rv r_114, .unset, .unset, .unset, .unset, .unset, .unset, .unset, .unset] [(.int ((p3.toUInt32 >>> ((2 : Int32) &&& 31).toUInt32).toInt32))])) rfl (by rw [hml]; rfl) (argsL := [(.int ((p3.toUInt32 >>> ((2 : Int32) &&& 31).toUInt32).toInt32))]) (rest := []) (lenOf pd_9 rfl) rfl (by show 2 * 0 + _ ≤ _; exact Nat.le_of_eq rfl) (hb hby at_44) (fun _ _ => ⟨rfl, e114, (by decide : 0 + 0 ≤ _), (by decide : 0 + 0 ≤ _)⟩)
  dsimp only [Pt.U, Pt.locs, Pt.cells, Pt.slots] at X117 l117 y117 z117 st117 hQ117
  replace l117 := l117.symm
  replace y117 : 0 = k117 := y117.symm
  replace z117 : 0 = n117 := z117.symm
  subst l117 y117 z117
  obtain ⟨r_117, rfl, M117, e117, P117_0⟩ := hQ117
  have N117 := Fr.app N114 M117
  have pre118 : ∀ t, Steps p.tables e below (T117.setTop (mkF m 47 #[iv p0, iv p1, iv p2, iv p3, iv (p0 &&& (3 : Int32)), iv mv, rv r_105, rv r_108, rv r_111, rv r_114, .unset, .unset, .unset, .unset, .unset, .unset, .unset, .unset] [(.ref r_117)])) t → Steps p.tables e below (s₁.setTop (entryFrame m #[(.int p0), (.int p1), (.int p2), (.int p3)] maxLocals)) t := fun t kt => pre116 _ (st117 _ kt)
  have pre119 : ∀ t, Steps p.tables e below (T117.setTop (mkF m 49 #[iv p0, iv p1, iv p2, iv p3, iv (p0 &&& (3 : Int32)), iv mv, rv r_105, rv r_108, rv r_111, rv r_114, rv r_117, .unset, .unset, .unset, .unset, .unset, .unset, .unset] [])) t → Steps p.tables e below (s₁.setTop (entryFrame m #[(.int p0), (.int p1), (.int p2), (.int p3)] maxLocals)) t := fun t kt => by
    refine pre118 _ ?_
    show Steps p.tables e below (T117.setTop (mkF m 47 #[iv p0, iv p1, iv p2, iv p3, iv (p0 &&& (3 : Int32)), iv mv, rv r_105, rv r_108, rv r_111, rv r_114, .unset, .unset, .unset, .unset, .unset, .unset, .unset, .unset] [(.ref r_117)])) _
    refine XS.astore X117.here hx rfl (hb hby at_47) rfl rfl (l' := #[iv p0, iv p1, iv p2, iv p3, iv (p0 &&& (3 : Int32)), iv mv, rv r_105, rv r_108, rv r_111, rv r_114, rv r_117, .unset, .unset, .unset, .unset, .unset, .unset, .unset]) rfl ?_
    exact kt
  obtain ⟨T120, h120, X120, e120, E120, A120, D120, -, st120⟩ := newO X117 hx hZ hown (W 12 rfl) (W 13 rfl) (W 14 rfl) e117 (g := (mkF m 49 #[iv p0, iv p1, iv p2, iv p3, iv (p0 &&& (3 : Int32)), iv mv, rv r_105, rv r_108, rv r_111, rv r_114, rv r_117, .unset, .unset, .unset, .unset, .unset, .unset, .unset] [])) rfl (hb hby at_49) (by decide) (by decide)
  obtain ⟨b120, g120⟩ : ∃ z, z = h0.size := ⟨_, rfl⟩
  rw [← g120] at A120 D120 st120
  have pre121 : ∀ t, Steps p.tables e below (T120.setTop (mkF m 52 #[iv p0, iv p1, iv p2, iv p3, iv (p0 &&& (3 : Int32)), iv mv, rv r_105, rv r_108, rv r_111, rv r_114, rv r_117, .unset, .unset, .unset, .unset, .unset, .unset, .unset] [(.ref b120)])) t → Steps p.tables e below (s₁.setTop (entryFrame m #[(.int p0), (.int p1), (.int p2), (.int p3)] maxLocals)) t := fun t kt => pre119 _ (st120 _ kt)
  have O120 := O0.ext E120
  have K120 : Keep h0 h120 [] := K0.ext E120
  have g_b120 : n0 ≤ b120 := Nat.le_trans (Nat.le_trans (Nat.le_of_eq O0.1.symm) O0.2.1) (Nat.le_of_eq g120.symm)
  have sz_b120 : h0.size ≤ b120 := Nat.le_trans K0.1 (Nat.le_of_eq g120.symm)
  have ne_a_UNKNOWN_b120 : a_UNKNOWN ≠ b120 := Nat.ne_of_lt (Nat.lt_of_lt_of_le (G1.ext O0.2).lt (Nat.le_of_eq g120.symm))
  have ne_a_TRUE_b120 : a_TRUE ≠ b120 := Nat.ne_of_lt (Nat.lt_of_lt_of_le (G3.ext O0.2).lt (Nat.le_of_eq g120.symm))
  have ne_a_FALSE_b120 : a_FALSE ≠ b120 := Nat.ne_of_lt (Nat.lt_of_lt_of_le (G5.ext O0.2).lt (Nat.le_of_eq g120.symm))
  have F122 : Exa Z h120 b120 "com/example/contexture/contexture/engine/evaluation/TruthValue$Tally" := A120
  have F123 : Fld Z h120 b120 "com/example/contexture/contexture/engine/evaluation/TruthValue$Tally" "trues" "I" (.int (0 : Int32)) := D120 (Or.inl (W 27 rfl)) (ty := .int) (by decide)
  have F124 : Fld Z h120 b120 "com/example/contexture/contexture/engine/evaluation/TruthValue$Tally" "falses" "I" (.int (0 : Int32)) := D120 (Or.inl (W 29 rfl)) (ty := .int) (by decide)
  have F125 : Fld Z h120 b120 "com/example/contexture/contexture/engine/evaluation/TruthValue$Tally" "unknowns" "I" (.int (0 : Int32)) := D120 (Or.inl (W 31 rfl)) (ty := .int) (by decide)
  have pre126 : ∀ t, Steps p.tables e below (T120.setTop (mkF m 53 #[iv p0, iv p1, iv p2, iv p3, iv (p0 &&& (3 : Int32)), iv mv, rv r_105, rv r_108, rv r_111, rv r_114, rv r_117, .unset, .unset, .unset, .unset, .unset, .unset, .unset] [(.ref b120), (.ref b120)])) t → Steps p.tables e below (s₁.setTop (entryFrame m #[(.int p0), (.int p1), (.int p2), (.int p3)] maxLocals)) t := fun t kt => by
    refine pre121 _ ?_
    show Steps p.tables e below (T120.setTop (mkF m 52 #[iv p0, iv p1, iv p2, iv p3, iv (p0 &&& (3 : Int32)), iv mv, rv r_105, rv r_108, rv r_111, rv r_114, rv r_117, .unset, .unset, .unset, .unset, .unset, .unset, .unset] [(.ref b120)])) _
    refine XS.dup X120.here hx rfl (hb hby at_52) rfl rfl ?_
    exact kt
  obtain ⟨_, _, ⟨T127, L127, k127, n127⟩, -, X127, ⟨Lc127, hQ127, l127, y127, z127⟩, st127⟩ := X120.specialBack hx (y := (⟨"com/example/contexture/contexture/engine/evaluation/TruthValue$Tally", "<init>", "()V"⟩ : MethodName)) rfl hown (mvT hZ (W 15 rfl)) (mvT hZ (W 16 rfl)) (mvT hZ (W 17 rfl)) (by decide) (backOf (W := 1) (rm_init2_0 l Z a0 hw [] b120 h120 n0 O120) hZ (W 17 rfl) (W 14 rfl) (by decide) (by decide)) (g := (mkF m 53 #[iv p0, iv p1, iv p2, iv p3, iv (p0 &&& (3 : Int32)), iv mv, rv r_105, rv r_108, rv r_111, rv r_114, rv r_117, .unset, .unset, .unset, .unset, .unset, .unset, .unset] [(.ref b120), (.ref b120)])) rfl (by rw [hml]; rfl) (Steps.refl _) (a := b120) (argsL := []) (rest := [(.ref b120)]) (lenOf pd_11 rfl) rfl (by show 2 * 0 + _ ≤ _; exact Nat.le_of_eq rfl) (hb hby at_53) (fun _ _ => ⟨rfl, e120, (by decide : 1 + 0 ≤ _), (by decide : 3 + 0 ≤ _)⟩)
  dsimp only [Pt.U, Pt.locs, Pt.cells, Pt.slots] at X127 l127 y127 z127 st127 hQ127
  replace l127 := l127.symm
  replace y127 : 1 = k127 := y127.symm
  replace z127 : 3 = n127 := z127.symm
  subst l127 y127 z127
  obtain ⟨rfl, M127, e127⟩ := hQ127
  have N127 := Fr.app N117 M127
  have pre137 : ∀ t, Steps p.tables e below (T127.setTop (mkF m 56 #[iv p0, iv p1, iv p2, iv p3, iv (p0 &&& (3 : Int32)), iv mv, rv r_105, rv r_108, rv r_111, rv r_114, rv r_117, .unset, .unset, .unset, .unset, .unset, .unset, .unset] [(.ref b120)])) t → Steps p.tables e below (s₁.setTop (entryFrame m #[(.int p0), (.int p1), (.int p2), (.int p3)] maxLocals)) t := fun t kt => pre126 _ (st127.trans kt)
  have pre138 : ∀ t, Steps p.tables e below (T127.setTop (mkF m 58 #[iv p0, iv p1, iv p2, iv p3, iv (p0 &&& (3 : Int32)), iv mv, rv r_105, rv r_108, rv r_111, rv r_114, rv r_117, rv b120, .unset, .unset, .unset, .unset, .unset, .unset] [])) t → Steps p.tables e below (s₁.setTop (entryFrame m #[(.int p0), (.int p1), (.int p2), (.int p3)] maxLocals)) t := fun t kt => by
    refine pre137 _ ?_
    show Steps p.tables e below (T127.setTop (mkF m 56 #[iv p0, iv p1, iv p2, iv p3, iv (p0 &&& (3 : Int32)), iv mv, rv r_105, rv r_108, rv r_111, rv r_114, rv r_117, .unset, .unset, .unset, .unset, .unset, .unset, .unset] [(.ref b120)])) _
    refine XS.astore X127.here hx rfl (hb hby at_56) rfl rfl (l' := #[iv p0, iv p1, iv p2, iv p3, iv (p0 &&& (3 : Int32)), iv mv, rv r_105, rv r_108, rv r_111, rv r_114, rv r_117, rv b120, .unset, .unset, .unset, .unset, .unset, .unset]) rfl ?_
    exact kt
  obtain ⟨T139, h139, Lj139, j139_0, j139_1, j139_2, X139, e139, N139, K139, O139, F157, F158, F159, F160, pre139⟩ : ∃ (T139 : State) (h139 : Heap) (Lj139 : List Loc) (j139_0 : Int32) (j139_1 : Int32) (j139_2 : Int32), Stand p l e room_1 s m #[(.int p0), (.int p1), (.int p2), (.int p3)] below meth c T139 Lj139 1 3 ∧ T139.heap = h139 ∧ Fr n0 Lj139 ∧ Keep h0 h139 [] ∧ Old Z n0 h139 ∧ Exa Z h139 b120 "com/example/contexture/contexture/engine/evaluation/TruthValue$Tally" ∧ Fld Z h139 b120 "com/example/contexture/contexture/engine/evaluation/TruthValue$Tally" "trues" "I" (.int j139_0) ∧ Fld Z h139 b120 "com/example/contexture/contexture/engine/evaluation/TruthValue$Tally" "falses" "I" (.int j139_1) ∧ Fld Z h139 b120 "com/example/contexture/contexture/engine/evaluation/TruthValue$Tally" "unknowns" "I" (.int j139_2) ∧ ∀ t, Steps p.tables e below (T139.setTop (mkF m 70 #[iv p0, iv p1, iv p2, iv p3, iv (p0 &&& (3 : Int32)), iv mv, rv r_105, rv r_108, rv r_111, rv r_114, rv r_117, rv b120, .unset, .unset, .unset, .unset, .unset, .unset] [])) t → Steps p.tables e below (s₁.setTop (entryFrame m #[(.int p0), (.int p1), (.int p2), (.int p3)] maxLocals)) t := by
    have pre140 : ∀ t, Steps p.tables e below (T127.setTop (mkF m 60 #[iv p0, iv p1, iv p2, iv p3, iv (p0 &&& (3 : Int32)), iv mv, rv r_105, rv r_108, rv r_111, rv r_114, rv r_117, rv b120, .unset, .unset, .unset, .unset, .unset, .unset] [(.int (p0 &&& (3 : Int32)))])) t → Steps p.tables e below (s₁.setTop (entryFrame m #[(.int p0), (.int p1), (.int p2), (.int p3)] maxLocals)) t := fun t kt => by
      refine pre138 _ ?_
      show Steps p.tables e below (T127.setTop (mkF m 58 #[iv p0, iv p1, iv p2, iv p3, iv (p0 &&& (3 : Int32)), iv mv, rv r_105, rv r_108, rv r_111, rv r_114, rv r_117, rv b120, .unset, .unset, .unset, .unset, .unset, .unset] [])) _
      refine XS.iload X127.here hx rfl (hb hby at_58) rfl ?_
      exact kt
    by_cases hc141 : (0 : Int32) < (p0 &&& (3 : Int32))
    · have pre142 : ∀ t, Steps p.tables e below (T127.setTop (mkF m 67 #[iv p0, iv p1, iv p2, iv p3, iv (p0 &&& (3 : Int32)), iv mv, rv r_105, rv r_108, rv r_111, rv r_114, rv r_117, rv b120, .unset, .unset, .unset, .unset, .unset, .unset] [(.ref r_105), (.ref b120)])) t → Steps p.tables e below (s₁.setTop (entryFrame m #[(.int p0), (.int p1), (.int p2), (.int p3)] maxLocals)) t := fun t kt => by
        refine pre140 _ ?_
        show Steps p.tables e below (T127.setTop (mkF m 60 #[iv p0, iv p1, iv p2, iv p3, iv (p0 &&& (3 : Int32)), iv mv, rv r_105, rv r_108, rv r_111, rv r_114, rv r_117, rv b120, .unset, .unset, .unset, .unset, .unset, .unset] [(.int (p0 &&& (3 : Int32)))])) _
        refine XS.ifNo X127.here hx rfl (hb hby at_60) rfl (XT.i0_le_f hc141) ?_
        refine XS.aload X127.here hx rfl (hb hby at_63) rfl rfl ?_
        refine XS.aload X127.here hx rfl (hb hby at_65) rfl rfl ?_
        exact kt
      rcases P105_0 with hv143 | hv143 | hv143
      · have Gr144 : Exa Z Z.heap r_105 "com/example/contexture/contexture/engine/evaluation/TruthValue" := hv143 ▸ G3
        have Gr145 : Fld Z Z.heap r_105 "java/lang/Enum" "ordinal" "I" (.int (0 : Int32)) := hv143 ▸ G7
        obtain ⟨cq146, kq146, q146a, q146b, q146c⟩ := isOf hZ e127 F122
        obtain ⟨_, _, ⟨T146, L146, k146, n146⟩, -, X146, ⟨Lc146, hQ146, l146, y146, z146⟩, st146⟩ := X127.virtualBack hx (y := (⟨"com/example/contexture/contexture/engine/evaluation/TruthValue$Tally", "add", "(Lcom/example/contexture/contexture/engine/evaluation/TruthValue;)V"⟩ : MethodName)) (z := (⟨"com/example/contexture/contexture/engine/evaluation/TruthValue$Tally", "add", "(Lcom/example/contexture/contexture/engine/evaluation/TruthValue;)V"⟩ : MethodName)) hown (mvT hZ (W 32 rfl)) (mvT hZ (W 33 rfl)) (notFace_of_selects (args := #[]) (mvT hZ (W 35 rfl))) (mvT hZ (W 35 rfl)) (mvT hZ (W 34 rfl)) (by decide) (backOf (W := 0) (rm_add0 l Z a0 hw [] b120 r_105 ((0 : Int32)) ((0 : Int32)) ((0 : Int32)) h120 n0 O120 Gr144 Gr145 g_b120 F122 F123 F124 F125) hZ (W 36 rfl) (W 14 rfl) (by decide) (by decide)) q146a q146c (g := (mkF m 67 #[iv p0, iv p1, iv p2, iv p3, iv (p0 &&& (3 : Int32)), iv mv, rv r_105, rv r_108, rv r_111, rv r_114, rv r_117, rv b120, .unset, .unset, .unset, .unset, .unset, .unset] [(.ref r_105), (.ref b120)])) rfl (by rw [hml]; rfl) (Steps.refl _) (argsL := [(.ref r_105)]) (rest := []) (lenOf pd_12 rfl) rfl (by show 2 * 0 + _ ≤ _; exact Nat.le_of_eq rfl) (hb hby at_67) (fun _ _ => ⟨rfl, e127, (by decide : 1 + 0 ≤ _), (by decide : 3 + 0 ≤ _)⟩)
        dsimp only [Pt.U, Pt.locs, Pt.cells, Pt.slots] at X146 l146 y146 z146 st146 hQ146
        replace l146 := l146.symm
        replace y146 : 1 = k146 := y146.symm
        replace z146 : 3 = n146 := z146.symm
        subst l146 y146 z146
        obtain ⟨rfl, M146, Kc146, O146, J146_0, J146_1, J146_2, J146_3⟩ := hQ146
        obtain ⟨h146, e146⟩ : ∃ z, T146.heap = z := ⟨_, rfl⟩
        rw [e146] at Kc146 O146 J146_0 J146_1 J146_2 J146_3
        have N146 := Fr.app N127 M146
        have K146 : Keep h0 h146 [] := K120.trans Kc146 (own_all1 (Or.inr sz_b120))
        have pre147 : ∀ t, Steps p.tables e below (T146.setTop (mkF m 70 #[iv p0, iv p1, iv p2, iv p3, iv (p0 &&& (3 : Int32)), iv mv, rv r_105, rv r_108, rv r_111, rv r_114, rv r_117, rv b120, .unset, .unset, .unset, .unset, .unset, .unset] [])) t → Steps p.tables e below (s₁.setTop (entryFrame m #[(.int p0), (.int p1), (.int p2), (.int p3)] maxLocals)) t := fun t kt => pre142 _ (st146.trans kt)
        exact ⟨_, _, _, ((0 : Int32) + (1 : Int32)), (0 : Int32), (0 : Int32), X146.more (by decide) (by decide), e146, N146, K146, O146, J146_0, J146_1, J146_2, J146_3, pre147⟩
      · have Gr148 : Exa Z Z.heap r_105 "com/example/contexture/contexture/engine/evaluation/TruthValue" := hv143 ▸ G5
        have Gr149 : Fld Z Z.heap r_105 "java/lang/Enum" "ordinal" "I" (.int (1 : Int32)) := hv143 ▸ G6
        obtain ⟨cq150, kq150, q150a, q150b, q150c⟩ := isOf hZ e127 F122
        obtain ⟨_, _, ⟨T150, L150, k150, n150⟩, -, X150, ⟨Lc150, hQ150, l150, y150, z150⟩, st150⟩ := X127.virtualBack hx (y := (⟨"com/example/contexture/contexture/engine/evaluation/TruthValue$Tally", "add", "(Lcom/example/contexture/contexture/engine/evaluation/TruthValue;)V"⟩ : MethodName)) (z := (⟨"com/example/contexture/contexture/engine/evaluation/TruthValue$Tally", "add", "(Lcom/example/contexture/contexture/engine/evaluation/TruthValue;)V"⟩ : MethodName)) hown (mvT hZ (W 32 rfl)) (mvT hZ (W 33 rfl)) (notFace_of_selects (args := #[]) (mvT hZ (W 35 rfl))) (mvT hZ (W 35 rfl)) (mvT hZ (W 34 rfl)) (by decide) (backOf (W := 0) (rm_add1 l Z a0 hw [] b120 r_105 ((0 : Int32)) ((0 : Int32)) ((0 : Int32)) h120 n0 O120 Gr148 Gr149 g_b120 F122 F123 F124 F125) hZ (W 36 rfl) (W 14 rfl) (by decide) (by decide)) q150a q150c (g := (mkF m 67 #[iv p0, iv p1, iv p2, iv p3, iv (p0 &&& (3 : Int32)), iv mv, rv r_105, rv r_108, rv r_111, rv r_114, rv r_117, rv b120, .unset, .unset, .unset, .unset, .unset, .unset] [(.ref r_105), (.ref b120)])) rfl (by rw [hml]; rfl) (Steps.refl _) (argsL := [(.ref r_105)]) (rest := []) (lenOf pd_12 rfl) rfl (by show 2 * 0 + _ ≤ _; exact Nat.le_of_eq rfl) (hb hby at_67) (fun _ _ => ⟨rfl, e127, (by decide : 1 + 0 ≤ _), (by decide : 3 + 0 ≤ _)⟩)
        dsimp only [Pt.U, Pt.locs, Pt.cells, Pt.slots] at X150 l150 y150 z150 st150 hQ150
        replace l150 := l150.symm
        replace y150 : 1 = k150 := y150.symm
        replace z150 : 3 = n150 := z150.symm
        subst l150 y150 z150
        obtain ⟨rfl, M150, Kc150, O150, J150_0, J150_1, J150_2, J150_3⟩ := hQ150
        obtain ⟨h150, e150⟩ : ∃ z, T150.heap = z := ⟨_, rfl⟩
        rw [e150] at Kc150 O150 J150_0 J150_1 J150_2 J150_3
        have N150 := Fr.app N127 M150
        have K150 : Keep h0 h150 [] := K120.trans Kc150 (own_all1 (Or.inr sz_b120))
        have pre151 : ∀ t, Steps p.tables e below (T150.setTop (mkF m 70 #[iv p0, iv p1, iv p2, iv p3, iv (p0 &&& (3 : Int32)), iv mv, rv r_105, rv r_108, rv r_111, rv r_114, rv r_117, rv b120, .unset, .unset, .unset, .unset, .unset, .unset] [])) t → Steps p.tables e below (s₁.setTop (entryFrame m #[(.int p0), (.int p1), (.int p2), (.int p3)] maxLocals)) t := fun t kt => pre142 _ (st150.trans kt)
        exact ⟨_, _, _, (0 : Int32), ((0 : Int32) + (1 : Int32)), (0 : Int32), X150.more (by decide) (by decide), e150, N150, K150, O150, J150_0, J150_1, J150_2, J150_3, pre151⟩
      · have Gr152 : Exa Z Z.heap r_105 "com/example/contexture/contexture/engine/evaluation/TruthValue" := hv143 ▸ G1
        have Gr153 : Fld Z Z.heap r_105 "java/lang/Enum" "ordinal" "I" (.int (2 : Int32)) := hv143 ▸ G8
        obtain ⟨cq154, kq154, q154a, q154b, q154c⟩ := isOf hZ e127 F122
        obtain ⟨_, _, ⟨T154, L154, k154, n154⟩, -, X154, ⟨Lc154, hQ154, l154, y154, z154⟩, st154⟩ := X127.virtualBack hx (y := (⟨"com/example/contexture/contexture/engine/evaluation/TruthValue$Tally", "add", "(Lcom/example/contexture/contexture/engine/evaluation/TruthValue;)V"⟩ : MethodName)) (z := (⟨"com/example/contexture/contexture/engine/evaluation/TruthValue$Tally", "add", "(Lcom/example/contexture/contexture/engine/evaluation/TruthValue;)V"⟩ : MethodName)) hown (mvT hZ (W 32 rfl)) (mvT hZ (W 33 rfl)) (notFace_of_selects (args := #[]) (mvT hZ (W 35 rfl))) (mvT hZ (W 35 rfl)) (mvT hZ (W 34 rfl)) (by decide) (backOf (W := 0) (rm_add2 l Z a0 hw [] b120 r_105 ((0 : Int32)) ((0 : Int32)) ((0 : Int32)) h120 n0 O120 Gr152 Gr153 g_b120 F122 F123 F124 F125) hZ (W 36 rfl) (W 14 rfl) (by decide) (by decide)) q154a q154c (g := (mkF m 67 #[iv p0, iv p1, iv p2, iv p3, iv (p0 &&& (3 : Int32)), iv mv, rv r_105, rv r_108, rv r_111, rv r_114, rv r_117, rv b120, .unset, .unset, .unset, .unset, .unset, .unset] [(.ref r_105), (.ref b120)])) rfl (by rw [hml]; rfl) (Steps.refl _) (argsL := [(.ref r_105)]) (rest := []) (lenOf pd_12 rfl) rfl (by show 2 * 0 + _ ≤ _; exact Nat.le_of_eq rfl) (hb hby at_67) (fun _ _ => ⟨rfl, e127, (by decide : 1 + 0 ≤ _), (by decide : 3 + 0 ≤ _)⟩)
        dsimp only [Pt.U, Pt.locs, Pt.cells, Pt.slots] at X154 l154 y154 z154 st154 hQ154
        replace l154 := l154.symm
        replace y154 : 1 = k154 := y154.symm
        replace z154 : 3 = n154 := z154.symm
        subst l154 y154 z154
        obtain ⟨rfl, M154, Kc154, O154, J154_0, J154_1, J154_2, J154_3⟩ := hQ154
        obtain ⟨h154, e154⟩ : ∃ z, T154.heap = z := ⟨_, rfl⟩
        rw [e154] at Kc154 O154 J154_0 J154_1 J154_2 J154_3
        have N154 := Fr.app N127 M154
        have K154 : Keep h0 h154 [] := K120.trans Kc154 (own_all1 (Or.inr sz_b120))
        have pre155 : ∀ t, Steps p.tables e below (T154.setTop (mkF m 70 #[iv p0, iv p1, iv p2, iv p3, iv (p0 &&& (3 : Int32)), iv mv, rv r_105, rv r_108, rv r_111, rv r_114, rv r_117, rv b120, .unset, .unset, .unset, .unset, .unset, .unset] [])) t → Steps p.tables e below (s₁.setTop (entryFrame m #[(.int p0), (.int p1), (.int p2), (.int p3)] maxLocals)) t := fun t kt => pre142 _ (st154.trans kt)
        exact ⟨_, _, _, (0 : Int32), (0 : Int32), ((0 : Int32) + (1 : Int32)), X154.more (by decide) (by decide), e154, N154, K154, O154, J154_0, J154_1, J154_2, J154_3, pre155⟩
    · have pre156 : ∀ t, Steps p.tables e below (T127.setTop (mkF m 70 #[iv p0, iv p1, iv p2, iv p3, iv (p0 &&& (3 : Int32)), iv mv, rv r_105, rv r_108, rv r_111, rv r_114, rv r_117, rv b120, .unset, .unset, .unset, .unset, .unset, .unset] [])) t → Steps p.tables e below (s₁.setTop (entryFrame m #[(.int p0), (.int p1), (.int p2), (.int p3)] maxLocals)) t := fun t kt => by
        refine pre140 _ ?_
        show Steps p.tables e below (T127.setTop (mkF m 60 #[iv p0, iv p1, iv p2, iv p3, iv (p0 &&& (3 : Int32)), iv mv, rv r_105, rv r_108, rv r_111, rv r_114, rv r_117, rv b120, .unset, .unset, .unset, .unset, .unset, .unset] [(.int (p0 &&& (3 : Int32)))])) _
        refine XS.ifYes X127.here hx rfl (pc0 := 60) (pc' := 70) rfl (hb hby at_60) rfl (XT.i0_le_t hc141) (by decide) (by decide) ?_
        exact kt
      exact ⟨_, _, _, (0 : Int32), (0 : Int32), (0 : Int32), X127.more (by decide) (by decide), e127, N127, K120, O120, F122, F123, F124, F125, pre156⟩
  obtain ⟨T161, h161, Lj161, j161_0, j161_1, j161_2, X161, e161, N161, K161, O161, F179, F180, F181, F182, pre161⟩ : ∃ (T161 : State) (h161 : Heap) (Lj161 : List Loc) (j161_0 : Int32) (j161_1 : Int32) (j161_2 : Int32), Stand p l e room_1 s m #[(.int p0), (.int p1), (.int p2), (.int p3)] below meth c T161 Lj161 1 3 ∧ T161.heap = h161 ∧ Fr n0 Lj161 ∧ Keep h0 h161 [] ∧ Old Z n0 h161 ∧ Exa Z h161 b120 "com/example/contexture/contexture/engine/evaluation/TruthValue$Tally" ∧ Fld Z h161 b120 "com/example/contexture/contexture/engine/evaluation/TruthValue$Tally" "trues" "I" (.int j161_0) ∧ Fld Z h161 b120 "com/example/contexture/contexture/engine/evaluation/TruthValue$Tally" "falses" "I" (.int j161_1) ∧ Fld Z h161 b120 "com/example/contexture/contexture/engine/evaluation/TruthValue$Tally" "unknowns" "I" (.int j161_2) ∧ ∀ t, Steps p.tables e below (T161.setTop (mkF m 83 #[iv p0, iv p1, iv p2, iv p3, iv (p0 &&& (3 : Int32)), iv mv, rv r_105, rv r_108, rv r_111, rv r_114, rv r_117, rv b120, .unset, .unset, .unset, .unset, .unset, .unset] [])) t → Steps p.tables e below (s₁.setTop (entryFrame m #[(.int p0), (.int p1), (.int p2), (.int p3)] maxLocals)) t := by
    have pre162 : ∀ t, Steps p.tables e below (T139.setTop (mkF m 73 #[iv p0, iv p1, iv p2, iv p3, iv (p0 &&& (3 : Int32)), iv mv, rv r_105, rv r_108, rv r_111, rv r_114, rv r_117, rv b120, .unset, .unset, .unset, .unset, .unset, .unset] [(.int (1 : Int32)), (.int (p0 &&& (3 : Int32)))])) t → Steps p.tables e below (s₁.setTop (entryFrame m #[(.int p0), (.int p1), (.int p2), (.int p3)] maxLocals)) t := fun t kt => by
      refine pre139 _ ?_
      show Steps p.tables e below (T139.setTop (mkF m 70 #[iv p0, iv p1, iv p2, iv p3, iv (p0 &&& (3 : Int32)), iv mv, rv r_105, rv r_108, rv r_111, rv r_114, rv r_117, rv b120, .unset, .unset, .unset, .unset, .unset, .unset] [])) _
      refine XS.iload X139.here hx rfl (hb hby at_70) rfl ?_
      refine XS.iconst X139.here hx rfl (hb hby at_72) ?_
      exact kt
    by_cases hc163 : (1 : Int32) < (p0 &&& (3 : Int32))
    · have pre164 : ∀ t, Steps p.tables e below (T139.setTop (mkF m 80 #[iv p0, iv p1, iv p2, iv p3, iv (p0 &&& (3 : Int32)), iv mv, rv r_105, rv r_108, rv r_111, rv r_114, rv r_117, rv b120, .unset, .unset, .unset, .unset, .unset, .unset] [(.ref r_108), (.ref b120)])) t → Steps p.tables e below (s₁.setTop (entryFrame m #[(.int p0), (.int p1), (.int p2), (.int p3)] maxLocals)) t := fun t kt => by
        refine pre162 _ ?_
        show Steps p.tables e below (T139.setTop (mkF m 73 #[iv p0, iv p1, iv p2, iv p3, iv (p0 &&& (3 : Int32)), iv mv, rv r_105, rv r_108, rv r_111, rv r_114, rv r_117, rv b120, .unset, .unset, .unset, .unset, .unset, .unset] [(.int (1 : Int32)), (.int (p0 &&& (3 : Int32)))])) _
        refine XS.icmpNo X139.here hx rfl (hb hby at_73) rfl (XT.ii_le_f hc163) ?_
        refine XS.aload X139.here hx rfl (hb hby at_76) rfl rfl ?_
        refine XS.aload X139.here hx rfl (hb hby at_78) rfl rfl ?_
        exact kt
      rcases P108_0 with hv165 | hv165 | hv165
      · have Gr166 : Exa Z Z.heap r_108 "com/example/contexture/contexture/engine/evaluation/TruthValue" := hv165 ▸ G3
        have Gr167 : Fld Z Z.heap r_108 "java/lang/Enum" "ordinal" "I" (.int (0 : Int32)) := hv165 ▸ G7
        obtain ⟨cq168, kq168, q168a, q168b, q168c⟩ := isOf hZ e139 F157
        obtain ⟨_, _, ⟨T168, L168, k168, n168⟩, -, X168, ⟨Lc168, hQ168, l168, y168, z168⟩, st168⟩ := X139.virtualBack hx (y := (⟨"com/example/contexture/contexture/engine/evaluation/TruthValue$Tally", "add", "(Lcom/example/contexture/contexture/engine/evaluation/TruthValue;)V"⟩ : MethodName)) (z := (⟨"com/example/contexture/contexture/engine/evaluation/TruthValue$Tally", "add", "(Lcom/example/contexture/contexture/engine/evaluation/TruthValue;)V"⟩ : MethodName)) hown (mvT hZ (W 32 rfl)) (mvT hZ (W 33 rfl)) (notFace_of_selects (args := #[]) (mvT hZ (W 35 rfl))) (mvT hZ (W 35 rfl)) (mvT hZ (W 34 rfl)) (by decide) (backOf (W := 0) (rm_add0 l Z a0 hw [] b120 r_108 j139_0 j139_1 j139_2 h139 n0 O139 Gr166 Gr167 g_b120 F157 F158 F159 F160) hZ (W 36 rfl) (W 14 rfl) (by decide) (by decide)) q168a q168c (g := (mkF m 80 #[iv p0, iv p1, iv p2, iv p3, iv (p0 &&& (3 : Int32)), iv mv, rv r_105, rv r_108, rv r_111, rv r_114, rv r_117, rv b120, .unset, .unset, .unset, .unset, .unset, .unset] [(.ref r_108), (.ref b120)])) rfl (by rw [hml]; rfl) (Steps.refl _) (argsL := [(.ref r_108)]) (rest := []) (lenOf pd_12 rfl) rfl (by show 2 * 0 + _ ≤ _; exact Nat.le_of_eq rfl) (hb hby at_80) (fun _ _ => ⟨rfl, e139, (by decide : 1 + 0 ≤ _), (by decide : 3 + 0 ≤ _)⟩)
        dsimp only [Pt.U, Pt.locs, Pt.cells, Pt.slots] at X168 l168 y168 z168 st168 hQ168
        replace l168 := l168.symm
        replace y168 : 1 = k168 := y168.symm
        replace z168 : 3 = n168 := z168.symm
        subst l168 y168 z168
        obtain ⟨rfl, M168, Kc168, O168, J168_0, J168_1, J168_2, J168_3⟩ := hQ168
        obtain ⟨h168, e168⟩ : ∃ z, T168.heap = z := ⟨_, rfl⟩
        rw [e168] at Kc168 O168 J168_0 J168_1 J168_2 J168_3
        have N168 := Fr.app N139 M168
        have K168 : Keep h0 h168 [] := K139.trans Kc168 (own_all1 (Or.inr sz_b120))
        have pre169 : ∀ t, Steps p.tables e below (T168.setTop (mkF m 83 #[iv p0, iv p1, iv p2, iv p3, iv (p0 &&& (3 : Int32)), iv mv, rv r_105, rv r_108, rv r_111, rv r_114, rv r_117, rv b120, .unset, .unset, .unset, .unset, .unset, .unset] [])) t → Steps p.tables e below (s₁.setTop (entryFrame m #[(.int p0), (.int p1), (.int p2), (.int p3)] maxLocals)) t := fun t kt => pre164 _ (st168.trans kt)
        exact ⟨_, _, _, (j139_0 + (1 : Int32)), j139_1, j139_2, X168.more (by decide) (by decide), e168, N168, K168, O168, J168_0, J168_1, J168_2, J168_3, pre169⟩
      · have Gr170 : Exa Z Z.heap r_108 "com/example/contexture/contexture/engine/evaluation/TruthValue" := hv165 ▸ G5
        have Gr171 : Fld Z Z.heap r_108 "java/lang/Enum" "ordinal" "I" (.int (1 : Int32)) := hv165 ▸ G6
        obtain ⟨cq172, kq172, q172a, q172b, q172c⟩ := isOf hZ e139 F157
        obtain ⟨_, _, ⟨T172, L172, k172, n172⟩, -, X172, ⟨Lc172, hQ172, l172, y172, z172⟩, st172⟩ := X139.virtualBack hx (y := (⟨"com/example/contexture/contexture/engine/evaluation/TruthValue$Tally", "add", "(Lcom/example/contexture/contexture/engine/evaluation/TruthValue;)V"⟩ : MethodName)) (z := (⟨"com/example/contexture/contexture/engine/evaluation/TruthValue$Tally", "add", "(Lcom/example/contexture/contexture/engine/evaluation/TruthValue;)V"⟩ : MethodName)) hown (mvT hZ (W 32 rfl)) (mvT hZ (W 33 rfl)) (notFace_of_selects (args := #[]) (mvT hZ (W 35 rfl))) (mvT hZ (W 35 rfl)) (mvT hZ (W 34 rfl)) (by decide) (backOf (W := 0) (rm_add1 l Z a0 hw [] b120 r_108 j139_0 j139_1 j139_2 h139 n0 O139 Gr170 Gr171 g_b120 F157 F158 F159 F160) hZ (W 36 rfl) (W 14 rfl) (by decide) (by decide)) q172a q172c (g := (mkF m 80 #[iv p0, iv p1, iv p2, iv p3, iv (p0 &&& (3 : Int32)), iv mv, rv r_105, rv r_108, rv r_111, rv r_114, rv r_117, rv b120, .unset, .unset, .unset, .unset, .unset, .unset] [(.ref r_108), (.ref b120)])) rfl (by rw [hml]; rfl) (Steps.refl _) (argsL := [(.ref r_108)]) (rest := []) (lenOf pd_12 rfl) rfl (by show 2 * 0 + _ ≤ _; exact Nat.le_of_eq rfl) (hb hby at_80) (fun _ _ => ⟨rfl, e139, (by decide : 1 + 0 ≤ _), (by decide : 3 + 0 ≤ _)⟩)
        dsimp only [Pt.U, Pt.locs, Pt.cells, Pt.slots] at X172 l172 y172 z172 st172 hQ172
        replace l172 := l172.symm
        replace y172 : 1 = k172 := y172.symm
        replace z172 : 3 = n172 := z172.symm
        subst l172 y172 z172
        obtain ⟨rfl, M172, Kc172, O172, J172_0, J172_1, J172_2, J172_3⟩ := hQ172
        obtain ⟨h172, e172⟩ : ∃ z, T172.heap = z := ⟨_, rfl⟩
        rw [e172] at Kc172 O172 J172_0 J172_1 J172_2 J172_3
        have N172 := Fr.app N139 M172
        have K172 : Keep h0 h172 [] := K139.trans Kc172 (own_all1 (Or.inr sz_b120))
        have pre173 : ∀ t, Steps p.tables e below (T172.setTop (mkF m 83 #[iv p0, iv p1, iv p2, iv p3, iv (p0 &&& (3 : Int32)), iv mv, rv r_105, rv r_108, rv r_111, rv r_114, rv r_117, rv b120, .unset, .unset, .unset, .unset, .unset, .unset] [])) t → Steps p.tables e below (s₁.setTop (entryFrame m #[(.int p0), (.int p1), (.int p2), (.int p3)] maxLocals)) t := fun t kt => pre164 _ (st172.trans kt)
        exact ⟨_, _, _, j139_0, (j139_1 + (1 : Int32)), j139_2, X172.more (by decide) (by decide), e172, N172, K172, O172, J172_0, J172_1, J172_2, J172_3, pre173⟩
      · have Gr174 : Exa Z Z.heap r_108 "com/example/contexture/contexture/engine/evaluation/TruthValue" := hv165 ▸ G1
        have Gr175 : Fld Z Z.heap r_108 "java/lang/Enum" "ordinal" "I" (.int (2 : Int32)) := hv165 ▸ G8
        obtain ⟨cq176, kq176, q176a, q176b, q176c⟩ := isOf hZ e139 F157
        obtain ⟨_, _, ⟨T176, L176, k176, n176⟩, -, X176, ⟨Lc176, hQ176, l176, y176, z176⟩, st176⟩ := X139.virtualBack hx (y := (⟨"com/example/contexture/contexture/engine/evaluation/TruthValue$Tally", "add", "(Lcom/example/contexture/contexture/engine/evaluation/TruthValue;)V"⟩ : MethodName)) (z := (⟨"com/example/contexture/contexture/engine/evaluation/TruthValue$Tally", "add", "(Lcom/example/contexture/contexture/engine/evaluation/TruthValue;)V"⟩ : MethodName)) hown (mvT hZ (W 32 rfl)) (mvT hZ (W 33 rfl)) (notFace_of_selects (args := #[]) (mvT hZ (W 35 rfl))) (mvT hZ (W 35 rfl)) (mvT hZ (W 34 rfl)) (by decide) (backOf (W := 0) (rm_add2 l Z a0 hw [] b120 r_108 j139_0 j139_1 j139_2 h139 n0 O139 Gr174 Gr175 g_b120 F157 F158 F159 F160) hZ (W 36 rfl) (W 14 rfl) (by decide) (by decide)) q176a q176c (g := (mkF m 80 #[iv p0, iv p1, iv p2, iv p3, iv (p0 &&& (3 : Int32)), iv mv, rv r_105, rv r_108, rv r_111, rv r_114, rv r_117, rv b120, .unset, .unset, .unset, .unset, .unset, .unset] [(.ref r_108), (.ref b120)])) rfl (by rw [hml]; rfl) (Steps.refl _) (argsL := [(.ref r_108)]) (rest := []) (lenOf pd_12 rfl) rfl (by show 2 * 0 + _ ≤ _; exact Nat.le_of_eq rfl) (hb hby at_80) (fun _ _ => ⟨rfl, e139, (by decide : 1 + 0 ≤ _), (by decide : 3 + 0 ≤ _)⟩)
        dsimp only [Pt.U, Pt.locs, Pt.cells, Pt.slots] at X176 l176 y176 z176 st176 hQ176
        replace l176 := l176.symm
        replace y176 : 1 = k176 := y176.symm
        replace z176 : 3 = n176 := z176.symm
        subst l176 y176 z176
        obtain ⟨rfl, M176, Kc176, O176, J176_0, J176_1, J176_2, J176_3⟩ := hQ176
        obtain ⟨h176, e176⟩ : ∃ z, T176.heap = z := ⟨_, rfl⟩
        rw [e176] at Kc176 O176 J176_0 J176_1 J176_2 J176_3
        have N176 := Fr.app N139 M176
        have K176 : Keep h0 h176 [] := K139.trans Kc176 (own_all1 (Or.inr sz_b120))
        have pre177 : ∀ t, Steps p.tables e below (T176.setTop (mkF m 83 #[iv p0, iv p1, iv p2, iv p3, iv (p0 &&& (3 : Int32)), iv mv, rv r_105, rv r_108, rv r_111, rv r_114, rv r_117, rv b120, .unset, .unset, .unset, .unset, .unset, .unset] [])) t → Steps p.tables e below (s₁.setTop (entryFrame m #[(.int p0), (.int p1), (.int p2), (.int p3)] maxLocals)) t := fun t kt => pre164 _ (st176.trans kt)
        exact ⟨_, _, _, j139_0, j139_1, (j139_2 + (1 : Int32)), X176.more (by decide) (by decide), e176, N176, K176, O176, J176_0, J176_1, J176_2, J176_3, pre177⟩
    · have pre178 : ∀ t, Steps p.tables e below (T139.setTop (mkF m 83 #[iv p0, iv p1, iv p2, iv p3, iv (p0 &&& (3 : Int32)), iv mv, rv r_105, rv r_108, rv r_111, rv r_114, rv r_117, rv b120, .unset, .unset, .unset, .unset, .unset, .unset] [])) t → Steps p.tables e below (s₁.setTop (entryFrame m #[(.int p0), (.int p1), (.int p2), (.int p3)] maxLocals)) t := fun t kt => by
        refine pre162 _ ?_
        show Steps p.tables e below (T139.setTop (mkF m 73 #[iv p0, iv p1, iv p2, iv p3, iv (p0 &&& (3 : Int32)), iv mv, rv r_105, rv r_108, rv r_111, rv r_114, rv r_117, rv b120, .unset, .unset, .unset, .unset, .unset, .unset] [(.int (1 : Int32)), (.int (p0 &&& (3 : Int32)))])) _
        refine XS.icmpYes X139.here hx rfl (pc0 := 73) (pc' := 83) rfl (hb hby at_73) rfl (XT.ii_le_t hc163) (by decide) (by decide) ?_
        exact kt
      exact ⟨_, _, _, j139_0, j139_1, j139_2, X139.more (by decide) (by decide), e139, N139, K139, O139, F157, F158, F159, F160, pre178⟩
  obtain ⟨T183, h183, Lj183, j183_0, j183_1, j183_2, X183, e183, N183, K183, O183, F201, F202, F203, F204, pre183⟩ : ∃ (T183 : State) (h183 : Heap) (Lj183 : List Loc) (j183_0 : Int32) (j183_1 : Int32) (j183_2 : Int32), Stand p l e room_1 s m #[(.int p0), (.int p1), (.int p2), (.int p3)] below meth c T183 Lj183 1 3 ∧ T183.heap = h183 ∧ Fr n0 Lj183 ∧ Keep h0 h183 [] ∧ Old Z n0 h183 ∧ Exa Z h183 b120 "com/example/contexture/contexture/engine/evaluation/TruthValue$Tally" ∧ Fld Z h183 b120 "com/example/contexture/contexture/engine/evaluation/TruthValue$Tally" "trues" "I" (.int j183_0) ∧ Fld Z h183 b120 "com/example/contexture/contexture/engine/evaluation/TruthValue$Tally" "falses" "I" (.int j183_1) ∧ Fld Z h183 b120 "com/example/contexture/contexture/engine/evaluation/TruthValue$Tally" "unknowns" "I" (.int j183_2) ∧ ∀ t, Steps p.tables e below (T183.setTop (mkF m 96 #[iv p0, iv p1, iv p2, iv p3, iv (p0 &&& (3 : Int32)), iv mv, rv r_105, rv r_108, rv r_111, rv r_114, rv r_117, rv b120, .unset, .unset, .unset, .unset, .unset, .unset] [])) t → Steps p.tables e below (s₁.setTop (entryFrame m #[(.int p0), (.int p1), (.int p2), (.int p3)] maxLocals)) t := by
    have pre184 : ∀ t, Steps p.tables e below (T161.setTop (mkF m 86 #[iv p0, iv p1, iv p2, iv p3, iv (p0 &&& (3 : Int32)), iv mv, rv r_105, rv r_108, rv r_111, rv r_114, rv r_117, rv b120, .unset, .unset, .unset, .unset, .unset, .unset] [(.int (2 : Int32)), (.int (p0 &&& (3 : Int32)))])) t → Steps p.tables e below (s₁.setTop (entryFrame m #[(.int p0), (.int p1), (.int p2), (.int p3)] maxLocals)) t := fun t kt => by
      refine pre161 _ ?_
      show Steps p.tables e below (T161.setTop (mkF m 83 #[iv p0, iv p1, iv p2, iv p3, iv (p0 &&& (3 : Int32)), iv mv, rv r_105, rv r_108, rv r_111, rv r_114, rv r_117, rv b120, .unset, .unset, .unset, .unset, .unset, .unset] [])) _
      refine XS.iload X161.here hx rfl (hb hby at_83) rfl ?_
      refine XS.iconst X161.here hx rfl (hb hby at_85) ?_
      exact kt
    by_cases hc185 : (2 : Int32) < (p0 &&& (3 : Int32))
    · have pre186 : ∀ t, Steps p.tables e below (T161.setTop (mkF m 93 #[iv p0, iv p1, iv p2, iv p3, iv (p0 &&& (3 : Int32)), iv mv, rv r_105, rv r_108, rv r_111, rv r_114, rv r_117, rv b120, .unset, .unset, .unset, .unset, .unset, .unset] [(.ref r_111), (.ref b120)])) t → Steps p.tables e below (s₁.setTop (entryFrame m #[(.int p0), (.int p1), (.int p2), (.int p3)] maxLocals)) t := fun t kt => by
        refine pre184 _ ?_
        show Steps p.tables e below (T161.setTop (mkF m 86 #[iv p0, iv p1, iv p2, iv p3, iv (p0 &&& (3 : Int32)), iv mv, rv r_105, rv r_108, rv r_111, rv r_114, rv r_117, rv b120, .unset, .unset, .unset, .unset, .unset, .unset] [(.int (2 : Int32)), (.int (p0 &&& (3 : Int32)))])) _
        refine XS.icmpNo X161.here hx rfl (hb hby at_86) rfl (XT.ii_le_f hc185) ?_
        refine XS.aload X161.here hx rfl (hb hby at_89) rfl rfl ?_
        refine XS.aload X161.here hx rfl (hb hby at_91) rfl rfl ?_
        exact kt
      rcases P111_0 with hv187 | hv187 | hv187
      · have Gr188 : Exa Z Z.heap r_111 "com/example/contexture/contexture/engine/evaluation/TruthValue" := hv187 ▸ G3
        have Gr189 : Fld Z Z.heap r_111 "java/lang/Enum" "ordinal" "I" (.int (0 : Int32)) := hv187 ▸ G7
        obtain ⟨cq190, kq190, q190a, q190b, q190c⟩ := isOf hZ e161 F179
        obtain ⟨_, _, ⟨T190, L190, k190, n190⟩, -, X190, ⟨Lc190, hQ190, l190, y190, z190⟩, st190⟩ := X161.virtualBack hx (y := (⟨"com/example/contexture/contexture/engine/evaluation/TruthValue$Tally", "add", "(Lcom/example/contexture/contexture/engine/evaluation/TruthValue;)V"⟩ : MethodName)) (z := (⟨"com/example/contexture/contexture/engine/evaluation/TruthValue$Tally", "add", "(Lcom/example/contexture/contexture/engine/evaluation/TruthValue;)V"⟩ : MethodName)) hown (mvT hZ (W 32 rfl)) (mvT hZ (W 33 rfl)) (notFace_of_selects (args := #[]) (mvT hZ (W 35 rfl))) (mvT hZ (W 35 rfl)) (mvT hZ (W 34 rfl)) (by decide) (backOf (W := 0) (rm_add0 l Z a0 hw [] b120 r_111 j161_0 j161_1 j161_2 h161 n0 O161 Gr188 Gr189 g_b120 F179 F180 F181 F182) hZ (W 36 rfl) (W 14 rfl) (by decide) (by decide)) q190a q190c (g := (mkF m 93 #[iv p0, iv p1, iv p2, iv p3, iv (p0 &&& (3 : Int32)), iv mv, rv r_105, rv r_108, rv r_111, rv r_114, rv r_117, rv b120, .unset, .unset, .unset, .unset, .unset, .unset] [(.ref r_111), (.ref b120)])) rfl (by rw [hml]; rfl) (Steps.refl _) (argsL := [(.ref r_111)]) (rest := []) (lenOf pd_12 rfl) rfl (by show 2 * 0 + _ ≤ _; exact Nat.le_of_eq rfl) (hb hby at_93) (fun _ _ => ⟨rfl, e161, (by decide : 1 + 0 ≤ _), (by decide : 3 + 0 ≤ _)⟩)
        dsimp only [Pt.U, Pt.locs, Pt.cells, Pt.slots] at X190 l190 y190 z190 st190 hQ190
        replace l190 := l190.symm
        replace y190 : 1 = k190 := y190.symm
        replace z190 : 3 = n190 := z190.symm
        subst l190 y190 z190
        obtain ⟨rfl, M190, Kc190, O190, J190_0, J190_1, J190_2, J190_3⟩ := hQ190
        obtain ⟨h190, e190⟩ : ∃ z, T190.heap = z := ⟨_, rfl⟩
        rw [e190] at Kc190 O190 J190_0 J190_1 J190_2 J190_3
        have N190 := Fr.app N161 M190
        have K190 : Keep h0 h190 [] := K161.trans Kc190 (own_all1 (Or.inr sz_b120))
        have pre191 : ∀ t, Steps p.tables e below (T190.setTop (mkF m 96 #[iv p0, iv p1, iv p2, iv p3, iv (p0 &&& (3 : Int32)), iv mv, rv r_105, rv r_108, rv r_111, rv r_114, rv r_117, rv b120, .unset, .unset, .unset, .unset, .unset, .unset] [])) t → Steps p.tables e below (s₁.setTop (entryFrame m #[(.int p0), (.int p1), (.int p2), (.int p3)] maxLocals)) t := fun t kt => pre186 _ (st190.trans kt)
        exact ⟨_, _, _, (j161_0 + (1 : Int32)), j161_1, j161_2, X190.more (by decide) (by decide), e190, N190, K190, O190, J190_0, J190_1, J190_2, J190_3, pre191⟩
      · have Gr192 : Exa Z Z.heap r_111 "com/example/contexture/contexture/engine/evaluation/TruthValue" := hv187 ▸ G5
        have Gr193 : Fld Z Z.heap r_111 "java/lang/Enum" "ordinal" "I" (.int (1 : Int32)) := hv187 ▸ G6
        obtain ⟨cq194, kq194, q194a, q194b, q194c⟩ := isOf hZ e161 F179
        obtain ⟨_, _, ⟨T194, L194, k194, n194⟩, -, X194, ⟨Lc194, hQ194, l194, y194, z194⟩, st194⟩ := X161.virtualBack hx (y := (⟨"com/example/contexture/contexture/engine/evaluation/TruthValue$Tally", "add", "(Lcom/example/contexture/contexture/engine/evaluation/TruthValue;)V"⟩ : MethodName)) (z := (⟨"com/example/contexture/contexture/engine/evaluation/TruthValue$Tally", "add", "(Lcom/example/contexture/contexture/engine/evaluation/TruthValue;)V"⟩ : MethodName)) hown (mvT hZ (W 32 rfl)) (mvT hZ (W 33 rfl)) (notFace_of_selects (args := #[]) (mvT hZ (W 35 rfl))) (mvT hZ (W 35 rfl)) (mvT hZ (W 34 rfl)) (by decide) (backOf (W := 0) (rm_add1 l Z a0 hw [] b120 r_111 j161_0 j161_1 j161_2 h161 n0 O161 Gr192 Gr193 g_b120 F179 F180 F181 F182) hZ (W 36 rfl) (W 14 rfl) (by decide) (by decide)) q194a q194c (g := (mkF m 93 #[iv p0, iv p1, iv p2, iv p3, iv (p0 &&& (3 : Int32)), iv mv, rv r_105, rv r_108, rv r_111, rv r_114, rv r_117, rv b120, .unset, .unset, .unset, .unset, .unset, .unset] [(.ref r_111), (.ref b120)])) rfl (by rw [hml]; rfl) (Steps.refl _) (argsL := [(.ref r_111)]) (rest := []) (lenOf pd_12 rfl) rfl (by show 2 * 0 + _ ≤ _; exact Nat.le_of_eq rfl) (hb hby at_93) (fun _ _ => ⟨rfl, e161, (by decide : 1 + 0 ≤ _), (by decide : 3 + 0 ≤ _)⟩)
        dsimp only [Pt.U, Pt.locs, Pt.cells, Pt.slots] at X194 l194 y194 z194 st194 hQ194
        replace l194 := l194.symm
        replace y194 : 1 = k194 := y194.symm
        replace z194 : 3 = n194 := z194.symm
        subst l194 y194 z194
        obtain ⟨rfl, M194, Kc194, O194, J194_0, J194_1, J194_2, J194_3⟩ := hQ194
        obtain ⟨h194, e194⟩ : ∃ z, T194.heap = z := ⟨_, rfl⟩
        rw [e194] at Kc194 O194 J194_0 J194_1 J194_2 J194_3
        have N194 := Fr.app N161 M194
        have K194 : Keep h0 h194 [] := K161.trans Kc194 (own_all1 (Or.inr sz_b120))
        have pre195 : ∀ t, Steps p.tables e below (T194.setTop (mkF m 96 #[iv p0, iv p1, iv p2, iv p3, iv (p0 &&& (3 : Int32)), iv mv, rv r_105, rv r_108, rv r_111, rv r_114, rv r_117, rv b120, .unset, .unset, .unset, .unset, .unset, .unset] [])) t → Steps p.tables e below (s₁.setTop (entryFrame m #[(.int p0), (.int p1), (.int p2), (.int p3)] maxLocals)) t := fun t kt => pre186 _ (st194.trans kt)
        exact ⟨_, _, _, j161_0, (j161_1 + (1 : Int32)), j161_2, X194.more (by decide) (by decide), e194, N194, K194, O194, J194_0, J194_1, J194_2, J194_3, pre195⟩
      · have Gr196 : Exa Z Z.heap r_111 "com/example/contexture/contexture/engine/evaluation/TruthValue" := hv187 ▸ G1
        have Gr197 : Fld Z Z.heap r_111 "java/lang/Enum" "ordinal" "I" (.int (2 : Int32)) := hv187 ▸ G8
        obtain ⟨cq198, kq198, q198a, q198b, q198c⟩ := isOf hZ e161 F179
        obtain ⟨_, _, ⟨T198, L198, k198, n198⟩, -, X198, ⟨Lc198, hQ198, l198, y198, z198⟩, st198⟩ := X161.virtualBack hx (y := (⟨"com/example/contexture/contexture/engine/evaluation/TruthValue$Tally", "add", "(Lcom/example/contexture/contexture/engine/evaluation/TruthValue;)V"⟩ : MethodName)) (z := (⟨"com/example/contexture/contexture/engine/evaluation/TruthValue$Tally", "add", "(Lcom/example/contexture/contexture/engine/evaluation/TruthValue;)V"⟩ : MethodName)) hown (mvT hZ (W 32 rfl)) (mvT hZ (W 33 rfl)) (notFace_of_selects (args := #[]) (mvT hZ (W 35 rfl))) (mvT hZ (W 35 rfl)) (mvT hZ (W 34 rfl)) (by decide) (backOf (W := 0) (rm_add2 l Z a0 hw [] b120 r_111 j161_0 j161_1 j161_2 h161 n0 O161 Gr196 Gr197 g_b120 F179 F180 F181 F182) hZ (W 36 rfl) (W 14 rfl) (by decide) (by decide)) q198a q198c (g := (mkF m 93 #[iv p0, iv p1, iv p2, iv p3, iv (p0 &&& (3 : Int32)), iv mv, rv r_105, rv r_108, rv r_111, rv r_114, rv r_117, rv b120, .unset, .unset, .unset, .unset, .unset, .unset] [(.ref r_111), (.ref b120)])) rfl (by rw [hml]; rfl) (Steps.refl _) (argsL := [(.ref r_111)]) (rest := []) (lenOf pd_12 rfl) rfl (by show 2 * 0 + _ ≤ _; exact Nat.le_of_eq rfl) (hb hby at_93) (fun _ _ => ⟨rfl, e161, (by decide : 1 + 0 ≤ _), (by decide : 3 + 0 ≤ _)⟩)
        dsimp only [Pt.U, Pt.locs, Pt.cells, Pt.slots] at X198 l198 y198 z198 st198 hQ198
        replace l198 := l198.symm
        replace y198 : 1 = k198 := y198.symm
        replace z198 : 3 = n198 := z198.symm
        subst l198 y198 z198
        obtain ⟨rfl, M198, Kc198, O198, J198_0, J198_1, J198_2, J198_3⟩ := hQ198
        obtain ⟨h198, e198⟩ : ∃ z, T198.heap = z := ⟨_, rfl⟩
        rw [e198] at Kc198 O198 J198_0 J198_1 J198_2 J198_3
        have N198 := Fr.app N161 M198
        have K198 : Keep h0 h198 [] := K161.trans Kc198 (own_all1 (Or.inr sz_b120))
        have pre199 : ∀ t, Steps p.tables e below (T198.setTop (mkF m 96 #[iv p0, iv p1, iv p2, iv p3, iv (p0 &&& (3 : Int32)), iv mv, rv r_105, rv r_108, rv r_111, rv r_114, rv r_117, rv b120, .unset, .unset, .unset, .unset, .unset, .unset] [])) t → Steps p.tables e below (s₁.setTop (entryFrame m #[(.int p0), (.int p1), (.int p2), (.int p3)] maxLocals)) t := fun t kt => pre186 _ (st198.trans kt)
        exact ⟨_, _, _, j161_0, j161_1, (j161_2 + (1 : Int32)), X198.more (by decide) (by decide), e198, N198, K198, O198, J198_0, J198_1, J198_2, J198_3, pre199⟩
    · have pre200 : ∀ t, Steps p.tables e below (T161.setTop (mkF m 96 #[iv p0, iv p1, iv p2, iv p3, iv (p0 &&& (3 : Int32)), iv mv, rv r_105, rv r_108, rv r_111, rv r_114, rv r_117, rv b120, .unset, .unset, .unset, .unset, .unset, .unset] [])) t → Steps p.tables e below (s₁.setTop (entryFrame m #[(.int p0), (.int p1), (.int p2), (.int p3)] maxLocals)) t := fun t kt => by
        refine pre184 _ ?_
        show Steps p.tables e below (T161.setTop (mkF m 86 #[iv p0, iv p1, iv p2, iv p3, iv (p0 &&& (3 : Int32)), iv mv, rv r_105, rv r_108, rv r_111, rv r_114, rv r_117, rv b120, .unset, .unset, .unset, .unset, .unset, .unset] [(.int (2 : Int32)), (.int (p0 &&& (3 : Int32)))])) _
        refine XS.icmpYes X161.here hx rfl (pc0 := 86) (pc' := 96) rfl (hb hby at_86) rfl (XT.ii_le_t hc185) (by decide) (by decide) ?_
        exact kt
      exact ⟨_, _, _, j161_0, j161_1, j161_2, X161.more (by decide) (by decide), e161, N161, K161, O161, F179, F180, F181, F182, pre200⟩
  have pre205 : ∀ t, Steps p.tables e below (T183.setTop (mkF m 98 #[iv p0, iv p1, iv p2, iv p3, iv (p0 &&& (3 : Int32)), iv mv, rv r_105, rv r_108, rv r_111, rv r_114, rv r_117, rv b120, .unset, .unset, .unset, .unset, .unset, .unset] [(.ref b120)])) t → Steps p.tables e below (s₁.setTop (entryFrame m #[(.int p0), (.int p1), (.int p2), (.int p3)] maxLocals)) t := fun t kt => by
    refine pre183 _ ?_
    show Steps p.tables e below (T183.setTop (mkF m 96 #[iv p0, iv p1, iv p2, iv p3, iv (p0 &&& (3 : Int32)), iv mv, rv r_105, rv r_108, rv r_111, rv r_114, rv r_117, rv b120, .unset, .unset, .unset, .unset, .unset, .unset] [])) _
    refine XS.aload X183.here hx rfl (hb hby at_96) rfl rfl ?_
    exact kt
  obtain ⟨cq206, kq206, q206a, q206b, q206c⟩ := isOf hZ e183 F201
  obtain ⟨_, _, ⟨T206, L206, k206, n206⟩, -, X206, ⟨Lc206, hQ206, l206, y206, z206⟩, st206⟩ := X183.virtualBack hx (y := (⟨"com/example/contexture/contexture/engine/evaluation/TruthValue$Tally", "clear", "()V"⟩ : MethodName)) (z := (⟨"com/example/contexture/contexture/engine/evaluation/TruthValue$Tally", "clear", "()V"⟩ : MethodName)) hown (mvT hZ (W 21 rfl)) (mvT hZ (W 22 rfl)) (notFace_of_selects (args := #[]) (mvT hZ (W 24 rfl))) (mvT hZ (W 24 rfl)) (mvT hZ (W 23 rfl)) (by decide) (backOf (W := 0) (rm_clear l Z a0 hw [] b120 j183_0 j183_1 j183_2 h183 n0 O183 g_b120 F201 F202 F203 F204) hZ (W 25 rfl) (W 14 rfl) (by decide) (by decide)) q206a q206c (g := (mkF m 98 #[iv p0, iv p1, iv p2, iv p3, iv (p0 &&& (3 : Int32)), iv mv, rv r_105, rv r_108, rv r_111, rv r_114, rv r_117, rv b120, .unset, .unset, .unset, .unset, .unset, .unset] [(.ref b120)])) rfl (by rw [hml]; rfl) (Steps.refl _) (argsL := []) (rest := []) (lenOf pd_11 rfl) rfl (by show 2 * 0 + _ ≤ _; exact Nat.le_of_eq rfl) (hb hby at_98) (fun _ _ => ⟨rfl, e183, (by decide : 1 + 0 ≤ _), (by decide : 3 + 0 ≤ _)⟩)
  dsimp only [Pt.U, Pt.locs, Pt.cells, Pt.slots] at X206 l206 y206 z206 st206 hQ206
  replace l206 := l206.symm
  replace y206 : 1 = k206 := y206.symm
  replace z206 : 3 = n206 := z206.symm
  subst l206 y206 z206
  obtain ⟨rfl, M206, Kc206, O206, J206_0, J206_1, J206_2, J206_3⟩ := hQ206
  obtain ⟨h206, e206⟩ : ∃ z, T206.heap = z := ⟨_, rfl⟩
  rw [e206] at Kc206 O206 J206_0 J206_1 J206_2 J206_3
  have N206 := Fr.app N183 M206
  have K206 : Keep h0 h206 [] := K183.trans Kc206 (own_all1 (Or.inr sz_b120))
  have pre207 : ∀ t, Steps p.tables e below (T206.setTop (mkF m 101 #[iv p0, iv p1, iv p2, iv p3, iv (p0 &&& (3 : Int32)), iv mv, rv r_105, rv r_108, rv r_111, rv r_114, rv r_117, rv b120, .unset, .unset, .unset, .unset, .unset, .unset] [])) t → Steps p.tables e below (s₁.setTop (entryFrame m #[(.int p0), (.int p1), (.int p2), (.int p3)] maxLocals)) t := fun t kt => pre205 _ (st206.trans kt)
  have pre208 : ∀ t, Steps p.tables e below (T206.setTop (mkF m 103 #[iv p0, iv p1, iv p2, iv p3, iv (p0 &&& (3 : Int32)), iv mv, rv r_105, rv r_108, rv r_111, rv r_114, rv r_117, rv b120, .unset, .unset, .unset, .unset, .unset, .unset] [(.int mv)])) t → Steps p.tables e below (s₁.setTop (entryFrame m #[(.int p0), (.int p1), (.int p2), (.int p3)] maxLocals)) t := fun t kt => by
    refine pre207 _ ?_
    show Steps p.tables e below (T206.setTop (mkF m 101 #[iv p0, iv p1, iv p2, iv p3, iv (p0 &&& (3 : Int32)), iv mv, rv r_105, rv r_108, rv r_111, rv r_114, rv r_117, rv b120, .unset, .unset, .unset, .unset, .unset, .unset] [])) _
    refine XS.iload X206.here hx rfl (hb hby at_101) rfl ?_
    exact kt
  by_cases hc209 : (0 : Int32) < mv
  · have pre210 : ∀ t, Steps p.tables e below (T206.setTop (mkF m 110 #[iv p0, iv p1, iv p2, iv p3, iv (p0 &&& (3 : Int32)), iv mv, rv r_105, rv r_108, rv r_111, rv r_114, rv r_117, rv b120, .unset, .unset, .unset, .unset, .unset, .unset] [(.ref r_114), (.ref b120)])) t → Steps p.tables e below (s₁.setTop (entryFrame m #[(.int p0), (.int p1), (.int p2), (.int p3)] maxLocals)) t := fun t kt => by
      refine pre208 _ ?_
      show Steps p.tables e below (T206.setTop (mkF m 103 #[iv p0, iv p1, iv p2, iv p3, iv (p0 &&& (3 : Int32)), iv mv, rv r_105, rv r_108, rv r_111, rv r_114, rv r_117, rv b120, .unset, .unset, .unset, .unset, .unset, .unset] [(.int mv)])) _
      refine XS.ifNo X206.here hx rfl (hb hby at_103) rfl (XT.i0_le_f hc209) ?_
      refine XS.aload X206.here hx rfl (hb hby at_106) rfl rfl ?_
      refine XS.aload X206.here hx rfl (hb hby at_108) rfl rfl ?_
      exact kt
    rcases P114_0 with hv211 | hv211 | hv211
    · have Gr212 : Exa Z Z.heap r_114 "com/example/contexture/contexture/engine/evaluation/TruthValue" := hv211 ▸ G3
      have Gr213 : Fld Z Z.heap r_114 "java/lang/Enum" "ordinal" "I" (.int (0 : Int32)) := hv211 ▸ G7
      obtain ⟨cq214, kq214, q214a, q214b, q214c⟩ := isOf hZ e206 J206_0
      obtain ⟨_, _, ⟨T214, L214, k214, n214⟩, -, X214, ⟨Lc214, hQ214, l214, y214, z214⟩, st214⟩ := X206.virtualBack hx (y := (⟨"com/example/contexture/contexture/engine/evaluation/TruthValue$Tally", "add", "(Lcom/example/contexture/contexture/engine/evaluation/TruthValue;)V"⟩ : MethodName)) (z := (⟨"com/example/contexture/contexture/engine/evaluation/TruthValue$Tally", "add", "(Lcom/example/contexture/contexture/engine/evaluation/TruthValue;)V"⟩ : MethodName)) hown (mvT hZ (W 32 rfl)) (mvT hZ (W 33 rfl)) (notFace_of_selects (args := #[]) (mvT hZ (W 35 rfl))) (mvT hZ (W 35 rfl)) (mvT hZ (W 34 rfl)) (by decide) (backOf (W := 0) (rm_add0 l Z a0 hw [] b120 r_114 ((0 : Int32)) ((0 : Int32)) ((0 : Int32)) h206 n0 O206 Gr212 Gr213 g_b120 J206_0 J206_1 J206_2 J206_3) hZ (W 36 rfl) (W 14 rfl) (by decide) (by decide)) q214a q214c (g := (mkF m 110 #[iv p0, iv p1, iv p2, iv p3, iv (p0 &&& (3 : Int32)), iv mv, rv r_105, rv r_108, rv r_111, rv r_114, rv r_117, rv b120, .unset, .unset, .unset, .unset, .unset, .unset] [(.ref r_114), (.ref b120)])) rfl (by rw [hml]; rfl) (Steps.refl _) (argsL := [(.ref r_114)]) (rest := []) (lenOf pd_12 rfl) rfl (by show 2 * 0 + _ ≤ _; exact Nat.le_of_eq rfl) (hb hby at_110) (fun _ _ => ⟨rfl, e206, (by decide : 1 + 0 ≤ _), (by decide : 3 + 0 ≤ _)⟩)
      dsimp only [Pt.U, Pt.locs, Pt.cells, Pt.slots] at X214 l214 y214 z214 st214 hQ214
      replace l214 := l214.symm
      replace y214 : 1 = k214 := y214.symm
      replace z214 : 3 = n214 := z214.symm
      subst l214 y214 z214
      obtain ⟨rfl, M214, Kc214, O214, J214_0, J214_1, J214_2, J214_3⟩ := hQ214
      obtain ⟨h214, e214⟩ : ∃ z, T214.heap = z := ⟨_, rfl⟩
      rw [e214] at Kc214 O214 J214_0 J214_1 J214_2 J214_3
      have N214 := Fr.app N206 M214
      have K214 : Keep h0 h214 [] := K206.trans Kc214 (own_all1 (Or.inr sz_b120))
      have pre215 : ∀ t, Steps p.tables e below (T214.setTop (mkF m 113 #[iv p0, iv p1, iv p2, iv p3, iv (p0 &&& (3 : Int32)), iv mv, rv r_105, rv r_108, rv r_111, rv r_114, rv r_117, rv b120, .unset, .unset, .unset, .unset, .unset, .unset] [])) t → Steps p.tables e below (s₁.setTop (entryFrame m #[(.int p0), (.int p1), (.int p2), (.int p3)] maxLocals)) t := fun t kt => pre210 _ (st214.trans kt)
      have pre216 : ∀ t, Steps p.tables e below (T214.setTop (mkF m 116 #[iv p0, iv p1, iv p2, iv p3, iv (p0 &&& (3 : Int32)), iv mv, rv r_105, rv r_108, rv r_111, rv r_114, rv r_117, rv b120, .unset, .unset, .unset, .unset, .unset, .unset] [(.int (1 : Int32)), (.int mv)])) t → Steps p.tables e below (s₁.setTop (entryFrame m #[(.int p0), (.int p1), (.int p2), (.int p3)] maxLocals)) t := fun t kt => by
        refine pre215 _ ?_
        show Steps p.tables e below (T214.setTop (mkF m 113 #[iv p0, iv p1, iv p2, iv p3, iv (p0 &&& (3 : Int32)), iv mv, rv r_105, rv r_108, rv r_111, rv r_114, rv r_117, rv b120, .unset, .unset, .unset, .unset, .unset, .unset] [])) _
        refine XS.iload X214.here hx rfl (hb hby at_113) rfl ?_
        refine XS.iconst X214.here hx rfl (hb hby at_115) ?_
        exact kt
      by_cases hc217 : (1 : Int32) < mv
      · have pre218 : ∀ t, Steps p.tables e below (T214.setTop (mkF m 123 #[iv p0, iv p1, iv p2, iv p3, iv (p0 &&& (3 : Int32)), iv mv, rv r_105, rv r_108, rv r_111, rv r_114, rv r_117, rv b120, .unset, .unset, .unset, .unset, .unset, .unset] [(.ref r_117), (.ref b120)])) t → Steps p.tables e below (s₁.setTop (entryFrame m #[(.int p0), (.int p1), (.int p2), (.int p3)] maxLocals)) t := fun t kt => by
          refine pre216 _ ?_
          show Steps p.tables e below (T214.setTop (mkF m 116 #[iv p0, iv p1, iv p2, iv p3, iv (p0 &&& (3 : Int32)), iv mv, rv r_105, rv r_108, rv r_111, rv r_114, rv r_117, rv b120, .unset, .unset, .unset, .unset, .unset, .unset] [(.int (1 : Int32)), (.int mv)])) _
          refine XS.icmpNo X214.here hx rfl (hb hby at_116) rfl (XT.ii_le_f hc217) ?_
          refine XS.aload X214.here hx rfl (hb hby at_119) rfl rfl ?_
          refine XS.aload X214.here hx rfl (hb hby at_121) rfl rfl ?_
          exact kt
        rcases P117_0 with hv219 | hv219 | hv219
        · have Gr220 : Exa Z Z.heap r_117 "com/example/contexture/contexture/engine/evaluation/TruthValue" := hv219 ▸ G3
          have Gr221 : Fld Z Z.heap r_117 "java/lang/Enum" "ordinal" "I" (.int (0 : Int32)) := hv219 ▸ G7
          obtain ⟨cq222, kq222, q222a, q222b, q222c⟩ := isOf hZ e214 J214_0
          obtain ⟨_, _, ⟨T222, L222, k222, n222⟩, -, X222, ⟨Lc222, hQ222, l222, y222, z222⟩, st222⟩ := X214.virtualBack hx (y := (⟨"com/example/contexture/contexture/engine/evaluation/TruthValue$Tally", "add", "(Lcom/example/contexture/contexture/engine/evaluation/TruthValue;)V"⟩ : MethodName)) (z := (⟨"com/example/contexture/contexture/engine/evaluation/TruthValue$Tally", "add", "(Lcom/example/contexture/contexture/engine/evaluation/TruthValue;)V"⟩ : MethodName)) hown (mvT hZ (W 32 rfl)) (mvT hZ (W 33 rfl)) (notFace_of_selects (args := #[]) (mvT hZ (W 35 rfl))) (mvT hZ (W 35 rfl)) (mvT hZ (W 34 rfl)) (by decide) (backOf (W := 0) (rm_add0 l Z a0 hw [] b120 r_117 (((0 : Int32) + (1 : Int32))) ((0 : Int32)) ((0 : Int32)) h214 n0 O214 Gr220 Gr221 g_b120 J214_0 J214_1 J214_2 J214_3) hZ (W 36 rfl) (W 14 rfl) (by decide) (by decide)) q222a q222c (g := (mkF m 123 #[iv p0, iv p1, iv p2, iv p3, iv (p0 &&& (3 : Int32)), iv mv, rv r_105, rv r_108, rv r_111, rv r_114, rv r_117, rv b120, .unset, .unset, .unset, .unset, .unset, .unset] [(.ref r_117), (.ref b120)])) rfl (by rw [hml]; rfl) (Steps.refl _) (argsL := [(.ref r_117)]) (rest := []) (lenOf pd_12 rfl) rfl (by show 2 * 0 + _ ≤ _; exact Nat.le_of_eq rfl) (hb hby at_123) (fun _ _ => ⟨rfl, e214, (by decide : 1 + 0 ≤ _), (by decide : 3 + 0 ≤ _)⟩)
          dsimp only [Pt.U, Pt.locs, Pt.cells, Pt.slots] at X222 l222 y222 z222 st222 hQ222
          replace l222 := l222.symm
          replace y222 : 1 = k222 := y222.symm
          replace z222 : 3 = n222 := z222.symm
          subst l222 y222 z222
          obtain ⟨rfl, M222, Kc222, O222, J222_0, J222_1, J222_2, J222_3⟩ := hQ222
          obtain ⟨h222, e222⟩ : ∃ z, T222.heap = z := ⟨_, rfl⟩
          rw [e222] at Kc222 O222 J222_0 J222_1 J222_2 J222_3
          have N222 := Fr.app N214 M222
          have K222 : Keep h0 h222 [] := K214.trans Kc222 (own_all1 (Or.inr sz_b120))
          have pre223 : ∀ t, Steps p.tables e below (T222.setTop (mkF m 126 #[iv p0, iv p1, iv p2, iv p3, iv (p0 &&& (3 : Int32)), iv mv, rv r_105, rv r_108, rv r_111, rv r_114, rv r_117, rv b120, .unset, .unset, .unset, .unset, .unset, .unset] [])) t → Steps p.tables e below (s₁.setTop (entryFrame m #[(.int p0), (.int p1), (.int p2), (.int p3)] maxLocals)) t := fun t kt => pre218 _ (st222.trans kt)
          have pre224 : ∀ t, Steps p.tables e below (T222.setTop (mkF m 142 #[iv p0, iv p1, iv p2, iv p3, iv (p0 &&& (3 : Int32)), iv mv, rv r_105, rv r_108, rv r_111, rv r_114, rv r_117, rv b120, iv (0 : Int32), iv (0 : Int32), iv (0 : Int32), .unset, .unset, .unset] [(.ref r_114)])) t → Steps p.tables e below (s₁.setTop (entryFrame m #[(.int p0), (.int p1), (.int p2), (.int p3)] maxLocals)) t := fun t kt => by
            refine pre223 _ ?_
            show Steps p.tables e below (T222.setTop (mkF m 126 #[iv p0, iv p1, iv p2, iv p3, iv (p0 &&& (3 : Int32)), iv mv, rv r_105, rv r_108, rv r_111, rv r_114, rv r_117, rv b120, .unset, .unset, .unset, .unset, .unset, .unset] [])) _
            refine XS.iconst X222.here hx rfl (hb hby at_126) ?_
            refine XS.istore X222.here hx rfl (hb hby at_127) rfl (l' := #[iv p0, iv p1, iv p2, iv p3, iv (p0 &&& (3 : Int32)), iv mv, rv r_105, rv r_108, rv r_111, rv r_114, rv r_117, rv b120, iv (0 : Int32), .unset, .unset, .unset, .unset, .unset]) rfl ?_
            refine XS.iconst X222.here hx rfl (hb hby at_129) ?_
            refine XS.istore X222.here hx rfl (hb hby at_130) rfl (l' := #[iv p0, iv p1, iv p2, iv p3, iv (p0 &&& (3 : Int32)), iv mv, rv r_105, rv r_108, rv r_111, rv r_114, rv r_117, rv b120, iv (0 : Int32), iv (0 : Int32), .unset, .unset, .unset, .unset]) rfl ?_
            show Steps p.tables e below (T222.setTop (mkF m 132 #[iv p0, iv p1, iv p2, iv p3, iv (p0 &&& (3 : Int32)), iv mv, rv r_105, rv r_108, rv r_111, rv r_114, rv r_117, rv b120, iv (0 : Int32), iv (0 : Int32), .unset, .unset, .unset, .unset] [])) _
            refine XS.iconst X222.here hx rfl (hb hby at_132) ?_
            refine XS.istore X222.here hx rfl (hb hby at_133) rfl (l' := #[iv p0, iv p1, iv p2, iv p3, iv (p0 &&& (3 : Int32)), iv mv, rv r_105, rv r_108, rv r_111, rv r_114, rv r_117, rv b120, iv (0 : Int32), iv (0 : Int32), iv (0 : Int32), .unset, .unset, .unset]) rfl ?_
            refine XS.iload X222.here hx rfl (hb hby at_135) rfl ?_
            refine XS.ifNo X222.here hx rfl (hb hby at_137) rfl (XT.i0_le_f hc209) ?_
            show Steps p.tables e below (T222.setTop (mkF m 140 #[iv p0, iv p1, iv p2, iv p3, iv (p0 &&& (3 : Int32)), iv mv, rv r_105, rv r_108, rv r_111, rv r_114, rv r_117, rv b120, iv (0 : Int32), iv (0 : Int32), iv (0 : Int32), .unset, .unset, .unset] [])) _
            refine XS.aload X222.here hx rfl (hb hby at_140) rfl rfl ?_
            exact kt
          obtain ⟨T225, X225, e225, st225⟩ := getS2 X222 hx hZ hown (host := "") (Or.inl (W 8 rfl)) Via.refl e222 (G2.ext O222.2) (g := (mkF m 142 #[iv p0, iv p1, iv p2, iv p3, iv (p0 &&& (3 : Int32)), iv mv, rv r_105, rv r_108, rv r_111, rv r_114, rv r_117, rv b120, iv (0 : Int32), iv (0 : Int32), iv (0 : Int32), .unset, .unset, .unset] [(.ref r_114)])) rfl (hb hby at_142)
          have pre226 : ∀ t, Steps p.tables e below (T225.setTop (mkF m 145 #[iv p0, iv p1, iv p2, iv p3, iv (p0 &&& (3 : Int32)), iv mv, rv r_105, rv r_108, rv r_111, rv r_114, rv r_117, rv b120, iv (0 : Int32), iv (0 : Int32), iv (0 : Int32), .unset, .unset, .unset] [(.ref a_TRUE), (.ref r_114)])) t → Steps p.tables e below (s₁.setTop (entryFrame m #[(.int p0), (.int p1), (.int p2), (.int p3)] maxLocals)) t := fun t kt => pre224 _ (st225 _ kt)
          have pre227 : ∀ t, Steps p.tables e below (T225.setTop (mkF m 188 #[iv p0, iv p1, iv p2, iv p3, iv (p0 &&& (3 : Int32)), iv mv, rv r_105, rv r_108, rv r_111, rv r_114, rv r_117, rv b120, iv (1 : Int32), iv (0 : Int32), iv (0 : Int32), .unset, .unset, .unset] [(.ref r_117)])) t → Steps p.tables e below (s₁.setTop (entryFrame m #[(.int p0), (.int p1), (.int p2), (.int p3)] maxLocals)) t := fun t kt => by
            refine pre226 _ ?_
            show Steps p.tables e below (T225.setTop (mkF m 145 #[iv p0, iv p1, iv p2, iv p3, iv (p0 &&& (3 : Int32)), iv mv, rv r_105, rv r_108, rv r_111, rv r_114, rv r_117, rv b120, iv (0 : Int32), iv (0 : Int32), iv (0 : Int32), .unset, .unset, .unset] [(.ref a_TRUE), (.ref r_114)])) _
            refine Jvm.RoadKit.acmp (g := (mkF m 145 #[iv p0, iv p1, iv p2, iv p3, iv (p0 &&& (3 : Int32)), iv mv, rv r_105, rv r_108, rv r_111, rv r_114, rv r_117, rv b120, iv (0 : Int32), iv (0 : Int32), iv (0 : Int32), .unset, .unset, .unset] [(.ref a_TRUE), (.ref r_114)])) X225 hx rfl rfl rfl (pc0 := 145) (pc' := 148) (same := true) rfl (hb hby at_145) rfl (decide_eq_true (congrArg Value.ref hv211)) (by decide) (by decide) ?_
            refine XS.iload X225.here hx rfl (hb hby at_148) rfl ?_
            refine XS.iconst X225.here hx rfl (hb hby at_150) ?_
            refine XS.iadd X225.here hx rfl (hb hby at_151) rfl ?_
            show  Steps p.tables e below (T225.setTop (mkF m 152 #[iv p0, iv p1, iv p2, iv p3, iv (p0 &&& (3 : Int32)), iv mv, rv r_105, rv r_108, rv r_111, rv r_114, rv r_117, rv b120, iv (0 : Int32), iv (0 : Int32), iv (0 : Int32), .unset, .unset, .unset] [(.int ((0 : Int32) + (1 : Int32)))])) _
            rw [(by decide : (((0 : Int32) + (1 : Int32)) : Int32) = (1 : Int32))]
            show Steps p.tables e below (T225.setTop (mkF m 152 #[iv p0, iv p1, iv p2, iv p3, iv (p0 &&& (3 : Int32)), iv mv, rv r_105, rv r_108, rv r_111, rv r_114, rv r_117, rv b120, iv (0 : Int32), iv (0 : Int32), iv (0 : Int32), .unset, .unset, .unset] [(.int (1 : Int32))])) _
            refine XS.istore X225.here hx rfl (hb hby at_152) rfl (l' := #[iv p0, iv p1, iv p2, iv p3, iv (p0 &&& (3 : Int32)), iv mv, rv r_105, rv r_108, rv r_111, rv r_114, rv r_117, rv b120, iv (1 : Int32), iv (0 : Int32), iv (0 : Int32), .unset, .unset, .unset]) rfl ?_
            refine XS.goto X225.here hx rfl (pc0 := 154) (pc' := 180) rfl (hb hby at_154) (by decide) (by decide) ?_
            refine XS.iload X225.here hx rfl (hb hby at_180) rfl ?_
            refine XS.iconst X225.here hx rfl (hb hby at_182) ?_
            show Steps p.tables e below (T225.setTop (mkF m 183 #[iv p0, iv p1, iv p2, iv p3, iv (p0 &&& (3 : Int32)), iv mv, rv r_105, rv r_108, rv r_111, rv r_114, rv r_117, rv b120, iv (1 : Int32), iv (0 : Int32), iv (0 : Int32), .unset, .unset, .unset] [(.int (1 : Int32)), (.int mv)])) _
            refine XS.icmpNo X225.here hx rfl (hb hby at_183) rfl (XT.ii_le_f hc217) ?_
            refine XS.aload X225.here hx rfl (hb hby at_186) rfl rfl ?_
            exact kt
          obtain ⟨T228, X228, e228, st228⟩ := getS2 X225 hx hZ hown (host := "") (Or.inl (W 8 rfl)) Via.refl e225 (G2.ext O222.2) (g := (mkF m 188 #[iv p0, iv p1, iv p2, iv p3, iv (p0 &&& (3 : Int32)), iv mv, rv r_105, rv r_108, rv r_111, rv r_114, rv r_117, rv b120, iv (1 : Int32), iv (0 : Int32), iv (0 : Int32), .unset, .unset, .unset] [(.ref r_117)])) rfl (hb hby at_188)
          have pre229 : ∀ t, Steps p.tables e below (T228.setTop (mkF m 191 #[iv p0, iv p1, iv p2, iv p3, iv (p0 &&& (3 : Int32)), iv mv, rv r_105, rv r_108, rv r_111, rv r_114, rv r_117, rv b120, iv (1 : Int32), iv (0 : Int32), iv (0 : Int32), .unset, .unset, .unset] [(.ref a_TRUE), (.ref r_117)])) t → Steps p.tables e below (s₁.setTop (entryFrame m #[(.int p0), (.int p1), (.int p2), (.int p3)] maxLocals)) t := fun t kt => pre227 _ (st228 _ kt)
          have pre230 : ∀ t, Steps p.tables e below (T228.setTop (mkF m 248 #[iv p0, iv p1, iv p2, iv p3, iv (p0 &&& (3 : Int32)), iv mv, rv r_105, rv r_108, rv r_111, rv r_114, rv r_117, rv b120, iv (2 : Int32), iv (0 : Int32), iv (0 : Int32), .unset, .unset, .unset] [])) t → Steps p.tables e below (s₁.setTop (entryFrame m #[(.int p0), (.int p1), (.int p2), (.int p3)] maxLocals)) t := fun t kt => by
            refine pre229 _ ?_
            show Steps p.tables e below (T228.setTop (mkF m 191 #[iv p0, iv p1, iv p2, iv p3, iv (p0 &&& (3 : Int32)), iv mv, rv r_105, rv r_108, rv r_111, rv r_114, rv r_117, rv b120, iv (1 : Int32), iv (0 : Int32), iv (0 : Int32), .unset, .unset, .unset] [(.ref a_TRUE), (.ref r_117)])) _
            refine Jvm.RoadKit.acmp (g := (mkF m 191 #[iv p0, iv p1, iv p2, iv p3, iv (p0 &&& (3 : Int32)), iv mv, rv r_105, rv r_108, rv r_111, rv r_114, rv r_117, rv b120, iv (1 : Int32), iv (0 : Int32), iv (0 : Int32), .unset, .unset, .unset] [(.ref a_TRUE), (.ref r_117)])) X228 hx rfl rfl rfl (pc0 := 191) (pc' := 194) (same := true) rfl (hb hby at_191) rfl (decide_eq_true (congrArg Value.ref hv219)) (by decide) (by decide) ?_
            refine XS.iload X228.here hx rfl (hb hby at_194) rfl ?_
            refine XS.iconst X228.here hx rfl (hb hby at_196) ?_
            refine XS.iadd X228.here hx rfl (hb hby at_197) rfl ?_
            show  Steps p.tables e below (T228.setTop (mkF m 198 #[iv p0, iv p1, iv p2, iv p3, iv (p0 &&& (3 : Int32)), iv mv, rv r_105, rv r_108, rv r_111, rv r_114, rv r_117, rv b120, iv (1 : Int32), iv (0 : Int32), iv (0 : Int32), .unset, .unset, .unset] [(.int ((1 : Int32) + (1 : Int32)))])) _
            rw [(by decide : (((1 : Int32) + (1 : Int32)) : Int32) = (2 : Int32))]
            show Steps p.tables e below (T228.setTop (mkF m 198 #[iv p0, iv p1, iv p2, iv p3, iv (p0 &&& (3 : Int32)), iv mv, rv r_105, rv r_108, rv r_111, rv r_114, rv r_117, rv b120, iv (1 : Int32), iv (0 : Int32), iv (0 : Int32), .unset, .unset, .unset] [(.int (2 : Int32))])) _
            refine XS.istore X228.here hx rfl (hb hby at_198) rfl (l' := #[iv p0, iv p1, iv p2, iv p3, iv (p0 &&& (3 : Int32)), iv mv, rv r_105, rv r_108, rv r_111, rv r_114, rv r_117, rv b120, iv (2 : Int32), iv (0 : Int32), iv (0 : Int32), .unset, .unset, .unset]) rfl ?_
            refine XS.goto X228.here hx rfl (pc0 := 200) (pc' := 226) rfl (hb hby at_200) (by decide) (by decide) ?_
            refine XS.iload X228.here hx rfl (hb hby at_226) rfl ?_
            refine XS.ifYes X228.here hx rfl (pc0 := 228) (pc' := 237) rfl (hb hby at_228) rfl (XT.i0_le_t (by decide)) (by decide) (by decide) ?_
            show Steps p.tables e below (T228.setTop (mkF m 237 #[iv p0, iv p1, iv p2, iv p3, iv (p0 &&& (3 : Int32)), iv mv, rv r_105, rv r_108, rv r_111, rv r_114, rv r_117, rv b120, iv (2 : Int32), iv (0 : Int32), iv (0 : Int32), .unset, .unset, .unset] [])) _
            refine XS.iload X228.here hx rfl (hb hby at_237) rfl ?_
            refine XS.ifYes X228.here hx rfl (pc0 := 239) (pc' := 248) rfl (hb hby at_239) rfl (XT.i0_le_t (by decide)) (by decide) (by decide) ?_
            exact kt
          obtain ⟨T231, X231, e231, st231⟩ := getS2 X228 hx hZ hown (host := "") (Or.inl (W 8 rfl)) Via.refl e228 (G2.ext O222.2) (g := (mkF m 248 #[iv p0, iv p1, iv p2, iv p3, iv (p0 &&& (3 : Int32)), iv mv, rv r_105, rv r_108, rv r_111, rv r_114, rv r_117, rv b120, iv (2 : Int32), iv (0 : Int32), iv (0 : Int32), .unset, .unset, .unset] [])) rfl (hb hby at_248)
          have pre232 : ∀ t, Steps p.tables e below (T231.setTop (mkF m 251 #[iv p0, iv p1, iv p2, iv p3, iv (p0 &&& (3 : Int32)), iv mv, rv r_105, rv r_108, rv r_111, rv r_114, rv r_117, rv b120, iv (2 : Int32), iv (0 : Int32), iv (0 : Int32), .unset, .unset, .unset] [(.ref a_TRUE)])) t → Steps p.tables e below (s₁.setTop (entryFrame m #[(.int p0), (.int p1), (.int p2), (.int p3)] maxLocals)) t := fun t kt => pre230 _ (st231 _ kt)
          have pre233 : ∀ t, Steps p.tables e below (T231.setTop (mkF m 258 #[iv p0, iv p1, iv p2, iv p3, iv (p0 &&& (3 : Int32)), iv mv, rv r_105, rv r_108, rv r_111, rv r_114, rv r_117, rv b120, iv (2 : Int32), iv (0 : Int32), iv (0 : Int32), rv a_TRUE, .unset, .unset] [])) t → Steps p.tables e below (s₁.setTop (entryFrame m #[(.int p0), (.int p1), (.int p2), (.int p3)] maxLocals)) t := fun t kt => by
            refine pre232 _ ?_
            show Steps p.tables e below (T231.setTop (mkF m 251 #[iv p0, iv p1, iv p2, iv p3, iv (p0 &&& (3 : Int32)), iv mv, rv r_105, rv r_108, rv r_111, rv r_114, rv r_117, rv b120, iv (2 : Int32), iv (0 : Int32), iv (0 : Int32), .unset, .unset, .unset] [(.ref a_TRUE)])) _
            refine XS.astore X231.here hx rfl (hb hby at_251) rfl rfl (l' := #[iv p0, iv p1, iv p2, iv p3, iv (p0 &&& (3 : Int32)), iv mv, rv r_105, rv r_108, rv r_111, rv r_114, rv r_117, rv b120, iv (2 : Int32), iv (0 : Int32), iv (0 : Int32), rv a_TRUE, .unset, .unset]) rfl ?_
            refine XS.iload X231.here hx rfl (hb hby at_253) rfl ?_
            refine XS.ifNo X231.here hx rfl (hb hby at_255) rfl (XT.i0_le_f (by decide)) ?_
            exact kt
          obtain ⟨T234, X234, e234, st234⟩ := getS2 X231 hx hZ hown (host := "") (Or.inl (W 8 rfl)) Via.refl e231 (G2.ext O222.2) (g := (mkF m 258 #[iv p0, iv p1, iv p2, iv p3, iv (p0 &&& (3 : Int32)), iv mv, rv r_105, rv r_108, rv r_111, rv r_114, rv r_117, rv b120, iv (2 : Int32), iv (0 : Int32), iv (0 : Int32), rv a_TRUE, .unset, .unset] [])) rfl (hb hby at_258)
          have pre235 : ∀ t, Steps p.tables e below (T234.setTop (mkF m 261 #[iv p0, iv p1, iv p2, iv p3, iv (p0 &&& (3 : Int32)), iv mv, rv r_105, rv r_108, rv r_111, rv r_114, rv r_117, rv b120, iv (2 : Int32), iv (0 : Int32), iv (0 : Int32), rv a_TRUE, .unset, .unset] [(.ref a_TRUE)])) t → Steps p.tables e below (s₁.setTop (entryFrame m #[(.int p0), (.int p1), (.int p2), (.int p3)] maxLocals)) t := fun t kt => pre233 _ (st234 _ kt)
          have pre236 : ∀ t, Steps p.tables e below (T234.setTop (mkF m 303 #[iv p0, iv p1, iv p2, iv p3, iv (p0 &&& (3 : Int32)), iv mv, rv r_105, rv r_108, rv r_111, rv r_114, rv r_117, rv b120, iv (2 : Int32), iv (0 : Int32), iv (0 : Int32), rv a_TRUE, rv a_TRUE, .unset] [])) t → Steps p.tables e below (s₁.setTop (entryFrame m #[(.int p0), (.int p1), (.int p2), (.int p3)] maxLocals)) t := fun t kt => by
            refine pre235 _ ?_
            show Steps p.tables e below (T234.setTop (mkF m 261 #[iv p0, iv p1, iv p2, iv p3, iv (p0 &&& (3 : Int32)), iv mv, rv r_105, rv r_108, rv r_111, rv r_114, rv r_117, rv b120, iv (2 : Int32), iv (0 : Int32), iv (0 : Int32), rv a_TRUE, .unset, .unset] [(.ref a_TRUE)])) _
            refine XS.goto X234.here hx rfl (pc0 := 261) (pc' := 278) rfl (hb hby at_261) (by decide) (by decide) ?_
            refine XS.astore X234.here hx rfl (hb hby at_278) rfl rfl (l' := #[iv p0, iv p1, iv p2, iv p3, iv (p0 &&& (3 : Int32)), iv mv, rv r_105, rv r_108, rv r_111, rv r_114, rv r_117, rv b120, iv (2 : Int32), iv (0 : Int32), iv (0 : Int32), rv a_TRUE, rv a_TRUE, .unset]) rfl ?_
            refine XS.iload X234.here hx rfl (hb hby at_280) rfl ?_
            refine XS.ifYes X234.here hx rfl (pc0 := 282) (pc' := 291) rfl (hb hby at_282) rfl (XT.i0_le_t (by decide)) (by decide) (by decide) ?_
            show Steps p.tables e below (T234.setTop (mkF m 291 #[iv p0, iv p1, iv p2, iv p3, iv (p0 &&& (3 : Int32)), iv mv, rv r_105, rv r_108, rv r_111, rv r_114, rv r_117, rv b120, iv (2 : Int32), iv (0 : Int32), iv (0 : Int32), rv a_TRUE, rv a_TRUE, .unset] [])) _
            refine XS.iload X234.here hx rfl (hb hby at_291) rfl ?_
            refine XS.iconst X234.here hx rfl (hb hby at_293) ?_
            refine XS.icmpYes X234.here hx rfl (pc0 := 294) (pc' := 303) rfl (hb hby at_294) rfl (XT.ii_ne_t (by decide)) (by decide) (by decide) ?_
            exact kt
          obtain ⟨T237, X237, e237, st237⟩ := getS2 X234 hx hZ hown (host := "") (Or.inl (W 10 rfl)) Via.refl e234 (G4.ext O222.2) (g := (mkF m 303 #[iv p0, iv p1, iv p2, iv p3, iv (p0 &&& (3 : Int32)), iv mv, rv r_105, rv r_108, rv r_111, rv r_114, rv r_117, rv b120, iv (2 : Int32), iv (0 : Int32), iv (0 : Int32), rv a_TRUE, rv a_TRUE, .unset] [])) rfl (hb hby at_303)
          have pre238 : ∀ t, Steps p.tables e below (T237.setTop (mkF m 306 #[iv p0, iv p1, iv p2, iv p3, iv (p0 &&& (3 : Int32)), iv mv, rv r_105, rv r_108, rv r_111, rv r_114, rv r_117, rv b120, iv (2 : Int32), iv (0 : Int32), iv (0 : Int32), rv a_TRUE, rv a_TRUE, .unset] [(.ref a_FALSE)])) t → Steps p.tables e below (s₁.setTop (entryFrame m #[(.int p0), (.int p1), (.int p2), (.int p3)] maxLocals)) t := fun t kt => pre236 _ (st237 _ kt)
          have pre239 : ∀ t, Steps p.tables e below (T237.setTop (mkF m 310 #[iv p0, iv p1, iv p2, iv p3, iv (p0 &&& (3 : Int32)), iv mv, rv r_105, rv r_108, rv r_111, rv r_114, rv r_117, rv b120, iv (2 : Int32), iv (0 : Int32), iv (0 : Int32), rv a_TRUE, rv a_TRUE, rv a_FALSE] [(.ref b120)])) t → Steps p.tables e below (s₁.setTop (entryFrame m #[(.int p0), (.int p1), (.int p2), (.int p3)] maxLocals)) t := fun t kt => by
            refine pre238 _ ?_
            show Steps p.tables e below (T237.setTop (mkF m 306 #[iv p0, iv p1, iv p2, iv p3, iv (p0 &&& (3 : Int32)), iv mv, rv r_105, rv r_108, rv r_111, rv r_114, rv r_117, rv b120, iv (2 : Int32), iv (0 : Int32), iv (0 : Int32), rv a_TRUE, rv a_TRUE, .unset] [(.ref a_FALSE)])) _
            refine XS.astore X237.here hx rfl (hb hby at_306) rfl rfl (l' := #[iv p0, iv p1, iv p2, iv p3, iv (p0 &&& (3 : Int32)), iv mv, rv r_105, rv r_108, rv r_111, rv r_114, rv r_117, rv b120, iv (2 : Int32), iv (0 : Int32), iv (0 : Int32), rv a_TRUE, rv a_TRUE, rv a_FALSE]) rfl ?_
            refine XS.aload X237.here hx rfl (hb hby at_308) rfl rfl ?_
            exact kt
          obtain ⟨cq240, kq240, q240a, q240b, q240c⟩ := isOf hZ e237 J222_0
          obtain ⟨_, _, ⟨T240, L240, k240, n240⟩, -, X240, ⟨Lc240, hQ240, l240, y240, z240⟩, st240⟩ := X237.virtualBack hx (y := (⟨"com/example/contexture/contexture/engine/evaluation/TruthValue$Tally", "and", "()Lcom/example/contexture/contexture/engine/evaluation/TruthValue;"⟩ : MethodName)) (z := (⟨"com/example/contexture/contexture/engine/evaluation/TruthValue$Tally", "and", "()Lcom/example/contexture/contexture/engine/evaluation/TruthValue;"⟩ : MethodName)) hown (mvT hZ (W 46 rfl)) (mvT hZ (W 47 rfl)) (notFace_of_selects (args := #[]) (mvT hZ (W 49 rfl))) (mvT hZ (W 49 rfl)) (mvT hZ (W 48 rfl)) (by decide) (backOf (W := 0) (rm_and7_0 l Z a0 hw [] b120 a_TRUE h222 n0 O222 G2 J222_0 J222_2 J222_3) hZ (W 50 rfl) (W 14 rfl) (by decide) (by decide)) q240a q240c (g := (mkF m 310 #[iv p0, iv p1, iv p2, iv p3, iv (p0 &&& (3 : Int32)), iv mv, rv r_105, rv r_108, rv r_111, rv r_114, rv r_117, rv b120, iv (2 : Int32), iv (0 : Int32), iv (0 : Int32), rv a_TRUE, rv a_TRUE, rv a_FALSE] [(.ref b120)])) rfl (by rw [hml]; rfl) (Steps.refl _) (argsL := []) (rest := []) (lenOf pd_16 rfl) rfl (by show 2 * 0 + _ ≤ _; exact Nat.le_of_eq rfl) (hb hby at_310) (fun _ _ => ⟨rfl, e237, (by decide : 1 + 0 ≤ _), (by decide : 3 + 0 ≤ _)⟩)
          dsimp only [Pt.U, Pt.locs, Pt.cells, Pt.slots] at X240 l240 y240 z240 st240 hQ240
          replace l240 := l240.symm
          replace y240 : 1 = k240 := y240.symm
          replace z240 : 3 = n240 := z240.symm
          subst l240 y240 z240
          obtain ⟨rfl, M240, e240⟩ := hQ240
          have N240 := Fr.app N222 M240
          have pre277 : ∀ t, Steps p.tables e below (T240.setTop (mkF m 313 #[iv p0, iv p1, iv p2, iv p3, iv (p0 &&& (3 : Int32)), iv mv, rv r_105, rv r_108, rv r_111, rv r_114, rv r_117, rv b120, iv (2 : Int32), iv (0 : Int32), iv (0 : Int32), rv a_TRUE, rv a_TRUE, rv a_FALSE] [(.ref a_TRUE)])) t → Steps p.tables e below (s₁.setTop (entryFrame m #[(.int p0), (.int p1), (.int p2), (.int p3)] maxLocals)) t := fun t kt => pre239 _ (st240.trans kt)
          have pre278 : ∀ t, Steps p.tables e below (T240.setTop (mkF m 320 #[iv p0, iv p1, iv p2, iv p3, iv (p0 &&& (3 : Int32)), iv mv, rv r_105, rv r_108, rv r_111, rv r_114, rv r_117, rv b120, iv (2 : Int32), iv (0 : Int32), iv (0 : Int32), rv a_TRUE, rv a_TRUE, rv a_FALSE] [(.ref b120)])) t → Steps p.tables e below (s₁.setTop (entryFrame m #[(.int p0), (.int p1), (.int p2), (.int p3)] maxLocals)) t := fun t kt => by
            refine pre277 _ ?_
            show Steps p.tables e below (T240.setTop (mkF m 313 #[iv p0, iv p1, iv p2, iv p3, iv (p0 &&& (3 : Int32)), iv mv, rv r_105, rv r_108, rv r_111, rv r_114, rv r_117, rv b120, iv (2 : Int32), iv (0 : Int32), iv (0 : Int32), rv a_TRUE, rv a_TRUE, rv a_FALSE] [(.ref a_TRUE)])) _
            refine XS.aload X240.here hx rfl (hb hby at_313) rfl rfl ?_
            refine Jvm.RoadKit.acmp (g := (mkF m 315 #[iv p0, iv p1, iv p2, iv p3, iv (p0 &&& (3 : Int32)), iv mv, rv r_105, rv r_108, rv r_111, rv r_114, rv r_117, rv b120, iv (2 : Int32), iv (0 : Int32), iv (0 : Int32), rv a_TRUE, rv a_TRUE, rv a_FALSE] [(.ref a_TRUE), (.ref a_TRUE)])) X240 hx rfl rfl rfl (pc0 := 315) (pc' := 318) (same := true) rfl (hb hby at_315) rfl (decide_eq_true rfl) (by decide) (by decide) ?_
            refine XS.aload X240.here hx rfl (hb hby at_318) rfl rfl ?_
            exact kt
          obtain ⟨cq279, kq279, q279a, q279b, q279c⟩ := isOf hZ e240 J222_0
          obtain ⟨_, _, ⟨T279, L279, k279, n279⟩, -, X279, ⟨Lc279, hQ279, l279, y279, z279⟩, st279⟩ := X240.virtualBack hx (y := (⟨"com/example/contexture/contexture/engine/evaluation/TruthValue$Tally", "or", "()Lcom/example/contexture/contexture/engine/evaluation/TruthValue;"⟩ : MethodName)) (z := (⟨"com/example/contexture/contexture/engine/evaluation/TruthValue$Tally", "or", "()Lcom/example/contexture/contexture/engine/evaluation/TruthValue;"⟩ : MethodName)) hown (mvT hZ (W 52 rfl)) (mvT hZ (W 53 rfl)) (notFace_of_selects (args := #[]) (mvT hZ (W 55 rfl))) (mvT hZ (W 55 rfl)) (mvT hZ (W 54 rfl)) (by decide) (backOf (W := 0) (rm_or8_0 l Z a0 hw [] b120 a_TRUE h222 n0 O222 G2 J222_1) hZ (W 56 rfl) (W 14 rfl) (by decide) (by decide)) q279a q279c (g := (mkF m 320 #[iv p0, iv p1, iv p2, iv p3, iv (p0 &&& (3 : Int32)), iv mv, rv r_105, rv r_108, rv r_111, rv r_114, rv r_117, rv b120, iv (2 : Int32), iv (0 : Int32), iv (0 : Int32), rv a_TRUE, rv a_TRUE, rv a_FALSE] [(.ref b120)])) rfl (by rw [hml]; rfl) (Steps.refl _) (argsL := []) (rest := []) (lenOf pd_16 rfl) rfl (by show 2 * 0 + _ ≤ _; exact Nat.le_of_eq rfl) (hb hby at_320) (fun _ _ => ⟨rfl, e240, (by decide : 1 + 0 ≤ _), (by decide : 3 + 0 ≤ _)⟩)
          dsimp only [Pt.U, Pt.locs, Pt.cells, Pt.slots] at X279 l279 y279 z279 st279 hQ279
          replace l279 := l279.symm
          replace y279 : 1 = k279 := y279.symm
          replace z279 : 3 = n279 := z279.symm
          subst l279 y279 z279
          obtain ⟨rfl, M279, e279⟩ := hQ279
          have N279 := Fr.app N240 M279
          have pre301 : ∀ t, Steps p.tables e below (T279.setTop (mkF m 323 #[iv p0, iv p1, iv p2, iv p3, iv (p0 &&& (3 : Int32)), iv mv, rv r_105, rv r_108, rv r_111, rv r_114, rv r_117, rv b120, iv (2 : Int32), iv (0 : Int32), iv (0 : Int32), rv a_TRUE, rv a_TRUE, rv a_FALSE] [(.ref a_TRUE)])) t → Steps p.tables e below (s₁.setTop (entryFrame m #[(.int p0), (.int p1), (.int p2), (.int p3)] maxLocals)) t := fun t kt => pre278 _ (st279.trans kt)
          have pre302 : ∀ t, Steps p.tables e below (T279.setTop (mkF m 330 #[iv p0, iv p1, iv p2, iv p3, iv (p0 &&& (3 : Int32)), iv mv, rv r_105, rv r_108, rv r_111, rv r_114, rv r_117, rv b120, iv (2 : Int32), iv (0 : Int32), iv (0 : Int32), rv a_TRUE, rv a_TRUE, rv a_FALSE] [(.ref b120)])) t → Steps p.tables e below (s₁.setTop (entryFrame m #[(.int p0), (.int p1), (.int p2), (.int p3)] maxLocals)) t := fun t kt => by
            refine pre301 _ ?_
            show Steps p.tables e below (T279.setTop (mkF m 323 #[iv p0, iv p1, iv p2, iv p3, iv (p0 &&& (3 : Int32)), iv mv, rv r_105, rv r_108, rv r_111, rv r_114, rv r_117, rv b120, iv (2 : Int32), iv (0 : Int32), iv (0 : Int32), rv a_TRUE, rv a_TRUE, rv a_FALSE] [(.ref a_TRUE)])) _
            refine XS.aload X279.here hx rfl (hb hby at_323) rfl rfl ?_
            refine Jvm.RoadKit.acmp (g := (mkF m 325 #[iv p0, iv p1, iv p2, iv p3, iv (p0 &&& (3 : Int32)), iv mv, rv r_105, rv r_108, rv r_111, rv r_114, rv r_117, rv b120, iv (2 : Int32), iv (0 : Int32), iv (0 : Int32), rv a_TRUE, rv a_TRUE, rv a_FALSE] [(.ref a_TRUE), (.ref a_TRUE)])) X279 hx rfl rfl rfl (pc0 := 325) (pc' := 328) (same := true) rfl (hb hby at_325) rfl (decide_eq_true rfl) (by decide) (by decide) ?_
            refine XS.aload X279.here hx rfl (hb hby at_328) rfl rfl ?_
            exact kt
          obtain ⟨cq303, kq303, q303a, q303b, q303c⟩ := isOf hZ e279 J222_0
          obtain ⟨_, _, ⟨T303, L303, k303, n303⟩, -, X303, ⟨Lc303, hQ303, l303, y303, z303⟩, st303⟩ := X279.virtualBack hx (y := (⟨"com/example/contexture/contexture/engine/evaluation/TruthValue$Tally", "xor", "()Lcom/example/contexture/contexture/engine/evaluation/TruthValue;"⟩ : MethodName)) (z := (⟨"com/example/contexture/contexture/engine/evaluation/TruthValue$Tally", "xor", "()Lcom/example/contexture/contexture/engine/evaluation/TruthValue;"⟩ : MethodName)) hown (mvT hZ (W 58 rfl)) (mvT hZ (W 59 rfl)) (notFace_of_selects (args := #[]) (mvT hZ (W 61 rfl))) (mvT hZ (W 61 rfl)) (mvT hZ (W 60 rfl)) (by decide) (backOf (W := 0) (rm_xor9_0 l Z a0 hw [] b120 a_FALSE h222 n0 O222 G4 J222_0 J222_1 J222_3) hZ (W 62 rfl) (W 14 rfl) (by decide) (by decide)) q303a q303c (g := (mkF m 330 #[iv p0, iv p1, iv p2, iv p3, iv (p0 &&& (3 : Int32)), iv mv, rv r_105, rv r_108, rv r_111, rv r_114, rv r_117, rv b120, iv (2 : Int32), iv (0 : Int32), iv (0 : Int32), rv a_TRUE, rv a_TRUE, rv a_FALSE] [(.ref b120)])) rfl (by rw [hml]; rfl) (Steps.refl _) (argsL := []) (rest := []) (lenOf pd_16 rfl) rfl (by show 2 * 0 + _ ≤ _; exact Nat.le_of_eq rfl) (hb hby at_330) (fun _ _ => ⟨rfl, e279, (by decide : 1 + 0 ≤ _), (by decide : 3 + 0 ≤ _)⟩)
          dsimp only [Pt.U, Pt.locs, Pt.cells, Pt.slots] at X303 l303 y303 z303 st303 hQ303
          replace l303 := l303.symm
          replace y303 : 1 = k303 := y303.symm
          replace z303 : 3 = n303 := z303.symm
          subst l303 y303 z303
          obtain ⟨rfl, M303, e303⟩ := hQ303
          have N303 := Fr.app N279 M303
          have pre337 : ∀ t, Steps p.tables e below (T303.setTop (mkF m 333 #[iv p0, iv p1, iv p2, iv p3, iv (p0 &&& (3 : Int32)), iv mv, rv r_105, rv r_108, rv r_111, rv r_114, rv r_117, rv b120, iv (2 : Int32), iv (0 : Int32), iv (0 : Int32), rv a_TRUE, rv a_TRUE, rv a_FALSE] [(.ref a_FALSE)])) t → Steps p.tables e below (s₁.setTop (entryFrame m #[(.int p0), (.int p1), (.int p2), (.int p3)] maxLocals)) t := fun t kt => pre302 _ (st303.trans kt)
          have pre338 : ∀ t, Steps p.tables e below (T303.setTop (mkF m 343 #[iv p0, iv p1, iv p2, iv p3, iv (p0 &&& (3 : Int32)), iv mv, rv r_105, rv r_108, rv r_111, rv r_114, rv r_117, rv b120, iv (2 : Int32), iv (0 : Int32), iv (0 : Int32), rv a_TRUE, rv a_TRUE, rv a_FALSE] [(.int (1 : Int32))])) t → Steps p.tables e below (s₁.setTop (entryFrame m #[(.int p0), (.int p1), (.int p2), (.int p3)] maxLocals)) t := fun t kt => by
            refine pre337 _ ?_
            show Steps p.tables e below (T303.setTop (mkF m 333 #[iv p0, iv p1, iv p2, iv p3, iv (p0 &&& (3 : Int32)), iv mv, rv r_105, rv r_108, rv r_111, rv r_114, rv r_117, rv b120, iv (2 : Int32), iv (0 : Int32), iv (0 : Int32), rv a_TRUE, rv a_TRUE, rv a_FALSE] [(.ref a_FALSE)])) _
            refine XS.aload X303.here hx rfl (hb hby at_333) rfl rfl ?_
            refine Jvm.RoadKit.acmp (g := (mkF m 335 #[iv p0, iv p1, iv p2, iv p3, iv (p0 &&& (3 : Int32)), iv mv, rv r_105, rv r_108, rv r_111, rv r_114, rv r_117, rv b120, iv (2 : Int32), iv (0 : Int32), iv (0 : Int32), rv a_TRUE, rv a_TRUE, rv a_FALSE] [(.ref a_FALSE), (.ref a_FALSE)])) X303 hx rfl rfl rfl (pc0 := 335) (pc' := 338) (same := true) rfl (hb hby at_335) rfl (decide_eq_true rfl) (by decide) (by decide) ?_
            refine XS.iconst X303.here hx rfl (hb hby at_338) ?_
            refine XS.goto X303.here hx rfl (pc0 := 339) (pc' := 343) rfl (hb hby at_339) (by decide) (by decide) ?_
            exact kt
          obtain ⟨fs, hr, hrun, hended, hW, hsame⟩ := X303.leave (v := some (.int (1 : Int32))) (fun h => by rw [Bd.returns] at h; cases h)
          refine ⟨_, _, pre338 _ (retN X303 hx (t := .boolean) Bd.returns (by simp) (hb hby at_343) hr), hrun, hended, _, _, rfl, ?_, ⟨_, rfl⟩, hW, hsame.mono (by decide) (by decide)⟩
          show Q_law Z p0 p1 p2 p3 a_UNKNOWN a_TRUE a_FALSE h0 n0 _ T303.heap _
          rw [e303]
          exact ⟨rfl, N303⟩
        · have Gr339 : Exa Z Z.heap r_117 "com/example/contexture/contexture/engine/evaluation/TruthValue" := hv219 ▸ G5
          have Gr340 : Fld Z Z.heap r_117 "java/lang/Enum" "ordinal" "I" (.int (1 : Int32)) := hv219 ▸ G6
          obtain ⟨cq341, kq341, q341a, q341b, q341c⟩ := isOf hZ e214 J214_0
          obtain ⟨_, _, ⟨T341, L341, k341, n341⟩, -, X341, ⟨Lc341, hQ341, l341, y341, z341⟩, st341⟩ := X214.virtualBack hx (y := (⟨"com/example/contexture/contexture/engine/evaluation/TruthValue$Tally", "add", "(Lcom/example/contexture/contexture/engine/evaluation/TruthValue;)V"⟩ : MethodName)) (z := (⟨"com/example/contexture/contexture/engine/evaluation/TruthValue$Tally", "add", "(Lcom/example/contexture/contexture/engine/evaluation/TruthValue;)V"⟩ : MethodName)) hown (mvT hZ (W 32 rfl)) (mvT hZ (W 33 rfl)) (notFace_of_selects (args := #[]) (mvT hZ (W 35 rfl))) (mvT hZ (W 35 rfl)) (mvT hZ (W 34 rfl)) (by decide) (backOf (W := 0) (rm_add1 l Z a0 hw [] b120 r_117 (((0 : Int32) + (1 : Int32))) ((0 : Int32)) ((0 : Int32)) h214 n0 O214 Gr339 Gr340 g_b120 J214_0 J214_1 J214_2 J214_3) hZ (W 36 rfl) (W 14 rfl) (by decide) (by decide)) q341a q341c (g := (mkF m 123 #[iv p0, iv p1, iv p2, iv p3, iv (p0 &&& (3 : Int32)), iv mv, rv r_105, rv r_108, rv r_111, rv r_114, rv r_117, rv b120, .unset, .unset, .unset, .unset, .unset, .unset] [(.ref r_117), (.ref b120)])) rfl (by rw [hml]; rfl) (Steps.refl _) (argsL := [(.ref r_117)]) (rest := []) (lenOf pd_12 rfl) rfl (by show 2 * 0 + _ ≤ _; exact Nat.le_of_eq rfl) (hb hby at_123) (fun _ _ => ⟨rfl, e214, (by decide : 1 + 0 ≤ _), (by decide : 3 + 0 ≤ _)⟩)
          dsimp only [Pt.U, Pt.locs, Pt.cells, Pt.slots] at X341 l341 y341 z341 st341 hQ341
          replace l341 := l341.symm
          replace y341 : 1 = k341 := y341.symm
          replace z341 : 3 = n341 := z341.symm
          subst l341 y341 z341
          obtain ⟨rfl, M341, Kc341, O341, J341_0, J341_1, J341_2, J341_3⟩ := hQ341
          obtain ⟨h341, e341⟩ : ∃ z, T341.heap = z := ⟨_, rfl⟩
          rw [e341] at Kc341 O341 J341_0 J341_1 J341_2 J341_3
          have N341 := Fr.app N214 M341
          have K341 : Keep h0 h341 [] := K214.trans Kc341 (own_all1 (Or.inr sz_b120))
          have pre342 : ∀ t, Steps p.tables e below (T341.setTop (mkF m 126 #[iv p0, iv p1, iv p2, iv p3, iv (p0 &&& (3 : Int32)), iv mv, rv r_105, rv r_108, rv r_111, rv r_114, rv r_117, rv b120, .unset, .unset, .unset, .unset, .unset, .unset] [])) t → Steps p.tables e below (s₁.setTop (entryFrame m #[(.int p0), (.int p1), (.int p2), (.int p3)] maxLocals)) t := fun t kt => pre218 _ (st341.trans kt)
          have pre343 : ∀ t, Steps p.tables e below (T341.setTop (mkF m 142 #[iv p0, iv p1, iv p2, iv p3, iv (p0 &&& (3 : Int32)), iv mv, rv r_105, rv r_108, rv r_111, rv r_114, rv r_117, rv b120, iv (0 : Int32), iv (0 : Int32), iv (0 : Int32), .unset, .unset, .unset] [(.ref r_114)])) t → Steps p.tables e below (s₁.setTop (entryFrame m #[(.int p0), (.int p1), (.int p2), (.int p3)] maxLocals)) t := fun t kt => by
            refine pre342 _ ?_
            show Steps p.tables e below (T341.setTop (mkF m 126 #[iv p0, iv p1, iv p2, iv p3, iv (p0 &&& (3 : Int32)), iv mv, rv r_105, rv r_108, rv r_111, rv r_114, rv r_117, rv b120, .unset, .unset, .unset, .unset, .unset, .unset] [])) _
            refine XS.iconst X341.here hx rfl (hb hby at_126) ?_
            refine XS.istore X341.here hx rfl (hb hby at_127) rfl (l' := #[iv p0, iv p1, iv p2, iv p3, iv (p0 &&& (3 : Int32)), iv mv, rv r_105, rv r_108, rv r_111, rv r_114, rv r_117, rv b120, iv (0 : Int32), .unset, .unset, .unset, .unset, .unset]) rfl ?_
            refine XS.iconst X341.here hx rfl (hb hby at_129) ?_
            refine XS.istore X341.here hx rfl (hb hby at_130) rfl (l' := #[iv p0, iv p1, iv p2, iv p3, iv (p0 &&& (3 : Int32)), iv mv, rv r_105, rv r_108, rv r_111, rv r_114, rv r_117, rv b120, iv (0 : Int32), iv (0 : Int32), .unset, .unset, .unset, .unset]) rfl ?_
            show Steps p.tables e below (T341.setTop (mkF m 132 #[iv p0, iv p1, iv p2, iv p3, iv (p0 &&& (3 : Int32)), iv mv, rv r_105, rv r_108, rv r_111, rv r_114, rv r_117, rv b120, iv (0 : Int32), iv (0 : Int32), .unset, .unset, .unset, .unset] [])) _
            refine XS.iconst X341.here hx rfl (hb hby at_132) ?_
            refine XS.istore X341.here hx rfl (hb hby at_133) rfl (l' := #[iv p0, iv p1, iv p2, iv p3, iv (p0 &&& (3 : Int32)), iv mv, rv r_105, rv r_108, rv r_111, rv r_114, rv r_117, rv b120, iv (0 : Int32), iv (0 : Int32), iv (0 : Int32), .unset, .unset, .unset]) rfl ?_
            refine XS.iload X341.here hx rfl (hb hby at_135) rfl ?_
            refine XS.ifNo X341.here hx rfl (hb hby at_137) rfl (XT.i0_le_f hc209) ?_
            show Steps p.tables e below (T341.setTop (mkF m 140 #[iv p0, iv p1, iv p2, iv p3, iv (p0 &&& (3 : Int32)), iv mv, rv r_105, rv r_108, rv r_111, rv r_114, rv r_117, rv b120, iv (0 : Int32), iv (0 : Int32), iv (0 : Int32), .unset, .unset, .unset] [])) _
            refine XS.aload X341.here hx rfl (hb hby at_140) rfl rfl ?_
            exact kt
          obtain ⟨T344, X344, e344, st344⟩ := getS2 X341 hx hZ hown (host := "") (Or.inl (W 8 rfl)) Via.refl e341 (G2.ext O341.2) (g := (mkF m 142 #[iv p0, iv p1, iv p2, iv p3, iv (p0 &&& (3 : Int32)), iv mv, rv r_105, rv r_108, rv r_111, rv r_114, rv r_117, rv b120, iv (0 : Int32), iv (0 : Int32), iv (0 : Int32), .unset, .unset, .unset] [(.ref r_114)])) rfl (hb hby at_142)
          have pre345 : ∀ t, Steps p.tables e below (T344.setTop (mkF m 145 #[iv p0, iv p1, iv p2, iv p3, iv (p0 &&& (3 : Int32)), iv mv, rv r_105, rv r_108, rv r_111, rv r_114, rv r_117, rv b120, iv (0 : Int32), iv (0 : Int32), iv (0 : Int32), .unset, .unset, .unset] [(.ref a_TRUE), (.ref r_114)])) t → Steps p.tables e below (s₁.setTop (entryFrame m #[(.int p0), (.int p1), (.int p2), (.int p3)] maxLocals)) t := fun t kt => pre343 _ (st344 _ kt)
          have pre346 : ∀ t, Steps p.tables e below (T344.setTop (mkF m 188 #[iv p0, iv p1, iv p2, iv p3, iv (p0 &&& (3 : Int32)), iv mv, rv r_105, rv r_108, rv r_111, rv r_114, rv r_117, rv b120, iv (1 : Int32), iv (0 : Int32), iv (0 : Int32), .unset, .unset, .unset] [(.ref r_117)])) t → Steps p.tables e below (s₁.setTop (entryFrame m #[(.int p0), (.int p1), (.int p2), (.int p3)] maxLocals)) t := fun t kt => by
            refine pre345 _ ?_
            show Steps p.tables e below (T344.setTop (mkF m 145 #[iv p0, iv p1, iv p2, iv p3, iv (p0 &&& (3 : Int32)), iv mv, rv r_105, rv r_108, rv r_111, rv r_114, rv r_117, rv b120, iv (0 : Int32), iv (0 : Int32), iv (0 : Int32), .unset, .unset, .unset] [(.ref a_TRUE), (.ref r_114)])) _
            refine Jvm.RoadKit.acmp (g := (mkF m 145 #[iv p0, iv p1, iv p2, iv p3, iv (p0 &&& (3 : Int32)), iv mv, rv r_105, rv r_108, rv r_111, rv r_114, rv r_117, rv b120, iv (0 : Int32), iv (0 : Int32), iv (0 : Int32), .unset, .unset, .unset] [(.ref a_TRUE), (.ref r_114)])) X344 hx rfl rfl rfl (pc0 := 145) (pc' := 148) (same := true) rfl (hb hby at_145) rfl (decide_eq_true (congrArg Value.ref hv211)) (by decide) (by decide) ?_
            refine XS.iload X344.here hx rfl (hb hby at_148) rfl ?_
            refine XS.iconst X344.here hx rfl (hb hby at_150) ?_
            refine XS.iadd X344.here hx rfl (hb hby at_151) rfl ?_
            show  Steps p.tables e below (T344.setTop (mkF m 152 #[iv p0, iv p1, iv p2, iv p3, iv (p0 &&& (3 : Int32)), iv mv, rv r_105, rv r_108, rv r_111, rv r_114, rv r_117, rv b120, iv (0 : Int32), iv (0 : Int32), iv (0 : Int32), .unset, .unset, .unset] [(.int ((0 : Int32) + (1 : Int32)))])) _
            rw [(by decide : (((0 : Int32) + (1 : Int32)) : Int32) = (1 : Int32))]
            show Steps p.tables e below (T344.setTop (mkF m 152 #[iv p0, iv p1, iv p2, iv p3, iv (p0 &&& (3 : Int32)), iv mv, rv r_105, rv r_108, rv r_111, rv r_114, rv r_117, rv b120, iv (0 : Int32), iv (0 : Int32), iv (0 : Int32), .unset, .unset, .unset] [(.int (1 : Int32))])) _
            refine XS.istore X344.here hx rfl (hb hby at_152) rfl (l' := #[iv p0, iv p1, iv p2, iv p3, iv (p0 &&& (3 : Int32)), iv mv, rv r_105, rv r_108, rv r_111, rv r_114, rv r_117, rv b120, iv (1 : Int32), iv (0 : Int32), iv (0 : Int32), .unset, .unset, .unset]) rfl ?_
            refine XS.goto X344.here hx rfl (pc0 := 154) (pc' := 180) rfl (hb hby at_154) (by decide) (by decide) ?_
            refine XS.iload X344.here hx rfl (hb hby at_180) rfl ?_
            refine XS.iconst X344.here hx rfl (hb hby at_182) ?_
            show Steps p.tables e below (T344.setTop (mkF m 183 #[iv p0, iv p1, iv p2, iv p3, iv (p0 &&& (3 : Int32)), iv mv, rv r_105, rv r_108, rv r_111, rv r_114, rv r_117, rv b120, iv (1 : Int32), iv (0 : Int32), iv (0 : Int32), .unset, .unset, .unset] [(.int (1 : Int32)), (.int mv)])) _
            refine XS.icmpNo X344.here hx rfl (hb hby at_183) rfl (XT.ii_le_f hc217) ?_
            refine XS.aload X344.here hx rfl (hb hby at_186) rfl rfl ?_
            exact kt
          obtain ⟨T347, X347, e347, st347⟩ := getS2 X344 hx hZ hown (host := "") (Or.inl (W 8 rfl)) Via.refl e344 (G2.ext O341.2) (g := (mkF m 188 #[iv p0, iv p1, iv p2, iv p3, iv (p0 &&& (3 : Int32)), iv mv, rv r_105, rv r_108, rv r_111, rv r_114, rv r_117, rv b120, iv (1 : Int32), iv (0 : Int32), iv (0 : Int32), .unset, .unset, .unset] [(.ref r_117)])) rfl (hb hby at_188)
          have pre348 : ∀ t, Steps p.tables e below (T347.setTop (mkF m 191 #[iv p0, iv p1, iv p2, iv p3, iv (p0 &&& (3 : Int32)), iv mv, rv r_105, rv r_108, rv r_111, rv r_114, rv r_117, rv b120, iv (1 : Int32), iv (0 : Int32), iv (0 : Int32), .unset, .unset, .unset] [(.ref a_TRUE), (.ref r_117)])) t → Steps p.tables e below (s₁.setTop (entryFrame m #[(.int p0), (.int p1), (.int p2), (.int p3)] maxLocals)) t := fun t kt => pre346 _ (st347 _ kt)
          have pre349 : ∀ t, Steps p.tables e below (T347.setTop (mkF m 205 #[iv p0, iv p1, iv p2, iv p3, iv (p0 &&& (3 : Int32)), iv mv, rv r_105, rv r_108, rv r_111, rv r_114, rv r_117, rv b120, iv (1 : Int32), iv (0 : Int32), iv (0 : Int32), .unset, .unset, .unset] [(.ref r_117)])) t → Steps p.tables e below (s₁.setTop (entryFrame m #[(.int p0), (.int p1), (.int p2), (.int p3)] maxLocals)) t := fun t kt => by
            refine pre348 _ ?_
            show Steps p.tables e below (T347.setTop (mkF m 191 #[iv p0, iv p1, iv p2, iv p3, iv (p0 &&& (3 : Int32)), iv mv, rv r_105, rv r_108, rv r_111, rv r_114, rv r_117, rv b120, iv (1 : Int32), iv (0 : Int32), iv (0 : Int32), .unset, .unset, .unset] [(.ref a_TRUE), (.ref r_117)])) _
            refine Jvm.RoadKit.acmp (g := (mkF m 191 #[iv p0, iv p1, iv p2, iv p3, iv (p0 &&& (3 : Int32)), iv mv, rv r_105, rv r_108, rv r_111, rv r_114, rv r_117, rv b120, iv (1 : Int32), iv (0 : Int32), iv (0 : Int32), .unset, .unset, .unset] [(.ref a_TRUE), (.ref r_117)])) X347 hx rfl rfl rfl (pc0 := 191) (pc' := 203) (same := false) rfl (hb hby at_191) rfl (decide_eq_false fun q => (fun z => ne_a_FALSE_a_TRUE (hv219.symm.trans z)) (Value.ref.inj q)) (by decide) (by decide) ?_
            refine XS.aload X347.here hx rfl (hb hby at_203) rfl rfl ?_
            exact kt
          obtain ⟨T350, X350, e350, st350⟩ := getS2 X347 hx hZ hown (host := "") (Or.inl (W 10 rfl)) Via.refl e347 (G4.ext O341.2) (g := (mkF m 205 #[iv p0, iv p1, iv p2, iv p3, iv (p0 &&& (3 : Int32)), iv mv, rv r_105, rv r_108, rv r_111, rv r_114, rv r_117, rv b120, iv (1 : Int32), iv (0 : Int32), iv (0 : Int32), .unset, .unset, .unset] [(.ref r_117)])) rfl (hb hby at_205)
          have pre351 : ∀ t, Steps p.tables e below (T350.setTop (mkF m 208 #[iv p0, iv p1, iv p2, iv p3, iv (p0 &&& (3 : Int32)), iv mv, rv r_105, rv r_108, rv r_111, rv r_114, rv r_117, rv b120, iv (1 : Int32), iv (0 : Int32), iv (0 : Int32), .unset, .unset, .unset] [(.ref a_FALSE), (.ref r_117)])) t → Steps p.tables e below (s₁.setTop (entryFrame m #[(.int p0), (.int p1), (.int p2), (.int p3)] maxLocals)) t := fun t kt => pre349 _ (st350 _ kt)
          have pre352 : ∀ t, Steps p.tables e below (T350.setTop (mkF m 231 #[iv p0, iv p1, iv p2, iv p3, iv (p0 &&& (3 : Int32)), iv mv, rv r_105, rv r_108, rv r_111, rv r_114, rv r_117, rv b120, iv (1 : Int32), iv (1 : Int32), iv (0 : Int32), .unset, .unset, .unset] [])) t → Steps p.tables e below (s₁.setTop (entryFrame m #[(.int p0), (.int p1), (.int p2), (.int p3)] maxLocals)) t := fun t kt => by
            refine pre351 _ ?_
            show Steps p.tables e below (T350.setTop (mkF m 208 #[iv p0, iv p1, iv p2, iv p3, iv (p0 &&& (3 : Int32)), iv mv, rv r_105, rv r_108, rv r_111, rv r_114, rv r_117, rv b120, iv (1 : Int32), iv (0 : Int32), iv (0 : Int32), .unset, .unset, .unset] [(.ref a_FALSE), (.ref r_117)])) _
            refine Jvm.RoadKit.acmp (g := (mkF m 208 #[iv p0, iv p1, iv p2, iv p3, iv (p0 &&& (3 : Int32)), iv mv, rv r_105, rv r_108, rv r_111, rv r_114, rv r_117, rv b120, iv (1 : Int32), iv (0 : Int32), iv (0 : Int32), .unset, .unset, .unset] [(.ref a_FALSE), (.ref r_117)])) X350 hx rfl rfl rfl (pc0 := 208) (pc' := 211) (same := true) rfl (hb hby at_208) rfl (decide_eq_true (congrArg Value.ref hv219)) (by decide) (by decide) ?_
            refine XS.iload X350.here hx rfl (hb hby at_211) rfl ?_
            refine XS.iconst X350.here hx rfl (hb hby at_213) ?_
            refine XS.iadd X350.here hx rfl (hb hby at_214) rfl ?_
            show  Steps p.tables e below (T350.setTop (mkF m 215 #[iv p0, iv p1, iv p2, iv p3, iv (p0 &&& (3 : Int32)), iv mv, rv r_105, rv r_108, rv r_111, rv r_114, rv r_117, rv b120, iv (1 : Int32), iv (0 : Int32), iv (0 : Int32), .unset, .unset, .unset] [(.int ((0 : Int32) + (1 : Int32)))])) _
            rw [(by decide : (((0 : Int32) + (1 : Int32)) : Int32) = (1 : Int32))]
            show Steps p.tables e below (T350.setTop (mkF m 215 #[iv p0, iv p1, iv p2, iv p3, iv (p0 &&& (3 : Int32)), iv mv, rv r_105, rv r_108, rv r_111, rv r_114, rv r_117, rv b120, iv (1 : Int32), iv (0 : Int32), iv (0 : Int32), .unset, .unset, .unset] [(.int (1 : Int32))])) _
            refine XS.istore X350.here hx rfl (hb hby at_215) rfl (l' := #[iv p0, iv p1, iv p2, iv p3, iv (p0 &&& (3 : Int32)), iv mv, rv r_105, rv r_108, rv r_111, rv r_114, rv r_117, rv b120, iv (1 : Int32), iv (1 : Int32), iv (0 : Int32), .unset, .unset, .unset]) rfl ?_
            refine XS.goto X350.here hx rfl (pc0 := 217) (pc' := 226) rfl (hb hby at_217) (by decide) (by decide) ?_
            refine XS.iload X350.here hx rfl (hb hby at_226) rfl ?_
            refine XS.ifNo X350.here hx rfl (hb hby at_228) rfl (XT.i0_le_f (by decide)) ?_
            exact kt
          obtain ⟨T353, X353, e353, st353⟩ := getS2 X350 hx hZ hown (host := "") (Or.inl (W 10 rfl)) Via.refl e350 (G4.ext O341.2) (g := (mkF m 231 #[iv p0, iv p1, iv p2, iv p3, iv (p0 &&& (3 : Int32)), iv mv, rv r_105, rv r_108, rv r_111, rv r_114, rv r_117, rv b120, iv (1 : Int32), iv (1 : Int32), iv (0 : Int32), .unset, .unset, .unset] [])) rfl (hb hby at_231)
          have pre354 : ∀ t, Steps p.tables e below (T353.setTop (mkF m 234 #[iv p0, iv p1, iv p2, iv p3, iv (p0 &&& (3 : Int32)), iv mv, rv r_105, rv r_108, rv r_111, rv r_114, rv r_117, rv b120, iv (1 : Int32), iv (1 : Int32), iv (0 : Int32), .unset, .unset, .unset] [(.ref a_FALSE)])) t → Steps p.tables e below (s₁.setTop (entryFrame m #[(.int p0), (.int p1), (.int p2), (.int p3)] maxLocals)) t := fun t kt => pre352 _ (st353 _ kt)
          have pre355 : ∀ t, Steps p.tables e below (T353.setTop (mkF m 258 #[iv p0, iv p1, iv p2, iv p3, iv (p0 &&& (3 : Int32)), iv mv, rv r_105, rv r_108, rv r_111, rv r_114, rv r_117, rv b120, iv (1 : Int32), iv (1 : Int32), iv (0 : Int32), rv a_FALSE, .unset, .unset] [])) t → Steps p.tables e below (s₁.setTop (entryFrame m #[(.int p0), (.int p1), (.int p2), (.int p3)] maxLocals)) t := fun t kt => by
            refine pre354 _ ?_
            show Steps p.tables e below (T353.setTop (mkF m 234 #[iv p0, iv p1, iv p2, iv p3, iv (p0 &&& (3 : Int32)), iv mv, rv r_105, rv r_108, rv r_111, rv r_114, rv r_117, rv b120, iv (1 : Int32), iv (1 : Int32), iv (0 : Int32), .unset, .unset, .unset] [(.ref a_FALSE)])) _
            refine XS.goto X353.here hx rfl (pc0 := 234) (pc' := 251) rfl (hb hby at_234) (by decide) (by decide) ?_
            refine XS.astore X353.here hx rfl (hb hby at_251) rfl rfl (l' := #[iv p0, iv p1, iv p2, iv p3, iv (p0 &&& (3 : Int32)), iv mv, rv r_105, rv r_108, rv r_111, rv r_114, rv r_117, rv b120, iv (1 : Int32), iv (1 : Int32), iv (0 : Int32), rv a_FALSE, .unset, .unset]) rfl ?_
            refine XS.iload X353.here hx rfl (hb hby at_253) rfl ?_
            refine XS.ifNo X353.here hx rfl (hb hby at_255) rfl (XT.i0_le_f (by decide)) ?_
            exact kt
          obtain ⟨T356, X356, e356, st356⟩ := getS2 X353 hx hZ hown (host := "") (Or.inl (W 8 rfl)) Via.refl e353 (G2.ext O341.2) (g := (mkF m 258 #[iv p0, iv p1, iv p2, iv p3, iv (p0 &&& (3 : Int32)), iv mv, rv r_105, rv r_108, rv r_111, rv r_114, rv r_117, rv b120, iv (1 : Int32), iv (1 : Int32), iv (0 : Int32), rv a_FALSE, .unset, .unset] [])) rfl (hb hby at_258)
          have pre357 : ∀ t, Steps p.tables e below (T356.setTop (mkF m 261 #[iv p0, iv p1, iv p2, iv p3, iv (p0 &&& (3 : Int32)), iv mv, rv r_105, rv r_108, rv r_111, rv r_114, rv r_117, rv b120, iv (1 : Int32), iv (1 : Int32), iv (0 : Int32), rv a_FALSE, .unset, .unset] [(.ref a_TRUE)])) t → Steps p.tables e below (s₁.setTop (entryFrame m #[(.int p0), (.int p1), (.int p2), (.int p3)] maxLocals)) t := fun t kt => pre355 _ (st356 _ kt)
          have pre358 : ∀ t, Steps p.tables e below (T356.setTop (mkF m 297 #[iv p0, iv p1, iv p2, iv p3, iv (p0 &&& (3 : Int32)), iv mv, rv r_105, rv r_108, rv r_111, rv r_114, rv r_117, rv b120, iv (1 : Int32), iv (1 : Int32), iv (0 : Int32), rv a_FALSE, rv a_TRUE, .unset] [])) t → Steps p.tables e below (s₁.setTop (entryFrame m #[(.int p0), (.int p1), (.int p2), (.int p3)] maxLocals)) t := fun t kt => by
            refine pre357 _ ?_
            show Steps p.tables e below (T356.setTop (mkF m 261 #[iv p0, iv p1, iv p2, iv p3, iv (p0 &&& (3 : Int32)), iv mv, rv r_105, rv r_108, rv r_111, rv r_114, rv r_117, rv b120, iv (1 : Int32), iv (1 : Int32), iv (0 : Int32), rv a_FALSE, .unset, .unset] [(.ref a_TRUE)])) _
            refine XS.goto X356.here hx rfl (pc0 := 261) (pc' := 278) rfl (hb hby at_261) (by decide) (by decide) ?_
            refine XS.astore X356.here hx rfl (hb hby at_278) rfl rfl (l' := #[iv p0, iv p1, iv p2, iv p3, iv (p0 &&& (3 : Int32)), iv mv, rv r_105, rv r_108, rv r_111, rv r_114, rv r_117, rv b120, iv (1 : Int32), iv (1 : Int32), iv (0 : Int32), rv a_FALSE, rv a_TRUE, .unset]) rfl ?_
            refine XS.iload X356.here hx rfl (hb hby at_280) rfl ?_
            refine XS.ifYes X356.here hx rfl (pc0 := 282) (pc' := 291) rfl (hb hby at_282) rfl (XT.i0_le_t (by decide)) (by decide) (by decide) ?_
            show Steps p.tables e below (T356.setTop (mkF m 291 #[iv p0, iv p1, iv p2, iv p3, iv (p0 &&& (3 : Int32)), iv mv, rv r_105, rv r_108, rv r_111, rv r_114, rv r_117, rv b120, iv (1 : Int32), iv (1 : Int32), iv (0 : Int32), rv a_FALSE, rv a_TRUE, .unset] [])) _
            refine XS.iload X356.here hx rfl (hb hby at_291) rfl ?_
            refine XS.iconst X356.here hx rfl (hb hby at_293) ?_
            refine XS.icmpNo X356.here hx rfl (hb hby at_294) rfl (XT.ii_ne_f (by decide)) ?_
            exact kt
          obtain ⟨T359, X359, e359, st359⟩ := getS2 X356 hx hZ hown (host := "") (Or.inl (W 8 rfl)) Via.refl e356 (G2.ext O341.2) (g := (mkF m 297 #[iv p0, iv p1, iv p2, iv p3, iv (p0 &&& (3 : Int32)), iv mv, rv r_105, rv r_108, rv r_111, rv r_114, rv r_117, rv b120, iv (1 : Int32), iv (1 : Int32), iv (0 : Int32), rv a_FALSE, rv a_TRUE, .unset] [])) rfl (hb hby at_297)
          have pre360 : ∀ t, Steps p.tables e below (T359.setTop (mkF m 300 #[iv p0, iv p1, iv p2, iv p3, iv (p0 &&& (3 : Int32)), iv mv, rv r_105, rv r_108, rv r_111, rv r_114, rv r_117, rv b120, iv (1 : Int32), iv (1 : Int32), iv (0 : Int32), rv a_FALSE, rv a_TRUE, .unset] [(.ref a_TRUE)])) t → Steps p.tables e below (s₁.setTop (entryFrame m #[(.int p0), (.int p1), (.int p2), (.int p3)] maxLocals)) t := fun t kt => pre358 _ (st359 _ kt)
          have pre361 : ∀ t, Steps p.tables e below (T359.setTop (mkF m 310 #[iv p0, iv p1, iv p2, iv p3, iv (p0 &&& (3 : Int32)), iv mv, rv r_105, rv r_108, rv r_111, rv r_114, rv r_117, rv b120, iv (1 : Int32), iv (1 : Int32), iv (0 : Int32), rv a_FALSE, rv a_TRUE, rv a_TRUE] [(.ref b120)])) t → Steps p.tables e below (s₁.setTop (entryFrame m #[(.int p0), (.int p1), (.int p2), (.int p3)] maxLocals)) t := fun t kt => by
            refine pre360 _ ?_
            show Steps p.tables e below (T359.setTop (mkF m 300 #[iv p0, iv p1, iv p2, iv p3, iv (p0 &&& (3 : Int32)), iv mv, rv r_105, rv r_108, rv r_111, rv r_114, rv r_117, rv b120, iv (1 : Int32), iv (1 : Int32), iv (0 : Int32), rv a_FALSE, rv a_TRUE, .unset] [(.ref a_TRUE)])) _
            refine XS.goto X359.here hx rfl (pc0 := 300) (pc' := 306) rfl (hb hby at_300) (by decide) (by decide) ?_
            refine XS.astore X359.here hx rfl (hb hby at_306) rfl rfl (l' := #[iv p0, iv p1, iv p2, iv p3, iv (p0 &&& (3 : Int32)), iv mv, rv r_105, rv r_108, rv r_111, rv r_114, rv r_117, rv b120, iv (1 : Int32), iv (1 : Int32), iv (0 : Int32), rv a_FALSE, rv a_TRUE, rv a_TRUE]) rfl ?_
            refine XS.aload X359.here hx rfl (hb hby at_308) rfl rfl ?_
            exact kt
          obtain ⟨cq362, kq362, q362a, q362b, q362c⟩ := isOf hZ e359 J341_0
          obtain ⟨_, _, ⟨T362, L362, k362, n362⟩, -, X362, ⟨Lc362, hQ362, l362, y362, z362⟩, st362⟩ := X359.virtualBack hx (y := (⟨"com/example/contexture/contexture/engine/evaluation/TruthValue$Tally", "and", "()Lcom/example/contexture/contexture/engine/evaluation/TruthValue;"⟩ : MethodName)) (z := (⟨"com/example/contexture/contexture/engine/evaluation/TruthValue$Tally", "and", "()Lcom/example/contexture/contexture/engine/evaluation/TruthValue;"⟩ : MethodName)) hown (mvT hZ (W 46 rfl)) (mvT hZ (W 47 rfl)) (notFace_of_selects (args := #[]) (mvT hZ (W 49 rfl))) (mvT hZ (W 49 rfl)) (mvT hZ (W 48 rfl)) (by decide) (backOf (W := 0) (rm_and7_1 l Z a0 hw [] b120 a_FALSE h341 n0 O341 G4 J341_2) hZ (W 50 rfl) (W 14 rfl) (by decide) (by decide)) q362a q362c (g := (mkF m 310 #[iv p0, iv p1, iv p2, iv p3, iv (p0 &&& (3 : Int32)), iv mv, rv r_105, rv r_108, rv r_111, rv r_114, rv r_117, rv b120, iv (1 : Int32), iv (1 : Int32), iv (0 : Int32), rv a_FALSE, rv a_TRUE, rv a_TRUE] [(.ref b120)])) rfl (by rw [hml]; rfl) (Steps.refl _) (argsL := []) (rest := []) (lenOf pd_16 rfl) rfl (by show 2 * 0 + _ ≤ _; exact Nat.le_of_eq rfl) (hb hby at_310) (fun _ _ => ⟨rfl, e359, (by decide : 1 + 0 ≤ _), (by decide : 3 + 0 ≤ _)⟩)
          dsimp only [Pt.U, Pt.locs, Pt.cells, Pt.slots] at X362 l362 y362 z362 st362 hQ362
          replace l362 := l362.symm
          replace y362 : 1 = k362 := y362.symm
          replace z362 : 3 = n362 := z362.symm
          subst l362 y362 z362
          obtain ⟨rfl, M362, e362⟩ := hQ362
          have N362 := Fr.app N341 M362
          have pre384 : ∀ t, Steps p.tables e below (T362.setTop (mkF m 313 #[iv p0, iv p1, iv p2, iv p3, iv (p0 &&& (3 : Int32)), iv mv, rv r_105, rv r_108, rv r_111, rv r_114, rv r_117, rv b120, iv (1 : Int32), iv (1 : Int32), iv (0 : Int32), rv a_FALSE, rv a_TRUE, rv a_TRUE] [(.ref a_FALSE)])) t → Steps p.tables e below (s₁.setTop (entryFrame m #[(.int p0), (.int p1), (.int p2), (.int p3)] maxLocals)) t := fun t kt => pre361 _ (st362.trans kt)
          have pre385 : ∀ t, Steps p.tables e below (T362.setTop (mkF m 320 #[iv p0, iv p1, iv p2, iv p3, iv (p0 &&& (3 : Int32)), iv mv, rv r_105, rv r_108, rv r_111, rv r_114, rv r_117, rv b120, iv (1 : Int32), iv (1 : Int32), iv (0 : Int32), rv a_FALSE, rv a_TRUE, rv a_TRUE] [(.ref b120)])) t → Steps p.tables e below (s₁.setTop (entryFrame m #[(.int p0), (.int p1), (.int p2), (.int p3)] maxLocals)) t := fun t kt => by
            refine pre384 _ ?_
            show Steps p.tables e below (T362.setTop (mkF m 313 #[iv p0, iv p1, iv p2, iv p3, iv (p0 &&& (3 : Int32)), iv mv, rv r_105, rv r_108, rv r_111, rv r_114, rv r_117, rv b120, iv (1 : Int32), iv (1 : Int32), iv (0 : Int32), rv a_FALSE, rv a_TRUE, rv a_TRUE] [(.ref a_FALSE)])) _
            refine XS.aload X362.here hx rfl (hb hby at_313) rfl rfl ?_
            refine Jvm.RoadKit.acmp (g := (mkF m 315 #[iv p0, iv p1, iv p2, iv p3, iv (p0 &&& (3 : Int32)), iv mv, rv r_105, rv r_108, rv r_111, rv r_114, rv r_117, rv b120, iv (1 : Int32), iv (1 : Int32), iv (0 : Int32), rv a_FALSE, rv a_TRUE, rv a_TRUE] [(.ref a_FALSE), (.ref a_FALSE)])) X362 hx rfl rfl rfl (pc0 := 315) (pc' := 318) (same := true) rfl (hb hby at_315) rfl (decide_eq_true rfl) (by decide) (by decide) ?_
            refine XS.aload X362.here hx rfl (hb hby at_318) rfl rfl ?_
            exact kt
          obtain ⟨cq386, kq386, q386a, q386b, q386c⟩ := isOf hZ e362 J341_0
          obtain ⟨_, _, ⟨T386, L386, k386, n386⟩, -, X386, ⟨Lc386, hQ386, l386, y386, z386⟩, st386⟩ := X362.virtualBack hx (y := (⟨"com/example/contexture/contexture/engine/evaluation/TruthValue$Tally", "or", "()Lcom/example/contexture/contexture/engine/evaluation/TruthValue;"⟩ : MethodName)) (z := (⟨"com/example/contexture/contexture/engine/evaluation/TruthValue$Tally", "or", "()Lcom/example/contexture/contexture/engine/evaluation/TruthValue;"⟩ : MethodName)) hown (mvT hZ (W 52 rfl)) (mvT hZ (W 53 rfl)) (notFace_of_selects (args := #[]) (mvT hZ (W 55 rfl))) (mvT hZ (W 55 rfl)) (mvT hZ (W 54 rfl)) (by decide) (backOf (W := 0) (rm_or8_1 l Z a0 hw [] b120 a_TRUE h341 n0 O341 G2 J341_1) hZ (W 56 rfl) (W 14 rfl) (by decide) (by decide)) q386a q386c (g := (mkF m 320 #[iv p0, iv p1, iv p2, iv p3, iv (p0 &&& (3 : Int32)), iv mv, rv r_105, rv r_108, rv r_111, rv r_114, rv r_117, rv b120, iv (1 : Int32), iv (1 : Int32), iv (0 : Int32), rv a_FALSE, rv a_TRUE, rv a_TRUE] [(.ref b120)])) rfl (by rw [hml]; rfl) (Steps.refl _) (argsL := []) (rest := []) (lenOf pd_16 rfl) rfl (by show 2 * 0 + _ ≤ _; exact Nat.le_of_eq rfl) (hb hby at_320) (fun _ _ => ⟨rfl, e362, (by decide : 1 + 0 ≤ _), (by decide : 3 + 0 ≤ _)⟩)
          dsimp only [Pt.U, Pt.locs, Pt.cells, Pt.slots] at X386 l386 y386 z386 st386 hQ386
          replace l386 := l386.symm
          replace y386 : 1 = k386 := y386.symm
          replace z386 : 3 = n386 := z386.symm
          subst l386 y386 z386
          obtain ⟨rfl, M386, e386⟩ := hQ386
          have N386 := Fr.app N362 M386
          have pre408 : ∀ t, Steps p.tables e below (T386.setTop (mkF m 323 #[iv p0, iv p1, iv p2, iv p3, iv (p0 &&& (3 : Int32)), iv mv, rv r_105, rv r_108, rv r_111, rv r_114, rv r_117, rv b120, iv (1 : Int32), iv (1 : Int32), iv (0 : Int32), rv a_FALSE, rv a_TRUE, rv a_TRUE] [(.ref a_TRUE)])) t → Steps p.tables e below (s₁.setTop (entryFrame m #[(.int p0), (.int p1), (.int p2), (.int p3)] maxLocals)) t := fun t kt => pre385 _ (st386.trans kt)
          have pre409 : ∀ t, Steps p.tables e below (T386.setTop (mkF m 330 #[iv p0, iv p1, iv p2, iv p3, iv (p0 &&& (3 : Int32)), iv mv, rv r_105, rv r_108, rv r_111, rv r_114, rv r_117, rv b120, iv (1 : Int32), iv (1 : Int32), iv (0 : Int32), rv a_FALSE, rv a_TRUE, rv a_TRUE] [(.ref b120)])) t → Steps p.tables e below (s₁.setTop (entryFrame m #[(.int p0), (.int p1), (.int p2), (.int p3)] maxLocals)) t := fun t kt => by
            refine pre408 _ ?_
            show Steps p.tables e below (T386.setTop (mkF m 323 #[iv p0, iv p1, iv p2, iv p3, iv (p0 &&& (3 : Int32)), iv mv, rv r_105, rv r_108, rv r_111, rv r_114, rv r_117, rv b120, iv (1 : Int32), iv (1 : Int32), iv (0 : Int32), rv a_FALSE, rv a_TRUE, rv a_TRUE] [(.ref a_TRUE)])) _
            refine XS.aload X386.here hx rfl (hb hby at_323) rfl rfl ?_
            refine Jvm.RoadKit.acmp (g := (mkF m 325 #[iv p0, iv p1, iv p2, iv p3, iv (p0 &&& (3 : Int32)), iv mv, rv r_105, rv r_108, rv r_111, rv r_114, rv r_117, rv b120, iv (1 : Int32), iv (1 : Int32), iv (0 : Int32), rv a_FALSE, rv a_TRUE, rv a_TRUE] [(.ref a_TRUE), (.ref a_TRUE)])) X386 hx rfl rfl rfl (pc0 := 325) (pc' := 328) (same := true) rfl (hb hby at_325) rfl (decide_eq_true rfl) (by decide) (by decide) ?_
            refine XS.aload X386.here hx rfl (hb hby at_328) rfl rfl ?_
            exact kt
          obtain ⟨cq410, kq410, q410a, q410b, q410c⟩ := isOf hZ e386 J341_0
          obtain ⟨_, _, ⟨T410, L410, k410, n410⟩, -, X410, ⟨Lc410, hQ410, l410, y410, z410⟩, st410⟩ := X386.virtualBack hx (y := (⟨"com/example/contexture/contexture/engine/evaluation/TruthValue$Tally", "xor", "()Lcom/example/contexture/contexture/engine/evaluation/TruthValue;"⟩ : MethodName)) (z := (⟨"com/example/contexture/contexture/engine/evaluation/TruthValue$Tally", "xor", "()Lcom/example/contexture/contexture/engine/evaluation/TruthValue;"⟩ : MethodName)) hown (mvT hZ (W 58 rfl)) (mvT hZ (W 59 rfl)) (notFace_of_selects (args := #[]) (mvT hZ (W 61 rfl))) (mvT hZ (W 61 rfl)) (mvT hZ (W 60 rfl)) (by decide) (backOf (W := 0) (rm_xor9_1 l Z a0 hw [] b120 a_TRUE h341 n0 O341 G2 J341_0 J341_1 J341_3) hZ (W 62 rfl) (W 14 rfl) (by decide) (by decide)) q410a q410c (g := (mkF m 330 #[iv p0, iv p1, iv p2, iv p3, iv (p0 &&& (3 : Int32)), iv mv, rv r_105, rv r_108, rv r_111, rv r_114, rv r_117, rv b120, iv (1 : Int32), iv (1 : Int32), iv (0 : Int32), rv a_FALSE, rv a_TRUE, rv a_TRUE] [(.ref b120)])) rfl (by rw [hml]; rfl) (Steps.refl _) (argsL := []) (rest := []) (lenOf pd_16 rfl) rfl (by show 2 * 0 + _ ≤ _; exact Nat.le_of_eq rfl) (hb hby at_330) (fun _ _ => ⟨rfl, e386, (by decide : 1 + 0 ≤ _), (by decide : 3 + 0 ≤ _)⟩)
          dsimp only [Pt.U, Pt.locs, Pt.cells, Pt.slots] at X410 l410 y410 z410 st410 hQ410
          replace l410 := l410.symm
          replace y410 : 1 = k410 := y410.symm
          replace z410 : 3 = n410 := z410.symm
          subst l410 y410 z410
          obtain ⟨rfl, M410, e410⟩ := hQ410
          have N410 := Fr.app N386 M410
          have pre447 : ∀ t, Steps p.tables e below (T410.setTop (mkF m 333 #[iv p0, iv p1, iv p2, iv p3, iv (p0 &&& (3 : Int32)), iv mv, rv r_105, rv r_108, rv r_111, rv r_114, rv r_117, rv b120, iv (1 : Int32), iv (1 : Int32), iv (0 : Int32), rv a_FALSE, rv a_TRUE, rv a_TRUE] [(.ref a_TRUE)])) t → Steps p.tables e below (s₁.setTop (entryFrame m #[(.int p0), (.int p1), (.int p2), (.int p3)] maxLocals)) t := fun t kt => pre409 _ (st410.trans kt)
          have pre448 : ∀ t, Steps p.tables e below (T410.setTop (mkF m 343 #[iv p0, iv p1, iv p2, iv p3, iv (p0 &&& (3 : Int32)), iv mv, rv r_105, rv r_108, rv r_111, rv r_114, rv r_117, rv b120, iv (1 : Int32), iv (1 : Int32), iv (0 : Int32), rv a_FALSE, rv a_TRUE, rv a_TRUE] [(.int (1 : Int32))])) t → Steps p.tables e below (s₁.setTop (entryFrame m #[(.int p0), (.int p1), (.int p2), (.int p3)] maxLocals)) t := fun t kt => by
            refine pre447 _ ?_
            show Steps p.tables e below (T410.setTop (mkF m 333 #[iv p0, iv p1, iv p2, iv p3, iv (p0 &&& (3 : Int32)), iv mv, rv r_105, rv r_108, rv r_111, rv r_114, rv r_117, rv b120, iv (1 : Int32), iv (1 : Int32), iv (0 : Int32), rv a_FALSE, rv a_TRUE, rv a_TRUE] [(.ref a_TRUE)])) _
            refine XS.aload X410.here hx rfl (hb hby at_333) rfl rfl ?_
            refine Jvm.RoadKit.acmp (g := (mkF m 335 #[iv p0, iv p1, iv p2, iv p3, iv (p0 &&& (3 : Int32)), iv mv, rv r_105, rv r_108, rv r_111, rv r_114, rv r_117, rv b120, iv (1 : Int32), iv (1 : Int32), iv (0 : Int32), rv a_FALSE, rv a_TRUE, rv a_TRUE] [(.ref a_TRUE), (.ref a_TRUE)])) X410 hx rfl rfl rfl (pc0 := 335) (pc' := 338) (same := true) rfl (hb hby at_335) rfl (decide_eq_true rfl) (by decide) (by decide) ?_
            refine XS.iconst X410.here hx rfl (hb hby at_338) ?_
            refine XS.goto X410.here hx rfl (pc0 := 339) (pc' := 343) rfl (hb hby at_339) (by decide) (by decide) ?_
            exact kt
          obtain ⟨fs, hr, hrun, hended, hW, hsame⟩ := X410.leave (v := some (.int (1 : Int32))) (fun h => by rw [Bd.returns] at h; cases h)
          refine ⟨_, _, pre448 _ (retN X410 hx (t := .boolean) Bd.returns (by simp) (hb hby at_343) hr), hrun, hended, _, _, rfl, ?_, ⟨_, rfl⟩, hW, hsame.mono (by decide) (by decide)⟩
          show Q_law Z p0 p1 p2 p3 a_UNKNOWN a_TRUE a_FALSE h0 n0 _ T410.heap _
          rw [e410]
          exact ⟨rfl, N410⟩
        · have Gr449 : Exa Z Z.heap r_117 "com/example/contexture/contexture/engine/evaluation/TruthValue" := hv219 ▸ G1
          have Gr450 : Fld Z Z.heap r_117 "java/lang/Enum" "ordinal" "I" (.int (2 : Int32)) := hv219 ▸ G8
          obtain ⟨cq451, kq451, q451a, q451b, q451c⟩ := isOf hZ e214 J214_0
          obtain ⟨_, _, ⟨T451, L451, k451, n451⟩, -, X451, ⟨Lc451, hQ451, l451, y451, z451⟩, st451⟩ := X214.virtualBack hx (y := (⟨"com/example/contexture/contexture/engine/evaluation/TruthValue$Tally", "add", "(Lcom/example/contexture/contexture/engine/evaluation/TruthValue;)V"⟩ : MethodName)) (z := (⟨"com/example/contexture/contexture/engine/evaluation/TruthValue$Tally", "add", "(Lcom/example/contexture/contexture/engine/evaluation/TruthValue;)V"⟩ : MethodName)) hown (mvT hZ (W 32 rfl)) (mvT hZ (W 33 rfl)) (notFace_of_selects (args := #[]) (mvT hZ (W 35 rfl))) (mvT hZ (W 35 rfl)) (mvT hZ (W 34 rfl)) (by decide) (backOf (W := 0) (rm_add2 l Z a0 hw [] b120 r_117 (((0 : Int32) + (1 : Int32))) ((0 : Int32)) ((0 : Int32)) h214 n0 O214 Gr449 Gr450 g_b120 J214_0 J214_1 J214_2 J214_3) hZ (W 36 rfl) (W 14 rfl) (by decide) (by decide)) q451a q451c (g := (mkF m 123 #[iv p0, iv p1, iv p2, iv p3, iv (p0 &&& (3 : Int32)), iv mv, rv r_105, rv r_108, rv r_111, rv r_114, rv r_117, rv b120, .unset, .unset, .unset, .unset, .unset, .unset] [(.ref r_117), (.ref b120)])) rfl (by rw [hml]; rfl) (Steps.refl _) (argsL := [(.ref r_117)]) (rest := []) (lenOf pd_12 rfl) rfl (by show 2 * 0 + _ ≤ _; exact Nat.le_of_eq rfl) (hb hby at_123) (fun _ _ => ⟨rfl, e214, (by decide : 1 + 0 ≤ _), (by decide : 3 + 0 ≤ _)⟩)
          dsimp only [Pt.U, Pt.locs, Pt.cells, Pt.slots] at X451 l451 y451 z451 st451 hQ451
          replace l451 := l451.symm
          replace y451 : 1 = k451 := y451.symm
          replace z451 : 3 = n451 := z451.symm
          subst l451 y451 z451
          obtain ⟨rfl, M451, Kc451, O451, J451_0, J451_1, J451_2, J451_3⟩ := hQ451
          obtain ⟨h451, e451⟩ : ∃ z, T451.heap = z := ⟨_, rfl⟩
          rw [e451] at Kc451 O451 J451_0 J451_1 J451_2 J451_3
          have N451 := Fr.app N214 M451
          have K451 : Keep h0 h451 [] := K214.trans Kc451 (own_all1 (Or.inr sz_b120))
          have pre452 : ∀ t, Steps p.tables e below (T451.setTop (mkF m 126 #[iv p0, iv p1, iv p2, iv p3, iv (p0 &&& (3 : Int32)), iv mv, rv r_105, rv r_108, rv r_111, rv r_114, rv r_117, rv b120, .unset, .unset, .unset, .unset, .unset, .unset] [])) t → Steps p.tables e below (s₁.setTop (entryFrame m #[(.int p0), (.int p1), (.int p2), (.int p3)] maxLocals)) t := fun t kt => pre218 _ (st451.trans kt)
          have pre453 : ∀ t, Steps p.tables e below (T451.setTop (mkF m 142 #[iv p0, iv p1, iv p2, iv p3, iv (p0 &&& (3 : Int32)), iv mv, rv r_105, rv r_108, rv r_111, rv r_114, rv r_117, rv b120, iv (0 : Int32), iv (0 : Int32), iv (0 : Int32), .unset, .unset, .unset] [(.ref r_114)])) t → Steps p.tables e below (s₁.setTop (entryFrame m #[(.int p0), (.int p1), (.int p2), (.int p3)] maxLocals)) t := fun t kt => by
            refine pre452 _ ?_
            show Steps p.tables e below (T451.setTop (mkF m 126 #[iv p0, iv p1, iv p2, iv p3, iv (p0 &&& (3 : Int32)), iv mv, rv r_105, rv r_108, rv r_111, rv r_114, rv r_117, rv b120, .unset, .unset, .unset, .unset, .unset, .unset] [])) _
            refine XS.iconst X451.here hx rfl (hb hby at_126) ?_
            refine XS.istore X451.here hx rfl (hb hby at_127) rfl (l' := #[iv p0, iv p1, iv p2, iv p3, iv (p0 &&& (3 : Int32)), iv mv, rv r_105, rv r_108, rv r_111, rv r_114, rv r_117, rv b120, iv (0 : Int32), .unset, .unset, .unset, .unset, .unset]) rfl ?_
            refine XS.iconst X451.here hx rfl (hb hby at_129) ?_
            refine XS.istore X451.here hx rfl (hb hby at_130) rfl (l' := #[iv p0, iv p1, iv p2, iv p3, iv (p0 &&& (3 : Int32)), iv mv, rv r_105, rv r_108, rv r_111, rv r_114, rv r_117, rv b120, iv (0 : Int32), iv (0 : Int32), .unset, .unset, .unset, .unset]) rfl ?_
            show Steps p.tables e below (T451.setTop (mkF m 132 #[iv p0, iv p1, iv p2, iv p3, iv (p0 &&& (3 : Int32)), iv mv, rv r_105, rv r_108, rv r_111, rv r_114, rv r_117, rv b120, iv (0 : Int32), iv (0 : Int32), .unset, .unset, .unset, .unset] [])) _
            refine XS.iconst X451.here hx rfl (hb hby at_132) ?_
            refine XS.istore X451.here hx rfl (hb hby at_133) rfl (l' := #[iv p0, iv p1, iv p2, iv p3, iv (p0 &&& (3 : Int32)), iv mv, rv r_105, rv r_108, rv r_111, rv r_114, rv r_117, rv b120, iv (0 : Int32), iv (0 : Int32), iv (0 : Int32), .unset, .unset, .unset]) rfl ?_
            refine XS.iload X451.here hx rfl (hb hby at_135) rfl ?_
            refine XS.ifNo X451.here hx rfl (hb hby at_137) rfl (XT.i0_le_f hc209) ?_
            show Steps p.tables e below (T451.setTop (mkF m 140 #[iv p0, iv p1, iv p2, iv p3, iv (p0 &&& (3 : Int32)), iv mv, rv r_105, rv r_108, rv r_111, rv r_114, rv r_117, rv b120, iv (0 : Int32), iv (0 : Int32), iv (0 : Int32), .unset, .unset, .unset] [])) _
            refine XS.aload X451.here hx rfl (hb hby at_140) rfl rfl ?_
            exact kt
          obtain ⟨T454, X454, e454, st454⟩ := getS2 X451 hx hZ hown (host := "") (Or.inl (W 8 rfl)) Via.refl e451 (G2.ext O451.2) (g := (mkF m 142 #[iv p0, iv p1, iv p2, iv p3, iv (p0 &&& (3 : Int32)), iv mv, rv r_105, rv r_108, rv r_111, rv r_114, rv r_117, rv b120, iv (0 : Int32), iv (0 : Int32), iv (0 : Int32), .unset, .unset, .unset] [(.ref r_114)])) rfl (hb hby at_142)
          have pre455 : ∀ t, Steps p.tables e below (T454.setTop (mkF m 145 #[iv p0, iv p1, iv p2, iv p3, iv (p0 &&& (3 : Int32)), iv mv, rv r_105, rv r_108, rv r_111, rv r_114, rv r_117, rv b120, iv (0 : Int32), iv (0 : Int32), iv (0 : Int32), .unset, .unset, .unset] [(.ref a_TRUE), (.ref r_114)])) t → Steps p.tables e below (s₁.setTop (entryFrame m #[(.int p0), (.int p1), (.int p2), (.int p3)] maxLocals)) t := fun t kt => pre453 _ (st454 _ kt)
          have pre456 : ∀ t, Steps p.tables e below (T454.setTop (mkF m 188 #[iv p0, iv p1, iv p2, iv p3, iv (p0 &&& (3 : Int32)), iv mv, rv r_105, rv r_108, rv r_111, rv r_114, rv r_117, rv b120, iv (1 : Int32), iv (0 : Int32), iv (0 : Int32), .unset, .unset, .unset] [(.ref r_117)])) t → Steps p.tables e below (s₁.setTop (entryFrame m #[(.int p0), (.int p1), (.int p2), (.int p3)] maxLocals)) t := fun t kt => by
            refine pre455 _ ?_
            show Steps p.tables e below (T454.setTop (mkF m 145 #[iv p0, iv p1, iv p2, iv p3, iv (p0 &&& (3 : Int32)), iv mv, rv r_105, rv r_108, rv r_111, rv r_114, rv r_117, rv b120, iv (0 : Int32), iv (0 : Int32), iv (0 : Int32), .unset, .unset, .unset] [(.ref a_TRUE), (.ref r_114)])) _
            refine Jvm.RoadKit.acmp (g := (mkF m 145 #[iv p0, iv p1, iv p2, iv p3, iv (p0 &&& (3 : Int32)), iv mv, rv r_105, rv r_108, rv r_111, rv r_114, rv r_117, rv b120, iv (0 : Int32), iv (0 : Int32), iv (0 : Int32), .unset, .unset, .unset] [(.ref a_TRUE), (.ref r_114)])) X454 hx rfl rfl rfl (pc0 := 145) (pc' := 148) (same := true) rfl (hb hby at_145) rfl (decide_eq_true (congrArg Value.ref hv211)) (by decide) (by decide) ?_
            refine XS.iload X454.here hx rfl (hb hby at_148) rfl ?_
            refine XS.iconst X454.here hx rfl (hb hby at_150) ?_
            refine XS.iadd X454.here hx rfl (hb hby at_151) rfl ?_
            show  Steps p.tables e below (T454.setTop (mkF m 152 #[iv p0, iv p1, iv p2, iv p3, iv (p0 &&& (3 : Int32)), iv mv, rv r_105, rv r_108, rv r_111, rv r_114, rv r_117, rv b120, iv (0 : Int32), iv (0 : Int32), iv (0 : Int32), .unset, .unset, .unset] [(.int ((0 : Int32) + (1 : Int32)))])) _
            rw [(by decide : (((0 : Int32) + (1 : Int32)) : Int32) = (1 : Int32))]
            show Steps p.tables e below (T454.setTop (mkF m 152 #[iv p0, iv p1, iv p2, iv p3, iv (p0 &&& (3 : Int32)), iv mv, rv r_105, rv r_108, rv r_111, rv r_114, rv r_117, rv b120, iv (0 : Int32), iv (0 : Int32), iv (0 : Int32), .unset, .unset, .unset] [(.int (1 : Int32))])) _
            refine XS.istore X454.here hx rfl (hb hby at_152) rfl (l' := #[iv p0, iv p1, iv p2, iv p3, iv (p0 &&& (3 : Int32)), iv mv, rv r_105, rv r_108, rv r_111, rv r_114, rv r_117, rv b120, iv (1 : Int32), iv (0 : Int32), iv (0 : Int32), .unset, .unset, .unset]) rfl ?_
            refine XS.goto X454.here hx rfl (pc0 := 154) (pc' := 180) rfl (hb hby at_154) (by decide) (by decide) ?_
            refine XS.iload X454.here hx rfl (hb hby at_180) rfl ?_
            refine XS.iconst X454.here hx rfl (hb hby at_182) ?_
            show Steps p.tables e below (T454.setTop (mkF m 183 #[iv p0, iv p1, iv p2, iv p3, iv (p0 &&& (3 : Int32)), iv mv, rv r_105, rv r_108, rv r_111, rv r_114, rv r_117, rv b120, iv (1 : Int32), iv (0 : Int32), iv (0 : Int32), .unset, .unset, .unset] [(.int (1 : Int32)), (.int mv)])) _
            refine XS.icmpNo X454.here hx rfl (hb hby at_183) rfl (XT.ii_le_f hc217) ?_
            refine XS.aload X454.here hx rfl (hb hby at_186) rfl rfl ?_
            exact kt
          obtain ⟨T457, X457, e457, st457⟩ := getS2 X454 hx hZ hown (host := "") (Or.inl (W 8 rfl)) Via.refl e454 (G2.ext O451.2) (g := (mkF m 188 #[iv p0, iv p1, iv p2, iv p3, iv (p0 &&& (3 : Int32)), iv mv, rv r_105, rv r_108, rv r_111, rv r_114, rv r_117, rv b120, iv (1 : Int32), iv (0 : Int32), iv (0 : Int32), .unset, .unset, .unset] [(.ref r_117)])) rfl (hb hby at_188)
          have pre458 : ∀ t, Steps p.tables e below (T457.setTop (mkF m 191 #[iv p0, iv p1, iv p2, iv p3, iv (p0 &&& (3 : Int32)), iv mv, rv r_105, rv r_108, rv r_111, rv r_114, rv r_117, rv b120, iv (1 : Int32), iv (0 : Int32), iv (0 : Int32), .unset, .unset, .unset] [(.ref a_TRUE), (.ref r_117)])) t → Steps p.tables e below (s₁.setTop (entryFrame m #[(.int p0), (.int p1), (.int p2), (.int p3)] maxLocals)) t := fun t kt => pre456 _ (st457 _ kt)
          have pre459 : ∀ t, Steps p.tables e below (T457.setTop (mkF m 205 #[iv p0, iv p1, iv p2, iv p3, iv (p0 &&& (3 : Int32)), iv mv, rv r_105, rv r_108, rv r_111, rv r_114, rv r_117, rv b120, iv (1 : Int32), iv (0 : Int32), iv (0 : Int32), .unset, .unset, .unset] [(.ref r_117)])) t → Steps p.tables e below (s₁.setTop (entryFrame m #[(.int p0), (.int p1), (.int p2), (.int p3)] maxLocals)) t := fun t kt => by
            refine pre458 _ ?_
            show Steps p.tables e below (T457.setTop (mkF m 191 #[iv p0, iv p1, iv p2, iv p3, iv (p0 &&& (3 : Int32)), iv mv, rv r_105, rv r_108, rv r_111, rv r_114, rv r_117, rv b120, iv (1 : Int32), iv (0 : Int32), iv (0 : Int32), .unset, .unset, .unset] [(.ref a_TRUE), (.ref r_117)])) _
            refine Jvm.RoadKit.acmp (g := (mkF m 191 #[iv p0, iv p1, iv p2, iv p3, iv (p0 &&& (3 : Int32)), iv mv, rv r_105, rv r_108, rv r_111, rv r_114, rv r_117, rv b120, iv (1 : Int32), iv (0 : Int32), iv (0 : Int32), .unset, .unset, .unset] [(.ref a_TRUE), (.ref r_117)])) X457 hx rfl rfl rfl (pc0 := 191) (pc' := 203) (same := false) rfl (hb hby at_191) rfl (decide_eq_false fun q => (fun z => (fun q => ne_a_TRUE_a_UNKNOWN q.symm) (hv219.symm.trans z)) (Value.ref.inj q)) (by decide) (by decide) ?_
            refine XS.aload X457.here hx rfl (hb hby at_203) rfl rfl ?_
            exact kt
          obtain ⟨T460, X460, e460, st460⟩ := getS2 X457 hx hZ hown (host := "") (Or.inl (W 10 rfl)) Via.refl e457 (G4.ext O451.2) (g := (mkF m 205 #[iv p0, iv p1, iv p2, iv p3, iv (p0 &&& (3 : Int32)), iv mv, rv r_105, rv r_108, rv r_111, rv r_114, rv r_117, rv b120, iv (1 : Int32), iv (0 : Int32), iv (0 : Int32), .unset, .unset, .unset] [(.ref r_117)])) rfl (hb hby at_205)
          have pre461 : ∀ t, Steps p.tables e below (T460.setTop (mkF m 208 #[iv p0, iv p1, iv p2, iv p3, iv (p0 &&& (3 : Int32)), iv mv, rv r_105, rv r_108, rv r_111, rv r_114, rv r_117, rv b120, iv (1 : Int32), iv (0 : Int32), iv (0 : Int32), .unset, .unset, .unset] [(.ref a_FALSE), (.ref r_117)])) t → Steps p.tables e below (s₁.setTop (entryFrame m #[(.int p0), (.int p1), (.int p2), (.int p3)] maxLocals)) t := fun t kt => pre459 _ (st460 _ kt)
          have pre462 : ∀ t, Steps p.tables e below (T460.setTop (mkF m 242 #[iv p0, iv p1, iv p2, iv p3, iv (p0 &&& (3 : Int32)), iv mv, rv r_105, rv r_108, rv r_111, rv r_114, rv r_117, rv b120, iv (1 : Int32), iv (0 : Int32), iv (1 : Int32), .unset, .unset, .unset] [])) t → Steps p.tables e below (s₁.setTop (entryFrame m #[(.int p0), (.int p1), (.int p2), (.int p3)] maxLocals)) t := fun t kt => by
            refine pre461 _ ?_
            show Steps p.tables e below (T460.setTop (mkF m 208 #[iv p0, iv p1, iv p2, iv p3, iv (p0 &&& (3 : Int32)), iv mv, rv r_105, rv r_108, rv r_111, rv r_114, rv r_117, rv b120, iv (1 : Int32), iv (0 : Int32), iv (0 : Int32), .unset, .unset, .unset] [(.ref a_FALSE), (.ref r_117)])) _
            refine Jvm.RoadKit.acmp (g := (mkF m 208 #[iv p0, iv p1, iv p2, iv p3, iv (p0 &&& (3 : Int32)), iv mv, rv r_105, rv r_108, rv r_111, rv r_114, rv r_117, rv b120, iv (1 : Int32), iv (0 : Int32), iv (0 : Int32), .unset, .unset, .unset] [(.ref a_FALSE), (.ref r_117)])) X460 hx rfl rfl rfl (pc0 := 208) (pc' := 220) (same := false) rfl (hb hby at_208) rfl (decide_eq_false fun q => (fun z => (fun q => ne_a_FALSE_a_UNKNOWN q.symm) (hv219.symm.trans z)) (Value.ref.inj q)) (by decide) (by decide) ?_
            refine XS.iload X460.here hx rfl (hb hby at_220) rfl ?_
            refine XS.iconst X460.here hx rfl (hb hby at_222) ?_
            refine XS.iadd X460.here hx rfl (hb hby at_223) rfl ?_
            show  Steps p.tables e below (T460.setTop (mkF m 224 #[iv p0, iv p1, iv p2, iv p3, iv (p0 &&& (3 : Int32)), iv mv, rv r_105, rv r_108, rv r_111, rv r_114, rv r_117, rv b120, iv (1 : Int32), iv (0 : Int32), iv (0 : Int32), .unset, .unset, .unset] [(.int ((0 : Int32) + (1 : Int32)))])) _
            rw [(by decide : (((0 : Int32) + (1 : Int32)) : Int32) = (1 : Int32))]
            show Steps p.tables e below (T460.setTop (mkF m 224 #[iv p0, iv p1, iv p2, iv p3, iv (p0 &&& (3 : Int32)), iv mv, rv r_105, rv r_108, rv r_111, rv r_114, rv r_117, rv b120, iv (1 : Int32), iv (0 : Int32), iv (0 : Int32), .unset, .unset, .unset] [(.int (1 : Int32))])) _
            refine XS.istore X460.here hx rfl (hb hby at_224) rfl (l' := #[iv p0, iv p1, iv p2, iv p3, iv (p0 &&& (3 : Int32)), iv mv, rv r_105, rv r_108, rv r_111, rv r_114, rv r_117, rv b120, iv (1 : Int32), iv (0 : Int32), iv (1 : Int32), .unset, .unset, .unset]) rfl ?_
            refine XS.iload X460.here hx rfl (hb hby at_226) rfl ?_
            refine XS.ifYes X460.here hx rfl (pc0 := 228) (pc' := 237) rfl (hb hby at_228) rfl (XT.i0_le_t (by decide)) (by decide) (by decide) ?_
            refine XS.iload X460.here hx rfl (hb hby at_237) rfl ?_
            show Steps p.tables e below (T460.setTop (mkF m 239 #[iv p0, iv p1, iv p2, iv p3, iv (p0 &&& (3 : Int32)), iv mv, rv r_105, rv r_108, rv r_111, rv r_114, rv r_117, rv b120, iv (1 : Int32), iv (0 : Int32), iv (1 : Int32), .unset, .unset, .unset] [(.int (1 : Int32))])) _
            refine XS.ifNo X460.here hx rfl (hb hby at_239) rfl (XT.i0_le_f (by decide)) ?_
            exact kt
          obtain ⟨T463, X463, e463, st463⟩ := getS2 X460 hx hZ hown (host := "") (Or.inl (W 5 rfl)) Via.refl e460 (G0.ext O451.2) (g := (mkF m 242 #[iv p0, iv p1, iv p2, iv p3, iv (p0 &&& (3 : Int32)), iv mv, rv r_105, rv r_108, rv r_111, rv r_114, rv r_117, rv b120, iv (1 : Int32), iv (0 : Int32), iv (1 : Int32), .unset, .unset, .unset] [])) rfl (hb hby at_242)
          have pre464 : ∀ t, Steps p.tables e below (T463.setTop (mkF m 245 #[iv p0, iv p1, iv p2, iv p3, iv (p0 &&& (3 : Int32)), iv mv, rv r_105, rv r_108, rv r_111, rv r_114, rv r_117, rv b120, iv (1 : Int32), iv (0 : Int32), iv (1 : Int32), .unset, .unset, .unset] [(.ref a_UNKNOWN)])) t → Steps p.tables e below (s₁.setTop (entryFrame m #[(.int p0), (.int p1), (.int p2), (.int p3)] maxLocals)) t := fun t kt => pre462 _ (st463 _ kt)
          have pre465 : ∀ t, Steps p.tables e below (T463.setTop (mkF m 258 #[iv p0, iv p1, iv p2, iv p3, iv (p0 &&& (3 : Int32)), iv mv, rv r_105, rv r_108, rv r_111, rv r_114, rv r_117, rv b120, iv (1 : Int32), iv (0 : Int32), iv (1 : Int32), rv a_UNKNOWN, .unset, .unset] [])) t → Steps p.tables e below (s₁.setTop (entryFrame m #[(.int p0), (.int p1), (.int p2), (.int p3)] maxLocals)) t := fun t kt => by
            refine pre464 _ ?_
            show Steps p.tables e below (T463.setTop (mkF m 245 #[iv p0, iv p1, iv p2, iv p3, iv (p0 &&& (3 : Int32)), iv mv, rv r_105, rv r_108, rv r_111, rv r_114, rv r_117, rv b120, iv (1 : Int32), iv (0 : Int32), iv (1 : Int32), .unset, .unset, .unset] [(.ref a_UNKNOWN)])) _
            refine XS.goto X463.here hx rfl (pc0 := 245) (pc' := 251) rfl (hb hby at_245) (by decide) (by decide) ?_
            refine XS.astore X463.here hx rfl (hb hby at_251) rfl rfl (l' := #[iv p0, iv p1, iv p2, iv p3, iv (p0 &&& (3 : Int32)), iv mv, rv r_105, rv r_108, rv r_111, rv r_114, rv r_117, rv b120, iv (1 : Int32), iv (0 : Int32), iv (1 : Int32), rv a_UNKNOWN, .unset, .unset]) rfl ?_
            refine XS.iload X463.here hx rfl (hb hby at_253) rfl ?_
            refine XS.ifNo X463.here hx rfl (hb hby at_255) rfl (XT.i0_le_f (by decide)) ?_
            exact kt
          obtain ⟨T466, X466, e466, st466⟩ := getS2 X463 hx hZ hown (host := "") (Or.inl (W 8 rfl)) Via.refl e463 (G2.ext O451.2) (g := (mkF m 258 #[iv p0, iv p1, iv p2, iv p3, iv (p0 &&& (3 : Int32)), iv mv, rv r_105, rv r_108, rv r_111, rv r_114, rv r_117, rv b120, iv (1 : Int32), iv (0 : Int32), iv (1 : Int32), rv a_UNKNOWN, .unset, .unset] [])) rfl (hb hby at_258)
          have pre467 : ∀ t, Steps p.tables e below (T466.setTop (mkF m 261 #[iv p0, iv p1, iv p2, iv p3, iv (p0 &&& (3 : Int32)), iv mv, rv r_105, rv r_108, rv r_111, rv r_114, rv r_117, rv b120, iv (1 : Int32), iv (0 : Int32), iv (1 : Int32), rv a_UNKNOWN, .unset, .unset] [(.ref a_TRUE)])) t → Steps p.tables e below (s₁.setTop (entryFrame m #[(.int p0), (.int p1), (.int p2), (.int p3)] maxLocals)) t := fun t kt => pre465 _ (st466 _ kt)
          have pre468 : ∀ t, Steps p.tables e below (T466.setTop (mkF m 285 #[iv p0, iv p1, iv p2, iv p3, iv (p0 &&& (3 : Int32)), iv mv, rv r_105, rv r_108, rv r_111, rv r_114, rv r_117, rv b120, iv (1 : Int32), iv (0 : Int32), iv (1 : Int32), rv a_UNKNOWN, rv a_TRUE, .unset] [])) t → Steps p.tables e below (s₁.setTop (entryFrame m #[(.int p0), (.int p1), (.int p2), (.int p3)] maxLocals)) t := fun t kt => by
            refine pre467 _ ?_
            show Steps p.tables e below (T466.setTop (mkF m 261 #[iv p0, iv p1, iv p2, iv p3, iv (p0 &&& (3 : Int32)), iv mv, rv r_105, rv r_108, rv r_111, rv r_114, rv r_117, rv b120, iv (1 : Int32), iv (0 : Int32), iv (1 : Int32), rv a_UNKNOWN, .unset, .unset] [(.ref a_TRUE)])) _
            refine XS.goto X466.here hx rfl (pc0 := 261) (pc' := 278) rfl (hb hby at_261) (by decide) (by decide) ?_
            refine XS.astore X466.here hx rfl (hb hby at_278) rfl rfl (l' := #[iv p0, iv p1, iv p2, iv p3, iv (p0 &&& (3 : Int32)), iv mv, rv r_105, rv r_108, rv r_111, rv r_114, rv r_117, rv b120, iv (1 : Int32), iv (0 : Int32), iv (1 : Int32), rv a_UNKNOWN, rv a_TRUE, .unset]) rfl ?_
            refine XS.iload X466.here hx rfl (hb hby at_280) rfl ?_
            refine XS.ifNo X466.here hx rfl (hb hby at_282) rfl (XT.i0_le_f (by decide)) ?_
            exact kt
          obtain ⟨T469, X469, e469, st469⟩ := getS2 X466 hx hZ hown (host := "") (Or.inl (W 5 rfl)) Via.refl e466 (G0.ext O451.2) (g := (mkF m 285 #[iv p0, iv p1, iv p2, iv p3, iv (p0 &&& (3 : Int32)), iv mv, rv r_105, rv r_108, rv r_111, rv r_114, rv r_117, rv b120, iv (1 : Int32), iv (0 : Int32), iv (1 : Int32), rv a_UNKNOWN, rv a_TRUE, .unset] [])) rfl (hb hby at_285)
          have pre470 : ∀ t, Steps p.tables e below (T469.setTop (mkF m 288 #[iv p0, iv p1, iv p2, iv p3, iv (p0 &&& (3 : Int32)), iv mv, rv r_105, rv r_108, rv r_111, rv r_114, rv r_117, rv b120, iv (1 : Int32), iv (0 : Int32), iv (1 : Int32), rv a_UNKNOWN, rv a_TRUE, .unset] [(.ref a_UNKNOWN)])) t → Steps p.tables e below (s₁.setTop (entryFrame m #[(.int p0), (.int p1), (.int p2), (.int p3)] maxLocals)) t := fun t kt => pre468 _ (st469 _ kt)
          have pre471 : ∀ t, Steps p.tables e below (T469.setTop (mkF m 310 #[iv p0, iv p1, iv p2, iv p3, iv (p0 &&& (3 : Int32)), iv mv, rv r_105, rv r_108, rv r_111, rv r_114, rv r_117, rv b120, iv (1 : Int32), iv (0 : Int32), iv (1 : Int32), rv a_UNKNOWN, rv a_TRUE, rv a_UNKNOWN] [(.ref b120)])) t → Steps p.tables e below (s₁.setTop (entryFrame m #[(.int p0), (.int p1), (.int p2), (.int p3)] maxLocals)) t := fun t kt => by
            refine pre470 _ ?_
            show Steps p.tables e below (T469.setTop (mkF m 288 #[iv p0, iv p1, iv p2, iv p3, iv (p0 &&& (3 : Int32)), iv mv, rv r_105, rv r_108, rv r_111, rv r_114, rv r_117, rv b120, iv (1 : Int32), iv (0 : Int32), iv (1 : Int32), rv a_UNKNOWN, rv a_TRUE, .unset] [(.ref a_UNKNOWN)])) _
            refine XS.goto X469.here hx rfl (pc0 := 288) (pc' := 306) rfl (hb hby at_288) (by decide) (by decide) ?_
            refine XS.astore X469.here hx rfl (hb hby at_306) rfl rfl (l' := #[iv p0, iv p1, iv p2, iv p3, iv (p0 &&& (3 : Int32)), iv mv, rv r_105, rv r_108, rv r_111, rv r_114, rv r_117, rv b120, iv (1 : Int32), iv (0 : Int32), iv (1 : Int32), rv a_UNKNOWN, rv a_TRUE, rv a_UNKNOWN]) rfl ?_
            refine XS.aload X469.here hx rfl (hb hby at_308) rfl rfl ?_
            exact kt
          obtain ⟨cq472, kq472, q472a, q472b, q472c⟩ := isOf hZ e469 J451_0
          obtain ⟨_, _, ⟨T472, L472, k472, n472⟩, -, X472, ⟨Lc472, hQ472, l472, y472, z472⟩, st472⟩ := X469.virtualBack hx (y := (⟨"com/example/contexture/contexture/engine/evaluation/TruthValue$Tally", "and", "()Lcom/example/contexture/contexture/engine/evaluation/TruthValue;"⟩ : MethodName)) (z := (⟨"com/example/contexture/contexture/engine/evaluation/TruthValue$Tally", "and", "()Lcom/example/contexture/contexture/engine/evaluation/TruthValue;"⟩ : MethodName)) hown (mvT hZ (W 46 rfl)) (mvT hZ (W 47 rfl)) (notFace_of_selects (args := #[]) (mvT hZ (W 49 rfl))) (mvT hZ (W 49 rfl)) (mvT hZ (W 48 rfl)) (by decide) (backOf (W := 0) (rm_and7_2 l Z a0 hw [] b120 a_UNKNOWN a_TRUE h451 n0 O451 G0 G2 J451_0 J451_2 J451_3) hZ (W 50 rfl) (W 14 rfl) (by decide) (by decide)) q472a q472c (g := (mkF m 310 #[iv p0, iv p1, iv p2, iv p3, iv (p0 &&& (3 : Int32)), iv mv, rv r_105, rv r_108, rv r_111, rv r_114, rv r_117, rv b120, iv (1 : Int32), iv (0 : Int32), iv (1 : Int32), rv a_UNKNOWN, rv a_TRUE, rv a_UNKNOWN] [(.ref b120)])) rfl (by rw [hml]; rfl) (Steps.refl _) (argsL := []) (rest := []) (lenOf pd_16 rfl) rfl (by show 2 * 0 + _ ≤ _; exact Nat.le_of_eq rfl) (hb hby at_310) (fun _ _ => ⟨rfl, e469, (by decide : 1 + 0 ≤ _), (by decide : 3 + 0 ≤ _)⟩)
          dsimp only [Pt.U, Pt.locs, Pt.cells, Pt.slots] at X472 l472 y472 z472 st472 hQ472
          replace l472 := l472.symm
          replace y472 : 1 = k472 := y472.symm
          replace z472 : 3 = n472 := z472.symm
          subst l472 y472 z472
          obtain ⟨rfl, M472, e472⟩ := hQ472
          have N472 := Fr.app N451 M472
          have pre518 : ∀ t, Steps p.tables e below (T472.setTop (mkF m 313 #[iv p0, iv p1, iv p2, iv p3, iv (p0 &&& (3 : Int32)), iv mv, rv r_105, rv r_108, rv r_111, rv r_114, rv r_117, rv b120, iv (1 : Int32), iv (0 : Int32), iv (1 : Int32), rv a_UNKNOWN, rv a_TRUE, rv a_UNKNOWN] [(.ref a_UNKNOWN)])) t → Steps p.tables e below (s₁.setTop (entryFrame m #[(.int p0), (.int p1), (.int p2), (.int p3)] maxLocals)) t := fun t kt => pre471 _ (st472.trans kt)
          have pre519 : ∀ t, Steps p.tables e below (T472.setTop (mkF m 320 #[iv p0, iv p1, iv p2, iv p3, iv (p0 &&& (3 : Int32)), iv mv, rv r_105, rv r_108, rv r_111, rv r_114, rv r_117, rv b120, iv (1 : Int32), iv (0 : Int32), iv (1 : Int32), rv a_UNKNOWN, rv a_TRUE, rv a_UNKNOWN] [(.ref b120)])) t → Steps p.tables e below (s₁.setTop (entryFrame m #[(.int p0), (.int p1), (.int p2), (.int p3)] maxLocals)) t := fun t kt => by
            refine pre518 _ ?_
            show Steps p.tables e below (T472.setTop (mkF m 313 #[iv p0, iv p1, iv p2, iv p3, iv (p0 &&& (3 : Int32)), iv mv, rv r_105, rv r_108, rv r_111, rv r_114, rv r_117, rv b120, iv (1 : Int32), iv (0 : Int32), iv (1 : Int32), rv a_UNKNOWN, rv a_TRUE, rv a_UNKNOWN] [(.ref a_UNKNOWN)])) _
            refine XS.aload X472.here hx rfl (hb hby at_313) rfl rfl ?_
            refine Jvm.RoadKit.acmp (g := (mkF m 315 #[iv p0, iv p1, iv p2, iv p3, iv (p0 &&& (3 : Int32)), iv mv, rv r_105, rv r_108, rv r_111, rv r_114, rv r_117, rv b120, iv (1 : Int32), iv (0 : Int32), iv (1 : Int32), rv a_UNKNOWN, rv a_TRUE, rv a_UNKNOWN] [(.ref a_UNKNOWN), (.ref a_UNKNOWN)])) X472 hx rfl rfl rfl (pc0 := 315) (pc' := 318) (same := true) rfl (hb hby at_315) rfl (decide_eq_true rfl) (by decide) (by decide) ?_
            refine XS.aload X472.here hx rfl (hb hby at_318) rfl rfl ?_
            exact kt
          obtain ⟨cq520, kq520, q520a, q520b, q520c⟩ := isOf hZ e472 J451_0
          obtain ⟨_, _, ⟨T520, L520, k520, n520⟩, -, X520, ⟨Lc520, hQ520, l520, y520, z520⟩, st520⟩ := X472.virtualBack hx (y := (⟨"com/example/contexture/contexture/engine/evaluation/TruthValue$Tally", "or", "()Lcom/example/contexture/contexture/engine/evaluation/TruthValue;"⟩ : MethodName)) (z := (⟨"com/example/contexture/contexture/engine/evaluation/TruthValue$Tally", "or", "()Lcom/example/contexture/contexture/engine/evaluation/TruthValue;"⟩ : MethodName)) hown (mvT hZ (W 52 rfl)) (mvT hZ (W 53 rfl)) (notFace_of_selects (args := #[]) (mvT hZ (W 55 rfl))) (mvT hZ (W 55 rfl)) (mvT hZ (W 54 rfl)) (by decide) (backOf (W := 0) (rm_or8_1 l Z a0 hw [] b120 a_TRUE h451 n0 O451 G2 J451_1) hZ (W 56 rfl) (W 14 rfl) (by decide) (by decide)) q520a q520c (g := (mkF m 320 #[iv p0, iv p1, iv p2, iv p3, iv (p0 &&& (3 : Int32)), iv mv, rv r_105, rv r_108, rv r_111, rv r_114, rv r_117, rv b120, iv (1 : Int32), iv (0 : Int32), iv (1 : Int32), rv a_UNKNOWN, rv a_TRUE, rv a_UNKNOWN] [(.ref b120)])) rfl (by rw [hml]; rfl) (Steps.refl _) (argsL := []) (rest := []) (lenOf pd_16 rfl) rfl (by show 2 * 0 + _ ≤ _; exact Nat.le_of_eq rfl) (hb hby at_320) (fun _ _ => ⟨rfl, e472, (by decide : 1 + 0 ≤ _), (by decide : 3 + 0 ≤ _)⟩)
          dsimp only [Pt.U, Pt.locs, Pt.cells, Pt.slots] at X520 l520 y520 z520 st520 hQ520
          replace l520 := l520.symm
          replace y520 : 1 = k520 := y520.symm
          replace z520 : 3 = n520 := z520.symm
          subst l520 y520 z520
          obtain ⟨rfl, M520, e520⟩ := hQ520
          have N520 := Fr.app N472 M520
          have pre521 : ∀ t, Steps p.tables e below (T520.setTop (mkF m 323 #[iv p0, iv p1, iv p2, iv p3, iv (p0 &&& (3 : Int32)), iv mv, rv r_105, rv r_108, rv r_111, rv r_114, rv r_117, rv b120, iv (1 : Int32), iv (0 : Int32), iv (1 : Int32), rv a_UNKNOWN, rv a_TRUE, rv a_UNKNOWN] [(.ref a_TRUE)])) t → Steps p.tables e below (s₁.setTop (entryFrame m #[(.int p0), (.int p1), (.int p2), (.int p3)] maxLocals)) t := fun t kt => pre519 _ (st520.trans kt)
          have pre522 : ∀ t, Steps p.tables e below (T520.setTop (mkF m 330 #[iv p0, iv p1, iv p2, iv p3, iv (p0 &&& (3 : Int32)), iv mv, rv r_105, rv r_108, rv r_111, rv r_114, rv r_117, rv b120, iv (1 : Int32), iv (0 : Int32), iv (1 : Int32), rv a_UNKNOWN, rv a_TRUE, rv a_UNKNOWN] [(.ref b120)])) t → Steps p.tables e below (s₁.setTop (entryFrame m #[(.int p0), (.int p1), (.int p2), (.int p3)] maxLocals)) t := fun t kt => by
            refine pre521 _ ?_
            show Steps p.tables e below (T520.setTop (mkF m 323 #[iv p0, iv p1, iv p2, iv p3, iv (p0 &&& (3 : Int32)), iv mv, rv r_105, rv r_108, rv r_111, rv r_114, rv r_117, rv b120, iv (1 : Int32), iv (0 : Int32), iv (1 : Int32), rv a_UNKNOWN, rv a_TRUE, rv a_UNKNOWN] [(.ref a_TRUE)])) _
            refine XS.aload X520.here hx rfl (hb hby at_323) rfl rfl ?_
            refine Jvm.RoadKit.acmp (g := (mkF m 325 #[iv p0, iv p1, iv p2, iv p3, iv (p0 &&& (3 : Int32)), iv mv, rv r_105, rv r_108, rv r_111, rv r_114, rv r_117, rv b120, iv (1 : Int32), iv (0 : Int32), iv (1 : Int32), rv a_UNKNOWN, rv a_TRUE, rv a_UNKNOWN] [(.ref a_TRUE), (.ref a_TRUE)])) X520 hx rfl rfl rfl (pc0 := 325) (pc' := 328) (same := true) rfl (hb hby at_325) rfl (decide_eq_true rfl) (by decide) (by decide) ?_
            refine XS.aload X520.here hx rfl (hb hby at_328) rfl rfl ?_
            exact kt
          obtain ⟨cq523, kq523, q523a, q523b, q523c⟩ := isOf hZ e520 J451_0
          obtain ⟨_, _, ⟨T523, L523, k523, n523⟩, -, X523, ⟨Lc523, hQ523, l523, y523, z523⟩, st523⟩ := X520.virtualBack hx (y := (⟨"com/example/contexture/contexture/engine/evaluation/TruthValue$Tally", "xor", "()Lcom/example/contexture/contexture/engine/evaluation/TruthValue;"⟩ : MethodName)) (z := (⟨"com/example/contexture/contexture/engine/evaluation/TruthValue$Tally", "xor", "()Lcom/example/contexture/contexture/engine/evaluation/TruthValue;"⟩ : MethodName)) hown (mvT hZ (W 58 rfl)) (mvT hZ (W 59 rfl)) (notFace_of_selects (args := #[]) (mvT hZ (W 61 rfl))) (mvT hZ (W 61 rfl)) (mvT hZ (W 60 rfl)) (by decide) (backOf (W := 0) (rm_xor9_2 l Z a0 hw [] b120 a_UNKNOWN a_TRUE h451 n0 O451 G0 G2 J451_0 J451_1 J451_3) hZ (W 62 rfl) (W 14 rfl) (by decide) (by decide)) q523a q523c (g := (mkF m 330 #[iv p0, iv p1, iv p2, iv p3, iv (p0 &&& (3 : Int32)), iv mv, rv r_105, rv r_108, rv r_111, rv r_114, rv r_117, rv b120, iv (1 : Int32), iv (0 : Int32), iv (1 : Int32), rv a_UNKNOWN, rv a_TRUE, rv a_UNKNOWN] [(.ref b120)])) rfl (by rw [hml]; rfl) (Steps.refl _) (argsL := []) (rest := []) (lenOf pd_16 rfl) rfl (by show 2 * 0 + _ ≤ _; exact Nat.le_of_eq rfl) (hb hby at_330) (fun _ _ => ⟨rfl, e520, (by decide : 1 + 0 ≤ _), (by decide : 3 + 0 ≤ _)⟩)
          dsimp only [Pt.U, Pt.locs, Pt.cells, Pt.slots] at X523 l523 y523 z523 st523 hQ523
          replace l523 := l523.symm
          replace y523 : 1 = k523 := y523.symm
          replace z523 : 3 = n523 := z523.symm
          subst l523 y523 z523
          obtain ⟨rfl, M523, e523⟩ := hQ523
          have N523 := Fr.app N520 M523
          have pre548 : ∀ t, Steps p.tables e below (T523.setTop (mkF m 333 #[iv p0, iv p1, iv p2, iv p3, iv (p0 &&& (3 : Int32)), iv mv, rv r_105, rv r_108, rv r_111, rv r_114, rv r_117, rv b120, iv (1 : Int32), iv (0 : Int32), iv (1 : Int32), rv a_UNKNOWN, rv a_TRUE, rv a_UNKNOWN] [(.ref a_UNKNOWN)])) t → Steps p.tables e below (s₁.setTop (entryFrame m #[(.int p0), (.int p1), (.int p2), (.int p3)] maxLocals)) t := fun t kt => pre522 _ (st523.trans kt)
          have pre549 : ∀ t, Steps p.tables e below (T523.setTop (mkF m 343 #[iv p0, iv p1, iv p2, iv p3, iv (p0 &&& (3 : Int32)), iv mv, rv r_105, rv r_108, rv r_111, rv r_114, rv r_117, rv b120, iv (1 : Int32), iv (0 : Int32), iv (1 : Int32), rv a_UNKNOWN, rv a_TRUE, rv a_UNKNOWN] [(.int (1 : Int32))])) t → Steps p.tables e below (s₁.setTop (entryFrame m #[(.int p0), (.int p1), (.int p2), (.int p3)] maxLocals)) t := fun t kt => by
            refine pre548 _ ?_
            show Steps p.tables e below (T523.setTop (mkF m 333 #[iv p0, iv p1, iv p2, iv p3, iv (p0 &&& (3 : Int32)), iv mv, rv r_105, rv r_108, rv r_111, rv r_114, rv r_117, rv b120, iv (1 : Int32), iv (0 : Int32), iv (1 : Int32), rv a_UNKNOWN, rv a_TRUE, rv a_UNKNOWN] [(.ref a_UNKNOWN)])) _
            refine XS.aload X523.here hx rfl (hb hby at_333) rfl rfl ?_
            refine Jvm.RoadKit.acmp (g := (mkF m 335 #[iv p0, iv p1, iv p2, iv p3, iv (p0 &&& (3 : Int32)), iv mv, rv r_105, rv r_108, rv r_111, rv r_114, rv r_117, rv b120, iv (1 : Int32), iv (0 : Int32), iv (1 : Int32), rv a_UNKNOWN, rv a_TRUE, rv a_UNKNOWN] [(.ref a_UNKNOWN), (.ref a_UNKNOWN)])) X523 hx rfl rfl rfl (pc0 := 335) (pc' := 338) (same := true) rfl (hb hby at_335) rfl (decide_eq_true rfl) (by decide) (by decide) ?_
            refine XS.iconst X523.here hx rfl (hb hby at_338) ?_
            refine XS.goto X523.here hx rfl (pc0 := 339) (pc' := 343) rfl (hb hby at_339) (by decide) (by decide) ?_
            exact kt
          obtain ⟨fs, hr, hrun, hended, hW, hsame⟩ := X523.leave (v := some (.int (1 : Int32))) (fun h => by rw [Bd.returns] at h; cases h)
          refine ⟨_, _, pre549 _ (retN X523 hx (t := .boolean) Bd.returns (by simp) (hb hby at_343) hr), hrun, hended, _, _, rfl, ?_, ⟨_, rfl⟩, hW, hsame.mono (by decide) (by decide)⟩
          show Q_law Z p0 p1 p2 p3 a_UNKNOWN a_TRUE a_FALSE h0 n0 _ T523.heap _
          rw [e523]
          exact ⟨rfl, N523⟩
      · have pre550 : ∀ t, Steps p.tables e below (T214.setTop (mkF m 142 #[iv p0, iv p1, iv p2, iv p3, iv (p0 &&& (3 : Int32)), iv mv, rv r_105, rv r_108, rv r_111, rv r_114, rv r_117, rv b120, iv (0 : Int32), iv (0 : Int32), iv (0 : Int32), .unset, .unset, .unset] [(.ref r_114)])) t → Steps p.tables e below (s₁.setTop (entryFrame m #[(.int p0), (.int p1), (.int p2), (.int p3)] maxLocals)) t := fun t kt => by
          refine pre216 _ ?_
          show Steps p.tables e below (T214.setTop (mkF m 116 #[iv p0, iv p1, iv p2, iv p3, iv (p0 &&& (3 : Int32)), iv mv, rv r_105, rv r_108, rv r_111, rv r_114, rv r_117, rv b120, .unset, .unset, .unset, .unset, .unset, .unset] [(.int (1 : Int32)), (.int mv)])) _
          refine XS.icmpYes X214.here hx rfl (pc0 := 116) (pc' := 126) rfl (hb hby at_116) rfl (XT.ii_le_t hc217) (by decide) (by decide) ?_
          refine XS.iconst X214.here hx rfl (hb hby at_126) ?_
          refine XS.istore X214.here hx rfl (hb hby at_127) rfl (l' := #[iv p0, iv p1, iv p2, iv p3, iv (p0 &&& (3 : Int32)), iv mv, rv r_105, rv r_108, rv r_111, rv r_114, rv r_117, rv b120, iv (0 : Int32), .unset, .unset, .unset, .unset, .unset]) rfl ?_
          refine XS.iconst X214.here hx rfl (hb hby at_129) ?_
          show Steps p.tables e below (T214.setTop (mkF m 130 #[iv p0, iv p1, iv p2, iv p3, iv (p0 &&& (3 : Int32)), iv mv, rv r_105, rv r_108, rv r_111, rv r_114, rv r_117, rv b120, iv (0 : Int32), .unset, .unset, .unset, .unset, .unset] [(.int (0 : Int32))])) _
          refine XS.istore X214.here hx rfl (hb hby at_130) rfl (l' := #[iv p0, iv p1, iv p2, iv p3, iv (p0 &&& (3 : Int32)), iv mv, rv r_105, rv r_108, rv r_111, rv r_114, rv r_117, rv b120, iv (0 : Int32), iv (0 : Int32), .unset, .unset, .unset, .unset]) rfl ?_
          refine XS.iconst X214.here hx rfl (hb hby at_132) ?_
          refine XS.istore X214.here hx rfl (hb hby at_133) rfl (l' := #[iv p0, iv p1, iv p2, iv p3, iv (p0 &&& (3 : Int32)), iv mv, rv r_105, rv r_108, rv r_111, rv r_114, rv r_117, rv b120, iv (0 : Int32), iv (0 : Int32), iv (0 : Int32), .unset, .unset, .unset]) rfl ?_
          refine XS.iload X214.here hx rfl (hb hby at_135) rfl ?_
          show Steps p.tables e below (T214.setTop (mkF m 137 #[iv p0, iv p1, iv p2, iv p3, iv (p0 &&& (3 : Int32)), iv mv, rv r_105, rv r_108, rv r_111, rv r_114, rv r_117, rv b120, iv (0 : Int32), iv (0 : Int32), iv (0 : Int32), .unset, .unset, .unset] [(.int mv)])) _
          refine XS.ifNo X214.here hx rfl (hb hby at_137) rfl (XT.i0_le_f hc209) ?_
          refine XS.aload X214.here hx rfl (hb hby at_140) rfl rfl ?_
          exact kt
        obtain ⟨T551, X551, e551, st551⟩ := getS2 X214 hx hZ hown (host := "") (Or.inl (W 8 rfl)) Via.refl e214 (G2.ext O214.2) (g := (mkF m 142 #[iv p0, iv p1, iv p2, iv p3, iv (p0 &&& (3 : Int32)), iv mv, rv r_105, rv r_108, rv r_111, rv r_114, rv r_117, rv b120, iv (0 : Int32), iv (0 : Int32), iv (0 : Int32), .unset, .unset, .unset] [(.ref r_114)])) rfl (hb hby at_142)
        have pre552 : ∀ t, Steps p.tables e below (T551.setTop (mkF m 145 #[iv p0, iv p1, iv p2, iv p3, iv (p0 &&& (3 : Int32)), iv mv, rv r_105, rv r_108, rv r_111, rv r_114, rv r_117, rv b120, iv (0 : Int32), iv (0 : Int32), iv (0 : Int32), .unset, .unset, .unset] [(.ref a_TRUE), (.ref r_114)])) t → Steps p.tables e below (s₁.setTop (entryFrame m #[(.int p0), (.int p1), (.int p2), (.int p3)] maxLocals)) t := fun t kt => pre550 _ (st551 _ kt)
        have pre553 : ∀ t, Steps p.tables e below (T551.setTop (mkF m 248 #[iv p0, iv p1, iv p2, iv p3, iv (p0 &&& (3 : Int32)), iv mv, rv r_105, rv r_108, rv r_111, rv r_114, rv r_117, rv b120, iv (1 : Int32), iv (0 : Int32), iv (0 : Int32), .unset, .unset, .unset] [])) t → Steps p.tables e below (s₁.setTop (entryFrame m #[(.int p0), (.int p1), (.int p2), (.int p3)] maxLocals)) t := fun t kt => by
          refine pre552 _ ?_
          show Steps p.tables e below (T551.setTop (mkF m 145 #[iv p0, iv p1, iv p2, iv p3, iv (p0 &&& (3 : Int32)), iv mv, rv r_105, rv r_108, rv r_111, rv r_114, rv r_117, rv b120, iv (0 : Int32), iv (0 : Int32), iv (0 : Int32), .unset, .unset, .unset] [(.ref a_TRUE), (.ref r_114)])) _
          refine Jvm.RoadKit.acmp (g := (mkF m 145 #[iv p0, iv p1, iv p2, iv p3, iv (p0 &&& (3 : Int32)), iv mv, rv r_105, rv r_108, rv r_111, rv r_114, rv r_117, rv b120, iv (0 : Int32), iv (0 : Int32), iv (0 : Int32), .unset, .unset, .unset] [(.ref a_TRUE), (.ref r_114)])) X551 hx rfl rfl rfl (pc0 := 145) (pc' := 148) (same := true) rfl (hb hby at_145) rfl (decide_eq_true (congrArg Value.ref hv211)) (by decide) (by decide) ?_
          refine XS.iload X551.here hx rfl (hb hby at_148) rfl ?_
          refine XS.iconst X551.here hx rfl (hb hby at_150) ?_
          refine XS.iadd X551.here hx rfl (hb hby at_151) rfl ?_
          show  Steps p.tables e below (T551.setTop (mkF m 152 #[iv p0, iv p1, iv p2, iv p3, iv (p0 &&& (3 : Int32)), iv mv, rv r_105, rv r_108, rv r_111, rv r_114, rv r_117, rv b120, iv (0 : Int32), iv (0 : Int32), iv (0 : Int32), .unset, .unset, .unset] [(.int ((0 : Int32) + (1 : Int32)))])) _
          rw [(by decide : (((0 : Int32) + (1 : Int32)) : Int32) = (1 : Int32))]
          show Steps p.tables e below (T551.setTop (mkF m 152 #[iv p0, iv p1, iv p2, iv p3, iv (p0 &&& (3 : Int32)), iv mv, rv r_105, rv r_108, rv r_111, rv r_114, rv r_117, rv b120, iv (0 : Int32), iv (0 : Int32), iv (0 : Int32), .unset, .unset, .unset] [(.int (1 : Int32))])) _
          refine XS.istore X551.here hx rfl (hb hby at_152) rfl (l' := #[iv p0, iv p1, iv p2, iv p3, iv (p0 &&& (3 : Int32)), iv mv, rv r_105, rv r_108, rv r_111, rv r_114, rv r_117, rv b120, iv (1 : Int32), iv (0 : Int32), iv (0 : Int32), .unset, .unset, .unset]) rfl ?_
          refine XS.goto X551.here hx rfl (pc0 := 154) (pc' := 180) rfl (hb hby at_154) (by decide) (by decide) ?_
          refine XS.iload X551.here hx rfl (hb hby at_180) rfl ?_
          refine XS.iconst X551.here hx rfl (hb hby at_182) ?_
          show Steps p.tables e below (T551.setTop (mkF m 183 #[iv p0, iv p1, iv p2, iv p3, iv (p0 &&& (3 : Int32)), iv mv, rv r_105, rv r_108, rv r_111, rv r_114, rv r_117, rv b120, iv (1 : Int32), iv (0 : Int32), iv (0 : Int32), .unset, .unset, .unset] [(.int (1 : Int32)), (.int mv)])) _
          refine XS.icmpYes X551.here hx rfl (pc0 := 183) (pc' := 226) rfl (hb hby at_183) rfl (XT.ii_le_t hc217) (by decide) (by decide) ?_
          refine XS.iload X551.here hx rfl (hb hby at_226) rfl ?_
          refine XS.ifYes X551.here hx rfl (pc0 := 228) (pc' := 237) rfl (hb hby at_228) rfl (XT.i0_le_t (by decide)) (by decide) (by decide) ?_
          refine XS.iload X551.here hx rfl (hb hby at_237) rfl ?_
          show Steps p.tables e below (T551.setTop (mkF m 239 #[iv p0, iv p1, iv p2, iv p3, iv (p0 &&& (3 : Int32)), iv mv, rv r_105, rv r_108, rv r_111, rv r_114, rv r_117, rv b120, iv (1 : Int32), iv (0 : Int32), iv (0 : Int32), .unset, .unset, .unset] [(.int (0 : Int32))])) _
          refine XS.ifYes X551.here hx rfl (pc0 := 239) (pc' := 248) rfl (hb hby at_239) rfl (XT.i0_le_t (by decide)) (by decide) (by decide) ?_
          exact kt
        obtain ⟨T554, X554, e554, st554⟩ := getS2 X551 hx hZ hown (host := "") (Or.inl (W 8 rfl)) Via.refl e551 (G2.ext O214.2) (g := (mkF m 248 #[iv p0, iv p1, iv p2, iv p3, iv (p0 &&& (3 : Int32)), iv mv, rv r_105, rv r_108, rv r_111, rv r_114, rv r_117, rv b120, iv (1 : Int32), iv (0 : Int32), iv (0 : Int32), .unset, .unset, .unset] [])) rfl (hb hby at_248)
        have pre555 : ∀ t, Steps p.tables e below (T554.setTop (mkF m 251 #[iv p0, iv p1, iv p2, iv p3, iv (p0 &&& (3 : Int32)), iv mv, rv r_105, rv r_108, rv r_111, rv r_114, rv r_117, rv b120, iv (1 : Int32), iv (0 : Int32), iv (0 : Int32), .unset, .unset, .unset] [(.ref a_TRUE)])) t → Steps p.tables e below (s₁.setTop (entryFrame m #[(.int p0), (.int p1), (.int p2), (.int p3)] maxLocals)) t := fun t kt => pre553 _ (st554 _ kt)
        have pre556 : ∀ t, Steps p.tables e below (T554.setTop (mkF m 258 #[iv p0, iv p1, iv p2, iv p3, iv (p0 &&& (3 : Int32)), iv mv, rv r_105, rv r_108, rv r_111, rv r_114, rv r_117, rv b120, iv (1 : Int32), iv (0 : Int32), iv (0 : Int32), rv a_TRUE, .unset, .unset] [])) t → Steps p.tables e below (s₁.setTop (entryFrame m #[(.int p0), (.int p1), (.int p2), (.int p3)] maxLocals)) t := fun t kt => by
          refine pre555 _ ?_
          show Steps p.tables e below (T554.setTop (mkF m 251 #[iv p0, iv p1, iv p2, iv p3, iv (p0 &&& (3 : Int32)), iv mv, rv r_105, rv r_108, rv r_111, rv r_114, rv r_117, rv b120, iv (1 : Int32), iv (0 : Int32), iv (0 : Int32), .unset, .unset, .unset] [(.ref a_TRUE)])) _
          refine XS.astore X554.here hx rfl (hb hby at_251) rfl rfl (l' := #[iv p0, iv p1, iv p2, iv p3, iv (p0 &&& (3 : Int32)), iv mv, rv r_105, rv r_108, rv r_111, rv r_114, rv r_117, rv b120, iv (1 : Int32), iv (0 : Int32), iv (0 : Int32), rv a_TRUE, .unset, .unset]) rfl ?_
          refine XS.iload X554.here hx rfl (hb hby at_253) rfl ?_
          refine XS.ifNo X554.here hx rfl (hb hby at_255) rfl (XT.i0_le_f (by decide)) ?_
          exact kt
        obtain ⟨T557, X557, e557, st557⟩ := getS2 X554 hx hZ hown (host := "") (Or.inl (W 8 rfl)) Via.refl e554 (G2.ext O214.2) (g := (mkF m 258 #[iv p0, iv p1, iv p2, iv p3, iv (p0 &&& (3 : Int32)), iv mv, rv r_105, rv r_108, rv r_111, rv r_114, rv r_117, rv b120, iv (1 : Int32), iv (0 : Int32), iv (0 : Int32), rv a_TRUE, .unset, .unset] [])) rfl (hb hby at_258)
        have pre558 : ∀ t, Steps p.tables e below (T557.setTop (mkF m 261 #[iv p0, iv p1, iv p2, iv p3, iv (p0 &&& (3 : Int32)), iv mv, rv r_105, rv r_108, rv r_111, rv r_114, rv r_117, rv b120, iv (1 : Int32), iv (0 : Int32), iv (0 : Int32), rv a_TRUE, .unset, .unset] [(.ref a_TRUE)])) t → Steps p.tables e below (s₁.setTop (entryFrame m #[(.int p0), (.int p1), (.int p2), (.int p3)] maxLocals)) t := fun t kt => pre556 _ (st557 _ kt)
        have pre559 : ∀ t, Steps p.tables e below (T557.setTop (mkF m 297 #[iv p0, iv p1, iv p2, iv p3, iv (p0 &&& (3 : Int32)), iv mv, rv r_105, rv r_108, rv r_111, rv r_114, rv r_117, rv b120, iv (1 : Int32), iv (0 : Int32), iv (0 : Int32), rv a_TRUE, rv a_TRUE, .unset] [])) t → Steps p.tables e below (s₁.setTop (entryFrame m #[(.int p0), (.int p1), (.int p2), (.int p3)] maxLocals)) t := fun t kt => by
          refine pre558 _ ?_
          show Steps p.tables e below (T557.setTop (mkF m 261 #[iv p0, iv p1, iv p2, iv p3, iv (p0 &&& (3 : Int32)), iv mv, rv r_105, rv r_108, rv r_111, rv r_114, rv r_117, rv b120, iv (1 : Int32), iv (0 : Int32), iv (0 : Int32), rv a_TRUE, .unset, .unset] [(.ref a_TRUE)])) _
          refine XS.goto X557.here hx rfl (pc0 := 261) (pc' := 278) rfl (hb hby at_261) (by decide) (by decide) ?_
          refine XS.astore X557.here hx rfl (hb hby at_278) rfl rfl (l' := #[iv p0, iv p1, iv p2, iv p3, iv (p0 &&& (3 : Int32)), iv mv, rv r_105, rv r_108, rv r_111, rv r_114, rv r_117, rv b120, iv (1 : Int32), iv (0 : Int32), iv (0 : Int32), rv a_TRUE, rv a_TRUE, .unset]) rfl ?_
          refine XS.iload X557.here hx rfl (hb hby at_280) rfl ?_
          refine XS.ifYes X557.here hx rfl (pc0 := 282) (pc' := 291) rfl (hb hby at_282) rfl (XT.i0_le_t (by decide)) (by decide) (by decide) ?_
          show Steps p.tables e below (T557.setTop (mkF m 291 #[iv p0, iv p1, iv p2, iv p3, iv (p0 &&& (3 : Int32)), iv mv, rv r_105, rv r_108, rv r_111, rv r_114, rv r_117, rv b120, iv (1 : Int32), iv (0 : Int32), iv (0 : Int32), rv a_TRUE, rv a_TRUE, .unset] [])) _
          refine XS.iload X557.here hx rfl (hb hby at_291) rfl ?_
          refine XS.iconst X557.here hx rfl (hb hby at_293) ?_
          refine XS.icmpNo X557.here hx rfl (hb hby at_294) rfl (XT.ii_ne_f (by decide)) ?_
          exact kt
        obtain ⟨T560, X560, e560, st560⟩ := getS2 X557 hx hZ hown (host := "") (Or.inl (W 8 rfl)) Via.refl e557 (G2.ext O214.2) (g := (mkF m 297 #[iv p0, iv p1, iv p2, iv p3, iv (p0 &&& (3 : Int32)), iv mv, rv r_105, rv r_108, rv r_111, rv r_114, rv r_117, rv b120, iv (1 : Int32), iv (0 : Int32), iv (0 : Int32), rv a_TRUE, rv a_TRUE, .unset] [])) rfl (hb hby at_297)
        have pre561 : ∀ t, Steps p.tables e below (T560.setTop (mkF m 300 #[iv p0, iv p1, iv p2, iv p3, iv (p0 &&& (3 : Int32)), iv mv, rv r_105, rv r_108, rv r_111, rv r_114, rv r_117, rv b120, iv (1 : Int32), iv (0 : Int32), iv (0 : Int32), rv a_TRUE, rv a_TRUE, .unset] [(.ref a_TRUE)])) t → Steps p.tables e below (s₁.setTop (entryFrame m #[(.int p0), (.int p1), (.int p2), (.int p3)] maxLocals)) t := fun t kt => pre559 _ (st560 _ kt)
        have pre562 : ∀ t, Steps p.tables e below (T560.setTop (mkF m 310 #[iv p0, iv p1, iv p2, iv p3, iv (p0 &&& (3 : Int32)), iv mv, rv r_105, rv r_108, rv r_111, rv r_114, rv r_117, rv b120, iv (1 : Int32), iv (0 : Int32), iv (0 : Int32), rv a_TRUE, rv a_TRUE, rv a_TRUE] [(.ref b120)])) t → Steps p.tables e below (s₁.setTop (entryFrame m #[(.int p0), (.int p1), (.int p2), (.int p3)] maxLocals)) t := fun t kt => by
          refine pre561 _ ?_
          show Steps p.tables e below (T560.setTop (mkF m 300 #[iv p0, iv p1, iv p2, iv p3, iv (p0 &&& (3 : Int32)), iv mv, rv r_105, rv r_108, rv r_111, rv r_114, rv r_117, rv b120, iv (1 : Int32), iv (0 : Int32), iv (0 : Int32), rv a_TRUE, rv a_TRUE, .unset] [(.ref a_TRUE)])) _
          refine XS.goto X560.here hx rfl (pc0 := 300) (pc' := 306) rfl (hb hby at_300) (by decide) (by decide) ?_
          refine XS.astore X560.here hx rfl (hb hby at_306) rfl rfl (l' := #[iv p0, iv p1, iv p2, iv p3, iv (p0 &&& (3 : Int32)), iv mv, rv r_105, rv r_108, rv r_111, rv r_114, rv r_117, rv b120, iv (1 : Int32), iv (0 : Int32), iv (0 : Int32), rv a_TRUE, rv a_TRUE, rv a_TRUE]) rfl ?_
          refine XS.aload X560.here hx rfl (hb hby at_308) rfl rfl ?_
          exact kt
        obtain ⟨cq563, kq563, q563a, q563b, q563c⟩ := isOf hZ e560 J214_0
        obtain ⟨_, _, ⟨T563, L563, k563, n563⟩, -, X563, ⟨Lc563, hQ563, l563, y563, z563⟩, st563⟩ := X560.virtualBack hx (y := (⟨"com/example/contexture/contexture/engine/evaluation/TruthValue$Tally", "and", "()Lcom/example/contexture/contexture/engine/evaluation/TruthValue;"⟩ : MethodName)) (z := (⟨"com/example/contexture/contexture/engine/evaluation/TruthValue$Tally", "and", "()Lcom/example/contexture/contexture/engine/evaluation/TruthValue;"⟩ : MethodName)) hown (mvT hZ (W 46 rfl)) (mvT hZ (W 47 rfl)) (notFace_of_selects (args := #[]) (mvT hZ (W 49 rfl))) (mvT hZ (W 49 rfl)) (mvT hZ (W 48 rfl)) (by decide) (backOf (W := 0) (rm_and7_0 l Z a0 hw [] b120 a_TRUE h214 n0 O214 G2 J214_0 J214_2 J214_3) hZ (W 50 rfl) (W 14 rfl) (by decide) (by decide)) q563a q563c (g := (mkF m 310 #[iv p0, iv p1, iv p2, iv p3, iv (p0 &&& (3 : Int32)), iv mv, rv r_105, rv r_108, rv r_111, rv r_114, rv r_117, rv b120, iv (1 : Int32), iv (0 : Int32), iv (0 : Int32), rv a_TRUE, rv a_TRUE, rv a_TRUE] [(.ref b120)])) rfl (by rw [hml]; rfl) (Steps.refl _) (argsL := []) (rest := []) (lenOf pd_16 rfl) rfl (by show 2 * 0 + _ ≤ _; exact Nat.le_of_eq rfl) (hb hby at_310) (fun _ _ => ⟨rfl, e560, (by decide : 1 + 0 ≤ _), (by decide : 3 + 0 ≤ _)⟩)
        dsimp only [Pt.U, Pt.locs, Pt.cells, Pt.slots] at X563 l563 y563 z563 st563 hQ563
        replace l563 := l563.symm
        replace y563 : 1 = k563 := y563.symm
        replace z563 : 3 = n563 := z563.symm
        subst l563 y563 z563
        obtain ⟨rfl, M563, e563⟩ := hQ563
        have N563 := Fr.app N214 M563
        have pre564 : ∀ t, Steps p.tables e below (T563.setTop (mkF m 313 #[iv p0, iv p1, iv p2, iv p3, iv (p0 &&& (3 : Int32)), iv mv, rv r_105, rv r_108, rv r_111, rv r_114, rv r_117, rv b120, iv (1 : Int32), iv (0 : Int32), iv (0 : Int32), rv a_TRUE, rv a_TRUE, rv a_TRUE] [(.ref a_TRUE)])) t → Steps p.tables e below (s₁.setTop (entryFrame m #[(.int p0), (.int p1), (.int p2), (.int p3)] maxLocals)) t := fun t kt => pre562 _ (st563.trans kt)
        have pre565 : ∀ t, Steps p.tables e below (T563.setTop (mkF m 320 #[iv p0, iv p1, iv p2, iv p3, iv (p0 &&& (3 : Int32)), iv mv, rv r_105, rv r_108, rv r_111, rv r_114, rv r_117, rv b120, iv (1 : Int32), iv (0 : Int32), iv (0 : Int32), rv a_TRUE, rv a_TRUE, rv a_TRUE] [(.ref b120)])) t → Steps p.tables e below (s₁.setTop (entryFrame m #[(.int p0), (.int p1), (.int p2), (.int p3)] maxLocals)) t := fun t kt => by
          refine pre564 _ ?_
          show Steps p.tables e below (T563.setTop (mkF m 313 #[iv p0, iv p1, iv p2, iv p3, iv (p0 &&& (3 : Int32)), iv mv, rv r_105, rv r_108, rv r_111, rv r_114, rv r_117, rv b120, iv (1 : Int32), iv (0 : Int32), iv (0 : Int32), rv a_TRUE, rv a_TRUE, rv a_TRUE] [(.ref a_TRUE)])) _
          refine XS.aload X563.here hx rfl (hb hby at_313) rfl rfl ?_
          refine Jvm.RoadKit.acmp (g := (mkF m 315 #[iv p0, iv p1, iv p2, iv p3, iv (p0 &&& (3 : Int32)), iv mv, rv r_105, rv r_108, rv r_111, rv r_114, rv r_117, rv b120, iv (1 : Int32), iv (0 : Int32), iv (0 : Int32), rv a_TRUE, rv a_TRUE, rv a_TRUE] [(.ref a_TRUE), (.ref a_TRUE)])) X563 hx rfl rfl rfl (pc0 := 315) (pc' := 318) (same := true) rfl (hb hby at_315) rfl (decide_eq_true rfl) (by decide) (by decide) ?_
          refine XS.aload X563.here hx rfl (hb hby at_318) rfl rfl ?_
          exact kt
        obtain ⟨cq566, kq566, q566a, q566b, q566c⟩ := isOf hZ e563 J214_0
        obtain ⟨_, _, ⟨T566, L566, k566, n566⟩, -, X566, ⟨Lc566, hQ566, l566, y566, z566⟩, st566⟩ := X563.virtualBack hx (y := (⟨"com/example/contexture/contexture/engine/evaluation/TruthValue$Tally", "or", "()Lcom/example/contexture/contexture/engine/evaluation/TruthValue;"⟩ : MethodName)) (z := (⟨"com/example/contexture/contexture/engine/evaluation/TruthValue$Tally", "or", "()Lcom/example/contexture/contexture/engine/evaluation/TruthValue;"⟩ : MethodName)) hown (mvT hZ (W 52 rfl)) (mvT hZ (W 53 rfl)) (notFace_of_selects (args := #[]) (mvT hZ (W 55 rfl))) (mvT hZ (W 55 rfl)) (mvT hZ (W 54 rfl)) (by decide) (backOf (W := 0) (rm_or8_1 l Z a0 hw [] b120 a_TRUE h214 n0 O214 G2 J214_1) hZ (W 56 rfl) (W 14 rfl) (by decide) (by decide)) q566a q566c (g := (mkF m 320 #[iv p0, iv p1, iv p2, iv p3, iv (p0 &&& (3 : Int32)), iv mv, rv r_105, rv r_108, rv r_111, rv r_114, rv r_117, rv b120, iv (1 : Int32), iv (0 : Int32), iv (0 : Int32), rv a_TRUE, rv a_TRUE, rv a_TRUE] [(.ref b120)])) rfl (by rw [hml]; rfl) (Steps.refl _) (argsL := []) (rest := []) (lenOf pd_16 rfl) rfl (by show 2 * 0 + _ ≤ _; exact Nat.le_of_eq rfl) (hb hby at_320) (fun _ _ => ⟨rfl, e563, (by decide : 1 + 0 ≤ _), (by decide : 3 + 0 ≤ _)⟩)
        dsimp only [Pt.U, Pt.locs, Pt.cells, Pt.slots] at X566 l566 y566 z566 st566 hQ566
        replace l566 := l566.symm
        replace y566 : 1 = k566 := y566.symm
        replace z566 : 3 = n566 := z566.symm
        subst l566 y566 z566
        obtain ⟨rfl, M566, e566⟩ := hQ566
        have N566 := Fr.app N563 M566
        have pre567 : ∀ t, Steps p.tables e below (T566.setTop (mkF m 323 #[iv p0, iv p1, iv p2, iv p3, iv (p0 &&& (3 : Int32)), iv mv, rv r_105, rv r_108, rv r_111, rv r_114, rv r_117, rv b120, iv (1 : Int32), iv (0 : Int32), iv (0 : Int32), rv a_TRUE, rv a_TRUE, rv a_TRUE] [(.ref a_TRUE)])) t → Steps p.tables e below (s₁.setTop (entryFrame m #[(.int p0), (.int p1), (.int p2), (.int p3)] maxLocals)) t := fun t kt => pre565 _ (st566.trans kt)
        have pre568 : ∀ t, Steps p.tables e below (T566.setTop (mkF m 330 #[iv p0, iv p1, iv p2, iv p3, iv (p0 &&& (3 : Int32)), iv mv, rv r_105, rv r_108, rv r_111, rv r_114, rv r_117, rv b120, iv (1 : Int32), iv (0 : Int32), iv (0 : Int32), rv a_TRUE, rv a_TRUE, rv a_TRUE] [(.ref b120)])) t → Steps p.tables e below (s₁.setTop (entryFrame m #[(.int p0), (.int p1), (.int p2), (.int p3)] maxLocals)) t := fun t kt => by
          refine pre567 _ ?_
          show Steps p.tables e below (T566.setTop (mkF m 323 #[iv p0, iv p1, iv p2, iv p3, iv (p0 &&& (3 : Int32)), iv mv, rv r_105, rv r_108, rv r_111, rv r_114, rv r_117, rv b120, iv (1 : Int32), iv (0 : Int32), iv (0 : Int32), rv a_TRUE, rv a_TRUE, rv a_TRUE] [(.ref a_TRUE)])) _
          refine XS.aload X566.here hx rfl (hb hby at_323) rfl rfl ?_
          refine Jvm.RoadKit.acmp (g := (mkF m 325 #[iv p0, iv p1, iv p2, iv p3, iv (p0 &&& (3 : Int32)), iv mv, rv r_105, rv r_108, rv r_111, rv r_114, rv r_117, rv b120, iv (1 : Int32), iv (0 : Int32), iv (0 : Int32), rv a_TRUE, rv a_TRUE, rv a_TRUE] [(.ref a_TRUE), (.ref a_TRUE)])) X566 hx rfl rfl rfl (pc0 := 325) (pc' := 328) (same := true) rfl (hb hby at_325) rfl (decide_eq_true rfl) (by decide) (by decide) ?_
          refine XS.aload X566.here hx rfl (hb hby at_328) rfl rfl ?_
          exact kt
        obtain ⟨cq569, kq569, q569a, q569b, q569c⟩ := isOf hZ e566 J214_0
        obtain ⟨_, _, ⟨T569, L569, k569, n569⟩, -, X569, ⟨Lc569, hQ569, l569, y569, z569⟩, st569⟩ := X566.virtualBack hx (y := (⟨"com/example/contexture/contexture/engine/evaluation/TruthValue$Tally", "xor", "()Lcom/example/contexture/contexture/engine/evaluation/TruthValue;"⟩ : MethodName)) (z := (⟨"com/example/contexture/contexture/engine/evaluation/TruthValue$Tally", "xor", "()Lcom/example/contexture/contexture/engine/evaluation/TruthValue;"⟩ : MethodName)) hown (mvT hZ (W 58 rfl)) (mvT hZ (W 59 rfl)) (notFace_of_selects (args := #[]) (mvT hZ (W 61 rfl))) (mvT hZ (W 61 rfl)) (mvT hZ (W 60 rfl)) (by decide) (backOf (W := 0) (rm_xor9_1 l Z a0 hw [] b120 a_TRUE h214 n0 O214 G2 J214_0 J214_1 J214_3) hZ (W 62 rfl) (W 14 rfl) (by decide) (by decide)) q569a q569c (g := (mkF m 330 #[iv p0, iv p1, iv p2, iv p3, iv (p0 &&& (3 : Int32)), iv mv, rv r_105, rv r_108, rv r_111, rv r_114, rv r_117, rv b120, iv (1 : Int32), iv (0 : Int32), iv (0 : Int32), rv a_TRUE, rv a_TRUE, rv a_TRUE] [(.ref b120)])) rfl (by rw [hml]; rfl) (Steps.refl _) (argsL := []) (rest := []) (lenOf pd_16 rfl) rfl (by show 2 * 0 + _ ≤ _; exact Nat.le_of_eq rfl) (hb hby at_330) (fun _ _ => ⟨rfl, e566, (by decide : 1 + 0 ≤ _), (by decide : 3 + 0 ≤ _)⟩)
        dsimp only [Pt.U, Pt.locs, Pt.cells, Pt.slots] at X569 l569 y569 z569 st569 hQ569
        replace l569 := l569.symm
        replace y569 : 1 = k569 := y569.symm
        replace z569 : 3 = n569 := z569.symm
        subst l569 y569 z569
        obtain ⟨rfl, M569, e569⟩ := hQ569
        have N569 := Fr.app N566 M569
        have pre570 : ∀ t, Steps p.tables e below (T569.setTop (mkF m 333 #[iv p0, iv p1, iv p2, iv p3, iv (p0 &&& (3 : Int32)), iv mv, rv r_105, rv r_108, rv r_111, rv r_114, rv r_117, rv b120, iv (1 : Int32), iv (0 : Int32), iv (0 : Int32), rv a_TRUE, rv a_TRUE, rv a_TRUE] [(.ref a_TRUE)])) t → Steps p.tables e below (s₁.setTop (entryFrame m #[(.int p0), (.int p1), (.int p2), (.int p3)] maxLocals)) t := fun t kt => pre568 _ (st569.trans kt)
        have pre571 : ∀ t, Steps p.tables e below (T569.setTop (mkF m 343 #[iv p0, iv p1, iv p2, iv p3, iv (p0 &&& (3 : Int32)), iv mv, rv r_105, rv r_108, rv r_111, rv r_114, rv r_117, rv b120, iv (1 : Int32), iv (0 : Int32), iv (0 : Int32), rv a_TRUE, rv a_TRUE, rv a_TRUE] [(.int (1 : Int32))])) t → Steps p.tables e below (s₁.setTop (entryFrame m #[(.int p0), (.int p1), (.int p2), (.int p3)] maxLocals)) t := fun t kt => by
          refine pre570 _ ?_
          show Steps p.tables e below (T569.setTop (mkF m 333 #[iv p0, iv p1, iv p2, iv p3, iv (p0 &&& (3 : Int32)), iv mv, rv r_105, rv r_108, rv r_111, rv r_114, rv r_117, rv b120, iv (1 : Int32), iv (0 : Int32), iv (0 : Int32), rv a_TRUE, rv a_TRUE, rv a_TRUE] [(.ref a_TRUE)])) _
          refine XS.aload X569.here hx rfl (hb hby at_333) rfl rfl ?_
          refine Jvm.RoadKit.acmp (g := (mkF m 335 #[iv p0, iv p1, iv p2, iv p3, iv (p0 &&& (3 : Int32)), iv mv, rv r_105, rv r_108, rv r_111, rv r_114, rv r_117, rv b120, iv (1 : Int32), iv (0 : Int32), iv (0 : Int32), rv a_TRUE, rv a_TRUE, rv a_TRUE] [(.ref a_TRUE), (.ref a_TRUE)])) X569 hx rfl rfl rfl (pc0 := 335) (pc' := 338) (same := true) rfl (hb hby at_335) rfl (decide_eq_true rfl) (by decide) (by decide) ?_
          refine XS.iconst X569.here hx rfl (hb hby at_338) ?_
          refine XS.goto X569.here hx rfl (pc0 := 339) (pc' := 343) rfl (hb hby at_339) (by decide) (by decide) ?_
          exact kt
        obtain ⟨fs, hr, hrun, hended, hW, hsame⟩ := X569.leave (v := some (.int (1 : Int32))) (fun h => by rw [Bd.returns] at h; cases h)
        refine ⟨_, _, pre571 _ (retN X569 hx (t := .boolean) Bd.returns (by simp) (hb hby at_343) hr), hrun, hended, _, _, rfl, ?_, ⟨_, rfl⟩, hW, hsame.mono (by decide) (by decide)⟩
        show Q_law Z p0 p1 p2 p3 a_UNKNOWN a_TRUE a_FALSE h0 n0 _ T569.heap _
        rw [e569]
        exact ⟨rfl, N569⟩
    · have Gr572 : Exa Z Z.heap r_114 "com/example/contexture/contexture/engine/evaluation/TruthValue" := hv211 ▸ G5
      have Gr573 : Fld Z Z.heap r_114 "java/lang/Enum" "ordinal" "I" (.int (1 : Int32)) := hv211 ▸ G6
      obtain ⟨cq574, kq574, q574a, q574b, q574c⟩ := isOf hZ e206 J206_0
      obtain ⟨_, _, ⟨T574, L574, k574, n574⟩, -, X574, ⟨Lc574, hQ574, l574, y574, z574⟩, st574⟩ := X206.virtualBack hx (y := (⟨"com/example/contexture/contexture/engine/evaluation/TruthValue$Tally", "add", "(Lcom/example/contexture/contexture/engine/evaluation/TruthValue;)V"⟩ : MethodName)) (z := (⟨"com/example/contexture/contexture/engine/evaluation/TruthValue$Tally", "add", "(Lcom/example/contexture/contexture/engine/evaluation/TruthValue;)V"⟩ : MethodName)) hown (mvT hZ (W 32 rfl)) (mvT hZ (W 33 rfl)) (notFace_of_selects (args := #[]) (mvT hZ (W 35 rfl))) (mvT hZ (W 35 rfl)) (mvT hZ (W 34 rfl)) (by decide) (backOf (W := 0) (rm_add1 l Z a0 hw [] b120 r_114 ((0 : Int32)) ((0 : Int32)) ((0 : Int32)) h206 n0 O206 Gr572 Gr573 g_b120 J206_0 J206_1 J206_2 J206_3) hZ (W 36 rfl) (W 14 rfl) (by decide) (by decide)) q574a q574c (g := (mkF m 110 #[iv p0, iv p1, iv p2, iv p3, iv (p0 &&& (3 : Int32)), iv mv, rv r_105, rv r_108, rv r_111, rv r_114, rv r_117, rv b120, .unset, .unset, .unset, .unset, .unset, .unset] [(.ref r_114), (.ref b120)])) rfl (by rw [hml]; rfl) (Steps.refl _) (argsL := [(.ref r_114)]) (rest := []) (lenOf pd_12 rfl) rfl (by show 2 * 0 + _ ≤ _; exact Nat.le_of_eq rfl) (hb hby at_110) (fun _ _ => ⟨rfl, e206, (by decide : 1 + 0 ≤ _), (by decide : 3 + 0 ≤ _)⟩)
      dsimp only [Pt.U, Pt.locs, Pt.cells, Pt.slots] at X574 l574 y574 z574 st574 hQ574
      replace l574 := l574.symm
      replace y574 : 1 = k574 := y574.symm
      replace z574 : 3 = n574 := z574.symm
      subst l574 y574 z574
      obtain ⟨rfl, M574, Kc574, O574, J574_0, J574_1, J574_2, J574_3⟩ := hQ574
      obtain ⟨h574, e574⟩ : ∃ z, T574.heap = z := ⟨_, rfl⟩
      rw [e574] at Kc574 O574 J574_0 J574_1 J574_2 J574_3
      have N574 := Fr.app N206 M574
      have K574 : Keep h0 h574 [] := K206.trans Kc574 (own_all1 (Or.inr sz_b120))
      have pre575 : ∀ t, Steps p.tables e below (T574.setTop (mkF m 113 #[iv p0, iv p1, iv p2, iv p3, iv (p0 &&& (3 : Int32)), iv mv, rv r_105, rv r_108, rv r_111, rv r_114, rv r_117, rv b120, .unset, .unset, .unset, .unset, .unset, .unset] [])) t → Steps p.tables e below (s₁.setTop (entryFrame m #[(.int p0), (.int p1), (.int p2), (.int p3)] maxLocals)) t := fun t kt => pre210 _ (st574.trans kt)
      have pre576 : ∀ t, Steps p.tables e below (T574.setTop (mkF m 116 #[iv p0, iv p1, iv p2, iv p3, iv (p0 &&& (3 : Int32)), iv mv, rv r_105, rv r_108, rv r_111, rv r_114, rv r_117, rv b120, .unset, .unset, .unset, .unset, .unset, .unset] [(.int (1 : Int32)), (.int mv)])) t → Steps p.tables e below (s₁.setTop (entryFrame m #[(.int p0), (.int p1), (.int p2), (.int p3)] maxLocals)) t := fun t kt => by
        refine pre575 _ ?_
        show Steps p.tables e below (T574.setTop (mkF m 113 #[iv p0, iv p1, iv p2, iv p3, iv (p0 &&& (3 : Int32)), iv mv, rv r_105, rv r_108, rv r_111, rv r_114, rv r_117, rv b120, .unset, .unset, .unset, .unset, .unset, .unset] [])) _
        refine XS.iload X574.here hx rfl (hb hby at_113) rfl ?_
        refine XS.iconst X574.here hx rfl (hb hby at_115) ?_
        exact kt
      by_cases hc577 : (1 : Int32) < mv
      · have pre578 : ∀ t, Steps p.tables e below (T574.setTop (mkF m 123 #[iv p0, iv p1, iv p2, iv p3, iv (p0 &&& (3 : Int32)), iv mv, rv r_105, rv r_108, rv r_111, rv r_114, rv r_117, rv b120, .unset, .unset, .unset, .unset, .unset, .unset] [(.ref r_117), (.ref b120)])) t → Steps p.tables e below (s₁.setTop (entryFrame m #[(.int p0), (.int p1), (.int p2), (.int p3)] maxLocals)) t := fun t kt => by
          refine pre576 _ ?_
          show Steps p.tables e below (T574.setTop (mkF m 116 #[iv p0, iv p1, iv p2, iv p3, iv (p0 &&& (3 : Int32)), iv mv, rv r_105, rv r_108, rv r_111, rv r_114, rv r_117, rv b120, .unset, .unset, .unset, .unset, .unset, .unset] [(.int (1 : Int32)), (.int mv)])) _
          refine XS.icmpNo X574.here hx rfl (hb hby at_116) rfl (XT.ii_le_f hc577) ?_
          refine XS.aload X574.here hx rfl (hb hby at_119) rfl rfl ?_
          refine XS.aload X574.here hx rfl (hb hby at_121) rfl rfl ?_
          exact kt
        rcases P117_0 with hv579 | hv579 | hv579
        · have Gr580 : Exa Z Z.heap r_117 "com/example/contexture/contexture/engine/evaluation/TruthValue" := hv579 ▸ G3
          have Gr581 : Fld Z Z.heap r_117 "java/lang/Enum" "ordinal" "I" (.int (0 : Int32)) := hv579 ▸ G7
          obtain ⟨cq582, kq582, q582a, q582b, q582c⟩ := isOf hZ e574 J574_0
          obtain ⟨_, _, ⟨T582, L582, k582, n582⟩, -, X582, ⟨Lc582, hQ582, l582, y582, z582⟩, st582⟩ := X574.virtualBack hx (y := (⟨"com/example/contexture/contexture/engine/evaluation/TruthValue$Tally", "add", "(Lcom/example/contexture/contexture/engine/evaluation/TruthValue;)V"⟩ : MethodName)) (z := (⟨"com/example/contexture/contexture/engine/evaluation/TruthValue$Tally", "add", "(Lcom/example/contexture/contexture/engine/evaluation/TruthValue;)V"⟩ : MethodName)) hown (mvT hZ (W 32 rfl)) (mvT hZ (W 33 rfl)) (notFace_of_selects (args := #[]) (mvT hZ (W 35 rfl))) (mvT hZ (W 35 rfl)) (mvT hZ (W 34 rfl)) (by decide) (backOf (W := 0) (rm_add0 l Z a0 hw [] b120 r_117 ((0 : Int32)) (((0 : Int32) + (1 : Int32))) ((0 : Int32)) h574 n0 O574 Gr580 Gr581 g_b120 J574_0 J574_1 J574_2 J574_3) hZ (W 36 rfl) (W 14 rfl) (by decide) (by decide)) q582a q582c (g := (mkF m 123 #[iv p0, iv p1, iv p2, iv p3, iv (p0 &&& (3 : Int32)), iv mv, rv r_105, rv r_108, rv r_111, rv r_114, rv r_117, rv b120, .unset, .unset, .unset, .unset, .unset, .unset] [(.ref r_117), (.ref b120)])) rfl (by rw [hml]; rfl) (Steps.refl _) (argsL := [(.ref r_117)]) (rest := []) (lenOf pd_12 rfl) rfl (by show 2 * 0 + _ ≤ _; exact Nat.le_of_eq rfl) (hb hby at_123) (fun _ _ => ⟨rfl, e574, (by decide : 1 + 0 ≤ _), (by decide : 3 + 0 ≤ _)⟩)
          dsimp only [Pt.U, Pt.locs, Pt.cells, Pt.slots] at X582 l582 y582 z582 st582 hQ582
          replace l582 := l582.symm
          replace y582 : 1 = k582 := y582.symm
          replace z582 : 3 = n582 := z582.symm
          subst l582 y582 z582
          obtain ⟨rfl, M582, Kc582, O582, J582_0, J582_1, J582_2, J582_3⟩ := hQ582
          obtain ⟨h582, e582⟩ : ∃ z, T582.heap = z := ⟨_, rfl⟩
          rw [e582] at Kc582 O582 J582_0 J582_1 J582_2 J582_3
          have N582 := Fr.app N574 M582
          have K582 : Keep h0 h582 [] := K574.trans Kc582 (own_all1 (Or.inr sz_b120))
          have pre583 : ∀ t, Steps p.tables e below (T582.setTop (mkF m 126 #[iv p0, iv p1, iv p2, iv p3, iv (p0 &&& (3 : Int32)), iv mv, rv r_105, rv r_108, rv r_111, rv r_114, rv r_117, rv b120, .unset, .unset, .unset, .unset, .unset, .unset] [])) t → Steps p.tables e below (s₁.setTop (entryFrame m #[(.int p0), (.int p1), (.int p2), (.int p3)] maxLocals)) t := fun t kt => pre578 _ (st582.trans kt)
          have pre584 : ∀ t, Steps p.tables e below (T582.setTop (mkF m 142 #[iv p0, iv p1, iv p2, iv p3, iv (p0 &&& (3 : Int32)), iv mv, rv r_105, rv r_108, rv r_111, rv r_114, rv r_117, rv b120, iv (0 : Int32), iv (0 : Int32), iv (0 : Int32), .unset, .unset, .unset] [(.ref r_114)])) t → Steps p.tables e below (s₁.setTop (entryFrame m #[(.int p0), (.int p1), (.int p2), (.int p3)] maxLocals)) t := fun t kt => by
            refine pre583 _ ?_
            show Steps p.tables e below (T582.setTop (mkF m 126 #[iv p0, iv p1, iv p2, iv p3, iv (p0 &&& (3 : Int32)), iv mv, rv r_105, rv r_108, rv r_111, rv r_114, rv r_117, rv b120, .unset, .unset, .unset, .unset, .unset, .unset] [])) _
            refine XS.iconst X582.here hx rfl (hb hby at_126) ?_
            refine XS.istore X582.here hx rfl (hb hby at_127) rfl (l' := #[iv p0, iv p1, iv p2, iv p3, iv (p0 &&& (3 : Int32)), iv mv, rv r_105, rv r_108, rv r_111, rv r_114, rv r_117, rv b120, iv (0 : Int32), .unset, .unset, .unset, .unset, .unset]) rfl ?_
            refine XS.iconst X582.here hx rfl (hb hby at_129) ?_
            refine XS.istore X582.here hx rfl (hb hby at_130) rfl (l' := #[iv p0, iv p1, iv p2, iv p3, iv (p0 &&& (3 : Int32)), iv mv, rv r_105, rv r_108, rv r_111, rv r_114, rv r_117, rv b120, iv (0 : Int32), iv (0 : Int32), .unset, .unset, .unset, .unset]) rfl ?_
            show Steps p.tables e below (T582.setTop (mkF m 132 #[iv p0, iv p1, iv p2, iv p3, iv (p0 &&& (3 : Int32)), iv mv, rv r_105, rv r_108, rv r_111, rv r_114, rv r_117, rv b120, iv (0 : Int32), iv (0 : Int32), .unset, .unset, .unset, .unset] [])) _
            refine XS.iconst X582.here hx rfl (hb hby at_132) ?_
            refine XS.istore X582.here hx rfl (hb hby at_133) rfl (l' := #[iv p0, iv p1, iv p2, iv p3, iv (p0 &&& (3 : Int32)), iv mv, rv r_105, rv r_108, rv r_111, rv r_114, rv r_117, rv b120, iv (0 : Int32), iv (0 : Int32), iv (0 : Int32), .unset, .unset, .unset]) rfl ?_
            refine XS.iload X582.here hx rfl (hb hby at_135) rfl ?_
            refine XS.ifNo X582.here hx rfl (hb hby at_137) rfl (XT.i0_le_f hc209) ?_
            show Steps p.tables e below (T582.setTop (mkF m 140 #[iv p0, iv p1, iv p2, iv p3, iv (p0 &&& (3 : Int32)), iv mv, rv r_105, rv r_108, rv r_111, rv r_114, rv r_117, rv b120, iv (0 : Int32), iv (0 : Int32), iv (0 : Int32), .unset, .unset, .unset] [])) _
            refine XS.aload X582.here hx rfl (hb hby at_140) rfl rfl ?_
            exact kt
          obtain ⟨T585, X585, e585, st585⟩ := getS2 X582 hx hZ hown (host := "") (Or.inl (W 8 rfl)) Via.refl e582 (G2.ext O582.2) (g := (mkF m 142 #[iv p0, iv p1, iv p2, iv p3, iv (p0 &&& (3 : Int32)), iv mv, rv r_105, rv r_108, rv r_111, rv r_114, rv r_117, rv b120, iv (0 : Int32), iv (0 : Int32), iv (0 : Int32), .unset, .unset, .unset] [(.ref r_114)])) rfl (hb hby at_142)
          have pre586 : ∀ t, Steps p.tables e below (T585.setTop (mkF m 145 #[iv p0, iv p1, iv p2, iv p3, iv (p0 &&& (3 : Int32)), iv mv, rv r_105, rv r_108, rv r_111, rv r_114, rv r_117, rv b120, iv (0 : Int32), iv (0 : Int32), iv (0 : Int32), .unset, .unset, .unset] [(.ref a_TRUE), (.ref r_114)])) t → Steps p.tables e below (s₁.setTop (entryFrame m #[(.int p0), (.int p1), (.int p2), (.int p3)] maxLocals)) t := fun t kt => pre584 _ (st585 _ kt)
          have pre587 : ∀ t, Steps p.tables e below (T585.setTop (mkF m 159 #[iv p0, iv p1, iv p2, iv p3, iv (p0 &&& (3 : Int32)), iv mv, rv r_105, rv r_108, rv r_111, rv r_114, rv r_117, rv b120, iv (0 : Int32), iv (0 : Int32), iv (0 : Int32), .unset, .unset, .unset] [(.ref r_114)])) t → Steps p.tables e below (s₁.setTop (entryFrame m #[(.int p0), (.int p1), (.int p2), (.int p3)] maxLocals)) t := fun t kt => by
            refine pre586 _ ?_
            show Steps p.tables e below (T585.setTop (mkF m 145 #[iv p0, iv p1, iv p2, iv p3, iv (p0 &&& (3 : Int32)), iv mv, rv r_105, rv r_108, rv r_111, rv r_114, rv r_117, rv b120, iv (0 : Int32), iv (0 : Int32), iv (0 : Int32), .unset, .unset, .unset] [(.ref a_TRUE), (.ref r_114)])) _
            refine Jvm.RoadKit.acmp (g := (mkF m 145 #[iv p0, iv p1, iv p2, iv p3, iv (p0 &&& (3 : Int32)), iv mv, rv r_105, rv r_108, rv r_111, rv r_114, rv r_117, rv b120, iv (0 : Int32), iv (0 : Int32), iv (0 : Int32), .unset, .unset, .unset] [(.ref a_TRUE), (.ref r_114)])) X585 hx rfl rfl rfl (pc0 := 145) (pc' := 157) (same := false) rfl (hb hby at_145) rfl (decide_eq_false fun q => (fun z => ne_a_FALSE_a_TRUE (hv211.symm.trans z)) (Value.ref.inj q)) (by decide) (by decide) ?_
            refine XS.aload X585.here hx rfl (hb hby at_157) rfl rfl ?_
            exact kt
          obtain ⟨T588, X588, e588, st588⟩ := getS2 X585 hx hZ hown (host := "") (Or.inl (W 10 rfl)) Via.refl e585 (G4.ext O582.2) (g := (mkF m 159 #[iv p0, iv p1, iv p2, iv p3, iv (p0 &&& (3 : Int32)), iv mv, rv r_105, rv r_108, rv r_111, rv r_114, rv r_117, rv b120, iv (0 : Int32), iv (0 : Int32), iv (0 : Int32), .unset, .unset, .unset] [(.ref r_114)])) rfl (hb hby at_159)
          have pre589 : ∀ t, Steps p.tables e below (T588.setTop (mkF m 162 #[iv p0, iv p1, iv p2, iv p3, iv (p0 &&& (3 : Int32)), iv mv, rv r_105, rv r_108, rv r_111, rv r_114, rv r_117, rv b120, iv (0 : Int32), iv (0 : Int32), iv (0 : Int32), .unset, .unset, .unset] [(.ref a_FALSE), (.ref r_114)])) t → Steps p.tables e below (s₁.setTop (entryFrame m #[(.int p0), (.int p1), (.int p2), (.int p3)] maxLocals)) t := fun t kt => pre587 _ (st588 _ kt)
          have pre590 : ∀ t, Steps p.tables e below (T588.setTop (mkF m 188 #[iv p0, iv p1, iv p2, iv p3, iv (p0 &&& (3 : Int32)), iv mv, rv r_105, rv r_108, rv r_111, rv r_114, rv r_117, rv b120, iv (0 : Int32), iv (1 : Int32), iv (0 : Int32), .unset, .unset, .unset] [(.ref r_117)])) t → Steps p.tables e below (s₁.setTop (entryFrame m #[(.int p0), (.int p1), (.int p2), (.int p3)] maxLocals)) t := fun t kt => by
            refine pre589 _ ?_
            show Steps p.tables e below (T588.setTop (mkF m 162 #[iv p0, iv p1, iv p2, iv p3, iv (p0 &&& (3 : Int32)), iv mv, rv r_105, rv r_108, rv r_111, rv r_114, rv r_117, rv b120, iv (0 : Int32), iv (0 : Int32), iv (0 : Int32), .unset, .unset, .unset] [(.ref a_FALSE), (.ref r_114)])) _
            refine Jvm.RoadKit.acmp (g := (mkF m 162 #[iv p0, iv p1, iv p2, iv p3, iv (p0 &&& (3 : Int32)), iv mv, rv r_105, rv r_108, rv r_111, rv r_114, rv r_117, rv b120, iv (0 : Int32), iv (0 : Int32), iv (0 : Int32), .unset, .unset, .unset] [(.ref a_FALSE), (.ref r_114)])) X588 hx rfl rfl rfl (pc0 := 162) (pc' := 165) (same := true) rfl (hb hby at_162) rfl (decide_eq_true (congrArg Value.ref hv211)) (by decide) (by decide) ?_
            refine XS.iload X588.here hx rfl (hb hby at_165) rfl ?_
            refine XS.iconst X588.here hx rfl (hb hby at_167) ?_
            refine XS.iadd X588.here hx rfl (hb hby at_168) rfl ?_
            show  Steps p.tables e below (T588.setTop (mkF m 169 #[iv p0, iv p1, iv p2, iv p3, iv (p0 &&& (3 : Int32)), iv mv, rv r_105, rv r_108, rv r_111, rv r_114, rv r_117, rv b120, iv (0 : Int32), iv (0 : Int32), iv (0 : Int32), .unset, .unset, .unset] [(.int ((0 : Int32) + (1 : Int32)))])) _
            rw [(by decide : (((0 : Int32) + (1 : Int32)) : Int32) = (1 : Int32))]
            show Steps p.tables e below (T588.setTop (mkF m 169 #[iv p0, iv p1, iv p2, iv p3, iv (p0 &&& (3 : Int32)), iv mv, rv r_105, rv r_108, rv r_111, rv r_114, rv r_117, rv b120, iv (0 : Int32), iv (0 : Int32), iv (0 : Int32), .unset, .unset, .unset] [(.int (1 : Int32))])) _
            refine XS.istore X588.here hx rfl (hb hby at_169) rfl (l' := #[iv p0, iv p1, iv p2, iv p3, iv (p0 &&& (3 : Int32)), iv mv, rv r_105, rv r_108, rv r_111, rv r_114, rv r_117, rv b120, iv (0 : Int32), iv (1 : Int32), iv (0 : Int32), .unset, .unset, .unset]) rfl ?_
            refine XS.goto X588.here hx rfl (pc0 := 171) (pc' := 180) rfl (hb hby at_171) (by decide) (by decide) ?_
            refine XS.iload X588.here hx rfl (hb hby at_180) rfl ?_
            refine XS.iconst X588.here hx rfl (hb hby at_182) ?_
            show Steps p.tables e below (T588.setTop (mkF m 183 #[iv p0, iv p1, iv p2, iv p3, iv (p0 &&& (3 : Int32)), iv mv, rv r_105, rv r_108, rv r_111, rv r_114, rv r_117, rv b120, iv (0 : Int32), iv (1 : Int32), iv (0 : Int32), .unset, .unset, .unset] [(.int (1 : Int32)), (.int mv)])) _
            refine XS.icmpNo X588.here hx rfl (hb hby at_183) rfl (XT.ii_le_f hc577) ?_
            refine XS.aload X588.here hx rfl (hb hby at_186) rfl rfl ?_
            exact kt
          obtain ⟨T591, X591, e591, st591⟩ := getS2 X588 hx hZ hown (host := "") (Or.inl (W 8 rfl)) Via.refl e588 (G2.ext O582.2) (g := (mkF m 188 #[iv p0, iv p1, iv p2, iv p3, iv (p0 &&& (3 : Int32)), iv mv, rv r_105, rv r_108, rv r_111, rv r_114, rv r_117, rv b120, iv (0 : Int32), iv (1 : Int32), iv (0 : Int32), .unset, .unset, .unset] [(.ref r_117)])) rfl (hb hby at_188)
          have pre592 : ∀ t, Steps p.tables e below (T591.setTop (mkF m 191 #[iv p0, iv p1, iv p2, iv p3, iv (p0 &&& (3 : Int32)), iv mv, rv r_105, rv r_108, rv r_111, rv r_114, rv r_117, rv b120, iv (0 : Int32), iv (1 : Int32), iv (0 : Int32), .unset, .unset, .unset] [(.ref a_TRUE), (.ref r_117)])) t → Steps p.tables e below (s₁.setTop (entryFrame m #[(.int p0), (.int p1), (.int p2), (.int p3)] maxLocals)) t := fun t kt => pre590 _ (st591 _ kt)
          have pre593 : ∀ t, Steps p.tables e below (T591.setTop (mkF m 231 #[iv p0, iv p1, iv p2, iv p3, iv (p0 &&& (3 : Int32)), iv mv, rv r_105, rv r_108, rv r_111, rv r_114, rv r_117, rv b120, iv (1 : Int32), iv (1 : Int32), iv (0 : Int32), .unset, .unset, .unset] [])) t → Steps p.tables e below (s₁.setTop (entryFrame m #[(.int p0), (.int p1), (.int p2), (.int p3)] maxLocals)) t := fun t kt => by
            refine pre592 _ ?_
            show Steps p.tables e below (T591.setTop (mkF m 191 #[iv p0, iv p1, iv p2, iv p3, iv (p0 &&& (3 : Int32)), iv mv, rv r_105, rv r_108, rv r_111, rv r_114, rv r_117, rv b120, iv (0 : Int32), iv (1 : Int32), iv (0 : Int32), .unset, .unset, .unset] [(.ref a_TRUE), (.ref r_117)])) _
            refine Jvm.RoadKit.acmp (g := (mkF m 191 #[iv p0, iv p1, iv p2, iv p3, iv (p0 &&& (3 : Int32)), iv mv, rv r_105, rv r_108, rv r_111, rv r_114, rv r_117, rv b120, iv (0 : Int32), iv (1 : Int32), iv (0 : Int32), .unset, .unset, .unset] [(.ref a_TRUE), (.ref r_117)])) X591 hx rfl rfl rfl (pc0 := 191) (pc' := 194) (same := true) rfl (hb hby at_191) rfl (decide_eq_true (congrArg Value.ref hv579)) (by decide) (by decide) ?_
            refine XS.iload X591.here hx rfl (hb hby at_194) rfl ?_
            refine XS.iconst X591.here hx rfl (hb hby at_196) ?_
            refine XS.iadd X591.here hx rfl (hb hby at_197) rfl ?_
            show  Steps p.tables e below (T591.setTop (mkF m 198 #[iv p0, iv p1, iv p2, iv p3, iv (p0 &&& (3 : Int32)), iv mv, rv r_105, rv r_108, rv r_111, rv r_114, rv r_117, rv b120, iv (0 : Int32), iv (1 : Int32), iv (0 : Int32), .unset, .unset, .unset] [(.int ((0 : Int32) + (1 : Int32)))])) _
            rw [(by decide : (((0 : Int32) + (1 : Int32)) : Int32) = (1 : Int32))]
            show Steps p.tables e below (T591.setTop (mkF m 198 #[iv p0, iv p1, iv p2, iv p3, iv (p0 &&& (3 : Int32)), iv mv, rv r_105, rv r_108, rv r_111, rv r_114, rv r_117, rv b120, iv (0 : Int32), iv (1 : Int32), iv (0 : Int32), .unset, .unset, .unset] [(.int (1 : Int32))])) _
            refine XS.istore X591.here hx rfl (hb hby at_198) rfl (l' := #[iv p0, iv p1, iv p2, iv p3, iv (p0 &&& (3 : Int32)), iv mv, rv r_105, rv r_108, rv r_111, rv r_114, rv r_117, rv b120, iv (1 : Int32), iv (1 : Int32), iv (0 : Int32), .unset, .unset, .unset]) rfl ?_
            refine XS.goto X591.here hx rfl (pc0 := 200) (pc' := 226) rfl (hb hby at_200) (by decide) (by decide) ?_
            refine XS.iload X591.here hx rfl (hb hby at_226) rfl ?_
            refine XS.ifNo X591.here hx rfl (hb hby at_228) rfl (XT.i0_le_f (by decide)) ?_
            exact kt
          obtain ⟨T594, X594, e594, st594⟩ := getS2 X591 hx hZ hown (host := "") (Or.inl (W 10 rfl)) Via.refl e591 (G4.ext O582.2) (g := (mkF m 231 #[iv p0, iv p1, iv p2, iv p3, iv (p0 &&& (3 : Int32)), iv mv, rv r_105, rv r_108, rv r_111, rv r_114, rv r_117, rv b120, iv (1 : Int32), iv (1 : Int32), iv (0 : Int32), .unset, .unset, .unset] [])) rfl (hb hby at_231)
          have pre595 : ∀ t, Steps p.tables e below (T594.setTop (mkF m 234 #[iv p0, iv p1, iv p2, iv p3, iv (p0 &&& (3 : Int32)), iv mv, rv r_105, rv r_108, rv r_111, rv r_114, rv r_117, rv b120, iv (1 : Int32), iv (1 : Int32), iv (0 : Int32), .unset, .unset, .unset] [(.ref a_FALSE)])) t → Steps p.tables e below (s₁.setTop (entryFrame m #[(.int p0), (.int p1), (.int p2), (.int p3)] maxLocals)) t := fun t kt => pre593 _ (st594 _ kt)
          have pre596 : ∀ t, Steps p.tables e below (T594.setTop (mkF m 258 #[iv p0, iv p1, iv p2, iv p3, iv (p0 &&& (3 : Int32)), iv mv, rv r_105, rv r_108, rv r_111, rv r_114, rv r_117, rv b120, iv (1 : Int32), iv (1 : Int32), iv (0 : Int32), rv a_FALSE, .unset, .unset] [])) t → Steps p.tables e below (s₁.setTop (entryFrame m #[(.int p0), (.int p1), (.int p2), (.int p3)] maxLocals)) t := fun t kt => by
            refine pre595 _ ?_
            show Steps p.tables e below (T594.setTop (mkF m 234 #[iv p0, iv p1, iv p2, iv p3, iv (p0 &&& (3 : Int32)), iv mv, rv r_105, rv r_108, rv r_111, rv r_114, rv r_117, rv b120, iv (1 : Int32), iv (1 : Int32), iv (0 : Int32), .unset, .unset, .unset] [(.ref a_FALSE)])) _
            refine XS.goto X594.here hx rfl (pc0 := 234) (pc' := 251) rfl (hb hby at_234) (by decide) (by decide) ?_
            refine XS.astore X594.here hx rfl (hb hby at_251) rfl rfl (l' := #[iv p0, iv p1, iv p2, iv p3, iv (p0 &&& (3 : Int32)), iv mv, rv r_105, rv r_108, rv r_111, rv r_114, rv r_117, rv b120, iv (1 : Int32), iv (1 : Int32), iv (0 : Int32), rv a_FALSE, .unset, .unset]) rfl ?_
            refine XS.iload X594.here hx rfl (hb hby at_253) rfl ?_
            refine XS.ifNo X594.here hx rfl (hb hby at_255) rfl (XT.i0_le_f (by decide)) ?_
            exact kt
          obtain ⟨T597, X597, e597, st597⟩ := getS2 X594 hx hZ hown (host := "") (Or.inl (W 8 rfl)) Via.refl e594 (G2.ext O582.2) (g := (mkF m 258 #[iv p0, iv p1, iv p2, iv p3, iv (p0 &&& (3 : Int32)), iv mv, rv r_105, rv r_108, rv r_111, rv r_114, rv r_117, rv b120, iv (1 : Int32), iv (1 : Int32), iv (0 : Int32), rv a_FALSE, .unset, .unset] [])) rfl (hb hby at_258)
          have pre598 : ∀ t, Steps p.tables e below (T597.setTop (mkF m 261 #[iv p0, iv p1, iv p2, iv p3, iv (p0 &&& (3 : Int32)), iv mv, rv r_105, rv r_108, rv r_111, rv r_114, rv r_117, rv b120, iv (1 : Int32), iv (1 : Int32), iv (0 : Int32), rv a_FALSE, .unset, .unset] [(.ref a_TRUE)])) t → Steps p.tables e below (s₁.setTop (entryFrame m #[(.int p0), (.int p1), (.int p2), (.int p3)] maxLocals)) t := fun t kt => pre596 _ (st597 _ kt)
          have pre599 : ∀ t, Steps p.tables e below (T597.setTop (mkF m 297 #[iv p0, iv p1, iv p2, iv p3, iv (p0 &&& (3 : Int32)), iv mv, rv r_105, rv r_108, rv r_111, rv r_114, rv r_117, rv b120, iv (1 : Int32), iv (1 : Int32), iv (0 : Int32), rv a_FALSE, rv a_TRUE, .unset] [])) t → Steps p.tables e below (s₁.setTop (entryFrame m #[(.int p0), (.int p1), (.int p2), (.int p3)] maxLocals)) t := fun t kt => by
            refine pre598 _ ?_
            show Steps p.tables e below (T597.setTop (mkF m 261 #[iv p0, iv p1, iv p2, iv p3, iv (p0 &&& (3 : Int32)), iv mv, rv r_105, rv r_108, rv r_111, rv r_114, rv r_117, rv b120, iv (1 : Int32), iv (1 : Int32), iv (0 : Int32), rv a_FALSE, .unset, .unset] [(.ref a_TRUE)])) _
            refine XS.goto X597.here hx rfl (pc0 := 261) (pc' := 278) rfl (hb hby at_261) (by decide) (by decide) ?_
            refine XS.astore X597.here hx rfl (hb hby at_278) rfl rfl (l' := #[iv p0, iv p1, iv p2, iv p3, iv (p0 &&& (3 : Int32)), iv mv, rv r_105, rv r_108, rv r_111, rv r_114, rv r_117, rv b120, iv (1 : Int32), iv (1 : Int32), iv (0 : Int32), rv a_FALSE, rv a_TRUE, .unset]) rfl ?_
            refine XS.iload X597.here hx rfl (hb hby at_280) rfl ?_
            refine XS.ifYes X597.here hx rfl (pc0 := 282) (pc' := 291) rfl (hb hby at_282) rfl (XT.i0_le_t (by decide)) (by decide) (by decide) ?_
            show Steps p.tables e below (T597.setTop (mkF m 291 #[iv p0, iv p1, iv p2, iv p3, iv (p0 &&& (3 : Int32)), iv mv, rv r_105, rv r_108, rv r_111, rv r_114, rv r_117, rv b120, iv (1 : Int32), iv (1 : Int32), iv (0 : Int32), rv a_FALSE, rv a_TRUE, .unset] [])) _
            refine XS.iload X597.here hx rfl (hb hby at_291) rfl ?_
            refine XS.iconst X597.here hx rfl (hb hby at_293) ?_
            refine XS.icmpNo X597.here hx rfl (hb hby at_294) rfl (XT.ii_ne_f (by decide)) ?_
            exact kt
          obtain ⟨T600, X600, e600, st600⟩ := getS2 X597 hx hZ hown (host := "") (Or.inl (W 8 rfl)) Via.refl e597 (G2.ext O582.2) (g := (mkF m 297 #[iv p0, iv p1, iv p2, iv p3, iv (p0 &&& (3 : Int32)), iv mv, rv r_105, rv r_108, rv r_111, rv r_114, rv r_117, rv b120, iv (1 : Int32), iv (1 : Int32), iv (0 : Int32), rv a_FALSE, rv a_TRUE, .unset] [])) rfl (hb hby at_297)
          have pre601 : ∀ t, Steps p.tables e below (T600.setTop (mkF m 300 #[iv p0, iv p1, iv p2, iv p3, iv (p0 &&& (3 : Int32)), iv mv, rv r_105, rv r_108, rv r_111, rv r_114, rv r_117, rv b120, iv (1 : Int32), iv (1 : Int32), iv (0 : Int32), rv a_FALSE, rv a_TRUE, .unset] [(.ref a_TRUE)])) t → Steps p.tables e below (s₁.setTop (entryFrame m #[(.int p0), (.int p1), (.int p2), (.int p3)] maxLocals)) t := fun t kt => pre599 _ (st600 _ kt)
          have pre602 : ∀ t, Steps p.tables e below (T600.setTop (mkF m 310 #[iv p0, iv p1, iv p2, iv p3, iv (p0 &&& (3 : Int32)), iv mv, rv r_105, rv r_108, rv r_111, rv r_114, rv r_117, rv b120, iv (1 : Int32), iv (1 : Int32), iv (0 : Int32), rv a_FALSE, rv a_TRUE, rv a_TRUE] [(.ref b120)])) t → Steps p.tables e below (s₁.setTop (entryFrame m #[(.int p0), (.int p1), (.int p2), (.int p3)] maxLocals)) t := fun t kt => by
            refine pre601 _ ?_
            show Steps p.tables e below (T600.setTop (mkF m 300 #[iv p0, iv p1, iv p2, iv p3, iv (p0 &&& (3 : Int32)), iv mv, rv r_105, rv r_108, rv r_111, rv r_114, rv r_117, rv b120, iv (1 : Int32), iv (1 : Int32), iv (0 : Int32), rv a_FALSE, rv a_TRUE, .unset] [(.ref a_TRUE)])) _
            refine XS.goto X600.here hx rfl (pc0 := 300) (pc' := 306) rfl (hb hby at_300) (by decide) (by decide) ?_
            refine XS.astore X600.here hx rfl (hb hby at_306) rfl rfl (l' := #[iv p0, iv p1, iv p2, iv p3, iv (p0 &&& (3 : Int32)), iv mv, rv r_105, rv r_108, rv r_111, rv r_114, rv r_117, rv b120, iv (1 : Int32), iv (1 : Int32), iv (0 : Int32), rv a_FALSE, rv a_TRUE, rv a_TRUE]) rfl ?_
            refine XS.aload X600.here hx rfl (hb hby at_308) rfl rfl ?_
            exact kt
          obtain ⟨cq603, kq603, q603a, q603b, q603c⟩ := isOf hZ e600 J582_0
          obtain ⟨_, _, ⟨T603, L603, k603, n603⟩, -, X603, ⟨Lc603, hQ603, l603, y603, z603⟩, st603⟩ := X600.virtualBack hx (y := (⟨"com/example/contexture/contexture/engine/evaluation/TruthValue$Tally", "and", "()Lcom/example/contexture/contexture/engine/evaluation/TruthValue;"⟩ : MethodName)) (z := (⟨"com/example/contexture/contexture/engine/evaluation/TruthValue$Tally", "and", "()Lcom/example/contexture/contexture/engine/evaluation/TruthValue;"⟩ : MethodName)) hown (mvT hZ (W 46 rfl)) (mvT hZ (W 47 rfl)) (notFace_of_selects (args := #[]) (mvT hZ (W 49 rfl))) (mvT hZ (W 49 rfl)) (mvT hZ (W 48 rfl)) (by decide) (backOf (W := 0) (rm_and7_1 l Z a0 hw [] b120 a_FALSE h582 n0 O582 G4 J582_2) hZ (W 50 rfl) (W 14 rfl) (by decide) (by decide)) q603a q603c (g := (mkF m 310 #[iv p0, iv p1, iv p2, iv p3, iv (p0 &&& (3 : Int32)), iv mv, rv r_105, rv r_108, rv r_111, rv r_114, rv r_117, rv b120, iv (1 : Int32), iv (1 : Int32), iv (0 : Int32), rv a_FALSE, rv a_TRUE, rv a_TRUE] [(.ref b120)])) rfl (by rw [hml]; rfl) (Steps.refl _) (argsL := []) (rest := []) (lenOf pd_16 rfl) rfl (by show 2 * 0 + _ ≤ _; exact Nat.le_of_eq rfl) (hb hby at_310) (fun _ _ => ⟨rfl, e600, (by decide : 1 + 0 ≤ _), (by decide : 3 + 0 ≤ _)⟩)
          dsimp only [Pt.U, Pt.locs, Pt.cells, Pt.slots] at X603 l603 y603 z603 st603 hQ603
          replace l603 := l603.symm
          replace y603 : 1 = k603 := y603.symm
          replace z603 : 3 = n603 := z603.symm
          subst l603 y603 z603
          obtain ⟨rfl, M603, e603⟩ := hQ603
          have N603 := Fr.app N582 M603
          have pre604 : ∀ t, Steps p.tables e below (T603.setTop (mkF m 313 #[iv p0, iv p1, iv p2, iv p3, iv (p0 &&& (3 : Int32)), iv mv, rv r_105, rv r_108, rv r_111, rv r_114, rv r_117, rv b120, iv (1 : Int32), iv (1 : Int32), iv (0 : Int32), rv a_FALSE, rv a_TRUE, rv a_TRUE] [(.ref a_FALSE)])) t → Steps p.tables e below (s₁.setTop (entryFrame m #[(.int p0), (.int p1), (.int p2), (.int p3)] maxLocals)) t := fun t kt => pre602 _ (st603.trans kt)
          have pre605 : ∀ t, Steps p.tables e below (T603.setTop (mkF m 320 #[iv p0, iv p1, iv p2, iv p3, iv (p0 &&& (3 : Int32)), iv mv, rv r_105, rv r_108, rv r_111, rv r_114, rv r_117, rv b120, iv (1 : Int32), iv (1 : Int32), iv (0 : Int32), rv a_FALSE, rv a_TRUE, rv a_TRUE] [(.ref b120)])) t → Steps p.tables e below (s₁.setTop (entryFrame m #[(.int p0), (.int p1), (.int p2), (.int p3)] maxLocals)) t := fun t kt => by
            refine pre604 _ ?_
            show Steps p.tables e below (T603.setTop (mkF m 313 #[iv p0, iv p1, iv p2, iv p3, iv (p0 &&& (3 : Int32)), iv mv, rv r_105, rv r_108, rv r_111, rv r_114, rv r_117, rv b120, iv (1 : Int32), iv (1 : Int32), iv (0 : Int32), rv a_FALSE, rv a_TRUE, rv a_TRUE] [(.ref a_FALSE)])) _
            refine XS.aload X603.here hx rfl (hb hby at_313) rfl rfl ?_
            refine Jvm.RoadKit.acmp (g := (mkF m 315 #[iv p0, iv p1, iv p2, iv p3, iv (p0 &&& (3 : Int32)), iv mv, rv r_105, rv r_108, rv r_111, rv r_114, rv r_117, rv b120, iv (1 : Int32), iv (1 : Int32), iv (0 : Int32), rv a_FALSE, rv a_TRUE, rv a_TRUE] [(.ref a_FALSE), (.ref a_FALSE)])) X603 hx rfl rfl rfl (pc0 := 315) (pc' := 318) (same := true) rfl (hb hby at_315) rfl (decide_eq_true rfl) (by decide) (by decide) ?_
            refine XS.aload X603.here hx rfl (hb hby at_318) rfl rfl ?_
            exact kt
          obtain ⟨cq606, kq606, q606a, q606b, q606c⟩ := isOf hZ e603 J582_0
          obtain ⟨_, _, ⟨T606, L606, k606, n606⟩, -, X606, ⟨Lc606, hQ606, l606, y606, z606⟩, st606⟩ := X603.virtualBack hx (y := (⟨"com/example/contexture/contexture/engine/evaluation/TruthValue$Tally", "or", "()Lcom/example/contexture/contexture/engine/evaluation/TruthValue;"⟩ : MethodName)) (z := (⟨"com/example/contexture/contexture/engine/evaluation/TruthValue$Tally", "or", "()Lcom/example/contexture/contexture/engine/evaluation/TruthValue;"⟩ : MethodName)) hown (mvT hZ (W 52 rfl)) (mvT hZ (W 53 rfl)) (notFace_of_selects (args := #[]) (mvT hZ (W 55 rfl))) (mvT hZ (W 55 rfl)) (mvT hZ (W 54 rfl)) (by decide) (backOf (W := 0) (rm_or8_1 l Z a0 hw [] b120 a_TRUE h582 n0 O582 G2 J582_1) hZ (W 56 rfl) (W 14 rfl) (by decide) (by decide)) q606a q606c (g := (mkF m 320 #[iv p0, iv p1, iv p2, iv p3, iv (p0 &&& (3 : Int32)), iv mv, rv r_105, rv r_108, rv r_111, rv r_114, rv r_117, rv b120, iv (1 : Int32), iv (1 : Int32), iv (0 : Int32), rv a_FALSE, rv a_TRUE, rv a_TRUE] [(.ref b120)])) rfl (by rw [hml]; rfl) (Steps.refl _) (argsL := []) (rest := []) (lenOf pd_16 rfl) rfl (by show 2 * 0 + _ ≤ _; exact Nat.le_of_eq rfl) (hb hby at_320) (fun _ _ => ⟨rfl, e603, (by decide : 1 + 0 ≤ _), (by decide : 3 + 0 ≤ _)⟩)
          dsimp only [Pt.U, Pt.locs, Pt.cells, Pt.slots] at X606 l606 y606 z606 st606 hQ606
          replace l606 := l606.symm
          replace y606 : 1 = k606 := y606.symm
          replace z606 : 3 = n606 := z606.symm
          subst l606 y606 z606
          obtain ⟨rfl, M606, e606⟩ := hQ606
          have N606 := Fr.app N603 M606
          have pre607 : ∀ t, Steps p.tables e below (T606.setTop (mkF m 323 #[iv p0, iv p1, iv p2, iv p3, iv (p0 &&& (3 : Int32)), iv mv, rv r_105, rv r_108, rv r_111, rv r_114, rv r_117, rv b120, iv (1 : Int32), iv (1 : Int32), iv (0 : Int32), rv a_FALSE, rv a_TRUE, rv a_TRUE] [(.ref a_TRUE)])) t → Steps p.tables e below (s₁.setTop (entryFrame m #[(.int p0), (.int p1), (.int p2), (.int p3)] maxLocals)) t := fun t kt => pre605 _ (st606.trans kt)
          have pre608 : ∀ t, Steps p.tables e below (T606.setTop (mkF m 330 #[iv p0, iv p1, iv p2, iv p3, iv (p0 &&& (3 : Int32)), iv mv, rv r_105, rv r_108, rv r_111, rv r_114, rv r_117, rv b120, iv (1 : Int32), iv (1 : Int32), iv (0 : Int32), rv a_FALSE, rv a_TRUE, rv a_TRUE] [(.ref b120)])) t → Steps p.tables e below (s₁.setTop (entryFrame m #[(.int p0), (.int p1), (.int p2), (.int p3)] maxLocals)) t := fun t kt => by
            refine pre607 _ ?_
            show Steps p.tables e below (T606.setTop (mkF m 323 #[iv p0, iv p1, iv p2, iv p3, iv (p0 &&& (3 : Int32)), iv mv, rv r_105, rv r_108, rv r_111, rv r_114, rv r_117, rv b120, iv (1 : Int32), iv (1 : Int32), iv (0 : Int32), rv a_FALSE, rv a_TRUE, rv a_TRUE] [(.ref a_TRUE)])) _
            refine XS.aload X606.here hx rfl (hb hby at_323) rfl rfl ?_
            refine Jvm.RoadKit.acmp (g := (mkF m 325 #[iv p0, iv p1, iv p2, iv p3, iv (p0 &&& (3 : Int32)), iv mv, rv r_105, rv r_108, rv r_111, rv r_114, rv r_117, rv b120, iv (1 : Int32), iv (1 : Int32), iv (0 : Int32), rv a_FALSE, rv a_TRUE, rv a_TRUE] [(.ref a_TRUE), (.ref a_TRUE)])) X606 hx rfl rfl rfl (pc0 := 325) (pc' := 328) (same := true) rfl (hb hby at_325) rfl (decide_eq_true rfl) (by decide) (by decide) ?_
            refine XS.aload X606.here hx rfl (hb hby at_328) rfl rfl ?_
            exact kt
          obtain ⟨cq609, kq609, q609a, q609b, q609c⟩ := isOf hZ e606 J582_0
          obtain ⟨_, _, ⟨T609, L609, k609, n609⟩, -, X609, ⟨Lc609, hQ609, l609, y609, z609⟩, st609⟩ := X606.virtualBack hx (y := (⟨"com/example/contexture/contexture/engine/evaluation/TruthValue$Tally", "xor", "()Lcom/example/contexture/contexture/engine/evaluation/TruthValue;"⟩ : MethodName)) (z := (⟨"com/example/contexture/contexture/engine/evaluation/TruthValue$Tally", "xor", "()Lcom/example/contexture/contexture/engine/evaluation/TruthValue;"⟩ : MethodName)) hown (mvT hZ (W 58 rfl)) (mvT hZ (W 59 rfl)) (notFace_of_selects (args := #[]) (mvT hZ (W 61 rfl))) (mvT hZ (W 61 rfl)) (mvT hZ (W 60 rfl)) (by decide) (backOf (W := 0) (rm_xor9_1 l Z a0 hw [] b120 a_TRUE h582 n0 O582 G2 J582_0 J582_1 J582_3) hZ (W 62 rfl) (W 14 rfl) (by decide) (by decide)) q609a q609c (g := (mkF m 330 #[iv p0, iv p1, iv p2, iv p3, iv (p0 &&& (3 : Int32)), iv mv, rv r_105, rv r_108, rv r_111, rv r_114, rv r_117, rv b120, iv (1 : Int32), iv (1 : Int32), iv (0 : Int32), rv a_FALSE, rv a_TRUE, rv a_TRUE] [(.ref b120)])) rfl (by rw [hml]; rfl) (Steps.refl _) (argsL := []) (rest := []) (lenOf pd_16 rfl) rfl (by show 2 * 0 + _ ≤ _; exact Nat.le_of_eq rfl) (hb hby at_330) (fun _ _ => ⟨rfl, e606, (by decide : 1 + 0 ≤ _), (by decide : 3 + 0 ≤ _)⟩)
          dsimp only [Pt.U, Pt.locs, Pt.cells, Pt.slots] at X609 l609 y609 z609 st609 hQ609
          replace l609 := l609.symm
          replace y609 : 1 = k609 := y609.symm
          replace z609 : 3 = n609 := z609.symm
          subst l609 y609 z609
          obtain ⟨rfl, M609, e609⟩ := hQ609
          have N609 := Fr.app N606 M609
          have pre610 : ∀ t, Steps p.tables e below (T609.setTop (mkF m 333 #[iv p0, iv p1, iv p2, iv p3, iv (p0 &&& (3 : Int32)), iv mv, rv r_105, rv r_108, rv r_111, rv r_114, rv r_117, rv b120, iv (1 : Int32), iv (1 : Int32), iv (0 : Int32), rv a_FALSE, rv a_TRUE, rv a_TRUE] [(.ref a_TRUE)])) t → Steps p.tables e below (s₁.setTop (entryFrame m #[(.int p0), (.int p1), (.int p2), (.int p3)] maxLocals)) t := fun t kt => pre608 _ (st609.trans kt)
          have pre611 : ∀ t, Steps p.tables e below (T609.setTop (mkF m 343 #[iv p0, iv p1, iv p2, iv p3, iv (p0 &&& (3 : Int32)), iv mv, rv r_105, rv r_108, rv r_111, rv r_114, rv r_117, rv b120, iv (1 : Int32), iv (1 : Int32), iv (0 : Int32), rv a_FALSE, rv a_TRUE, rv a_TRUE] [(.int (1 : Int32))])) t → Steps p.tables e below (s₁.setTop (entryFrame m #[(.int p0), (.int p1), (.int p2), (.int p3)] maxLocals)) t := fun t kt => by
            refine pre610 _ ?_
            show Steps p.tables e below (T609.setTop (mkF m 333 #[iv p0, iv p1, iv p2, iv p3, iv (p0 &&& (3 : Int32)), iv mv, rv r_105, rv r_108, rv r_111, rv r_114, rv r_117, rv b120, iv (1 : Int32), iv (1 : Int32), iv (0 : Int32), rv a_FALSE, rv a_TRUE, rv a_TRUE] [(.ref a_TRUE)])) _
            refine XS.aload X609.here hx rfl (hb hby at_333) rfl rfl ?_
            refine Jvm.RoadKit.acmp (g := (mkF m 335 #[iv p0, iv p1, iv p2, iv p3, iv (p0 &&& (3 : Int32)), iv mv, rv r_105, rv r_108, rv r_111, rv r_114, rv r_117, rv b120, iv (1 : Int32), iv (1 : Int32), iv (0 : Int32), rv a_FALSE, rv a_TRUE, rv a_TRUE] [(.ref a_TRUE), (.ref a_TRUE)])) X609 hx rfl rfl rfl (pc0 := 335) (pc' := 338) (same := true) rfl (hb hby at_335) rfl (decide_eq_true rfl) (by decide) (by decide) ?_
            refine XS.iconst X609.here hx rfl (hb hby at_338) ?_
            refine XS.goto X609.here hx rfl (pc0 := 339) (pc' := 343) rfl (hb hby at_339) (by decide) (by decide) ?_
            exact kt
          obtain ⟨fs, hr, hrun, hended, hW, hsame⟩ := X609.leave (v := some (.int (1 : Int32))) (fun h => by rw [Bd.returns] at h; cases h)
          refine ⟨_, _, pre611 _ (retN X609 hx (t := .boolean) Bd.returns (by simp) (hb hby at_343) hr), hrun, hended, _, _, rfl, ?_, ⟨_, rfl⟩, hW, hsame.mono (by decide) (by decide)⟩
          show Q_law Z p0 p1 p2 p3 a_UNKNOWN a_TRUE a_FALSE h0 n0 _ T609.heap _
          rw [e609]
          exact ⟨rfl, N609⟩
        · have Gr612 : Exa Z Z.heap r_117 "com/example/contexture/contexture/engine/evaluation/TruthValue" := hv579 ▸ G5
          have Gr613 : Fld Z Z.heap r_117 "java/lang/Enum" "ordinal" "I" (.int (1 : Int32)) := hv579 ▸ G6
          obtain ⟨cq614, kq614, q614a, q614b, q614c⟩ := isOf hZ e574 J574_0
          obtain ⟨_, _, ⟨T614, L614, k614, n614⟩, -, X614, ⟨Lc614, hQ614, l614, y614, z614⟩, st614⟩ := X574.virtualBack hx (y := (⟨"com/example/contexture/contexture/engine/evaluation/TruthValue$Tally", "add", "(Lcom/example/contexture/contexture/engine/evaluation/TruthValue;)V"⟩ : MethodName)) (z := (⟨"com/example/contexture/contexture/engine/evaluation/TruthValue$Tally", "add", "(Lcom/example/contexture/contexture/engine/evaluation/TruthValue;)V"⟩ : MethodName)) hown (mvT hZ (W 32 rfl)) (mvT hZ (W 33 rfl)) (notFace_of_selects (args := #[]) (mvT hZ (W 35 rfl))) (mvT hZ (W 35 rfl)) (mvT hZ (W 34 rfl)) (by decide) (backOf (W := 0) (rm_add1 l Z a0 hw [] b120 r_117 ((0 : Int32)) (((0 : Int32) + (1 : Int32))) ((0 : Int32)) h574 n0 O574 Gr612 Gr613 g_b120 J574_0 J574_1 J574_2 J574_3) hZ (W 36 rfl) (W 14 rfl) (by decide) (by decide)) q614a q614c (g := (mkF m 123 #[iv p0, iv p1, iv p2, iv p3, iv (p0 &&& (3 : Int32)), iv mv, rv r_105, rv r_108, rv r_111, rv r_114, rv r_117, rv b120, .unset, .unset, .unset, .unset, .unset, .unset] [(.ref r_117), (.ref b120)])) rfl (by rw [hml]; rfl) (Steps.refl _) (argsL := [(.ref r_117)]) (rest := []) (lenOf pd_12 rfl) rfl (by show 2 * 0 + _ ≤ _; exact Nat.le_of_eq rfl) (hb hby at_123) (fun _ _ => ⟨rfl, e574, (by decide : 1 + 0 ≤ _), (by decide : 3 + 0 ≤ _)⟩)
          dsimp only [Pt.U, Pt.locs, Pt.cells, Pt.slots] at X614 l614 y614 z614 st614 hQ614
          replace l614 := l614.symm
          replace y614 : 1 = k614 := y614.symm
          replace z614 : 3 = n614 := z614.symm
          subst l614 y614 z614
          obtain ⟨rfl, M614, Kc614, O614, J614_0, J614_1, J614_2, J614_3⟩ := hQ614
          obtain ⟨h614, e614⟩ : ∃ z, T614.heap = z := ⟨_, rfl⟩
          rw [e614] at Kc614 O614 J614_0 J614_1 J614_2 J614_3
          have N614 := Fr.app N574 M614
          have K614 : Keep h0 h614 [] := K574.trans Kc614 (own_all1 (Or.inr sz_b120))
          have pre615 : ∀ t, Steps p.tables e below (T614.setTop (mkF m 126 #[iv p0, iv p1, iv p2, iv p3, iv (p0 &&& (3 : Int32)), iv mv, rv r_105, rv r_108, rv r_111, rv r_114, rv r_117, rv b120, .unset, .unset, .unset, .unset, .unset, .unset] [])) t → Steps p.tables e below (s₁.setTop (entryFrame m #[(.int p0), (.int p1), (.int p2), (.int p3)] maxLocals)) t := fun t kt => pre578 _ (st614.trans kt)
          have pre616 : ∀ t, Steps p.tables e below (T614.setTop (mkF m 142 #[iv p0, iv p1, iv p2, iv p3, iv (p0 &&& (3 : Int32)), iv mv, rv r_105, rv r_108, rv r_111, rv r_114, rv r_117, rv b120, iv (0 : Int32), iv (0 : Int32), iv (0 : Int32), .unset, .unset, .unset] [(.ref r_114)])) t → Steps p.tables e below (s₁.setTop (entryFrame m #[(.int p0), (.int p1), (.int p2), (.int p3)] maxLocals)) t := fun t kt => by
            refine pre615 _ ?_
            show Steps p.tables e below (T614.setTop (mkF m 126 #[iv p0, iv p1, iv p2, iv p3, iv (p0 &&& (3 : Int32)), iv mv, rv r_105, rv r_108, rv r_111, rv r_114, rv r_117, rv b120, .unset, .unset, .unset, .unset, .unset, .unset] [])) _
            refine XS.iconst X614.here hx rfl (hb hby at_126) ?_
            refine XS.istore X614.here hx rfl (hb hby at_127) rfl (l' := #[iv p0, iv p1, iv p2, iv p3, iv (p0 &&& (3 : Int32)), iv mv, rv r_105, rv r_108, rv r_111, rv r_114, rv r_117, rv b120, iv (0 : Int32), .unset, .unset, .unset, .unset, .unset]) rfl ?_
            refine XS.iconst X614.here hx rfl (hb hby at_129) ?_
            refine XS.istore X614.here hx rfl (hb hby at_130) rfl (l' := #[iv p0, iv p1, iv p2, iv p3, iv (p0 &&& (3 : Int32)), iv mv, rv r_105, rv r_108, rv r_111, rv r_114, rv r_117, rv b120, iv (0 : Int32), iv (0 : Int32), .unset, .unset, .unset, .unset]) rfl ?_
            show Steps p.tables e below (T614.setTop (mkF m 132 #[iv p0, iv p1, iv p2, iv p3, iv (p0 &&& (3 : Int32)), iv mv, rv r_105, rv r_108, rv r_111, rv r_114, rv r_117, rv b120, iv (0 : Int32), iv (0 : Int32), .unset, .unset, .unset, .unset] [])) _
            refine XS.iconst X614.here hx rfl (hb hby at_132) ?_
            refine XS.istore X614.here hx rfl (hb hby at_133) rfl (l' := #[iv p0, iv p1, iv p2, iv p3, iv (p0 &&& (3 : Int32)), iv mv, rv r_105, rv r_108, rv r_111, rv r_114, rv r_117, rv b120, iv (0 : Int32), iv (0 : Int32), iv (0 : Int32), .unset, .unset, .unset]) rfl ?_
            refine XS.iload X614.here hx rfl (hb hby at_135) rfl ?_
            refine XS.ifNo X614.here hx rfl (hb hby at_137) rfl (XT.i0_le_f hc209) ?_
            show Steps p.tables e below (T614.setTop (mkF m 140 #[iv p0, iv p1, iv p2, iv p3, iv (p0 &&& (3 : Int32)), iv mv, rv r_105, rv r_108, rv r_111, rv r_114, rv r_117, rv b120, iv (0 : Int32), iv (0 : Int32), iv (0 : Int32), .unset, .unset, .unset] [])) _
            refine XS.aload X614.here hx rfl (hb hby at_140) rfl rfl ?_
            exact kt
          obtain ⟨T617, X617, e617, st617⟩ := getS2 X614 hx hZ hown (host := "") (Or.inl (W 8 rfl)) Via.refl e614 (G2.ext O614.2) (g := (mkF m 142 #[iv p0, iv p1, iv p2, iv p3, iv (p0 &&& (3 : Int32)), iv mv, rv r_105, rv r_108, rv r_111, rv r_114, rv r_117, rv b120, iv (0 : Int32), iv (0 : Int32), iv (0 : Int32), .unset, .unset, .unset] [(.ref r_114)])) rfl (hb hby at_142)
          have pre618 : ∀ t, Steps p.tables e below (T617.setTop (mkF m 145 #[iv p0, iv p1, iv p2, iv p3, iv (p0 &&& (3 : Int32)), iv mv, rv r_105, rv r_108, rv r_111, rv r_114, rv r_117, rv b120, iv (0 : Int32), iv (0 : Int32), iv (0 : Int32), .unset, .unset, .unset] [(.ref a_TRUE), (.ref r_114)])) t → Steps p.tables e below (s₁.setTop (entryFrame m #[(.int p0), (.int p1), (.int p2), (.int p3)] maxLocals)) t := fun t kt => pre616 _ (st617 _ kt)
          have pre619 : ∀ t, Steps p.tables e below (T617.setTop (mkF m 159 #[iv p0, iv p1, iv p2, iv p3, iv (p0 &&& (3 : Int32)), iv mv, rv r_105, rv r_108, rv r_111, rv r_114, rv r_117, rv b120, iv (0 : Int32), iv (0 : Int32), iv (0 : Int32), .unset, .unset, .unset] [(.ref r_114)])) t → Steps p.tables e below (s₁.setTop (entryFrame m #[(.int p0), (.int p1), (.int p2), (.int p3)] maxLocals)) t := fun t kt => by
            refine pre618 _ ?_
            show Steps p.tables e below (T617.setTop (mkF m 145 #[iv p0, iv p1, iv p2, iv p3, iv (p0 &&& (3 : Int32)), iv mv, rv r_105, rv r_108, rv r_111, rv r_114, rv r_117, rv b120, iv (0 : Int32), iv (0 : Int32), iv (0 : Int32), .unset, .unset, .unset] [(.ref a_TRUE), (.ref r_114)])) _
            refine Jvm.RoadKit.acmp (g := (mkF m 145 #[iv p0, iv p1, iv p2, iv p3, iv (p0 &&& (3 : Int32)), iv mv, rv r_105, rv r_108, rv r_111, rv r_114, rv r_117, rv b120, iv (0 : Int32), iv (0 : Int32), iv (0 : Int32), .unset, .unset, .unset] [(.ref a_TRUE), (.ref r_114)])) X617 hx rfl rfl rfl (pc0 := 145) (pc' := 157) (same := false) rfl (hb hby at_145) rfl (decide_eq_false fun q => (fun z => ne_a_FALSE_a_TRUE (hv211.symm.trans z)) (Value.ref.inj q)) (by decide) (by decide) ?_
            refine XS.aload X617.here hx rfl (hb hby at_157) rfl rfl ?_
            exact kt
          obtain ⟨T620, X620, e620, st620⟩ := getS2 X617 hx hZ hown (host := "") (Or.inl (W 10 rfl)) Via.refl e617 (G4.ext O614.2) (g := (mkF m 159 #[iv p0, iv p1, iv p2, iv p3, iv (p0 &&& (3 : Int32)), iv mv, rv r_105, rv r_108, rv r_111, rv r_114, rv r_117, rv b120, iv (0 : Int32), iv (0 : Int32), iv (0 : Int32), .unset, .unset, .unset] [(.ref r_114)])) rfl (hb hby at_159)
          have pre621 : ∀ t, Steps p.tables e below (T620.setTop (mkF m 162 #[iv p0, iv p1, iv p2, iv p3, iv (p0 &&& (3 : Int32)), iv mv, rv r_105, rv r_108, rv r_111, rv r_114, rv r_117, rv b120, iv (0 : Int32), iv (0 : Int32), iv (0 : Int32), .unset, .unset, .unset] [(.ref a_FALSE), (.ref r_114)])) t → Steps p.tables e below (s₁.setTop (entryFrame m #[(.int p0), (.int p1), (.int p2), (.int p3)] maxLocals)) t := fun t kt => pre619 _ (st620 _ kt)
          have pre622 : ∀ t, Steps p.tables e below (T620.setTop (mkF m 188 #[iv p0, iv p1, iv p2, iv p3, iv (p0 &&& (3 : Int32)), iv mv, rv r_105, rv r_108, rv r_111, rv r_114, rv r_117, rv b120, iv (0 : Int32), iv (1 : Int32), iv (0 : Int32), .unset, .unset, .unset] [(.ref r_117)])) t → Steps p.tables e below (s₁.setTop (entryFrame m #[(.int p0), (.int p1), (.int p2), (.int p3)] maxLocals)) t := fun t kt => by
            refine pre621 _ ?_
            show Steps p.tables e below (T620.setTop (mkF m 162 #[iv p0, iv p1, iv p2, iv p3, iv (p0 &&& (3 : Int32)), iv mv, rv r_105, rv r_108, rv r_111, rv r_114, rv r_117, rv b120, iv (0 : Int32), iv (0 : Int32), iv (0 : Int32), .unset, .unset, .unset] [(.ref a_FALSE), (.ref r_114)])) _
            refine Jvm.RoadKit.acmp (g := (mkF m 162 #[iv p0, iv p1, iv p2, iv p3, iv (p0 &&& (3 : Int32)), iv mv, rv r_105, rv r_108, rv r_111, rv r_114, rv r_117, rv b120, iv (0 : Int32), iv (0 : Int32), iv (0 : Int32), .unset, .unset, .unset] [(.ref a_FALSE), (.ref r_114)])) X620 hx rfl rfl rfl (pc0 := 162) (pc' := 165) (same := true) rfl (hb hby at_162) rfl (decide_eq_true (congrArg Value.ref hv211)) (by decide) (by decide) ?_
            refine XS.iload X620.here hx rfl (hb hby at_165) rfl ?_
            refine XS.iconst X620.here hx rfl (hb hby at_167) ?_
            refine XS.iadd X620.here hx rfl (hb hby at_168) rfl ?_
            show  Steps p.tables e below (T620.setTop (mkF m 169 #[iv p0, iv p1, iv p2, iv p3, iv (p0 &&& (3 : Int32)), iv mv, rv r_105, rv r_108, rv r_111, rv r_114, rv r_117, rv b120, iv (0 : Int32), iv (0 : Int32), iv (0 : Int32), .unset, .unset, .unset] [(.int ((0 : Int32) + (1 : Int32)))])) _
            rw [(by decide : (((0 : Int32) + (1 : Int32)) : Int32) = (1 : Int32))]
            show Steps p.tables e below (T620.setTop (mkF m 169 #[iv p0, iv p1, iv p2, iv p3, iv (p0 &&& (3 : Int32)), iv mv, rv r_105, rv r_108, rv r_111, rv r_114, rv r_117, rv b120, iv (0 : Int32), iv (0 : Int32), iv (0 : Int32), .unset, .unset, .unset] [(.int (1 : Int32))])) _
            refine XS.istore X620.here hx rfl (hb hby at_169) rfl (l' := #[iv p0, iv p1, iv p2, iv p3, iv (p0 &&& (3 : Int32)), iv mv, rv r_105, rv r_108, rv r_111, rv r_114, rv r_117, rv b120, iv (0 : Int32), iv (1 : Int32), iv (0 : Int32), .unset, .unset, .unset]) rfl ?_
            refine XS.goto X620.here hx rfl (pc0 := 171) (pc' := 180) rfl (hb hby at_171) (by decide) (by decide) ?_
            refine XS.iload X620.here hx rfl (hb hby at_180) rfl ?_
            refine XS.iconst X620.here hx rfl (hb hby at_182) ?_
            show Steps p.tables e below (T620.setTop (mkF m 183 #[iv p0, iv p1, iv p2, iv p3, iv (p0 &&& (3 : Int32)), iv mv, rv r_105, rv r_108, rv r_111, rv r_114, rv r_117, rv b120, iv (0 : Int32), iv (1 : Int32), iv (0 : Int32), .unset, .unset, .unset] [(.int (1 : Int32)), (.int mv)])) _
            refine XS.icmpNo X620.here hx rfl (hb hby at_183) rfl (XT.ii_le_f hc577) ?_
            refine XS.aload X620.here hx rfl (hb hby at_186) rfl rfl ?_
            exact kt
          obtain ⟨T623, X623, e623, st623⟩ := getS2 X620 hx hZ hown (host := "") (Or.inl (W 8 rfl)) Via.refl e620 (G2.ext O614.2) (g := (mkF m 188 #[iv p0, iv p1, iv p2, iv p3, iv (p0 &&& (3 : Int32)), iv mv, rv r_105, rv r_108, rv r_111, rv r_114, rv r_117, rv b120, iv (0 : Int32), iv (1 : Int32), iv (0 : Int32), .unset, .unset, .unset] [(.ref r_117)])) rfl (hb hby at_188)
          have pre624 : ∀ t, Steps p.tables e below (T623.setTop (mkF m 191 #[iv p0, iv p1, iv p2, iv p3, iv (p0 &&& (3 : Int32)), iv mv, rv r_105, rv r_108, rv r_111, rv r_114, rv r_117, rv b120, iv (0 : Int32), iv (1 : Int32), iv (0 : Int32), .unset, .unset, .unset] [(.ref a_TRUE), (.ref r_117)])) t → Steps p.tables e below (s₁.setTop (entryFrame m #[(.int p0), (.int p1), (.int p2), (.int p3)] maxLocals)) t := fun t kt => pre622 _ (st623 _ kt)
          have pre625 : ∀ t, Steps p.tables e below (T623.setTop (mkF m 205 #[iv p0, iv p1, iv p2, iv p3, iv (p0 &&& (3 : Int32)), iv mv, rv r_105, rv r_108, rv r_111, rv r_114, rv r_117, rv b120, iv (0 : Int32), iv (1 : Int32), iv (0 : Int32), .unset, .unset, .unset] [(.ref r_117)])) t → Steps p.tables e below (s₁.setTop (entryFrame m #[(.int p0), (.int p1), (.int p2), (.int p3)] maxLocals)) t := fun t kt => by
            refine pre624 _ ?_
            show Steps p.tables e below (T623.setTop (mkF m 191 #[iv p0, iv p1, iv p2, iv p3, iv (p0 &&& (3 : Int32)), iv mv, rv r_105, rv r_108, rv r_111, rv r_114, rv r_117, rv b120, iv (0 : Int32), iv (1 : Int32), iv (0 : Int32), .unset, .unset, .unset] [(.ref a_TRUE), (.ref r_117)])) _
            refine Jvm.RoadKit.acmp (g := (mkF m 191 #[iv p0, iv p1, iv p2, iv p3, iv (p0 &&& (3 : Int32)), iv mv, rv r_105, rv r_108, rv r_111, rv r_114, rv r_117, rv b120, iv (0 : Int32), iv (1 : Int32), iv (0 : Int32), .unset, .unset, .unset] [(.ref a_TRUE), (.ref r_117)])) X623 hx rfl rfl rfl (pc0 := 191) (pc' := 203) (same := false) rfl (hb hby at_191) rfl (decide_eq_false fun q => (fun z => ne_a_FALSE_a_TRUE (hv579.symm.trans z)) (Value.ref.inj q)) (by decide) (by decide) ?_
            refine XS.aload X623.here hx rfl (hb hby at_203) rfl rfl ?_
            exact kt
          obtain ⟨T626, X626, e626, st626⟩ := getS2 X623 hx hZ hown (host := "") (Or.inl (W 10 rfl)) Via.refl e623 (G4.ext O614.2) (g := (mkF m 205 #[iv p0, iv p1, iv p2, iv p3, iv (p0 &&& (3 : Int32)), iv mv, rv r_105, rv r_108, rv r_111, rv r_114, rv r_117, rv b120, iv (0 : Int32), iv (1 : Int32), iv (0 : Int32), .unset, .unset, .unset] [(.ref r_117)])) rfl (hb hby at_205)
          have pre627 : ∀ t, Steps p.tables e below (T626.setTop (mkF m 208 #[iv p0, iv p1, iv p2, iv p3, iv (p0 &&& (3 : Int32)), iv mv, rv r_105, rv r_108, rv r_111, rv r_114, rv r_117, rv b120, iv (0 : Int32), iv (1 : Int32), iv (0 : Int32), .unset, .unset, .unset] [(.ref a_FALSE), (.ref r_117)])) t → Steps p.tables e below (s₁.setTop (entryFrame m #[(.int p0), (.int p1), (.int p2), (.int p3)] maxLocals)) t := fun t kt => pre625 _ (st626 _ kt)
          have pre628 : ∀ t, Steps p.tables e below (T626.setTop (mkF m 231 #[iv p0, iv p1, iv p2, iv p3, iv (p0 &&& (3 : Int32)), iv mv, rv r_105, rv r_108, rv r_111, rv r_114, rv r_117, rv b120, iv (0 : Int32), iv (2 : Int32), iv (0 : Int32), .unset, .unset, .unset] [])) t → Steps p.tables e below (s₁.setTop (entryFrame m #[(.int p0), (.int p1), (.int p2), (.int p3)] maxLocals)) t := fun t kt => by
            refine pre627 _ ?_
            show Steps p.tables e below (T626.setTop (mkF m 208 #[iv p0, iv p1, iv p2, iv p3, iv (p0 &&& (3 : Int32)), iv mv, rv r_105, rv r_108, rv r_111, rv r_114, rv r_117, rv b120, iv (0 : Int32), iv (1 : Int32), iv (0 : Int32), .unset, .unset, .unset] [(.ref a_FALSE), (.ref r_117)])) _
            refine Jvm.RoadKit.acmp (g := (mkF m 208 #[iv p0, iv p1, iv p2, iv p3, iv (p0 &&& (3 : Int32)), iv mv, rv r_105, rv r_108, rv r_111, rv r_114, rv r_117, rv b120, iv (0 : Int32), iv (1 : Int32), iv (0 : Int32), .unset, .unset, .unset] [(.ref a_FALSE), (.ref r_117)])) X626 hx rfl rfl rfl (pc0 := 208) (pc' := 211) (same := true) rfl (hb hby at_208) rfl (decide_eq_true (congrArg Value.ref hv579)) (by decide) (by decide) ?_
            refine XS.iload X626.here hx rfl (hb hby at_211) rfl ?_
            refine XS.iconst X626.here hx rfl (hb hby at_213) ?_
            refine XS.iadd X626.here hx rfl (hb hby at_214) rfl ?_
            show  Steps p.tables e below (T626.setTop (mkF m 215 #[iv p0, iv p1, iv p2, iv p3, iv (p0 &&& (3 : Int32)), iv mv, rv r_105, rv r_108, rv r_111, rv r_114, rv r_117, rv b120, iv (0 : Int32), iv (1 : Int32), iv (0 : Int32), .unset, .unset, .unset] [(.int ((1 : Int32) + (1 : Int32)))])) _
            rw [(by decide : (((1 : Int32) + (1 : Int32)) : Int32) = (2 : Int32))]
            show Steps p.tables e below (T626.setTop (mkF m 215 #[iv p0, iv p1, iv p2, iv p3, iv (p0 &&& (3 : Int32)), iv mv, rv r_105, rv r_108, rv r_111, rv r_114, rv r_117, rv b120, iv (0 : Int32), iv (1 : Int32), iv (0 : Int32), .unset, .unset, .unset] [(.int (2 : Int32))])) _
            refine XS.istore X626.here hx rfl (hb hby at_215) rfl (l' := #[iv p0, iv p1, iv p2, iv p3, iv (p0 &&& (3 : Int32)), iv mv, rv r_105, rv r_108, rv r_111, rv r_114, rv r_117, rv b120, iv (0 : Int32), iv (2 : Int32), iv (0 : Int32), .unset, .unset, .unset]) rfl ?_
            refine XS.goto X626.here hx rfl (pc0 := 217) (pc' := 226) rfl (hb hby at_217) (by decide) (by decide) ?_
            refine XS.iload X626.here hx rfl (hb hby at_226) rfl ?_
            refine XS.ifNo X626.here hx rfl (hb hby at_228) rfl (XT.i0_le_f (by decide)) ?_
            exact kt
          obtain ⟨T629, X629, e629, st629⟩ := getS2 X626 hx hZ hown (host := "") (Or.inl (W 10 rfl)) Via.refl e626 (G4.ext O614.2) (g := (mkF m 231 #[iv p0, iv p1, iv p2, iv p3, iv (p0 &&& (3 : Int32)), iv mv, rv r_105, rv r_108, rv r_111, rv r_114, rv r_117, rv b120, iv (0 : Int32), iv (2 : Int32), iv (0 : Int32), .unset, .unset, .unset] [])) rfl (hb hby at_231)
          have pre630 : ∀ t, Steps p.tables e below (T629.setTop (mkF m 234 #[iv p0, iv p1, iv p2, iv p3, iv (p0 &&& (3 : Int32)), iv mv, rv r_105, rv r_108, rv r_111, rv r_114, rv r_117, rv b120, iv (0 : Int32), iv (2 : Int32), iv (0 : Int32), .unset, .unset, .unset] [(.ref a_FALSE)])) t → Steps p.tables e below (s₁.setTop (entryFrame m #[(.int p0), (.int p1), (.int p2), (.int p3)] maxLocals)) t := fun t kt => pre628 _ (st629 _ kt)
          have pre631 : ∀ t, Steps p.tables e below (T629.setTop (mkF m 275 #[iv p0, iv p1, iv p2, iv p3, iv (p0 &&& (3 : Int32)), iv mv, rv r_105, rv r_108, rv r_111, rv r_114, rv r_117, rv b120, iv (0 : Int32), iv (2 : Int32), iv (0 : Int32), rv a_FALSE, .unset, .unset] [])) t → Steps p.tables e below (s₁.setTop (entryFrame m #[(.int p0), (.int p1), (.int p2), (.int p3)] maxLocals)) t := fun t kt => by
            refine pre630 _ ?_
            show Steps p.tables e below (T629.setTop (mkF m 234 #[iv p0, iv p1, iv p2, iv p3, iv (p0 &&& (3 : Int32)), iv mv, rv r_105, rv r_108, rv r_111, rv r_114, rv r_117, rv b120, iv (0 : Int32), iv (2 : Int32), iv (0 : Int32), .unset, .unset, .unset] [(.ref a_FALSE)])) _
            refine XS.goto X629.here hx rfl (pc0 := 234) (pc' := 251) rfl (hb hby at_234) (by decide) (by decide) ?_
            refine XS.astore X629.here hx rfl (hb hby at_251) rfl rfl (l' := #[iv p0, iv p1, iv p2, iv p3, iv (p0 &&& (3 : Int32)), iv mv, rv r_105, rv r_108, rv r_111, rv r_114, rv r_117, rv b120, iv (0 : Int32), iv (2 : Int32), iv (0 : Int32), rv a_FALSE, .unset, .unset]) rfl ?_
            refine XS.iload X629.here hx rfl (hb hby at_253) rfl ?_
            refine XS.ifYes X629.here hx rfl (pc0 := 255) (pc' := 264) rfl (hb hby at_255) rfl (XT.i0_le_t (by decide)) (by decide) (by decide) ?_
            show Steps p.tables e below (T629.setTop (mkF m 264 #[iv p0, iv p1, iv p2, iv p3, iv (p0 &&& (3 : Int32)), iv mv, rv r_105, rv r_108, rv r_111, rv r_114, rv r_117, rv b120, iv (0 : Int32), iv (2 : Int32), iv (0 : Int32), rv a_FALSE, .unset, .unset] [])) _
            refine XS.iload X629.here hx rfl (hb hby at_264) rfl ?_
            refine XS.ifYes X629.here hx rfl (pc0 := 266) (pc' := 275) rfl (hb hby at_266) rfl (XT.i0_le_t (by decide)) (by decide) (by decide) ?_
            exact kt
          obtain ⟨T632, X632, e632, st632⟩ := getS2 X629 hx hZ hown (host := "") (Or.inl (W 10 rfl)) Via.refl e629 (G4.ext O614.2) (g := (mkF m 275 #[iv p0, iv p1, iv p2, iv p3, iv (p0 &&& (3 : Int32)), iv mv, rv r_105, rv r_108, rv r_111, rv r_114, rv r_117, rv b120, iv (0 : Int32), iv (2 : Int32), iv (0 : Int32), rv a_FALSE, .unset, .unset] [])) rfl (hb hby at_275)
          have pre633 : ∀ t, Steps p.tables e below (T632.setTop (mkF m 278 #[iv p0, iv p1, iv p2, iv p3, iv (p0 &&& (3 : Int32)), iv mv, rv r_105, rv r_108, rv r_111, rv r_114, rv r_117, rv b120, iv (0 : Int32), iv (2 : Int32), iv (0 : Int32), rv a_FALSE, .unset, .unset] [(.ref a_FALSE)])) t → Steps p.tables e below (s₁.setTop (entryFrame m #[(.int p0), (.int p1), (.int p2), (.int p3)] maxLocals)) t := fun t kt => pre631 _ (st632 _ kt)
          have pre634 : ∀ t, Steps p.tables e below (T632.setTop (mkF m 303 #[iv p0, iv p1, iv p2, iv p3, iv (p0 &&& (3 : Int32)), iv mv, rv r_105, rv r_108, rv r_111, rv r_114, rv r_117, rv b120, iv (0 : Int32), iv (2 : Int32), iv (0 : Int32), rv a_FALSE, rv a_FALSE, .unset] [])) t → Steps p.tables e below (s₁.setTop (entryFrame m #[(.int p0), (.int p1), (.int p2), (.int p3)] maxLocals)) t := fun t kt => by
            refine pre633 _ ?_
            show Steps p.tables e below (T632.setTop (mkF m 278 #[iv p0, iv p1, iv p2, iv p3, iv (p0 &&& (3 : Int32)), iv mv, rv r_105, rv r_108, rv r_111, rv r_114, rv r_117, rv b120, iv (0 : Int32), iv (2 : Int32), iv (0 : Int32), rv a_FALSE, .unset, .unset] [(.ref a_FALSE)])) _
            refine XS.astore X632.here hx rfl (hb hby at_278) rfl rfl (l' := #[iv p0, iv p1, iv p2, iv p3, iv (p0 &&& (3 : Int32)), iv mv, rv r_105, rv r_108, rv r_111, rv r_114, rv r_117, rv b120, iv (0 : Int32), iv (2 : Int32), iv (0 : Int32), rv a_FALSE, rv a_FALSE, .unset]) rfl ?_
            refine XS.iload X632.here hx rfl (hb hby at_280) rfl ?_
            refine XS.ifYes X632.here hx rfl (pc0 := 282) (pc' := 291) rfl (hb hby at_282) rfl (XT.i0_le_t (by decide)) (by decide) (by decide) ?_
            refine XS.iload X632.here hx rfl (hb hby at_291) rfl ?_
            show Steps p.tables e below (T632.setTop (mkF m 293 #[iv p0, iv p1, iv p2, iv p3, iv (p0 &&& (3 : Int32)), iv mv, rv r_105, rv r_108, rv r_111, rv r_114, rv r_117, rv b120, iv (0 : Int32), iv (2 : Int32), iv (0 : Int32), rv a_FALSE, rv a_FALSE, .unset] [(.int (0 : Int32))])) _
            refine XS.iconst X632.here hx rfl (hb hby at_293) ?_
            refine XS.icmpYes X632.here hx rfl (pc0 := 294) (pc' := 303) rfl (hb hby at_294) rfl (XT.ii_ne_t (by decide)) (by decide) (by decide) ?_
            exact kt
          obtain ⟨T635, X635, e635, st635⟩ := getS2 X632 hx hZ hown (host := "") (Or.inl (W 10 rfl)) Via.refl e632 (G4.ext O614.2) (g := (mkF m 303 #[iv p0, iv p1, iv p2, iv p3, iv (p0 &&& (3 : Int32)), iv mv, rv r_105, rv r_108, rv r_111, rv r_114, rv r_117, rv b120, iv (0 : Int32), iv (2 : Int32), iv (0 : Int32), rv a_FALSE, rv a_FALSE, .unset] [])) rfl (hb hby at_303)
          have pre636 : ∀ t, Steps p.tables e below (T635.setTop (mkF m 306 #[iv p0, iv p1, iv p2, iv p3, iv (p0 &&& (3 : Int32)), iv mv, rv r_105, rv r_108, rv r_111, rv r_114, rv r_117, rv b120, iv (0 : Int32), iv (2 : Int32), iv (0 : Int32), rv a_FALSE, rv a_FALSE, .unset] [(.ref a_FALSE)])) t → Steps p.tables e below (s₁.setTop (entryFrame m #[(.int p0), (.int p1), (.int p2), (.int p3)] maxLocals)) t := fun t kt => pre634 _ (st635 _ kt)
          have pre637 : ∀ t, Steps p.tables e below (T635.setTop (mkF m 310 #[iv p0, iv p1, iv p2, iv p3, iv (p0 &&& (3 : Int32)), iv mv, rv r_105, rv r_108, rv r_111, rv r_114, rv r_117, rv b120, iv (0 : Int32), iv (2 : Int32), iv (0 : Int32), rv a_FALSE, rv a_FALSE, rv a_FALSE] [(.ref b120)])) t → Steps p.tables e below (s₁.setTop (entryFrame m #[(.int p0), (.int p1), (.int p2), (.int p3)] maxLocals)) t := fun t kt => by
            refine pre636 _ ?_
            show Steps p.tables e below (T635.setTop (mkF m 306 #[iv p0, iv p1, iv p2, iv p3, iv (p0 &&& (3 : Int32)), iv mv, rv r_105, rv r_108, rv r_111, rv r_114, rv r_117, rv b120, iv (0 : Int32), iv (2 : Int32), iv (0 : Int32), rv a_FALSE, rv a_FALSE, .unset] [(.ref a_FALSE)])) _
            refine XS.astore X635.here hx rfl (hb hby at_306) rfl rfl (l' := #[iv p0, iv p1, iv p2, iv p3, iv (p0 &&& (3 : Int32)), iv mv, rv r_105, rv r_108, rv r_111, rv r_114, rv r_117, rv b120, iv (0 : Int32), iv (2 : Int32), iv (0 : Int32), rv a_FALSE, rv a_FALSE, rv a_FALSE]) rfl ?_
            refine XS.aload X635.here hx rfl (hb hby at_308) rfl rfl ?_
            exact kt
          obtain ⟨cq638, kq638, q638a, q638b, q638c⟩ := isOf hZ e635 J614_0
          obtain ⟨_, _, ⟨T638, L638, k638, n638⟩, -, X638, ⟨Lc638, hQ638, l638, y638, z638⟩, st638⟩ := X635.virtualBack hx (y := (⟨"com/example/contexture/contexture/engine/evaluation/TruthValue$Tally", "and", "()Lcom/example/contexture/contexture/engine/evaluation/TruthValue;"⟩ : MethodName)) (z := (⟨"com/example/contexture/contexture/engine/evaluation/TruthValue$Tally", "and", "()Lcom/example/contexture/contexture/engine/evaluation/TruthValue;"⟩ : MethodName)) hown (mvT hZ (W 46 rfl)) (mvT hZ (W 47 rfl)) (notFace_of_selects (args := #[]) (mvT hZ (W 49 rfl))) (mvT hZ (W 49 rfl)) (mvT hZ (W 48 rfl)) (by decide) (backOf (W := 0) (rm_and7_3 l Z a0 hw [] b120 a_FALSE h614 n0 O614 G4 J614_2) hZ (W 50 rfl) (W 14 rfl) (by decide) (by decide)) q638a q638c (g := (mkF m 310 #[iv p0, iv p1, iv p2, iv p3, iv (p0 &&& (3 : Int32)), iv mv, rv r_105, rv r_108, rv r_111, rv r_114, rv r_117, rv b120, iv (0 : Int32), iv (2 : Int32), iv (0 : Int32), rv a_FALSE, rv a_FALSE, rv a_FALSE] [(.ref b120)])) rfl (by rw [hml]; rfl) (Steps.refl _) (argsL := []) (rest := []) (lenOf pd_16 rfl) rfl (by show 2 * 0 + _ ≤ _; exact Nat.le_of_eq rfl) (hb hby at_310) (fun _ _ => ⟨rfl, e635, (by decide : 1 + 0 ≤ _), (by decide : 3 + 0 ≤ _)⟩)
          dsimp only [Pt.U, Pt.locs, Pt.cells, Pt.slots] at X638 l638 y638 z638 st638 hQ638
          replace l638 := l638.symm
          replace y638 : 1 = k638 := y638.symm
          replace z638 : 3 = n638 := z638.symm
          subst l638 y638 z638
          obtain ⟨rfl, M638, e638⟩ := hQ638
          have N638 := Fr.app N614 M638
          have pre660 : ∀ t, Steps p.tables e below (T638.setTop (mkF m 313 #[iv p0, iv p1, iv p2, iv p3, iv (p0 &&& (3 : Int32)), iv mv, rv r_105, rv r_108, rv r_111, rv r_114, rv r_117, rv b120, iv (0 : Int32), iv (2 : Int32), iv (0 : Int32), rv a_FALSE, rv a_FALSE, rv a_FALSE] [(.ref a_FALSE)])) t → Steps p.tables e below (s₁.setTop (entryFrame m #[(.int p0), (.int p1), (.int p2), (.int p3)] maxLocals)) t := fun t kt => pre637 _ (st638.trans kt)
          have pre661 : ∀ t, Steps p.tables e below (T638.setTop (mkF m 320 #[iv p0, iv p1, iv p2, iv p3, iv (p0 &&& (3 : Int32)), iv mv, rv r_105, rv r_108, rv r_111, rv r_114, rv r_117, rv b120, iv (0 : Int32), iv (2 : Int32), iv (0 : Int32), rv a_FALSE, rv a_FALSE, rv a_FALSE] [(.ref b120)])) t → Steps p.tables e below (s₁.setTop (entryFrame m #[(.int p0), (.int p1), (.int p2), (.int p3)] maxLocals)) t := fun t kt => by
            refine pre660 _ ?_
            show Steps p.tables e below (T638.setTop (mkF m 313 #[iv p0, iv p1, iv p2, iv p3, iv (p0 &&& (3 : Int32)), iv mv, rv r_105, rv r_108, rv r_111, rv r_114, rv r_117, rv b120, iv (0 : Int32), iv (2 : Int32), iv (0 : Int32), rv a_FALSE, rv a_FALSE, rv a_FALSE] [(.ref a_FALSE)])) _
            refine XS.aload X638.here hx rfl (hb hby at_313) rfl rfl ?_
            refine Jvm.RoadKit.acmp (g := (mkF m 315 #[iv p0, iv p1, iv p2, iv p3, iv (p0 &&& (3 : Int32)), iv mv, rv r_105, rv r_108, rv r_111, rv r_114, rv r_117, rv b120, iv (0 : Int32), iv (2 : Int32), iv (0 : Int32), rv a_FALSE, rv a_FALSE, rv a_FALSE] [(.ref a_FALSE), (.ref a_FALSE)])) X638 hx rfl rfl rfl (pc0 := 315) (pc' := 318) (same := true) rfl (hb hby at_315) rfl (decide_eq_true rfl) (by decide) (by decide) ?_
            refine XS.aload X638.here hx rfl (hb hby at_318) rfl rfl ?_
            exact kt
          obtain ⟨cq662, kq662, q662a, q662b, q662c⟩ := isOf hZ e638 J614_0
          obtain ⟨_, _, ⟨T662, L662, k662, n662⟩, -, X662, ⟨Lc662, hQ662, l662, y662, z662⟩, st662⟩ := X638.virtualBack hx (y := (⟨"com/example/contexture/contexture/engine/evaluation/TruthValue$Tally", "or", "()Lcom/example/contexture/contexture/engine/evaluation/TruthValue;"⟩ : MethodName)) (z := (⟨"com/example/contexture/contexture/engine/evaluation/TruthValue$Tally", "or", "()Lcom/example/contexture/contexture/engine/evaluation/TruthValue;"⟩ : MethodName)) hown (mvT hZ (W 52 rfl)) (mvT hZ (W 53 rfl)) (notFace_of_selects (args := #[]) (mvT hZ (W 55 rfl))) (mvT hZ (W 55 rfl)) (mvT hZ (W 54 rfl)) (by decide) (backOf (W := 0) (rm_or8_2 l Z a0 hw [] b120 a_FALSE h614 n0 O614 G4 J614_0 J614_1 J614_3) hZ (W 56 rfl) (W 14 rfl) (by decide) (by decide)) q662a q662c (g := (mkF m 320 #[iv p0, iv p1, iv p2, iv p3, iv (p0 &&& (3 : Int32)), iv mv, rv r_105, rv r_108, rv r_111, rv r_114, rv r_117, rv b120, iv (0 : Int32), iv (2 : Int32), iv (0 : Int32), rv a_FALSE, rv a_FALSE, rv a_FALSE] [(.ref b120)])) rfl (by rw [hml]; rfl) (Steps.refl _) (argsL := []) (rest := []) (lenOf pd_16 rfl) rfl (by show 2 * 0 + _ ≤ _; exact Nat.le_of_eq rfl) (hb hby at_320) (fun _ _ => ⟨rfl, e638, (by decide : 1 + 0 ≤ _), (by decide : 3 + 0 ≤ _)⟩)
          dsimp only [Pt.U, Pt.locs, Pt.cells, Pt.slots] at X662 l662 y662 z662 st662 hQ662
          replace l662 := l662.symm
          replace y662 : 1 = k662 := y662.symm
          replace z662 : 3 = n662 := z662.symm
          subst l662 y662 z662
          obtain ⟨rfl, M662, e662⟩ := hQ662
          have N662 := Fr.app N638 M662
          have pre687 : ∀ t, Steps p.tables e below (T662.setTop (mkF m 323 #[iv p0, iv p1, iv p2, iv p3, iv (p0 &&& (3 : Int32)), iv mv, rv r_105, rv r_108, rv r_111, rv r_114, rv r_117, rv b120, iv (0 : Int32), iv (2 : Int32), iv (0 : Int32), rv a_FALSE, rv a_FALSE, rv a_FALSE] [(.ref a_FALSE)])) t → Steps p.tables e below (s₁.setTop (entryFrame m #[(.int p0), (.int p1), (.int p2), (.int p3)] maxLocals)) t := fun t kt => pre661 _ (st662.trans kt)
          have pre688 : ∀ t, Steps p.tables e below (T662.setTop (mkF m 330 #[iv p0, iv p1, iv p2, iv p3, iv (p0 &&& (3 : Int32)), iv mv, rv r_105, rv r_108, rv r_111, rv r_114, rv r_117, rv b120, iv (0 : Int32), iv (2 : Int32), iv (0 : Int32), rv a_FALSE, rv a_FALSE, rv a_FALSE] [(.ref b120)])) t → Steps p.tables e below (s₁.setTop (entryFrame m #[(.int p0), (.int p1), (.int p2), (.int p3)] maxLocals)) t := fun t kt => by
            refine pre687 _ ?_
            show Steps p.tables e below (T662.setTop (mkF m 323 #[iv p0, iv p1, iv p2, iv p3, iv (p0 &&& (3 : Int32)), iv mv, rv r_105, rv r_108, rv r_111, rv r_114, rv r_117, rv b120, iv (0 : Int32), iv (2 : Int32), iv (0 : Int32), rv a_FALSE, rv a_FALSE, rv a_FALSE] [(.ref a_FALSE)])) _
            refine XS.aload X662.here hx rfl (hb hby at_323) rfl rfl ?_
            refine Jvm.RoadKit.acmp (g := (mkF m 325 #[iv p0, iv p1, iv p2, iv p3, iv (p0 &&& (3 : Int32)), iv mv, rv r_105, rv r_108, rv r_111, rv r_114, rv r_117, rv b120, iv (0 : Int32), iv (2 : Int32), iv (0 : Int32), rv a_FALSE, rv a_FALSE, rv a_FALSE] [(.ref a_FALSE), (.ref a_FALSE)])) X662 hx rfl rfl rfl (pc0 := 325) (pc' := 328) (same := true) rfl (hb hby at_325) rfl (decide_eq_true rfl) (by decide) (by decide) ?_
            refine XS.aload X662.here hx rfl (hb hby at_328) rfl rfl ?_
            exact kt
          obtain ⟨cq689, kq689, q689a, q689b, q689c⟩ := isOf hZ e662 J614_0
          obtain ⟨_, _, ⟨T689, L689, k689, n689⟩, -, X689, ⟨Lc689, hQ689, l689, y689, z689⟩, st689⟩ := X662.virtualBack hx (y := (⟨"com/example/contexture/contexture/engine/evaluation/TruthValue$Tally", "xor", "()Lcom/example/contexture/contexture/engine/evaluation/TruthValue;"⟩ : MethodName)) (z := (⟨"com/example/contexture/contexture/engine/evaluation/TruthValue$Tally", "xor", "()Lcom/example/contexture/contexture/engine/evaluation/TruthValue;"⟩ : MethodName)) hown (mvT hZ (W 58 rfl)) (mvT hZ (W 59 rfl)) (notFace_of_selects (args := #[]) (mvT hZ (W 61 rfl))) (mvT hZ (W 61 rfl)) (mvT hZ (W 60 rfl)) (by decide) (backOf (W := 0) (rm_xor9_3 l Z a0 hw [] b120 a_FALSE h614 n0 O614 G4 J614_0 J614_1 J614_3) hZ (W 62 rfl) (W 14 rfl) (by decide) (by decide)) q689a q689c (g := (mkF m 330 #[iv p0, iv p1, iv p2, iv p3, iv (p0 &&& (3 : Int32)), iv mv, rv r_105, rv r_108, rv r_111, rv r_114, rv r_117, rv b120, iv (0 : Int32), iv (2 : Int32), iv (0 : Int32), rv a_FALSE, rv a_FALSE, rv a_FALSE] [(.ref b120)])) rfl (by rw [hml]; rfl) (Steps.refl _) (argsL := []) (rest := []) (lenOf pd_16 rfl) rfl (by show 2 * 0 + _ ≤ _; exact Nat.le_of_eq rfl) (hb hby at_330) (fun _ _ => ⟨rfl, e662, (by decide : 1 + 0 ≤ _), (by decide : 3 + 0 ≤ _)⟩)
          dsimp only [Pt.U, Pt.locs, Pt.cells, Pt.slots] at X689 l689 y689 z689 st689 hQ689
          replace l689 := l689.symm
          replace y689 : 1 = k689 := y689.symm
          replace z689 : 3 = n689 := z689.symm
          subst l689 y689 z689
          obtain ⟨rfl, M689, e689⟩ := hQ689
          have N689 := Fr.app N662 M689
          have pre714 : ∀ t, Steps p.tables e below (T689.setTop (mkF m 333 #[iv p0, iv p1, iv p2, iv p3, iv (p0 &&& (3 : Int32)), iv mv, rv r_105, rv r_108, rv r_111, rv r_114, rv r_117, rv b120, iv (0 : Int32), iv (2 : Int32), iv (0 : Int32), rv a_FALSE, rv a_FALSE, rv a_FALSE] [(.ref a_FALSE)])) t → Steps p.tables e below (s₁.setTop (entryFrame m #[(.int p0), (.int p1), (.int p2), (.int p3)] maxLocals)) t := fun t kt => pre688 _ (st689.trans kt)
          have pre715 : ∀ t, Steps p.tables e below (T689.setTop (mkF m 343 #[iv p0, iv p1, iv p2, iv p3, iv (p0 &&& (3 : Int32)), iv mv, rv r_105, rv r_108, rv r_111, rv r_114, rv r_117, rv b120, iv (0 : Int32), iv (2 : Int32), iv (0 : Int32), rv a_FALSE, rv a_FALSE, rv a_FALSE] [(.int (1 : Int32))])) t → Steps p.tables e below (s₁.setTop (entryFrame m #[(.int p0), (.int p1), (.int p2), (.int p3)] maxLocals)) t := fun t kt => by
            refine pre714 _ ?_
            show Steps p.tables e below (T689.setTop (mkF m 333 #[iv p0, iv p1, iv p2, iv p3, iv (p0 &&& (3 : Int32)), iv mv, rv r_105, rv r_108, rv r_111, rv r_114, rv r_117, rv b120, iv (0 : Int32), iv (2 : Int32), iv (0 : Int32), rv a_FALSE, rv a_FALSE, rv a_FALSE] [(.ref a_FALSE)])) _
            refine XS.aload X689.here hx rfl (hb hby at_333) rfl rfl ?_
            refine Jvm.RoadKit.acmp (g := (mkF m 335 #[iv p0, iv p1, iv p2, iv p3, iv (p0 &&& (3 : Int32)), iv mv, rv r_105, rv r_108, rv r_111, rv r_114, rv r_117, rv b120, iv (0 : Int32), iv (2 : Int32), iv (0 : Int32), rv a_FALSE, rv a_FALSE, rv a_FALSE] [(.ref a_FALSE), (.ref a_FALSE)])) X689 hx rfl rfl rfl (pc0 := 335) (pc' := 338) (same := true) rfl (hb hby at_335) rfl (decide_eq_true rfl) (by decide) (by decide) ?_
            refine XS.iconst X689.here hx rfl (hb hby at_338) ?_
            refine XS.goto X689.here hx rfl (pc0 := 339) (pc' := 343) rfl (hb hby at_339) (by decide) (by decide) ?_
            exact kt
          obtain ⟨fs, hr, hrun, hended, hW, hsame⟩ := X689.leave (v := some (.int (1 : Int32))) (fun h => by rw [Bd.returns] at h; cases h)
          refine ⟨_, _, pre715 _ (retN X689 hx (t := .boolean) Bd.returns (by simp) (hb hby at_343) hr), hrun, hended, _, _, rfl, ?_, ⟨_, rfl⟩, hW, hsame.mono (by decide) (by decide)⟩
          show Q_law Z p0 p1 p2 p3 a_UNKNOWN a_TRUE a_FALSE h0 n0 _ T689.heap _
          rw [e689]
          exact ⟨rfl, N689⟩
        · have Gr716 : Exa Z Z.heap r_117 "com/example/contexture/contexture/engine/evaluation/TruthValue" := hv579 ▸ G1
          have Gr717 : Fld Z Z.heap r_117 "java/lang/Enum" "ordinal" "I" (.int (2 : Int32)) := hv579 ▸ G8
          obtain ⟨cq718, kq718, q718a, q718b, q718c⟩ := isOf hZ e574 J574_0
          obtain ⟨_, _, ⟨T718, L718, k718, n718⟩, -, X718, ⟨Lc718, hQ718, l718, y718, z718⟩, st718⟩ := X574.virtualBack hx (y := (⟨"com/example/contexture/contexture/engine/evaluation/TruthValue$Tally", "add", "(Lcom/example/contexture/contexture/engine/evaluation/TruthValue;)V"⟩ : MethodName)) (z := (⟨"com/example/contexture/contexture/engine/evaluation/TruthValue$Tally", "add", "(Lcom/example/contexture/contexture/engine/evaluation/TruthValue;)V"⟩ : MethodName)) hown (mvT hZ (W 32 rfl)) (mvT hZ (W 33 rfl)) (notFace_of_selects (args := #[]) (mvT hZ (W 35 rfl))) (mvT hZ (W 35 rfl)) (mvT hZ (W 34 rfl)) (by decide) (backOf (W := 0) (rm_add2 l Z a0 hw [] b120 r_117 ((0 : Int32)) (((0 : Int32) + (1 : Int32))) ((0 : Int32)) h574 n0 O574 Gr716 Gr717 g_b120 J574_0 J574_1 J574_2 J574_3) hZ (W 36 rfl) (W 14 rfl) (by decide) (by decide)) q718a q718c (g := (mkF m 123 #[iv p0, iv p1, iv p2, iv p3, iv (p0 &&& (3 : Int32)), iv mv, rv r_105, rv r_108, rv r_111, rv r_114, rv r_117, rv b120, .unset, .unset, .unset, .unset, .unset, .unset] [(.ref r_117), (.ref b120)])) rfl (by rw [hml]; rfl) (Steps.refl _) (argsL := [(.ref r_117)]) (rest := []) (lenOf pd_12 rfl) rfl (by show 2 * 0 + _ ≤ _; exact Nat.le_of_eq rfl) (hb hby at_123) (fun _ _ => ⟨rfl, e574, (by decide : 1 + 0 ≤ _), (by decide : 3 + 0 ≤ _)⟩)
          dsimp only [Pt.U, Pt.locs, Pt.cells, Pt.slots] at X718 l718 y718 z718 st718 hQ718
          replace l718 := l718.symm
          replace y718 : 1 = k718 := y718.symm
          replace z718 : 3 = n718 := z718.symm
          subst l718 y718 z718
          obtain ⟨rfl, M718, Kc718, O718, J718_0, J718_1, J718_2, J718_3⟩ := hQ718
          obtain ⟨h718, e718⟩ : ∃ z, T718.heap = z := ⟨_, rfl⟩
          rw [e718] at Kc718 O718 J718_0 J718_1 J718_2 J718_3
          have N718 := Fr.app N574 M718
          have K718 : Keep h0 h718 [] := K574.trans Kc718 (own_all1 (Or.inr sz_b120))
          have pre719 : ∀ t, Steps p.tables e below (T718.setTop (mkF m 126 #[iv p0, iv p1, iv p2, iv p3, iv (p0 &&& (3 : Int32)), iv mv, rv r_105, rv r_108, rv r_111, rv r_114, rv r_117, rv b120, .unset, .unset, .unset, .unset, .unset, .unset] [])) t → Steps p.tables e below (s₁.setTop (entryFrame m #[(.int p0), (.int p1), (.int p2), (.int p3)] maxLocals)) t := fun t kt => pre578 _ (st718.trans kt)
          have pre720 : ∀ t, Steps p.tables e below (T718.setTop (mkF m 142 #[iv p0, iv p1, iv p2, iv p3, iv (p0 &&& (3 : Int32)), iv mv, rv r_105, rv r_108, rv r_111, rv r_114, rv r_117, rv b120, iv (0 : Int32), iv (0 : Int32), iv (0 : Int32), .unset, .unset, .unset] [(.ref r_114)])) t → Steps p.tables e below (s₁.setTop (entryFrame m #[(.int p0), (.int p1), (.int p2), (.int p3)] maxLocals)) t := fun t kt => by
            refine pre719 _ ?_
            show Steps p.tables e below (T718.setTop (mkF m 126 #[iv p0, iv p1, iv p2, iv p3, iv (p0 &&& (3 : Int32)), iv mv, rv r_105, rv r_108, rv r_111, rv r_114, rv r_117, rv b120, .unset, .unset, .unset, .unset, .unset, .unset] [])) _
            refine XS.iconst X718.here hx rfl (hb hby at_126) ?_
            refine XS.istore X718.here hx rfl (hb hby at_127) rfl (l' := #[iv p0, iv p1, iv p2, iv p3, iv (p0 &&& (3 : Int32)), iv mv, rv r_105, rv r_108, rv r_111, rv r_114, rv r_117, rv b120, iv (0 : Int32), .unset, .unset, .unset, .unset, .unset]) rfl ?_
            refine XS.iconst X718.here hx rfl (hb hby at_129) ?_
            refine XS.istore X718.here hx rfl (hb hby at_130) rfl (l' := #[iv p0, iv p1, iv p2, iv p3, iv (p0 &&& (3 : Int32)), iv mv, rv r_105, rv r_108, rv r_111, rv r_114, rv r_117, rv b120, iv (0 : Int32), iv (0 : Int32), .unset, .unset, .unset, .unset]) rfl ?_
            show Steps p.tables e below (T718.setTop (mkF m 132 #[iv p0, iv p1, iv p2, iv p3, iv (p0 &&& (3 : Int32)), iv mv, rv r_105, rv r_108, rv r_111, rv r_114, rv r_117, rv b120, iv (0 : Int32), iv (0 : Int32), .unset, .unset, .unset, .unset] [])) _
            refine XS.iconst X718.here hx rfl (hb hby at_132) ?_
            refine XS.istore X718.here hx rfl (hb hby at_133) rfl (l' := #[iv p0, iv p1, iv p2, iv p3, iv (p0 &&& (3 : Int32)), iv mv, rv r_105, rv r_108, rv r_111, rv r_114, rv r_117, rv b120, iv (0 : Int32), iv (0 : Int32), iv (0 : Int32), .unset, .unset, .unset]) rfl ?_
            refine XS.iload X718.here hx rfl (hb hby at_135) rfl ?_
            refine XS.ifNo X718.here hx rfl (hb hby at_137) rfl (XT.i0_le_f hc209) ?_
            show Steps p.tables e below (T718.setTop (mkF m 140 #[iv p0, iv p1, iv p2, iv p3, iv (p0 &&& (3 : Int32)), iv mv, rv r_105, rv r_108, rv r_111, rv r_114, rv r_117, rv b120, iv (0 : Int32), iv (0 : Int32), iv (0 : Int32), .unset, .unset, .unset] [])) _
            refine XS.aload X718.here hx rfl (hb hby at_140) rfl rfl ?_
            exact kt
          obtain ⟨T721, X721, e721, st721⟩ := getS2 X718 hx hZ hown (host := "") (Or.inl (W 8 rfl)) Via.refl e718 (G2.ext O718.2) (g := (mkF m 142 #[iv p0, iv p1, iv p2, iv p3, iv (p0 &&& (3 : Int32)), iv mv, rv r_105, rv r_108, rv r_111, rv r_114, rv r_117, rv b120, iv (0 : Int32), iv (0 : Int32), iv (0 : Int32), .unset, .unset, .unset] [(.ref r_114)])) rfl (hb hby at_142)
          have pre722 : ∀ t, Steps p.tables e below (T721.setTop (mkF m 145 #[iv p0, iv p1, iv p2, iv p3, iv (p0 &&& (3 : Int32)), iv mv, rv r_105, rv r_108, rv r_111, rv r_114, rv r_117, rv b120, iv (0 : Int32), iv (0 : Int32), iv (0 : Int32), .unset, .unset, .unset] [(.ref a_TRUE), (.ref r_114)])) t → Steps p.tables e below (s₁.setTop (entryFrame m #[(.int p0), (.int p1), (.int p2), (.int p3)] maxLocals)) t := fun t kt => pre720 _ (st721 _ kt)
          have pre723 : ∀ t, Steps p.tables e below (T721.setTop (mkF m 159 #[iv p0, iv p1, iv p2, iv p3, iv (p0 &&& (3 : Int32)), iv mv, rv r_105, rv r_108, rv r_111, rv r_114, rv r_117, rv b120, iv (0 : Int32), iv (0 : Int32), iv (0 : Int32), .unset, .unset, .unset] [(.ref r_114)])) t → Steps p.tables e below (s₁.setTop (entryFrame m #[(.int p0), (.int p1), (.int p2), (.int p3)] maxLocals)) t := fun t kt => by
            refine pre722 _ ?_
            show Steps p.tables e below (T721.setTop (mkF m 145 #[iv p0, iv p1, iv p2, iv p3, iv (p0 &&& (3 : Int32)), iv mv, rv r_105, rv r_108, rv r_111, rv r_114, rv r_117, rv b120, iv (0 : Int32), iv (0 : Int32), iv (0 : Int32), .unset, .unset, .unset] [(.ref a_TRUE), (.ref r_114)])) _
            refine Jvm.RoadKit.acmp (g := (mkF m 145 #[iv p0, iv p1, iv p2, iv p3, iv (p0 &&& (3 : Int32)), iv mv, rv r_105, rv r_108, rv r_111, rv r_114, rv r_117, rv b120, iv (0 : Int32), iv (0 : Int32), iv (0 : Int32), .unset, .unset, .unset] [(.ref a_TRUE), (.ref r_114)])) X721 hx rfl rfl rfl (pc0 := 145) (pc' := 157) (same := false) rfl (hb hby at_145) rfl (decide_eq_false fun q => (fun z => ne_a_FALSE_a_TRUE (hv211.symm.trans z)) (Value.ref.inj q)) (by decide) (by decide) ?_
            refine XS.aload X721.here hx rfl (hb hby at_157) rfl rfl ?_
            exact kt
          obtain ⟨T724, X724, e724, st724⟩ := getS2 X721 hx hZ hown (host := "") (Or.inl (W 10 rfl)) Via.refl e721 (G4.ext O718.2) (g := (mkF m 159 #[iv p0, iv p1, iv p2, iv p3, iv (p0 &&& (3 : Int32)), iv mv, rv r_105, rv r_108, rv r_111, rv r_114, rv r_117, rv b120, iv (0 : Int32), iv (0 : Int32), iv (0 : Int32), .unset, .unset, .unset] [(.ref r_114)])) rfl (hb hby at_159)
          have pre725 : ∀ t, Steps p.tables e below (T724.setTop (mkF m 162 #[iv p0, iv p1, iv p2, iv p3, iv (p0 &&& (3 : Int32)), iv mv, rv r_105, rv r_108, rv r_111, rv r_114, rv r_117, rv b120, iv (0 : Int32), iv (0 : Int32), iv (0 : Int32), .unset, .unset, .unset] [(.ref a_FALSE), (.ref r_114)])) t → Steps p.tables e below (s₁.setTop (entryFrame m #[(.int p0), (.int p1), (.int p2), (.int p3)] maxLocals)) t := fun t kt => pre723 _ (st724 _ kt)
          have pre726 : ∀ t, Steps p.tables e below (T724.setTop (mkF m 188 #[iv p0, iv p1, iv p2, iv p3, iv (p0 &&& (3 : Int32)), iv mv, rv r_105, rv r_108, rv r_111, rv r_114, rv r_117, rv b120, iv (0 : Int32), iv (1 : Int32), iv (0 : Int32), .unset, .unset, .unset] [(.ref r_117)])) t → Steps p.tables e below (s₁.setTop (entryFrame m #[(.int p0), (.int p1), (.int p2), (.int p3)] maxLocals)) t := fun t kt => by
            refine pre725 _ ?_
            show Steps p.tables e below (T724.setTop (mkF m 162 #[iv p0, iv p1, iv p2, iv p3, iv (p0 &&& (3 : Int32)), iv mv, rv r_105, rv r_108, rv r_111, rv r_114, rv r_117, rv b120, iv (0 : Int32), iv (0 : Int32), iv (0 : Int32), .unset, .unset, .unset] [(.ref a_FALSE), (.ref r_114)])) _
            refine Jvm.RoadKit.acmp (g := (mkF m 162 #[iv p0, iv p1, iv p2, iv p3, iv (p0 &&& (3 : Int32)), iv mv, rv r_105, rv r_108, rv r_111, rv r_114, rv r_117, rv b120, iv (0 : Int32), iv (0 : Int32), iv (0 : Int32), .unset, .unset, .unset] [(.ref a_FALSE), (.ref r_114)])) X724 hx rfl rfl rfl (pc0 := 162) (pc' := 165) (same := true) rfl (hb hby at_162) rfl (decide_eq_true (congrArg Value.ref hv211)) (by decide) (by decide) ?_
            refine XS.iload X724.here hx rfl (hb hby at_165) rfl ?_
            refine XS.iconst X724.here hx rfl (hb hby at_167) ?_
            refine XS.iadd X724.here hx rfl (hb hby at_168) rfl ?_
            show  Steps p.tables e below (T724.setTop (mkF m 169 #[iv p0, iv p1, iv p2, iv p3, iv (p0 &&& (3 : Int32)), iv mv, rv r_105, rv r_108, rv r_111, rv r_114, rv r_117, rv b120, iv (0 : Int32), iv (0 : Int32), iv (0 : Int32), .unset, .unset, .unset] [(.int ((0 : Int32) + (1 : Int32)))])) _
            rw [(by decide : (((0 : Int32) + (1 : Int32)) : Int32) = (1 : Int32))]
            show Steps p.tables e below (T724.setTop (mkF m 169 #[iv p0, iv p1, iv p2, iv p3, iv (p0 &&& (3 : Int32)), iv mv, rv r_105, rv r_108, rv r_111, rv r_114, rv r_117, rv b120, iv (0 : Int32), iv (0 : Int32), iv (0 : Int32), .unset, .unset, .unset] [(.int (1 : Int32))])) _
            refine XS.istore X724.here hx rfl (hb hby at_169) rfl (l' := #[iv p0, iv p1, iv p2, iv p3, iv (p0 &&& (3 : Int32)), iv mv, rv r_105, rv r_108, rv r_111, rv r_114, rv r_117, rv b120, iv (0 : Int32), iv (1 : Int32), iv (0 : Int32), .unset, .unset, .unset]) rfl ?_
            refine XS.goto X724.here hx rfl (pc0 := 171) (pc' := 180) rfl (hb hby at_171) (by decide) (by decide) ?_
            refine XS.iload X724.here hx rfl (hb hby at_180) rfl ?_
            refine XS.iconst X724.here hx rfl (hb hby at_182) ?_
            show Steps p.tables e below (T724.setTop (mkF m 183 #[iv p0, iv p1, iv p2, iv p3, iv (p0 &&& (3 : Int32)), iv mv, rv r_105, rv r_108, rv r_111, rv r_114, rv r_117, rv b120, iv (0 : Int32), iv (1 : Int32), iv (0 : Int32), .unset, .unset, .unset] [(.int (1 : Int32)), (.int mv)])) _
            refine XS.icmpNo X724.here hx rfl (hb hby at_183) rfl (XT.ii_le_f hc577) ?_
            refine XS.aload X724.here hx rfl (hb hby at_186) rfl rfl ?_
            exact kt
          obtain ⟨T727, X727, e727, st727⟩ := getS2 X724 hx hZ hown (host := "") (Or.inl (W 8 rfl)) Via.refl e724 (G2.ext O718.2) (g := (mkF m 188 #[iv p0, iv p1, iv p2, iv p3, iv (p0 &&& (3 : Int32)), iv mv, rv r_105, rv r_108, rv r_111, rv r_114, rv r_117, rv b120, iv (0 : Int32), iv (1 : Int32), iv (0 : Int32), .unset, .unset, .unset] [(.ref r_117)])) rfl (hb hby at_188)
          have pre728 : ∀ t, Steps p.tables e below (T727.setTop (mkF m 191 #[iv p0, iv p1, iv p2, iv p3, iv (p0 &&& (3 : Int32)), iv mv, rv r_105, rv r_108, rv r_111, rv r_114, rv r_117, rv b120, iv (0 : Int32), iv (1 : Int32), iv (0 : Int32), .unset, .unset, .unset] [(.ref a_TRUE), (.ref r_117)])) t → Steps p.tables e below (s₁.setTop (entryFrame m #[(.int p0), (.int p1), (.int p2), (.int p3)] maxLocals)) t := fun t kt => pre726 _ (st727 _ kt)
          have pre729 : ∀ t, Steps p.tables e below (T727.setTop (mkF m 205 #[iv p0, iv p1, iv p2, iv p3, iv (p0 &&& (3 : Int32)), iv mv, rv r_105, rv r_108, rv r_111, rv r_114, rv r_117, rv b120, iv (0 : Int32), iv (1 : Int32), iv (0 : Int32), .unset, .unset, .unset] [(.ref r_117)])) t → Steps p.tables e below (s₁.setTop (entryFrame m #[(.int p0), (.int p1), (.int p2), (.int p3)] maxLocals)) t := fun t kt => by
            refine pre728 _ ?_
            show Steps p.tables e below (T727.setTop (mkF m 191 #[iv p0, iv p1, iv p2, iv p3, iv (p0 &&& (3 : Int32)), iv mv, rv r_105, rv r_108, rv r_111, rv r_114, rv r_117, rv b120, iv (0 : Int32), iv (1 : Int32), iv (0 : Int32), .unset, .unset, .unset] [(.ref a_TRUE), (.ref r_117)])) _
            refine Jvm.RoadKit.acmp (g := (mkF m 191 #[iv p0, iv p1, iv p2, iv p3, iv (p0 &&& (3 : Int32)), iv mv, rv r_105, rv r_108, rv r_111, rv r_114, rv r_117, rv b120, iv (0 : Int32), iv (1 : Int32), iv (0 : Int32), .unset, .unset, .unset] [(.ref a_TRUE), (.ref r_117)])) X727 hx rfl rfl rfl (pc0 := 191) (pc' := 203) (same := false) rfl (hb hby at_191) rfl (decide_eq_false fun q => (fun z => (fun q => ne_a_TRUE_a_UNKNOWN q.symm) (hv579.symm.trans z)) (Value.ref.inj q)) (by decide) (by decide) ?_
            refine XS.aload X727.here hx rfl (hb hby at_203) rfl rfl ?_
            exact kt
          obtain ⟨T730, X730, e730, st730⟩ := getS2 X727 hx hZ hown (host := "") (Or.inl (W 10 rfl)) Via.refl e727 (G4.ext O718.2) (g := (mkF m 205 #[iv p0, iv p1, iv p2, iv p3, iv (p0 &&& (3 : Int32)), iv mv, rv r_105, rv r_108, rv r_111, rv r_114, rv r_117, rv b120, iv (0 : Int32), iv (1 : Int32), iv (0 : Int32), .unset, .unset, .unset] [(.ref r_117)])) rfl (hb hby at_205)
          have pre731 : ∀ t, Steps p.tables e below (T730.setTop (mkF m 208 #[iv p0, iv p1, iv p2, iv p3, iv (p0 &&& (3 : Int32)), iv mv, rv r_105, rv r_108, rv r_111, rv r_114, rv r_117, rv b120, iv (0 : Int32), iv (1 : Int32), iv (0 : Int32), .unset, .unset, .unset] [(.ref a_FALSE), (.ref r_117)])) t → Steps p.tables e below (s₁.setTop (entryFrame m #[(.int p0), (.int p1), (.int p2), (.int p3)] maxLocals)) t := fun t kt => pre729 _ (st730 _ kt)
          have pre732 : ∀ t, Steps p.tables e below (T730.setTop (mkF m 231 #[iv p0, iv p1, iv p2, iv p3, iv (p0 &&& (3 : Int32)), iv mv, rv r_105, rv r_108, rv r_111, rv r_114, rv r_117, rv b120, iv (0 : Int32), iv (1 : Int32), iv (1 : Int32), .unset, .unset, .unset] [])) t → Steps p.tables e below (s₁.setTop (entryFrame m #[(.int p0), (.int p1), (.int p2), (.int p3)] maxLocals)) t := fun t kt => by
            refine pre731 _ ?_
            show Steps p.tables e below (T730.setTop (mkF m 208 #[iv p0, iv p1, iv p2, iv p3, iv (p0 &&& (3 : Int32)), iv mv, rv r_105, rv r_108, rv r_111, rv r_114, rv r_117, rv b120, iv (0 : Int32), iv (1 : Int32), iv (0 : Int32), .unset, .unset, .unset] [(.ref a_FALSE), (.ref r_117)])) _
            refine Jvm.RoadKit.acmp (g := (mkF m 208 #[iv p0, iv p1, iv p2, iv p3, iv (p0 &&& (3 : Int32)), iv mv, rv r_105, rv r_108, rv r_111, rv r_114, rv r_117, rv b120, iv (0 : Int32), iv (1 : Int32), iv (0 : Int32), .unset, .unset, .unset] [(.ref a_FALSE), (.ref r_117)])) X730 hx rfl rfl rfl (pc0 := 208) (pc' := 220) (same := false) rfl (hb hby at_208) rfl (decide_eq_false fun q => (fun z => (fun q => ne_a_FALSE_a_UNKNOWN q.symm) (hv579.symm.trans z)) (Value.ref.inj q)) (by decide) (by decide) ?_
            refine XS.iload X730.here hx rfl (hb hby at_220) rfl ?_
            refine XS.iconst X730.here hx rfl (hb hby at_222) ?_
            refine XS.iadd X730.here hx rfl (hb hby at_223) rfl ?_
            show  Steps p.tables e below (T730.setTop (mkF m 224 #[iv p0, iv p1, iv p2, iv p3, iv (p0 &&& (3 : Int32)), iv mv, rv r_105, rv r_108, rv r_111, rv r_114, rv r_117, rv b120, iv (0 : Int32), iv (1 : Int32), iv (0 : Int32), .unset, .unset, .unset] [(.int ((0 : Int32) + (1 : Int32)))])) _
            rw [(by decide : (((0 : Int32) + (1 : Int32)) : Int32) = (1 : Int32))]
            show Steps p.tables e below (T730.setTop (mkF m 224 #[iv p0, iv p1, iv p2, iv p3, iv (p0 &&& (3 : Int32)), iv mv, rv r_105, rv r_108, rv r_111, rv r_114, rv r_117, rv b120, iv (0 : Int32), iv (1 : Int32), iv (0 : Int32), .unset, .unset, .unset] [(.int (1 : Int32))])) _
            refine XS.istore X730.here hx rfl (hb hby at_224) rfl (l' := #[iv p0, iv p1, iv p2, iv p3, iv (p0 &&& (3 : Int32)), iv mv, rv r_105, rv r_108, rv r_111, rv r_114, rv r_117, rv b120, iv (0 : Int32), iv (1 : Int32), iv (1 : Int32), .unset, .unset, .unset]) rfl ?_
            refine XS.iload X730.here hx rfl (hb hby at_226) rfl ?_
            refine XS.ifNo X730.here hx rfl (hb hby at_228) rfl (XT.i0_le_f (by decide)) ?_
            exact kt
          obtain ⟨T733, X733, e733, st733⟩ := getS2 X730 hx hZ hown (host := "") (Or.inl (W 10 rfl)) Via.refl e730 (G4.ext O718.2) (g := (mkF m 231 #[iv p0, iv p1, iv p2, iv p3, iv (p0 &&& (3 : Int32)), iv mv, rv r_105, rv r_108, rv r_111, rv r_114, rv r_117, rv b120, iv (0 : Int32), iv (1 : Int32), iv (1 : Int32), .unset, .unset, .unset] [])) rfl (hb hby at_231)
          have pre734 : ∀ t, Steps p.tables e below (T733.setTop (mkF m 234 #[iv p0, iv p1, iv p2, iv p3, iv (p0 &&& (3 : Int32)), iv mv, rv r_105, rv r_108, rv r_111, rv r_114, rv r_117, rv b120, iv (0 : Int32), iv (1 : Int32), iv (1 : Int32), .unset, .unset, .unset] [(.ref a_FALSE)])) t → Steps p.tables e below (s₁.setTop (entryFrame m #[(.int p0), (.int p1), (.int p2), (.int p3)] maxLocals)) t := fun t kt => pre732 _ (st733 _ kt)
          have pre735 : ∀ t, Steps p.tables e below (T733.setTop (mkF m 269 #[iv p0, iv p1, iv p2, iv p3, iv (p0 &&& (3 : Int32)), iv mv, rv r_105, rv r_108, rv r_111, rv r_114, rv r_117, rv b120, iv (0 : Int32), iv (1 : Int32), iv (1 : Int32), rv a_FALSE, .unset, .unset] [])) t → Steps p.tables e below (s₁.setTop (entryFrame m #[(.int p0), (.int p1), (.int p2), (.int p3)] maxLocals)) t := fun t kt => by
            refine pre734 _ ?_
            show Steps p.tables e below (T733.setTop (mkF m 234 #[iv p0, iv p1, iv p2, iv p3, iv (p0 &&& (3 : Int32)), iv mv, rv r_105, rv r_108, rv r_111, rv r_114, rv r_117, rv b120, iv (0 : Int32), iv (1 : Int32), iv (1 : Int32), .unset, .unset, .unset] [(.ref a_FALSE)])) _
            refine XS.goto X733.here hx rfl (pc0 := 234) (pc' := 251) rfl (hb hby at_234) (by decide) (by decide) ?_
            refine XS.astore X733.here hx rfl (hb hby at_251) rfl rfl (l' := #[iv p0, iv p1, iv p2, iv p3, iv (p0 &&& (3 : Int32)), iv mv, rv r_105, rv r_108, rv r_111, rv r_114, rv r_117, rv b120, iv (0 : Int32), iv (1 : Int32), iv (1 : Int32), rv a_FALSE, .unset, .unset]) rfl ?_
            refine XS.iload X733.here hx rfl (hb hby at_253) rfl ?_
            refine XS.ifYes X733.here hx rfl (pc0 := 255) (pc' := 264) rfl (hb hby at_255) rfl (XT.i0_le_t (by decide)) (by decide) (by decide) ?_
            show Steps p.tables e below (T733.setTop (mkF m 264 #[iv p0, iv p1, iv p2, iv p3, iv (p0 &&& (3 : Int32)), iv mv, rv r_105, rv r_108, rv r_111, rv r_114, rv r_117, rv b120, iv (0 : Int32), iv (1 : Int32), iv (1 : Int32), rv a_FALSE, .unset, .unset] [])) _
            refine XS.iload X733.here hx rfl (hb hby at_264) rfl ?_
            refine XS.ifNo X733.here hx rfl (hb hby at_266) rfl (XT.i0_le_f (by decide)) ?_
            exact kt
          obtain ⟨T736, X736, e736, st736⟩ := getS2 X733 hx hZ hown (host := "") (Or.inl (W 5 rfl)) Via.refl e733 (G0.ext O718.2) (g := (mkF m 269 #[iv p0, iv p1, iv p2, iv p3, iv (p0 &&& (3 : Int32)), iv mv, rv r_105, rv r_108, rv r_111, rv r_114, rv r_117, rv b120, iv (0 : Int32), iv (1 : Int32), iv (1 : Int32), rv a_FALSE, .unset, .unset] [])) rfl (hb hby at_269)
          have pre737 : ∀ t, Steps p.tables e below (T736.setTop (mkF m 272 #[iv p0, iv p1, iv p2, iv p3, iv (p0 &&& (3 : Int32)), iv mv, rv r_105, rv r_108, rv r_111, rv r_114, rv r_117, rv b120, iv (0 : Int32), iv (1 : Int32), iv (1 : Int32), rv a_FALSE, .unset, .unset] [(.ref a_UNKNOWN)])) t → Steps p.tables e below (s₁.setTop (entryFrame m #[(.int p0), (.int p1), (.int p2), (.int p3)] maxLocals)) t := fun t kt => pre735 _ (st736 _ kt)
          have pre738 : ∀ t, Steps p.tables e below (T736.setTop (mkF m 285 #[iv p0, iv p1, iv p2, iv p3, iv (p0 &&& (3 : Int32)), iv mv, rv r_105, rv r_108, rv r_111, rv r_114, rv r_117, rv b120, iv (0 : Int32), iv (1 : Int32), iv (1 : Int32), rv a_FALSE, rv a_UNKNOWN, .unset] [])) t → Steps p.tables e below (s₁.setTop (entryFrame m #[(.int p0), (.int p1), (.int p2), (.int p3)] maxLocals)) t := fun t kt => by
            refine pre737 _ ?_
            show Steps p.tables e below (T736.setTop (mkF m 272 #[iv p0, iv p1, iv p2, iv p3, iv (p0 &&& (3 : Int32)), iv mv, rv r_105, rv r_108, rv r_111, rv r_114, rv r_117, rv b120, iv (0 : Int32), iv (1 : Int32), iv (1 : Int32), rv a_FALSE, .unset, .unset] [(.ref a_UNKNOWN)])) _
            refine XS.goto X736.here hx rfl (pc0 := 272) (pc' := 278) rfl (hb hby at_272) (by decide) (by decide) ?_
            refine XS.astore X736.here hx rfl (hb hby at_278) rfl rfl (l' := #[iv p0, iv p1, iv p2, iv p3, iv (p0 &&& (3 : Int32)), iv mv, rv r_105, rv r_108, rv r_111, rv r_114, rv r_117, rv b120, iv (0 : Int32), iv (1 : Int32), iv (1 : Int32), rv a_FALSE, rv a_UNKNOWN, .unset]) rfl ?_
            refine XS.iload X736.here hx rfl (hb hby at_280) rfl ?_
            refine XS.ifNo X736.here hx rfl (hb hby at_282) rfl (XT.i0_le_f (by decide)) ?_
            exact kt
          obtain ⟨T739, X739, e739, st739⟩ := getS2 X736 hx hZ hown (host := "") (Or.inl (W 5 rfl)) Via.refl e736 (G0.ext O718.2) (g := (mkF m 285 #[iv p0, iv p1, iv p2, iv p3, iv (p0 &&& (3 : Int32)), iv mv, rv r_105, rv r_108, rv r_111, rv r_114, rv r_117, rv b120, iv (0 : Int32), iv (1 : Int32), iv (1 : Int32), rv a_FALSE, rv a_UNKNOWN, .unset] [])) rfl (hb hby at_285)
          have pre740 : ∀ t, Steps p.tables e below (T739.setTop (mkF m 288 #[iv p0, iv p1, iv p2, iv p3, iv (p0 &&& (3 : Int32)), iv mv, rv r_105, rv r_108, rv r_111, rv r_114, rv r_117, rv b120, iv (0 : Int32), iv (1 : Int32), iv (1 : Int32), rv a_FALSE, rv a_UNKNOWN, .unset] [(.ref a_UNKNOWN)])) t → Steps p.tables e below (s₁.setTop (entryFrame m #[(.int p0), (.int p1), (.int p2), (.int p3)] maxLocals)) t := fun t kt => pre738 _ (st739 _ kt)
          have pre741 : ∀ t, Steps p.tables e below (T739.setTop (mkF m 310 #[iv p0, iv p1, iv p2, iv p3, iv (p0 &&& (3 : Int32)), iv mv, rv r_105, rv r_108, rv r_111, rv r_114, rv r_117, rv b120, iv (0 : Int32), iv (1 : Int32), iv (1 : Int32), rv a_FALSE, rv a_UNKNOWN, rv a_UNKNOWN] [(.ref b120)])) t → Steps p.tables e below (s₁.setTop (entryFrame m #[(.int p0), (.int p1), (.int p2), (.int p3)] maxLocals)) t := fun t kt => by
            refine pre740 _ ?_
            show Steps p.tables e below (T739.setTop (mkF m 288 #[iv p0, iv p1, iv p2, iv p3, iv (p0 &&& (3 : Int32)), iv mv, rv r_105, rv r_108, rv r_111, rv r_114, rv r_117, rv b120, iv (0 : Int32), iv (1 : Int32), iv (1 : Int32), rv a_FALSE, rv a_UNKNOWN, .unset] [(.ref a_UNKNOWN)])) _
            refine XS.goto X739.here hx rfl (pc0 := 288) (pc' := 306) rfl (hb hby at_288) (by decide) (by decide) ?_
            refine XS.astore X739.here hx rfl (hb hby at_306) rfl rfl (l' := #[iv p0, iv p1, iv p2, iv p3, iv (p0 &&& (3 : Int32)), iv mv, rv r_105, rv r_108, rv r_111, rv r_114, rv r_117, rv b120, iv (0 : Int32), iv (1 : Int32), iv (1 : Int32), rv a_FALSE, rv a_UNKNOWN, rv a_UNKNOWN]) rfl ?_
            refine XS.aload X739.here hx rfl (hb hby at_308) rfl rfl ?_
            exact kt
          obtain ⟨cq742, kq742, q742a, q742b, q742c⟩ := isOf hZ e739 J718_0
          obtain ⟨_, _, ⟨T742, L742, k742, n742⟩, -, X742, ⟨Lc742, hQ742, l742, y742, z742⟩, st742⟩ := X739.virtualBack hx (y := (⟨"com/example/contexture/contexture/engine/evaluation/TruthValue$Tally", "and", "()Lcom/example/contexture/contexture/engine/evaluation/TruthValue;"⟩ : MethodName)) (z := (⟨"com/example/contexture/contexture/engine/evaluation/TruthValue$Tally", "and", "()Lcom/example/contexture/contexture/engine/evaluation/TruthValue;"⟩ : MethodName)) hown (mvT hZ (W 46 rfl)) (mvT hZ (W 47 rfl)) (notFace_of_selects (args := #[]) (mvT hZ (W 49 rfl))) (mvT hZ (W 49 rfl)) (mvT hZ (W 48 rfl)) (by decide) (backOf (W := 0) (rm_and7_1 l Z a0 hw [] b120 a_FALSE h718 n0 O718 G4 J718_2) hZ (W 50 rfl) (W 14 rfl) (by decide) (by decide)) q742a q742c (g := (mkF m 310 #[iv p0, iv p1, iv p2, iv p3, iv (p0 &&& (3 : Int32)), iv mv, rv r_105, rv r_108, rv r_111, rv r_114, rv r_117, rv b120, iv (0 : Int32), iv (1 : Int32), iv (1 : Int32), rv a_FALSE, rv a_UNKNOWN, rv a_UNKNOWN] [(.ref b120)])) rfl (by rw [hml]; rfl) (Steps.refl _) (argsL := []) (rest := []) (lenOf pd_16 rfl) rfl (by show 2 * 0 + _ ≤ _; exact Nat.le_of_eq rfl) (hb hby at_310) (fun _ _ => ⟨rfl, e739, (by decide : 1 + 0 ≤ _), (by decide : 3 + 0 ≤ _)⟩)
          dsimp only [Pt.U, Pt.locs, Pt.cells, Pt.slots] at X742 l742 y742 z742 st742 hQ742
          replace l742 := l742.symm
          replace y742 : 1 = k742 := y742.symm
          replace z742 : 3 = n742 := z742.symm
          subst l742 y742 z742
          obtain ⟨rfl, M742, e742⟩ := hQ742
          have N742 := Fr.app N718 M742
          have pre743 : ∀ t, Steps p.tables e below (T742.setTop (mkF m 313 #[iv p0, iv p1, iv p2, iv p3, iv (p0 &&& (3 : Int32)), iv mv, rv r_105, rv r_108, rv r_111, rv r_114, rv r_117, rv b120, iv (0 : Int32), iv (1 : Int32), iv (1 : Int32), rv a_FALSE, rv a_UNKNOWN, rv a_UNKNOWN] [(.ref a_FALSE)])) t → Steps p.tables e below (s₁.setTop (entryFrame m #[(.int p0), (.int p1), (.int p2), (.int p3)] maxLocals)) t := fun t kt => pre741 _ (st742.trans kt)
          have pre744 : ∀ t, Steps p.tables e below (T742.setTop (mkF m 320 #[iv p0, iv p1, iv p2, iv p3, iv (p0 &&& (3 : Int32)), iv mv, rv r_105, rv r_108, rv r_111, rv r_114, rv r_117, rv b120, iv (0 : Int32), iv (1 : Int32), iv (1 : Int32), rv a_FALSE, rv a_UNKNOWN, rv a_UNKNOWN] [(.ref b120)])) t → Steps p.tables e below (s₁.setTop (entryFrame m #[(.int p0), (.int p1), (.int p2), (.int p3)] maxLocals)) t := fun t kt => by
            refine pre743 _ ?_
            show Steps p.tables e below (T742.setTop (mkF m 313 #[iv p0, iv p1, iv p2, iv p3, iv (p0 &&& (3 : Int32)), iv mv, rv r_105, rv r_108, rv r_111, rv r_114, rv r_117, rv b120, iv (0 : Int32), iv (1 : Int32), iv (1 : Int32), rv a_FALSE, rv a_UNKNOWN, rv a_UNKNOWN] [(.ref a_FALSE)])) _
            refine XS.aload X742.here hx rfl (hb hby at_313) rfl rfl ?_
            refine Jvm.RoadKit.acmp (g := (mkF m 315 #[iv p0, iv p1, iv p2, iv p3, iv (p0 &&& (3 : Int32)), iv mv, rv r_105, rv r_108, rv r_111, rv r_114, rv r_117, rv b120, iv (0 : Int32), iv (1 : Int32), iv (1 : Int32), rv a_FALSE, rv a_UNKNOWN, rv a_UNKNOWN] [(.ref a_FALSE), (.ref a_FALSE)])) X742 hx rfl rfl rfl (pc0 := 315) (pc' := 318) (same := true) rfl (hb hby at_315) rfl (decide_eq_true rfl) (by decide) (by decide) ?_
            refine XS.aload X742.here hx rfl (hb hby at_318) rfl rfl ?_
            exact kt
          obtain ⟨cq745, kq745, q745a, q745b, q745c⟩ := isOf hZ e742 J718_0
          obtain ⟨_, _, ⟨T745, L745, k745, n745⟩, -, X745, ⟨Lc745, hQ745, l745, y745, z745⟩, st745⟩ := X742.virtualBack hx (y := (⟨"com/example/contexture/contexture/engine/evaluation/TruthValue$Tally", "or", "()Lcom/example/contexture/contexture/engine/evaluation/TruthValue;"⟩ : MethodName)) (z := (⟨"com/example/contexture/contexture/engine/evaluation/TruthValue$Tally", "or", "()Lcom/example/contexture/contexture/engine/evaluation/TruthValue;"⟩ : MethodName)) hown (mvT hZ (W 52 rfl)) (mvT hZ (W 53 rfl)) (notFace_of_selects (args := #[]) (mvT hZ (W 55 rfl))) (mvT hZ (W 55 rfl)) (mvT hZ (W 54 rfl)) (by decide) (backOf (W := 0) (rm_or8_3 l Z a0 hw [] b120 a_UNKNOWN a_FALSE h718 n0 O718 G0 G4 J718_0 J718_1 J718_3) hZ (W 56 rfl) (W 14 rfl) (by decide) (by decide)) q745a q745c (g := (mkF m 320 #[iv p0, iv p1, iv p2, iv p3, iv (p0 &&& (3 : Int32)), iv mv, rv r_105, rv r_108, rv r_111, rv r_114, rv r_117, rv b120, iv (0 : Int32), iv (1 : Int32), iv (1 : Int32), rv a_FALSE, rv a_UNKNOWN, rv a_UNKNOWN] [(.ref b120)])) rfl (by rw [hml]; rfl) (Steps.refl _) (argsL := []) (rest := []) (lenOf pd_16 rfl) rfl (by show 2 * 0 + _ ≤ _; exact Nat.le_of_eq rfl) (hb hby at_320) (fun _ _ => ⟨rfl, e742, (by decide : 1 + 0 ≤ _), (by decide : 3 + 0 ≤ _)⟩)
          dsimp only [Pt.U, Pt.locs, Pt.cells, Pt.slots] at X745 l745 y745 z745 st745 hQ745
          replace l745 := l745.symm
          replace y745 : 1 = k745 := y745.symm
          replace z745 : 3 = n745 := z745.symm
          subst l745 y745 z745
          obtain ⟨rfl, M745, e745⟩ := hQ745
          have N745 := Fr.app N742 M745
          have pre770 : ∀ t, Steps p.tables e below (T745.setTop (mkF m 323 #[iv p0, iv p1, iv p2, iv p3, iv (p0 &&& (3 : Int32)), iv mv, rv r_105, rv r_108, rv r_111, rv r_114, rv r_117, rv b120, iv (0 : Int32), iv (1 : Int32), iv (1 : Int32), rv a_FALSE, rv a_UNKNOWN, rv a_UNKNOWN] [(.ref a_UNKNOWN)])) t → Steps p.tables e below (s₁.setTop (entryFrame m #[(.int p0), (.int p1), (.int p2), (.int p3)] maxLocals)) t := fun t kt => pre744 _ (st745.trans kt)
          have pre771 : ∀ t, Steps p.tables e below (T745.setTop (mkF m 330 #[iv p0, iv p1, iv p2, iv p3, iv (p0 &&& (3 : Int32)), iv mv, rv r_105, rv r_108, rv r_111, rv r_114, rv r_117, rv b120, iv (0 : Int32), iv (1 : Int32), iv (1 : Int32), rv a_FALSE, rv a_UNKNOWN, rv a_UNKNOWN] [(.ref b120)])) t → Steps p.tables e below (s₁.setTop (entryFrame m #[(.int p0), (.int p1), (.int p2), (.int p3)] maxLocals)) t := fun t kt => by
            refine pre770 _ ?_
            show Steps p.tables e below (T745.setTop (mkF m 323 #[iv p0, iv p1, iv p2, iv p3, iv (p0 &&& (3 : Int32)), iv mv, rv r_105, rv r_108, rv r_111, rv r_114, rv r_117, rv b120, iv (0 : Int32), iv (1 : Int32), iv (1 : Int32), rv a_FALSE, rv a_UNKNOWN, rv a_UNKNOWN] [(.ref a_UNKNOWN)])) _
            refine XS.aload X745.here hx rfl (hb hby at_323) rfl rfl ?_
            refine Jvm.RoadKit.acmp (g := (mkF m 325 #[iv p0, iv p1, iv p2, iv p3, iv (p0 &&& (3 : Int32)), iv mv, rv r_105, rv r_108, rv r_111, rv r_114, rv r_117, rv b120, iv (0 : Int32), iv (1 : Int32), iv (1 : Int32), rv a_FALSE, rv a_UNKNOWN, rv a_UNKNOWN] [(.ref a_UNKNOWN), (.ref a_UNKNOWN)])) X745 hx rfl rfl rfl (pc0 := 325) (pc' := 328) (same := true) rfl (hb hby at_325) rfl (decide_eq_true rfl) (by decide) (by decide) ?_
            refine XS.aload X745.here hx rfl (hb hby at_328) rfl rfl ?_
            exact kt
          obtain ⟨cq772, kq772, q772a, q772b, q772c⟩ := isOf hZ e745 J718_0
          obtain ⟨_, _, ⟨T772, L772, k772, n772⟩, -, X772, ⟨Lc772, hQ772, l772, y772, z772⟩, st772⟩ := X745.virtualBack hx (y := (⟨"com/example/contexture/contexture/engine/evaluation/TruthValue$Tally", "xor", "()Lcom/example/contexture/contexture/engine/evaluation/TruthValue;"⟩ : MethodName)) (z := (⟨"com/example/contexture/contexture/engine/evaluation/TruthValue$Tally", "xor", "()Lcom/example/contexture/contexture/engine/evaluation/TruthValue;"⟩ : MethodName)) hown (mvT hZ (W 58 rfl)) (mvT hZ (W 59 rfl)) (notFace_of_selects (args := #[]) (mvT hZ (W 61 rfl))) (mvT hZ (W 61 rfl)) (mvT hZ (W 60 rfl)) (by decide) (backOf (W := 0) (rm_xor9_4 l Z a0 hw [] b120 a_UNKNOWN a_FALSE h718 n0 O718 G0 G4 J718_0 J718_1 J718_3) hZ (W 62 rfl) (W 14 rfl) (by decide) (by decide)) q772a q772c (g := (mkF m 330 #[iv p0, iv p1, iv p2, iv p3, iv (p0 &&& (3 : Int32)), iv mv, rv r_105, rv r_108, rv r_111, rv r_114, rv r_117, rv b120, iv (0 : Int32), iv (1 : Int32), iv (1 : Int32), rv a_FALSE, rv a_UNKNOWN, rv a_UNKNOWN] [(.ref b120)])) rfl (by rw [hml]; rfl) (Steps.refl _) (argsL := []) (rest := []) (lenOf pd_16 rfl) rfl (by show 2 * 0 + _ ≤ _; exact Nat.le_of_eq rfl) (hb hby at_330) (fun _ _ => ⟨rfl, e745, (by decide : 1 + 0 ≤ _), (by decide : 3 + 0 ≤ _)⟩)
          dsimp only [Pt.U, Pt.locs, Pt.cells, Pt.slots] at X772 l772 y772 z772 st772 hQ772
          replace l772 := l772.symm
          replace y772 : 1 = k772 := y772.symm
          replace z772 : 3 = n772 := z772.symm
          subst l772 y772 z772
          obtain ⟨rfl, M772, e772⟩ := hQ772
          have N772 := Fr.app N745 M772
          have pre797 : ∀ t, Steps p.tables e below (T772.setTop (mkF m 333 #[iv p0, iv p1, iv p2, iv p3, iv (p0 &&& (3 : Int32)), iv mv, rv r_105, rv r_108, rv r_111, rv r_114, rv r_117, rv b120, iv (0 : Int32), iv (1 : Int32), iv (1 : Int32), rv a_FALSE, rv a_UNKNOWN, rv a_UNKNOWN] [(.ref a_UNKNOWN)])) t → Steps p.tables e below (s₁.setTop (entryFrame m #[(.int p0), (.int p1), (.int p2), (.int p3)] maxLocals)) t := fun t kt => pre771 _ (st772.trans kt)
          have pre798 : ∀ t, Steps p.tables e below (T772.setTop (mkF m 343 #[iv p0, iv p1, iv p2, iv p3, iv (p0 &&& (3 : Int32)), iv mv, rv r_105, rv r_108, rv r_111, rv r_114, rv r_117, rv b120, iv (0 : Int32), iv (1 : Int32), iv (1 : Int32), rv a_FALSE, rv a_UNKNOWN, rv a_UNKNOWN] [(.int (1 : Int32))])) t → Steps p.tables e below (s₁.setTop (entryFrame m #[(.int p0), (.int p1), (.int p2), (.int p3)] maxLocals)) t := fun t kt => by
            refine pre797 _ ?_
            show Steps p.tables e below (T772.setTop (mkF m 333 #[iv p0, iv p1, iv p2, iv p3, iv (p0 &&& (3 : Int32)), iv mv, rv r_105, rv r_108, rv r_111, rv r_114, rv r_117, rv b120, iv (0 : Int32), iv (1 : Int32), iv (1 : Int32), rv a_FALSE, rv a_UNKNOWN, rv a_UNKNOWN] [(.ref a_UNKNOWN)])) _
            refine XS.aload X772.here hx rfl (hb hby at_333) rfl rfl ?_
            refine Jvm.RoadKit.acmp (g := (mkF m 335 #[iv p0, iv p1, iv p2, iv p3, iv (p0 &&& (3 : Int32)), iv mv, rv r_105, rv r_108, rv r_111, rv r_114, rv r_117, rv b120, iv (0 : Int32), iv (1 : Int32), iv (1 : Int32), rv a_FALSE, rv a_UNKNOWN, rv a_UNKNOWN] [(.ref a_UNKNOWN), (.ref a_UNKNOWN)])) X772 hx rfl rfl rfl (pc0 := 335) (pc' := 338) (same := true) rfl (hb hby at_335) rfl (decide_eq_true rfl) (by decide) (by decide) ?_
            refine XS.iconst X772.here hx rfl (hb hby at_338) ?_
            refine XS.goto X772.here hx rfl (pc0 := 339) (pc' := 343) rfl (hb hby at_339) (by decide) (by decide) ?_
            exact kt
          obtain ⟨fs, hr, hrun, hended, hW, hsame⟩ := X772.leave (v := some (.int (1 : Int32))) (fun h => by rw [Bd.returns] at h; cases h)
          refine ⟨_, _, pre798 _ (retN X772 hx (t := .boolean) Bd.returns (by simp) (hb hby at_343) hr), hrun, hended, _, _, rfl, ?_, ⟨_, rfl⟩, hW, hsame.mono (by decide) (by decide)⟩
          show Q_law Z p0 p1 p2 p3 a_UNKNOWN a_TRUE a_FALSE h0 n0 _ T772.heap _
          rw [e772]
          exact ⟨rfl, N772⟩
      · have pre799 : ∀ t, Steps p.tables e below (T574.setTop (mkF m 142 #[iv p0, iv p1, iv p2, iv p3, iv (p0 &&& (3 : Int32)), iv mv, rv r_105, rv r_108, rv r_111, rv r_114, rv r_117, rv b120, iv (0 : Int32), iv (0 : Int32), iv (0 : Int32), .unset, .unset, .unset] [(.ref r_114)])) t → Steps p.tables e below (s₁.setTop (entryFrame m #[(.int p0), (.int p1), (.int p2), (.int p3)] maxLocals)) t := fun t kt => by
          refine pre576 _ ?_
          show Steps p.tables e below (T574.setTop (mkF m 116 #[iv p0, iv p1, iv p2, iv p3, iv (p0 &&& (3 : Int32)), iv mv, rv r_105, rv r_108, rv r_111, rv r_114, rv r_117, rv b120, .unset, .unset, .unset, .unset, .unset, .unset] [(.int (1 : Int32)), (.int mv)])) _
          refine XS.icmpYes X574.here hx rfl (pc0 := 116) (pc' := 126) rfl (hb hby at_116) rfl (XT.ii_le_t hc577) (by decide) (by decide) ?_
          refine XS.iconst X574.here hx rfl (hb hby at_126) ?_
          refine XS.istore X574.here hx rfl (hb hby at_127) rfl (l' := #[iv p0, iv p1, iv p2, iv p3, iv (p0 &&& (3 : Int32)), iv mv, rv r_105, rv r_108, rv r_111, rv r_114, rv r_117, rv b120, iv (0 : Int32), .unset, .unset, .unset, .unset, .unset]) rfl ?_
          refine XS.iconst X574.here hx rfl (hb hby at_129) ?_
          show Steps p.tables e below (T574.setTop (mkF m 130 #[iv p0, iv p1, iv p2, iv p3, iv (p0 &&& (3 : Int32)), iv mv, rv r_105, rv r_108, rv r_111, rv r_114, rv r_117, rv b120, iv (0 : Int32), .unset, .unset, .unset, .unset, .unset] [(.int (0 : Int32))])) _
          refine XS.istore X574.here hx rfl (hb hby at_130) rfl (l' := #[iv p0, iv p1, iv p2, iv p3, iv (p0 &&& (3 : Int32)), iv mv, rv r_105, rv r_108, rv r_111, rv r_114, rv r_117, rv b120, iv (0 : Int32), iv (0 : Int32), .unset, .unset, .unset, .unset]) rfl ?_
          refine XS.iconst X574.here hx rfl (hb hby at_132) ?_
          refine XS.istore X574.here hx rfl (hb hby at_133) rfl (l' := #[iv p0, iv p1, iv p2, iv p3, iv (p0 &&& (3 : Int32)), iv mv, rv r_105, rv r_108, rv r_111, rv r_114, rv r_117, rv b120, iv (0 : Int32), iv (0 : Int32), iv (0 : Int32), .unset, .unset, .unset]) rfl ?_
          refine XS.iload X574.here hx rfl (hb hby at_135) rfl ?_
          show Steps p.tables e below (T574.setTop (mkF m 137 #[iv p0, iv p1, iv p2, iv p3, iv (p0 &&& (3 : Int32)), iv mv, rv r_105, rv r_108, rv r_111, rv r_114, rv r_117, rv b120, iv (0 : Int32), iv (0 : Int32), iv (0 : Int32), .unset, .unset, .unset] [(.int mv)])) _
          refine XS.ifNo X574.here hx rfl (hb hby at_137) rfl (XT.i0_le_f hc209) ?_
          refine XS.aload X574.here hx rfl (hb hby at_140) rfl rfl ?_
          exact kt
        obtain ⟨T800, X800, e800, st800⟩ := getS2 X574 hx hZ hown (host := "") (Or.inl (W 8 rfl)) Via.refl e574 (G2.ext O574.2) (g := (mkF m 142 #[iv p0, iv p1, iv p2, iv p3, iv (p0 &&& (3 : Int32)), iv mv, rv r_105, rv r_108, rv r_111, rv r_114, rv r_117, rv b120, iv (0 : Int32), iv (0 : Int32), iv (0 : Int32), .unset, .unset, .unset] [(.ref r_114)])) rfl (hb hby at_142)
        have pre801 : ∀ t, Steps p.tables e below (T800.setTop (mkF m 145 #[iv p0, iv p1, iv p2, iv p3, iv (p0 &&& (3 : Int32)), iv mv, rv r_105, rv r_108, rv r_111, rv r_114, rv r_117, rv b120, iv (0 : Int32), iv (0 : Int32), iv (0 : Int32), .unset, .unset, .unset] [(.ref a_TRUE), (.ref r_114)])) t → Steps p.tables e below (s₁.setTop (entryFrame m #[(.int p0), (.int p1), (.int p2), (.int p3)] maxLocals)) t := fun t kt => pre799 _ (st800 _ kt)
        have pre802 : ∀ t, Steps p.tables e below (T800.setTop (mkF m 159 #[iv p0, iv p1, iv p2, iv p3, iv (p0 &&& (3 : Int32)), iv mv, rv r_105, rv r_108, rv r_111, rv r_114, rv r_117, rv b120, iv (0 : Int32), iv (0 : Int32), iv (0 : Int32), .unset, .unset, .unset] [(.ref r_114)])) t → Steps p.tables e below (s₁.setTop (entryFrame m #[(.int p0), (.int p1), (.int p2), (.int p3)] maxLocals)) t := fun t kt => by
          refine pre801 _ ?_
          show Steps p.tables e below (T800.setTop (mkF m 145 #[iv p0, iv p1, iv p2, iv p3, iv (p0 &&& (3 : Int32)), iv mv, rv r_105, rv r_108, rv r_111, rv r_114, rv r_117, rv b120, iv (0 : Int32), iv (0 : Int32), iv (0 : Int32), .unset, .unset, .unset] [(.ref a_TRUE), (.ref r_114)])) _
          refine Jvm.RoadKit.acmp (g := (mkF m 145 #[iv p0, iv p1, iv p2, iv p3, iv (p0 &&& (3 : Int32)), iv mv, rv r_105, rv r_108, rv r_111, rv r_114, rv r_117, rv b120, iv (0 : Int32), iv (0 : Int32), iv (0 : Int32), .unset, .unset, .unset] [(.ref a_TRUE), (.ref r_114)])) X800 hx rfl rfl rfl (pc0 := 145) (pc' := 157) (same := false) rfl (hb hby at_145) rfl (decide_eq_false fun q => (fun z => ne_a_FALSE_a_TRUE (hv211.symm.trans z)) (Value.ref.inj q)) (by decide) (by decide) ?_
          refine XS.aload X800.here hx rfl (hb hby at_157) rfl rfl ?_
          exact kt
        obtain ⟨T803, X803, e803, st803⟩ := getS2 X800 hx hZ hown (host := "") (Or.inl (W 10 rfl)) Via.refl e800 (G4.ext O574.2) (g := (mkF m 159 #[iv p0, iv p1, iv p2, iv p3, iv (p0 &&& (3 : Int32)), iv mv, rv r_105, rv r_108, rv r_111, rv r_114, rv r_117, rv b120, iv (0 : Int32), iv (0 : Int32), iv (0 : Int32), .unset, .unset, .unset] [(.ref r_114)])) rfl (hb hby at_159)
        have pre804 : ∀ t, Steps p.tables e below (T803.setTop (mkF m 162 #[iv p0, iv p1, iv p2, iv p3, iv (p0 &&& (3 : Int32)), iv mv, rv r_105, rv r_108, rv r_111, rv r_114, rv r_117, rv b120, iv (0 : Int32), iv (0 : Int32), iv (0 : Int32), .unset, .unset, .unset] [(.ref a_FALSE), (.ref r_114)])) t → Steps p.tables e below (s₁.setTop (entryFrame m #[(.int p0), (.int p1), (.int p2), (.int p3)] maxLocals)) t := fun t kt => pre802 _ (st803 _ kt)
        have pre805 : ∀ t, Steps p.tables e below (T803.setTop (mkF m 231 #[iv p0, iv p1, iv p2, iv p3, iv (p0 &&& (3 : Int32)), iv mv, rv r_105, rv r_108, rv r_111, rv r_114, rv r_117, rv b120, iv (0 : Int32), iv (1 : Int32), iv (0 : Int32), .unset, .unset, .unset] [])) t → Steps p.tables e below (s₁.setTop (entryFrame m #[(.int p0), (.int p1), (.int p2), (.int p3)] maxLocals)) t := fun t kt => by
          refine pre804 _ ?_
          show Steps p.tables e below (T803.setTop (mkF m 162 #[iv p0, iv p1, iv p2, iv p3, iv (p0 &&& (3 : Int32)), iv mv, rv r_105, rv r_108, rv r_111, rv r_114, rv r_117, rv b120, iv (0 : Int32), iv (0 : Int32), iv (0 : Int32), .unset, .unset, .unset] [(.ref a_FALSE), (.ref r_114)])) _
          refine Jvm.RoadKit.acmp (g := (mkF m 162 #[iv p0, iv p1, iv p2, iv p3, iv (p0 &&& (3 : Int32)), iv mv, rv r_105, rv r_108, rv r_111, rv r_114, rv r_117, rv b120, iv (0 : Int32), iv (0 : Int32), iv (0 : Int32), .unset, .unset, .unset] [(.ref a_FALSE), (.ref r_114)])) X803 hx rfl rfl rfl (pc0 := 162) (pc' := 165) (same := true) rfl (hb hby at_162) rfl (decide_eq_true (congrArg Value.ref hv211)) (by decide) (by decide) ?_
          refine XS.iload X803.here hx rfl (hb hby at_165) rfl ?_
          refine XS.iconst X803.here hx rfl (hb hby at_167) ?_
          refine XS.iadd X803.here hx rfl (hb hby at_168) rfl ?_
          show  Steps p.tables e below (T803.setTop (mkF m 169 #[iv p0, iv p1, iv p2, iv p3, iv (p0 &&& (3 : Int32)), iv mv, rv r_105, rv r_108, rv r_111, rv r_114, rv r_117, rv b120, iv (0 : Int32), iv (0 : Int32), iv (0 : Int32), .unset, .unset, .unset] [(.int ((0 : Int32) + (1 : Int32)))])) _
          rw [(by decide : (((0 : Int32) + (1 : Int32)) : Int32) = (1 : Int32))]
          show Steps p.tables e below (T803.setTop (mkF m 169 #[iv p0, iv p1, iv p2, iv p3, iv (p0 &&& (3 : Int32)), iv mv, rv r_105, rv r_108, rv r_111, rv r_114, rv r_117, rv b120, iv (0 : Int32), iv (0 : Int32), iv (0 : Int32), .unset, .unset, .unset] [(.int (1 : Int32))])) _
          refine XS.istore X803.here hx rfl (hb hby at_169) rfl (l' := #[iv p0, iv p1, iv p2, iv p3, iv (p0 &&& (3 : Int32)), iv mv, rv r_105, rv r_108, rv r_111, rv r_114, rv r_117, rv b120, iv (0 : Int32), iv (1 : Int32), iv (0 : Int32), .unset, .unset, .unset]) rfl ?_
          refine XS.goto X803.here hx rfl (pc0 := 171) (pc' := 180) rfl (hb hby at_171) (by decide) (by decide) ?_
          refine XS.iload X803.here hx rfl (hb hby at_180) rfl ?_
          refine XS.iconst X803.here hx rfl (hb hby at_182) ?_
          show Steps p.tables e below (T803.setTop (mkF m 183 #[iv p0, iv p1, iv p2, iv p3, iv (p0 &&& (3 : Int32)), iv mv, rv r_105, rv r_108, rv r_111, rv r_114, rv r_117, rv b120, iv (0 : Int32), iv (1 : Int32), iv (0 : Int32), .unset, .unset, .unset] [(.int (1 : Int32)), (.int mv)])) _
          refine XS.icmpYes X803.here hx rfl (pc0 := 183) (pc' := 226) rfl (hb hby at_183) rfl (XT.ii_le_t hc577) (by decide) (by decide) ?_
          refine XS.iload X803.here hx rfl (hb hby at_226) rfl ?_
          refine XS.ifNo X803.here hx rfl (hb hby at_228) rfl (XT.i0_le_f (by decide)) ?_
          exact kt
        obtain ⟨T806, X806, e806, st806⟩ := getS2 X803 hx hZ hown (host := "") (Or.inl (W 10 rfl)) Via.refl e803 (G4.ext O574.2) (g := (mkF m 231 #[iv p0, iv p1, iv p2, iv p3, iv (p0 &&& (3 : Int32)), iv mv, rv r_105, rv r_108, rv r_111, rv r_114, rv r_117, rv b120, iv (0 : Int32), iv (1 : Int32), iv (0 : Int32), .unset, .unset, .unset] [])) rfl (hb hby at_231)
        have pre807 : ∀ t, Steps p.tables e below (T806.setTop (mkF m 234 #[iv p0, iv p1, iv p2, iv p3, iv (p0 &&& (3 : Int32)), iv mv, rv r_105, rv r_108, rv r_111, rv r_114, rv r_117, rv b120, iv (0 : Int32), iv (1 : Int32), iv (0 : Int32), .unset, .unset, .unset] [(.ref a_FALSE)])) t → Steps p.tables e below (s₁.setTop (entryFrame m #[(.int p0), (.int p1), (.int p2), (.int p3)] maxLocals)) t := fun t kt => pre805 _ (st806 _ kt)
        have pre808 : ∀ t, Steps p.tables e below (T806.setTop (mkF m 275 #[iv p0, iv p1, iv p2, iv p3, iv (p0 &&& (3 : Int32)), iv mv, rv r_105, rv r_108, rv r_111, rv r_114, rv r_117, rv b120, iv (0 : Int32), iv (1 : Int32), iv (0 : Int32), rv a_FALSE, .unset, .unset] [])) t → Steps p.tables e below (s₁.setTop (entryFrame m #[(.int p0), (.int p1), (.int p2), (.int p3)] maxLocals)) t := fun t kt => by
          refine pre807 _ ?_
          show Steps p.tables e below (T806.setTop (mkF m 234 #[iv p0, iv p1, iv p2, iv p3, iv (p0 &&& (3 : Int32)), iv mv, rv r_105, rv r_108, rv r_111, rv r_114, rv r_117, rv b120, iv (0 : Int32), iv (1 : Int32), iv (0 : Int32), .unset, .unset, .unset] [(.ref a_FALSE)])) _
          refine XS.goto X806.here hx rfl (pc0 := 234) (pc' := 251) rfl (hb hby at_234) (by decide) (by decide) ?_
          refine XS.astore X806.here hx rfl (hb hby at_251) rfl rfl (l' := #[iv p0, iv p1, iv p2, iv p3, iv (p0 &&& (3 : Int32)), iv mv, rv r_105, rv r_108, rv r_111, rv r_114, rv r_117, rv b120, iv (0 : Int32), iv (1 : Int32), iv (0 : Int32), rv a_FALSE, .unset, .unset]) rfl ?_
          refine XS.iload X806.here hx rfl (hb hby at_253) rfl ?_
          refine XS.ifYes X806.here hx rfl (pc0 := 255) (pc' := 264) rfl (hb hby at_255) rfl (XT.i0_le_t (by decide)) (by decide) (by decide) ?_
          show Steps p.tables e below (T806.setTop (mkF m 264 #[iv p0, iv p1, iv p2, iv p3, iv (p0 &&& (3 : Int32)), iv mv, rv r_105, rv r_108, rv r_111, rv r_114, rv r_117, rv b120, iv (0 : Int32), iv (1 : Int32), iv (0 : Int32), rv a_FALSE, .unset, .unset] [])) _
          refine XS.iload X806.here hx rfl (hb hby at_264) rfl ?_
          refine XS.ifYes X806.here hx rfl (pc0 := 266) (pc' := 275) rfl (hb hby at_266) rfl (XT.i0_le_t (by decide)) (by decide) (by decide) ?_
          exact kt
        obtain ⟨T809, X809, e809, st809⟩ := getS2 X806 hx hZ hown (host := "") (Or.inl (W 10 rfl)) Via.refl e806 (G4.ext O574.2) (g := (mkF m 275 #[iv p0, iv p1, iv p2, iv p3, iv (p0 &&& (3 : Int32)), iv mv, rv r_105, rv r_108, rv r_111, rv r_114, rv r_117, rv b120, iv (0 : Int32), iv (1 : Int32), iv (0 : Int32), rv a_FALSE, .unset, .unset] [])) rfl (hb hby at_275)
        have pre810 : ∀ t, Steps p.tables e below (T809.setTop (mkF m 278 #[iv p0, iv p1, iv p2, iv p3, iv (p0 &&& (3 : Int32)), iv mv, rv r_105, rv r_108, rv r_111, rv r_114, rv r_117, rv b120, iv (0 : Int32), iv (1 : Int32), iv (0 : Int32), rv a_FALSE, .unset, .unset] [(.ref a_FALSE)])) t → Steps p.tables e below (s₁.setTop (entryFrame m #[(.int p0), (.int p1), (.int p2), (.int p3)] maxLocals)) t := fun t kt => pre808 _ (st809 _ kt)
        have pre811 : ∀ t, Steps p.tables e below (T809.setTop (mkF m 303 #[iv p0, iv p1, iv p2, iv p3, iv (p0 &&& (3 : Int32)), iv mv, rv r_105, rv r_108, rv r_111, rv r_114, rv r_117, rv b120, iv (0 : Int32), iv (1 : Int32), iv (0 : Int32), rv a_FALSE, rv a_FALSE, .unset] [])) t → Steps p.tables e below (s₁.setTop (entryFrame m #[(.int p0), (.int p1), (.int p2), (.int p3)] maxLocals)) t := fun t kt => by
          refine pre810 _ ?_
          show Steps p.tables e below (T809.setTop (mkF m 278 #[iv p0, iv p1, iv p2, iv p3, iv (p0 &&& (3 : Int32)), iv mv, rv r_105, rv r_108, rv r_111, rv r_114, rv r_117, rv b120, iv (0 : Int32), iv (1 : Int32), iv (0 : Int32), rv a_FALSE, .unset, .unset] [(.ref a_FALSE)])) _
          refine XS.astore X809.here hx rfl (hb hby at_278) rfl rfl (l' := #[iv p0, iv p1, iv p2, iv p3, iv (p0 &&& (3 : Int32)), iv mv, rv r_105, rv r_108, rv r_111, rv r_114, rv r_117, rv b120, iv (0 : Int32), iv (1 : Int32), iv (0 : Int32), rv a_FALSE, rv a_FALSE, .unset]) rfl ?_
          refine XS.iload X809.here hx rfl (hb hby at_280) rfl ?_
          refine XS.ifYes X809.here hx rfl (pc0 := 282) (pc' := 291) rfl (hb hby at_282) rfl (XT.i0_le_t (by decide)) (by decide) (by decide) ?_
          refine XS.iload X809.here hx rfl (hb hby at_291) rfl ?_
          show Steps p.tables e below (T809.setTop (mkF m 293 #[iv p0, iv p1, iv p2, iv p3, iv (p0 &&& (3 : Int32)), iv mv, rv r_105, rv r_108, rv r_111, rv r_114, rv r_117, rv b120, iv (0 : Int32), iv (1 : Int32), iv (0 : Int32), rv a_FALSE, rv a_FALSE, .unset] [(.int (0 : Int32))])) _
          refine XS.iconst X809.here hx rfl (hb hby at_293) ?_
          refine XS.icmpYes X809.here hx rfl (pc0 := 294) (pc' := 303) rfl (hb hby at_294) rfl (XT.ii_ne_t (by decide)) (by decide) (by decide) ?_
          exact kt
        obtain ⟨T812, X812, e812, st812⟩ := getS2 X809 hx hZ hown (host := "") (Or.inl (W 10 rfl)) Via.refl e809 (G4.ext O574.2) (g := (mkF m 303 #[iv p0, iv p1, iv p2, iv p3, iv (p0 &&& (3 : Int32)), iv mv, rv r_105, rv r_108, rv r_111, rv r_114, rv r_117, rv b120, iv (0 : Int32), iv (1 : Int32), iv (0 : Int32), rv a_FALSE, rv a_FALSE, .unset] [])) rfl (hb hby at_303)
        have pre813 : ∀ t, Steps p.tables e below (T812.setTop (mkF m 306 #[iv p0, iv p1, iv p2, iv p3, iv (p0 &&& (3 : Int32)), iv mv, rv r_105, rv r_108, rv r_111, rv r_114, rv r_117, rv b120, iv (0 : Int32), iv (1 : Int32), iv (0 : Int32), rv a_FALSE, rv a_FALSE, .unset] [(.ref a_FALSE)])) t → Steps p.tables e below (s₁.setTop (entryFrame m #[(.int p0), (.int p1), (.int p2), (.int p3)] maxLocals)) t := fun t kt => pre811 _ (st812 _ kt)
        have pre814 : ∀ t, Steps p.tables e below (T812.setTop (mkF m 310 #[iv p0, iv p1, iv p2, iv p3, iv (p0 &&& (3 : Int32)), iv mv, rv r_105, rv r_108, rv r_111, rv r_114, rv r_117, rv b120, iv (0 : Int32), iv (1 : Int32), iv (0 : Int32), rv a_FALSE, rv a_FALSE, rv a_FALSE] [(.ref b120)])) t → Steps p.tables e below (s₁.setTop (entryFrame m #[(.int p0), (.int p1), (.int p2), (.int p3)] maxLocals)) t := fun t kt => by
          refine pre813 _ ?_
          show Steps p.tables e below (T812.setTop (mkF m 306 #[iv p0, iv p1, iv p2, iv p3, iv (p0 &&& (3 : Int32)), iv mv, rv r_105, rv r_108, rv r_111, rv r_114, rv r_117, rv b120, iv (0 : Int32), iv (1 : Int32), iv (0 : Int32), rv a_FALSE, rv a_FALSE, .unset] [(.ref a_FALSE)])) _
          refine XS.astore X812.here hx rfl (hb hby at_306) rfl rfl (l' := #[iv p0, iv p1, iv p2, iv p3, iv (p0 &&& (3 : Int32)), iv mv, rv r_105, rv r_108, rv r_111, rv r_114, rv r_117, rv b120, iv (0 : Int32), iv (1 : Int32), iv (0 : Int32), rv a_FALSE, rv a_FALSE, rv a_FALSE]) rfl ?_
          refine XS.aload X812.here hx rfl (hb hby at_308) rfl rfl ?_
          exact kt
        obtain ⟨cq815, kq815, q815a, q815b, q815c⟩ := isOf hZ e812 J574_0
        obtain ⟨_, _, ⟨T815, L815, k815, n815⟩, -, X815, ⟨Lc815, hQ815, l815, y815, z815⟩, st815⟩ := X812.virtualBack hx (y := (⟨"com/example/contexture/contexture/engine/evaluation/TruthValue$Tally", "and", "()Lcom/example/contexture/contexture/engine/evaluation/TruthValue;"⟩ : MethodName)) (z := (⟨"com/example/contexture/contexture/engine/evaluation/TruthValue$Tally", "and", "()Lcom/example/contexture/contexture/engine/evaluation/TruthValue;"⟩ : MethodName)) hown (mvT hZ (W 46 rfl)) (mvT hZ (W 47 rfl)) (notFace_of_selects (args := #[]) (mvT hZ (W 49 rfl))) (mvT hZ (W 49 rfl)) (mvT hZ (W 48 rfl)) (by decide) (backOf (W := 0) (rm_and7_1 l Z a0 hw [] b120 a_FALSE h574 n0 O574 G4 J574_2) hZ (W 50 rfl) (W 14 rfl) (by decide) (by decide)) q815a q815c (g := (mkF m 310 #[iv p0, iv p1, iv p2, iv p3, iv (p0 &&& (3 : Int32)), iv mv, rv r_105, rv r_108, rv r_111, rv r_114, rv r_117, rv b120, iv (0 : Int32), iv (1 : Int32), iv (0 : Int32), rv a_FALSE, rv a_FALSE, rv a_FALSE] [(.ref b120)])) rfl (by rw [hml]; rfl) (Steps.refl _) (argsL := []) (rest := []) (lenOf pd_16 rfl) rfl (by show 2 * 0 + _ ≤ _; exact Nat.le_of_eq rfl) (hb hby at_310) (fun _ _ => ⟨rfl, e812, (by decide : 1 + 0 ≤ _), (by decide : 3 + 0 ≤ _)⟩)
        dsimp only [Pt.U, Pt.locs, Pt.cells, Pt.slots] at X815 l815 y815 z815 st815 hQ815
        replace l815 := l815.symm
        replace y815 : 1 = k815 := y815.symm
        replace z815 : 3 = n815 := z815.symm
        subst l815 y815 z815
        obtain ⟨rfl, M815, e815⟩ := hQ815
        have N815 := Fr.app N574 M815
        have pre816 : ∀ t, Steps p.tables e below (T815.setTop (mkF m 313 #[iv p0, iv p1, iv p2, iv p3, iv (p0 &&& (3 : Int32)), iv mv, rv r_105, rv r_108, rv r_111, rv r_114, rv r_117, rv b120, iv (0 : Int32), iv (1 : Int32), iv (0 : Int32), rv a_FALSE, rv a_FALSE, rv a_FALSE] [(.ref a_FALSE)])) t → Steps p.tables e below (s₁.setTop (entryFrame m #[(.int p0), (.int p1), (.int p2), (.int p3)] maxLocals)) t := fun t kt => pre814 _ (st815.trans kt)
        have pre817 : ∀ t, Steps p.tables e below (T815.setTop (mkF m 320 #[iv p0, iv p1, iv p2, iv p3, iv (p0 &&& (3 : Int32)), iv mv, rv r_105, rv r_108, rv r_111, rv r_114, rv r_117, rv b120, iv (0 : Int32), iv (1 : Int32), iv (0 : Int32), rv a_FALSE, rv a_FALSE, rv a_FALSE] [(.ref b120)])) t → Steps p.tables e below (s₁.setTop (entryFrame m #[(.int p0), (.int p1), (.int p2), (.int p3)] maxLocals)) t := fun t kt => by
          refine pre816 _ ?_
          show Steps p.tables e below (T815.setTop (mkF m 313 #[iv p0, iv p1, iv p2, iv p3, iv (p0 &&& (3 : Int32)), iv mv, rv r_105, rv r_108, rv r_111, rv r_114, rv r_117, rv b120, iv (0 : Int32), iv (1 : Int32), iv (0 : Int32), rv a_FALSE, rv a_FALSE, rv a_FALSE] [(.ref a_FALSE)])) _
          refine XS.aload X815.here hx rfl (hb hby at_313) rfl rfl ?_
          refine Jvm.RoadKit.acmp (g := (mkF m 315 #[iv p0, iv p1, iv p2, iv p3, iv (p0 &&& (3 : Int32)), iv mv, rv r_105, rv r_108, rv r_111, rv r_114, rv r_117, rv b120, iv (0 : Int32), iv (1 : Int32), iv (0 : Int32), rv a_FALSE, rv a_FALSE, rv a_FALSE] [(.ref a_FALSE), (.ref a_FALSE)])) X815 hx rfl rfl rfl (pc0 := 315) (pc' := 318) (same := true) rfl (hb hby at_315) rfl (decide_eq_true rfl) (by decide) (by decide) ?_
          refine XS.aload X815.here hx rfl (hb hby at_318) rfl rfl ?_
          exact kt
        obtain ⟨cq818, kq818, q818a, q818b, q818c⟩ := isOf hZ e815 J574_0
        obtain ⟨_, _, ⟨T818, L818, k818, n818⟩, -, X818, ⟨Lc818, hQ818, l818, y818, z818⟩, st818⟩ := X815.virtualBack hx (y := (⟨"com/example/contexture/contexture/engine/evaluation/TruthValue$Tally", "or", "()Lcom/example/contexture/contexture/engine/evaluation/TruthValue;"⟩ : MethodName)) (z := (⟨"com/example/contexture/contexture/engine/evaluation/TruthValue$Tally", "or", "()Lcom/example/contexture/contexture/engine/evaluation/TruthValue;"⟩ : MethodName)) hown (mvT hZ (W 52 rfl)) (mvT hZ (W 53 rfl)) (notFace_of_selects (args := #[]) (mvT hZ (W 55 rfl))) (mvT hZ (W 55 rfl)) (mvT hZ (W 54 rfl)) (by decide) (backOf (W := 0) (rm_or8_2 l Z a0 hw [] b120 a_FALSE h574 n0 O574 G4 J574_0 J574_1 J574_3) hZ (W 56 rfl) (W 14 rfl) (by decide) (by decide)) q818a q818c (g := (mkF m 320 #[iv p0, iv p1, iv p2, iv p3, iv (p0 &&& (3 : Int32)), iv mv, rv r_105, rv r_108, rv r_111, rv r_114, rv r_117, rv b120, iv (0 : Int32), iv (1 : Int32), iv (0 : Int32), rv a_FALSE, rv a_FALSE, rv a_FALSE] [(.ref b120)])) rfl (by rw [hml]; rfl) (Steps.refl _) (argsL := []) (rest := []) (lenOf pd_16 rfl) rfl (by show 2 * 0 + _ ≤ _; exact Nat.le_of_eq rfl) (hb hby at_320) (fun _ _ => ⟨rfl, e815, (by decide : 1 + 0 ≤ _), (by decide : 3 + 0 ≤ _)⟩)
        dsimp only [Pt.U, Pt.locs, Pt.cells, Pt.slots] at X818 l818 y818 z818 st818 hQ818
        replace l818 := l818.symm
        replace y818 : 1 = k818 := y818.symm
        replace z818 : 3 = n818 := z818.symm
        subst l818 y818 z818
        obtain ⟨rfl, M818, e818⟩ := hQ818
        have N818 := Fr.app N815 M818
        have pre819 : ∀ t, Steps p.tables e below (T818.setTop (mkF m 323 #[iv p0, iv p1, iv p2, iv p3, iv (p0 &&& (3 : Int32)), iv mv, rv r_105, rv r_108, rv r_111, rv r_114, rv r_117, rv b120, iv (0 : Int32), iv (1 : Int32), iv (0 : Int32), rv a_FALSE, rv a_FALSE, rv a_FALSE] [(.ref a_FALSE)])) t → Steps p.tables e below (s₁.setTop (entryFrame m #[(.int p0), (.int p1), (.int p2), (.int p3)] maxLocals)) t := fun t kt => pre817 _ (st818.trans kt)
        have pre820 : ∀ t, Steps p.tables e below (T818.setTop (mkF m 330 #[iv p0, iv p1, iv p2, iv p3, iv (p0 &&& (3 : Int32)), iv mv, rv r_105, rv r_108, rv r_111, rv r_114, rv r_117, rv b120, iv (0 : Int32), iv (1 : Int32), iv (0 : Int32), rv a_FALSE, rv a_FALSE, rv a_FALSE] [(.ref b120)])) t → Steps p.tables e below (s₁.setTop (entryFrame m #[(.int p0), (.int p1), (.int p2), (.int p3)] maxLocals)) t := fun t kt => by
          refine pre819 _ ?_
          show Steps p.tables e below (T818.setTop (mkF m 323 #[iv p0, iv p1, iv p2, iv p3, iv (p0 &&& (3 : Int32)), iv mv, rv r_105, rv r_108, rv r_111, rv r_114, rv r_117, rv b120, iv (0 : Int32), iv (1 : Int32), iv (0 : Int32), rv a_FALSE, rv a_FALSE, rv a_FALSE] [(.ref a_FALSE)])) _
          refine XS.aload X818.here hx rfl (hb hby at_323) rfl rfl ?_
          refine Jvm.RoadKit.acmp (g := (mkF m 325 #[iv p0, iv p1, iv p2, iv p3, iv (p0 &&& (3 : Int32)), iv mv, rv r_105, rv r_108, rv r_111, rv r_114, rv r_117, rv b120, iv (0 : Int32), iv (1 : Int32), iv (0 : Int32), rv a_FALSE, rv a_FALSE, rv a_FALSE] [(.ref a_FALSE), (.ref a_FALSE)])) X818 hx rfl rfl rfl (pc0 := 325) (pc' := 328) (same := true) rfl (hb hby at_325) rfl (decide_eq_true rfl) (by decide) (by decide) ?_
          refine XS.aload X818.here hx rfl (hb hby at_328) rfl rfl ?_
          exact kt
        obtain ⟨cq821, kq821, q821a, q821b, q821c⟩ := isOf hZ e818 J574_0
        obtain ⟨_, _, ⟨T821, L821, k821, n821⟩, -, X821, ⟨Lc821, hQ821, l821, y821, z821⟩, st821⟩ := X818.virtualBack hx (y := (⟨"com/example/contexture/contexture/engine/evaluation/TruthValue$Tally", "xor", "()Lcom/example/contexture/contexture/engine/evaluation/TruthValue;"⟩ : MethodName)) (z := (⟨"com/example/contexture/contexture/engine/evaluation/TruthValue$Tally", "xor", "()Lcom/example/contexture/contexture/engine/evaluation/TruthValue;"⟩ : MethodName)) hown (mvT hZ (W 58 rfl)) (mvT hZ (W 59 rfl)) (notFace_of_selects (args := #[]) (mvT hZ (W 61 rfl))) (mvT hZ (W 61 rfl)) (mvT hZ (W 60 rfl)) (by decide) (backOf (W := 0) (rm_xor9_3 l Z a0 hw [] b120 a_FALSE h574 n0 O574 G4 J574_0 J574_1 J574_3) hZ (W 62 rfl) (W 14 rfl) (by decide) (by decide)) q821a q821c (g := (mkF m 330 #[iv p0, iv p1, iv p2, iv p3, iv (p0 &&& (3 : Int32)), iv mv, rv r_105, rv r_108, rv r_111, rv r_114, rv r_117, rv b120, iv (0 : Int32), iv (1 : Int32), iv (0 : Int32), rv a_FALSE, rv a_FALSE, rv a_FALSE] [(.ref b120)])) rfl (by rw [hml]; rfl) (Steps.refl _) (argsL := []) (rest := []) (lenOf pd_16 rfl) rfl (by show 2 * 0 + _ ≤ _; exact Nat.le_of_eq rfl) (hb hby at_330) (fun _ _ => ⟨rfl, e818, (by decide : 1 + 0 ≤ _), (by decide : 3 + 0 ≤ _)⟩)
        dsimp only [Pt.U, Pt.locs, Pt.cells, Pt.slots] at X821 l821 y821 z821 st821 hQ821
        replace l821 := l821.symm
        replace y821 : 1 = k821 := y821.symm
        replace z821 : 3 = n821 := z821.symm
        subst l821 y821 z821
        obtain ⟨rfl, M821, e821⟩ := hQ821
        have N821 := Fr.app N818 M821
        have pre822 : ∀ t, Steps p.tables e below (T821.setTop (mkF m 333 #[iv p0, iv p1, iv p2, iv p3, iv (p0 &&& (3 : Int32)), iv mv, rv r_105, rv r_108, rv r_111, rv r_114, rv r_117, rv b120, iv (0 : Int32), iv (1 : Int32), iv (0 : Int32), rv a_FALSE, rv a_FALSE, rv a_FALSE] [(.ref a_FALSE)])) t → Steps p.tables e below (s₁.setTop (entryFrame m #[(.int p0), (.int p1), (.int p2), (.int p3)] maxLocals)) t := fun t kt => pre820 _ (st821.trans kt)
        have pre823 : ∀ t, Steps p.tables e below (T821.setTop (mkF m 343 #[iv p0, iv p1, iv p2, iv p3, iv (p0 &&& (3 : Int32)), iv mv, rv r_105, rv r_108, rv r_111, rv r_114, rv r_117, rv b120, iv (0 : Int32), iv (1 : Int32), iv (0 : Int32), rv a_FALSE, rv a_FALSE, rv a_FALSE] [(.int (1 : Int32))])) t → Steps p.tables e below (s₁.setTop (entryFrame m #[(.int p0), (.int p1), (.int p2), (.int p3)] maxLocals)) t := fun t kt => by
          refine pre822 _ ?_
          show Steps p.tables e below (T821.setTop (mkF m 333 #[iv p0, iv p1, iv p2, iv p3, iv (p0 &&& (3 : Int32)), iv mv, rv r_105, rv r_108, rv r_111, rv r_114, rv r_117, rv b120, iv (0 : Int32), iv (1 : Int32), iv (0 : Int32), rv a_FALSE, rv a_FALSE, rv a_FALSE] [(.ref a_FALSE)])) _
          refine XS.aload X821.here hx rfl (hb hby at_333) rfl rfl ?_
          refine Jvm.RoadKit.acmp (g := (mkF m 335 #[iv p0, iv p1, iv p2, iv p3, iv (p0 &&& (3 : Int32)), iv mv, rv r_105, rv r_108, rv r_111, rv r_114, rv r_117, rv b120, iv (0 : Int32), iv (1 : Int32), iv (0 : Int32), rv a_FALSE, rv a_FALSE, rv a_FALSE] [(.ref a_FALSE), (.ref a_FALSE)])) X821 hx rfl rfl rfl (pc0 := 335) (pc' := 338) (same := true) rfl (hb hby at_335) rfl (decide_eq_true rfl) (by decide) (by decide) ?_
          refine XS.iconst X821.here hx rfl (hb hby at_338) ?_
          refine XS.goto X821.here hx rfl (pc0 := 339) (pc' := 343) rfl (hb hby at_339) (by decide) (by decide) ?_
          exact kt
        obtain ⟨fs, hr, hrun, hended, hW, hsame⟩ := X821.leave (v := some (.int (1 : Int32))) (fun h => by rw [Bd.returns] at h; cases h)
        refine ⟨_, _, pre823 _ (retN X821 hx (t := .boolean) Bd.returns (by simp) (hb hby at_343) hr), hrun, hended, _, _, rfl, ?_, ⟨_, rfl⟩, hW, hsame.mono (by decide) (by decide)⟩
        show Q_law Z p0 p1 p2 p3 a_UNKNOWN a_TRUE a_FALSE h0 n0 _ T821.heap _
        rw [e821]
        exact ⟨rfl, N821⟩
    · have Gr824 : Exa Z Z.heap r_114 "com/example/contexture/contexture/engine/evaluation/TruthValue" := hv211 ▸ G1
      have Gr825 : Fld Z Z.heap r_114 "java/lang/Enum" "ordinal" "I" (.int (2 : Int32)) := hv211 ▸ G8
      obtain ⟨cq826, kq826, q826a, q826b, q826c⟩ := isOf hZ e206 J206_0
      obtain ⟨_, _, ⟨T826, L826, k826, n826⟩, -, X826, ⟨Lc826, hQ826, l826, y826, z826⟩, st826⟩ := X206.virtualBack hx (y := (⟨"com/example/contexture/contexture/engine/evaluation/TruthValue$Tally", "add", "(Lcom/example/contexture/contexture/engine/evaluation/TruthValue;)V"⟩ : MethodName)) (z := (⟨"com/example/contexture/contexture/engine/evaluation/TruthValue$Tally", "add", "(Lcom/example/contexture/contexture/engine/evaluation/TruthValue;)V"⟩ : MethodName)) hown (mvT hZ (W 32 rfl)) (mvT hZ (W 33 rfl)) (notFace_of_selects (args := #[]) (mvT hZ (W 35 rfl))) (mvT hZ (W 35 rfl)) (mvT hZ (W 34 rfl)) (by decide) (backOf (W := 0) (rm_add2 l Z a0 hw [] b120 r_114 ((0 : Int32)) ((0 : Int32)) ((0 : Int32)) h206 n0 O206 Gr824 Gr825 g_b120 J206_0 J206_1 J206_2 J206_3) hZ (W 36 rfl) (W 14 rfl) (by decide) (by decide)) q826a q826c (g := (mkF m 110 #[iv p0, iv p1, iv p2, iv p3, iv (p0 &&& (3 : Int32)), iv mv, rv r_105, rv r_108, rv r_111, rv r_114, rv r_117, rv b120, .unset, .unset, .unset, .unset, .unset, .unset] [(.ref r_114), (.ref b120)])) rfl (by rw [hml]; rfl) (Steps.refl _) (argsL := [(.ref r_114)]) (rest := []) (lenOf pd_12 rfl) rfl (by show 2 * 0 + _ ≤ _; exact Nat.le_of_eq rfl) (hb hby at_110) (fun _ _ => ⟨rfl, e206, (by decide : 1 + 0 ≤ _), (by decide : 3 + 0 ≤ _)⟩)
      dsimp only [Pt.U, Pt.locs, Pt.cells, Pt.slots] at X826 l826 y826 z826 st826 hQ826
      replace l826 := l826.symm
      replace y826 : 1 = k826 := y826.symm
      replace z826 : 3 = n826 := z826.symm
      subst l826 y826 z826
      obtain ⟨rfl, M826, Kc826, O826, J826_0, J826_1, J826_2, J826_3⟩ := hQ826
      obtain ⟨h826, e826⟩ : ∃ z, T826.heap = z := ⟨_, rfl⟩
      rw [e826] at Kc826 O826 J826_0 J826_1 J826_2 J826_3
      have N826 := Fr.app N206 M826
      have K826 : Keep h0 h826 [] := K206.trans Kc826 (own_all1 (Or.inr sz_b120))
      have pre827 : ∀ t, Steps p.tables e below (T826.setTop (mkF m 113 #[iv p0, iv p1, iv p2, iv p3, iv (p0 &&& (3 : Int32)), iv mv, rv r_105, rv r_108, rv r_111, rv r_114, rv r_117, rv b120, .unset, .unset, .unset, .unset, .unset, .unset] [])) t → Steps p.tables e below (s₁.setTop (entryFrame m #[(.int p0), (.int p1), (.int p2), (.int p3)] maxLocals)) t := fun t kt => pre210 _ (st826.trans kt)
      have pre828 : ∀ t, Steps p.tables e below (T826.setTop (mkF m 116 #[iv p0, iv p1, iv p2, iv p3, iv (p0 &&& (3 : Int32)), iv mv, rv r_105, rv r_108, rv r_111, rv r_114, rv r_117, rv b120, .unset, .unset, .unset, .unset, .unset, .unset] [(.int (1 : Int32)), (.int mv)])) t → Steps p.tables e below (s₁.setTop (entryFrame m #[(.int p0), (.int p1), (.int p2), (.int p3)] maxLocals)) t := fun t kt => by
        refine pre827 _ ?_
        show Steps p.tables e below (T826.setTop (mkF m 113 #[iv p0, iv p1, iv p2, iv p3, iv (p0 &&& (3 : Int32)), iv mv, rv r_105, rv r_108, rv r_111, rv r_114, rv r_117, rv b120, .unset, .unset, .unset, .unset, .unset, .unset] [])) _
        refine XS.iload X826.here hx rfl (hb hby at_113) rfl ?_
        refine XS.iconst X826.here hx rfl (hb hby at_115) ?_
        exact kt
      by_cases hc829 : (1 : Int32) < mv
      · have pre830 : ∀ t, Steps p.tables e below (T826.setTop (mkF m 123 #[iv p0, iv p1, iv p2, iv p3, iv (p0 &&& (3 : Int32)), iv mv, rv r_105, rv r_108, rv r_111, rv r_114, rv r_117, rv b120, .unset, .unset, .unset, .unset, .unset, .unset] [(.ref r_117), (.ref b120)])) t → Steps p.tables e below (s₁.setTop (entryFrame m #[(.int p0), (.int p1), (.int p2), (.int p3)] maxLocals)) t := fun t kt => by
          refine pre828 _ ?_
          show Steps p.tables e below (T826.setTop (mkF m 116 #[iv p0, iv p1, iv p2, iv p3, iv (p0 &&& (3 : Int32)), iv mv, rv r_105, rv r_108, rv r_111, rv r_114, rv r_117, rv b120, .unset, .unset, .unset, .unset, .unset, .unset] [(.int (1 : Int32)), (.int mv)])) _
          refine XS.icmpNo X826.here hx rfl (hb hby at_116) rfl (XT.ii_le_f hc829) ?_
          refine XS.aload X826.here hx rfl (hb hby at_119) rfl rfl ?_
          refine XS.aload X826.here hx rfl (hb hby at_121) rfl rfl ?_
          exact kt
        rcases P117_0 with hv831 | hv831 | hv831
        · have Gr832 : Exa Z Z.heap r_117 "com/example/contexture/contexture/engine/evaluation/TruthValue" := hv831 ▸ G3
          have Gr833 : Fld Z Z.heap r_117 "java/lang/Enum" "ordinal" "I" (.int (0 : Int32)) := hv831 ▸ G7
          obtain ⟨cq834, kq834, q834a, q834b, q834c⟩ := isOf hZ e826 J826_0
          obtain ⟨_, _, ⟨T834, L834, k834, n834⟩, -, X834, ⟨Lc834, hQ834, l834, y834, z834⟩, st834⟩ := X826.virtualBack hx (y := (⟨"com/example/contexture/contexture/engine/evaluation/TruthValue$Tally", "add", "(Lcom/example/contexture/contexture/engine/evaluation/TruthValue;)V"⟩ : MethodName)) (z := (⟨"com/example/contexture/contexture/engine/evaluation/TruthValue$Tally", "add", "(Lcom/example/contexture/contexture/engine/evaluation/TruthValue;)V"⟩ : MethodName)) hown (mvT hZ (W 32 rfl)) (mvT hZ (W 33 rfl)) (notFace_of_selects (args := #[]) (mvT hZ (W 35 rfl))) (mvT hZ (W 35 rfl)) (mvT hZ (W 34 rfl)) (by decide) (backOf (W := 0) (rm_add0 l Z a0 hw [] b120 r_117 ((0 : Int32)) ((0 : Int32)) (((0 : Int32) + (1 : Int32))) h826 n0 O826 Gr832 Gr833 g_b120 J826_0 J826_1 J826_2 J826_3) hZ (W 36 rfl) (W 14 rfl) (by decide) (by decide)) q834a q834c (g := (mkF m 123 #[iv p0, iv p1, iv p2, iv p3, iv (p0 &&& (3 : Int32)), iv mv, rv r_105, rv r_108, rv r_111, rv r_114, rv r_117, rv b120, .unset, .unset, .unset, .unset, .unset, .unset] [(.ref r_117), (.ref b120)])) rfl (by rw [hml]; rfl) (Steps.refl _) (argsL := [(.ref r_117)]) (rest := []) (lenOf pd_12 rfl) rfl (by show 2 * 0 + _ ≤ _; exact Nat.le_of_eq rfl) (hb hby at_123) (fun _ _ => ⟨rfl, e826, (by decide : 1 + 0 ≤ _), (by decide : 3 + 0 ≤ _)⟩)
          dsimp only [Pt.U, Pt.locs, Pt.cells, Pt.slots] at X834 l834 y834 z834 st834 hQ834
          replace l834 := l834.symm
          replace y834 : 1 = k834 := y834.symm
          replace z834 : 3 = n834 := z834.symm
          subst l834 y834 z834
          obtain ⟨rfl, M834, Kc834, O834, J834_0, J834_1, J834_2, J834_3⟩ := hQ834
          obtain ⟨h834, e834⟩ : ∃ z, T834.heap = z := ⟨_, rfl⟩
          rw [e834] at Kc834 O834 J834_0 J834_1 J834_2 J834_3
          have N834 := Fr.app N826 M834
          have K834 : Keep h0 h834 [] := K826.trans Kc834 (own_all1 (Or.inr sz_b120))
          have pre835 : ∀ t, Steps p.tables e below (T834.setTop (mkF m 126 #[iv p0, iv p1, iv p2, iv p3, iv (p0 &&& (3 : Int32)), iv mv, rv r_105, rv r_108, rv r_111, rv r_114, rv r_117, rv b120, .unset, .unset, .unset, .unset, .unset, .unset] [])) t → Steps p.tables e below (s₁.setTop (entryFrame m #[(.int p0), (.int p1), (.int p2), (.int p3)] maxLocals)) t := fun t kt => pre830 _ (st834.trans kt)
          have pre836 : ∀ t, Steps p.tables e below (T834.setTop (mkF m 142 #[iv p0, iv p1, iv p2, iv p3, iv (p0 &&& (3 : Int32)), iv mv, rv r_105, rv r_108, rv r_111, rv r_114, rv r_117, rv b120, iv (0 : Int32), iv (0 : Int32), iv (0 : Int32), .unset, .unset, .unset] [(.ref r_114)])) t → Steps p.tables e below (s₁.setTop (entryFrame m #[(.int p0), (.int p1), (.int p2), (.int p3)] maxLocals)) t := fun t kt => by
            refine pre835 _ ?_
            show Steps p.tables e below (T834.setTop (mkF m 126 #[iv p0, iv p1, iv p2, iv p3, iv (p0 &&& (3 : Int32)), iv mv, rv r_105, rv r_108, rv r_111, rv r_114, rv r_117, rv b120, .unset, .unset, .unset, .unset, .unset, .unset] [])) _
            refine XS.iconst X834.here hx rfl (hb hby at_126) ?_
            refine XS.istore X834.here hx rfl (hb hby at_127) rfl (l' := #[iv p0, iv p1, iv p2, iv p3, iv (p0 &&& (3 : Int32)), iv mv, rv r_105, rv r_108, rv r_111, rv r_114, rv r_117, rv b120, iv (0 : Int32), .unset, .unset, .unset, .unset, .unset]) rfl ?_
            refine XS.iconst X834.here hx rfl (hb hby at_129) ?_
            refine XS.istore X834.here hx rfl (hb hby at_130) rfl (l' := #[iv p0, iv p1, iv p2, iv p3, iv (p0 &&& (3 : Int32)), iv mv, rv r_105, rv r_108, rv r_111, rv r_114, rv r_117, rv b120, iv (0 : Int32), iv (0 : Int32), .unset, .unset, .unset, .unset]) rfl ?_
            show Steps p.tables e below (T834.setTop (mkF m 132 #[iv p0, iv p1, iv p2, iv p3, iv (p0 &&& (3 : Int32)), iv mv, rv r_105, rv r_108, rv r_111, rv r_114, rv r_117, rv b120, iv (0 : Int32), iv (0 : Int32), .unset, .unset, .unset, .unset] [])) _
            refine XS.iconst X834.here hx rfl (hb hby at_132) ?_
            refine XS.istore X834.here hx rfl (hb hby at_133) rfl (l' := #[iv p0, iv p1, iv p2, iv p3, iv (p0 &&& (3 : Int32)), iv mv, rv r_105, rv r_108, rv r_111, rv r_114, rv r_117, rv b120, iv (0 : Int32), iv (0 : Int32), iv (0 : Int32), .unset, .unset, .unset]) rfl ?_
            refine XS.iload X834.here hx rfl (hb hby at_135) rfl ?_
            refine XS.ifNo X834.here hx rfl (hb hby at_137) rfl (XT.i0_le_f hc209) ?_
            show Steps p.tables e below (T834.setTop (mkF m 140 #[iv p0, iv p1, iv p2, iv p3, iv (p0 &&& (3 : Int32)), iv mv, rv r_105, rv r_108, rv r_111, rv r_114, rv r_117, rv b120, iv (0 : Int32), iv (0 : Int32), iv (0 : Int32), .unset, .unset, .unset] [])) _
            refine XS.aload X834.here hx rfl (hb hby at_140) rfl rfl ?_
            exact kt
          obtain ⟨T837, X837, e837, st837⟩ := getS2 X834 hx hZ hown (host := "") (Or.inl (W 8 rfl)) Via.refl e834 (G2.ext O834.2) (g := (mkF m 142 #[iv p0, iv p1, iv p2, iv p3, iv (p0 &&& (3 : Int32)), iv mv, rv r_105, rv r_108, rv r_111, rv r_114, rv r_117, rv b120, iv (0 : Int32), iv (0 : Int32), iv (0 : Int32), .unset, .unset, .unset] [(.ref r_114)])) rfl (hb hby at_142)
          have pre838 : ∀ t, Steps p.tables e below (T837.setTop (mkF m 145 #[iv p0, iv p1, iv p2, iv p3, iv (p0 &&& (3 : Int32)), iv mv, rv r_105, rv r_108, rv r_111, rv r_114, rv r_117, rv b120, iv (0 : Int32), iv (0 : Int32), iv (0 : Int32), .unset, .unset, .unset] [(.ref a_TRUE), (.ref r_114)])) t → Steps p.tables e below (s₁.setTop (entryFrame m #[(.int p0), (.int p1), (.int p2), (.int p3)] maxLocals)) t := fun t kt => pre836 _ (st837 _ kt)
          have pre839 : ∀ t, Steps p.tables e below (T837.setTop (mkF m 159 #[iv p0, iv p1, iv p2, iv p3, iv (p0 &&& (3 : Int32)), iv mv, rv r_105, rv r_108, rv r_111, rv r_114, rv r_117, rv b120, iv (0 : Int32), iv (0 : Int32), iv (0 : Int32), .unset, .unset, .unset] [(.ref r_114)])) t → Steps p.tables e below (s₁.setTop (entryFrame m #[(.int p0), (.int p1), (.int p2), (.int p3)] maxLocals)) t := fun t kt => by
            refine pre838 _ ?_
            show Steps p.tables e below (T837.setTop (mkF m 145 #[iv p0, iv p1, iv p2, iv p3, iv (p0 &&& (3 : Int32)), iv mv, rv r_105, rv r_108, rv r_111, rv r_114, rv r_117, rv b120, iv (0 : Int32), iv (0 : Int32), iv (0 : Int32), .unset, .unset, .unset] [(.ref a_TRUE), (.ref r_114)])) _
            refine Jvm.RoadKit.acmp (g := (mkF m 145 #[iv p0, iv p1, iv p2, iv p3, iv (p0 &&& (3 : Int32)), iv mv, rv r_105, rv r_108, rv r_111, rv r_114, rv r_117, rv b120, iv (0 : Int32), iv (0 : Int32), iv (0 : Int32), .unset, .unset, .unset] [(.ref a_TRUE), (.ref r_114)])) X837 hx rfl rfl rfl (pc0 := 145) (pc' := 157) (same := false) rfl (hb hby at_145) rfl (decide_eq_false fun q => (fun z => (fun q => ne_a_TRUE_a_UNKNOWN q.symm) (hv211.symm.trans z)) (Value.ref.inj q)) (by decide) (by decide) ?_
            refine XS.aload X837.here hx rfl (hb hby at_157) rfl rfl ?_
            exact kt
          obtain ⟨T840, X840, e840, st840⟩ := getS2 X837 hx hZ hown (host := "") (Or.inl (W 10 rfl)) Via.refl e837 (G4.ext O834.2) (g := (mkF m 159 #[iv p0, iv p1, iv p2, iv p3, iv (p0 &&& (3 : Int32)), iv mv, rv r_105, rv r_108, rv r_111, rv r_114, rv r_117, rv b120, iv (0 : Int32), iv (0 : Int32), iv (0 : Int32), .unset, .unset, .unset] [(.ref r_114)])) rfl (hb hby at_159)
          have pre841 : ∀ t, Steps p.tables e below (T840.setTop (mkF m 162 #[iv p0, iv p1, iv p2, iv p3, iv (p0 &&& (3 : Int32)), iv mv, rv r_105, rv r_108, rv r_111, rv r_114, rv r_117, rv b120, iv (0 : Int32), iv (0 : Int32), iv (0 : Int32), .unset, .unset, .unset] [(.ref a_FALSE), (.ref r_114)])) t → Steps p.tables e below (s₁.setTop (entryFrame m #[(.int p0), (.int p1), (.int p2), (.int p3)] maxLocals)) t := fun t kt => pre839 _ (st840 _ kt)
          have pre842 : ∀ t, Steps p.tables e below (T840.setTop (mkF m 188 #[iv p0, iv p1, iv p2, iv p3, iv (p0 &&& (3 : Int32)), iv mv, rv r_105, rv r_108, rv r_111, rv r_114, rv r_117, rv b120, iv (0 : Int32), iv (0 : Int32), iv (1 : Int32), .unset, .unset, .unset] [(.ref r_117)])) t → Steps p.tables e below (s₁.setTop (entryFrame m #[(.int p0), (.int p1), (.int p2), (.int p3)] maxLocals)) t := fun t kt => by
            refine pre841 _ ?_
            show Steps p.tables e below (T840.setTop (mkF m 162 #[iv p0, iv p1, iv p2, iv p3, iv (p0 &&& (3 : Int32)), iv mv, rv r_105, rv r_108, rv r_111, rv r_114, rv r_117, rv b120, iv (0 : Int32), iv (0 : Int32), iv (0 : Int32), .unset, .unset, .unset] [(.ref a_FALSE), (.ref r_114)])) _
            refine Jvm.RoadKit.acmp (g := (mkF m 162 #[iv p0, iv p1, iv p2, iv p3, iv (p0 &&& (3 : Int32)), iv mv, rv r_105, rv r_108, rv r_111, rv r_114, rv r_117, rv b120, iv (0 : Int32), iv (0 : Int32), iv (0 : Int32), .unset, .unset, .unset] [(.ref a_FALSE), (.ref r_114)])) X840 hx rfl rfl rfl (pc0 := 162) (pc' := 174) (same := false) rfl (hb hby at_162) rfl (decide_eq_false fun q => (fun z => (fun q => ne_a_FALSE_a_UNKNOWN q.symm) (hv211.symm.trans z)) (Value.ref.inj q)) (by decide) (by decide) ?_
            refine XS.iload X840.here hx rfl (hb hby at_174) rfl ?_
            refine XS.iconst X840.here hx rfl (hb hby at_176) ?_
            refine XS.iadd X840.here hx rfl (hb hby at_177) rfl ?_
            show  Steps p.tables e below (T840.setTop (mkF m 178 #[iv p0, iv p1, iv p2, iv p3, iv (p0 &&& (3 : Int32)), iv mv, rv r_105, rv r_108, rv r_111, rv r_114, rv r_117, rv b120, iv (0 : Int32), iv (0 : Int32), iv (0 : Int32), .unset, .unset, .unset] [(.int ((0 : Int32) + (1 : Int32)))])) _
            rw [(by decide : (((0 : Int32) + (1 : Int32)) : Int32) = (1 : Int32))]
            show Steps p.tables e below (T840.setTop (mkF m 178 #[iv p0, iv p1, iv p2, iv p3, iv (p0 &&& (3 : Int32)), iv mv, rv r_105, rv r_108, rv r_111, rv r_114, rv r_117, rv b120, iv (0 : Int32), iv (0 : Int32), iv (0 : Int32), .unset, .unset, .unset] [(.int (1 : Int32))])) _
            refine XS.istore X840.here hx rfl (hb hby at_178) rfl (l' := #[iv p0, iv p1, iv p2, iv p3, iv (p0 &&& (3 : Int32)), iv mv, rv r_105, rv r_108, rv r_111, rv r_114, rv r_117, rv b120, iv (0 : Int32), iv (0 : Int32), iv (1 : Int32), .unset, .unset, .unset]) rfl ?_
            refine XS.iload X840.here hx rfl (hb hby at_180) rfl ?_
            refine XS.iconst X840.here hx rfl (hb hby at_182) ?_
            refine XS.icmpNo X840.here hx rfl (hb hby at_183) rfl (XT.ii_le_f hc829) ?_
            show Steps p.tables e below (T840.setTop (mkF m 186 #[iv p0, iv p1, iv p2, iv p3, iv (p0 &&& (3 : Int32)), iv mv, rv r_105, rv r_108, rv r_111, rv r_114, rv r_117, rv b120, iv (0 : Int32), iv (0 : Int32), iv (1 : Int32), .unset, .unset, .unset] [])) _
            refine XS.aload X840.here hx rfl (hb hby at_186) rfl rfl ?_
            exact kt
          obtain ⟨T843, X843, e843, st843⟩ := getS2 X840 hx hZ hown (host := "") (Or.inl (W 8 rfl)) Via.refl e840 (G2.ext O834.2) (g := (mkF m 188 #[iv p0, iv p1, iv p2, iv p3, iv (p0 &&& (3 : Int32)), iv mv, rv r_105, rv r_108, rv r_111, rv r_114, rv r_117, rv b120, iv (0 : Int32), iv (0 : Int32), iv (1 : Int32), .unset, .unset, .unset] [(.ref r_117)])) rfl (hb hby at_188)
          have pre844 : ∀ t, Steps p.tables e below (T843.setTop (mkF m 191 #[iv p0, iv p1, iv p2, iv p3, iv (p0 &&& (3 : Int32)), iv mv, rv r_105, rv r_108, rv r_111, rv r_114, rv r_117, rv b120, iv (0 : Int32), iv (0 : Int32), iv (1 : Int32), .unset, .unset, .unset] [(.ref a_TRUE), (.ref r_117)])) t → Steps p.tables e below (s₁.setTop (entryFrame m #[(.int p0), (.int p1), (.int p2), (.int p3)] maxLocals)) t := fun t kt => pre842 _ (st843 _ kt)
          have pre845 : ∀ t, Steps p.tables e below (T843.setTop (mkF m 242 #[iv p0, iv p1, iv p2, iv p3, iv (p0 &&& (3 : Int32)), iv mv, rv r_105, rv r_108, rv r_111, rv r_114, rv r_117, rv b120, iv (1 : Int32), iv (0 : Int32), iv (1 : Int32), .unset, .unset, .unset] [])) t → Steps p.tables e below (s₁.setTop (entryFrame m #[(.int p0), (.int p1), (.int p2), (.int p3)] maxLocals)) t := fun t kt => by
            refine pre844 _ ?_
            show Steps p.tables e below (T843.setTop (mkF m 191 #[iv p0, iv p1, iv p2, iv p3, iv (p0 &&& (3 : Int32)), iv mv, rv r_105, rv r_108, rv r_111, rv r_114, rv r_117, rv b120, iv (0 : Int32), iv (0 : Int32), iv (1 : Int32), .unset, .unset, .unset] [(.ref a_TRUE), (.ref r_117)])) _
            refine Jvm.RoadKit.acmp (g := (mkF m 191 #[iv p0, iv p1, iv p2, iv p3, iv (p0 &&& (3 : Int32)), iv mv, rv r_105, rv r_108, rv r_111, rv r_114, rv r_117, rv b120, iv (0 : Int32), iv (0 : Int32), iv (1 : Int32), .unset, .unset, .unset] [(.ref a_TRUE), (.ref r_117)])) X843 hx rfl rfl rfl (pc0 := 191) (pc' := 194) (same := true) rfl (hb hby at_191) rfl (decide_eq_true (congrArg Value.ref hv831)) (by decide) (by decide) ?_
            refine XS.iload X843.here hx rfl (hb hby at_194) rfl ?_
            refine XS.iconst X843.here hx rfl (hb hby at_196) ?_
            refine XS.iadd X843.here hx rfl (hb hby at_197) rfl ?_
            show  Steps p.tables e below (T843.setTop (mkF m 198 #[iv p0, iv p1, iv p2, iv p3, iv (p0 &&& (3 : Int32)), iv mv, rv r_105, rv r_108, rv r_111, rv r_114, rv r_117, rv b120, iv (0 : Int32), iv (0 : Int32), iv (1 : Int32), .unset, .unset, .unset] [(.int ((0 : Int32) + (1 : Int32)))])) _
            rw [(by decide : (((0 : Int32) + (1 : Int32)) : Int32) = (1 : Int32))]
            show Steps p.tables e below (T843.setTop (mkF m 198 #[iv p0, iv p1, iv p2, iv p3, iv (p0 &&& (3 : Int32)), iv mv, rv r_105, rv r_108, rv r_111, rv r_114, rv r_117, rv b120, iv (0 : Int32), iv (0 : Int32), iv (1 : Int32), .unset, .unset, .unset] [(.int (1 : Int32))])) _
            refine XS.istore X843.here hx rfl (hb hby at_198) rfl (l' := #[iv p0, iv p1, iv p2, iv p3, iv (p0 &&& (3 : Int32)), iv mv, rv r_105, rv r_108, rv r_111, rv r_114, rv r_117, rv b120, iv (1 : Int32), iv (0 : Int32), iv (1 : Int32), .unset, .unset, .unset]) rfl ?_
            refine XS.goto X843.here hx rfl (pc0 := 200) (pc' := 226) rfl (hb hby at_200) (by decide) (by decide) ?_
            refine XS.iload X843.here hx rfl (hb hby at_226) rfl ?_
            refine XS.ifYes X843.here hx rfl (pc0 := 228) (pc' := 237) rfl (hb hby at_228) rfl (XT.i0_le_t (by decide)) (by decide) (by decide) ?_
            show Steps p.tables e below (T843.setTop (mkF m 237 #[iv p0, iv p1, iv p2, iv p3, iv (p0 &&& (3 : Int32)), iv mv, rv r_105, rv r_108, rv r_111, rv r_114, rv r_117, rv b120, iv (1 : Int32), iv (0 : Int32), iv (1 : Int32), .unset, .unset, .unset] [])) _
            refine XS.iload X843.here hx rfl (hb hby at_237) rfl ?_
            refine XS.ifNo X843.here hx rfl (hb hby at_239) rfl (XT.i0_le_f (by decide)) ?_
            exact kt
          obtain ⟨T846, X846, e846, st846⟩ := getS2 X843 hx hZ hown (host := "") (Or.inl (W 5 rfl)) Via.refl e843 (G0.ext O834.2) (g := (mkF m 242 #[iv p0, iv p1, iv p2, iv p3, iv (p0 &&& (3 : Int32)), iv mv, rv r_105, rv r_108, rv r_111, rv r_114, rv r_117, rv b120, iv (1 : Int32), iv (0 : Int32), iv (1 : Int32), .unset, .unset, .unset] [])) rfl (hb hby at_242)
          have pre847 : ∀ t, Steps p.tables e below (T846.setTop (mkF m 245 #[iv p0, iv p1, iv p2, iv p3, iv (p0 &&& (3 : Int32)), iv mv, rv r_105, rv r_108, rv r_111, rv r_114, rv r_117, rv b120, iv (1 : Int32), iv (0 : Int32), iv (1 : Int32), .unset, .unset, .unset] [(.ref a_UNKNOWN)])) t → Steps p.tables e below (s₁.setTop (entryFrame m #[(.int p0), (.int p1), (.int p2), (.int p3)] maxLocals)) t := fun t kt => pre845 _ (st846 _ kt)
          have pre848 : ∀ t, Steps p.tables e below (T846.setTop (mkF m 258 #[iv p0, iv p1, iv p2, iv p3, iv (p0 &&& (3 : Int32)), iv mv, rv r_105, rv r_108, rv r_111, rv r_114, rv r_117, rv b120, iv (1 : Int32), iv (0 : Int32), iv (1 : Int32), rv a_UNKNOWN, .unset, .unset] [])) t → Steps p.tables e below (s₁.setTop (entryFrame m #[(.int p0), (.int p1), (.int p2), (.int p3)] maxLocals)) t := fun t kt => by
            refine pre847 _ ?_
            show Steps p.tables e below (T846.setTop (mkF m 245 #[iv p0, iv p1, iv p2, iv p3, iv (p0 &&& (3 : Int32)), iv mv, rv r_105, rv r_108, rv r_111, rv r_114, rv r_117, rv b120, iv (1 : Int32), iv (0 : Int32), iv (1 : Int32), .unset, .unset, .unset] [(.ref a_UNKNOWN)])) _
            refine XS.goto X846.here hx rfl (pc0 := 245) (pc' := 251) rfl (hb hby at_245) (by decide) (by decide) ?_
            refine XS.astore X846.here hx rfl (hb hby at_251) rfl rfl (l' := #[iv p0, iv p1, iv p2, iv p3, iv (p0 &&& (3 : Int32)), iv mv, rv r_105, rv r_108, rv r_111, rv r_114, rv r_117, rv b120, iv (1 : Int32), iv (0 : Int32), iv (1 : Int32), rv a_UNKNOWN, .unset, .unset]) rfl ?_
            refine XS.iload X846.here hx rfl (hb hby at_253) rfl ?_
            refine XS.ifNo X846.here hx rfl (hb hby at_255) rfl (XT.i0_le_f (by decide)) ?_
            exact kt
          obtain ⟨T849, X849, e849, st849⟩ := getS2 X846 hx hZ hown (host := "") (Or.inl (W 8 rfl)) Via.refl e846 (G2.ext O834.2) (g := (mkF m 258 #[iv p0, iv p1, iv p2, iv p3, iv (p0 &&& (3 : Int32)), iv mv, rv r_105, rv r_108, rv r_111, rv r_114, rv r_117, rv b120, iv (1 : Int32), iv (0 : Int32), iv (1 : Int32), rv a_UNKNOWN, .unset, .unset] [])) rfl (hb hby at_258)
          have pre850 : ∀ t, Steps p.tables e below (T849.setTop (mkF m 261 #[iv p0, iv p1, iv p2, iv p3, iv (p0 &&& (3 : Int32)), iv mv, rv r_105, rv r_108, rv r_111, rv r_114, rv r_117, rv b120, iv (1 : Int32), iv (0 : Int32), iv (1 : Int32), rv a_UNKNOWN, .unset, .unset] [(.ref a_TRUE)])) t → Steps p.tables e below (s₁.setTop (entryFrame m #[(.int p0), (.int p1), (.int p2), (.int p3)] maxLocals)) t := fun t kt => pre848 _ (st849 _ kt)
          have pre851 : ∀ t, Steps p.tables e below (T849.setTop (mkF m 285 #[iv p0, iv p1, iv p2, iv p3, iv (p0 &&& (3 : Int32)), iv mv, rv r_105, rv r_108, rv r_111, rv r_114, rv r_117, rv b120, iv (1 : Int32), iv (0 : Int32), iv (1 : Int32), rv a_UNKNOWN, rv a_TRUE, .unset] [])) t → Steps p.tables e below (s₁.setTop (entryFrame m #[(.int p0), (.int p1), (.int p2), (.int p3)] maxLocals)) t := fun t kt => by
            refine pre850 _ ?_
            show Steps p.tables e below (T849.setTop (mkF m 261 #[iv p0, iv p1, iv p2, iv p3, iv (p0 &&& (3 : Int32)), iv mv, rv r_105, rv r_108, rv r_111, rv r_114, rv r_117, rv b120, iv (1 : Int32), iv (0 : Int32), iv (1 : Int32), rv a_UNKNOWN, .unset, .unset] [(.ref a_TRUE)])) _
            refine XS.goto X849.here hx rfl (pc0 := 261) (pc' := 278) rfl (hb hby at_261) (by decide) (by decide) ?_
            refine XS.astore X849.here hx rfl (hb hby at_278) rfl rfl (l' := #[iv p0, iv p1, iv p2, iv p3, iv (p0 &&& (3 : Int32)), iv mv, rv r_105, rv r_108, rv r_111, rv r_114, rv r_117, rv b120, iv (1 : Int32), iv (0 : Int32), iv (1 : Int32), rv a_UNKNOWN, rv a_TRUE, .unset]) rfl ?_
            refine XS.iload X849.here hx rfl (hb hby at_280) rfl ?_
            refine XS.ifNo X849.here hx rfl (hb hby at_282) rfl (XT.i0_le_f (by decide)) ?_
            exact kt
          obtain ⟨T852, X852, e852, st852⟩ := getS2 X849 hx hZ hown (host := "") (Or.inl (W 5 rfl)) Via.refl e849 (G0.ext O834.2) (g := (mkF m 285 #[iv p0, iv p1, iv p2, iv p3, iv (p0 &&& (3 : Int32)), iv mv, rv r_105, rv r_108, rv r_111, rv r_114, rv r_117, rv b120, iv (1 : Int32), iv (0 : Int32), iv (1 : Int32), rv a_UNKNOWN, rv a_TRUE, .unset] [])) rfl (hb hby at_285)
          have pre853 : ∀ t, Steps p.tables e below (T852.setTop (mkF m 288 #[iv p0, iv p1, iv p2, iv p3, iv (p0 &&& (3 : Int32)), iv mv, rv r_105, rv r_108, rv r_111, rv r_114, rv r_117, rv b120, iv (1 : Int32), iv (0 : Int32), iv (1 : Int32), rv a_UNKNOWN, rv a_TRUE, .unset] [(.ref a_UNKNOWN)])) t → Steps p.tables e below (s₁.setTop (entryFrame m #[(.int p0), (.int p1), (.int p2), (.int p3)] maxLocals)) t := fun t kt => pre851 _ (st852 _ kt)
          have pre854 : ∀ t, Steps p.tables e below (T852.setTop (mkF m 310 #[iv p0, iv p1, iv p2, iv p3, iv (p0 &&& (3 : Int32)), iv mv, rv r_105, rv r_108, rv r_111, rv r_114, rv r_117, rv b120, iv (1 : Int32), iv (0 : Int32), iv (1 : Int32), rv a_UNKNOWN, rv a_TRUE, rv a_UNKNOWN] [(.ref b120)])) t → Steps p.tables e below (s₁.setTop (entryFrame m #[(.int p0), (.int p1), (.int p2), (.int p3)] maxLocals)) t := fun t kt => by
            refine pre853 _ ?_
            show Steps p.tables e below (T852.setTop (mkF m 288 #[iv p0, iv p1, iv p2, iv p3, iv (p0 &&& (3 : Int32)), iv mv, rv r_105, rv r_108, rv r_111, rv r_114, rv r_117, rv b120, iv (1 : Int32), iv (0 : Int32), iv (1 : Int32), rv a_UNKNOWN, rv a_TRUE, .unset] [(.ref a_UNKNOWN)])) _
            refine XS.goto X852.here hx rfl (pc0 := 288) (pc' := 306) rfl (hb hby at_288) (by decide) (by decide) ?_
            refine XS.astore X852.here hx rfl (hb hby at_306) rfl rfl (l' := #[iv p0, iv p1, iv p2, iv p3, iv (p0 &&& (3 : Int32)), iv mv, rv r_105, rv r_108, rv r_111, rv r_114, rv r_117, rv b120, iv (1 : Int32), iv (0 : Int32), iv (1 : Int32), rv a_UNKNOWN, rv a_TRUE, rv a_UNKNOWN]) rfl ?_
            refine XS.aload X852.here hx rfl (hb hby at_308) rfl rfl ?_
            exact kt
          obtain ⟨cq855, kq855, q855a, q855b, q855c⟩ := isOf hZ e852 J834_0
          obtain ⟨_, _, ⟨T855, L855, k855, n855⟩, -, X855, ⟨Lc855, hQ855, l855, y855, z855⟩, st855⟩ := X852.virtualBack hx (y := (⟨"com/example/contexture/contexture/engine/evaluation/TruthValue$Tally", "and", "()Lcom/example/contexture/contexture/engine/evaluation/TruthValue;"⟩ : MethodName)) (z := (⟨"com/example/contexture/contexture/engine/evaluation/TruthValue$Tally", "and", "()Lcom/example/contexture/contexture/engine/evaluation/TruthValue;"⟩ : MethodName)) hown (mvT hZ (W 46 rfl)) (mvT hZ (W 47 rfl)) (notFace_of_selects (args := #[]) (mvT hZ (W 49 rfl))) (mvT hZ (W 49 rfl)) (mvT hZ (W 48 rfl)) (by decide) (backOf (W := 0) (rm_and7_2 l Z a0 hw [] b120 a_UNKNOWN a_TRUE h834 n0 O834 G0 G2 J834_0 J834_2 J834_3) hZ (W 50 rfl) (W 14 rfl) (by decide) (by decide)) q855a q855c (g := (mkF m 310 #[iv p0, iv p1, iv p2, iv p3, iv (p0 &&& (3 : Int32)), iv mv, rv r_105, rv r_108, rv r_111, rv r_114, rv r_117, rv b120, iv (1 : Int32), iv (0 : Int32), iv (1 : Int32), rv a_UNKNOWN, rv a_TRUE, rv a_UNKNOWN] [(.ref b120)])) rfl (by rw [hml]; rfl) (Steps.refl _) (argsL := []) (rest := []) (lenOf pd_16 rfl) rfl (by show 2 * 0 + _ ≤ _; exact Nat.le_of_eq rfl) (hb hby at_310) (fun _ _ => ⟨rfl, e852, (by decide : 1 + 0 ≤ _), (by decide : 3 + 0 ≤ _)⟩)
          dsimp only [Pt.U, Pt.locs, Pt.cells, Pt.slots] at X855 l855 y855 z855 st855 hQ855
          replace l855 := l855.symm
          replace y855 : 1 = k855 := y855.symm
          replace z855 : 3 = n855 := z855.symm
          subst l855 y855 z855
          obtain ⟨rfl, M855, e855⟩ := hQ855
          have N855 := Fr.app N834 M855
          have pre856 : ∀ t, Steps p.tables e below (T855.setTop (mkF m 313 #[iv p0, iv p1, iv p2, iv p3, iv (p0 &&& (3 : Int32)), iv mv, rv r_105, rv r_108, rv r_111, rv r_114, rv r_117, rv b120, iv (1 : Int32), iv (0 : Int32), iv (1 : Int32), rv a_UNKNOWN, rv a_TRUE, rv a_UNKNOWN] [(.ref a_UNKNOWN)])) t → Steps p.tables e below (s₁.setTop (entryFrame m #[(.int p0), (.int p1), (.int p2), (.int p3)] maxLocals)) t := fun t kt => pre854 _ (st855.trans kt)
          have pre857 : ∀ t, Steps p.tables e below (T855.setTop (mkF m 320 #[iv p0, iv p1, iv p2, iv p3, iv (p0 &&& (3 : Int32)), iv mv, rv r_105, rv r_108, rv r_111, rv r_114, rv r_117, rv b120, iv (1 : Int32), iv (0 : Int32), iv (1 : Int32), rv a_UNKNOWN, rv a_TRUE, rv a_UNKNOWN] [(.ref b120)])) t → Steps p.tables e below (s₁.setTop (entryFrame m #[(.int p0), (.int p1), (.int p2), (.int p3)] maxLocals)) t := fun t kt => by
            refine pre856 _ ?_
            show Steps p.tables e below (T855.setTop (mkF m 313 #[iv p0, iv p1, iv p2, iv p3, iv (p0 &&& (3 : Int32)), iv mv, rv r_105, rv r_108, rv r_111, rv r_114, rv r_117, rv b120, iv (1 : Int32), iv (0 : Int32), iv (1 : Int32), rv a_UNKNOWN, rv a_TRUE, rv a_UNKNOWN] [(.ref a_UNKNOWN)])) _
            refine XS.aload X855.here hx rfl (hb hby at_313) rfl rfl ?_
            refine Jvm.RoadKit.acmp (g := (mkF m 315 #[iv p0, iv p1, iv p2, iv p3, iv (p0 &&& (3 : Int32)), iv mv, rv r_105, rv r_108, rv r_111, rv r_114, rv r_117, rv b120, iv (1 : Int32), iv (0 : Int32), iv (1 : Int32), rv a_UNKNOWN, rv a_TRUE, rv a_UNKNOWN] [(.ref a_UNKNOWN), (.ref a_UNKNOWN)])) X855 hx rfl rfl rfl (pc0 := 315) (pc' := 318) (same := true) rfl (hb hby at_315) rfl (decide_eq_true rfl) (by decide) (by decide) ?_
            refine XS.aload X855.here hx rfl (hb hby at_318) rfl rfl ?_
            exact kt
          obtain ⟨cq858, kq858, q858a, q858b, q858c⟩ := isOf hZ e855 J834_0
          obtain ⟨_, _, ⟨T858, L858, k858, n858⟩, -, X858, ⟨Lc858, hQ858, l858, y858, z858⟩, st858⟩ := X855.virtualBack hx (y := (⟨"com/example/contexture/contexture/engine/evaluation/TruthValue$Tally", "or", "()Lcom/example/contexture/contexture/engine/evaluation/TruthValue;"⟩ : MethodName)) (z := (⟨"com/example/contexture/contexture/engine/evaluation/TruthValue$Tally", "or", "()Lcom/example/contexture/contexture/engine/evaluation/TruthValue;"⟩ : MethodName)) hown (mvT hZ (W 52 rfl)) (mvT hZ (W 53 rfl)) (notFace_of_selects (args := #[]) (mvT hZ (W 55 rfl))) (mvT hZ (W 55 rfl)) (mvT hZ (W 54 rfl)) (by decide) (backOf (W := 0) (rm_or8_1 l Z a0 hw [] b120 a_TRUE h834 n0 O834 G2 J834_1) hZ (W 56 rfl) (W 14 rfl) (by decide) (by decide)) q858a q858c (g := (mkF m 320 #[iv p0, iv p1, iv p2, iv p3, iv (p0 &&& (3 : Int32)), iv mv, rv r_105, rv r_108, rv r_111, rv r_114, rv r_117, rv b120, iv (1 : Int32), iv (0 : Int32), iv (1 : Int32), rv a_UNKNOWN, rv a_TRUE, rv a_UNKNOWN] [(.ref b120)])) rfl (by rw [hml]; rfl) (Steps.refl _) (argsL := []) (rest := []) (lenOf pd_16 rfl) rfl (by show 2 * 0 + _ ≤ _; exact Nat.le_of_eq rfl) (hb hby at_320) (fun _ _ => ⟨rfl, e855, (by decide : 1 + 0 ≤ _), (by decide : 3 + 0 ≤ _)⟩)
          dsimp only [Pt.U, Pt.locs, Pt.cells, Pt.slots] at X858 l858 y858 z858 st858 hQ858
          replace l858 := l858.symm
          replace y858 : 1 = k858 := y858.symm
          replace z858 : 3 = n858 := z858.symm
          subst l858 y858 z858
          obtain ⟨rfl, M858, e858⟩ := hQ858
          have N858 := Fr.app N855 M858
          have pre859 : ∀ t, Steps p.tables e below (T858.setTop (mkF m 323 #[iv p0, iv p1, iv p2, iv p3, iv (p0 &&& (3 : Int32)), iv mv, rv r_105, rv r_108, rv r_111, rv r_114, rv r_117, rv b120, iv (1 : Int32), iv (0 : Int32), iv (1 : Int32), rv a_UNKNOWN, rv a_TRUE, rv a_UNKNOWN] [(.ref a_TRUE)])) t → Steps p.tables e below (s₁.setTop (entryFrame m #[(.int p0), (.int p1), (.int p2), (.int p3)] maxLocals)) t := fun t kt => pre857 _ (st858.trans kt)
          have pre860 : ∀ t, Steps p.tables e below (T858.setTop (mkF m 330 #[iv p0, iv p1, iv p2, iv p3, iv (p0 &&& (3 : Int32)), iv mv, rv r_105, rv r_108, rv r_111, rv r_114, rv r_117, rv b120, iv (1 : Int32), iv (0 : Int32), iv (1 : Int32), rv a_UNKNOWN, rv a_TRUE, rv a_UNKNOWN] [(.ref b120)])) t → Steps p.tables e below (s₁.setTop (entryFrame m #[(.int p0), (.int p1), (.int p2), (.int p3)] maxLocals)) t := fun t kt => by
            refine pre859 _ ?_
            show Steps p.tables e below (T858.setTop (mkF m 323 #[iv p0, iv p1, iv p2, iv p3, iv (p0 &&& (3 : Int32)), iv mv, rv r_105, rv r_108, rv r_111, rv r_114, rv r_117, rv b120, iv (1 : Int32), iv (0 : Int32), iv (1 : Int32), rv a_UNKNOWN, rv a_TRUE, rv a_UNKNOWN] [(.ref a_TRUE)])) _
            refine XS.aload X858.here hx rfl (hb hby at_323) rfl rfl ?_
            refine Jvm.RoadKit.acmp (g := (mkF m 325 #[iv p0, iv p1, iv p2, iv p3, iv (p0 &&& (3 : Int32)), iv mv, rv r_105, rv r_108, rv r_111, rv r_114, rv r_117, rv b120, iv (1 : Int32), iv (0 : Int32), iv (1 : Int32), rv a_UNKNOWN, rv a_TRUE, rv a_UNKNOWN] [(.ref a_TRUE), (.ref a_TRUE)])) X858 hx rfl rfl rfl (pc0 := 325) (pc' := 328) (same := true) rfl (hb hby at_325) rfl (decide_eq_true rfl) (by decide) (by decide) ?_
            refine XS.aload X858.here hx rfl (hb hby at_328) rfl rfl ?_
            exact kt
          obtain ⟨cq861, kq861, q861a, q861b, q861c⟩ := isOf hZ e858 J834_0
          obtain ⟨_, _, ⟨T861, L861, k861, n861⟩, -, X861, ⟨Lc861, hQ861, l861, y861, z861⟩, st861⟩ := X858.virtualBack hx (y := (⟨"com/example/contexture/contexture/engine/evaluation/TruthValue$Tally", "xor", "()Lcom/example/contexture/contexture/engine/evaluation/TruthValue;"⟩ : MethodName)) (z := (⟨"com/example/contexture/contexture/engine/evaluation/TruthValue$Tally", "xor", "()Lcom/example/contexture/contexture/engine/evaluation/TruthValue;"⟩ : MethodName)) hown (mvT hZ (W 58 rfl)) (mvT hZ (W 59 rfl)) (notFace_of_selects (args := #[]) (mvT hZ (W 61 rfl))) (mvT hZ (W 61 rfl)) (mvT hZ (W 60 rfl)) (by decide) (backOf (W := 0) (rm_xor9_2 l Z a0 hw [] b120 a_UNKNOWN a_TRUE h834 n0 O834 G0 G2 J834_0 J834_1 J834_3) hZ (W 62 rfl) (W 14 rfl) (by decide) (by decide)) q861a q861c (g := (mkF m 330 #[iv p0, iv p1, iv p2, iv p3, iv (p0 &&& (3 : Int32)), iv mv, rv r_105, rv r_108, rv r_111, rv r_114, rv r_117, rv b120, iv (1 : Int32), iv (0 : Int32), iv (1 : Int32), rv a_UNKNOWN, rv a_TRUE, rv a_UNKNOWN] [(.ref b120)])) rfl (by rw [hml]; rfl) (Steps.refl _) (argsL := []) (rest := []) (lenOf pd_16 rfl) rfl (by show 2 * 0 + _ ≤ _; exact Nat.le_of_eq rfl) (hb hby at_330) (fun _ _ => ⟨rfl, e858, (by decide : 1 + 0 ≤ _), (by decide : 3 + 0 ≤ _)⟩)
          dsimp only [Pt.U, Pt.locs, Pt.cells, Pt.slots] at X861 l861 y861 z861 st861 hQ861
          replace l861 := l861.symm
          replace y861 : 1 = k861 := y861.symm
          replace z861 : 3 = n861 := z861.symm
          subst l861 y861 z861
          obtain ⟨rfl, M861, e861⟩ := hQ861
          have N861 := Fr.app N858 M861
          have pre862 : ∀ t, Steps p.tables e below (T861.setTop (mkF m 333 #[iv p0, iv p1, iv p2, iv p3, iv (p0 &&& (3 : Int32)), iv mv, rv r_105, rv r_108, rv r_111, rv r_114, rv r_117, rv b120, iv (1 : Int32), iv (0 : Int32), iv (1 : Int32), rv a_UNKNOWN, rv a_TRUE, rv a_UNKNOWN] [(.ref a_UNKNOWN)])) t → Steps p.tables e below (s₁.setTop (entryFrame m #[(.int p0), (.int p1), (.int p2), (.int p3)] maxLocals)) t := fun t kt => pre860 _ (st861.trans kt)
          have pre863 : ∀ t, Steps p.tables e below (T861.setTop (mkF m 343 #[iv p0, iv p1, iv p2, iv p3, iv (p0 &&& (3 : Int32)), iv mv, rv r_105, rv r_108, rv r_111, rv r_114, rv r_117, rv b120, iv (1 : Int32), iv (0 : Int32), iv (1 : Int32), rv a_UNKNOWN, rv a_TRUE, rv a_UNKNOWN] [(.int (1 : Int32))])) t → Steps p.tables e below (s₁.setTop (entryFrame m #[(.int p0), (.int p1), (.int p2), (.int p3)] maxLocals)) t := fun t kt => by
            refine pre862 _ ?_
            show Steps p.tables e below (T861.setTop (mkF m 333 #[iv p0, iv p1, iv p2, iv p3, iv (p0 &&& (3 : Int32)), iv mv, rv r_105, rv r_108, rv r_111, rv r_114, rv r_117, rv b120, iv (1 : Int32), iv (0 : Int32), iv (1 : Int32), rv a_UNKNOWN, rv a_TRUE, rv a_UNKNOWN] [(.ref a_UNKNOWN)])) _
            refine XS.aload X861.here hx rfl (hb hby at_333) rfl rfl ?_
            refine Jvm.RoadKit.acmp (g := (mkF m 335 #[iv p0, iv p1, iv p2, iv p3, iv (p0 &&& (3 : Int32)), iv mv, rv r_105, rv r_108, rv r_111, rv r_114, rv r_117, rv b120, iv (1 : Int32), iv (0 : Int32), iv (1 : Int32), rv a_UNKNOWN, rv a_TRUE, rv a_UNKNOWN] [(.ref a_UNKNOWN), (.ref a_UNKNOWN)])) X861 hx rfl rfl rfl (pc0 := 335) (pc' := 338) (same := true) rfl (hb hby at_335) rfl (decide_eq_true rfl) (by decide) (by decide) ?_
            refine XS.iconst X861.here hx rfl (hb hby at_338) ?_
            refine XS.goto X861.here hx rfl (pc0 := 339) (pc' := 343) rfl (hb hby at_339) (by decide) (by decide) ?_
            exact kt
          obtain ⟨fs, hr, hrun, hended, hW, hsame⟩ := X861.leave (v := some (.int (1 : Int32))) (fun h => by rw [Bd.returns] at h; cases h)
          refine ⟨_, _, pre863 _ (retN X861 hx (t := .boolean) Bd.returns (by simp) (hb hby at_343) hr), hrun, hended, _, _, rfl, ?_, ⟨_, rfl⟩, hW, hsame.mono (by decide) (by decide)⟩
          show Q_law Z p0 p1 p2 p3 a_UNKNOWN a_TRUE a_FALSE h0 n0 _ T861.heap _
          rw [e861]
          exact ⟨rfl, N861⟩
        · have Gr864 : Exa Z Z.heap r_117 "com/example/contexture/contexture/engine/evaluation/TruthValue" := hv831 ▸ G5
          have Gr865 : Fld Z Z.heap r_117 "java/lang/Enum" "ordinal" "I" (.int (1 : Int32)) := hv831 ▸ G6
          obtain ⟨cq866, kq866, q866a, q866b, q866c⟩ := isOf hZ e826 J826_0
          obtain ⟨_, _, ⟨T866, L866, k866, n866⟩, -, X866, ⟨Lc866, hQ866, l866, y866, z866⟩, st866⟩ := X826.virtualBack hx (y := (⟨"com/example/contexture/contexture/engine/evaluation/TruthValue$Tally", "add", "(Lcom/example/contexture/contexture/engine/evaluation/TruthValue;)V"⟩ : MethodName)) (z := (⟨"com/example/contexture/contexture/engine/evaluation/TruthValue$Tally", "add", "(Lcom/example/contexture/contexture/engine/evaluation/TruthValue;)V"⟩ : MethodName)) hown (mvT hZ (W 32 rfl)) (mvT hZ (W 33 rfl)) (notFace_of_selects (args := #[]) (mvT hZ (W 35 rfl))) (mvT hZ (W 35 rfl)) (mvT hZ (W 34 rfl)) (by decide) (backOf (W := 0) (rm_add1 l Z a0 hw [] b120 r_117 ((0 : Int32)) ((0 : Int32)) (((0 : Int32) + (1 : Int32))) h826 n0 O826 Gr864 Gr865 g_b120 J826_0 J826_1 J826_2 J826_3) hZ (W 36 rfl) (W 14 rfl) (by decide) (by decide)) q866a q866c (g := (mkF m 123 #[iv p0, iv p1, iv p2, iv p3, iv (p0 &&& (3 : Int32)), iv mv, rv r_105, rv r_108, rv r_111, rv r_114, rv r_117, rv b120, .unset, .unset, .unset, .unset, .unset, .unset] [(.ref r_117), (.ref b120)])) rfl (by rw [hml]; rfl) (Steps.refl _) (argsL := [(.ref r_117)]) (rest := []) (lenOf pd_12 rfl) rfl (by show 2 * 0 + _ ≤ _; exact Nat.le_of_eq rfl) (hb hby at_123) (fun _ _ => ⟨rfl, e826, (by decide : 1 + 0 ≤ _), (by decide : 3 + 0 ≤ _)⟩)
          dsimp only [Pt.U, Pt.locs, Pt.cells, Pt.slots] at X866 l866 y866 z866 st866 hQ866
          replace l866 := l866.symm
          replace y866 : 1 = k866 := y866.symm
          replace z866 : 3 = n866 := z866.symm
          subst l866 y866 z866
          obtain ⟨rfl, M866, Kc866, O866, J866_0, J866_1, J866_2, J866_3⟩ := hQ866
          obtain ⟨h866, e866⟩ : ∃ z, T866.heap = z := ⟨_, rfl⟩
          rw [e866] at Kc866 O866 J866_0 J866_1 J866_2 J866_3
          have N866 := Fr.app N826 M866
          have K866 : Keep h0 h866 [] := K826.trans Kc866 (own_all1 (Or.inr sz_b120))
          have pre867 : ∀ t, Steps p.tables e below (T866.setTop (mkF m 126 #[iv p0, iv p1, iv p2, iv p3, iv (p0 &&& (3 : Int32)), iv mv, rv r_105, rv r_108, rv r_111, rv r_114, rv r_117, rv b120, .unset, .unset, .unset, .unset, .unset, .unset] [])) t → Steps p.tables e below (s₁.setTop (entryFrame m #[(.int p0), (.int p1), (.int p2), (.int p3)] maxLocals)) t := fun t kt => pre830 _ (st866.trans kt)
          have pre868 : ∀ t, Steps p.tables e below (T866.setTop (mkF m 142 #[iv p0, iv p1, iv p2, iv p3, iv (p0 &&& (3 : Int32)), iv mv, rv r_105, rv r_108, rv r_111, rv r_114, rv r_117, rv b120, iv (0 : Int32), iv (0 : Int32), iv (0 : Int32), .unset, .unset, .unset] [(.ref r_114)])) t → Steps p.tables e below (s₁.setTop (entryFrame m #[(.int p0), (.int p1), (.int p2), (.int p3)] maxLocals)) t := fun t kt => by
            refine pre867 _ ?_
            show Steps p.tables e below (T866.setTop (mkF m 126 #[iv p0, iv p1, iv p2, iv p3, iv (p0 &&& (3 : Int32)), iv mv, rv r_105, rv r_108, rv r_111, rv r_114, rv r_117, rv b120, .unset, .unset, .unset, .unset, .unset, .unset] [])) _
            refine XS.iconst X866.here hx rfl (hb hby at_126) ?_
            refine XS.istore X866.here hx rfl (hb hby at_127) rfl (l' := #[iv p0, iv p1, iv p2, iv p3, iv (p0 &&& (3 : Int32)), iv mv, rv r_105, rv r_108, rv r_111, rv r_114, rv r_117, rv b120, iv (0 : Int32), .unset, .unset, .unset, .unset, .unset]) rfl ?_
            refine XS.iconst X866.here hx rfl (hb hby at_129) ?_
            refine XS.istore X866.here hx rfl (hb hby at_130) rfl (l' := #[iv p0, iv p1, iv p2, iv p3, iv (p0 &&& (3 : Int32)), iv mv, rv r_105, rv r_108, rv r_111, rv r_114, rv r_117, rv b120, iv (0 : Int32), iv (0 : Int32), .unset, .unset, .unset, .unset]) rfl ?_
            show Steps p.tables e below (T866.setTop (mkF m 132 #[iv p0, iv p1, iv p2, iv p3, iv (p0 &&& (3 : Int32)), iv mv, rv r_105, rv r_108, rv r_111, rv r_114, rv r_117, rv b120, iv (0 : Int32), iv (0 : Int32), .unset, .unset, .unset, .unset] [])) _
            refine XS.iconst X866.here hx rfl (hb hby at_132) ?_
            refine XS.istore X866.here hx rfl (hb hby at_133) rfl (l' := #[iv p0, iv p1, iv p2, iv p3, iv (p0 &&& (3 : Int32)), iv mv, rv r_105, rv r_108, rv r_111, rv r_114, rv r_117, rv b120, iv (0 : Int32), iv (0 : Int32), iv (0 : Int32), .unset, .unset, .unset]) rfl ?_
            refine XS.iload X866.here hx rfl (hb hby at_135) rfl ?_
            refine XS.ifNo X866.here hx rfl (hb hby at_137) rfl (XT.i0_le_f hc209) ?_
            show Steps p.tables e below (T866.setTop (mkF m 140 #[iv p0, iv p1, iv p2, iv p3, iv (p0 &&& (3 : Int32)), iv mv, rv r_105, rv r_108, rv r_111, rv r_114, rv r_117, rv b120, iv (0 : Int32), iv (0 : Int32), iv (0 : Int32), .unset, .unset, .unset] [])) _
            refine XS.aload X866.here hx rfl (hb hby at_140) rfl rfl ?_
            exact kt
          obtain ⟨T869, X869, e869, st869⟩ := getS2 X866 hx hZ hown (host := "") (Or.inl (W 8 rfl)) Via.refl e866 (G2.ext O866.2) (g := (mkF m 142 #[iv p0, iv p1, iv p2, iv p3, iv (p0 &&& (3 : Int32)), iv mv, rv r_105, rv r_108, rv r_111, rv r_114, rv r_117, rv b120, iv (0 : Int32), iv (0 : Int32), iv (0 : Int32), .unset, .unset, .unset] [(.ref r_114)])) rfl (hb hby at_142)
          have pre870 : ∀ t, Steps p.tables e below (T869.setTop (mkF m 145 #[iv p0, iv p1, iv p2, iv p3, iv (p0 &&& (3 : Int32)), iv mv, rv r_105, rv r_108, rv r_111, rv r_114, rv r_117, rv b120, iv (0 : Int32), iv (0 : Int32), iv (0 : Int32), .unset, .unset, .unset] [(.ref a_TRUE), (.ref r_114)])) t → Steps p.tables e below (s₁.setTop (entryFrame m #[(.int p0), (.int p1), (.int p2), (.int p3)] maxLocals)) t := fun t kt => pre868 _ (st869 _ kt)
          have pre871 : ∀ t, Steps p.tables e below (T869.setTop (mkF m 159 #[iv p0, iv p1, iv p2, iv p3, iv (p0 &&& (3 : Int32)), iv mv, rv r_105, rv r_108, rv r_111, rv r_114, rv r_117, rv b120, iv (0 : Int32), iv (0 : Int32), iv (0 : Int32), .unset, .unset, .unset] [(.ref r_114)])) t → Steps p.tables e below (s₁.setTop (entryFrame m #[(.int p0), (.int p1), (.int p2), (.int p3)] maxLocals)) t := fun t kt => by
            refine pre870 _ ?_
            show Steps p.tables e below (T869.setTop (mkF m 145 #[iv p0, iv p1, iv p2, iv p3, iv (p0 &&& (3 : Int32)), iv mv, rv r_105, rv r_108, rv r_111, rv r_114, rv r_117, rv b120, iv (0 : Int32), iv (0 : Int32), iv (0 : Int32), .unset, .unset, .unset] [(.ref a_TRUE), (.ref r_114)])) _
            refine Jvm.RoadKit.acmp (g := (mkF m 145 #[iv p0, iv p1, iv p2, iv p3, iv (p0 &&& (3 : Int32)), iv mv, rv r_105, rv r_108, rv r_111, rv r_114, rv r_117, rv b120, iv (0 : Int32), iv (0 : Int32), iv (0 : Int32), .unset, .unset, .unset] [(.ref a_TRUE), (.ref r_114)])) X869 hx rfl rfl rfl (pc0 := 145) (pc' := 157) (same := false) rfl (hb hby at_145) rfl (decide_eq_false fun q => (fun z => (fun q => ne_a_TRUE_a_UNKNOWN q.symm) (hv211.symm.trans z)) (Value.ref.inj q)) (by decide) (by decide) ?_
            refine XS.aload X869.here hx rfl (hb hby at_157) rfl rfl ?_
            exact kt
          obtain ⟨T872, X872, e872, st872⟩ := getS2 X869 hx hZ hown (host := "") (Or.inl (W 10 rfl)) Via.refl e869 (G4.ext O866.2) (g := (mkF m 159 #[iv p0, iv p1, iv p2, iv p3, iv (p0 &&& (3 : Int32)), iv mv, rv r_105, rv r_108, rv r_111, rv r_114, rv r_117, rv b120, iv (0 : Int32), iv (0 : Int32), iv (0 : Int32), .unset, .unset, .unset] [(.ref r_114)])) rfl (hb hby at_159)
          have pre873 : ∀ t, Steps p.tables e below (T872.setTop (mkF m 162 #[iv p0, iv p1, iv p2, iv p3, iv (p0 &&& (3 : Int32)), iv mv, rv r_105, rv r_108, rv r_111, rv r_114, rv r_117, rv b120, iv (0 : Int32), iv (0 : Int32), iv (0 : Int32), .unset, .unset, .unset] [(.ref a_FALSE), (.ref r_114)])) t → Steps p.tables e below (s₁.setTop (entryFrame m #[(.int p0), (.int p1), (.int p2), (.int p3)] maxLocals)) t := fun t kt => pre871 _ (st872 _ kt)
          have pre874 : ∀ t, Steps p.tables e below (T872.setTop (mkF m 188 #[iv p0, iv p1, iv p2, iv p3, iv (p0 &&& (3 : Int32)), iv mv, rv r_105, rv r_108, rv r_111, rv r_114, rv r_117, rv b120, iv (0 : Int32), iv (0 : Int32), iv (1 : Int32), .unset, .unset, .unset] [(.ref r_117)])) t → Steps p.tables e below (s₁.setTop (entryFrame m #[(.int p0), (.int p1), (.int p2), (.int p3)] maxLocals)) t := fun t kt => by
            refine pre873 _ ?_
            show Steps p.tables e below (T872.setTop (mkF m 162 #[iv p0, iv p1, iv p2, iv p3, iv (p0 &&& (3 : Int32)), iv mv, rv r_105, rv r_108, rv r_111, rv r_114, rv r_117, rv b120, iv (0 : Int32), iv (0 : Int32), iv (0 : Int32), .unset, .unset, .unset] [(.ref a_FALSE), (.ref r_114)])) _
            refine Jvm.RoadKit.acmp (g := (mkF m 162 #[iv p0, iv p1, iv p2, iv p3, iv (p0 &&& (3 : Int32)), iv mv, rv r_105, rv r_108, rv r_111, rv r_114, rv r_117, rv b120, iv (0 : Int32), iv (0 : Int32), iv (0 : Int32), .unset, .unset, .unset] [(.ref a_FALSE), (.ref r_114)])) X872 hx rfl rfl rfl (pc0 := 162) (pc' := 174) (same := false) rfl (hb hby at_162) rfl (decide_eq_false fun q => (fun z => (fun q => ne_a_FALSE_a_UNKNOWN q.symm) (hv211.symm.trans z)) (Value.ref.inj q)) (by decide) (by decide) ?_
            refine XS.iload X872.here hx rfl (hb hby at_174) rfl ?_
            refine XS.iconst X872.here hx rfl (hb hby at_176) ?_
            refine XS.iadd X872.here hx rfl (hb hby at_177) rfl ?_
            show  Steps p.tables e below (T872.setTop (mkF m 178 #[iv p0, iv p1, iv p2, iv p3, iv (p0 &&& (3 : Int32)), iv mv, rv r_105, rv r_108, rv r_111, rv r_114, rv r_117, rv b120, iv (0 : Int32), iv (0 : Int32), iv (0 : Int32), .unset, .unset, .unset] [(.int ((0 : Int32) + (1 : Int32)))])) _
            rw [(by decide : (((0 : Int32) + (1 : Int32)) : Int32) = (1 : Int32))]
            show Steps p.tables e below (T872.setTop (mkF m 178 #[iv p0, iv p1, iv p2, iv p3, iv (p0 &&& (3 : Int32)), iv mv, rv r_105, rv r_108, rv r_111, rv r_114, rv r_117, rv b120, iv (0 : Int32), iv (0 : Int32), iv (0 : Int32), .unset, .unset, .unset] [(.int (1 : Int32))])) _
            refine XS.istore X872.here hx rfl (hb hby at_178) rfl (l' := #[iv p0, iv p1, iv p2, iv p3, iv (p0 &&& (3 : Int32)), iv mv, rv r_105, rv r_108, rv r_111, rv r_114, rv r_117, rv b120, iv (0 : Int32), iv (0 : Int32), iv (1 : Int32), .unset, .unset, .unset]) rfl ?_
            refine XS.iload X872.here hx rfl (hb hby at_180) rfl ?_
            refine XS.iconst X872.here hx rfl (hb hby at_182) ?_
            refine XS.icmpNo X872.here hx rfl (hb hby at_183) rfl (XT.ii_le_f hc829) ?_
            show Steps p.tables e below (T872.setTop (mkF m 186 #[iv p0, iv p1, iv p2, iv p3, iv (p0 &&& (3 : Int32)), iv mv, rv r_105, rv r_108, rv r_111, rv r_114, rv r_117, rv b120, iv (0 : Int32), iv (0 : Int32), iv (1 : Int32), .unset, .unset, .unset] [])) _
            refine XS.aload X872.here hx rfl (hb hby at_186) rfl rfl ?_
            exact kt
          obtain ⟨T875, X875, e875, st875⟩ := getS2 X872 hx hZ hown (host := "") (Or.inl (W 8 rfl)) Via.refl e872 (G2.ext O866.2) (g := (mkF m 188 #[iv p0, iv p1, iv p2, iv p3, iv (p0 &&& (3 : Int32)), iv mv, rv r_105, rv r_108, rv r_111, rv r_114, rv r_117, rv b120, iv (0 : Int32), iv (0 : Int32), iv (1 : Int32), .unset, .unset, .unset] [(.ref r_117)])) rfl (hb hby at_188)
          have pre876 : ∀ t, Steps p.tables e below (T875.setTop (mkF m 191 #[iv p0, iv p1, iv p2, iv p3, iv (p0 &&& (3 : Int32)), iv mv, rv r_105, rv r_108, rv r_111, rv r_114, rv r_117, rv b120, iv (0 : Int32), iv (0 : Int32), iv (1 : Int32), .unset, .unset, .unset] [(.ref a_TRUE), (.ref r_117)])) t → Steps p.tables e below (s₁.setTop (entryFrame m #[(.int p0), (.int p1), (.int p2), (.int p3)] maxLocals)) t := fun t kt => pre874 _ (st875 _ kt)
          have pre877 : ∀ t, Steps p.tables e below (T875.setTop (mkF m 205 #[iv p0, iv p1, iv p2, iv p3, iv (p0 &&& (3 : Int32)), iv mv, rv r_105, rv r_108, rv r_111, rv r_114, rv r_117, rv b120, iv (0 : Int32), iv (0 : Int32), iv (1 : Int32), .unset, .unset, .unset] [(.ref r_117)])) t → Steps p.tables e below (s₁.setTop (entryFrame m #[(.int p0), (.int p1), (.int p2), (.int p3)] maxLocals)) t := fun t kt => by
            refine pre876 _ ?_
            show Steps p.tables e below (T875.setTop (mkF m 191 #[iv p0, iv p1, iv p2, iv p3, iv (p0 &&& (3 : Int32)), iv mv, rv r_105, rv r_108, rv r_111, rv r_114, rv r_117, rv b120, iv (0 : Int32), iv (0 : Int32), iv (1 : Int32), .unset, .unset, .unset] [(.ref a_TRUE), (.ref r_117)])) _
            refine Jvm.RoadKit.acmp (g := (mkF m 191 #[iv p0, iv p1, iv p2, iv p3, iv (p0 &&& (3 : Int32)), iv mv, rv r_105, rv r_108, rv r_111, rv r_114, rv r_117, rv b120, iv (0 : Int32), iv (0 : Int32), iv (1 : Int32), .unset, .unset, .unset] [(.ref a_TRUE), (.ref r_117)])) X875 hx rfl rfl rfl (pc0 := 191) (pc' := 203) (same := false) rfl (hb hby at_191) rfl (decide_eq_false fun q => (fun z => ne_a_FALSE_a_TRUE (hv831.symm.trans z)) (Value.ref.inj q)) (by decide) (by decide) ?_
            refine XS.aload X875.here hx rfl (hb hby at_203) rfl rfl ?_
            exact kt
          obtain ⟨T878, X878, e878, st878⟩ := getS2 X875 hx hZ hown (host := "") (Or.inl (W 10 rfl)) Via.refl e875 (G4.ext O866.2) (g := (mkF m 205 #[iv p0, iv p1, iv p2, iv p3, iv (p0 &&& (3 : Int32)), iv mv, rv r_105, rv r_108, rv r_111, rv r_114, rv r_117, rv b120, iv (0 : Int32), iv (0 : Int32), iv (1 : Int32), .unset, .unset, .unset] [(.ref r_117)])) rfl (hb hby at_205)
          have pre879 : ∀ t, Steps p.tables e below (T878.setTop (mkF m 208 #[iv p0, iv p1, iv p2, iv p3, iv (p0 &&& (3 : Int32)), iv mv, rv r_105, rv r_108, rv r_111, rv r_114, rv r_117, rv b120, iv (0 : Int32), iv (0 : Int32), iv (1 : Int32), .unset, .unset, .unset] [(.ref a_FALSE), (.ref r_117)])) t → Steps p.tables e below (s₁.setTop (entryFrame m #[(.int p0), (.int p1), (.int p2), (.int p3)] maxLocals)) t := fun t kt => pre877 _ (st878 _ kt)
          have pre880 : ∀ t, Steps p.tables e below (T878.setTop (mkF m 231 #[iv p0, iv p1, iv p2, iv p3, iv (p0 &&& (3 : Int32)), iv mv, rv r_105, rv r_108, rv r_111, rv r_114, rv r_117, rv b120, iv (0 : Int32), iv (1 : Int32), iv (1 : Int32), .unset, .unset, .unset] [])) t → Steps p.tables e below (s₁.setTop (entryFrame m #[(.int p0), (.int p1), (.int p2), (.int p3)] maxLocals)) t := fun t kt => by
            refine pre879 _ ?_
            show Steps p.tables e below (T878.setTop (mkF m 208 #[iv p0, iv p1, iv p2, iv p3, iv (p0 &&& (3 : Int32)), iv mv, rv r_105, rv r_108, rv r_111, rv r_114, rv r_117, rv b120, iv (0 : Int32), iv (0 : Int32), iv (1 : Int32), .unset, .unset, .unset] [(.ref a_FALSE), (.ref r_117)])) _
            refine Jvm.RoadKit.acmp (g := (mkF m 208 #[iv p0, iv p1, iv p2, iv p3, iv (p0 &&& (3 : Int32)), iv mv, rv r_105, rv r_108, rv r_111, rv r_114, rv r_117, rv b120, iv (0 : Int32), iv (0 : Int32), iv (1 : Int32), .unset, .unset, .unset] [(.ref a_FALSE), (.ref r_117)])) X878 hx rfl rfl rfl (pc0 := 208) (pc' := 211) (same := true) rfl (hb hby at_208) rfl (decide_eq_true (congrArg Value.ref hv831)) (by decide) (by decide) ?_
            refine XS.iload X878.here hx rfl (hb hby at_211) rfl ?_
            refine XS.iconst X878.here hx rfl (hb hby at_213) ?_
            refine XS.iadd X878.here hx rfl (hb hby at_214) rfl ?_
            show  Steps p.tables e below (T878.setTop (mkF m 215 #[iv p0, iv p1, iv p2, iv p3, iv (p0 &&& (3 : Int32)), iv mv, rv r_105, rv r_108, rv r_111, rv r_114, rv r_117, rv b120, iv (0 : Int32), iv (0 : Int32), iv (1 : Int32), .unset, .unset, .unset] [(.int ((0 : Int32) + (1 : Int32)))])) _
            rw [(by decide : (((0 : Int32) + (1 : Int32)) : Int32) = (1 : Int32))]
            show Steps p.tables e below (T878.setTop (mkF m 215 #[iv p0, iv p1, iv p2, iv p3, iv (p0 &&& (3 : Int32)), iv mv, rv r_105, rv r_108, rv r_111, rv r_114, rv r_117, rv b120, iv (0 : Int32), iv (0 : Int32), iv (1 : Int32), .unset, .unset, .unset] [(.int (1 : Int32))])) _
            refine XS.istore X878.here hx rfl (hb hby at_215) rfl (l' := #[iv p0, iv p1, iv p2, iv p3, iv (p0 &&& (3 : Int32)), iv mv, rv r_105, rv r_108, rv r_111, rv r_114, rv r_117, rv b120, iv (0 : Int32), iv (1 : Int32), iv (1 : Int32), .unset, .unset, .unset]) rfl ?_
            refine XS.goto X878.here hx rfl (pc0 := 217) (pc' := 226) rfl (hb hby at_217) (by decide) (by decide) ?_
            refine XS.iload X878.here hx rfl (hb hby at_226) rfl ?_
            refine XS.ifNo X878.here hx rfl (hb hby at_228) rfl (XT.i0_le_f (by decide)) ?_
            exact kt
          obtain ⟨T881, X881, e881, st881⟩ := getS2 X878 hx hZ hown (host := "") (Or.inl (W 10 rfl)) Via.refl e878 (G4.ext O866.2) (g := (mkF m 231 #[iv p0, iv p1, iv p2, iv p3, iv (p0 &&& (3 : Int32)), iv mv, rv r_105, rv r_108, rv r_111, rv r_114, rv r_117, rv b120, iv (0 : Int32), iv (1 : Int32), iv (1 : Int32), .unset, .unset, .unset] [])) rfl (hb hby at_231)
          have pre882 : ∀ t, Steps p.tables e below (T881.setTop (mkF m 234 #[iv p0, iv p1, iv p2, iv p3, iv (p0 &&& (3 : Int32)), iv mv, rv r_105, rv r_108, rv r_111, rv r_114, rv r_117, rv b120, iv (0 : Int32), iv (1 : Int32), iv (1 : Int32), .unset, .unset, .unset] [(.ref a_FALSE)])) t → Steps p.tables e below (s₁.setTop (entryFrame m #[(.int p0), (.int p1), (.int p2), (.int p3)] maxLocals)) t := fun t kt => pre880 _ (st881 _ kt)
          have pre883 : ∀ t, Steps p.tables e below (T881.setTop (mkF m 269 #[iv p0, iv p1, iv p2, iv p3, iv (p0 &&& (3 : Int32)), iv mv, rv r_105, rv r_108, rv r_111, rv r_114, rv r_117, rv b120, iv (0 : Int32), iv (1 : Int32), iv (1 : Int32), rv a_FALSE, .unset, .unset] [])) t → Steps p.tables e below (s₁.setTop (entryFrame m #[(.int p0), (.int p1), (.int p2), (.int p3)] maxLocals)) t := fun t kt => by
            refine pre882 _ ?_
            show Steps p.tables e below (T881.setTop (mkF m 234 #[iv p0, iv p1, iv p2, iv p3, iv (p0 &&& (3 : Int32)), iv mv, rv r_105, rv r_108, rv r_111, rv r_114, rv r_117, rv b120, iv (0 : Int32), iv (1 : Int32), iv (1 : Int32), .unset, .unset, .unset] [(.ref a_FALSE)])) _
            refine XS.goto X881.here hx rfl (pc0 := 234) (pc' := 251) rfl (hb hby at_234) (by decide) (by decide) ?_
            refine XS.astore X881.here hx rfl (hb hby at_251) rfl rfl (l' := #[iv p0, iv p1, iv p2, iv p3, iv (p0 &&& (3 : Int32)), iv mv, rv r_105, rv r_108, rv r_111, rv r_114, rv r_117, rv b120, iv (0 : Int32), iv (1 : Int32), iv (1 : Int32), rv a_FALSE, .unset, .unset]) rfl ?_
            refine XS.iload X881.here hx rfl (hb hby at_253) rfl ?_
            refine XS.ifYes X881.here hx rfl (pc0 := 255) (pc' := 264) rfl (hb hby at_255) rfl (XT.i0_le_t (by decide)) (by decide) (by decide) ?_
            show Steps p.tables e below (T881.setTop (mkF m 264 #[iv p0, iv p1, iv p2, iv p3, iv (p0 &&& (3 : Int32)), iv mv, rv r_105, rv r_108, rv r_111, rv r_114, rv r_117, rv b120, iv (0 : Int32), iv (1 : Int32), iv (1 : Int32), rv a_FALSE, .unset, .unset] [])) _
            refine XS.iload X881.here hx rfl (hb hby at_264) rfl ?_
            refine XS.ifNo X881.here hx rfl (hb hby at_266) rfl (XT.i0_le_f (by decide)) ?_
            exact kt
          obtain ⟨T884, X884, e884, st884⟩ := getS2 X881 hx hZ hown (host := "") (Or.inl (W 5 rfl)) Via.refl e881 (G0.ext O866.2) (g := (mkF m 269 #[iv p0, iv p1, iv p2, iv p3, iv (p0 &&& (3 : Int32)), iv mv, rv r_105, rv r_108, rv r_111, rv r_114, rv r_117, rv b120, iv (0 : Int32), iv (1 : Int32), iv (1 : Int32), rv a_FALSE, .unset, .unset] [])) rfl (hb hby at_269)
          have pre885 : ∀ t, Steps p.tables e below (T884.setTop (mkF m 272 #[iv p0, iv p1, iv p2, iv p3, iv (p0 &&& (3 : Int32)), iv mv, rv r_105, rv r_108, rv r_111, rv r_114, rv r_117, rv b120, iv (0 : Int32), iv (1 : Int32), iv (1 : Int32), rv a_FALSE, .unset, .unset] [(.ref a_UNKNOWN)])) t → Steps p.tables e below (s₁.setTop (entryFrame m #[(.int p0), (.int p1), (.int p2), (.int p3)] maxLocals)) t := fun t kt => pre883 _ (st884 _ kt)
          have pre886 : ∀ t, Steps p.tables e below (T884.setTop (mkF m 285 #[iv p0, iv p1, iv p2, iv p3, iv (p0 &&& (3 : Int32)), iv mv, rv r_105, rv r_108, rv r_111, rv r_114, rv r_117, rv b120, iv (0 : Int32), iv (1 : Int32), iv (1 : Int32), rv a_FALSE, rv a_UNKNOWN, .unset] [])) t → Steps p.tables e below (s₁.setTop (entryFrame m #[(.int p0), (.int p1), (.int p2), (.int p3)] maxLocals)) t := fun t kt => by
            refine pre885 _ ?_
            show Steps p.tables e below (T884.setTop (mkF m 272 #[iv p0, iv p1, iv p2, iv p3, iv (p0 &&& (3 : Int32)), iv mv, rv r_105, rv r_108, rv r_111, rv r_114, rv r_117, rv b120, iv (0 : Int32), iv (1 : Int32), iv (1 : Int32), rv a_FALSE, .unset, .unset] [(.ref a_UNKNOWN)])) _
            refine XS.goto X884.here hx rfl (pc0 := 272) (pc' := 278) rfl (hb hby at_272) (by decide) (by decide) ?_
            refine XS.astore X884.here hx rfl (hb hby at_278) rfl rfl (l' := #[iv p0, iv p1, iv p2, iv p3, iv (p0 &&& (3 : Int32)), iv mv, rv r_105, rv r_108, rv r_111, rv r_114, rv r_117, rv b120, iv (0 : Int32), iv (1 : Int32), iv (1 : Int32), rv a_FALSE, rv a_UNKNOWN, .unset]) rfl ?_
            refine XS.iload X884.here hx rfl (hb hby at_280) rfl ?_
            refine XS.ifNo X884.here hx rfl (hb hby at_282) rfl (XT.i0_le_f (by decide)) ?_
            exact kt
          obtain ⟨T887, X887, e887, st887⟩ := getS2 X884 hx hZ hown (host := "") (Or.inl (W 5 rfl)) Via.refl e884 (G0.ext O866.2) (g := (mkF m 285 #[iv p0, iv p1, iv p2, iv p3, iv (p0 &&& (3 : Int32)), iv mv, rv r_105, rv r_108, rv r_111, rv r_114, rv r_117, rv b120, iv (0 : Int32), iv (1 : Int32), iv (1 : Int32), rv a_FALSE, rv a_UNKNOWN, .unset] [])) rfl (hb hby at_285)
          have pre888 : ∀ t, Steps p.tables e below (T887.setTop (mkF m 288 #[iv p0, iv p1, iv p2, iv p3, iv (p0 &&& (3 : Int32)), iv mv, rv r_105, rv r_108, rv r_111, rv r_114, rv r_117, rv b120, iv (0 : Int32), iv (1 : Int32), iv (1 : Int32), rv a_FALSE, rv a_UNKNOWN, .unset] [(.ref a_UNKNOWN)])) t → Steps p.tables e below (s₁.setTop (entryFrame m #[(.int p0), (.int p1), (.int p2), (.int p3)] maxLocals)) t := fun t kt => pre886 _ (st887 _ kt)
          have pre889 : ∀ t, Steps p.tables e below (T887.setTop (mkF m 310 #[iv p0, iv p1, iv p2, iv p3, iv (p0 &&& (3 : Int32)), iv mv, rv r_105, rv r_108, rv r_111, rv r_114, rv r_117, rv b120, iv (0 : Int32), iv (1 : Int32), iv (1 : Int32), rv a_FALSE, rv a_UNKNOWN, rv a_UNKNOWN] [(.ref b120)])) t → Steps p.tables e below (s₁.setTop (entryFrame m #[(.int p0), (.int p1), (.int p2), (.int p3)] maxLocals)) t := fun t kt => by
            refine pre888 _ ?_
            show Steps p.tables e below (T887.setTop (mkF m 288 #[iv p0, iv p1, iv p2, iv p3, iv (p0 &&& (3 : Int32)), iv mv, rv r_105, rv r_108, rv r_111, rv r_114, rv r_117, rv b120, iv (0 : Int32), iv (1 : Int32), iv (1 : Int32), rv a_FALSE, rv a_UNKNOWN, .unset] [(.ref a_UNKNOWN)])) _
            refine XS.goto X887.here hx rfl (pc0 := 288) (pc' := 306) rfl (hb hby at_288) (by decide) (by decide) ?_
            refine XS.astore X887.here hx rfl (hb hby at_306) rfl rfl (l' := #[iv p0, iv p1, iv p2, iv p3, iv (p0 &&& (3 : Int32)), iv mv, rv r_105, rv r_108, rv r_111, rv r_114, rv r_117, rv b120, iv (0 : Int32), iv (1 : Int32), iv (1 : Int32), rv a_FALSE, rv a_UNKNOWN, rv a_UNKNOWN]) rfl ?_
            refine XS.aload X887.here hx rfl (hb hby at_308) rfl rfl ?_
            exact kt
          obtain ⟨cq890, kq890, q890a, q890b, q890c⟩ := isOf hZ e887 J866_0
          obtain ⟨_, _, ⟨T890, L890, k890, n890⟩, -, X890, ⟨Lc890, hQ890, l890, y890, z890⟩, st890⟩ := X887.virtualBack hx (y := (⟨"com/example/contexture/contexture/engine/evaluation/TruthValue$Tally", "and", "()Lcom/example/contexture/contexture/engine/evaluation/TruthValue;"⟩ : MethodName)) (z := (⟨"com/example/contexture/contexture/engine/evaluation/TruthValue$Tally", "and", "()Lcom/example/contexture/contexture/engine/evaluation/TruthValue;"⟩ : MethodName)) hown (mvT hZ (W 46 rfl)) (mvT hZ (W 47 rfl)) (notFace_of_selects (args := #[]) (mvT hZ (W 49 rfl))) (mvT hZ (W 49 rfl)) (mvT hZ (W 48 rfl)) (by decide) (backOf (W := 0) (rm_and7_1 l Z a0 hw [] b120 a_FALSE h866 n0 O866 G4 J866_2) hZ (W 50 rfl) (W 14 rfl) (by decide) (by decide)) q890a q890c (g := (mkF m 310 #[iv p0, iv p1, iv p2, iv p3, iv (p0 &&& (3 : Int32)), iv mv, rv r_105, rv r_108, rv r_111, rv r_114, rv r_117, rv b120, iv (0 : Int32), iv (1 : Int32), iv (1 : Int32), rv a_FALSE, rv a_UNKNOWN, rv a_UNKNOWN] [(.ref b120)])) rfl (by rw [hml]; rfl) (Steps.refl _) (argsL := []) (rest := []) (lenOf pd_16 rfl) rfl (by show 2 * 0 + _ ≤ _; exact Nat.le_of_eq rfl) (hb hby at_310) (fun _ _ => ⟨rfl, e887, (by decide : 1 + 0 ≤ _), (by decide : 3 + 0 ≤ _)⟩)
          dsimp only [Pt.U, Pt.locs, Pt.cells, Pt.slots] at X890 l890 y890 z890 st890 hQ890
          replace l890 := l890.symm
          replace y890 : 1 = k890 := y890.symm
          replace z890 : 3 = n890 := z890.symm
          subst l890 y890 z890
          obtain ⟨rfl, M890, e890⟩ := hQ890
          have N890 := Fr.app N866 M890
          have pre891 : ∀ t, Steps p.tables e below (T890.setTop (mkF m 313 #[iv p0, iv p1, iv p2, iv p3, iv (p0 &&& (3 : Int32)), iv mv, rv r_105, rv r_108, rv r_111, rv r_114, rv r_117, rv b120, iv (0 : Int32), iv (1 : Int32), iv (1 : Int32), rv a_FALSE, rv a_UNKNOWN, rv a_UNKNOWN] [(.ref a_FALSE)])) t → Steps p.tables e below (s₁.setTop (entryFrame m #[(.int p0), (.int p1), (.int p2), (.int p3)] maxLocals)) t := fun t kt => pre889 _ (st890.trans kt)
          have pre892 : ∀ t, Steps p.tables e below (T890.setTop (mkF m 320 #[iv p0, iv p1, iv p2, iv p3, iv (p0 &&& (3 : Int32)), iv mv, rv r_105, rv r_108, rv r_111, rv r_114, rv r_117, rv b120, iv (0 : Int32), iv (1 : Int32), iv (1 : Int32), rv a_FALSE, rv a_UNKNOWN, rv a_UNKNOWN] [(.ref b120)])) t → Steps p.tables e below (s₁.setTop (entryFrame m #[(.int p0), (.int p1), (.int p2), (.int p3)] maxLocals)) t := fun t kt => by
            refine pre891 _ ?_
            show Steps p.tables e below (T890.setTop (mkF m 313 #[iv p0, iv p1, iv p2, iv p3, iv (p0 &&& (3 : Int32)), iv mv, rv r_105, rv r_108, rv r_111, rv r_114, rv r_117, rv b120, iv (0 : Int32), iv (1 : Int32), iv (1 : Int32), rv a_FALSE, rv a_UNKNOWN, rv a_UNKNOWN] [(.ref a_FALSE)])) _
            refine XS.aload X890.here hx rfl (hb hby at_313) rfl rfl ?_
            refine Jvm.RoadKit.acmp (g := (mkF m 315 #[iv p0, iv p1, iv p2, iv p3, iv (p0 &&& (3 : Int32)), iv mv, rv r_105, rv r_108, rv r_111, rv r_114, rv r_117, rv b120, iv (0 : Int32), iv (1 : Int32), iv (1 : Int32), rv a_FALSE, rv a_UNKNOWN, rv a_UNKNOWN] [(.ref a_FALSE), (.ref a_FALSE)])) X890 hx rfl rfl rfl (pc0 := 315) (pc' := 318) (same := true) rfl (hb hby at_315) rfl (decide_eq_true rfl) (by decide) (by decide) ?_
            refine XS.aload X890.here hx rfl (hb hby at_318) rfl rfl ?_
            exact kt
          obtain ⟨cq893, kq893, q893a, q893b, q893c⟩ := isOf hZ e890 J866_0
          obtain ⟨_, _, ⟨T893, L893, k893, n893⟩, -, X893, ⟨Lc893, hQ893, l893, y893, z893⟩, st893⟩ := X890.virtualBack hx (y := (⟨"com/example/contexture/contexture/engine/evaluation/TruthValue$Tally", "or", "()Lcom/example/contexture/contexture/engine/evaluation/TruthValue;"⟩ : MethodName)) (z := (⟨"com/example/contexture/contexture/engine/evaluation/TruthValue$Tally", "or", "()Lcom/example/contexture/contexture/engine/evaluation/TruthValue;"⟩ : MethodName)) hown (mvT hZ (W 52 rfl)) (mvT hZ (W 53 rfl)) (notFace_of_selects (args := #[]) (mvT hZ (W 55 rfl))) (mvT hZ (W 55 rfl)) (mvT hZ (W 54 rfl)) (by decide) (backOf (W := 0) (rm_or8_3 l Z a0 hw [] b120 a_UNKNOWN a_FALSE h866 n0 O866 G0 G4 J866_0 J866_1 J866_3) hZ (W 56 rfl) (W 14 rfl) (by decide) (by decide)) q893a q893c (g := (mkF m 320 #[iv p0, iv p1, iv p2, iv p3, iv (p0 &&& (3 : Int32)), iv mv, rv r_105, rv r_108, rv r_111, rv r_114, rv r_117, rv b120, iv (0 : Int32), iv (1 : Int32), iv (1 : Int32), rv a_FALSE, rv a_UNKNOWN, rv a_UNKNOWN] [(.ref b120)])) rfl (by rw [hml]; rfl) (Steps.refl _) (argsL := []) (rest := []) (lenOf pd_16 rfl) rfl (by show 2 * 0 + _ ≤ _; exact Nat.le_of_eq rfl) (hb hby at_320) (fun _ _ => ⟨rfl, e890, (by decide : 1 + 0 ≤ _), (by decide : 3 + 0 ≤ _)⟩)
          dsimp only [Pt.U, Pt.locs, Pt.cells, Pt.slots] at X893 l893 y893 z893 st893 hQ893
          replace l893 := l893.symm
          replace y893 : 1 = k893 := y893.symm
          replace z893 : 3 = n893 := z893.symm
          subst l893 y893 z893
          obtain ⟨rfl, M893, e893⟩ := hQ893
          have N893 := Fr.app N890 M893
          have pre894 : ∀ t, Steps p.tables e below (T893.setTop (mkF m 323 #[iv p0, iv p1, iv p2, iv p3, iv (p0 &&& (3 : Int32)), iv mv, rv r_105, rv r_108, rv r_111, rv r_114, rv r_117, rv b120, iv (0 : Int32), iv (1 : Int32), iv (1 : Int32), rv a_FALSE, rv a_UNKNOWN, rv a_UNKNOWN] [(.ref a_UNKNOWN)])) t → Steps p.tables e below (s₁.setTop (entryFrame m #[(.int p0), (.int p1), (.int p2), (.int p3)] maxLocals)) t := fun t kt => pre892 _ (st893.trans kt)
          have pre895 : ∀ t, Steps p.tables e below (T893.setTop (mkF m 330 #[iv p0, iv p1, iv p2, iv p3, iv (p0 &&& (3 : Int32)), iv mv, rv r_105, rv r_108, rv r_111, rv r_114, rv r_117, rv b120, iv (0 : Int32), iv (1 : Int32), iv (1 : Int32), rv a_FALSE, rv a_UNKNOWN, rv a_UNKNOWN] [(.ref b120)])) t → Steps p.tables e below (s₁.setTop (entryFrame m #[(.int p0), (.int p1), (.int p2), (.int p3)] maxLocals)) t := fun t kt => by
            refine pre894 _ ?_
            show Steps p.tables e below (T893.setTop (mkF m 323 #[iv p0, iv p1, iv p2, iv p3, iv (p0 &&& (3 : Int32)), iv mv, rv r_105, rv r_108, rv r_111, rv r_114, rv r_117, rv b120, iv (0 : Int32), iv (1 : Int32), iv (1 : Int32), rv a_FALSE, rv a_UNKNOWN, rv a_UNKNOWN] [(.ref a_UNKNOWN)])) _
            refine XS.aload X893.here hx rfl (hb hby at_323) rfl rfl ?_
            refine Jvm.RoadKit.acmp (g := (mkF m 325 #[iv p0, iv p1, iv p2, iv p3, iv (p0 &&& (3 : Int32)), iv mv, rv r_105, rv r_108, rv r_111, rv r_114, rv r_117, rv b120, iv (0 : Int32), iv (1 : Int32), iv (1 : Int32), rv a_FALSE, rv a_UNKNOWN, rv a_UNKNOWN] [(.ref a_UNKNOWN), (.ref a_UNKNOWN)])) X893 hx rfl rfl rfl (pc0 := 325) (pc' := 328) (same := true) rfl (hb hby at_325) rfl (decide_eq_true rfl) (by decide) (by decide) ?_
            refine XS.aload X893.here hx rfl (hb hby at_328) rfl rfl ?_
            exact kt
          obtain ⟨cq896, kq896, q896a, q896b, q896c⟩ := isOf hZ e893 J866_0
          obtain ⟨_, _, ⟨T896, L896, k896, n896⟩, -, X896, ⟨Lc896, hQ896, l896, y896, z896⟩, st896⟩ := X893.virtualBack hx (y := (⟨"com/example/contexture/contexture/engine/evaluation/TruthValue$Tally", "xor", "()Lcom/example/contexture/contexture/engine/evaluation/TruthValue;"⟩ : MethodName)) (z := (⟨"com/example/contexture/contexture/engine/evaluation/TruthValue$Tally", "xor", "()Lcom/example/contexture/contexture/engine/evaluation/TruthValue;"⟩ : MethodName)) hown (mvT hZ (W 58 rfl)) (mvT hZ (W 59 rfl)) (notFace_of_selects (args := #[]) (mvT hZ (W 61 rfl))) (mvT hZ (W 61 rfl)) (mvT hZ (W 60 rfl)) (by decide) (backOf (W := 0) (rm_xor9_4 l Z a0 hw [] b120 a_UNKNOWN a_FALSE h866 n0 O866 G0 G4 J866_0 J866_1 J866_3) hZ (W 62 rfl) (W 14 rfl) (by decide) (by decide)) q896a q896c (g := (mkF m 330 #[iv p0, iv p1, iv p2, iv p3, iv (p0 &&& (3 : Int32)), iv mv, rv r_105, rv r_108, rv r_111, rv r_114, rv r_117, rv b120, iv (0 : Int32), iv (1 : Int32), iv (1 : Int32), rv a_FALSE, rv a_UNKNOWN, rv a_UNKNOWN] [(.ref b120)])) rfl (by rw [hml]; rfl) (Steps.refl _) (argsL := []) (rest := []) (lenOf pd_16 rfl) rfl (by show 2 * 0 + _ ≤ _; exact Nat.le_of_eq rfl) (hb hby at_330) (fun _ _ => ⟨rfl, e893, (by decide : 1 + 0 ≤ _), (by decide : 3 + 0 ≤ _)⟩)
          dsimp only [Pt.U, Pt.locs, Pt.cells, Pt.slots] at X896 l896 y896 z896 st896 hQ896
          replace l896 := l896.symm
          replace y896 : 1 = k896 := y896.symm
          replace z896 : 3 = n896 := z896.symm
          subst l896 y896 z896
          obtain ⟨rfl, M896, e896⟩ := hQ896
          have N896 := Fr.app N893 M896
          have pre897 : ∀ t, Steps p.tables e below (T896.setTop (mkF m 333 #[iv p0, iv p1, iv p2, iv p3, iv (p0 &&& (3 : Int32)), iv mv, rv r_105, rv r_108, rv r_111, rv r_114, rv r_117, rv b120, iv (0 : Int32), iv (1 : Int32), iv (1 : Int32), rv a_FALSE, rv a_UNKNOWN, rv a_UNKNOWN] [(.ref a_UNKNOWN)])) t → Steps p.tables e below (s₁.setTop (entryFrame m #[(.int p0), (.int p1), (.int p2), (.int p3)] maxLocals)) t := fun t kt => pre895 _ (st896.trans kt)
          have pre898 : ∀ t, Steps p.tables e below (T896.setTop (mkF m 343 #[iv p0, iv p1, iv p2, iv p3, iv (p0 &&& (3 : Int32)), iv mv, rv r_105, rv r_108, rv r_111, rv r_114, rv r_117, rv b120, iv (0 : Int32), iv (1 : Int32), iv (1 : Int32), rv a_FALSE, rv a_UNKNOWN, rv a_UNKNOWN] [(.int (1 : Int32))])) t → Steps p.tables e below (s₁.setTop (entryFrame m #[(.int p0), (.int p1), (.int p2), (.int p3)] maxLocals)) t := fun t kt => by
            refine pre897 _ ?_
            show Steps p.tables e below (T896.setTop (mkF m 333 #[iv p0, iv p1, iv p2, iv p3, iv (p0 &&& (3 : Int32)), iv mv, rv r_105, rv r_108, rv r_111, rv r_114, rv r_117, rv b120, iv (0 : Int32), iv (1 : Int32), iv (1 : Int32), rv a_FALSE, rv a_UNKNOWN, rv a_UNKNOWN] [(.ref a_UNKNOWN)])) _
            refine XS.aload X896.here hx rfl (hb hby at_333) rfl rfl ?_
            refine Jvm.RoadKit.acmp (g := (mkF m 335 #[iv p0, iv p1, iv p2, iv p3, iv (p0 &&& (3 : Int32)), iv mv, rv r_105, rv r_108, rv r_111, rv r_114, rv r_117, rv b120, iv (0 : Int32), iv (1 : Int32), iv (1 : Int32), rv a_FALSE, rv a_UNKNOWN, rv a_UNKNOWN] [(.ref a_UNKNOWN), (.ref a_UNKNOWN)])) X896 hx rfl rfl rfl (pc0 := 335) (pc' := 338) (same := true) rfl (hb hby at_335) rfl (decide_eq_true rfl) (by decide) (by decide) ?_
            refine XS.iconst X896.here hx rfl (hb hby at_338) ?_
            refine XS.goto X896.here hx rfl (pc0 := 339) (pc' := 343) rfl (hb hby at_339) (by decide) (by decide) ?_
            exact kt
          obtain ⟨fs, hr, hrun, hended, hW, hsame⟩ := X896.leave (v := some (.int (1 : Int32))) (fun h => by rw [Bd.returns] at h; cases h)
          refine ⟨_, _, pre898 _ (retN X896 hx (t := .boolean) Bd.returns (by simp) (hb hby at_343) hr), hrun, hended, _, _, rfl, ?_, ⟨_, rfl⟩, hW, hsame.mono (by decide) (by decide)⟩
          show Q_law Z p0 p1 p2 p3 a_UNKNOWN a_TRUE a_FALSE h0 n0 _ T896.heap _
          rw [e896]
          exact ⟨rfl, N896⟩
        · have Gr899 : Exa Z Z.heap r_117 "com/example/contexture/contexture/engine/evaluation/TruthValue" := hv831 ▸ G1
          have Gr900 : Fld Z Z.heap r_117 "java/lang/Enum" "ordinal" "I" (.int (2 : Int32)) := hv831 ▸ G8
          obtain ⟨cq901, kq901, q901a, q901b, q901c⟩ := isOf hZ e826 J826_0
          obtain ⟨_, _, ⟨T901, L901, k901, n901⟩, -, X901, ⟨Lc901, hQ901, l901, y901, z901⟩, st901⟩ := X826.virtualBack hx (y := (⟨"com/example/contexture/contexture/engine/evaluation/TruthValue$Tally", "add", "(Lcom/example/contexture/contexture/engine/evaluation/TruthValue;)V"⟩ : MethodName)) (z := (⟨"com/example/contexture/contexture/engine/evaluation/TruthValue$Tally", "add", "(Lcom/example/contexture/contexture/engine/evaluation/TruthValue;)V"⟩ : MethodName)) hown (mvT hZ (W 32 rfl)) (mvT hZ (W 33 rfl)) (notFace_of_selects (args := #[]) (mvT hZ (W 35 rfl))) (mvT hZ (W 35 rfl)) (mvT hZ (W 34 rfl)) (by decide) (backOf (W := 0) (rm_add2 l Z a0 hw [] b120 r_117 ((0 : Int32)) ((0 : Int32)) (((0 : Int32) + (1 : Int32))) h826 n0 O826 Gr899 Gr900 g_b120 J826_0 J826_1 J826_2 J826_3) hZ (W 36 rfl) (W 14 rfl) (by decide) (by decide)) q901a q901c (g := (mkF m 123 #[iv p0, iv p1, iv p2, iv p3, iv (p0 &&& (3 : Int32)), iv mv, rv r_105, rv r_108, rv r_111, rv r_114, rv r_117, rv b120, .unset, .unset, .unset, .unset, .unset, .unset] [(.ref r_117), (.ref b120)])) rfl (by rw [hml]; rfl) (Steps.refl _) (argsL := [(.ref r_117)]) (rest := []) (lenOf pd_12 rfl) rfl (by show 2 * 0 + _ ≤ _; exact Nat.le_of_eq rfl) (hb hby at_123) (fun _ _ => ⟨rfl, e826, (by decide : 1 + 0 ≤ _), (by decide : 3 + 0 ≤ _)⟩)
          dsimp only [Pt.U, Pt.locs, Pt.cells, Pt.slots] at X901 l901 y901 z901 st901 hQ901
          replace l901 := l901.symm
          replace y901 : 1 = k901 := y901.symm
          replace z901 : 3 = n901 := z901.symm
          subst l901 y901 z901
          obtain ⟨rfl, M901, Kc901, O901, J901_0, J901_1, J901_2, J901_3⟩ := hQ901
          obtain ⟨h901, e901⟩ : ∃ z, T901.heap = z := ⟨_, rfl⟩
          rw [e901] at Kc901 O901 J901_0 J901_1 J901_2 J901_3
          have N901 := Fr.app N826 M901
          have K901 : Keep h0 h901 [] := K826.trans Kc901 (own_all1 (Or.inr sz_b120))
          have pre902 : ∀ t, Steps p.tables e below (T901.setTop (mkF m 126 #[iv p0, iv p1, iv p2, iv p3, iv (p0 &&& (3 : Int32)), iv mv, rv r_105, rv r_108, rv r_111, rv r_114, rv r_117, rv b120, .unset, .unset, .unset, .unset, .unset, .unset] [])) t → Steps p.tables e below (s₁.setTop (entryFrame m #[(.int p0), (.int p1), (.int p2), (.int p3)] maxLocals)) t := fun t kt => pre830 _ (st901.trans kt)
          have pre903 : ∀ t, Steps p.tables e below (T901.setTop (mkF m 142 #[iv p0, iv p1, iv p2, iv p3, iv (p0 &&& (3 : Int32)), iv mv, rv r_105, rv r_108, rv r_111, rv r_114, rv r_117, rv b120, iv (0 : Int32), iv (0 : Int32), iv (0 : Int32), .unset, .unset, .unset] [(.ref r_114)])) t → Steps p.tables e below (s₁.setTop (entryFrame m #[(.int p0), (.int p1), (.int p2), (.int p3)] maxLocals)) t := fun t kt => by
            refine pre902 _ ?_
            show Steps p.tables e below (T901.setTop (mkF m 126 #[iv p0, iv p1, iv p2, iv p3, iv (p0 &&& (3 : Int32)), iv mv, rv r_105, rv r_108, rv r_111, rv r_114, rv r_117, rv b120, .unset, .unset, .unset, .unset, .unset, .unset] [])) _
            refine XS.iconst X901.here hx rfl (hb hby at_126) ?_
            refine XS.istore X901.here hx rfl (hb hby at_127) rfl (l' := #[iv p0, iv p1, iv p2, iv p3, iv (p0 &&& (3 : Int32)), iv mv, rv r_105, rv r_108, rv r_111, rv r_114, rv r_117, rv b120, iv (0 : Int32), .unset, .unset, .unset, .unset, .unset]) rfl ?_
            refine XS.iconst X901.here hx rfl (hb hby at_129) ?_
            refine XS.istore X901.here hx rfl (hb hby at_130) rfl (l' := #[iv p0, iv p1, iv p2, iv p3, iv (p0 &&& (3 : Int32)), iv mv, rv r_105, rv r_108, rv r_111, rv r_114, rv r_117, rv b120, iv (0 : Int32), iv (0 : Int32), .unset, .unset, .unset, .unset]) rfl ?_
            show Steps p.tables e below (T901.setTop (mkF m 132 #[iv p0, iv p1, iv p2, iv p3, iv (p0 &&& (3 : Int32)), iv mv, rv r_105, rv r_108, rv r_111, rv r_114, rv r_117, rv b120, iv (0 : Int32), iv (0 : Int32), .unset, .unset, .unset, .unset] [])) _
            refine XS.iconst X901.here hx rfl (hb hby at_132) ?_
            refine XS.istore X901.here hx rfl (hb hby at_133) rfl (l' := #[iv p0, iv p1, iv p2, iv p3, iv (p0 &&& (3 : Int32)), iv mv, rv r_105, rv r_108, rv r_111, rv r_114, rv r_117, rv b120, iv (0 : Int32), iv (0 : Int32), iv (0 : Int32), .unset, .unset, .unset]) rfl ?_
            refine XS.iload X901.here hx rfl (hb hby at_135) rfl ?_
            refine XS.ifNo X901.here hx rfl (hb hby at_137) rfl (XT.i0_le_f hc209) ?_
            show Steps p.tables e below (T901.setTop (mkF m 140 #[iv p0, iv p1, iv p2, iv p3, iv (p0 &&& (3 : Int32)), iv mv, rv r_105, rv r_108, rv r_111, rv r_114, rv r_117, rv b120, iv (0 : Int32), iv (0 : Int32), iv (0 : Int32), .unset, .unset, .unset] [])) _
            refine XS.aload X901.here hx rfl (hb hby at_140) rfl rfl ?_
            exact kt
          obtain ⟨T904, X904, e904, st904⟩ := getS2 X901 hx hZ hown (host := "") (Or.inl (W 8 rfl)) Via.refl e901 (G2.ext O901.2) (g := (mkF m 142 #[iv p0, iv p1, iv p2, iv p3, iv (p0 &&& (3 : Int32)), iv mv, rv r_105, rv r_108, rv r_111, rv r_114, rv r_117, rv b120, iv (0 : Int32), iv (0 : Int32), iv (0 : Int32), .unset, .unset, .unset] [(.ref r_114)])) rfl (hb hby at_142)
          have pre905 : ∀ t, Steps p.tables e below (T904.setTop (mkF m 145 #[iv p0, iv p1, iv p2, iv p3, iv (p0 &&& (3 : Int32)), iv mv, rv r_105, rv r_108, rv r_111, rv r_114, rv r_117, rv b120, iv (0 : Int32), iv (0 : Int32), iv (0 : Int32), .unset, .unset, .unset] [(.ref a_TRUE), (.ref r_114)])) t → Steps p.tables e below (s₁.setTop (entryFrame m #[(.int p0), (.int p1), (.int p2), (.int p3)] maxLocals)) t := fun t kt => pre903 _ (st904 _ kt)
          have pre906 : ∀ t, Steps p.tables e below (T904.setTop (mkF m 159 #[iv p0, iv p1, iv p2, iv p3, iv (p0 &&& (3 : Int32)), iv mv, rv r_105, rv r_108, rv r_111, rv r_114, rv r_117, rv b120, iv (0 : Int32), iv (0 : Int32), iv (0 : Int32), .unset, .unset, .unset] [(.ref r_114)])) t → Steps p.tables e below (s₁.setTop (entryFrame m #[(.int p0), (.int p1), (.int p2), (.int p3)] maxLocals)) t := fun t kt => by
            refine pre905 _ ?_
            show Steps p.tables e below (T904.setTop (mkF m 145 #[iv p0, iv p1, iv p2, iv p3, iv (p0 &&& (3 : Int32)), iv mv, rv r_105, rv r_108, rv r_111, rv r_114, rv r_117, rv b120, iv (0 : Int32), iv (0 : Int32), iv (0 : Int32), .unset, .unset, .unset] [(.ref a_TRUE), (.ref r_114)])) _
            refine Jvm.RoadKit.acmp (g := (mkF m 145 #[iv p0, iv p1, iv p2, iv p3, iv (p0 &&& (3 : Int32)), iv mv, rv r_105, rv r_108, rv r_111, rv r_114, rv r_117, rv b120, iv (0 : Int32), iv (0 : Int32), iv (0 : Int32), .unset, .unset, .unset] [(.ref a_TRUE), (.ref r_114)])) X904 hx rfl rfl rfl (pc0 := 145) (pc' := 157) (same := false) rfl (hb hby at_145) rfl (decide_eq_false fun q => (fun z => (fun q => ne_a_TRUE_a_UNKNOWN q.symm) (hv211.symm.trans z)) (Value.ref.inj q)) (by decide) (by decide) ?_
            refine XS.aload X904.here hx rfl (hb hby at_157) rfl rfl ?_
            exact kt
          obtain ⟨T907, X907, e907, st907⟩ := getS2 X904 hx hZ hown (host := "") (Or.inl (W 10 rfl)) Via.refl e904 (G4.ext O901.2) (g := (mkF m 159 #[iv p0, iv p1, iv p2, iv p3, iv (p0 &&& (3 : Int32)), iv mv, rv r_105, rv r_108, rv r_111, rv r_114, rv r_117, rv b120, iv (0 : Int32), iv (0 : Int32), iv (0 : Int32), .unset, .unset, .unset] [(.ref r_114)])) rfl (hb hby at_159)
          have pre908 : ∀ t, Steps p.tables e below (T907.setTop (mkF m 162 #[iv p0, iv p1, iv p2, iv p3, iv (p0 &&& (3 : Int32)), iv mv, rv r_105, rv r_108, rv r_111, rv r_114, rv r_117, rv b120, iv (0 : Int32), iv (0 : Int32), iv (0 : Int32), .unset, .unset, .unset] [(.ref a_FALSE), (.ref r_114)])) t → Steps p.tables e below (s₁.setTop (entryFrame m #[(.int p0), (.int p1), (.int p2), (.int p3)] maxLocals)) t := fun t kt => pre906 _ (st907 _ kt)
          have pre909 : ∀ t, Steps p.tables e below (T907.setTop (mkF m 188 #[iv p0, iv p1, iv p2, iv p3, iv (p0 &&& (3 : Int32)), iv mv, rv r_105, rv r_108, rv r_111, rv r_114, rv r_117, rv b120, iv (0 : Int32), iv (0 : Int32), iv (1 : Int32), .unset, .unset, .unset] [(.ref r_117)])) t → Steps p.tables e below (s₁.setTop (entryFrame m #[(.int p0), (.int p1), (.int p2), (.int p3)] maxLocals)) t := fun t kt => by
            refine pre908 _ ?_
            show Steps p.tables e below (T907.setTop (mkF m 162 #[iv p0, iv p1, iv p2, iv p3, iv (p0 &&& (3 : Int32)), iv mv, rv r_105, rv r_108, rv r_111, rv r_114, rv r_117, rv b120, iv (0 : Int32), iv (0 : Int32), iv (0 : Int32), .unset, .unset, .unset] [(.ref a_FALSE), (.ref r_114)])) _
            refine Jvm.RoadKit.acmp (g := (mkF m 162 #[iv p0, iv p1, iv p2, iv p3, iv (p0 &&& (3 : Int32)), iv mv, rv r_105, rv r_108, rv r_111, rv r_114, rv r_117, rv b120, iv (0 : Int32), iv (0 : Int32), iv (0 : Int32), .unset, .unset, .unset] [(.ref a_FALSE), (.ref r_114)])) X907 hx rfl rfl rfl (pc0 := 162) (pc' := 174) (same := false) rfl (hb hby at_162) rfl (decide_eq_false fun q => (fun z => (fun q => ne_a_FALSE_a_UNKNOWN q.symm) (hv211.symm.trans z)) (Value.ref.inj q)) (by decide) (by decide) ?_
            refine XS.iload X907.here hx rfl (hb hby at_174) rfl ?_
            refine XS.iconst X907.here hx rfl (hb hby at_176) ?_
            refine XS.iadd X907.here hx rfl (hb hby at_177) rfl ?_
            show  Steps p.tables e below (T907.setTop (mkF m 178 #[iv p0, iv p1, iv p2, iv p3, iv (p0 &&& (3 : Int32)), iv mv, rv r_105, rv r_108, rv r_111, rv r_114, rv r_117, rv b120, iv (0 : Int32), iv (0 : Int32), iv (0 : Int32), .unset, .unset, .unset] [(.int ((0 : Int32) + (1 : Int32)))])) _
            rw [(by decide : (((0 : Int32) + (1 : Int32)) : Int32) = (1 : Int32))]
            show Steps p.tables e below (T907.setTop (mkF m 178 #[iv p0, iv p1, iv p2, iv p3, iv (p0 &&& (3 : Int32)), iv mv, rv r_105, rv r_108, rv r_111, rv r_114, rv r_117, rv b120, iv (0 : Int32), iv (0 : Int32), iv (0 : Int32), .unset, .unset, .unset] [(.int (1 : Int32))])) _
            refine XS.istore X907.here hx rfl (hb hby at_178) rfl (l' := #[iv p0, iv p1, iv p2, iv p3, iv (p0 &&& (3 : Int32)), iv mv, rv r_105, rv r_108, rv r_111, rv r_114, rv r_117, rv b120, iv (0 : Int32), iv (0 : Int32), iv (1 : Int32), .unset, .unset, .unset]) rfl ?_
            refine XS.iload X907.here hx rfl (hb hby at_180) rfl ?_
            refine XS.iconst X907.here hx rfl (hb hby at_182) ?_
            refine XS.icmpNo X907.here hx rfl (hb hby at_183) rfl (XT.ii_le_f hc829) ?_
            show Steps p.tables e below (T907.setTop (mkF m 186 #[iv p0, iv p1, iv p2, iv p3, iv (p0 &&& (3 : Int32)), iv mv, rv r_105, rv r_108, rv r_111, rv r_114, rv r_117, rv b120, iv (0 : Int32), iv (0 : Int32), iv (1 : Int32), .unset, .unset, .unset] [])) _
            refine XS.aload X907.here hx rfl (hb hby at_186) rfl rfl ?_
            exact kt
          obtain ⟨T910, X910, e910, st910⟩ := getS2 X907 hx hZ hown (host := "") (Or.inl (W 8 rfl)) Via.refl e907 (G2.ext O901.2) (g := (mkF m 188 #[iv p0, iv p1, iv p2, iv p3, iv (p0 &&& (3 : Int32)), iv mv, rv r_105, rv r_108, rv r_111, rv r_114, rv r_117, rv b120, iv (0 : Int32), iv (0 : Int32), iv (1 : Int32), .unset, .unset, .unset] [(.ref r_117)])) rfl (hb hby at_188)
          have pre911 : ∀ t, Steps p.tables e below (T910.setTop (mkF m 191 #[iv p0, iv p1, iv p2, iv p3, iv (p0 &&& (3 : Int32)), iv mv, rv r_105, rv r_108, rv r_111, rv r_114, rv r_117, rv b120, iv (0 : Int32), iv (0 : Int32), iv (1 : Int32), .unset, .unset, .unset] [(.ref a_TRUE), (.ref r_117)])) t → Steps p.tables e below (s₁.setTop (entryFrame m #[(.int p0), (.int p1), (.int p2), (.int p3)] maxLocals)) t := fun t kt => pre909 _ (st910 _ kt)
          have pre912 : ∀ t, Steps p.tables e below (T910.setTop (mkF m 205 #[iv p0, iv p1, iv p2, iv p3, iv (p0 &&& (3 : Int32)), iv mv, rv r_105, rv r_108, rv r_111, rv r_114, rv r_117, rv b120, iv (0 : Int32), iv (0 : Int32), iv (1 : Int32), .unset, .unset, .unset] [(.ref r_117)])) t → Steps p.tables e below (s₁.setTop (entryFrame m #[(.int p0), (.int p1), (.int p2), (.int p3)] maxLocals)) t := fun t kt => by
            refine pre911 _ ?_
            show Steps p.tables e below (T910.setTop (mkF m 191 #[iv p0, iv p1, iv p2, iv p3, iv (p0 &&& (3 : Int32)), iv mv, rv r_105, rv r_108, rv r_111, rv r_114, rv r_117, rv b120, iv (0 : Int32), iv (0 : Int32), iv (1 : Int32), .unset, .unset, .unset] [(.ref a_TRUE), (.ref r_117)])) _
            refine Jvm.RoadKit.acmp (g := (mkF m 191 #[iv p0, iv p1, iv p2, iv p3, iv (p0 &&& (3 : Int32)), iv mv, rv r_105, rv r_108, rv r_111, rv r_114, rv r_117, rv b120, iv (0 : Int32), iv (0 : Int32), iv (1 : Int32), .unset, .unset, .unset] [(.ref a_TRUE), (.ref r_117)])) X910 hx rfl rfl rfl (pc0 := 191) (pc' := 203) (same := false) rfl (hb hby at_191) rfl (decide_eq_false fun q => (fun z => (fun q => ne_a_TRUE_a_UNKNOWN q.symm) (hv831.symm.trans z)) (Value.ref.inj q)) (by decide) (by decide) ?_
            refine XS.aload X910.here hx rfl (hb hby at_203) rfl rfl ?_
            exact kt
          obtain ⟨T913, X913, e913, st913⟩ := getS2 X910 hx hZ hown (host := "") (Or.inl (W 10 rfl)) Via.refl e910 (G4.ext O901.2) (g := (mkF m 205 #[iv p0, iv p1, iv p2, iv p3, iv (p0 &&& (3 : Int32)), iv mv, rv r_105, rv r_108, rv r_111, rv r_114, rv r_117, rv b120, iv (0 : Int32), iv (0 : Int32), iv (1 : Int32), .unset, .unset, .unset] [(.ref r_117)])) rfl (hb hby at_205)
          have pre914 : ∀ t, Steps p.tables e below (T913.setTop (mkF m 208 #[iv p0, iv p1, iv p2, iv p3, iv (p0 &&& (3 : Int32)), iv mv, rv r_105, rv r_108, rv r_111, rv r_114, rv r_117, rv b120, iv (0 : Int32), iv (0 : Int32), iv (1 : Int32), .unset, .unset, .unset] [(.ref a_FALSE), (.ref r_117)])) t → Steps p.tables e below (s₁.setTop (entryFrame m #[(.int p0), (.int p1), (.int p2), (.int p3)] maxLocals)) t := fun t kt => pre912 _ (st913 _ kt)
          have pre915 : ∀ t, Steps p.tables e below (T913.setTop (mkF m 242 #[iv p0, iv p1, iv p2, iv p3, iv (p0 &&& (3 : Int32)), iv mv, rv r_105, rv r_108, rv r_111, rv r_114, rv r_117, rv b120, iv (0 : Int32), iv (0 : Int32), iv (2 : Int32), .unset, .unset, .unset] [])) t → Steps p.tables e below (s₁.setTop (entryFrame m #[(.int p0), (.int p1), (.int p2), (.int p3)] maxLocals)) t := fun t kt => by
            refine pre914 _ ?_
            show Steps p.tables e below (T913.setTop (mkF m 208 #[iv p0, iv p1, iv p2, iv p3, iv (p0 &&& (3 : Int32)), iv mv, rv r_105, rv r_108, rv r_111, rv r_114, rv r_117, rv b120, iv (0 : Int32), iv (0 : Int32), iv (1 : Int32), .unset, .unset, .unset] [(.ref a_FALSE), (.ref r_117)])) _
            refine Jvm.RoadKit.acmp (g := (mkF m 208 #[iv p0, iv p1, iv p2, iv p3, iv (p0 &&& (3 : Int32)), iv mv, rv r_105, rv r_108, rv r_111, rv r_114, rv r_117, rv b120, iv (0 : Int32), iv (0 : Int32), iv (1 : Int32), .unset, .unset, .unset] [(.ref a_FALSE), (.ref r_117)])) X913 hx rfl rfl rfl (pc0 := 208) (pc' := 220) (same := false) rfl (hb hby at_208) rfl (decide_eq_false fun q => (fun z => (fun q => ne_a_FALSE_a_UNKNOWN q.symm) (hv831.symm.trans z)) (Value.ref.inj q)) (by decide) (by decide) ?_
            refine XS.iload X913.here hx rfl (hb hby at_220) rfl ?_
            refine XS.iconst X913.here hx rfl (hb hby at_222) ?_
            refine XS.iadd X913.here hx rfl (hb hby at_223) rfl ?_
            show  Steps p.tables e below (T913.setTop (mkF m 224 #[iv p0, iv p1, iv p2, iv p3, iv (p0 &&& (3 : Int32)), iv mv, rv r_105, rv r_108, rv r_111, rv r_114, rv r_117, rv b120, iv (0 : Int32), iv (0 : Int32), iv (1 : Int32), .unset, .unset, .unset] [(.int ((1 : Int32) + (1 : Int32)))])) _
            rw [(by decide : (((1 : Int32) + (1 : Int32)) : Int32) = (2 : Int32))]
            show Steps p.tables e below (T913.setTop (mkF m 224 #[iv p0, iv p1, iv p2, iv p3, iv (p0 &&& (3 : Int32)), iv mv, rv r_105, rv r_108, rv r_111, rv r_114, rv r_117, rv b120, iv (0 : Int32), iv (0 : Int32), iv (1 : Int32), .unset, .unset, .unset] [(.int (2 : Int32))])) _
            refine XS.istore X913.here hx rfl (hb hby at_224) rfl (l' := #[iv p0, iv p1, iv p2, iv p3, iv (p0 &&& (3 : Int32)), iv mv, rv r_105, rv r_108, rv r_111, rv r_114, rv r_117, rv b120, iv (0 : Int32), iv (0 : Int32), iv (2 : Int32), .unset, .unset, .unset]) rfl ?_
            refine XS.iload X913.here hx rfl (hb hby at_226) rfl ?_
            refine XS.ifYes X913.here hx rfl (pc0 := 228) (pc' := 237) rfl (hb hby at_228) rfl (XT.i0_le_t (by decide)) (by decide) (by decide) ?_
            refine XS.iload X913.here hx rfl (hb hby at_237) rfl ?_
            show Steps p.tables e below (T913.setTop (mkF m 239 #[iv p0, iv p1, iv p2, iv p3, iv (p0 &&& (3 : Int32)), iv mv, rv r_105, rv r_108, rv r_111, rv r_114, rv r_117, rv b120, iv (0 : Int32), iv (0 : Int32), iv (2 : Int32), .unset, .unset, .unset] [(.int (2 : Int32))])) _
            refine XS.ifNo X913.here hx rfl (hb hby at_239) rfl (XT.i0_le_f (by decide)) ?_
            exact kt
          obtain ⟨T916, X916, e916, st916⟩ := getS2 X913 hx hZ hown (host := "") (Or.inl (W 5 rfl)) Via.refl e913 (G0.ext O901.2) (g := (mkF m 242 #[iv p0, iv p1, iv p2, iv p3, iv (p0 &&& (3 : Int32)), iv mv, rv r_105, rv r_108, rv r_111, rv r_114, rv r_117, rv b120, iv (0 : Int32), iv (0 : Int32), iv (2 : Int32), .unset, .unset, .unset] [])) rfl (hb hby at_242)
          have pre917 : ∀ t, Steps p.tables e below (T916.setTop (mkF m 245 #[iv p0, iv p1, iv p2, iv p3, iv (p0 &&& (3 : Int32)), iv mv, rv r_105, rv r_108, rv r_111, rv r_114, rv r_117, rv b120, iv (0 : Int32), iv (0 : Int32), iv (2 : Int32), .unset, .unset, .unset] [(.ref a_UNKNOWN)])) t → Steps p.tables e below (s₁.setTop (entryFrame m #[(.int p0), (.int p1), (.int p2), (.int p3)] maxLocals)) t := fun t kt => pre915 _ (st916 _ kt)
          have pre918 : ∀ t, Steps p.tables e below (T916.setTop (mkF m 269 #[iv p0, iv p1, iv p2, iv p3, iv (p0 &&& (3 : Int32)), iv mv, rv r_105, rv r_108, rv r_111, rv r_114, rv r_117, rv b120, iv (0 : Int32), iv (0 : Int32), iv (2 : Int32), rv a_UNKNOWN, .unset, .unset] [])) t → Steps p.tables e below (s₁.setTop (entryFrame m #[(.int p0), (.int p1), (.int p2), (.int p3)] maxLocals)) t := fun t kt => by
            refine pre917 _ ?_
            show Steps p.tables e below (T916.setTop (mkF m 245 #[iv p0, iv p1, iv p2, iv p3, iv (p0 &&& (3 : Int32)), iv mv, rv r_105, rv r_108, rv r_111, rv r_114, rv r_117, rv b120, iv (0 : Int32), iv (0 : Int32), iv (2 : Int32), .unset, .unset, .unset] [(.ref a_UNKNOWN)])) _
            refine XS.goto X916.here hx rfl (pc0 := 245) (pc' := 251) rfl (hb hby at_245) (by decide) (by decide) ?_
            refine XS.astore X916.here hx rfl (hb hby at_251) rfl rfl (l' := #[iv p0, iv p1, iv p2, iv p3, iv (p0 &&& (3 : Int32)), iv mv, rv r_105, rv r_108, rv r_111, rv r_114, rv r_117, rv b120, iv (0 : Int32), iv (0 : Int32), iv (2 : Int32), rv a_UNKNOWN, .unset, .unset]) rfl ?_
            refine XS.iload X916.here hx rfl (hb hby at_253) rfl ?_
            refine XS.ifYes X916.here hx rfl (pc0 := 255) (pc' := 264) rfl (hb hby at_255) rfl (XT.i0_le_t (by decide)) (by decide) (by decide) ?_
            show Steps p.tables e below (T916.setTop (mkF m 264 #[iv p0, iv p1, iv p2, iv p3, iv (p0 &&& (3 : Int32)), iv mv, rv r_105, rv r_108, rv r_111, rv r_114, rv r_117, rv b120, iv (0 : Int32), iv (0 : Int32), iv (2 : Int32), rv a_UNKNOWN, .unset, .unset] [])) _
            refine XS.iload X916.here hx rfl (hb hby at_264) rfl ?_
            refine XS.ifNo X916.here hx rfl (hb hby at_266) rfl (XT.i0_le_f (by decide)) ?_
            exact kt
          obtain ⟨T919, X919, e919, st919⟩ := getS2 X916 hx hZ hown (host := "") (Or.inl (W 5 rfl)) Via.refl e916 (G0.ext O901.2) (g := (mkF m 269 #[iv p0, iv p1, iv p2, iv p3, iv (p0 &&& (3 : Int32)), iv mv, rv r_105, rv r_108, rv r_111, rv r_114, rv r_117, rv b120, iv (0 : Int32), iv (0 : Int32), iv (2 : Int32), rv a_UNKNOWN, .unset, .unset] [])) rfl (hb hby at_269)
          have pre920 : ∀ t, Steps p.tables e below (T919.setTop (mkF m 272 #[iv p0, iv p1, iv p2, iv p3, iv (p0 &&& (3 : Int32)), iv mv, rv r_105, rv r_108, rv r_111, rv r_114, rv r_117, rv b120, iv (0 : Int32), iv (0 : Int32), iv (2 : Int32), rv a_UNKNOWN, .unset, .unset] [(.ref a_UNKNOWN)])) t → Steps p.tables e below (s₁.setTop (entryFrame m #[(.int p0), (.int p1), (.int p2), (.int p3)] maxLocals)) t := fun t kt => pre918 _ (st919 _ kt)
          have pre921 : ∀ t, Steps p.tables e below (T919.setTop (mkF m 285 #[iv p0, iv p1, iv p2, iv p3, iv (p0 &&& (3 : Int32)), iv mv, rv r_105, rv r_108, rv r_111, rv r_114, rv r_117, rv b120, iv (0 : Int32), iv (0 : Int32), iv (2 : Int32), rv a_UNKNOWN, rv a_UNKNOWN, .unset] [])) t → Steps p.tables e below (s₁.setTop (entryFrame m #[(.int p0), (.int p1), (.int p2), (.int p3)] maxLocals)) t := fun t kt => by
            refine pre920 _ ?_
            show Steps p.tables e below (T919.setTop (mkF m 272 #[iv p0, iv p1, iv p2, iv p3, iv (p0 &&& (3 : Int32)), iv mv, rv r_105, rv r_108, rv r_111, rv r_114, rv r_117, rv b120, iv (0 : Int32), iv (0 : Int32), iv (2 : Int32), rv a_UNKNOWN, .unset, .unset] [(.ref a_UNKNOWN)])) _
            refine XS.goto X919.here hx rfl (pc0 := 272) (pc' := 278) rfl (hb hby at_272) (by decide) (by decide) ?_
            refine XS.astore X919.here hx rfl (hb hby at_278) rfl rfl (l' := #[iv p0, iv p1, iv p2, iv p3, iv (p0 &&& (3 : Int32)), iv mv, rv r_105, rv r_108, rv r_111, rv r_114, rv r_117, rv b120, iv (0 : Int32), iv (0 : Int32), iv (2 : Int32), rv a_UNKNOWN, rv a_UNKNOWN, .unset]) rfl ?_
            refine XS.iload X919.here hx rfl (hb hby at_280) rfl ?_
            refine XS.ifNo X919.here hx rfl (hb hby at_282) rfl (XT.i0_le_f (by decide)) ?_
            exact kt
          obtain ⟨T922, X922, e922, st922⟩ := getS2 X919 hx hZ hown (host := "") (Or.inl (W 5 rfl)) Via.refl e919 (G0.ext O901.2) (g := (mkF m 285 #[iv p0, iv p1, iv p2, iv p3, iv (p0 &&& (3 : Int32)), iv mv, rv r_105, rv r_108, rv r_111, rv r_114, rv r_117, rv b120, iv (0 : Int32), iv (0 : Int32), iv (2 : Int32), rv a_UNKNOWN, rv a_UNKNOWN, .unset] [])) rfl (hb hby at_285)
          have pre923 : ∀ t, Steps p.tables e below (T922.setTop (mkF m 288 #[iv p0, iv p1, iv p2, iv p3, iv (p0 &&& (3 : Int32)), iv mv, rv r_105, rv r_108, rv r_111, rv r_114, rv r_117, rv b120, iv (0 : Int32), iv (0 : Int32), iv (2 : Int32), rv a_UNKNOWN, rv a_UNKNOWN, .unset] [(.ref a_UNKNOWN)])) t → Steps p.tables e below (s₁.setTop (entryFrame m #[(.int p0), (.int p1), (.int p2), (.int p3)] maxLocals)) t := fun t kt => pre921 _ (st922 _ kt)
          have pre924 : ∀ t, Steps p.tables e below (T922.setTop (mkF m 310 #[iv p0, iv p1, iv p2, iv p3, iv (p0 &&& (3 : Int32)), iv mv, rv r_105, rv r_108, rv r_111, rv r_114, rv r_117, rv b120, iv (0 : Int32), iv (0 : Int32), iv (2 : Int32), rv a_UNKNOWN, rv a_UNKNOWN, rv a_UNKNOWN] [(.ref b120)])) t → Steps p.tables e below (s₁.setTop (entryFrame m #[(.int p0), (.int p1), (.int p2), (.int p3)] maxLocals)) t := fun t kt => by
            refine pre923 _ ?_
            show Steps p.tables e below (T922.setTop (mkF m 288 #[iv p0, iv p1, iv p2, iv p3, iv (p0 &&& (3 : Int32)), iv mv, rv r_105, rv r_108, rv r_111, rv r_114, rv r_117, rv b120, iv (0 : Int32), iv (0 : Int32), iv (2 : Int32), rv a_UNKNOWN, rv a_UNKNOWN, .unset] [(.ref a_UNKNOWN)])) _
            refine XS.goto X922.here hx rfl (pc0 := 288) (pc' := 306) rfl (hb hby at_288) (by decide) (by decide) ?_
            refine XS.astore X922.here hx rfl (hb hby at_306) rfl rfl (l' := #[iv p0, iv p1, iv p2, iv p3, iv (p0 &&& (3 : Int32)), iv mv, rv r_105, rv r_108, rv r_111, rv r_114, rv r_117, rv b120, iv (0 : Int32), iv (0 : Int32), iv (2 : Int32), rv a_UNKNOWN, rv a_UNKNOWN, rv a_UNKNOWN]) rfl ?_
            refine XS.aload X922.here hx rfl (hb hby at_308) rfl rfl ?_
            exact kt
          obtain ⟨cq925, kq925, q925a, q925b, q925c⟩ := isOf hZ e922 J901_0
          obtain ⟨_, _, ⟨T925, L925, k925, n925⟩, -, X925, ⟨Lc925, hQ925, l925, y925, z925⟩, st925⟩ := X922.virtualBack hx (y := (⟨"com/example/contexture/contexture/engine/evaluation/TruthValue$Tally", "and", "()Lcom/example/contexture/contexture/engine/evaluation/TruthValue;"⟩ : MethodName)) (z := (⟨"com/example/contexture/contexture/engine/evaluation/TruthValue$Tally", "and", "()Lcom/example/contexture/contexture/engine/evaluation/TruthValue;"⟩ : MethodName)) hown (mvT hZ (W 46 rfl)) (mvT hZ (W 47 rfl)) (notFace_of_selects (args := #[]) (mvT hZ (W 49 rfl))) (mvT hZ (W 49 rfl)) (mvT hZ (W 48 rfl)) (by decide) (backOf (W := 0) (rm_and7_4 l Z a0 hw [] b120 a_UNKNOWN a_TRUE h901 n0 O901 G0 G2 J901_0 J901_2 J901_3) hZ (W 50 rfl) (W 14 rfl) (by decide) (by decide)) q925a q925c (g := (mkF m 310 #[iv p0, iv p1, iv p2, iv p3, iv (p0 &&& (3 : Int32)), iv mv, rv r_105, rv r_108, rv r_111, rv r_114, rv r_117, rv b120, iv (0 : Int32), iv (0 : Int32), iv (2 : Int32), rv a_UNKNOWN, rv a_UNKNOWN, rv a_UNKNOWN] [(.ref b120)])) rfl (by rw [hml]; rfl) (Steps.refl _) (argsL := []) (rest := []) (lenOf pd_16 rfl) rfl (by show 2 * 0 + _ ≤ _; exact Nat.le_of_eq rfl) (hb hby at_310) (fun _ _ => ⟨rfl, e922, (by decide : 1 + 0 ≤ _), (by decide : 3 + 0 ≤ _)⟩)
          dsimp only [Pt.U, Pt.locs, Pt.cells, Pt.slots] at X925 l925 y925 z925 st925 hQ925
          replace l925 := l925.symm
          replace y925 : 1 = k925 := y925.symm
          replace z925 : 3 = n925 := z925.symm
          subst l925 y925 z925
          obtain ⟨rfl, M925, e925⟩ := hQ925
          have N925 := Fr.app N901 M925
          have pre971 : ∀ t, Steps p.tables e below (T925.setTop (mkF m 313 #[iv p0, iv p1, iv p2, iv p3, iv (p0 &&& (3 : Int32)), iv mv, rv r_105, rv r_108, rv r_111, rv r_114, rv r_117, rv b120, iv (0 : Int32), iv (0 : Int32), iv (2 : Int32), rv a_UNKNOWN, rv a_UNKNOWN, rv a_UNKNOWN] [(.ref a_UNKNOWN)])) t → Steps p.tables e below (s₁.setTop (entryFrame m #[(.int p0), (.int p1), (.int p2), (.int p3)] maxLocals)) t := fun t kt => pre924 _ (st925.trans kt)
          have pre972 : ∀ t, Steps p.tables e below (T925.setTop (mkF m 320 #[iv p0, iv p1, iv p2, iv p3, iv (p0 &&& (3 : Int32)), iv mv, rv r_105, rv r_108, rv r_111, rv r_114, rv r_117, rv b120, iv (0 : Int32), iv (0 : Int32), iv (2 : Int32), rv a_UNKNOWN, rv a_UNKNOWN, rv a_UNKNOWN] [(.ref b120)])) t → Steps p.tables e below (s₁.setTop (entryFrame m #[(.int p0), (.int p1), (.int p2), (.int p3)] maxLocals)) t := fun t kt => by
            refine pre971 _ ?_
            show Steps p.tables e below (T925.setTop (mkF m 313 #[iv p0, iv p1, iv p2, iv p3, iv (p0 &&& (3 : Int32)), iv mv, rv r_105, rv r_108, rv r_111, rv r_114, rv r_117, rv b120, iv (0 : Int32), iv (0 : Int32), iv (2 : Int32), rv a_UNKNOWN, rv a_UNKNOWN, rv a_UNKNOWN] [(.ref a_UNKNOWN)])) _
            refine XS.aload X925.here hx rfl (hb hby at_313) rfl rfl ?_
            refine Jvm.RoadKit.acmp (g := (mkF m 315 #[iv p0, iv p1, iv p2, iv p3, iv (p0 &&& (3 : Int32)), iv mv, rv r_105, rv r_108, rv r_111, rv r_114, rv r_117, rv b120, iv (0 : Int32), iv (0 : Int32), iv (2 : Int32), rv a_UNKNOWN, rv a_UNKNOWN, rv a_UNKNOWN] [(.ref a_UNKNOWN), (.ref a_UNKNOWN)])) X925 hx rfl rfl rfl (pc0 := 315) (pc' := 318) (same := true) rfl (hb hby at_315) rfl (decide_eq_true rfl) (by decide) (by decide) ?_
            refine XS.aload X925.here hx rfl (hb hby at_318) rfl rfl ?_
            exact kt
          obtain ⟨cq973, kq973, q973a, q973b, q973c⟩ := isOf hZ e925 J901_0
          obtain ⟨_, _, ⟨T973, L973, k973, n973⟩, -, X973, ⟨Lc973, hQ973, l973, y973, z973⟩, st973⟩ := X925.virtualBack hx (y := (⟨"com/example/contexture/contexture/engine/evaluation/TruthValue$Tally", "or", "()Lcom/example/contexture/contexture/engine/evaluation/TruthValue;"⟩ : MethodName)) (z := (⟨"com/example/contexture/contexture/engine/evaluation/TruthValue$Tally", "or", "()Lcom/example/contexture/contexture/engine/evaluation/TruthValue;"⟩ : MethodName)) hown (mvT hZ (W 52 rfl)) (mvT hZ (W 53 rfl)) (notFace_of_selects (args := #[]) (mvT hZ (W 55 rfl))) (mvT hZ (W 55 rfl)) (mvT hZ (W 54 rfl)) (by decide) (backOf (W := 0) (rm_or8_4 l Z a0 hw [] b120 a_UNKNOWN a_FALSE h901 n0 O901 G0 G4 J901_0 J901_1 J901_3) hZ (W 56 rfl) (W 14 rfl) (by decide) (by decide)) q973a q973c (g := (mkF m 320 #[iv p0, iv p1, iv p2, iv p3, iv (p0 &&& (3 : Int32)), iv mv, rv r_105, rv r_108, rv r_111, rv r_114, rv r_117, rv b120, iv (0 : Int32), iv (0 : Int32), iv (2 : Int32), rv a_UNKNOWN, rv a_UNKNOWN, rv a_UNKNOWN] [(.ref b120)])) rfl (by rw [hml]; rfl) (Steps.refl _) (argsL := []) (rest := []) (lenOf pd_16 rfl) rfl (by show 2 * 0 + _ ≤ _; exact Nat.le_of_eq rfl) (hb hby at_320) (fun _ _ => ⟨rfl, e925, (by decide : 1 + 0 ≤ _), (by decide : 3 + 0 ≤ _)⟩)
          dsimp only [Pt.U, Pt.locs, Pt.cells, Pt.slots] at X973 l973 y973 z973 st973 hQ973
          replace l973 := l973.symm
          replace y973 : 1 = k973 := y973.symm
          replace z973 : 3 = n973 := z973.symm
          subst l973 y973 z973
          obtain ⟨rfl, M973, e973⟩ := hQ973
          have N973 := Fr.app N925 M973
          have pre998 : ∀ t, Steps p.tables e below (T973.setTop (mkF m 323 #[iv p0, iv p1, iv p2, iv p3, iv (p0 &&& (3 : Int32)), iv mv, rv r_105, rv r_108, rv r_111, rv r_114, rv r_117, rv b120, iv (0 : Int32), iv (0 : Int32), iv (2 : Int32), rv a_UNKNOWN, rv a_UNKNOWN, rv a_UNKNOWN] [(.ref a_UNKNOWN)])) t → Steps p.tables e below (s₁.setTop (entryFrame m #[(.int p0), (.int p1), (.int p2), (.int p3)] maxLocals)) t := fun t kt => pre972 _ (st973.trans kt)
          have pre999 : ∀ t, Steps p.tables e below (T973.setTop (mkF m 330 #[iv p0, iv p1, iv p2, iv p3, iv (p0 &&& (3 : Int32)), iv mv, rv r_105, rv r_108, rv r_111, rv r_114, rv r_117, rv b120, iv (0 : Int32), iv (0 : Int32), iv (2 : Int32), rv a_UNKNOWN, rv a_UNKNOWN, rv a_UNKNOWN] [(.ref b120)])) t → Steps p.tables e below (s₁.setTop (entryFrame m #[(.int p0), (.int p1), (.int p2), (.int p3)] maxLocals)) t := fun t kt => by
            refine pre998 _ ?_
            show Steps p.tables e below (T973.setTop (mkF m 323 #[iv p0, iv p1, iv p2, iv p3, iv (p0 &&& (3 : Int32)), iv mv, rv r_105, rv r_108, rv r_111, rv r_114, rv r_117, rv b120, iv (0 : Int32), iv (0 : Int32), iv (2 : Int32), rv a_UNKNOWN, rv a_UNKNOWN, rv a_UNKNOWN] [(.ref a_UNKNOWN)])) _
            refine XS.aload X973.here hx rfl (hb hby at_323) rfl rfl ?_
            refine Jvm.RoadKit.acmp (g := (mkF m 325 #[iv p0, iv p1, iv p2, iv p3, iv (p0 &&& (3 : Int32)), iv mv, rv r_105, rv r_108, rv r_111, rv r_114, rv r_117, rv b120, iv (0 : Int32), iv (0 : Int32), iv (2 : Int32), rv a_UNKNOWN, rv a_UNKNOWN, rv a_UNKNOWN] [(.ref a_UNKNOWN), (.ref a_UNKNOWN)])) X973 hx rfl rfl rfl (pc0 := 325) (pc' := 328) (same := true) rfl (hb hby at_325) rfl (decide_eq_true rfl) (by decide) (by decide) ?_
            refine XS.aload X973.here hx rfl (hb hby at_328) rfl rfl ?_
            exact kt
          obtain ⟨cq1000, kq1000, q1000a, q1000b, q1000c⟩ := isOf hZ e973 J901_0
          obtain ⟨_, _, ⟨T1000, L1000, k1000, n1000⟩, -, X1000, ⟨Lc1000, hQ1000, l1000, y1000, z1000⟩, st1000⟩ := X973.virtualBack hx (y := (⟨"com/example/contexture/contexture/engine/evaluation/TruthValue$Tally", "xor", "()Lcom/example/contexture/contexture/engine/evaluation/TruthValue;"⟩ : MethodName)) (z := (⟨"com/example/contexture/contexture/engine/evaluation/TruthValue$Tally", "xor", "()Lcom/example/contexture/contexture/engine/evaluation/TruthValue;"⟩ : MethodName)) hown (mvT hZ (W 58 rfl)) (mvT hZ (W 59 rfl)) (notFace_of_selects (args := #[]) (mvT hZ (W 61 rfl))) (mvT hZ (W 61 rfl)) (mvT hZ (W 60 rfl)) (by decide) (backOf (W := 0) (rm_xor9_5 l Z a0 hw [] b120 a_UNKNOWN a_FALSE h901 n0 O901 G0 G4 J901_0 J901_1 J901_3) hZ (W 62 rfl) (W 14 rfl) (by decide) (by decide)) q1000a q1000c (g := (mkF m 330 #[iv p0, iv p1, iv p2, iv p3, iv (p0 &&& (3 : Int32)), iv mv, rv r_105, rv r_108, rv r_111, rv r_114, rv r_117, rv b120, iv (0 : Int32), iv (0 : Int32), iv (2 : Int32), rv a_UNKNOWN, rv a_UNKNOWN, rv a_UNKNOWN] [(.ref b120)])) rfl (by rw [hml]; rfl) (Steps.refl _) (argsL := []) (rest := []) (lenOf pd_16 rfl) rfl (by show 2 * 0 + _ ≤ _; exact Nat.le_of_eq rfl) (hb hby at_330) (fun _ _ => ⟨rfl, e973, (by decide : 1 + 0 ≤ _), (by decide : 3 + 0 ≤ _)⟩)
          dsimp only [Pt.U, Pt.locs, Pt.cells, Pt.slots] at X1000 l1000 y1000 z1000 st1000 hQ1000
          replace l1000 := l1000.symm
          replace y1000 : 1 = k1000 := y1000.symm
          replace z1000 : 3 = n1000 := z1000.symm
          subst l1000 y1000 z1000
          obtain ⟨rfl, M1000, e1000⟩ := hQ1000
          have N1000 := Fr.app N973 M1000
          have pre1025 : ∀ t, Steps p.tables e below (T1000.setTop (mkF m 333 #[iv p0, iv p1, iv p2, iv p3, iv (p0 &&& (3 : Int32)), iv mv, rv r_105, rv r_108, rv r_111, rv r_114, rv r_117, rv b120, iv (0 : Int32), iv (0 : Int32), iv (2 : Int32), rv a_UNKNOWN, rv a_UNKNOWN, rv a_UNKNOWN] [(.ref a_UNKNOWN)])) t → Steps p.tables e below (s₁.setTop (entryFrame m #[(.int p0), (.int p1), (.int p2), (.int p3)] maxLocals)) t := fun t kt => pre999 _ (st1000.trans kt)
          have pre1026 : ∀ t, Steps p.tables e below (T1000.setTop (mkF m 343 #[iv p0, iv p1, iv p2, iv p3, iv (p0 &&& (3 : Int32)), iv mv, rv r_105, rv r_108, rv r_111, rv r_114, rv r_117, rv b120, iv (0 : Int32), iv (0 : Int32), iv (2 : Int32), rv a_UNKNOWN, rv a_UNKNOWN, rv a_UNKNOWN] [(.int (1 : Int32))])) t → Steps p.tables e below (s₁.setTop (entryFrame m #[(.int p0), (.int p1), (.int p2), (.int p3)] maxLocals)) t := fun t kt => by
            refine pre1025 _ ?_
            show Steps p.tables e below (T1000.setTop (mkF m 333 #[iv p0, iv p1, iv p2, iv p3, iv (p0 &&& (3 : Int32)), iv mv, rv r_105, rv r_108, rv r_111, rv r_114, rv r_117, rv b120, iv (0 : Int32), iv (0 : Int32), iv (2 : Int32), rv a_UNKNOWN, rv a_UNKNOWN, rv a_UNKNOWN] [(.ref a_UNKNOWN)])) _
            refine XS.aload X1000.here hx rfl (hb hby at_333) rfl rfl ?_
            refine Jvm.RoadKit.acmp (g := (mkF m 335 #[iv p0, iv p1, iv p2, iv p3, iv (p0 &&& (3 : Int32)), iv mv, rv r_105, rv r_108, rv r_111, rv r_114, rv r_117, rv b120, iv (0 : Int32), iv (0 : Int32), iv (2 : Int32), rv a_UNKNOWN, rv a_UNKNOWN, rv a_UNKNOWN] [(.ref a_UNKNOWN), (.ref a_UNKNOWN)])) X1000 hx rfl rfl rfl (pc0 := 335) (pc' := 338) (same := true) rfl (hb hby at_335) rfl (decide_eq_true rfl) (by decide) (by decide) ?_
            refine XS.iconst X1000.here hx rfl (hb hby at_338) ?_
            refine XS.goto X1000.here hx rfl (pc0 := 339) (pc' := 343) rfl (hb hby at_339) (by decide) (by decide) ?_
            exact kt
          obtain ⟨fs, hr, hrun, hended, hW, hsame⟩ := X1000.leave (v := some (.int (1 : Int32))) (fun h => by rw [Bd.returns] at h; cases h)
          refine ⟨_, _, pre1026 _ (retN X1000 hx (t := .boolean) Bd.returns (by simp) (hb hby at_343) hr), hrun, hended, _, _, rfl, ?_, ⟨_, rfl⟩, hW, hsame.mono (by decide) (by decide)⟩
          show Q_law Z p0 p1 p2 p3 a_UNKNOWN a_TRUE a_FALSE h0 n0 _ T1000.heap _
          rw [e1000]
          exact ⟨rfl, N1000⟩
      · have pre1027 : ∀ t, Steps p.tables e below (T826.setTop (mkF m 142 #[iv p0, iv p1, iv p2, iv p3, iv (p0 &&& (3 : Int32)), iv mv, rv r_105, rv r_108, rv r_111, rv r_114, rv r_117, rv b120, iv (0 : Int32), iv (0 : Int32), iv (0 : Int32), .unset, .unset, .unset] [(.ref r_114)])) t → Steps p.tables e below (s₁.setTop (entryFrame m #[(.int p0), (.int p1), (.int p2), (.int p3)] maxLocals)) t := fun t kt => by
          refine pre828 _ ?_
          show Steps p.tables e below (T826.setTop (mkF m 116 #[iv p0, iv p1, iv p2, iv p3, iv (p0 &&& (3 : Int32)), iv mv, rv r_105, rv r_108, rv r_111, rv r_114, rv r_117, rv b120, .unset, .unset, .unset, .unset, .unset, .unset] [(.int (1 : Int32)), (.int mv)])) _
          refine XS.icmpYes X826.here hx rfl (pc0 := 116) (pc' := 126) rfl (hb hby at_116) rfl (XT.ii_le_t hc829) (by decide) (by decide) ?_
          refine XS.iconst X826.here hx rfl (hb hby at_126) ?_
          refine XS.istore X826.here hx rfl (hb hby at_127) rfl (l' := #[iv p0, iv p1, iv p2, iv p3, iv (p0 &&& (3 : Int32)), iv mv, rv r_105, rv r_108, rv r_111, rv r_114, rv r_117, rv b120, iv (0 : Int32), .unset, .unset, .unset, .unset, .unset]) rfl ?_
          refine XS.iconst X826.here hx rfl (hb hby at_129) ?_
          show Steps p.tables e below (T826.setTop (mkF m 130 #[iv p0, iv p1, iv p2, iv p3, iv (p0 &&& (3 : Int32)), iv mv, rv r_105, rv r_108, rv r_111, rv r_114, rv r_117, rv b120, iv (0 : Int32), .unset, .unset, .unset, .unset, .unset] [(.int (0 : Int32))])) _
          refine XS.istore X826.here hx rfl (hb hby at_130) rfl (l' := #[iv p0, iv p1, iv p2, iv p3, iv (p0 &&& (3 : Int32)), iv mv, rv r_105, rv r_108, rv r_111, rv r_114, rv r_117, rv b120, iv (0 : Int32), iv (0 : Int32), .unset, .unset, .unset, .unset]) rfl ?_
          refine XS.iconst X826.here hx rfl (hb hby at_132) ?_
          refine XS.istore X826.here hx rfl (hb hby at_133) rfl (l' := #[iv p0, iv p1, iv p2, iv p3, iv (p0 &&& (3 : Int32)), iv mv, rv r_105, rv r_108, rv r_111, rv r_114, rv r_117, rv b120, iv (0 : Int32), iv (0 : Int32), iv (0 : Int32), .unset, .unset, .unset]) rfl ?_
          refine XS.iload X826.here hx rfl (hb hby at_135) rfl ?_
          show Steps p.tables e below (T826.setTop (mkF m 137 #[iv p0, iv p1, iv p2, iv p3, iv (p0 &&& (3 : Int32)), iv mv, rv r_105, rv r_108, rv r_111, rv r_114, rv r_117, rv b120, iv (0 : Int32), iv (0 : Int32), iv (0 : Int32), .unset, .unset, .unset] [(.int mv)])) _
          refine XS.ifNo X826.here hx rfl (hb hby at_137) rfl (XT.i0_le_f hc209) ?_
          refine XS.aload X826.here hx rfl (hb hby at_140) rfl rfl ?_
          exact kt
        obtain ⟨T1028, X1028, e1028, st1028⟩ := getS2 X826 hx hZ hown (host := "") (Or.inl (W 8 rfl)) Via.refl e826 (G2.ext O826.2) (g := (mkF m 142 #[iv p0, iv p1, iv p2, iv p3, iv (p0 &&& (3 : Int32)), iv mv, rv r_105, rv r_108, rv r_111, rv r_114, rv r_117, rv b120, iv (0 : Int32), iv (0 : Int32), iv (0 : Int32), .unset, .unset, .unset] [(.ref r_114)])) rfl (hb hby at_142)
        have pre1029 : ∀ t, Steps p.tables e below (T1028.setTop (mkF m 145 #[iv p0, iv p1, iv p2, iv p3, iv (p0 &&& (3 : Int32)), iv mv, rv r_105, rv r_108, rv r_111, rv r_114, rv r_117, rv b120, iv (0 : Int32), iv (0 : Int32), iv (0 : Int32), .unset, .unset, .unset] [(.ref a_TRUE), (.ref r_114)])) t → Steps p.tables e below (s₁.setTop (entryFrame m #[(.int p0), (.int p1), (.int p2), (.int p3)] maxLocals)) t := fun t kt => pre1027 _ (st1028 _ kt)
        have pre1030 : ∀ t, Steps p.tables e below (T1028.setTop (mkF m 159 #[iv p0, iv p1, iv p2, iv p3, iv (p0 &&& (3 : Int32)), iv mv, rv r_105, rv r_108, rv r_111, rv r_114, rv r_117, rv b120, iv (0 : Int32), iv (0 : Int32), iv (0 : Int32), .unset, .unset, .unset] [(.ref r_114)])) t → Steps p.tables e below (s₁.setTop (entryFrame m #[(.int p0), (.int p1), (.int p2), (.int p3)] maxLocals)) t := fun t kt => by
          refine pre1029 _ ?_
          show Steps p.tables e below (T1028.setTop (mkF m 145 #[iv p0, iv p1, iv p2, iv p3, iv (p0 &&& (3 : Int32)), iv mv, rv r_105, rv r_108, rv r_111, rv r_114, rv r_117, rv b120, iv (0 : Int32), iv (0 : Int32), iv (0 : Int32), .unset, .unset, .unset] [(.ref a_TRUE), (.ref r_114)])) _
          refine Jvm.RoadKit.acmp (g := (mkF m 145 #[iv p0, iv p1, iv p2, iv p3, iv (p0 &&& (3 : Int32)), iv mv, rv r_105, rv r_108, rv r_111, rv r_114, rv r_117, rv b120, iv (0 : Int32), iv (0 : Int32), iv (0 : Int32), .unset, .unset, .unset] [(.ref a_TRUE), (.ref r_114)])) X1028 hx rfl rfl rfl (pc0 := 145) (pc' := 157) (same := false) rfl (hb hby at_145) rfl (decide_eq_false fun q => (fun z => (fun q => ne_a_TRUE_a_UNKNOWN q.symm) (hv211.symm.trans z)) (Value.ref.inj q)) (by decide) (by decide) ?_
          refine XS.aload X1028.here hx rfl (hb hby at_157) rfl rfl ?_
          exact kt
        obtain ⟨T1031, X1031, e1031, st1031⟩ := getS2 X1028 hx hZ hown (host := "") (Or.inl (W 10 rfl)) Via.refl e1028 (G4.ext O826.2) (g := (mkF m 159 #[iv p0, iv p1, iv p2, iv p3, iv (p0 &&& (3 : Int32)), iv mv, rv r_105, rv r_108, rv r_111, rv r_114, rv r_117, rv b120, iv (0 : Int32), iv (0 : Int32), iv (0 : Int32), .unset, .unset, .unset] [(.ref r_114)])) rfl (hb hby at_159)
        have pre1032 : ∀ t, Steps p.tables e below (T1031.setTop (mkF m 162 #[iv p0, iv p1, iv p2, iv p3, iv (p0 &&& (3 : Int32)), iv mv, rv r_105, rv r_108, rv r_111, rv r_114, rv r_117, rv b120, iv (0 : Int32), iv (0 : Int32), iv (0 : Int32), .unset, .unset, .unset] [(.ref a_FALSE), (.ref r_114)])) t → Steps p.tables e below (s₁.setTop (entryFrame m #[(.int p0), (.int p1), (.int p2), (.int p3)] maxLocals)) t := fun t kt => pre1030 _ (st1031 _ kt)
        have pre1033 : ∀ t, Steps p.tables e below (T1031.setTop (mkF m 242 #[iv p0, iv p1, iv p2, iv p3, iv (p0 &&& (3 : Int32)), iv mv, rv r_105, rv r_108, rv r_111, rv r_114, rv r_117, rv b120, iv (0 : Int32), iv (0 : Int32), iv (1 : Int32), .unset, .unset, .unset] [])) t → Steps p.tables e below (s₁.setTop (entryFrame m #[(.int p0), (.int p1), (.int p2), (.int p3)] maxLocals)) t := fun t kt => by
          refine pre1032 _ ?_
          show Steps p.tables e below (T1031.setTop (mkF m 162 #[iv p0, iv p1, iv p2, iv p3, iv (p0 &&& (3 : Int32)), iv mv, rv r_105, rv r_108, rv r_111, rv r_114, rv r_117, rv b120, iv (0 : Int32), iv (0 : Int32), iv (0 : Int32), .unset, .unset, .unset] [(.ref a_FALSE), (.ref r_114)])) _
          refine Jvm.RoadKit.acmp (g := (mkF m 162 #[iv p0, iv p1, iv p2, iv p3, iv (p0 &&& (3 : Int32)), iv mv, rv r_105, rv r_108, rv r_111, rv r_114, rv r_117, rv b120, iv (0 : Int32), iv (0 : Int32), iv (0 : Int32), .unset, .unset, .unset] [(.ref a_FALSE), (.ref r_114)])) X1031 hx rfl rfl rfl (pc0 := 162) (pc' := 174) (same := false) rfl (hb hby at_162) rfl (decide_eq_false fun q => (fun z => (fun q => ne_a_FALSE_a_UNKNOWN q.symm) (hv211.symm.trans z)) (Value.ref.inj q)) (by decide) (by decide) ?_
          refine XS.iload X1031.here hx rfl (hb hby at_174) rfl ?_
          refine XS.iconst X1031.here hx rfl (hb hby at_176) ?_
          refine XS.iadd X1031.here hx rfl (hb hby at_177) rfl ?_
          show  Steps p.tables e below (T1031.setTop (mkF m 178 #[iv p0, iv p1, iv p2, iv p3, iv (p0 &&& (3 : Int32)), iv mv, rv r_105, rv r_108, rv r_111, rv r_114, rv r_117, rv b120, iv (0 : Int32), iv (0 : Int32), iv (0 : Int32), .unset, .unset, .unset] [(.int ((0 : Int32) + (1 : Int32)))])) _
          rw [(by decide : (((0 : Int32) + (1 : Int32)) : Int32) = (1 : Int32))]
          show Steps p.tables e below (T1031.setTop (mkF m 178 #[iv p0, iv p1, iv p2, iv p3, iv (p0 &&& (3 : Int32)), iv mv, rv r_105, rv r_108, rv r_111, rv r_114, rv r_117, rv b120, iv (0 : Int32), iv (0 : Int32), iv (0 : Int32), .unset, .unset, .unset] [(.int (1 : Int32))])) _
          refine XS.istore X1031.here hx rfl (hb hby at_178) rfl (l' := #[iv p0, iv p1, iv p2, iv p3, iv (p0 &&& (3 : Int32)), iv mv, rv r_105, rv r_108, rv r_111, rv r_114, rv r_117, rv b120, iv (0 : Int32), iv (0 : Int32), iv (1 : Int32), .unset, .unset, .unset]) rfl ?_
          refine XS.iload X1031.here hx rfl (hb hby at_180) rfl ?_
          refine XS.iconst X1031.here hx rfl (hb hby at_182) ?_
          refine XS.icmpYes X1031.here hx rfl (pc0 := 183) (pc' := 226) rfl (hb hby at_183) rfl (XT.ii_le_t hc829) (by decide) (by decide) ?_
          show Steps p.tables e below (T1031.setTop (mkF m 226 #[iv p0, iv p1, iv p2, iv p3, iv (p0 &&& (3 : Int32)), iv mv, rv r_105, rv r_108, rv r_111, rv r_114, rv r_117, rv b120, iv (0 : Int32), iv (0 : Int32), iv (1 : Int32), .unset, .unset, .unset] [])) _
          refine XS.iload X1031.here hx rfl (hb hby at_226) rfl ?_
          refine XS.ifYes X1031.here hx rfl (pc0 := 228) (pc' := 237) rfl (hb hby at_228) rfl (XT.i0_le_t (by decide)) (by decide) (by decide) ?_
          refine XS.iload X1031.here hx rfl (hb hby at_237) rfl ?_
          refine XS.ifNo X1031.here hx rfl (hb hby at_239) rfl (XT.i0_le_f (by decide)) ?_
          exact kt
        obtain ⟨T1034, X1034, e1034, st1034⟩ := getS2 X1031 hx hZ hown (host := "") (Or.inl (W 5 rfl)) Via.refl e1031 (G0.ext O826.2) (g := (mkF m 242 #[iv p0, iv p1, iv p2, iv p3, iv (p0 &&& (3 : Int32)), iv mv, rv r_105, rv r_108, rv r_111, rv r_114, rv r_117, rv b120, iv (0 : Int32), iv (0 : Int32), iv (1 : Int32), .unset, .unset, .unset] [])) rfl (hb hby at_242)
        have pre1035 : ∀ t, Steps p.tables e below (T1034.setTop (mkF m 245 #[iv p0, iv p1, iv p2, iv p3, iv (p0 &&& (3 : Int32)), iv mv, rv r_105, rv r_108, rv r_111, rv r_114, rv r_117, rv b120, iv (0 : Int32), iv (0 : Int32), iv (1 : Int32), .unset, .unset, .unset] [(.ref a_UNKNOWN)])) t → Steps p.tables e below (s₁.setTop (entryFrame m #[(.int p0), (.int p1), (.int p2), (.int p3)] maxLocals)) t := fun t kt => pre1033 _ (st1034 _ kt)
        have pre1036 : ∀ t, Steps p.tables e below (T1034.setTop (mkF m 269 #[iv p0, iv p1, iv p2, iv p3, iv (p0 &&& (3 : Int32)), iv mv, rv r_105, rv r_108, rv r_111, rv r_114, rv r_117, rv b120, iv (0 : Int32), iv (0 : Int32), iv (1 : Int32), rv a_UNKNOWN, .unset, .unset] [])) t → Steps p.tables e below (s₁.setTop (entryFrame m #[(.int p0), (.int p1), (.int p2), (.int p3)] maxLocals)) t := fun t kt => by
          refine pre1035 _ ?_
          show Steps p.tables e below (T1034.setTop (mkF m 245 #[iv p0, iv p1, iv p2, iv p3, iv (p0 &&& (3 : Int32)), iv mv, rv r_105, rv r_108, rv r_111, rv r_114, rv r_117, rv b120, iv (0 : Int32), iv (0 : Int32), iv (1 : Int32), .unset, .unset, .unset] [(.ref a_UNKNOWN)])) _
          refine XS.goto X1034.here hx rfl (pc0 := 245) (pc' := 251) rfl (hb hby at_245) (by decide) (by decide) ?_
          refine XS.astore X1034.here hx rfl (hb hby at_251) rfl rfl (l' := #[iv p0, iv p1, iv p2, iv p3, iv (p0 &&& (3 : Int32)), iv mv, rv r_105, rv r_108, rv r_111, rv r_114, rv r_117, rv b120, iv (0 : Int32), iv (0 : Int32), iv (1 : Int32), rv a_UNKNOWN, .unset, .unset]) rfl ?_
          refine XS.iload X1034.here hx rfl (hb hby at_253) rfl ?_
          refine XS.ifYes X1034.here hx rfl (pc0 := 255) (pc' := 264) rfl (hb hby at_255) rfl (XT.i0_le_t (by decide)) (by decide) (by decide) ?_
          show Steps p.tables e below (T1034.setTop (mkF m 264 #[iv p0, iv p1, iv p2, iv p3, iv (p0 &&& (3 : Int32)), iv mv, rv r_105, rv r_108, rv r_111, rv r_114, rv r_117, rv b120, iv (0 : Int32), iv (0 : Int32), iv (1 : Int32), rv a_UNKNOWN, .unset, .unset] [])) _
          refine XS.iload X1034.here hx rfl (hb hby at_264) rfl ?_
          refine XS.ifNo X1034.here hx rfl (hb hby at_266) rfl (XT.i0_le_f (by decide)) ?_
          exact kt
        obtain ⟨T1037, X1037, e1037, st1037⟩ := getS2 X1034 hx hZ hown (host := "") (Or.inl (W 5 rfl)) Via.refl e1034 (G0.ext O826.2) (g := (mkF m 269 #[iv p0, iv p1, iv p2, iv p3, iv (p0 &&& (3 : Int32)), iv mv, rv r_105, rv r_108, rv r_111, rv r_114, rv r_117, rv b120, iv (0 : Int32), iv (0 : Int32), iv (1 : Int32), rv a_UNKNOWN, .unset, .unset] [])) rfl (hb hby at_269)
        have pre1038 : ∀ t, Steps p.tables e below (T1037.setTop (mkF m 272 #[iv p0, iv p1, iv p2, iv p3, iv (p0 &&& (3 : Int32)), iv mv, rv r_105, rv r_108, rv r_111, rv r_114, rv r_117, rv b120, iv (0 : Int32), iv (0 : Int32), iv (1 : Int32), rv a_UNKNOWN, .unset, .unset] [(.ref a_UNKNOWN)])) t → Steps p.tables e below (s₁.setTop (entryFrame m #[(.int p0), (.int p1), (.int p2), (.int p3)] maxLocals)) t := fun t kt => pre1036 _ (st1037 _ kt)
        have pre1039 : ∀ t, Steps p.tables e below (T1037.setTop (mkF m 285 #[iv p0, iv p1, iv p2, iv p3, iv (p0 &&& (3 : Int32)), iv mv, rv r_105, rv r_108, rv r_111, rv r_114, rv r_117, rv b120, iv (0 : Int32), iv (0 : Int32), iv (1 : Int32), rv a_UNKNOWN, rv a_UNKNOWN, .unset] [])) t → Steps p.tables e below (s₁.setTop (entryFrame m #[(.int p0), (.int p1), (.int p2), (.int p3)] maxLocals)) t := fun t kt => by
          refine pre1038 _ ?_
          show Steps p.tables e below (T1037.setTop (mkF m 272 #[iv p0, iv p1, iv p2, iv p3, iv (p0 &&& (3 : Int32)), iv mv, rv r_105, rv r_108, rv r_111, rv r_114, rv r_117, rv b120, iv (0 : Int32), iv (0 : Int32), iv (1 : Int32), rv a_UNKNOWN, .unset, .unset] [(.ref a_UNKNOWN)])) _
          refine XS.goto X1037.here hx rfl (pc0 := 272) (pc' := 278) rfl (hb hby at_272) (by decide) (by decide) ?_
          refine XS.astore X1037.here hx rfl (hb hby at_278) rfl rfl (l' := #[iv p0, iv p1, iv p2, iv p3, iv (p0 &&& (3 : Int32)), iv mv, rv r_105, rv r_108, rv r_111, rv r_114, rv r_117, rv b120, iv (0 : Int32), iv (0 : Int32), iv (1 : Int32), rv a_UNKNOWN, rv a_UNKNOWN, .unset]) rfl ?_
          refine XS.iload X1037.here hx rfl (hb hby at_280) rfl ?_
          refine XS.ifNo X1037.here hx rfl (hb hby at_282) rfl (XT.i0_le_f (by decide)) ?_
          exact kt
        obtain ⟨T1040, X1040, e1040, st1040⟩ := getS2 X1037 hx hZ hown (host := "") (Or.inl (W 5 rfl)) Via.refl e1037 (G0.ext O826.2) (g := (mkF m 285 #[iv p0, iv p1, iv p2, iv p3, iv (p0 &&& (3 : Int32)), iv mv, rv r_105, rv r_108, rv r_111, rv r_114, rv r_117, rv b120, iv (0 : Int32), iv (0 : Int32), iv (1 : Int32), rv a_UNKNOWN, rv a_UNKNOWN, .unset] [])) rfl (hb hby at_285)
        have pre1041 : ∀ t, Steps p.tables e below (T1040.setTop (mkF m 288 #[iv p0, iv p1, iv p2, iv p3, iv (p0 &&& (3 : Int32)), iv mv, rv r_105, rv r_108, rv r_111, rv r_114, rv r_117, rv b120, iv (0 : Int32), iv (0 : Int32), iv (1 : Int32), rv a_UNKNOWN, rv a_UNKNOWN, .unset] [(.ref a_UNKNOWN)])) t → Steps p.tables e below (s₁.setTop (entryFrame m #[(.int p0), (.int p1), (.int p2), (.int p3)] maxLocals)) t := fun t kt => pre1039 _ (st1040 _ kt)
        have pre1042 : ∀ t, Steps p.tables e below (T1040.setTop (mkF m 310 #[iv p0, iv p1, iv p2, iv p3, iv (p0 &&& (3 : Int32)), iv mv, rv r_105, rv r_108, rv r_111, rv r_114, rv r_117, rv b120, iv (0 : Int32), iv (0 : Int32), iv (1 : Int32), rv a_UNKNOWN, rv a_UNKNOWN, rv a_UNKNOWN] [(.ref b120)])) t → Steps p.tables e below (s₁.setTop (entryFrame m #[(.int p0), (.int p1), (.int p2), (.int p3)] maxLocals)) t := fun t kt => by
          refine pre1041 _ ?_
          show Steps p.tables e below (T1040.setTop (mkF m 288 #[iv p0, iv p1, iv p2, iv p3, iv (p0 &&& (3 : Int32)), iv mv, rv r_105, rv r_108, rv r_111, rv r_114, rv r_117, rv b120, iv (0 : Int32), iv (0 : Int32), iv (1 : Int32), rv a_UNKNOWN, rv a_UNKNOWN, .unset] [(.ref a_UNKNOWN)])) _
          refine XS.goto X1040.here hx rfl (pc0 := 288) (pc' := 306) rfl (hb hby at_288) (by decide) (by decide) ?_
          refine XS.astore X1040.here hx rfl (hb hby at_306) rfl rfl (l' := #[iv p0, iv p1, iv p2, iv p3, iv (p0 &&& (3 : Int32)), iv mv, rv r_105, rv r_108, rv r_111, rv r_114, rv r_117, rv b120, iv (0 : Int32), iv (0 : Int32), iv (1 : Int32), rv a_UNKNOWN, rv a_UNKNOWN, rv a_UNKNOWN]) rfl ?_
          refine XS.aload X1040.here hx rfl (hb hby at_308) rfl rfl ?_
          exact kt
        obtain ⟨cq1043, kq1043, q1043a, q1043b, q1043c⟩ := isOf hZ e1040 J826_0
        obtain ⟨_, _, ⟨T1043, L1043, k1043, n1043⟩, -, X1043, ⟨Lc1043, hQ1043, l1043, y1043, z1043⟩, st1043⟩ := X1040.virtualBack hx (y := (⟨"com/example/contexture/contexture/engine/evaluation/TruthValue$Tally", "and", "()Lcom/example/contexture/contexture/engine/evaluation/TruthValue;"⟩ : MethodName)) (z := (⟨"com/example/contexture/contexture/engine/evaluation/TruthValue$Tally", "and", "()Lcom/example/contexture/contexture/engine/evaluation/TruthValue;"⟩ : MethodName)) hown (mvT hZ (W 46 rfl)) (mvT hZ (W 47 rfl)) (notFace_of_selects (args := #[]) (mvT hZ (W 49 rfl))) (mvT hZ (W 49 rfl)) (mvT hZ (W 48 rfl)) (by decide) (backOf (W := 0) (rm_and7_2 l Z a0 hw [] b120 a_UNKNOWN a_TRUE h826 n0 O826 G0 G2 J826_0 J826_2 J826_3) hZ (W 50 rfl) (W 14 rfl) (by decide) (by decide)) q1043a q1043c (g := (mkF m 310 #[iv p0, iv p1, iv p2, iv p3, iv (p0 &&& (3 : Int32)), iv mv, rv r_105, rv r_108, rv r_111, rv r_114, rv r_117, rv b120, iv (0 : Int32), iv (0 : Int32), iv (1 : Int32), rv a_UNKNOWN, rv a_UNKNOWN, rv a_UNKNOWN] [(.ref b120)])) rfl (by rw [hml]; rfl) (Steps.refl _) (argsL := []) (rest := []) (lenOf pd_16 rfl) rfl (by show 2 * 0 + _ ≤ _; exact Nat.le_of_eq rfl) (hb hby at_310) (fun _ _ => ⟨rfl, e1040, (by decide : 1 + 0 ≤ _), (by decide : 3 + 0 ≤ _)⟩)
        dsimp only [Pt.U, Pt.locs, Pt.cells, Pt.slots] at X1043 l1043 y1043 z1043 st1043 hQ1043
        replace l1043 := l1043.symm
        replace y1043 : 1 = k1043 := y1043.symm
        replace z1043 : 3 = n1043 := z1043.symm
        subst l1043 y1043 z1043
        obtain ⟨rfl, M1043, e1043⟩ := hQ1043
        have N1043 := Fr.app N826 M1043
        have pre1044 : ∀ t, Steps p.tables e below (T1043.setTop (mkF m 313 #[iv p0, iv p1, iv p2, iv p3, iv (p0 &&& (3 : Int32)), iv mv, rv r_105, rv r_108, rv r_111, rv r_114, rv r_117, rv b120, iv (0 : Int32), iv (0 : Int32), iv (1 : Int32), rv a_UNKNOWN, rv a_UNKNOWN, rv a_UNKNOWN] [(.ref a_UNKNOWN)])) t → Steps p.tables e below (s₁.setTop (entryFrame m #[(.int p0), (.int p1), (.int p2), (.int p3)] maxLocals)) t := fun t kt => pre1042 _ (st1043.trans kt)
        have pre1045 : ∀ t, Steps p.tables e below (T1043.setTop (mkF m 320 #[iv p0, iv p1, iv p2, iv p3, iv (p0 &&& (3 : Int32)), iv mv, rv r_105, rv r_108, rv r_111, rv r_114, rv r_117, rv b120, iv (0 : Int32), iv (0 : Int32), iv (1 : Int32), rv a_UNKNOWN, rv a_UNKNOWN, rv a_UNKNOWN] [(.ref b120)])) t → Steps p.tables e below (s₁.setTop (entryFrame m #[(.int p0), (.int p1), (.int p2), (.int p3)] maxLocals)) t := fun t kt => by
          refine pre1044 _ ?_
          show Steps p.tables e below (T1043.setTop (mkF m 313 #[iv p0, iv p1, iv p2, iv p3, iv (p0 &&& (3 : Int32)), iv mv, rv r_105, rv r_108, rv r_111, rv r_114, rv r_117, rv b120, iv (0 : Int32), iv (0 : Int32), iv (1 : Int32), rv a_UNKNOWN, rv a_UNKNOWN, rv a_UNKNOWN] [(.ref a_UNKNOWN)])) _
          refine XS.aload X1043.here hx rfl (hb hby at_313) rfl rfl ?_
          refine Jvm.RoadKit.acmp (g := (mkF m 315 #[iv p0, iv p1, iv p2, iv p3, iv (p0 &&& (3 : Int32)), iv mv, rv r_105, rv r_108, rv r_111, rv r_114, rv r_117, rv b120, iv (0 : Int32), iv (0 : Int32), iv (1 : Int32), rv a_UNKNOWN, rv a_UNKNOWN, rv a_UNKNOWN] [(.ref a_UNKNOWN), (.ref a_UNKNOWN)])) X1043 hx rfl rfl rfl (pc0 := 315) (pc' := 318) (same := true) rfl (hb hby at_315) rfl (decide_eq_true rfl) (by decide) (by decide) ?_
          refine XS.aload X1043.here hx rfl (hb hby at_318) rfl rfl ?_
          exact kt
        obtain ⟨cq1046, kq1046, q1046a, q1046b, q1046c⟩ := isOf hZ e1043 J826_0
        obtain ⟨_, _, ⟨T1046, L1046, k1046, n1046⟩, -, X1046, ⟨Lc1046, hQ1046, l1046, y1046, z1046⟩, st1046⟩ := X1043.virtualBack hx (y := (⟨"com/example/contexture/contexture/engine/evaluation/TruthValue$Tally", "or", "()Lcom/example/contexture/contexture/engine/evaluation/TruthValue;"⟩ : MethodName)) (z := (⟨"com/example/contexture/contexture/engine/evaluation/TruthValue$Tally", "or", "()Lcom/example/contexture/contexture/engine/evaluation/TruthValue;"⟩ : MethodName)) hown (mvT hZ (W 52 rfl)) (mvT hZ (W 53 rfl)) (notFace_of_selects (args := #[]) (mvT hZ (W 55 rfl))) (mvT hZ (W 55 rfl)) (mvT hZ (W 54 rfl)) (by decide) (backOf (W := 0) (rm_or8_3 l Z a0 hw [] b120 a_UNKNOWN a_FALSE h826 n0 O826 G0 G4 J826_0 J826_1 J826_3) hZ (W 56 rfl) (W 14 rfl) (by decide) (by decide)) q1046a q1046c (g := (mkF m 320 #[iv p0, iv p1, iv p2, iv p3, iv (p0 &&& (3 : Int32)), iv mv, rv r_105, rv r_108, rv r_111, rv r_114, rv r_117, rv b120, iv (0 : Int32), iv (0 : Int32), iv (1 : Int32), rv a_UNKNOWN, rv a_UNKNOWN, rv a_UNKNOWN] [(.ref b120)])) rfl (by rw [hml]; rfl) (Steps.refl _) (argsL := []) (rest := []) (lenOf pd_16 rfl) rfl (by show 2 * 0 + _ ≤ _; exact Nat.le_of_eq rfl) (hb hby at_320) (fun _ _ => ⟨rfl, e1043, (by decide : 1 + 0 ≤ _), (by decide : 3 + 0 ≤ _)⟩)
        dsimp only [Pt.U, Pt.locs, Pt.cells, Pt.slots] at X1046 l1046 y1046 z1046 st1046 hQ1046
        replace l1046 := l1046.symm
        replace y1046 : 1 = k1046 := y1046.symm
        replace z1046 : 3 = n1046 := z1046.symm
        subst l1046 y1046 z1046
        obtain ⟨rfl, M1046, e1046⟩ := hQ1046
        have N1046 := Fr.app N1043 M1046
        have pre1047 : ∀ t, Steps p.tables e below (T1046.setTop (mkF m 323 #[iv p0, iv p1, iv p2, iv p3, iv (p0 &&& (3 : Int32)), iv mv, rv r_105, rv r_108, rv r_111, rv r_114, rv r_117, rv b120, iv (0 : Int32), iv (0 : Int32), iv (1 : Int32), rv a_UNKNOWN, rv a_UNKNOWN, rv a_UNKNOWN] [(.ref a_UNKNOWN)])) t → Steps p.tables e below (s₁.setTop (entryFrame m #[(.int p0), (.int p1), (.int p2), (.int p3)] maxLocals)) t := fun t kt => pre1045 _ (st1046.trans kt)
        have pre1048 : ∀ t, Steps p.tables e below (T1046.setTop (mkF m 330 #[iv p0, iv p1, iv p2, iv p3, iv (p0 &&& (3 : Int32)), iv mv, rv r_105, rv r_108, rv r_111, rv r_114, rv r_117, rv b120, iv (0 : Int32), iv (0 : Int32), iv (1 : Int32), rv a_UNKNOWN, rv a_UNKNOWN, rv a_UNKNOWN] [(.ref b120)])) t → Steps p.tables e below (s₁.setTop (entryFrame m #[(.int p0), (.int p1), (.int p2), (.int p3)] maxLocals)) t := fun t kt => by
          refine pre1047 _ ?_
          show Steps p.tables e below (T1046.setTop (mkF m 323 #[iv p0, iv p1, iv p2, iv p3, iv (p0 &&& (3 : Int32)), iv mv, rv r_105, rv r_108, rv r_111, rv r_114, rv r_117, rv b120, iv (0 : Int32), iv (0 : Int32), iv (1 : Int32), rv a_UNKNOWN, rv a_UNKNOWN, rv a_UNKNOWN] [(.ref a_UNKNOWN)])) _
          refine XS.aload X1046.here hx rfl (hb hby at_323) rfl rfl ?_
          refine Jvm.RoadKit.acmp (g := (mkF m 325 #[iv p0, iv p1, iv p2, iv p3, iv (p0 &&& (3 : Int32)), iv mv, rv r_105, rv r_108, rv r_111, rv r_114, rv r_117, rv b120, iv (0 : Int32), iv (0 : Int32), iv (1 : Int32), rv a_UNKNOWN, rv a_UNKNOWN, rv a_UNKNOWN] [(.ref a_UNKNOWN), (.ref a_UNKNOWN)])) X1046 hx rfl rfl rfl (pc0 := 325) (pc' := 328) (same := true) rfl (hb hby at_325) rfl (decide_eq_true rfl) (by decide) (by decide) ?_
          refine XS.aload X1046.here hx rfl (hb hby at_328) rfl rfl ?_
          exact kt
        obtain ⟨cq1049, kq1049, q1049a, q1049b, q1049c⟩ := isOf hZ e1046 J826_0
        obtain ⟨_, _, ⟨T1049, L1049, k1049, n1049⟩, -, X1049, ⟨Lc1049, hQ1049, l1049, y1049, z1049⟩, st1049⟩ := X1046.virtualBack hx (y := (⟨"com/example/contexture/contexture/engine/evaluation/TruthValue$Tally", "xor", "()Lcom/example/contexture/contexture/engine/evaluation/TruthValue;"⟩ : MethodName)) (z := (⟨"com/example/contexture/contexture/engine/evaluation/TruthValue$Tally", "xor", "()Lcom/example/contexture/contexture/engine/evaluation/TruthValue;"⟩ : MethodName)) hown (mvT hZ (W 58 rfl)) (mvT hZ (W 59 rfl)) (notFace_of_selects (args := #[]) (mvT hZ (W 61 rfl))) (mvT hZ (W 61 rfl)) (mvT hZ (W 60 rfl)) (by decide) (backOf (W := 0) (rm_xor9_4 l Z a0 hw [] b120 a_UNKNOWN a_FALSE h826 n0 O826 G0 G4 J826_0 J826_1 J826_3) hZ (W 62 rfl) (W 14 rfl) (by decide) (by decide)) q1049a q1049c (g := (mkF m 330 #[iv p0, iv p1, iv p2, iv p3, iv (p0 &&& (3 : Int32)), iv mv, rv r_105, rv r_108, rv r_111, rv r_114, rv r_117, rv b120, iv (0 : Int32), iv (0 : Int32), iv (1 : Int32), rv a_UNKNOWN, rv a_UNKNOWN, rv a_UNKNOWN] [(.ref b120)])) rfl (by rw [hml]; rfl) (Steps.refl _) (argsL := []) (rest := []) (lenOf pd_16 rfl) rfl (by show 2 * 0 + _ ≤ _; exact Nat.le_of_eq rfl) (hb hby at_330) (fun _ _ => ⟨rfl, e1046, (by decide : 1 + 0 ≤ _), (by decide : 3 + 0 ≤ _)⟩)
        dsimp only [Pt.U, Pt.locs, Pt.cells, Pt.slots] at X1049 l1049 y1049 z1049 st1049 hQ1049
        replace l1049 := l1049.symm
        replace y1049 : 1 = k1049 := y1049.symm
        replace z1049 : 3 = n1049 := z1049.symm
        subst l1049 y1049 z1049
        obtain ⟨rfl, M1049, e1049⟩ := hQ1049
        have N1049 := Fr.app N1046 M1049
        have pre1050 : ∀ t, Steps p.tables e below (T1049.setTop (mkF m 333 #[iv p0, iv p1, iv p2, iv p3, iv (p0 &&& (3 : Int32)), iv mv, rv r_105, rv r_108, rv r_111, rv r_114, rv r_117, rv b120, iv (0 : Int32), iv (0 : Int32), iv (1 : Int32), rv a_UNKNOWN, rv a_UNKNOWN, rv a_UNKNOWN] [(.ref a_UNKNOWN)])) t → Steps p.tables e below (s₁.setTop (entryFrame m #[(.int p0), (.int p1), (.int p2), (.int p3)] maxLocals)) t := fun t kt => pre1048 _ (st1049.trans kt)
        have pre1051 : ∀ t, Steps p.tables e below (T1049.setTop (mkF m 343 #[iv p0, iv p1, iv p2, iv p3, iv (p0 &&& (3 : Int32)), iv mv, rv r_105, rv r_108, rv r_111, rv r_114, rv r_117, rv b120, iv (0 : Int32), iv (0 : Int32), iv (1 : Int32), rv a_UNKNOWN, rv a_UNKNOWN, rv a_UNKNOWN] [(.int (1 : Int32))])) t → Steps p.tables e below (s₁.setTop (entryFrame m #[(.int p0), (.int p1), (.int p2), (.int p3)] maxLocals)) t := fun t kt => by
          refine pre1050 _ ?_
          show Steps p.tables e below (T1049.setTop (mkF m 333 #[iv p0, iv p1, iv p2, iv p3, iv (p0 &&& (3 : Int32)), iv mv, rv r_105, rv r_108, rv r_111, rv r_114, rv r_117, rv b120, iv (0 : Int32), iv (0 : Int32), iv (1 : Int32), rv a_UNKNOWN, rv a_UNKNOWN, rv a_UNKNOWN] [(.ref a_UNKNOWN)])) _
          refine XS.aload X1049.here hx rfl (hb hby at_333) rfl rfl ?_
          refine Jvm.RoadKit.acmp (g := (mkF m 335 #[iv p0, iv p1, iv p2, iv p3, iv (p0 &&& (3 : Int32)), iv mv, rv r_105, rv r_108, rv r_111, rv r_114, rv r_117, rv b120, iv (0 : Int32), iv (0 : Int32), iv (1 : Int32), rv a_UNKNOWN, rv a_UNKNOWN, rv a_UNKNOWN] [(.ref a_UNKNOWN), (.ref a_UNKNOWN)])) X1049 hx rfl rfl rfl (pc0 := 335) (pc' := 338) (same := true) rfl (hb hby at_335) rfl (decide_eq_true rfl) (by decide) (by decide) ?_
          refine XS.iconst X1049.here hx rfl (hb hby at_338) ?_
          refine XS.goto X1049.here hx rfl (pc0 := 339) (pc' := 343) rfl (hb hby at_339) (by decide) (by decide) ?_
          exact kt
        obtain ⟨fs, hr, hrun, hended, hW, hsame⟩ := X1049.leave (v := some (.int (1 : Int32))) (fun h => by rw [Bd.returns] at h; cases h)
        refine ⟨_, _, pre1051 _ (retN X1049 hx (t := .boolean) Bd.returns (by simp) (hb hby at_343) hr), hrun, hended, _, _, rfl, ?_, ⟨_, rfl⟩, hW, hsame.mono (by decide) (by decide)⟩
        show Q_law Z p0 p1 p2 p3 a_UNKNOWN a_TRUE a_FALSE h0 n0 _ T1049.heap _
        rw [e1049]
        exact ⟨rfl, N1049⟩
  · have pre1052 : ∀ t, Steps p.tables e below (T206.setTop (mkF m 116 #[iv p0, iv p1, iv p2, iv p3, iv (p0 &&& (3 : Int32)), iv mv, rv r_105, rv r_108, rv r_111, rv r_114, rv r_117, rv b120, .unset, .unset, .unset, .unset, .unset, .unset] [(.int (1 : Int32)), (.int mv)])) t → Steps p.tables e below (s₁.setTop (entryFrame m #[(.int p0), (.int p1), (.int p2), (.int p3)] maxLocals)) t := fun t kt => by
      refine pre208 _ ?_
      show Steps p.tables e below (T206.setTop (mkF m 103 #[iv p0, iv p1, iv p2, iv p3, iv (p0 &&& (3 : Int32)), iv mv, rv r_105, rv r_108, rv r_111, rv r_114, rv r_117, rv b120, .unset, .unset, .unset, .unset, .unset, .unset] [(.int mv)])) _
      refine XS.ifYes X206.here hx rfl (pc0 := 103) (pc' := 113) rfl (hb hby at_103) rfl (XT.i0_le_t hc209) (by decide) (by decide) ?_
      refine XS.iload X206.here hx rfl (hb hby at_113) rfl ?_
      refine XS.iconst X206.here hx rfl (hb hby at_115) ?_
      exact kt
    by_cases hc1053 : (1 : Int32) < mv
    · have pre1054 : ∀ t, Steps p.tables e below (T206.setTop (mkF m 123 #[iv p0, iv p1, iv p2, iv p3, iv (p0 &&& (3 : Int32)), iv mv, rv r_105, rv r_108, rv r_111, rv r_114, rv r_117, rv b120, .unset, .unset, .unset, .unset, .unset, .unset] [(.ref r_117), (.ref b120)])) t → Steps p.tables e below (s₁.setTop (entryFrame m #[(.int p0), (.int p1), (.int p2), (.int p3)] maxLocals)) t := fun t kt => by
        refine pre1052 _ ?_
        show Steps p.tables e below (T206.setTop (mkF m 116 #[iv p0, iv p1, iv p2, iv p3, iv (p0 &&& (3 : Int32)), iv mv, rv r_105, rv r_108, rv r_111, rv r_114, rv r_117, rv b120, .unset, .unset, .unset, .unset, .unset, .unset] [(.int (1 : Int32)), (.int mv)])) _
        refine XS.icmpNo X206.here hx rfl (hb hby at_116) rfl (XT.ii_le_f hc1053) ?_
        refine XS.aload X206.here hx rfl (hb hby at_119) rfl rfl ?_
        refine XS.aload X206.here hx rfl (hb hby at_121) rfl rfl ?_
        exact kt
      rcases P117_0 with hv1055 | hv1055 | hv1055
      · have Gr1056 : Exa Z Z.heap r_117 "com/example/contexture/contexture/engine/evaluation/TruthValue" := hv1055 ▸ G3
        have Gr1057 : Fld Z Z.heap r_117 "java/lang/Enum" "ordinal" "I" (.int (0 : Int32)) := hv1055 ▸ G7
        obtain ⟨cq1058, kq1058, q1058a, q1058b, q1058c⟩ := isOf hZ e206 J206_0
        obtain ⟨_, _, ⟨T1058, L1058, k1058, n1058⟩, -, X1058, ⟨Lc1058, hQ1058, l1058, y1058, z1058⟩, st1058⟩ := X206.virtualBack hx (y := (⟨"com/example/contexture/contexture/engine/evaluation/TruthValue$Tally", "add", "(Lcom/example/contexture/contexture/engine/evaluation/TruthValue;)V"⟩ : MethodName)) (z := (⟨"com/example/contexture/contexture/engine/evaluation/TruthValue$Tally", "add", "(Lcom/example/contexture/contexture/engine/evaluation/TruthValue;)V"⟩ : MethodName)) hown (mvT hZ (W 32 rfl)) (mvT hZ (W 33 rfl)) (notFace_of_selects (args := #[]) (mvT hZ (W 35 rfl))) (mvT hZ (W 35 rfl)) (mvT hZ (W 34 rfl)) (by decide) (backOf (W := 0) (rm_add0 l Z a0 hw [] b120 r_117 ((0 : Int32)) ((0 : Int32)) ((0 : Int32)) h206 n0 O206 Gr1056 Gr1057 g_b120 J206_0 J206_1 J206_2 J206_3) hZ (W 36 rfl) (W 14 rfl) (by decide) (by decide)) q1058a q1058c (g := (mkF m 123 #[iv p0, iv p1, iv p2, iv p3, iv (p0 &&& (3 : Int32)), iv mv, rv r_105, rv r_108, rv r_111, rv r_114, rv r_117, rv b120, .unset, .unset, .unset, .unset, .unset, .unset] [(.ref r_117), (.ref b120)])) rfl (by rw [hml]; rfl) (Steps.refl _) (argsL := [(.ref r_117)]) (rest := []) (lenOf pd_12 rfl) rfl (by show 2 * 0 + _ ≤ _; exact Nat.le_of_eq rfl) (hb hby at_123) (fun _ _ => ⟨rfl, e206, (by decide : 1 + 0 ≤ _), (by decide : 3 + 0 ≤ _)⟩)
        dsimp only [Pt.U, Pt.locs, Pt.cells, Pt.slots] at X1058 l1058 y1058 z1058 st1058 hQ1058
        replace l1058 := l1058.symm
        replace y1058 : 1 = k1058 := y1058.symm
        replace z1058 : 3 = n1058 := z1058.symm
        subst l1058 y1058 z1058
        obtain ⟨rfl, M1058, Kc1058, O1058, J1058_0, J1058_1, J1058_2, J1058_3⟩ := hQ1058
        obtain ⟨h1058, e1058⟩ : ∃ z, T1058.heap = z := ⟨_, rfl⟩
        rw [e1058] at Kc1058 O1058 J1058_0 J1058_1 J1058_2 J1058_3
        have N1058 := Fr.app N206 M1058
        have K1058 : Keep h0 h1058 [] := K206.trans Kc1058 (own_all1 (Or.inr sz_b120))
        have pre1059 : ∀ t, Steps p.tables e below (T1058.setTop (mkF m 126 #[iv p0, iv p1, iv p2, iv p3, iv (p0 &&& (3 : Int32)), iv mv, rv r_105, rv r_108, rv r_111, rv r_114, rv r_117, rv b120, .unset, .unset, .unset, .unset, .unset, .unset] [])) t → Steps p.tables e below (s₁.setTop (entryFrame m #[(.int p0), (.int p1), (.int p2), (.int p3)] maxLocals)) t := fun t kt => pre1054 _ (st1058.trans kt)
        have pre1060 : ∀ t, Steps p.tables e below (T1058.setTop (mkF m 188 #[iv p0, iv p1, iv p2, iv p3, iv (p0 &&& (3 : Int32)), iv mv, rv r_105, rv r_108, rv r_111, rv r_114, rv r_117, rv b120, iv (0 : Int32), iv (0 : Int32), iv (0 : Int32), .unset, .unset, .unset] [(.ref r_117)])) t → Steps p.tables e below (s₁.setTop (entryFrame m #[(.int p0), (.int p1), (.int p2), (.int p3)] maxLocals)) t := fun t kt => by
          refine pre1059 _ ?_
          show Steps p.tables e below (T1058.setTop (mkF m 126 #[iv p0, iv p1, iv p2, iv p3, iv (p0 &&& (3 : Int32)), iv mv, rv r_105, rv r_108, rv r_111, rv r_114, rv r_117, rv b120, .unset, .unset, .unset, .unset, .unset, .unset] [])) _
          refine XS.iconst X1058.here hx rfl (hb hby at_126) ?_
          refine XS.istore X1058.here hx rfl (hb hby at_127) rfl (l' := #[iv p0, iv p1, iv p2, iv p3, iv (p0 &&& (3 : Int32)), iv mv, rv r_105, rv r_108, rv r_111, rv r_114, rv r_117, rv b120, iv (0 : Int32), .unset, .unset, .unset, .unset, .unset]) rfl ?_
          refine XS.iconst X1058.here hx rfl (hb hby at_129) ?_
          refine XS.istore X1058.here hx rfl (hb hby at_130) rfl (l' := #[iv p0, iv p1, iv p2, iv p3, iv (p0 &&& (3 : Int32)), iv mv, rv r_105, rv r_108, rv r_111, rv r_114, rv r_117, rv b120, iv (0 : Int32), iv (0 : Int32), .unset, .unset, .unset, .unset]) rfl ?_
          show Steps p.tables e below (T1058.setTop (mkF m 132 #[iv p0, iv p1, iv p2, iv p3, iv (p0 &&& (3 : Int32)), iv mv, rv r_105, rv r_108, rv r_111, rv r_114, rv r_117, rv b120, iv (0 : Int32), iv (0 : Int32), .unset, .unset, .unset, .unset] [])) _
          refine XS.iconst X1058.here hx rfl (hb hby at_132) ?_
          refine XS.istore X1058.here hx rfl (hb hby at_133) rfl (l' := #[iv p0, iv p1, iv p2, iv p3, iv (p0 &&& (3 : Int32)), iv mv, rv r_105, rv r_108, rv r_111, rv r_114, rv r_117, rv b120, iv (0 : Int32), iv (0 : Int32), iv (0 : Int32), .unset, .unset, .unset]) rfl ?_
          refine XS.iload X1058.here hx rfl (hb hby at_135) rfl ?_
          refine XS.ifYes X1058.here hx rfl (pc0 := 137) (pc' := 180) rfl (hb hby at_137) rfl (XT.i0_le_t hc209) (by decide) (by decide) ?_
          show Steps p.tables e below (T1058.setTop (mkF m 180 #[iv p0, iv p1, iv p2, iv p3, iv (p0 &&& (3 : Int32)), iv mv, rv r_105, rv r_108, rv r_111, rv r_114, rv r_117, rv b120, iv (0 : Int32), iv (0 : Int32), iv (0 : Int32), .unset, .unset, .unset] [])) _
          refine XS.iload X1058.here hx rfl (hb hby at_180) rfl ?_
          refine XS.iconst X1058.here hx rfl (hb hby at_182) ?_
          refine XS.icmpNo X1058.here hx rfl (hb hby at_183) rfl (XT.ii_le_f hc1053) ?_
          refine XS.aload X1058.here hx rfl (hb hby at_186) rfl rfl ?_
          exact kt
        obtain ⟨T1061, X1061, e1061, st1061⟩ := getS2 X1058 hx hZ hown (host := "") (Or.inl (W 8 rfl)) Via.refl e1058 (G2.ext O1058.2) (g := (mkF m 188 #[iv p0, iv p1, iv p2, iv p3, iv (p0 &&& (3 : Int32)), iv mv, rv r_105, rv r_108, rv r_111, rv r_114, rv r_117, rv b120, iv (0 : Int32), iv (0 : Int32), iv (0 : Int32), .unset, .unset, .unset] [(.ref r_117)])) rfl (hb hby at_188)
        have pre1062 : ∀ t, Steps p.tables e below (T1061.setTop (mkF m 191 #[iv p0, iv p1, iv p2, iv p3, iv (p0 &&& (3 : Int32)), iv mv, rv r_105, rv r_108, rv r_111, rv r_114, rv r_117, rv b120, iv (0 : Int32), iv (0 : Int32), iv (0 : Int32), .unset, .unset, .unset] [(.ref a_TRUE), (.ref r_117)])) t → Steps p.tables e below (s₁.setTop (entryFrame m #[(.int p0), (.int p1), (.int p2), (.int p3)] maxLocals)) t := fun t kt => pre1060 _ (st1061 _ kt)
        have pre1063 : ∀ t, Steps p.tables e below (T1061.setTop (mkF m 248 #[iv p0, iv p1, iv p2, iv p3, iv (p0 &&& (3 : Int32)), iv mv, rv r_105, rv r_108, rv r_111, rv r_114, rv r_117, rv b120, iv (1 : Int32), iv (0 : Int32), iv (0 : Int32), .unset, .unset, .unset] [])) t → Steps p.tables e below (s₁.setTop (entryFrame m #[(.int p0), (.int p1), (.int p2), (.int p3)] maxLocals)) t := fun t kt => by
          refine pre1062 _ ?_
          show Steps p.tables e below (T1061.setTop (mkF m 191 #[iv p0, iv p1, iv p2, iv p3, iv (p0 &&& (3 : Int32)), iv mv, rv r_105, rv r_108, rv r_111, rv r_114, rv r_117, rv b120, iv (0 : Int32), iv (0 : Int32), iv (0 : Int32), .unset, .unset, .unset] [(.ref a_TRUE), (.ref r_117)])) _
          refine Jvm.RoadKit.acmp (g := (mkF m 191 #[iv p0, iv p1, iv p2, iv p3, iv (p0 &&& (3 : Int32)), iv mv, rv r_105, rv r_108, rv r_111, rv r_114, rv r_117, rv b120, iv (0 : Int32), iv (0 : Int32), iv (0 : Int32), .unset, .unset, .unset] [(.ref a_TRUE), (.ref r_117)])) X1061 hx rfl rfl rfl (pc0 := 191) (pc' := 194) (same := true) rfl (hb hby at_191) rfl (decide_eq_true (congrArg Value.ref hv1055)) (by decide) (by decide) ?_
          refine XS.iload X1061.here hx rfl (hb hby at_194) rfl ?_
          refine XS.iconst X1061.here hx rfl (hb hby at_196) ?_
          refine XS.iadd X1061.here hx rfl (hb hby at_197) rfl ?_
          show  Steps p.tables e below (T1061.setTop (mkF m 198 #[iv p0, iv p1, iv p2, iv p3, iv (p0 &&& (3 : Int32)), iv mv, rv r_105, rv r_108, rv r_111, rv r_114, rv r_117, rv b120, iv (0 : Int32), iv (0 : Int32), iv (0 : Int32), .unset, .unset, .unset] [(.int ((0 : Int32) + (1 : Int32)))])) _
          rw [(by decide : (((0 : Int32) + (1 : Int32)) : Int32) = (1 : Int32))]
          show Steps p.tables e below (T1061.setTop (mkF m 198 #[iv p0, iv p1, iv p2, iv p3, iv (p0 &&& (3 : Int32)), iv mv, rv r_105, rv r_108, rv r_111, rv r_114, rv r_117, rv b120, iv (0 : Int32), iv (0 : Int32), iv (0 : Int32), .unset, .unset, .unset] [(.int (1 : Int32))])) _
          refine XS.istore X1061.here hx rfl (hb hby at_198) rfl (l' := #[iv p0, iv p1, iv p2, iv p3, iv (p0 &&& (3 : Int32)), iv mv, rv r_105, rv r_108, rv r_111, rv r_114, rv r_117, rv b120, iv (1 : Int32), iv (0 : Int32), iv (0 : Int32), .unset, .unset, .unset]) rfl ?_
          refine XS.goto X1061.here hx rfl (pc0 := 200) (pc' := 226) rfl (hb hby at_200) (by decide) (by decide) ?_
          refine XS.iload X1061.here hx rfl (hb hby at_226) rfl ?_
          refine XS.ifYes X1061.here hx rfl (pc0 := 228) (pc' := 237) rfl (hb hby at_228) rfl (XT.i0_le_t (by decide)) (by decide) (by decide) ?_
          show Steps p.tables e below (T1061.setTop (mkF m 237 #[iv p0, iv p1, iv p2, iv p3, iv (p0 &&& (3 : Int32)), iv mv, rv r_105, rv r_108, rv r_111, rv r_114, rv r_117, rv b120, iv (1 : Int32), iv (0 : Int32), iv (0 : Int32), .unset, .unset, .unset] [])) _
          refine XS.iload X1061.here hx rfl (hb hby at_237) rfl ?_
          refine XS.ifYes X1061.here hx rfl (pc0 := 239) (pc' := 248) rfl (hb hby at_239) rfl (XT.i0_le_t (by decide)) (by decide) (by decide) ?_
          exact kt
        obtain ⟨T1064, X1064, e1064, st1064⟩ := getS2 X1061 hx hZ hown (host := "") (Or.inl (W 8 rfl)) Via.refl e1061 (G2.ext O1058.2) (g := (mkF m 248 #[iv p0, iv p1, iv p2, iv p3, iv (p0 &&& (3 : Int32)), iv mv, rv r_105, rv r_108, rv r_111, rv r_114, rv r_117, rv b120, iv (1 : Int32), iv (0 : Int32), iv (0 : Int32), .unset, .unset, .unset] [])) rfl (hb hby at_248)
        have pre1065 : ∀ t, Steps p.tables e below (T1064.setTop (mkF m 251 #[iv p0, iv p1, iv p2, iv p3, iv (p0 &&& (3 : Int32)), iv mv, rv r_105, rv r_108, rv r_111, rv r_114, rv r_117, rv b120, iv (1 : Int32), iv (0 : Int32), iv (0 : Int32), .unset, .unset, .unset] [(.ref a_TRUE)])) t → Steps p.tables e below (s₁.setTop (entryFrame m #[(.int p0), (.int p1), (.int p2), (.int p3)] maxLocals)) t := fun t kt => pre1063 _ (st1064 _ kt)
        have pre1066 : ∀ t, Steps p.tables e below (T1064.setTop (mkF m 258 #[iv p0, iv p1, iv p2, iv p3, iv (p0 &&& (3 : Int32)), iv mv, rv r_105, rv r_108, rv r_111, rv r_114, rv r_117, rv b120, iv (1 : Int32), iv (0 : Int32), iv (0 : Int32), rv a_TRUE, .unset, .unset] [])) t → Steps p.tables e below (s₁.setTop (entryFrame m #[(.int p0), (.int p1), (.int p2), (.int p3)] maxLocals)) t := fun t kt => by
          refine pre1065 _ ?_
          show Steps p.tables e below (T1064.setTop (mkF m 251 #[iv p0, iv p1, iv p2, iv p3, iv (p0 &&& (3 : Int32)), iv mv, rv r_105, rv r_108, rv r_111, rv r_114, rv r_117, rv b120, iv (1 : Int32), iv (0 : Int32), iv (0 : Int32), .unset, .unset, .unset] [(.ref a_TRUE)])) _
          refine XS.astore X1064.here hx rfl (hb hby at_251) rfl rfl (l' := #[iv p0, iv p1, iv p2, iv p3, iv (p0 &&& (3 : Int32)), iv mv, rv r_105, rv r_108, rv r_111, rv r_114, rv r_117, rv b120, iv (1 : Int32), iv (0 : Int32), iv (0 : Int32), rv a_TRUE, .unset, .unset]) rfl ?_
          refine XS.iload X1064.here hx rfl (hb hby at_253) rfl ?_
          refine XS.ifNo X1064.here hx rfl (hb hby at_255) rfl (XT.i0_le_f (by decide)) ?_
          exact kt
        obtain ⟨T1067, X1067, e1067, st1067⟩ := getS2 X1064 hx hZ hown (host := "") (Or.inl (W 8 rfl)) Via.refl e1064 (G2.ext O1058.2) (g := (mkF m 258 #[iv p0, iv p1, iv p2, iv p3, iv (p0 &&& (3 : Int32)), iv mv, rv r_105, rv r_108, rv r_111, rv r_114, rv r_117, rv b120, iv (1 : Int32), iv (0 : Int32), iv (0 : Int32), rv a_TRUE, .unset, .unset] [])) rfl (hb hby at_258)
        have pre1068 : ∀ t, Steps p.tables e below (T1067.setTop (mkF m 261 #[iv p0, iv p1, iv p2, iv p3, iv (p0 &&& (3 : Int32)), iv mv, rv r_105, rv r_108, rv r_111, rv r_114, rv r_117, rv b120, iv (1 : Int32), iv (0 : Int32), iv (0 : Int32), rv a_TRUE, .unset, .unset] [(.ref a_TRUE)])) t → Steps p.tables e below (s₁.setTop (entryFrame m #[(.int p0), (.int p1), (.int p2), (.int p3)] maxLocals)) t := fun t kt => pre1066 _ (st1067 _ kt)
        have pre1069 : ∀ t, Steps p.tables e below (T1067.setTop (mkF m 297 #[iv p0, iv p1, iv p2, iv p3, iv (p0 &&& (3 : Int32)), iv mv, rv r_105, rv r_108, rv r_111, rv r_114, rv r_117, rv b120, iv (1 : Int32), iv (0 : Int32), iv (0 : Int32), rv a_TRUE, rv a_TRUE, .unset] [])) t → Steps p.tables e below (s₁.setTop (entryFrame m #[(.int p0), (.int p1), (.int p2), (.int p3)] maxLocals)) t := fun t kt => by
          refine pre1068 _ ?_
          show Steps p.tables e below (T1067.setTop (mkF m 261 #[iv p0, iv p1, iv p2, iv p3, iv (p0 &&& (3 : Int32)), iv mv, rv r_105, rv r_108, rv r_111, rv r_114, rv r_117, rv b120, iv (1 : Int32), iv (0 : Int32), iv (0 : Int32), rv a_TRUE, .unset, .unset] [(.ref a_TRUE)])) _
          refine XS.goto X1067.here hx rfl (pc0 := 261) (pc' := 278) rfl (hb hby at_261) (by decide) (by decide) ?_
          refine XS.astore X1067.here hx rfl (hb hby at_278) rfl rfl (l' := #[iv p0, iv p1, iv p2, iv p3, iv (p0 &&& (3 : Int32)), iv mv, rv r_105, rv r_108, rv r_111, rv r_114, rv r_117, rv b120, iv (1 : Int32), iv (0 : Int32), iv (0 : Int32), rv a_TRUE, rv a_TRUE, .unset]) rfl ?_
          refine XS.iload X1067.here hx rfl (hb hby at_280) rfl ?_
          refine XS.ifYes X1067.here hx rfl (pc0 := 282) (pc' := 291) rfl (hb hby at_282) rfl (XT.i0_le_t (by decide)) (by decide) (by decide) ?_
          show Steps p.tables e below (T1067.setTop (mkF m 291 #[iv p0, iv p1, iv p2, iv p3, iv (p0 &&& (3 : Int32)), iv mv, rv r_105, rv r_108, rv r_111, rv r_114, rv r_117, rv b120, iv (1 : Int32), iv (0 : Int32), iv (0 : Int32), rv a_TRUE, rv a_TRUE, .unset] [])) _
          refine XS.iload X1067.here hx rfl (hb hby at_291) rfl ?_
          refine XS.iconst X1067.here hx rfl (hb hby at_293) ?_
          refine XS.icmpNo X1067.here hx rfl (hb hby at_294) rfl (XT.ii_ne_f (by decide)) ?_
          exact kt
        obtain ⟨T1070, X1070, e1070, st1070⟩ := getS2 X1067 hx hZ hown (host := "") (Or.inl (W 8 rfl)) Via.refl e1067 (G2.ext O1058.2) (g := (mkF m 297 #[iv p0, iv p1, iv p2, iv p3, iv (p0 &&& (3 : Int32)), iv mv, rv r_105, rv r_108, rv r_111, rv r_114, rv r_117, rv b120, iv (1 : Int32), iv (0 : Int32), iv (0 : Int32), rv a_TRUE, rv a_TRUE, .unset] [])) rfl (hb hby at_297)
        have pre1071 : ∀ t, Steps p.tables e below (T1070.setTop (mkF m 300 #[iv p0, iv p1, iv p2, iv p3, iv (p0 &&& (3 : Int32)), iv mv, rv r_105, rv r_108, rv r_111, rv r_114, rv r_117, rv b120, iv (1 : Int32), iv (0 : Int32), iv (0 : Int32), rv a_TRUE, rv a_TRUE, .unset] [(.ref a_TRUE)])) t → Steps p.tables e below (s₁.setTop (entryFrame m #[(.int p0), (.int p1), (.int p2), (.int p3)] maxLocals)) t := fun t kt => pre1069 _ (st1070 _ kt)
        have pre1072 : ∀ t, Steps p.tables e below (T1070.setTop (mkF m 310 #[iv p0, iv p1, iv p2, iv p3, iv (p0 &&& (3 : Int32)), iv mv, rv r_105, rv r_108, rv r_111, rv r_114, rv r_117, rv b120, iv (1 : Int32), iv (0 : Int32), iv (0 : Int32), rv a_TRUE, rv a_TRUE, rv a_TRUE] [(.ref b120)])) t → Steps p.tables e below (s₁.setTop (entryFrame m #[(.int p0), (.int p1), (.int p2), (.int p3)] maxLocals)) t := fun t kt => by
          refine pre1071 _ ?_
          show Steps p.tables e below (T1070.setTop (mkF m 300 #[iv p0, iv p1, iv p2, iv p3, iv (p0 &&& (3 : Int32)), iv mv, rv r_105, rv r_108, rv r_111, rv r_114, rv r_117, rv b120, iv (1 : Int32), iv (0 : Int32), iv (0 : Int32), rv a_TRUE, rv a_TRUE, .unset] [(.ref a_TRUE)])) _
          refine XS.goto X1070.here hx rfl (pc0 := 300) (pc' := 306) rfl (hb hby at_300) (by decide) (by decide) ?_
          refine XS.astore X1070.here hx rfl (hb hby at_306) rfl rfl (l' := #[iv p0, iv p1, iv p2, iv p3, iv (p0 &&& (3 : Int32)), iv mv, rv r_105, rv r_108, rv r_111, rv r_114, rv r_117, rv b120, iv (1 : Int32), iv (0 : Int32), iv (0 : Int32), rv a_TRUE, rv a_TRUE, rv a_TRUE]) rfl ?_
          refine XS.aload X1070.here hx rfl (hb hby at_308) rfl rfl ?_
          exact kt
        obtain ⟨cq1073, kq1073, q1073a, q1073b, q1073c⟩ := isOf hZ e1070 J1058_0
        obtain ⟨_, _, ⟨T1073, L1073, k1073, n1073⟩, -, X1073, ⟨Lc1073, hQ1073, l1073, y1073, z1073⟩, st1073⟩ := X1070.virtualBack hx (y := (⟨"com/example/contexture/contexture/engine/evaluation/TruthValue$Tally", "and", "()Lcom/example/contexture/contexture/engine/evaluation/TruthValue;"⟩ : MethodName)) (z := (⟨"com/example/contexture/contexture/engine/evaluation/TruthValue$Tally", "and", "()Lcom/example/contexture/contexture/engine/evaluation/TruthValue;"⟩ : MethodName)) hown (mvT hZ (W 46 rfl)) (mvT hZ (W 47 rfl)) (notFace_of_selects (args := #[]) (mvT hZ (W 49 rfl))) (mvT hZ (W 49 rfl)) (mvT hZ (W 48 rfl)) (by decide) (backOf (W := 0) (rm_and7_0 l Z a0 hw [] b120 a_TRUE h1058 n0 O1058 G2 J1058_0 J1058_2 J1058_3) hZ (W 50 rfl) (W 14 rfl) (by decide) (by decide)) q1073a q1073c (g := (mkF m 310 #[iv p0, iv p1, iv p2, iv p3, iv (p0 &&& (3 : Int32)), iv mv, rv r_105, rv r_108, rv r_111, rv r_114, rv r_117, rv b120, iv (1 : Int32), iv (0 : Int32), iv (0 : Int32), rv a_TRUE, rv a_TRUE, rv a_TRUE] [(.ref b120)])) rfl (by rw [hml]; rfl) (Steps.refl _) (argsL := []) (rest := []) (lenOf pd_16 rfl) rfl (by show 2 * 0 + _ ≤ _; exact Nat.le_of_eq rfl) (hb hby at_310) (fun _ _ => ⟨rfl, e1070, (by decide : 1 + 0 ≤ _), (by decide : 3 + 0 ≤ _)⟩)
        dsimp only [Pt.U, Pt.locs, Pt.cells, Pt.slots] at X1073 l1073 y1073 z1073 st1073 hQ1073
        replace l1073 := l1073.symm
        replace y1073 : 1 = k1073 := y1073.symm
        replace z1073 : 3 = n1073 := z1073.symm
        subst l1073 y1073 z1073
        obtain ⟨rfl, M1073, e1073⟩ := hQ1073
        have N1073 := Fr.app N1058 M1073
        have pre1074 : ∀ t, Steps p.tables e below (T1073.setTop (mkF m 313 #[iv p0, iv p1, iv p2, iv p3, iv (p0 &&& (3 : Int32)), iv mv, rv r_105, rv r_108, rv r_111, rv r_114, rv r_117, rv b120, iv (1 : Int32), iv (0 : Int32), iv (0 : Int32), rv a_TRUE, rv a_TRUE, rv a_TRUE] [(.ref a_TRUE)])) t → Steps p.tables e below (s₁.setTop (entryFrame m #[(.int p0), (.int p1), (.int p2), (.int p3)] maxLocals)) t := fun t kt => pre1072 _ (st1073.trans kt)
        have pre1075 : ∀ t, Steps p.tables e below (T1073.setTop (mkF m 320 #[iv p0, iv p1, iv p2, iv p3, iv (p0 &&& (3 : Int32)), iv mv, rv r_105, rv r_108, rv r_111, rv r_114, rv r_117, rv b120, iv (1 : Int32), iv (0 : Int32), iv (0 : Int32), rv a_TRUE, rv a_TRUE, rv a_TRUE] [(.ref b120)])) t → Steps p.tables e below (s₁.setTop (entryFrame m #[(.int p0), (.int p1), (.int p2), (.int p3)] maxLocals)) t := fun t kt => by
          refine pre1074 _ ?_
          show Steps p.tables e below (T1073.setTop (mkF m 313 #[iv p0, iv p1, iv p2, iv p3, iv (p0 &&& (3 : Int32)), iv mv, rv r_105, rv r_108, rv r_111, rv r_114, rv r_117, rv b120, iv (1 : Int32), iv (0 : Int32), iv (0 : Int32), rv a_TRUE, rv a_TRUE, rv a_TRUE] [(.ref a_TRUE)])) _
          refine XS.aload X1073.here hx rfl (hb hby at_313) rfl rfl ?_
          refine Jvm.RoadKit.acmp (g := (mkF m 315 #[iv p0, iv p1, iv p2, iv p3, iv (p0 &&& (3 : Int32)), iv mv, rv r_105, rv r_108, rv r_111, rv r_114, rv r_117, rv b120, iv (1 : Int32), iv (0 : Int32), iv (0 : Int32), rv a_TRUE, rv a_TRUE, rv a_TRUE] [(.ref a_TRUE), (.ref a_TRUE)])) X1073 hx rfl rfl rfl (pc0 := 315) (pc' := 318) (same := true) rfl (hb hby at_315) rfl (decide_eq_true rfl) (by decide) (by decide) ?_
          refine XS.aload X1073.here hx rfl (hb hby at_318) rfl rfl ?_
          exact kt
        obtain ⟨cq1076, kq1076, q1076a, q1076b, q1076c⟩ := isOf hZ e1073 J1058_0
        obtain ⟨_, _, ⟨T1076, L1076, k1076, n1076⟩, -, X1076, ⟨Lc1076, hQ1076, l1076, y1076, z1076⟩, st1076⟩ := X1073.virtualBack hx (y := (⟨"com/example/contexture/contexture/engine/evaluation/TruthValue$Tally", "or", "()Lcom/example/contexture/contexture/engine/evaluation/TruthValue;"⟩ : MethodName)) (z := (⟨"com/example/contexture/contexture/engine/evaluation/TruthValue$Tally", "or", "()Lcom/example/contexture/contexture/engine/evaluation/TruthValue;"⟩ : MethodName)) hown (mvT hZ (W 52 rfl)) (mvT hZ (W 53 rfl)) (notFace_of_selects (args := #[]) (mvT hZ (W 55 rfl))) (mvT hZ (W 55 rfl)) (mvT hZ (W 54 rfl)) (by decide) (backOf (W := 0) (rm_or8_1 l Z a0 hw [] b120 a_TRUE h1058 n0 O1058 G2 J1058_1) hZ (W 56 rfl) (W 14 rfl) (by decide) (by decide)) q1076a q1076c (g := (mkF m 320 #[iv p0, iv p1, iv p2, iv p3, iv (p0 &&& (3 : Int32)), iv mv, rv r_105, rv r_108, rv r_111, rv r_114, rv r_117, rv b120, iv (1 : Int32), iv (0 : Int32), iv (0 : Int32), rv a_TRUE, rv a_TRUE, rv a_TRUE] [(.ref b120)])) rfl (by rw [hml]; rfl) (Steps.refl _) (argsL := []) (rest := []) (lenOf pd_16 rfl) rfl (by show 2 * 0 + _ ≤ _; exact Nat.le_of_eq rfl) (hb hby at_320) (fun _ _ => ⟨rfl, e1073, (by decide : 1 + 0 ≤ _), (by decide : 3 + 0 ≤ _)⟩)
        dsimp only [Pt.U, Pt.locs, Pt.cells, Pt.slots] at X1076 l1076 y1076 z1076 st1076 hQ1076
        replace l1076 := l1076.symm
        replace y1076 : 1 = k1076 := y1076.symm
        replace z1076 : 3 = n1076 := z1076.symm
        subst l1076 y1076 z1076
        obtain ⟨rfl, M1076, e1076⟩ := hQ1076
        have N1076 := Fr.app N1073 M1076
        have pre1077 : ∀ t, Steps p.tables e below (T1076.setTop (mkF m 323 #[iv p0, iv p1, iv p2, iv p3, iv (p0 &&& (3 : Int32)), iv mv, rv r_105, rv r_108, rv r_111, rv r_114, rv r_117, rv b120, iv (1 : Int32), iv (0 : Int32), iv (0 : Int32), rv a_TRUE, rv a_TRUE, rv a_TRUE] [(.ref a_TRUE)])) t → Steps p.tables e below (s₁.setTop (entryFrame m #[(.int p0), (.int p1), (.int p2), (.int p3)] maxLocals)) t := fun t kt => pre1075 _ (st1076.trans kt)
        have pre1078 : ∀ t, Steps p.tables e below (T1076.setTop (mkF m 330 #[iv p0, iv p1, iv p2, iv p3, iv (p0 &&& (3 : Int32)), iv mv, rv r_105, rv r_108, rv r_111, rv r_114, rv r_117, rv b120, iv (1 : Int32), iv (0 : Int32), iv (0 : Int32), rv a_TRUE, rv a_TRUE, rv a_TRUE] [(.ref b120)])) t → Steps p.tables e below (s₁.setTop (entryFrame m #[(.int p0), (.int p1), (.int p2), (.int p3)] maxLocals)) t := fun t kt => by
          refine pre1077 _ ?_
          show Steps p.tables e below (T1076.setTop (mkF m 323 #[iv p0, iv p1, iv p2, iv p3, iv (p0 &&& (3 : Int32)), iv mv, rv r_105, rv r_108, rv r_111, rv r_114, rv r_117, rv b120, iv (1 : Int32), iv (0 : Int32), iv (0 : Int32), rv a_TRUE, rv a_TRUE, rv a_TRUE] [(.ref a_TRUE)])) _
          refine XS.aload X1076.here hx rfl (hb hby at_323) rfl rfl ?_
          refine Jvm.RoadKit.acmp (g := (mkF m 325 #[iv p0, iv p1, iv p2, iv p3, iv (p0 &&& (3 : Int32)), iv mv, rv r_105, rv r_108, rv r_111, rv r_114, rv r_117, rv b120, iv (1 : Int32), iv (0 : Int32), iv (0 : Int32), rv a_TRUE, rv a_TRUE, rv a_TRUE] [(.ref a_TRUE), (.ref a_TRUE)])) X1076 hx rfl rfl rfl (pc0 := 325) (pc' := 328) (same := true) rfl (hb hby at_325) rfl (decide_eq_true rfl) (by decide) (by decide) ?_
          refine XS.aload X1076.here hx rfl (hb hby at_328) rfl rfl ?_
          exact kt
        obtain ⟨cq1079, kq1079, q1079a, q1079b, q1079c⟩ := isOf hZ e1076 J1058_0
        obtain ⟨_, _, ⟨T1079, L1079, k1079, n1079⟩, -, X1079, ⟨Lc1079, hQ1079, l1079, y1079, z1079⟩, st1079⟩ := X1076.virtualBack hx (y := (⟨"com/example/contexture/contexture/engine/evaluation/TruthValue$Tally", "xor", "()Lcom/example/contexture/contexture/engine/evaluation/TruthValue;"⟩ : MethodName)) (z := (⟨"com/example/contexture/contexture/engine/evaluation/TruthValue$Tally", "xor", "()Lcom/example/contexture/contexture/engine/evaluation/TruthValue;"⟩ : MethodName)) hown (mvT hZ (W 58 rfl)) (mvT hZ (W 59 rfl)) (notFace_of_selects (args := #[]) (mvT hZ (W 61 rfl))) (mvT hZ (W 61 rfl)) (mvT hZ (W 60 rfl)) (by decide) (backOf (W := 0) (rm_xor9_1 l Z a0 hw [] b120 a_TRUE h1058 n0 O1058 G2 J1058_0 J1058_1 J1058_3) hZ (W 62 rfl) (W 14 rfl) (by decide) (by decide)) q1079a q1079c (g := (mkF m 330 #[iv p0, iv p1, iv p2, iv p3, iv (p0 &&& (3 : Int32)), iv mv, rv r_105, rv r_108, rv r_111, rv r_114, rv r_117, rv b120, iv (1 : Int32), iv (0 : Int32), iv (0 : Int32), rv a_TRUE, rv a_TRUE, rv a_TRUE] [(.ref b120)])) rfl (by rw [hml]; rfl) (Steps.refl _) (argsL := []) (rest := []) (lenOf pd_16 rfl) rfl (by show 2 * 0 + _ ≤ _; exact Nat.le_of_eq rfl) (hb hby at_330) (fun _ _ => ⟨rfl, e1076, (by decide : 1 + 0 ≤ _), (by decide : 3 + 0 ≤ _)⟩)
        dsimp only [Pt.U, Pt.locs, Pt.cells, Pt.slots] at X1079 l1079 y1079 z1079 st1079 hQ1079
        replace l1079 := l1079.symm
        replace y1079 : 1 = k1079 := y1079.symm
        replace z1079 : 3 = n1079 := z1079.symm
        subst l1079 y1079 z1079
        obtain ⟨rfl, M1079, e1079⟩ := hQ1079
        have N1079 := Fr.app N1076 M1079
        have pre1080 : ∀ t, Steps p.tables e below (T1079.setTop (mkF m 333 #[iv p0, iv p1, iv p2, iv p3, iv (p0 &&& (3 : Int32)), iv mv, rv r_105, rv r_108, rv r_111, rv r_114, rv r_117, rv b120, iv (1 : Int32), iv (0 : Int32), iv (0 : Int32), rv a_TRUE, rv a_TRUE, rv a_TRUE] [(.ref a_TRUE)])) t → Steps p.tables e below (s₁.setTop (entryFrame m #[(.int p0), (.int p1), (.int p2), (.int p3)] maxLocals)) t := fun t kt => pre1078 _ (st1079.trans kt)
        have pre1081 : ∀ t, Steps p.tables e below (T1079.setTop (mkF m 343 #[iv p0, iv p1, iv p2, iv p3, iv (p0 &&& (3 : Int32)), iv mv, rv r_105, rv r_108, rv r_111, rv r_114, rv r_117, rv b120, iv (1 : Int32), iv (0 : Int32), iv (0 : Int32), rv a_TRUE, rv a_TRUE, rv a_TRUE] [(.int (1 : Int32))])) t → Steps p.tables e below (s₁.setTop (entryFrame m #[(.int p0), (.int p1), (.int p2), (.int p3)] maxLocals)) t := fun t kt => by
          refine pre1080 _ ?_
          show Steps p.tables e below (T1079.setTop (mkF m 333 #[iv p0, iv p1, iv p2, iv p3, iv (p0 &&& (3 : Int32)), iv mv, rv r_105, rv r_108, rv r_111, rv r_114, rv r_117, rv b120, iv (1 : Int32), iv (0 : Int32), iv (0 : Int32), rv a_TRUE, rv a_TRUE, rv a_TRUE] [(.ref a_TRUE)])) _
          refine XS.aload X1079.here hx rfl (hb hby at_333) rfl rfl ?_
          refine Jvm.RoadKit.acmp (g := (mkF m 335 #[iv p0, iv p1, iv p2, iv p3, iv (p0 &&& (3 : Int32)), iv mv, rv r_105, rv r_108, rv r_111, rv r_114, rv r_117, rv b120, iv (1 : Int32), iv (0 : Int32), iv (0 : Int32), rv a_TRUE, rv a_TRUE, rv a_TRUE] [(.ref a_TRUE), (.ref a_TRUE)])) X1079 hx rfl rfl rfl (pc0 := 335) (pc' := 338) (same := true) rfl (hb hby at_335) rfl (decide_eq_true rfl) (by decide) (by decide) ?_
          refine XS.iconst X1079.here hx rfl (hb hby at_338) ?_
          refine XS.goto X1079.here hx rfl (pc0 := 339) (pc' := 343) rfl (hb hby at_339) (by decide) (by decide) ?_
          exact kt
        obtain ⟨fs, hr, hrun, hended, hW, hsame⟩ := X1079.leave (v := some (.int (1 : Int32))) (fun h => by rw [Bd.returns] at h; cases h)
        refine ⟨_, _, pre1081 _ (retN X1079 hx (t := .boolean) Bd.returns (by simp) (hb hby at_343) hr), hrun, hended, _, _, rfl, ?_, ⟨_, rfl⟩, hW, hsame.mono (by decide) (by decide)⟩
        show Q_law Z p0 p1 p2 p3 a_UNKNOWN a_TRUE a_FALSE h0 n0 _ T1079.heap _
        rw [e1079]
        exact ⟨rfl, N1079⟩
      · have Gr1082 : Exa Z Z.heap r_117 "com/example/contexture/contexture/engine/evaluation/TruthValue" := hv1055 ▸ G5
        have Gr1083 : Fld Z Z.heap r_117 "java/lang/Enum" "ordinal" "I" (.int (1 : Int32)) := hv1055 ▸ G6
        obtain ⟨cq1084, kq1084, q1084a, q1084b, q1084c⟩ := isOf hZ e206 J206_0
        obtain ⟨_, _, ⟨T1084, L1084, k1084, n1084⟩, -, X1084, ⟨Lc1084, hQ1084, l1084, y1084, z1084⟩, st1084⟩ := X206.virtualBack hx (y := (⟨"com/example/contexture/contexture/engine/evaluation/TruthValue$Tally", "add", "(Lcom/example/contexture/contexture/engine/evaluation/TruthValue;)V"⟩ : MethodName)) (z := (⟨"com/example/contexture/contexture/engine/evaluation/TruthValue$Tally", "add", "(Lcom/example/contexture/contexture/engine/evaluation/TruthValue;)V"⟩ : MethodName)) hown (mvT hZ (W 32 rfl)) (mvT hZ (W 33 rfl)) (notFace_of_selects (args := #[]) (mvT hZ (W 35 rfl))) (mvT hZ (W 35 rfl)) (mvT hZ (W 34 rfl)) (by decide) (backOf (W := 0) (rm_add1 l Z a0 hw [] b120 r_117 ((0 : Int32)) ((0 : Int32)) ((0 : Int32)) h206 n0 O206 Gr1082 Gr1083 g_b120 J206_0 J206_1 J206_2 J206_3) hZ (W 36 rfl) (W 14 rfl) (by decide) (by decide)) q1084a q1084c (g := (mkF m 123 #[iv p0, iv p1, iv p2, iv p3, iv (p0 &&& (3 : Int32)), iv mv, rv r_105, rv r_108, rv r_111, rv r_114, rv r_117, rv b120, .unset, .unset, .unset, .unset, .unset, .unset] [(.ref r_117), (.ref b120)])) rfl (by rw [hml]; rfl) (Steps.refl _) (argsL := [(.ref r_117)]) (rest := []) (lenOf pd_12 rfl) rfl (by show 2 * 0 + _ ≤ _; exact Nat.le_of_eq rfl) (hb hby at_123) (fun _ _ => ⟨rfl, e206, (by decide : 1 + 0 ≤ _), (by decide : 3 + 0 ≤ _)⟩)
        dsimp only [Pt.U, Pt.locs, Pt.cells, Pt.slots] at X1084 l1084 y1084 z1084 st1084 hQ1084
        replace l1084 := l1084.symm
        replace y1084 : 1 = k1084 := y1084.symm
        replace z1084 : 3 = n1084 := z1084.symm
        subst l1084 y1084 z1084
        obtain ⟨rfl, M1084, Kc1084, O1084, J1084_0, J1084_1, J1084_2, J1084_3⟩ := hQ1084
        obtain ⟨h1084, e1084⟩ : ∃ z, T1084.heap = z := ⟨_, rfl⟩
        rw [e1084] at Kc1084 O1084 J1084_0 J1084_1 J1084_2 J1084_3
        have N1084 := Fr.app N206 M1084
        have K1084 : Keep h0 h1084 [] := K206.trans Kc1084 (own_all1 (Or.inr sz_b120))
        have pre1085 : ∀ t, Steps p.tables e below (T1084.setTop (mkF m 126 #[iv p0, iv p1, iv p2, iv p3, iv (p0 &&& (3 : Int32)), iv mv, rv r_105, rv r_108, rv r_111, rv r_114, rv r_117, rv b120, .unset, .unset, .unset, .unset, .unset, .unset] [])) t → Steps p.tables e below (s₁.setTop (entryFrame m #[(.int p0), (.int p1), (.int p2), (.int p3)] maxLocals)) t := fun t kt => pre1054 _ (st1084.trans kt)
        have pre1086 : ∀ t, Steps p.tables e below (T1084.setTop (mkF m 188 #[iv p0, iv p1, iv p2, iv p3, iv (p0 &&& (3 : Int32)), iv mv, rv r_105, rv r_108, rv r_111, rv r_114, rv r_117, rv b120, iv (0 : Int32), iv (0 : Int32), iv (0 : Int32), .unset, .unset, .unset] [(.ref r_117)])) t → Steps p.tables e below (s₁.setTop (entryFrame m #[(.int p0), (.int p1), (.int p2), (.int p3)] maxLocals)) t := fun t kt => by
          refine pre1085 _ ?_
          show Steps p.tables e below (T1084.setTop (mkF m 126 #[iv p0, iv p1, iv p2, iv p3, iv (p0 &&& (3 : Int32)), iv mv, rv r_105, rv r_108, rv r_111, rv r_114, rv r_117, rv b120, .unset, .unset, .unset, .unset, .unset, .unset] [])) _
          refine XS.iconst X1084.here hx rfl (hb hby at_126) ?_
          refine XS.istore X1084.here hx rfl (hb hby at_127) rfl (l' := #[iv p0, iv p1, iv p2, iv p3, iv (p0 &&& (3 : Int32)), iv mv, rv r_105, rv r_108, rv r_111, rv r_114, rv r_117, rv b120, iv (0 : Int32), .unset, .unset, .unset, .unset, .unset]) rfl ?_
          refine XS.iconst X1084.here hx rfl (hb hby at_129) ?_
          refine XS.istore X1084.here hx rfl (hb hby at_130) rfl (l' := #[iv p0, iv p1, iv p2, iv p3, iv (p0 &&& (3 : Int32)), iv mv, rv r_105, rv r_108, rv r_111, rv r_114, rv r_117, rv b120, iv (0 : Int32), iv (0 : Int32), .unset, .unset, .unset, .unset]) rfl ?_
          show Steps p.tables e below (T1084.setTop (mkF m 132 #[iv p0, iv p1, iv p2, iv p3, iv (p0 &&& (3 : Int32)), iv mv, rv r_105, rv r_108, rv r_111, rv r_114, rv r_117, rv b120, iv (0 : Int32), iv (0 : Int32), .unset, .unset, .unset, .unset] [])) _
          refine XS.iconst X1084.here hx rfl (hb hby at_132) ?_
          refine XS.istore X1084.here hx rfl (hb hby at_133) rfl (l' := #[iv p0, iv p1, iv p2, iv p3, iv (p0 &&& (3 : Int32)), iv mv, rv r_105, rv r_108, rv r_111, rv r_114, rv r_117, rv b120, iv (0 : Int32), iv (0 : Int32), iv (0 : Int32), .unset, .unset, .unset]) rfl ?_
          refine XS.iload X1084.here hx rfl (hb hby at_135) rfl ?_
          refine XS.ifYes X1084.here hx rfl (pc0 := 137) (pc' := 180) rfl (hb hby at_137) rfl (XT.i0_le_t hc209) (by decide) (by decide) ?_
          show Steps p.tables e below (T1084.setTop (mkF m 180 #[iv p0, iv p1, iv p2, iv p3, iv (p0 &&& (3 : Int32)), iv mv, rv r_105, rv r_108, rv r_111, rv r_114, rv r_117, rv b120, iv (0 : Int32), iv (0 : Int32), iv (0 : Int32), .unset, .unset, .unset] [])) _
          refine XS.iload X1084.here hx rfl (hb hby at_180) rfl ?_
          refine XS.iconst X1084.here hx rfl (hb hby at_182) ?_
          refine XS.icmpNo X1084.here hx rfl (hb hby at_183) rfl (XT.ii_le_f hc1053) ?_
          refine XS.aload X1084.here hx rfl (hb hby at_186) rfl rfl ?_
          exact kt
        obtain ⟨T1087, X1087, e1087, st1087⟩ := getS2 X1084 hx hZ hown (host := "") (Or.inl (W 8 rfl)) Via.refl e1084 (G2.ext O1084.2) (g := (mkF m 188 #[iv p0, iv p1, iv p2, iv p3, iv (p0 &&& (3 : Int32)), iv mv, rv r_105, rv r_108, rv r_111, rv r_114, rv r_117, rv b120, iv (0 : Int32), iv (0 : Int32), iv (0 : Int32), .unset, .unset, .unset] [(.ref r_117)])) rfl (hb hby at_188)
        have pre1088 : ∀ t, Steps p.tables e below (T1087.setTop (mkF m 191 #[iv p0, iv p1, iv p2, iv p3, iv (p0 &&& (3 : Int32)), iv mv, rv r_105, rv r_108, rv r_111, rv r_114, rv r_117, rv b120, iv (0 : Int32), iv (0 : Int32), iv (0 : Int32), .unset, .unset, .unset] [(.ref a_TRUE), (.ref r_117)])) t → Steps p.tables e below (s₁.setTop (entryFrame m #[(.int p0), (.int p1), (.int p2), (.int p3)] maxLocals)) t := fun t kt => pre1086 _ (st1087 _ kt)
        have pre1089 : ∀ t, Steps p.tables e below (T1087.setTop (mkF m 205 #[iv p0, iv p1, iv p2, iv p3, iv (p0 &&& (3 : Int32)), iv mv, rv r_105, rv r_108, rv r_111, rv r_114, rv r_117, rv b120, iv (0 : Int32), iv (0 : Int32), iv (0 : Int32), .unset, .unset, .unset] [(.ref r_117)])) t → Steps p.tables e below (s₁.setTop (entryFrame m #[(.int p0), (.int p1), (.int p2), (.int p3)] maxLocals)) t := fun t kt => by
          refine pre1088 _ ?_
          show Steps p.tables e below (T1087.setTop (mkF m 191 #[iv p0, iv p1, iv p2, iv p3, iv (p0 &&& (3 : Int32)), iv mv, rv r_105, rv r_108, rv r_111, rv r_114, rv r_117, rv b120, iv (0 : Int32), iv (0 : Int32), iv (0 : Int32), .unset, .unset, .unset] [(.ref a_TRUE), (.ref r_117)])) _
          refine Jvm.RoadKit.acmp (g := (mkF m 191 #[iv p0, iv p1, iv p2, iv p3, iv (p0 &&& (3 : Int32)), iv mv, rv r_105, rv r_108, rv r_111, rv r_114, rv r_117, rv b120, iv (0 : Int32), iv (0 : Int32), iv (0 : Int32), .unset, .unset, .unset] [(.ref a_TRUE), (.ref r_117)])) X1087 hx rfl rfl rfl (pc0 := 191) (pc' := 203) (same := false) rfl (hb hby at_191) rfl (decide_eq_false fun q => (fun z => ne_a_FALSE_a_TRUE (hv1055.symm.trans z)) (Value.ref.inj q)) (by decide) (by decide) ?_
          refine XS.aload X1087.here hx rfl (hb hby at_203) rfl rfl ?_
          exact kt
        obtain ⟨T1090, X1090, e1090, st1090⟩ := getS2 X1087 hx hZ hown (host := "") (Or.inl (W 10 rfl)) Via.refl e1087 (G4.ext O1084.2) (g := (mkF m 205 #[iv p0, iv p1, iv p2, iv p3, iv (p0 &&& (3 : Int32)), iv mv, rv r_105, rv r_108, rv r_111, rv r_114, rv r_117, rv b120, iv (0 : Int32), iv (0 : Int32), iv (0 : Int32), .unset, .unset, .unset] [(.ref r_117)])) rfl (hb hby at_205)
        have pre1091 : ∀ t, Steps p.tables e below (T1090.setTop (mkF m 208 #[iv p0, iv p1, iv p2, iv p3, iv (p0 &&& (3 : Int32)), iv mv, rv r_105, rv r_108, rv r_111, rv r_114, rv r_117, rv b120, iv (0 : Int32), iv (0 : Int32), iv (0 : Int32), .unset, .unset, .unset] [(.ref a_FALSE), (.ref r_117)])) t → Steps p.tables e below (s₁.setTop (entryFrame m #[(.int p0), (.int p1), (.int p2), (.int p3)] maxLocals)) t := fun t kt => pre1089 _ (st1090 _ kt)
        have pre1092 : ∀ t, Steps p.tables e below (T1090.setTop (mkF m 231 #[iv p0, iv p1, iv p2, iv p3, iv (p0 &&& (3 : Int32)), iv mv, rv r_105, rv r_108, rv r_111, rv r_114, rv r_117, rv b120, iv (0 : Int32), iv (1 : Int32), iv (0 : Int32), .unset, .unset, .unset] [])) t → Steps p.tables e below (s₁.setTop (entryFrame m #[(.int p0), (.int p1), (.int p2), (.int p3)] maxLocals)) t := fun t kt => by
          refine pre1091 _ ?_
          show Steps p.tables e below (T1090.setTop (mkF m 208 #[iv p0, iv p1, iv p2, iv p3, iv (p0 &&& (3 : Int32)), iv mv, rv r_105, rv r_108, rv r_111, rv r_114, rv r_117, rv b120, iv (0 : Int32), iv (0 : Int32), iv (0 : Int32), .unset, .unset, .unset] [(.ref a_FALSE), (.ref r_117)])) _
          refine Jvm.RoadKit.acmp (g := (mkF m 208 #[iv p0, iv p1, iv p2, iv p3, iv (p0 &&& (3 : Int32)), iv mv, rv r_105, rv r_108, rv r_111, rv r_114, rv r_117, rv b120, iv (0 : Int32), iv (0 : Int32), iv (0 : Int32), .unset, .unset, .unset] [(.ref a_FALSE), (.ref r_117)])) X1090 hx rfl rfl rfl (pc0 := 208) (pc' := 211) (same := true) rfl (hb hby at_208) rfl (decide_eq_true (congrArg Value.ref hv1055)) (by decide) (by decide) ?_
          refine XS.iload X1090.here hx rfl (hb hby at_211) rfl ?_
          refine XS.iconst X1090.here hx rfl (hb hby at_213) ?_
          refine XS.iadd X1090.here hx rfl (hb hby at_214) rfl ?_
          show  Steps p.tables e below (T1090.setTop (mkF m 215 #[iv p0, iv p1, iv p2, iv p3, iv (p0 &&& (3 : Int32)), iv mv, rv r_105, rv r_108, rv r_111, rv r_114, rv r_117, rv b120, iv (0 : Int32), iv (0 : Int32), iv (0 : Int32), .unset, .unset, .unset] [(.int ((0 : Int32) + (1 : Int32)))])) _
          rw [(by decide : (((0 : Int32) + (1 : Int32)) : Int32) = (1 : Int32))]
          show Steps p.tables e below (T1090.setTop (mkF m 215 #[iv p0, iv p1, iv p2, iv p3, iv (p0 &&& (3 : Int32)), iv mv, rv r_105, rv r_108, rv r_111, rv r_114, rv r_117, rv b120, iv (0 : Int32), iv (0 : Int32), iv (0 : Int32), .unset, .unset, .unset] [(.int (1 : Int32))])) _
          refine XS.istore X1090.here hx rfl (hb hby at_215) rfl (l' := #[iv p0, iv p1, iv p2, iv p3, iv (p0 &&& (3 : Int32)), iv mv, rv r_105, rv r_108, rv r_111, rv r_114, rv r_117, rv b120, iv (0 : Int32), iv (1 : Int32), iv (0 : Int32), .unset, .unset, .unset]) rfl ?_
          refine XS.goto X1090.here hx rfl (pc0 := 217) (pc' := 226) rfl (hb hby at_217) (by decide) (by decide) ?_
          refine XS.iload X1090.here hx rfl (hb hby at_226) rfl ?_
          refine XS.ifNo X1090.here hx rfl (hb hby at_228) rfl (XT.i0_le_f (by decide)) ?_
          exact kt
        obtain ⟨T1093, X1093, e1093, st1093⟩ := getS2 X1090 hx hZ hown (host := "") (Or.inl (W 10 rfl)) Via.refl e1090 (G4.ext O1084.2) (g := (mkF m 231 #[iv p0, iv p1, iv p2, iv p3, iv (p0 &&& (3 : Int32)), iv mv, rv r_105, rv r_108, rv r_111, rv r_114, rv r_117, rv b120, iv (0 : Int32), iv (1 : Int32), iv (0 : Int32), .unset, .unset, .unset] [])) rfl (hb hby at_231)
        have pre1094 : ∀ t, Steps p.tables e below (T1093.setTop (mkF m 234 #[iv p0, iv p1, iv p2, iv p3, iv (p0 &&& (3 : Int32)), iv mv, rv r_105, rv r_108, rv r_111, rv r_114, rv r_117, rv b120, iv (0 : Int32), iv (1 : Int32), iv (0 : Int32), .unset, .unset, .unset] [(.ref a_FALSE)])) t → Steps p.tables e below (s₁.setTop (entryFrame m #[(.int p0), (.int p1), (.int p2), (.int p3)] maxLocals)) t := fun t kt => pre1092 _ (st1093 _ kt)
        have pre1095 : ∀ t, Steps p.tables e below (T1093.setTop (mkF m 275 #[iv p0, iv p1, iv p2, iv p3, iv (p0 &&& (3 : Int32)), iv mv, rv r_105, rv r_108, rv r_111, rv r_114, rv r_117, rv b120, iv (0 : Int32), iv (1 : Int32), iv (0 : Int32), rv a_FALSE, .unset, .unset] [])) t → Steps p.tables e below (s₁.setTop (entryFrame m #[(.int p0), (.int p1), (.int p2), (.int p3)] maxLocals)) t := fun t kt => by
          refine pre1094 _ ?_
          show Steps p.tables e below (T1093.setTop (mkF m 234 #[iv p0, iv p1, iv p2, iv p3, iv (p0 &&& (3 : Int32)), iv mv, rv r_105, rv r_108, rv r_111, rv r_114, rv r_117, rv b120, iv (0 : Int32), iv (1 : Int32), iv (0 : Int32), .unset, .unset, .unset] [(.ref a_FALSE)])) _
          refine XS.goto X1093.here hx rfl (pc0 := 234) (pc' := 251) rfl (hb hby at_234) (by decide) (by decide) ?_
          refine XS.astore X1093.here hx rfl (hb hby at_251) rfl rfl (l' := #[iv p0, iv p1, iv p2, iv p3, iv (p0 &&& (3 : Int32)), iv mv, rv r_105, rv r_108, rv r_111, rv r_114, rv r_117, rv b120, iv (0 : Int32), iv (1 : Int32), iv (0 : Int32), rv a_FALSE, .unset, .unset]) rfl ?_
          refine XS.iload X1093.here hx rfl (hb hby at_253) rfl ?_
          refine XS.ifYes X1093.here hx rfl (pc0 := 255) (pc' := 264) rfl (hb hby at_255) rfl (XT.i0_le_t (by decide)) (by decide) (by decide) ?_
          show Steps p.tables e below (T1093.setTop (mkF m 264 #[iv p0, iv p1, iv p2, iv p3, iv (p0 &&& (3 : Int32)), iv mv, rv r_105, rv r_108, rv r_111, rv r_114, rv r_117, rv b120, iv (0 : Int32), iv (1 : Int32), iv (0 : Int32), rv a_FALSE, .unset, .unset] [])) _
          refine XS.iload X1093.here hx rfl (hb hby at_264) rfl ?_
          refine XS.ifYes X1093.here hx rfl (pc0 := 266) (pc' := 275) rfl (hb hby at_266) rfl (XT.i0_le_t (by decide)) (by decide) (by decide) ?_
          exact kt
        obtain ⟨T1096, X1096, e1096, st1096⟩ := getS2 X1093 hx hZ hown (host := "") (Or.inl (W 10 rfl)) Via.refl e1093 (G4.ext O1084.2) (g := (mkF m 275 #[iv p0, iv p1, iv p2, iv p3, iv (p0 &&& (3 : Int32)), iv mv, rv r_105, rv r_108, rv r_111, rv r_114, rv r_117, rv b120, iv (0 : Int32), iv (1 : Int32), iv (0 : Int32), rv a_FALSE, .unset, .unset] [])) rfl (hb hby at_275)
        have pre1097 : ∀ t, Steps p.tables e below (T1096.setTop (mkF m 278 #[iv p0, iv p1, iv p2, iv p3, iv (p0 &&& (3 : Int32)), iv mv, rv r_105, rv r_108, rv r_111, rv r_114, rv r_117, rv b120, iv (0 : Int32), iv (1 : Int32), iv (0 : Int32), rv a_FALSE, .unset, .unset] [(.ref a_FALSE)])) t → Steps p.tables e below (s₁.setTop (entryFrame m #[(.int p0), (.int p1), (.int p2), (.int p3)] maxLocals)) t := fun t kt => pre1095 _ (st1096 _ kt)
        have pre1098 : ∀ t, Steps p.tables e below (T1096.setTop (mkF m 303 #[iv p0, iv p1, iv p2, iv p3, iv (p0 &&& (3 : Int32)), iv mv, rv r_105, rv r_108, rv r_111, rv r_114, rv r_117, rv b120, iv (0 : Int32), iv (1 : Int32), iv (0 : Int32), rv a_FALSE, rv a_FALSE, .unset] [])) t → Steps p.tables e below (s₁.setTop (entryFrame m #[(.int p0), (.int p1), (.int p2), (.int p3)] maxLocals)) t := fun t kt => by
          refine pre1097 _ ?_
          show Steps p.tables e below (T1096.setTop (mkF m 278 #[iv p0, iv p1, iv p2, iv p3, iv (p0 &&& (3 : Int32)), iv mv, rv r_105, rv r_108, rv r_111, rv r_114, rv r_117, rv b120, iv (0 : Int32), iv (1 : Int32), iv (0 : Int32), rv a_FALSE, .unset, .unset] [(.ref a_FALSE)])) _
          refine XS.astore X1096.here hx rfl (hb hby at_278) rfl rfl (l' := #[iv p0, iv p1, iv p2, iv p3, iv (p0 &&& (3 : Int32)), iv mv, rv r_105, rv r_108, rv r_111, rv r_114, rv r_117, rv b120, iv (0 : Int32), iv (1 : Int32), iv (0 : Int32), rv a_FALSE, rv a_FALSE, .unset]) rfl ?_
          refine XS.iload X1096.here hx rfl (hb hby at_280) rfl ?_
          refine XS.ifYes X1096.here hx rfl (pc0 := 282) (pc' := 291) rfl (hb hby at_282) rfl (XT.i0_le_t (by decide)) (by decide) (by decide) ?_
          refine XS.iload X1096.here hx rfl (hb hby at_291) rfl ?_
          show Steps p.tables e below (T1096.setTop (mkF m 293 #[iv p0, iv p1, iv p2, iv p3, iv (p0 &&& (3 : Int32)), iv mv, rv r_105, rv r_108, rv r_111, rv r_114, rv r_117, rv b120, iv (0 : Int32), iv (1 : Int32), iv (0 : Int32), rv a_FALSE, rv a_FALSE, .unset] [(.int (0 : Int32))])) _
          refine XS.iconst X1096.here hx rfl (hb hby at_293) ?_
          refine XS.icmpYes X1096.here hx rfl (pc0 := 294) (pc' := 303) rfl (hb hby at_294) rfl (XT.ii_ne_t (by decide)) (by decide) (by decide) ?_
          exact kt
        obtain ⟨T1099, X1099, e1099, st1099⟩ := getS2 X1096 hx hZ hown (host := "") (Or.inl (W 10 rfl)) Via.refl e1096 (G4.ext O1084.2) (g := (mkF m 303 #[iv p0, iv p1, iv p2, iv p3, iv (p0 &&& (3 : Int32)), iv mv, rv r_105, rv r_108, rv r_111, rv r_114, rv r_117, rv b120, iv (0 : Int32), iv (1 : Int32), iv (0 : Int32), rv a_FALSE, rv a_FALSE, .unset] [])) rfl (hb hby at_303)
        have pre1100 : ∀ t, Steps p.tables e below (T1099.setTop (mkF m 306 #[iv p0, iv p1, iv p2, iv p3, iv (p0 &&& (3 : Int32)), iv mv, rv r_105, rv r_108, rv r_111, rv r_114, rv r_117, rv b120, iv (0 : Int32), iv (1 : Int32), iv (0 : Int32), rv a_FALSE, rv a_FALSE, .unset] [(.ref a_FALSE)])) t → Steps p.tables e below (s₁.setTop (entryFrame m #[(.int p0), (.int p1), (.int p2), (.int p3)] maxLocals)) t := fun t kt => pre1098 _ (st1099 _ kt)
        have pre1101 : ∀ t, Steps p.tables e below (T1099.setTop (mkF m 310 #[iv p0, iv p1, iv p2, iv p3, iv (p0 &&& (3 : Int32)), iv mv, rv r_105, rv r_108, rv r_111, rv r_114, rv r_117, rv b120, iv (0 : Int32), iv (1 : Int32), iv (0 : Int32), rv a_FALSE, rv a_FALSE, rv a_FALSE] [(.ref b120)])) t → Steps p.tables e below (s₁.setTop (entryFrame m #[(.int p0), (.int p1), (.int p2), (.int p3)] maxLocals)) t := fun t kt => by
          refine pre1100 _ ?_
          show Steps p.tables e below (T1099.setTop (mkF m 306 #[iv p0, iv p1, iv p2, iv p3, iv (p0 &&& (3 : Int32)), iv mv, rv r_105, rv r_108, rv r_111, rv r_114, rv r_117, rv b120, iv (0 : Int32), iv (1 : Int32), iv (0 : Int32), rv a_FALSE, rv a_FALSE, .unset] [(.ref a_FALSE)])) _
          refine XS.astore X1099.here hx rfl (hb hby at_306) rfl rfl (l' := #[iv p0, iv p1, iv p2, iv p3, iv (p0 &&& (3 : Int32)), iv mv, rv r_105, rv r_108, rv r_111, rv r_114, rv r_117, rv b120, iv (0 : Int32), iv (1 : Int32), iv (0 : Int32), rv a_FALSE, rv a_FALSE, rv a_FALSE]) rfl ?_
          refine XS.aload X1099.here hx rfl (hb hby at_308) rfl rfl ?_
          exact kt
        obtain ⟨cq1102, kq1102, q1102a, q1102b, q1102c⟩ := isOf hZ e1099 J1084_0
        obtain ⟨_, _, ⟨T1102, L1102, k1102, n1102⟩, -, X1102, ⟨Lc1102, hQ1102, l1102, y1102, z1102⟩, st1102⟩ := X1099.virtualBack hx (y := (⟨"com/example/contexture/contexture/engine/evaluation/TruthValue$Tally", "and", "()Lcom/example/contexture/contexture/engine/evaluation/TruthValue;"⟩ : MethodName)) (z := (⟨"com/example/contexture/contexture/engine/evaluation/TruthValue$Tally", "and", "()Lcom/example/contexture/contexture/engine/evaluation/TruthValue;"⟩ : MethodName)) hown (mvT hZ (W 46 rfl)) (mvT hZ (W 47 rfl)) (notFace_of_selects (args := #[]) (mvT hZ (W 49 rfl))) (mvT hZ (W 49 rfl)) (mvT hZ (W 48 rfl)) (by decide) (backOf (W := 0) (rm_and7_1 l Z a0 hw [] b120 a_FALSE h1084 n0 O1084 G4 J1084_2) hZ (W 50 rfl) (W 14 rfl) (by decide) (by decide)) q1102a q1102c (g := (mkF m 310 #[iv p0, iv p1, iv p2, iv p3, iv (p0 &&& (3 : Int32)), iv mv, rv r_105, rv r_108, rv r_111, rv r_114, rv r_117, rv b120, iv (0 : Int32), iv (1 : Int32), iv (0 : Int32), rv a_FALSE, rv a_FALSE, rv a_FALSE] [(.ref b120)])) rfl (by rw [hml]; rfl) (Steps.refl _) (argsL := []) (rest := []) (lenOf pd_16 rfl) rfl (by show 2 * 0 + _ ≤ _; exact Nat.le_of_eq rfl) (hb hby at_310) (fun _ _ => ⟨rfl, e1099, (by decide : 1 + 0 ≤ _), (by decide : 3 + 0 ≤ _)⟩)
        dsimp only [Pt.U, Pt.locs, Pt.cells, Pt.slots] at X1102 l1102 y1102 z1102 st1102 hQ1102
        replace l1102 := l1102.symm
        replace y1102 : 1 = k1102 := y1102.symm
        replace z1102 : 3 = n1102 := z1102.symm
        subst l1102 y1102 z1102
        obtain ⟨rfl, M1102, e1102⟩ := hQ1102
        have N1102 := Fr.app N1084 M1102
        have pre1103 : ∀ t, Steps p.tables e below (T1102.setTop (mkF m 313 #[iv p0, iv p1, iv p2, iv p3, iv (p0 &&& (3 : Int32)), iv mv, rv r_105, rv r_108, rv r_111, rv r_114, rv r_117, rv b120, iv (0 : Int32), iv (1 : Int32), iv (0 : Int32), rv a_FALSE, rv a_FALSE, rv a_FALSE] [(.ref a_FALSE)])) t → Steps p.tables e below (s₁.setTop (entryFrame m #[(.int p0), (.int p1), (.int p2), (.int p3)] maxLocals)) t := fun t kt => pre1101 _ (st1102.trans kt)
        have pre1104 : ∀ t, Steps p.tables e below (T1102.setTop (mkF m 320 #[iv p0, iv p1, iv p2, iv p3, iv (p0 &&& (3 : Int32)), iv mv, rv r_105, rv r_108, rv r_111, rv r_114, rv r_117, rv b120, iv (0 : Int32), iv (1 : Int32), iv (0 : Int32), rv a_FALSE, rv a_FALSE, rv a_FALSE] [(.ref b120)])) t → Steps p.tables e below (s₁.setTop (entryFrame m #[(.int p0), (.int p1), (.int p2), (.int p3)] maxLocals)) t := fun t kt => by
          refine pre1103 _ ?_
          show Steps p.tables e below (T1102.setTop (mkF m 313 #[iv p0, iv p1, iv p2, iv p3, iv (p0 &&& (3 : Int32)), iv mv, rv r_105, rv r_108, rv r_111, rv r_114, rv r_117, rv b120, iv (0 : Int32), iv (1 : Int32), iv (0 : Int32), rv a_FALSE, rv a_FALSE, rv a_FALSE] [(.ref a_FALSE)])) _
          refine XS.aload X1102.here hx rfl (hb hby at_313) rfl rfl ?_
          refine Jvm.RoadKit.acmp (g := (mkF m 315 #[iv p0, iv p1, iv p2, iv p3, iv (p0 &&& (3 : Int32)), iv mv, rv r_105, rv r_108, rv r_111, rv r_114, rv r_117, rv b120, iv (0 : Int32), iv (1 : Int32), iv (0 : Int32), rv a_FALSE, rv a_FALSE, rv a_FALSE] [(.ref a_FALSE), (.ref a_FALSE)])) X1102 hx rfl rfl rfl (pc0 := 315) (pc' := 318) (same := true) rfl (hb hby at_315) rfl (decide_eq_true rfl) (by decide) (by decide) ?_
          refine XS.aload X1102.here hx rfl (hb hby at_318) rfl rfl ?_
          exact kt
        obtain ⟨cq1105, kq1105, q1105a, q1105b, q1105c⟩ := isOf hZ e1102 J1084_0
        obtain ⟨_, _, ⟨T1105, L1105, k1105, n1105⟩, -, X1105, ⟨Lc1105, hQ1105, l1105, y1105, z1105⟩, st1105⟩ := X1102.virtualBack hx (y := (⟨"com/example/contexture/contexture/engine/evaluation/TruthValue$Tally", "or", "()Lcom/example/contexture/contexture/engine/evaluation/TruthValue;"⟩ : MethodName)) (z := (⟨"com/example/contexture/contexture/engine/evaluation/TruthValue$Tally", "or", "()Lcom/example/contexture/contexture/engine/evaluation/TruthValue;"⟩ : MethodName)) hown (mvT hZ (W 52 rfl)) (mvT hZ (W 53 rfl)) (notFace_of_selects (args := #[]) (mvT hZ (W 55 rfl))) (mvT hZ (W 55 rfl)) (mvT hZ (W 54 rfl)) (by decide) (backOf (W := 0) (rm_or8_2 l Z a0 hw [] b120 a_FALSE h1084 n0 O1084 G4 J1084_0 J1084_1 J1084_3) hZ (W 56 rfl) (W 14 rfl) (by decide) (by decide)) q1105a q1105c (g := (mkF m 320 #[iv p0, iv p1, iv p2, iv p3, iv (p0 &&& (3 : Int32)), iv mv, rv r_105, rv r_108, rv r_111, rv r_114, rv r_117, rv b120, iv (0 : Int32), iv (1 : Int32), iv (0 : Int32), rv a_FALSE, rv a_FALSE, rv a_FALSE] [(.ref b120)])) rfl (by rw [hml]; rfl) (Steps.refl _) (argsL := []) (rest := []) (lenOf pd_16 rfl) rfl (by show 2 * 0 + _ ≤ _; exact Nat.le_of_eq rfl) (hb hby at_320) (fun _ _ => ⟨rfl, e1102, (by decide : 1 + 0 ≤ _), (by decide : 3 + 0 ≤ _)⟩)
        dsimp only [Pt.U, Pt.locs, Pt.cells, Pt.slots] at X1105 l1105 y1105 z1105 st1105 hQ1105
        replace l1105 := l1105.symm
        replace y1105 : 1 = k1105 := y1105.symm
        replace z1105 : 3 = n1105 := z1105.symm
        subst l1105 y1105 z1105
        obtain ⟨rfl, M1105, e1105⟩ := hQ1105
        have N1105 := Fr.app N1102 M1105
        have pre1106 : ∀ t, Steps p.tables e below (T1105.setTop (mkF m 323 #[iv p0, iv p1, iv p2, iv p3, iv (p0 &&& (3 : Int32)), iv mv, rv r_105, rv r_108, rv r_111, rv r_114, rv r_117, rv b120, iv (0 : Int32), iv (1 : Int32), iv (0 : Int32), rv a_FALSE, rv a_FALSE, rv a_FALSE] [(.ref a_FALSE)])) t → Steps p.tables e below (s₁.setTop (entryFrame m #[(.int p0), (.int p1), (.int p2), (.int p3)] maxLocals)) t := fun t kt => pre1104 _ (st1105.trans kt)
        have pre1107 : ∀ t, Steps p.tables e below (T1105.setTop (mkF m 330 #[iv p0, iv p1, iv p2, iv p3, iv (p0 &&& (3 : Int32)), iv mv, rv r_105, rv r_108, rv r_111, rv r_114, rv r_117, rv b120, iv (0 : Int32), iv (1 : Int32), iv (0 : Int32), rv a_FALSE, rv a_FALSE, rv a_FALSE] [(.ref b120)])) t → Steps p.tables e below (s₁.setTop (entryFrame m #[(.int p0), (.int p1), (.int p2), (.int p3)] maxLocals)) t := fun t kt => by
          refine pre1106 _ ?_
          show Steps p.tables e below (T1105.setTop (mkF m 323 #[iv p0, iv p1, iv p2, iv p3, iv (p0 &&& (3 : Int32)), iv mv, rv r_105, rv r_108, rv r_111, rv r_114, rv r_117, rv b120, iv (0 : Int32), iv (1 : Int32), iv (0 : Int32), rv a_FALSE, rv a_FALSE, rv a_FALSE] [(.ref a_FALSE)])) _
          refine XS.aload X1105.here hx rfl (hb hby at_323) rfl rfl ?_
          refine Jvm.RoadKit.acmp (g := (mkF m 325 #[iv p0, iv p1, iv p2, iv p3, iv (p0 &&& (3 : Int32)), iv mv, rv r_105, rv r_108, rv r_111, rv r_114, rv r_117, rv b120, iv (0 : Int32), iv (1 : Int32), iv (0 : Int32), rv a_FALSE, rv a_FALSE, rv a_FALSE] [(.ref a_FALSE), (.ref a_FALSE)])) X1105 hx rfl rfl rfl (pc0 := 325) (pc' := 328) (same := true) rfl (hb hby at_325) rfl (decide_eq_true rfl) (by decide) (by decide) ?_
          refine XS.aload X1105.here hx rfl (hb hby at_328) rfl rfl ?_
          exact kt
        obtain ⟨cq1108, kq1108, q1108a, q1108b, q1108c⟩ := isOf hZ e1105 J1084_0
        obtain ⟨_, _, ⟨T1108, L1108, k1108, n1108⟩, -, X1108, ⟨Lc1108, hQ1108, l1108, y1108, z1108⟩, st1108⟩ := X1105.virtualBack hx (y := (⟨"com/example/contexture/contexture/engine/evaluation/TruthValue$Tally", "xor", "()Lcom/example/contexture/contexture/engine/evaluation/TruthValue;"⟩ : MethodName)) (z := (⟨"com/example/contexture/contexture/engine/evaluation/TruthValue$Tally", "xor", "()Lcom/example/contexture/contexture/engine/evaluation/TruthValue;"⟩ : MethodName)) hown (mvT hZ (W 58 rfl)) (mvT hZ (W 59 rfl)) (notFace_of_selects (args := #[]) (mvT hZ (W 61 rfl))) (mvT hZ (W 61 rfl)) (mvT hZ (W 60 rfl)) (by decide) (backOf (W := 0) (rm_xor9_3 l Z a0 hw [] b120 a_FALSE h1084 n0 O1084 G4 J1084_0 J1084_1 J1084_3) hZ (W 62 rfl) (W 14 rfl) (by decide) (by decide)) q1108a q1108c (g := (mkF m 330 #[iv p0, iv p1, iv p2, iv p3, iv (p0 &&& (3 : Int32)), iv mv, rv r_105, rv r_108, rv r_111, rv r_114, rv r_117, rv b120, iv (0 : Int32), iv (1 : Int32), iv (0 : Int32), rv a_FALSE, rv a_FALSE, rv a_FALSE] [(.ref b120)])) rfl (by rw [hml]; rfl) (Steps.refl _) (argsL := []) (rest := []) (lenOf pd_16 rfl) rfl (by show 2 * 0 + _ ≤ _; exact Nat.le_of_eq rfl) (hb hby at_330) (fun _ _ => ⟨rfl, e1105, (by decide : 1 + 0 ≤ _), (by decide : 3 + 0 ≤ _)⟩)
        dsimp only [Pt.U, Pt.locs, Pt.cells, Pt.slots] at X1108 l1108 y1108 z1108 st1108 hQ1108
        replace l1108 := l1108.symm
        replace y1108 : 1 = k1108 := y1108.symm
        replace z1108 : 3 = n1108 := z1108.symm
        subst l1108 y1108 z1108
        obtain ⟨rfl, M1108, e1108⟩ := hQ1108
        have N1108 := Fr.app N1105 M1108
        have pre1109 : ∀ t, Steps p.tables e below (T1108.setTop (mkF m 333 #[iv p0, iv p1, iv p2, iv p3, iv (p0 &&& (3 : Int32)), iv mv, rv r_105, rv r_108, rv r_111, rv r_114, rv r_117, rv b120, iv (0 : Int32), iv (1 : Int32), iv (0 : Int32), rv a_FALSE, rv a_FALSE, rv a_FALSE] [(.ref a_FALSE)])) t → Steps p.tables e below (s₁.setTop (entryFrame m #[(.int p0), (.int p1), (.int p2), (.int p3)] maxLocals)) t := fun t kt => pre1107 _ (st1108.trans kt)
        have pre1110 : ∀ t, Steps p.tables e below (T1108.setTop (mkF m 343 #[iv p0, iv p1, iv p2, iv p3, iv (p0 &&& (3 : Int32)), iv mv, rv r_105, rv r_108, rv r_111, rv r_114, rv r_117, rv b120, iv (0 : Int32), iv (1 : Int32), iv (0 : Int32), rv a_FALSE, rv a_FALSE, rv a_FALSE] [(.int (1 : Int32))])) t → Steps p.tables e below (s₁.setTop (entryFrame m #[(.int p0), (.int p1), (.int p2), (.int p3)] maxLocals)) t := fun t kt => by
          refine pre1109 _ ?_
          show Steps p.tables e below (T1108.setTop (mkF m 333 #[iv p0, iv p1, iv p2, iv p3, iv (p0 &&& (3 : Int32)), iv mv, rv r_105, rv r_108, rv r_111, rv r_114, rv r_117, rv b120, iv (0 : Int32), iv (1 : Int32), iv (0 : Int32), rv a_FALSE, rv a_FALSE, rv a_FALSE] [(.ref a_FALSE)])) _
          refine XS.aload X1108.here hx rfl (hb hby at_333) rfl rfl ?_
          refine Jvm.RoadKit.acmp (g := (mkF m 335 #[iv p0, iv p1, iv p2, iv p3, iv (p0 &&& (3 : Int32)), iv mv, rv r_105, rv r_108, rv r_111, rv r_114, rv r_117, rv b120, iv (0 : Int32), iv (1 : Int32), iv (0 : Int32), rv a_FALSE, rv a_FALSE, rv a_FALSE] [(.ref a_FALSE), (.ref a_FALSE)])) X1108 hx rfl rfl rfl (pc0 := 335) (pc' := 338) (same := true) rfl (hb hby at_335) rfl (decide_eq_true rfl) (by decide) (by decide) ?_
          refine XS.iconst X1108.here hx rfl (hb hby at_338) ?_
          refine XS.goto X1108.here hx rfl (pc0 := 339) (pc' := 343) rfl (hb hby at_339) (by decide) (by decide) ?_
          exact kt
        obtain ⟨fs, hr, hrun, hended, hW, hsame⟩ := X1108.leave (v := some (.int (1 : Int32))) (fun h => by rw [Bd.returns] at h; cases h)
        refine ⟨_, _, pre1110 _ (retN X1108 hx (t := .boolean) Bd.returns (by simp) (hb hby at_343) hr), hrun, hended, _, _, rfl, ?_, ⟨_, rfl⟩, hW, hsame.mono (by decide) (by decide)⟩
        show Q_law Z p0 p1 p2 p3 a_UNKNOWN a_TRUE a_FALSE h0 n0 _ T1108.heap _
        rw [e1108]
        exact ⟨rfl, N1108⟩
      · have Gr1111 : Exa Z Z.heap r_117 "com/example/contexture/contexture/engine/evaluation/TruthValue" := hv1055 ▸ G1
        have Gr1112 : Fld Z Z.heap r_117 "java/lang/Enum" "ordinal" "I" (.int (2 : Int32)) := hv1055 ▸ G8
        obtain ⟨cq1113, kq1113, q1113a, q1113b, q1113c⟩ := isOf hZ e206 J206_0
        obtain ⟨_, _, ⟨T1113, L1113, k1113, n1113⟩, -, X1113, ⟨Lc1113, hQ1113, l1113, y1113, z1113⟩, st1113⟩ := X206.virtualBack hx (y := (⟨"com/example/contexture/contexture/engine/evaluation/TruthValue$Tally", "add", "(Lcom/example/contexture/contexture/engine/evaluation/TruthValue;)V"⟩ : MethodName)) (z := (⟨"com/example/contexture/contexture/engine/evaluation/TruthValue$Tally", "add", "(Lcom/example/contexture/contexture/engine/evaluation/TruthValue;)V"⟩ : MethodName)) hown (mvT hZ (W 32 rfl)) (mvT hZ (W 33 rfl)) (notFace_of_selects (args := #[]) (mvT hZ (W 35 rfl))) (mvT hZ (W 35 rfl)) (mvT hZ (W 34 rfl)) (by decide) (backOf (W := 0) (rm_add2 l Z a0 hw [] b120 r_117 ((0 : Int32)) ((0 : Int32)) ((0 : Int32)) h206 n0 O206 Gr1111 Gr1112 g_b120 J206_0 J206_1 J206_2 J206_3) hZ (W 36 rfl) (W 14 rfl) (by decide) (by decide)) q1113a q1113c (g := (mkF m 123 #[iv p0, iv p1, iv p2, iv p3, iv (p0 &&& (3 : Int32)), iv mv, rv r_105, rv r_108, rv r_111, rv r_114, rv r_117, rv b120, .unset, .unset, .unset, .unset, .unset, .unset] [(.ref r_117), (.ref b120)])) rfl (by rw [hml]; rfl) (Steps.refl _) (argsL := [(.ref r_117)]) (rest := []) (lenOf pd_12 rfl) rfl (by show 2 * 0 + _ ≤ _; exact Nat.le_of_eq rfl) (hb hby at_123) (fun _ _ => ⟨rfl, e206, (by decide : 1 + 0 ≤ _), (by decide : 3 + 0 ≤ _)⟩)
        dsimp only [Pt.U, Pt.locs, Pt.cells, Pt.slots] at X1113 l1113 y1113 z1113 st1113 hQ1113
        replace l1113 := l1113.symm
        replace y1113 : 1 = k1113 := y1113.symm
        replace z1113 : 3 = n1113 := z1113.symm
        subst l1113 y1113 z1113
        obtain ⟨rfl, M1113, Kc1113, O1113, J1113_0, J1113_1, J1113_2, J1113_3⟩ := hQ1113
        obtain ⟨h1113, e1113⟩ : ∃ z, T1113.heap = z := ⟨_, rfl⟩
        rw [e1113] at Kc1113 O1113 J1113_0 J1113_1 J1113_2 J1113_3
        have N1113 := Fr.app N206 M1113
        have K1113 : Keep h0 h1113 [] := K206.trans Kc1113 (own_all1 (Or.inr sz_b120))
        have pre1114 : ∀ t, Steps p.tables e below (T1113.setTop (mkF m 126 #[iv p0, iv p1, iv p2, iv p3, iv (p0 &&& (3 : Int32)), iv mv, rv r_105, rv r_108, rv r_111, rv r_114, rv r_117, rv b120, .unset, .unset, .unset, .unset, .unset, .unset] [])) t → Steps p.tables e below (s₁.setTop (entryFrame m #[(.int p0), (.int p1), (.int p2), (.int p3)] maxLocals)) t := fun t kt => pre1054 _ (st1113.trans kt)
        have pre1115 : ∀ t, Steps p.tables e below (T1113.setTop (mkF m 188 #[iv p0, iv p1, iv p2, iv p3, iv (p0 &&& (3 : Int32)), iv mv, rv r_105, rv r_108, rv r_111, rv r_114, rv r_117, rv b120, iv (0 : Int32), iv (0 : Int32), iv (0 : Int32), .unset, .unset, .unset] [(.ref r_117)])) t → Steps p.tables e below (s₁.setTop (entryFrame m #[(.int p0), (.int p1), (.int p2), (.int p3)] maxLocals)) t := fun t kt => by
          refine pre1114 _ ?_
          show Steps p.tables e below (T1113.setTop (mkF m 126 #[iv p0, iv p1, iv p2, iv p3, iv (p0 &&& (3 : Int32)), iv mv, rv r_105, rv r_108, rv r_111, rv r_114, rv r_117, rv b120, .unset, .unset, .unset, .unset, .unset, .unset] [])) _
          refine XS.iconst X1113.here hx rfl (hb hby at_126) ?_
          refine XS.istore X1113.here hx rfl (hb hby at_127) rfl (l' := #[iv p0, iv p1, iv p2, iv p3, iv (p0 &&& (3 : Int32)), iv mv, rv r_105, rv r_108, rv r_111, rv r_114, rv r_117, rv b120, iv (0 : Int32), .unset, .unset, .unset, .unset, .unset]) rfl ?_
          refine XS.iconst X1113.here hx rfl (hb hby at_129) ?_
          refine XS.istore X1113.here hx rfl (hb hby at_130) rfl (l' := #[iv p0, iv p1, iv p2, iv p3, iv (p0 &&& (3 : Int32)), iv mv, rv r_105, rv r_108, rv r_111, rv r_114, rv r_117, rv b120, iv (0 : Int32), iv (0 : Int32), .unset, .unset, .unset, .unset]) rfl ?_
          show Steps p.tables e below (T1113.setTop (mkF m 132 #[iv p0, iv p1, iv p2, iv p3, iv (p0 &&& (3 : Int32)), iv mv, rv r_105, rv r_108, rv r_111, rv r_114, rv r_117, rv b120, iv (0 : Int32), iv (0 : Int32), .unset, .unset, .unset, .unset] [])) _
          refine XS.iconst X1113.here hx rfl (hb hby at_132) ?_
          refine XS.istore X1113.here hx rfl (hb hby at_133) rfl (l' := #[iv p0, iv p1, iv p2, iv p3, iv (p0 &&& (3 : Int32)), iv mv, rv r_105, rv r_108, rv r_111, rv r_114, rv r_117, rv b120, iv (0 : Int32), iv (0 : Int32), iv (0 : Int32), .unset, .unset, .unset]) rfl ?_
          refine XS.iload X1113.here hx rfl (hb hby at_135) rfl ?_
          refine XS.ifYes X1113.here hx rfl (pc0 := 137) (pc' := 180) rfl (hb hby at_137) rfl (XT.i0_le_t hc209) (by decide) (by decide) ?_
          show Steps p.tables e below (T1113.setTop (mkF m 180 #[iv p0, iv p1, iv p2, iv p3, iv (p0 &&& (3 : Int32)), iv mv, rv r_105, rv r_108, rv r_111, rv r_114, rv r_117, rv b120, iv (0 : Int32), iv (0 : Int32), iv (0 : Int32), .unset, .unset, .unset] [])) _
          refine XS.iload X1113.here hx rfl (hb hby at_180) rfl ?_
          refine XS.iconst X1113.here hx rfl (hb hby at_182) ?_
          refine XS.icmpNo X1113.here hx rfl (hb hby at_183) rfl (XT.ii_le_f hc1053) ?_
          refine XS.aload X1113.here hx rfl (hb hby at_186) rfl rfl ?_
          exact kt
        obtain ⟨T1116, X1116, e1116, st1116⟩ := getS2 X1113 hx hZ hown (host := "") (Or.inl (W 8 rfl)) Via.refl e1113 (G2.ext O1113.2) (g := (mkF m 188 #[iv p0, iv p1, iv p2, iv p3, iv (p0 &&& (3 : Int32)), iv mv, rv r_105, rv r_108, rv r_111, rv r_114, rv r_117, rv b120, iv (0 : Int32), iv (0 : Int32), iv (0 : Int32), .unset, .unset, .unset] [(.ref r_117)])) rfl (hb hby at_188)
        have pre1117 : ∀ t, Steps p.tables e below (T1116.setTop (mkF m 191 #[iv p0, iv p1, iv p2, iv p3, iv (p0 &&& (3 : Int32)), iv mv, rv r_105, rv r_108, rv r_111, rv r_114, rv r_117, rv b120, iv (0 : Int32), iv (0 : Int32), iv (0 : Int32), .unset, .unset, .unset] [(.ref a_TRUE), (.ref r_117)])) t → Steps p.tables e below (s₁.setTop (entryFrame m #[(.int p0), (.int p1), (.int p2), (.int p3)] maxLocals)) t := fun t kt => pre1115 _ (st1116 _ kt)
        have pre1118 : ∀ t, Steps p.tables e below (T1116.setTop (mkF m 205 #[iv p0, iv p1, iv p2, iv p3, iv (p0 &&& (3 : Int32)), iv mv, rv r_105, rv r_108, rv r_111, rv r_114, rv r_117, rv b120, iv (0 : Int32), iv (0 : Int32), iv (0 : Int32), .unset, .unset, .unset] [(.ref r_117)])) t → Steps p.tables e below (s₁.setTop (entryFrame m #[(.int p0), (.int p1), (.int p2), (.int p3)] maxLocals)) t := fun t kt => by
          refine pre1117 _ ?_
          show Steps p.tables e below (T1116.setTop (mkF m 191 #[iv p0, iv p1, iv p2, iv p3, iv (p0 &&& (3 : Int32)), iv mv, rv r_105, rv r_108, rv r_111, rv r_114, rv r_117, rv b120, iv (0 : Int32), iv (0 : Int32), iv (0 : Int32), .unset, .unset, .unset] [(.ref a_TRUE), (.ref r_117)])) _
          refine Jvm.RoadKit.acmp (g := (mkF m 191 #[iv p0, iv p1, iv p2, iv p3, iv (p0 &&& (3 : Int32)), iv mv, rv r_105, rv r_108, rv r_111, rv r_114, rv r_117, rv b120, iv (0 : Int32), iv (0 : Int32), iv (0 : Int32), .unset, .unset, .unset] [(.ref a_TRUE), (.ref r_117)])) X1116 hx rfl rfl rfl (pc0 := 191) (pc' := 203) (same := false) rfl (hb hby at_191) rfl (decide_eq_false fun q => (fun z => (fun q => ne_a_TRUE_a_UNKNOWN q.symm) (hv1055.symm.trans z)) (Value.ref.inj q)) (by decide) (by decide) ?_
          refine XS.aload X1116.here hx rfl (hb hby at_203) rfl rfl ?_
          exact kt
        obtain ⟨T1119, X1119, e1119, st1119⟩ := getS2 X1116 hx hZ hown (host := "") (Or.inl (W 10 rfl)) Via.refl e1116 (G4.ext O1113.2) (g := (mkF m 205 #[iv p0, iv p1, iv p2, iv p3, iv (p0 &&& (3 : Int32)), iv mv, rv r_105, rv r_108, rv r_111, rv r_114, rv r_117, rv b120, iv (0 : Int32), iv (0 : Int32), iv (0 : Int32), .unset, .unset, .unset] [(.ref r_117)])) rfl (hb hby at_205)
        have pre1120 : ∀ t, Steps p.tables e below (T1119.setTop (mkF m 208 #[iv p0, iv p1, iv p2, iv p3, iv (p0 &&& (3 : Int32)), iv mv, rv r_105, rv r_108, rv r_111, rv r_114, rv r_117, rv b120, iv (0 : Int32), iv (0 : Int32), iv (0 : Int32), .unset, .unset, .unset] [(.ref a_FALSE), (.ref r_117)])) t → Steps p.tables e below (s₁.setTop (entryFrame m #[(.int p0), (.int p1), (.int p2), (.int p3)] maxLocals)) t := fun t kt => pre1118 _ (st1119 _ kt)
        have pre1121 : ∀ t, Steps p.tables e below (T1119.setTop (mkF m 242 #[iv p0, iv p1, iv p2, iv p3, iv (p0 &&& (3 : Int32)), iv mv, rv r_105, rv r_108, rv r_111, rv r_114, rv r_117, rv b120, iv (0 : Int32), iv (0 : Int32), iv (1 : Int32), .unset, .unset, .unset] [])) t → Steps p.tables e below (s₁.setTop (entryFrame m #[(.int p0), (.int p1), (.int p2), (.int p3)] maxLocals)) t := fun t kt => by
          refine pre1120 _ ?_
          show Steps p.tables e below (T1119.setTop (mkF m 208 #[iv p0, iv p1, iv p2, iv p3, iv (p0 &&& (3 : Int32)), iv mv, rv r_105, rv r_108, rv r_111, rv r_114, rv r_117, rv b120, iv (0 : Int32), iv (0 : Int32), iv (0 : Int32), .unset, .unset, .unset] [(.ref a_FALSE), (.ref r_117)])) _
          refine Jvm.RoadKit.acmp (g := (mkF m 208 #[iv p0, iv p1, iv p2, iv p3, iv (p0 &&& (3 : Int32)), iv mv, rv r_105, rv r_108, rv r_111, rv r_114, rv r_117, rv b120, iv (0 : Int32), iv (0 : Int32), iv (0 : Int32), .unset, .unset, .unset] [(.ref a_FALSE), (.ref r_117)])) X1119 hx rfl rfl rfl (pc0 := 208) (pc' := 220) (same := false) rfl (hb hby at_208) rfl (decide_eq_false fun q => (fun z => (fun q => ne_a_FALSE_a_UNKNOWN q.symm) (hv1055.symm.trans z)) (Value.ref.inj q)) (by decide) (by decide) ?_
          refine XS.iload X1119.here hx rfl (hb hby at_220) rfl ?_
          refine XS.iconst X1119.here hx rfl (hb hby at_222) ?_
          refine XS.iadd X1119.here hx rfl (hb hby at_223) rfl ?_
          show  Steps p.tables e below (T1119.setTop (mkF m 224 #[iv p0, iv p1, iv p2, iv p3, iv (p0 &&& (3 : Int32)), iv mv, rv r_105, rv r_108, rv r_111, rv r_114, rv r_117, rv b120, iv (0 : Int32), iv (0 : Int32), iv (0 : Int32), .unset, .unset, .unset] [(.int ((0 : Int32) + (1 : Int32)))])) _
          rw [(by decide : (((0 : Int32) + (1 : Int32)) : Int32) = (1 : Int32))]
          show Steps p.tables e below (T1119.setTop (mkF m 224 #[iv p0, iv p1, iv p2, iv p3, iv (p0 &&& (3 : Int32)), iv mv, rv r_105, rv r_108, rv r_111, rv r_114, rv r_117, rv b120, iv (0 : Int32), iv (0 : Int32), iv (0 : Int32), .unset, .unset, .unset] [(.int (1 : Int32))])) _
          refine XS.istore X1119.here hx rfl (hb hby at_224) rfl (l' := #[iv p0, iv p1, iv p2, iv p3, iv (p0 &&& (3 : Int32)), iv mv, rv r_105, rv r_108, rv r_111, rv r_114, rv r_117, rv b120, iv (0 : Int32), iv (0 : Int32), iv (1 : Int32), .unset, .unset, .unset]) rfl ?_
          refine XS.iload X1119.here hx rfl (hb hby at_226) rfl ?_
          refine XS.ifYes X1119.here hx rfl (pc0 := 228) (pc' := 237) rfl (hb hby at_228) rfl (XT.i0_le_t (by decide)) (by decide) (by decide) ?_
          refine XS.iload X1119.here hx rfl (hb hby at_237) rfl ?_
          show Steps p.tables e below (T1119.setTop (mkF m 239 #[iv p0, iv p1, iv p2, iv p3, iv (p0 &&& (3 : Int32)), iv mv, rv r_105, rv r_108, rv r_111, rv r_114, rv r_117, rv b120, iv (0 : Int32), iv (0 : Int32), iv (1 : Int32), .unset, .unset, .unset] [(.int (1 : Int32))])) _
          refine XS.ifNo X1119.here hx rfl (hb hby at_239) rfl (XT.i0_le_f (by decide)) ?_
          exact kt
        obtain ⟨T1122, X1122, e1122, st1122⟩ := getS2 X1119 hx hZ hown (host := "") (Or.inl (W 5 rfl)) Via.refl e1119 (G0.ext O1113.2) (g := (mkF m 242 #[iv p0, iv p1, iv p2, iv p3, iv (p0 &&& (3 : Int32)), iv mv, rv r_105, rv r_108, rv r_111, rv r_114, rv r_117, rv b120, iv (0 : Int32), iv (0 : Int32), iv (1 : Int32), .unset, .unset, .unset] [])) rfl (hb hby at_242)
        have pre1123 : ∀ t, Steps p.tables e below (T1122.setTop (mkF m 245 #[iv p0, iv p1, iv p2, iv p3, iv (p0 &&& (3 : Int32)), iv mv, rv r_105, rv r_108, rv r_111, rv r_114, rv r_117, rv b120, iv (0 : Int32), iv (0 : Int32), iv (1 : Int32), .unset, .unset, .unset] [(.ref a_UNKNOWN)])) t → Steps p.tables e below (s₁.setTop (entryFrame m #[(.int p0), (.int p1), (.int p2), (.int p3)] maxLocals)) t := fun t kt => pre1121 _ (st1122 _ kt)
        have pre1124 : ∀ t, Steps p.tables e below (T1122.setTop (mkF m 269 #[iv p0, iv p1, iv p2, iv p3, iv (p0 &&& (3 : Int32)), iv mv, rv r_105, rv r_108, rv r_111, rv r_114, rv r_117, rv b120, iv (0 : Int32), iv (0 : Int32), iv (1 : Int32), rv a_UNKNOWN, .unset, .unset] [])) t → Steps p.tables e below (s₁.setTop (entryFrame m #[(.int p0), (.int p1), (.int p2), (.int p3)] maxLocals)) t := fun t kt => by
          refine pre1123 _ ?_
          show Steps p.tables e below (T1122.setTop (mkF m 245 #[iv p0, iv p1, iv p2, iv p3, iv (p0 &&& (3 : Int32)), iv mv, rv r_105, rv r_108, rv r_111, rv r_114, rv r_117, rv b120, iv (0 : Int32), iv (0 : Int32), iv (1 : Int32), .unset, .unset, .unset] [(.ref a_UNKNOWN)])) _
          refine XS.goto X1122.here hx rfl (pc0 := 245) (pc' := 251) rfl (hb hby at_245) (by decide) (by decide) ?_
          refine XS.astore X1122.here hx rfl (hb hby at_251) rfl rfl (l' := #[iv p0, iv p1, iv p2, iv p3, iv (p0 &&& (3 : Int32)), iv mv, rv r_105, rv r_108, rv r_111, rv r_114, rv r_117, rv b120, iv (0 : Int32), iv (0 : Int32), iv (1 : Int32), rv a_UNKNOWN, .unset, .unset]) rfl ?_
          refine XS.iload X1122.here hx rfl (hb hby at_253) rfl ?_
          refine XS.ifYes X1122.here hx rfl (pc0 := 255) (pc' := 264) rfl (hb hby at_255) rfl (XT.i0_le_t (by decide)) (by decide) (by decide) ?_
          show Steps p.tables e below (T1122.setTop (mkF m 264 #[iv p0, iv p1, iv p2, iv p3, iv (p0 &&& (3 : Int32)), iv mv, rv r_105, rv r_108, rv r_111, rv r_114, rv r_117, rv b120, iv (0 : Int32), iv (0 : Int32), iv (1 : Int32), rv a_UNKNOWN, .unset, .unset] [])) _
          refine XS.iload X1122.here hx rfl (hb hby at_264) rfl ?_
          refine XS.ifNo X1122.here hx rfl (hb hby at_266) rfl (XT.i0_le_f (by decide)) ?_
          exact kt
        obtain ⟨T1125, X1125, e1125, st1125⟩ := getS2 X1122 hx hZ hown (host := "") (Or.inl (W 5 rfl)) Via.refl e1122 (G0.ext O1113.2) (g := (mkF m 269 #[iv p0, iv p1, iv p2, iv p3, iv (p0 &&& (3 : Int32)), iv mv, rv r_105, rv r_108, rv r_111, rv r_114, rv r_117, rv b120, iv (0 : Int32), iv (0 : Int32), iv (1 : Int32), rv a_UNKNOWN, .unset, .unset] [])) rfl (hb hby at_269)
        have pre1126 : ∀ t, Steps p.tables e below (T1125.setTop (mkF m 272 #[iv p0, iv p1, iv p2, iv p3, iv (p0 &&& (3 : Int32)), iv mv, rv r_105, rv r_108, rv r_111, rv r_114, rv r_117, rv b120, iv (0 : Int32), iv (0 : Int32), iv (1 : Int32), rv a_UNKNOWN, .unset, .unset] [(.ref a_UNKNOWN)])) t → Steps p.tables e below (s₁.setTop (entryFrame m #[(.int p0), (.int p1), (.int p2), (.int p3)] maxLocals)) t := fun t kt => pre1124 _ (st1125 _ kt)
        have pre1127 : ∀ t, Steps p.tables e below (T1125.setTop (mkF m 285 #[iv p0, iv p1, iv p2, iv p3, iv (p0 &&& (3 : Int32)), iv mv, rv r_105, rv r_108, rv r_111, rv r_114, rv r_117, rv b120, iv (0 : Int32), iv (0 : Int32), iv (1 : Int32), rv a_UNKNOWN, rv a_UNKNOWN, .unset] [])) t → Steps p.tables e below (s₁.setTop (entryFrame m #[(.int p0), (.int p1), (.int p2), (.int p3)] maxLocals)) t := fun t kt => by
          refine pre1126 _ ?_
          show Steps p.tables e below (T1125.setTop (mkF m 272 #[iv p0, iv p1, iv p2, iv p3, iv (p0 &&& (3 : Int32)), iv mv, rv r_105, rv r_108, rv r_111, rv r_114, rv r_117, rv b120, iv (0 : Int32), iv (0 : Int32), iv (1 : Int32), rv a_UNKNOWN, .unset, .unset] [(.ref a_UNKNOWN)])) _
          refine XS.goto X1125.here hx rfl (pc0 := 272) (pc' := 278) rfl (hb hby at_272) (by decide) (by decide) ?_
          refine XS.astore X1125.here hx rfl (hb hby at_278) rfl rfl (l' := #[iv p0, iv p1, iv p2, iv p3, iv (p0 &&& (3 : Int32)), iv mv, rv r_105, rv r_108, rv r_111, rv r_114, rv r_117, rv b120, iv (0 : Int32), iv (0 : Int32), iv (1 : Int32), rv a_UNKNOWN, rv a_UNKNOWN, .unset]) rfl ?_
          refine XS.iload X1125.here hx rfl (hb hby at_280) rfl ?_
          refine XS.ifNo X1125.here hx rfl (hb hby at_282) rfl (XT.i0_le_f (by decide)) ?_
          exact kt
        obtain ⟨T1128, X1128, e1128, st1128⟩ := getS2 X1125 hx hZ hown (host := "") (Or.inl (W 5 rfl)) Via.refl e1125 (G0.ext O1113.2) (g := (mkF m 285 #[iv p0, iv p1, iv p2, iv p3, iv (p0 &&& (3 : Int32)), iv mv, rv r_105, rv r_108, rv r_111, rv r_114, rv r_117, rv b120, iv (0 : Int32), iv (0 : Int32), iv (1 : Int32), rv a_UNKNOWN, rv a_UNKNOWN, .unset] [])) rfl (hb hby at_285)
        have pre1129 : ∀ t, Steps p.tables e below (T1128.setTop (mkF m 288 #[iv p0, iv p1, iv p2, iv p3, iv (p0 &&& (3 : Int32)), iv mv, rv r_105, rv r_108, rv r_111, rv r_114, rv r_117, rv b120, iv (0 : Int32), iv (0 : Int32), iv (1 : Int32), rv a_UNKNOWN, rv a_UNKNOWN, .unset] [(.ref a_UNKNOWN)])) t → Steps p.tables e below (s₁.setTop (entryFrame m #[(.int p0), (.int p1), (.int p2), (.int p3)] maxLocals)) t := fun t kt => pre1127 _ (st1128 _ kt)
        have pre1130 : ∀ t, Steps p.tables e below (T1128.setTop (mkF m 310 #[iv p0, iv p1, iv p2, iv p3, iv (p0 &&& (3 : Int32)), iv mv, rv r_105, rv r_108, rv r_111, rv r_114, rv r_117, rv b120, iv (0 : Int32), iv (0 : Int32), iv (1 : Int32), rv a_UNKNOWN, rv a_UNKNOWN, rv a_UNKNOWN] [(.ref b120)])) t → Steps p.tables e below (s₁.setTop (entryFrame m #[(.int p0), (.int p1), (.int p2), (.int p3)] maxLocals)) t := fun t kt => by
          refine pre1129 _ ?_
          show Steps p.tables e below (T1128.setTop (mkF m 288 #[iv p0, iv p1, iv p2, iv p3, iv (p0 &&& (3 : Int32)), iv mv, rv r_105, rv r_108, rv r_111, rv r_114, rv r_117, rv b120, iv (0 : Int32), iv (0 : Int32), iv (1 : Int32), rv a_UNKNOWN, rv a_UNKNOWN, .unset] [(.ref a_UNKNOWN)])) _
          refine XS.goto X1128.here hx rfl (pc0 := 288) (pc' := 306) rfl (hb hby at_288) (by decide) (by decide) ?_
          refine XS.astore X1128.here hx rfl (hb hby at_306) rfl rfl (l' := #[iv p0, iv p1, iv p2, iv p3, iv (p0 &&& (3 : Int32)), iv mv, rv r_105, rv r_108, rv r_111, rv r_114, rv r_117, rv b120, iv (0 : Int32), iv (0 : Int32), iv (1 : Int32), rv a_UNKNOWN, rv a_UNKNOWN, rv a_UNKNOWN]) rfl ?_
          refine XS.aload X1128.here hx rfl (hb hby at_308) rfl rfl ?_
          exact kt
        obtain ⟨cq1131, kq1131, q1131a, q1131b, q1131c⟩ := isOf hZ e1128 J1113_0
        obtain ⟨_, _, ⟨T1131, L1131, k1131, n1131⟩, -, X1131, ⟨Lc1131, hQ1131, l1131, y1131, z1131⟩, st1131⟩ := X1128.virtualBack hx (y := (⟨"com/example/contexture/contexture/engine/evaluation/TruthValue$Tally", "and", "()Lcom/example/contexture/contexture/engine/evaluation/TruthValue;"⟩ : MethodName)) (z := (⟨"com/example/contexture/contexture/engine/evaluation/TruthValue$Tally", "and", "()Lcom/example/contexture/contexture/engine/evaluation/TruthValue;"⟩ : MethodName)) hown (mvT hZ (W 46 rfl)) (mvT hZ (W 47 rfl)) (notFace_of_selects (args := #[]) (mvT hZ (W 49 rfl))) (mvT hZ (W 49 rfl)) (mvT hZ (W 48 rfl)) (by decide) (backOf (W := 0) (rm_and7_2 l Z a0 hw [] b120 a_UNKNOWN a_TRUE h1113 n0 O1113 G0 G2 J1113_0 J1113_2 J1113_3) hZ (W 50 rfl) (W 14 rfl) (by decide) (by decide)) q1131a q1131c (g := (mkF m 310 #[iv p0, iv p1, iv p2, iv p3, iv (p0 &&& (3 : Int32)), iv mv, rv r_105, rv r_108, rv r_111, rv r_114, rv r_117, rv b120, iv (0 : Int32), iv (0 : Int32), iv (1 : Int32), rv a_UNKNOWN, rv a_UNKNOWN, rv a_UNKNOWN] [(.ref b120)])) rfl (by rw [hml]; rfl) (Steps.refl _) (argsL := []) (rest := []) (lenOf pd_16 rfl) rfl (by show 2 * 0 + _ ≤ _; exact Nat.le_of_eq rfl) (hb hby at_310) (fun _ _ => ⟨rfl, e1128, (by decide : 1 + 0 ≤ _), (by decide : 3 + 0 ≤ _)⟩)
        dsimp only [Pt.U, Pt.locs, Pt.cells, Pt.slots] at X1131 l1131 y1131 z1131 st1131 hQ1131
        replace l1131 := l1131.symm
        replace y1131 : 1 = k1131 := y1131.symm
        replace z1131 : 3 = n1131 := z1131.symm
        subst l1131 y1131 z1131
        obtain ⟨rfl, M1131, e1131⟩ := hQ1131
        have N1131 := Fr.app N1113 M1131
        have pre1132 : ∀ t, Steps p.tables e below (T1131.setTop (mkF m 313 #[iv p0, iv p1, iv p2, iv p3, iv (p0 &&& (3 : Int32)), iv mv, rv r_105, rv r_108, rv r_111, rv r_114, rv r_117, rv b120, iv (0 : Int32), iv (0 : Int32), iv (1 : Int32), rv a_UNKNOWN, rv a_UNKNOWN, rv a_UNKNOWN] [(.ref a_UNKNOWN)])) t → Steps p.tables e below (s₁.setTop (entryFrame m #[(.int p0), (.int p1), (.int p2), (.int p3)] maxLocals)) t := fun t kt => pre1130 _ (st1131.trans kt)
        have pre1133 : ∀ t, Steps p.tables e below (T1131.setTop (mkF m 320 #[iv p0, iv p1, iv p2, iv p3, iv (p0 &&& (3 : Int32)), iv mv, rv r_105, rv r_108, rv r_111, rv r_114, rv r_117, rv b120, iv (0 : Int32), iv (0 : Int32), iv (1 : Int32), rv a_UNKNOWN, rv a_UNKNOWN, rv a_UNKNOWN] [(.ref b120)])) t → Steps p.tables e below (s₁.setTop (entryFrame m #[(.int p0), (.int p1), (.int p2), (.int p3)] maxLocals)) t := fun t kt => by
          refine pre1132 _ ?_
          show Steps p.tables e below (T1131.setTop (mkF m 313 #[iv p0, iv p1, iv p2, iv p3, iv (p0 &&& (3 : Int32)), iv mv, rv r_105, rv r_108, rv r_111, rv r_114, rv r_117, rv b120, iv (0 : Int32), iv (0 : Int32), iv (1 : Int32), rv a_UNKNOWN, rv a_UNKNOWN, rv a_UNKNOWN] [(.ref a_UNKNOWN)])) _
          refine XS.aload X1131.here hx rfl (hb hby at_313) rfl rfl ?_
          refine Jvm.RoadKit.acmp (g := (mkF m 315 #[iv p0, iv p1, iv p2, iv p3, iv (p0 &&& (3 : Int32)), iv mv, rv r_105, rv r_108, rv r_111, rv r_114, rv r_117, rv b120, iv (0 : Int32), iv (0 : Int32), iv (1 : Int32), rv a_UNKNOWN, rv a_UNKNOWN, rv a_UNKNOWN] [(.ref a_UNKNOWN), (.ref a_UNKNOWN)])) X1131 hx rfl rfl rfl (pc0 := 315) (pc' := 318) (same := true) rfl (hb hby at_315) rfl (decide_eq_true rfl) (by decide) (by decide) ?_
          refine XS.aload X1131.here hx rfl (hb hby at_318) rfl rfl ?_
          exact kt
        obtain ⟨cq1134, kq1134, q1134a, q1134b, q1134c⟩ := isOf hZ e1131 J1113_0
        obtain ⟨_, _, ⟨T1134, L1134, k1134, n1134⟩, -, X1134, ⟨Lc1134, hQ1134, l1134, y1134, z1134⟩, st1134⟩ := X1131.virtualBack hx (y := (⟨"com/example/contexture/contexture/engine/evaluation/TruthValue$Tally", "or", "()Lcom/example/contexture/contexture/engine/evaluation/TruthValue;"⟩ : MethodName)) (z := (⟨"com/example/contexture/contexture/engine/evaluation/TruthValue$Tally", "or", "()Lcom/example/contexture/contexture/engine/evaluation/TruthValue;"⟩ : MethodName)) hown (mvT hZ (W 52 rfl)) (mvT hZ (W 53 rfl)) (notFace_of_selects (args := #[]) (mvT hZ (W 55 rfl))) (mvT hZ (W 55 rfl)) (mvT hZ (W 54 rfl)) (by decide) (backOf (W := 0) (rm_or8_3 l Z a0 hw [] b120 a_UNKNOWN a_FALSE h1113 n0 O1113 G0 G4 J1113_0 J1113_1 J1113_3) hZ (W 56 rfl) (W 14 rfl) (by decide) (by decide)) q1134a q1134c (g := (mkF m 320 #[iv p0, iv p1, iv p2, iv p3, iv (p0 &&& (3 : Int32)), iv mv, rv r_105, rv r_108, rv r_111, rv r_114, rv r_117, rv b120, iv (0 : Int32), iv (0 : Int32), iv (1 : Int32), rv a_UNKNOWN, rv a_UNKNOWN, rv a_UNKNOWN] [(.ref b120)])) rfl (by rw [hml]; rfl) (Steps.refl _) (argsL := []) (rest := []) (lenOf pd_16 rfl) rfl (by show 2 * 0 + _ ≤ _; exact Nat.le_of_eq rfl) (hb hby at_320) (fun _ _ => ⟨rfl, e1131, (by decide : 1 + 0 ≤ _), (by decide : 3 + 0 ≤ _)⟩)
        dsimp only [Pt.U, Pt.locs, Pt.cells, Pt.slots] at X1134 l1134 y1134 z1134 st1134 hQ1134
        replace l1134 := l1134.symm
        replace y1134 : 1 = k1134 := y1134.symm
        replace z1134 : 3 = n1134 := z1134.symm
        subst l1134 y1134 z1134
        obtain ⟨rfl, M1134, e1134⟩ := hQ1134
        have N1134 := Fr.app N1131 M1134
        have pre1135 : ∀ t, Steps p.tables e below (T1134.setTop (mkF m 323 #[iv p0, iv p1, iv p2, iv p3, iv (p0 &&& (3 : Int32)), iv mv, rv r_105, rv r_108, rv r_111, rv r_114, rv r_117, rv b120, iv (0 : Int32), iv (0 : Int32), iv (1 : Int32), rv a_UNKNOWN, rv a_UNKNOWN, rv a_UNKNOWN] [(.ref a_UNKNOWN)])) t → Steps p.tables e below (s₁.setTop (entryFrame m #[(.int p0), (.int p1), (.int p2), (.int p3)] maxLocals)) t := fun t kt => pre1133 _ (st1134.trans kt)
        have pre1136 : ∀ t, Steps p.tables e below (T1134.setTop (mkF m 330 #[iv p0, iv p1, iv p2, iv p3, iv (p0 &&& (3 : Int32)), iv mv, rv r_105, rv r_108, rv r_111, rv r_114, rv r_117, rv b120, iv (0 : Int32), iv (0 : Int32), iv (1 : Int32), rv a_UNKNOWN, rv a_UNKNOWN, rv a_UNKNOWN] [(.ref b120)])) t → Steps p.tables e below (s₁.setTop (entryFrame m #[(.int p0), (.int p1), (.int p2), (.int p3)] maxLocals)) t := fun t kt => by
          refine pre1135 _ ?_
          show Steps p.tables e below (T1134.setTop (mkF m 323 #[iv p0, iv p1, iv p2, iv p3, iv (p0 &&& (3 : Int32)), iv mv, rv r_105, rv r_108, rv r_111, rv r_114, rv r_117, rv b120, iv (0 : Int32), iv (0 : Int32), iv (1 : Int32), rv a_UNKNOWN, rv a_UNKNOWN, rv a_UNKNOWN] [(.ref a_UNKNOWN)])) _
          refine XS.aload X1134.here hx rfl (hb hby at_323) rfl rfl ?_
          refine Jvm.RoadKit.acmp (g := (mkF m 325 #[iv p0, iv p1, iv p2, iv p3, iv (p0 &&& (3 : Int32)), iv mv, rv r_105, rv r_108, rv r_111, rv r_114, rv r_117, rv b120, iv (0 : Int32), iv (0 : Int32), iv (1 : Int32), rv a_UNKNOWN, rv a_UNKNOWN, rv a_UNKNOWN] [(.ref a_UNKNOWN), (.ref a_UNKNOWN)])) X1134 hx rfl rfl rfl (pc0 := 325) (pc' := 328) (same := true) rfl (hb hby at_325) rfl (decide_eq_true rfl) (by decide) (by decide) ?_
          refine XS.aload X1134.here hx rfl (hb hby at_328) rfl rfl ?_
          exact kt
        obtain ⟨cq1137, kq1137, q1137a, q1137b, q1137c⟩ := isOf hZ e1134 J1113_0
        obtain ⟨_, _, ⟨T1137, L1137, k1137, n1137⟩, -, X1137, ⟨Lc1137, hQ1137, l1137, y1137, z1137⟩, st1137⟩ := X1134.virtualBack hx (y := (⟨"com/example/contexture/contexture/engine/evaluation/TruthValue$Tally", "xor", "()Lcom/example/contexture/contexture/engine/evaluation/TruthValue;"⟩ : MethodName)) (z := (⟨"com/example/contexture/contexture/engine/evaluation/TruthValue$Tally", "xor", "()Lcom/example/contexture/contexture/engine/evaluation/TruthValue;"⟩ : MethodName)) hown (mvT hZ (W 58 rfl)) (mvT hZ (W 59 rfl)) (notFace_of_selects (args := #[]) (mvT hZ (W 61 rfl))) (mvT hZ (W 61 rfl)) (mvT hZ (W 60 rfl)) (by decide) (backOf (W := 0) (rm_xor9_4 l Z a0 hw [] b120 a_UNKNOWN a_FALSE h1113 n0 O1113 G0 G4 J1113_0 J1113_1 J1113_3) hZ (W 62 rfl) (W 14 rfl) (by decide) (by decide)) q1137a q1137c (g := (mkF m 330 #[iv p0, iv p1, iv p2, iv p3, iv (p0 &&& (3 : Int32)), iv mv, rv r_105, rv r_108, rv r_111, rv r_114, rv r_117, rv b120, iv (0 : Int32), iv (0 : Int32), iv (1 : Int32), rv a_UNKNOWN, rv a_UNKNOWN, rv a_UNKNOWN] [(.ref b120)])) rfl (by rw [hml]; rfl) (Steps.refl _) (argsL := []) (rest := []) (lenOf pd_16 rfl) rfl (by show 2 * 0 + _ ≤ _; exact Nat.le_of_eq rfl) (hb hby at_330) (fun _ _ => ⟨rfl, e1134, (by decide : 1 + 0 ≤ _), (by decide : 3 + 0 ≤ _)⟩)
        dsimp only [Pt.U, Pt.locs, Pt.cells, Pt.slots] at X1137 l1137 y1137 z1137 st1137 hQ1137
        replace l1137 := l1137.symm
        replace y1137 : 1 = k1137 := y1137.symm
        replace z1137 : 3 = n1137 := z1137.symm
        subst l1137 y1137 z1137
        obtain ⟨rfl, M1137, e1137⟩ := hQ1137
        have N1137 := Fr.app N1134 M1137
        have pre1138 : ∀ t, Steps p.tables e below (T1137.setTop (mkF m 333 #[iv p0, iv p1, iv p2, iv p3, iv (p0 &&& (3 : Int32)), iv mv, rv r_105, rv r_108, rv r_111, rv r_114, rv r_117, rv b120, iv (0 : Int32), iv (0 : Int32), iv (1 : Int32), rv a_UNKNOWN, rv a_UNKNOWN, rv a_UNKNOWN] [(.ref a_UNKNOWN)])) t → Steps p.tables e below (s₁.setTop (entryFrame m #[(.int p0), (.int p1), (.int p2), (.int p3)] maxLocals)) t := fun t kt => pre1136 _ (st1137.trans kt)
        have pre1139 : ∀ t, Steps p.tables e below (T1137.setTop (mkF m 343 #[iv p0, iv p1, iv p2, iv p3, iv (p0 &&& (3 : Int32)), iv mv, rv r_105, rv r_108, rv r_111, rv r_114, rv r_117, rv b120, iv (0 : Int32), iv (0 : Int32), iv (1 : Int32), rv a_UNKNOWN, rv a_UNKNOWN, rv a_UNKNOWN] [(.int (1 : Int32))])) t → Steps p.tables e below (s₁.setTop (entryFrame m #[(.int p0), (.int p1), (.int p2), (.int p3)] maxLocals)) t := fun t kt => by
          refine pre1138 _ ?_
          show Steps p.tables e below (T1137.setTop (mkF m 333 #[iv p0, iv p1, iv p2, iv p3, iv (p0 &&& (3 : Int32)), iv mv, rv r_105, rv r_108, rv r_111, rv r_114, rv r_117, rv b120, iv (0 : Int32), iv (0 : Int32), iv (1 : Int32), rv a_UNKNOWN, rv a_UNKNOWN, rv a_UNKNOWN] [(.ref a_UNKNOWN)])) _
          refine XS.aload X1137.here hx rfl (hb hby at_333) rfl rfl ?_
          refine Jvm.RoadKit.acmp (g := (mkF m 335 #[iv p0, iv p1, iv p2, iv p3, iv (p0 &&& (3 : Int32)), iv mv, rv r_105, rv r_108, rv r_111, rv r_114, rv r_117, rv b120, iv (0 : Int32), iv (0 : Int32), iv (1 : Int32), rv a_UNKNOWN, rv a_UNKNOWN, rv a_UNKNOWN] [(.ref a_UNKNOWN), (.ref a_UNKNOWN)])) X1137 hx rfl rfl rfl (pc0 := 335) (pc' := 338) (same := true) rfl (hb hby at_335) rfl (decide_eq_true rfl) (by decide) (by decide) ?_
          refine XS.iconst X1137.here hx rfl (hb hby at_338) ?_
          refine XS.goto X1137.here hx rfl (pc0 := 339) (pc' := 343) rfl (hb hby at_339) (by decide) (by decide) ?_
          exact kt
        obtain ⟨fs, hr, hrun, hended, hW, hsame⟩ := X1137.leave (v := some (.int (1 : Int32))) (fun h => by rw [Bd.returns] at h; cases h)
        refine ⟨_, _, pre1139 _ (retN X1137 hx (t := .boolean) Bd.returns (by simp) (hb hby at_343) hr), hrun, hended, _, _, rfl, ?_, ⟨_, rfl⟩, hW, hsame.mono (by decide) (by decide)⟩
        show Q_law Z p0 p1 p2 p3 a_UNKNOWN a_TRUE a_FALSE h0 n0 _ T1137.heap _
        rw [e1137]
        exact ⟨rfl, N1137⟩
    · have pre1140 : ∀ t, Steps p.tables e below (T206.setTop (mkF m 248 #[iv p0, iv p1, iv p2, iv p3, iv (p0 &&& (3 : Int32)), iv mv, rv r_105, rv r_108, rv r_111, rv r_114, rv r_117, rv b120, iv (0 : Int32), iv (0 : Int32), iv (0 : Int32), .unset, .unset, .unset] [])) t → Steps p.tables e below (s₁.setTop (entryFrame m #[(.int p0), (.int p1), (.int p2), (.int p3)] maxLocals)) t := fun t kt => by
        refine pre1052 _ ?_
        show Steps p.tables e below (T206.setTop (mkF m 116 #[iv p0, iv p1, iv p2, iv p3, iv (p0 &&& (3 : Int32)), iv mv, rv r_105, rv r_108, rv r_111, rv r_114, rv r_117, rv b120, .unset, .unset, .unset, .unset, .unset, .unset] [(.int (1 : Int32)), (.int mv)])) _
        refine XS.icmpYes X206.here hx rfl (pc0 := 116) (pc' := 126) rfl (hb hby at_116) rfl (XT.ii_le_t hc1053) (by decide) (by decide) ?_
        refine XS.iconst X206.here hx rfl (hb hby at_126) ?_
        refine XS.istore X206.here hx rfl (hb hby at_127) rfl (l' := #[iv p0, iv p1, iv p2, iv p3, iv (p0 &&& (3 : Int32)), iv mv, rv r_105, rv r_108, rv r_111, rv r_114, rv r_117, rv b120, iv (0 : Int32), .unset, .unset, .unset, .unset, .unset]) rfl ?_
        refine XS.iconst X206.here hx rfl (hb hby at_129) ?_
        show Steps p.tables e below (T206.setTop (mkF m 130 #[iv p0, iv p1, iv p2, iv p3, iv (p0 &&& (3 : Int32)), iv mv, rv r_105, rv r_108, rv r_111, rv r_114, rv r_117, rv b120, iv (0 : Int32), .unset, .unset, .unset, .unset, .unset] [(.int (0 : Int32))])) _
        refine XS.istore X206.here hx rfl (hb hby at_130) rfl (l' := #[iv p0, iv p1, iv p2, iv p3, iv (p0 &&& (3 : Int32)), iv mv, rv r_105, rv r_108, rv r_111, rv r_114, rv r_117, rv b120, iv (0 : Int32), iv (0 : Int32), .unset, .unset, .unset, .unset]) rfl ?_
        refine XS.iconst X206.here hx rfl (hb hby at_132) ?_
        refine XS.istore X206.here hx rfl (hb hby at_133) rfl (l' := #[iv p0, iv p1, iv p2, iv p3, iv (p0 &&& (3 : Int32)), iv mv, rv r_105, rv r_108, rv r_111, rv r_114, rv r_117, rv b120, iv (0 : Int32), iv (0 : Int32), iv (0 : Int32), .unset, .unset, .unset]) rfl ?_
        refine XS.iload X206.here hx rfl (hb hby at_135) rfl ?_
        show Steps p.tables e below (T206.setTop (mkF m 137 #[iv p0, iv p1, iv p2, iv p3, iv (p0 &&& (3 : Int32)), iv mv, rv r_105, rv r_108, rv r_111, rv r_114, rv r_117, rv b120, iv (0 : Int32), iv (0 : Int32), iv (0 : Int32), .unset, .unset, .unset] [(.int mv)])) _
        refine XS.ifYes X206.here hx rfl (pc0 := 137) (pc' := 180) rfl (hb hby at_137) rfl (XT.i0_le_t hc209) (by decide) (by decide) ?_
        refine XS.iload X206.here hx rfl (hb hby at_180) rfl ?_
        refine XS.iconst X206.here hx rfl (hb hby at_182) ?_
        refine XS.icmpYes X206.here hx rfl (pc0 := 183) (pc' := 226) rfl (hb hby at_183) rfl (XT.ii_le_t hc1053) (by decide) (by decide) ?_
        show Steps p.tables e below (T206.setTop (mkF m 226 #[iv p0, iv p1, iv p2, iv p3, iv (p0 &&& (3 : Int32)), iv mv, rv r_105, rv r_108, rv r_111, rv r_114, rv r_117, rv b120, iv (0 : Int32), iv (0 : Int32), iv (0 : Int32), .unset, .unset, .unset] [])) _
        refine XS.iload X206.here hx rfl (hb hby at_226) rfl ?_
        refine XS.ifYes X206.here hx rfl (pc0 := 228) (pc' := 237) rfl (hb hby at_228) rfl (XT.i0_le_t (by decide)) (by decide) (by decide) ?_
        refine XS.iload X206.here hx rfl (hb hby at_237) rfl ?_
        refine XS.ifYes X206.here hx rfl (pc0 := 239) (pc' := 248) rfl (hb hby at_239) rfl (XT.i0_le_t (by decide)) (by decide) (by decide) ?_
        exact kt
      obtain ⟨T1141, X1141, e1141, st1141⟩ := getS2 X206 hx hZ hown (host := "") (Or.inl (W 8 rfl)) Via.refl e206 (G2.ext O206.2) (g := (mkF m 248 #[iv p0, iv p1, iv p2, iv p3, iv (p0 &&& (3 : Int32)), iv mv, rv r_105, rv r_108, rv r_111, rv r_114, rv r_117, rv b120, iv (0 : Int32), iv (0 : Int32), iv (0 : Int32), .unset, .unset, .unset] [])) rfl (hb hby at_248)
      have pre1142 : ∀ t, Steps p.tables e below (T1141.setTop (mkF m 251 #[iv p0, iv p1, iv p2, iv p3, iv (p0 &&& (3 : Int32)), iv mv, rv r_105, rv r_108, rv r_111, rv r_114, rv r_117, rv b120, iv (0 : Int32), iv (0 : Int32), iv (0 : Int32), .unset, .unset, .unset] [(.ref a_TRUE)])) t → Steps p.tables e below (s₁.setTop (entryFrame m #[(.int p0), (.int p1), (.int p2), (.int p3)] maxLocals)) t := fun t kt => pre1140 _ (st1141 _ kt)
      have pre1143 : ∀ t, Steps p.tables e below (T1141.setTop (mkF m 275 #[iv p0, iv p1, iv p2, iv p3, iv (p0 &&& (3 : Int32)), iv mv, rv r_105, rv r_108, rv r_111, rv r_114, rv r_117, rv b120, iv (0 : Int32), iv (0 : Int32), iv (0 : Int32), rv a_TRUE, .unset, .unset] [])) t → Steps p.tables e below (s₁.setTop (entryFrame m #[(.int p0), (.int p1), (.int p2), (.int p3)] maxLocals)) t := fun t kt => by
        refine pre1142 _ ?_
        show Steps p.tables e below (T1141.setTop (mkF m 251 #[iv p0, iv p1, iv p2, iv p3, iv (p0 &&& (3 : Int32)), iv mv, rv r_105, rv r_108, rv r_111, rv r_114, rv r_117, rv b120, iv (0 : Int32), iv (0 : Int32), iv (0 : Int32), .unset, .unset, .unset] [(.ref a_TRUE)])) _
        refine XS.astore X1141.here hx rfl (hb hby at_251) rfl rfl (l' := #[iv p0, iv p1, iv p2, iv p3, iv (p0 &&& (3 : Int32)), iv mv, rv r_105, rv r_108, rv r_111, rv r_114, rv r_117, rv b120, iv (0 : Int32), iv (0 : Int32), iv (0 : Int32), rv a_TRUE, .unset, .unset]) rfl ?_
        refine XS.iload X1141.here hx rfl (hb hby at_253) rfl ?_
        refine XS.ifYes X1141.here hx rfl (pc0 := 255) (pc' := 264) rfl (hb hby at_255) rfl (XT.i0_le_t (by decide)) (by decide) (by decide) ?_
        refine XS.iload X1141.here hx rfl (hb hby at_264) rfl ?_
        show Steps p.tables e below (T1141.setTop (mkF m 266 #[iv p0, iv p1, iv p2, iv p3, iv (p0 &&& (3 : Int32)), iv mv, rv r_105, rv r_108, rv r_111, rv r_114, rv r_117, rv b120, iv (0 : Int32), iv (0 : Int32), iv (0 : Int32), rv a_TRUE, .unset, .unset] [(.int (0 : Int32))])) _
        refine XS.ifYes X1141.here hx rfl (pc0 := 266) (pc' := 275) rfl (hb hby at_266) rfl (XT.i0_le_t (by decide)) (by decide) (by decide) ?_
        exact kt
      obtain ⟨T1144, X1144, e1144, st1144⟩ := getS2 X1141 hx hZ hown (host := "") (Or.inl (W 10 rfl)) Via.refl e1141 (G4.ext O206.2) (g := (mkF m 275 #[iv p0, iv p1, iv p2, iv p3, iv (p0 &&& (3 : Int32)), iv mv, rv r_105, rv r_108, rv r_111, rv r_114, rv r_117, rv b120, iv (0 : Int32), iv (0 : Int32), iv (0 : Int32), rv a_TRUE, .unset, .unset] [])) rfl (hb hby at_275)
      have pre1145 : ∀ t, Steps p.tables e below (T1144.setTop (mkF m 278 #[iv p0, iv p1, iv p2, iv p3, iv (p0 &&& (3 : Int32)), iv mv, rv r_105, rv r_108, rv r_111, rv r_114, rv r_117, rv b120, iv (0 : Int32), iv (0 : Int32), iv (0 : Int32), rv a_TRUE, .unset, .unset] [(.ref a_FALSE)])) t → Steps p.tables e below (s₁.setTop (entryFrame m #[(.int p0), (.int p1), (.int p2), (.int p3)] maxLocals)) t := fun t kt => pre1143 _ (st1144 _ kt)
      have pre1146 : ∀ t, Steps p.tables e below (T1144.setTop (mkF m 303 #[iv p0, iv p1, iv p2, iv p3, iv (p0 &&& (3 : Int32)), iv mv, rv r_105, rv r_108, rv r_111, rv r_114, rv r_117, rv b120, iv (0 : Int32), iv (0 : Int32), iv (0 : Int32), rv a_TRUE, rv a_FALSE, .unset] [])) t → Steps p.tables e below (s₁.setTop (entryFrame m #[(.int p0), (.int p1), (.int p2), (.int p3)] maxLocals)) t := fun t kt => by
        refine pre1145 _ ?_
        show Steps p.tables e below (T1144.setTop (mkF m 278 #[iv p0, iv p1, iv p2, iv p3, iv (p0 &&& (3 : Int32)), iv mv, rv r_105, rv r_108, rv r_111, rv r_114, rv r_117, rv b120, iv (0 : Int32), iv (0 : Int32), iv (0 : Int32), rv a_TRUE, .unset, .unset] [(.ref a_FALSE)])) _
        refine XS.astore X1144.here hx rfl (hb hby at_278) rfl rfl (l' := #[iv p0, iv p1, iv p2, iv p3, iv (p0 &&& (3 : Int32)), iv mv, rv r_105, rv r_108, rv r_111, rv r_114, rv r_117, rv b120, iv (0 : Int32), iv (0 : Int32), iv (0 : Int32), rv a_TRUE, rv a_FALSE, .unset]) rfl ?_
        refine XS.iload X1144.here hx rfl (hb hby at_280) rfl ?_
        refine XS.ifYes X1144.here hx rfl (pc0 := 282) (pc' := 291) rfl (hb hby at_282) rfl (XT.i0_le_t (by decide)) (by decide) (by decide) ?_
        refine XS.iload X1144.here hx rfl (hb hby at_291) rfl ?_
        show Steps p.tables e below (T1144.setTop (mkF m 293 #[iv p0, iv p1, iv p2, iv p3, iv (p0 &&& (3 : Int32)), iv mv, rv r_105, rv r_108, rv r_111, rv r_114, rv r_117, rv b120, iv (0 : Int32), iv (0 : Int32), iv (0 : Int32), rv a_TRUE, rv a_FALSE, .unset] [(.int (0 : Int32))])) _
        refine XS.iconst X1144.here hx rfl (hb hby at_293) ?_
        refine XS.icmpYes X1144.here hx rfl (pc0 := 294) (pc' := 303) rfl (hb hby at_294) rfl (XT.ii_ne_t (by decide)) (by decide) (by decide) ?_
        exact kt
      obtain ⟨T1147, X1147, e1147, st1147⟩ := getS2 X1144 hx hZ hown (host := "") (Or.inl (W 10 rfl)) Via.refl e1144 (G4.ext O206.2) (g := (mkF m 303 #[iv p0, iv p1, iv p2, iv p3, iv (p0 &&& (3 : Int32)), iv mv, rv r_105, rv r_108, rv r_111, rv r_114, rv r_117, rv b120, iv (0 : Int32), iv (0 : Int32), iv (0 : Int32), rv a_TRUE, rv a_FALSE, .unset] [])) rfl (hb hby at_303)
      have pre1148 : ∀ t, Steps p.tables e below (T1147.setTop (mkF m 306 #[iv p0, iv p1, iv p2, iv p3, iv (p0 &&& (3 : Int32)), iv mv, rv r_105, rv r_108, rv r_111, rv r_114, rv r_117, rv b120, iv (0 : Int32), iv (0 : Int32), iv (0 : Int32), rv a_TRUE, rv a_FALSE, .unset] [(.ref a_FALSE)])) t → Steps p.tables e below (s₁.setTop (entryFrame m #[(.int p0), (.int p1), (.int p2), (.int p3)] maxLocals)) t := fun t kt => pre1146 _ (st1147 _ kt)
      have pre1149 : ∀ t, Steps p.tables e below (T1147.setTop (mkF m 310 #[iv p0, iv p1, iv p2, iv p3, iv (p0 &&& (3 : Int32)), iv mv, rv r_105, rv r_108, rv r_111, rv r_114, rv r_117, rv b120, iv (0 : Int32), iv (0 : Int32), iv (0 : Int32), rv a_TRUE, rv a_FALSE, rv a_FALSE] [(.ref b120)])) t → Steps p.tables e below (s₁.setTop (entryFrame m #[(.int p0), (.int p1), (.int p2), (.int p3)] maxLocals)) t := fun t kt => by
        refine pre1148 _ ?_
        show Steps p.tables e below (T1147.setTop (mkF m 306 #[iv p0, iv p1, iv p2, iv p3, iv (p0 &&& (3 : Int32)), iv mv, rv r_105, rv r_108, rv r_111, rv r_114, rv r_117, rv b120, iv (0 : Int32), iv (0 : Int32), iv (0 : Int32), rv a_TRUE, rv a_FALSE, .unset] [(.ref a_FALSE)])) _
        refine XS.astore X1147.here hx rfl (hb hby at_306) rfl rfl (l' := #[iv p0, iv p1, iv p2, iv p3, iv (p0 &&& (3 : Int32)), iv mv, rv r_105, rv r_108, rv r_111, rv r_114, rv r_117, rv b120, iv (0 : Int32), iv (0 : Int32), iv (0 : Int32), rv a_TRUE, rv a_FALSE, rv a_FALSE]) rfl ?_
        refine XS.aload X1147.here hx rfl (hb hby at_308) rfl rfl ?_
        exact kt
      obtain ⟨cq1150, kq1150, q1150a, q1150b, q1150c⟩ := isOf hZ e1147 J206_0
      obtain ⟨_, _, ⟨T1150, L1150, k1150, n1150⟩, -, X1150, ⟨Lc1150, hQ1150, l1150, y1150, z1150⟩, st1150⟩ := X1147.virtualBack hx (y := (⟨"com/example/contexture/contexture/engine/evaluation/TruthValue$Tally", "and", "()Lcom/example/contexture/contexture/engine/evaluation/TruthValue;"⟩ : MethodName)) (z := (⟨"com/example/contexture/contexture/engine/evaluation/TruthValue$Tally", "and", "()Lcom/example/contexture/contexture/engine/evaluation/TruthValue;"⟩ : MethodName)) hown (mvT hZ (W 46 rfl)) (mvT hZ (W 47 rfl)) (notFace_of_selects (args := #[]) (mvT hZ (W 49 rfl))) (mvT hZ (W 49 rfl)) (mvT hZ (W 48 rfl)) (by decide) (backOf (W := 0) (rm_and7_0 l Z a0 hw [] b120 a_TRUE h206 n0 O206 G2 J206_0 J206_2 J206_3) hZ (W 50 rfl) (W 14 rfl) (by decide) (by decide)) q1150a q1150c (g := (mkF m 310 #[iv p0, iv p1, iv p2, iv p3, iv (p0 &&& (3 : Int32)), iv mv, rv r_105, rv r_108, rv r_111, rv r_114, rv r_117, rv b120, iv (0 : Int32), iv (0 : Int32), iv (0 : Int32), rv a_TRUE, rv a_FALSE, rv a_FALSE] [(.ref b120)])) rfl (by rw [hml]; rfl) (Steps.refl _) (argsL := []) (rest := []) (lenOf pd_16 rfl) rfl (by show 2 * 0 + _ ≤ _; exact Nat.le_of_eq rfl) (hb hby at_310) (fun _ _ => ⟨rfl, e1147, (by decide : 1 + 0 ≤ _), (by decide : 3 + 0 ≤ _)⟩)
      dsimp only [Pt.U, Pt.locs, Pt.cells, Pt.slots] at X1150 l1150 y1150 z1150 st1150 hQ1150
      replace l1150 := l1150.symm
      replace y1150 : 1 = k1150 := y1150.symm
      replace z1150 : 3 = n1150 := z1150.symm
      subst l1150 y1150 z1150
      obtain ⟨rfl, M1150, e1150⟩ := hQ1150
      have N1150 := Fr.app N206 M1150
      have pre1151 : ∀ t, Steps p.tables e below (T1150.setTop (mkF m 313 #[iv p0, iv p1, iv p2, iv p3, iv (p0 &&& (3 : Int32)), iv mv, rv r_105, rv r_108, rv r_111, rv r_114, rv r_117, rv b120, iv (0 : Int32), iv (0 : Int32), iv (0 : Int32), rv a_TRUE, rv a_FALSE, rv a_FALSE] [(.ref a_TRUE)])) t → Steps p.tables e below (s₁.setTop (entryFrame m #[(.int p0), (.int p1), (.int p2), (.int p3)] maxLocals)) t := fun t kt => pre1149 _ (st1150.trans kt)
      have pre1152 : ∀ t, Steps p.tables e below (T1150.setTop (mkF m 320 #[iv p0, iv p1, iv p2, iv p3, iv (p0 &&& (3 : Int32)), iv mv, rv r_105, rv r_108, rv r_111, rv r_114, rv r_117, rv b120, iv (0 : Int32), iv (0 : Int32), iv (0 : Int32), rv a_TRUE, rv a_FALSE, rv a_FALSE] [(.ref b120)])) t → Steps p.tables e below (s₁.setTop (entryFrame m #[(.int p0), (.int p1), (.int p2), (.int p3)] maxLocals)) t := fun t kt => by
        refine pre1151 _ ?_
        show Steps p.tables e below (T1150.setTop (mkF m 313 #[iv p0, iv p1, iv p2, iv p3, iv (p0 &&& (3 : Int32)), iv mv, rv r_105, rv r_108, rv r_111, rv r_114, rv r_117, rv b120, iv (0 : Int32), iv (0 : Int32), iv (0 : Int32), rv a_TRUE, rv a_FALSE, rv a_FALSE] [(.ref a_TRUE)])) _
        refine XS.aload X1150.here hx rfl (hb hby at_313) rfl rfl ?_
        refine Jvm.RoadKit.acmp (g := (mkF m 315 #[iv p0, iv p1, iv p2, iv p3, iv (p0 &&& (3 : Int32)), iv mv, rv r_105, rv r_108, rv r_111, rv r_114, rv r_117, rv b120, iv (0 : Int32), iv (0 : Int32), iv (0 : Int32), rv a_TRUE, rv a_FALSE, rv a_FALSE] [(.ref a_TRUE), (.ref a_TRUE)])) X1150 hx rfl rfl rfl (pc0 := 315) (pc' := 318) (same := true) rfl (hb hby at_315) rfl (decide_eq_true rfl) (by decide) (by decide) ?_
        refine XS.aload X1150.here hx rfl (hb hby at_318) rfl rfl ?_
        exact kt
      obtain ⟨cq1153, kq1153, q1153a, q1153b, q1153c⟩ := isOf hZ e1150 J206_0
      obtain ⟨_, _, ⟨T1153, L1153, k1153, n1153⟩, -, X1153, ⟨Lc1153, hQ1153, l1153, y1153, z1153⟩, st1153⟩ := X1150.virtualBack hx (y := (⟨"com/example/contexture/contexture/engine/evaluation/TruthValue$Tally", "or", "()Lcom/example/contexture/contexture/engine/evaluation/TruthValue;"⟩ : MethodName)) (z := (⟨"com/example/contexture/contexture/engine/evaluation/TruthValue$Tally", "or", "()Lcom/example/contexture/contexture/engine/evaluation/TruthValue;"⟩ : MethodName)) hown (mvT hZ (W 52 rfl)) (mvT hZ (W 53 rfl)) (notFace_of_selects (args := #[]) (mvT hZ (W 55 rfl))) (mvT hZ (W 55 rfl)) (mvT hZ (W 54 rfl)) (by decide) (backOf (W := 0) (rm_or8_2 l Z a0 hw [] b120 a_FALSE h206 n0 O206 G4 J206_0 J206_1 J206_3) hZ (W 56 rfl) (W 14 rfl) (by decide) (by decide)) q1153a q1153c (g := (mkF m 320 #[iv p0, iv p1, iv p2, iv p3, iv (p0 &&& (3 : Int32)), iv mv, rv r_105, rv r_108, rv r_111, rv r_114, rv r_117, rv b120, iv (0 : Int32), iv (0 : Int32), iv (0 : Int32), rv a_TRUE, rv a_FALSE, rv a_FALSE] [(.ref b120)])) rfl (by rw [hml]; rfl) (Steps.refl _) (argsL := []) (rest := []) (lenOf pd_16 rfl) rfl (by show 2 * 0 + _ ≤ _; exact Nat.le_of_eq rfl) (hb hby at_320) (fun _ _ => ⟨rfl, e1150, (by decide : 1 + 0 ≤ _), (by decide : 3 + 0 ≤ _)⟩)
      dsimp only [Pt.U, Pt.locs, Pt.cells, Pt.slots] at X1153 l1153 y1153 z1153 st1153 hQ1153
      replace l1153 := l1153.symm
      replace y1153 : 1 = k1153 := y1153.symm
      replace z1153 : 3 = n1153 := z1153.symm
      subst l1153 y1153 z1153
      obtain ⟨rfl, M1153, e1153⟩ := hQ1153
      have N1153 := Fr.app N1150 M1153
      have pre1154 : ∀ t, Steps p.tables e below (T1153.setTop (mkF m 323 #[iv p0, iv p1, iv p2, iv p3, iv (p0 &&& (3 : Int32)), iv mv, rv r_105, rv r_108, rv r_111, rv r_114, rv r_117, rv b120, iv (0 : Int32), iv (0 : Int32), iv (0 : Int32), rv a_TRUE, rv a_FALSE, rv a_FALSE] [(.ref a_FALSE)])) t → Steps p.tables e below (s₁.setTop (entryFrame m #[(.int p0), (.int p1), (.int p2), (.int p3)] maxLocals)) t := fun t kt => pre1152 _ (st1153.trans kt)
      have pre1155 : ∀ t, Steps p.tables e below (T1153.setTop (mkF m 330 #[iv p0, iv p1, iv p2, iv p3, iv (p0 &&& (3 : Int32)), iv mv, rv r_105, rv r_108, rv r_111, rv r_114, rv r_117, rv b120, iv (0 : Int32), iv (0 : Int32), iv (0 : Int32), rv a_TRUE, rv a_FALSE, rv a_FALSE] [(.ref b120)])) t → Steps p.tables e below (s₁.setTop (entryFrame m #[(.int p0), (.int p1), (.int p2), (.int p3)] maxLocals)) t := fun t kt => by
        refine pre1154 _ ?_
        show Steps p.tables e below (T1153.setTop (mkF m 323 #[iv p0, iv p1, iv p2, iv p3, iv (p0 &&& (3 : Int32)), iv mv, rv r_105, rv r_108, rv r_111, rv r_114, rv r_117, rv b120, iv (0 : Int32), iv (0 : Int32), iv (0 : Int32), rv a_TRUE, rv a_FALSE, rv a_FALSE] [(.ref a_FALSE)])) _
        refine XS.aload X1153.here hx rfl (hb hby at_323) rfl rfl ?_
        refine Jvm.RoadKit.acmp (g := (mkF m 325 #[iv p0, iv p1, iv p2, iv p3, iv (p0 &&& (3 : Int32)), iv mv, rv r_105, rv r_108, rv r_111, rv r_114, rv r_117, rv b120, iv (0 : Int32), iv (0 : Int32), iv (0 : Int32), rv a_TRUE, rv a_FALSE, rv a_FALSE] [(.ref a_FALSE), (.ref a_FALSE)])) X1153 hx rfl rfl rfl (pc0 := 325) (pc' := 328) (same := true) rfl (hb hby at_325) rfl (decide_eq_true rfl) (by decide) (by decide) ?_
        refine XS.aload X1153.here hx rfl (hb hby at_328) rfl rfl ?_
        exact kt
      obtain ⟨cq1156, kq1156, q1156a, q1156b, q1156c⟩ := isOf hZ e1153 J206_0
      obtain ⟨_, _, ⟨T1156, L1156, k1156, n1156⟩, -, X1156, ⟨Lc1156, hQ1156, l1156, y1156, z1156⟩, st1156⟩ := X1153.virtualBack hx (y := (⟨"com/example/contexture/contexture/engine/evaluation/TruthValue$Tally", "xor", "()Lcom/example/contexture/contexture/engine/evaluation/TruthValue;"⟩ : MethodName)) (z := (⟨"com/example/contexture/contexture/engine/evaluation/TruthValue$Tally", "xor", "()Lcom/example/contexture/contexture/engine/evaluation/TruthValue;"⟩ : MethodName)) hown (mvT hZ (W 58 rfl)) (mvT hZ (W 59 rfl)) (notFace_of_selects (args := #[]) (mvT hZ (W 61 rfl))) (mvT hZ (W 61 rfl)) (mvT hZ (W 60 rfl)) (by decide) (backOf (W := 0) (rm_xor9_3 l Z a0 hw [] b120 a_FALSE h206 n0 O206 G4 J206_0 J206_1 J206_3) hZ (W 62 rfl) (W 14 rfl) (by decide) (by decide)) q1156a q1156c (g := (mkF m 330 #[iv p0, iv p1, iv p2, iv p3, iv (p0 &&& (3 : Int32)), iv mv, rv r_105, rv r_108, rv r_111, rv r_114, rv r_117, rv b120, iv (0 : Int32), iv (0 : Int32), iv (0 : Int32), rv a_TRUE, rv a_FALSE, rv a_FALSE] [(.ref b120)])) rfl (by rw [hml]; rfl) (Steps.refl _) (argsL := []) (rest := []) (lenOf pd_16 rfl) rfl (by show 2 * 0 + _ ≤ _; exact Nat.le_of_eq rfl) (hb hby at_330) (fun _ _ => ⟨rfl, e1153, (by decide : 1 + 0 ≤ _), (by decide : 3 + 0 ≤ _)⟩)
      dsimp only [Pt.U, Pt.locs, Pt.cells, Pt.slots] at X1156 l1156 y1156 z1156 st1156 hQ1156
      replace l1156 := l1156.symm
      replace y1156 : 1 = k1156 := y1156.symm
      replace z1156 : 3 = n1156 := z1156.symm
      subst l1156 y1156 z1156
      obtain ⟨rfl, M1156, e1156⟩ := hQ1156
      have N1156 := Fr.app N1153 M1156
      have pre1157 : ∀ t, Steps p.tables e below (T1156.setTop (mkF m 333 #[iv p0, iv p1, iv p2, iv p3, iv (p0 &&& (3 : Int32)), iv mv, rv r_105, rv r_108, rv r_111, rv r_114, rv r_117, rv b120, iv (0 : Int32), iv (0 : Int32), iv (0 : Int32), rv a_TRUE, rv a_FALSE, rv a_FALSE] [(.ref a_FALSE)])) t → Steps p.tables e below (s₁.setTop (entryFrame m #[(.int p0), (.int p1), (.int p2), (.int p3)] maxLocals)) t := fun t kt => pre1155 _ (st1156.trans kt)
      have pre1158 : ∀ t, Steps p.tables e below (T1156.setTop (mkF m 343 #[iv p0, iv p1, iv p2, iv p3, iv (p0 &&& (3 : Int32)), iv mv, rv r_105, rv r_108, rv r_111, rv r_114, rv r_117, rv b120, iv (0 : Int32), iv (0 : Int32), iv (0 : Int32), rv a_TRUE, rv a_FALSE, rv a_FALSE] [(.int (1 : Int32))])) t → Steps p.tables e below (s₁.setTop (entryFrame m #[(.int p0), (.int p1), (.int p2), (.int p3)] maxLocals)) t := fun t kt => by
        refine pre1157 _ ?_
        show Steps p.tables e below (T1156.setTop (mkF m 333 #[iv p0, iv p1, iv p2, iv p3, iv (p0 &&& (3 : Int32)), iv mv, rv r_105, rv r_108, rv r_111, rv r_114, rv r_117, rv b120, iv (0 : Int32), iv (0 : Int32), iv (0 : Int32), rv a_TRUE, rv a_FALSE, rv a_FALSE] [(.ref a_FALSE)])) _
        refine XS.aload X1156.here hx rfl (hb hby at_333) rfl rfl ?_
        refine Jvm.RoadKit.acmp (g := (mkF m 335 #[iv p0, iv p1, iv p2, iv p3, iv (p0 &&& (3 : Int32)), iv mv, rv r_105, rv r_108, rv r_111, rv r_114, rv r_117, rv b120, iv (0 : Int32), iv (0 : Int32), iv (0 : Int32), rv a_TRUE, rv a_FALSE, rv a_FALSE] [(.ref a_FALSE), (.ref a_FALSE)])) X1156 hx rfl rfl rfl (pc0 := 335) (pc' := 338) (same := true) rfl (hb hby at_335) rfl (decide_eq_true rfl) (by decide) (by decide) ?_
        refine XS.iconst X1156.here hx rfl (hb hby at_338) ?_
        refine XS.goto X1156.here hx rfl (pc0 := 339) (pc' := 343) rfl (hb hby at_339) (by decide) (by decide) ?_
        exact kt
      obtain ⟨fs, hr, hrun, hended, hW, hsame⟩ := X1156.leave (v := some (.int (1 : Int32))) (fun h => by rw [Bd.returns] at h; cases h)
      refine ⟨_, _, pre1158 _ (retN X1156 hx (t := .boolean) Bd.returns (by simp) (hb hby at_343) hr), hrun, hended, _, _, rfl, ?_, ⟨_, rfl⟩, hW, hsame.mono (by decide) (by decide)⟩
      show Q_law Z p0 p1 p2 p3 a_UNKNOWN a_TRUE a_FALSE h0 n0 _ T1156.heap _
      rw [e1156]
      exact ⟨rfl, N1156⟩
set_option maxRecDepth 65536 in
set_option maxHeartbeats 40000000 in
theorem comes_1 {Post : Tables → Env → Array Value → State → Outcome → State → Prop} (hpost : ∀ tb e args s v u, (limb_1_1.after args s (.returned v) u = true ∧ limb_1_2.after args s (.returned v) u = true ∧ True) → FrameEnd s (.returned v) u (Jvm.fieldLocs frame_1_writes args s ++ Jvm.arrayLocs frame_1_arrays args s ++ Jvm.staticLocs frame_1_statics s) 16 128 → Post tb e args s (.returned v) u) :
    ArmFor flags0 classFile x code maxLocals ret World_1 tables_1 room_1 Calls_1 rest_1 Pre_1 Post := by
  intro l hfl _ _ p e ha hc hk s m args below hf hA hF happ hP
  obtain ⟨hcalls, hrest, hpre⟩ := hP
  obtain ⟨-, -, -, hnamed, -, -, -, hat⟩ := (Spec.applies_iff hf).mp happ
  obtain ⟨hg, hn⟩ := and_e (Cond.before_iff.mp (show (Jvm.Cond.and given_1 narrow_1).before args s = true from hpre))
  obtain ⟨given_1_2, given_1_3⟩ := and_e hg
  obtain ⟨given_1_4, given_1_5⟩ := and_e given_1_3
  obtain ⟨given_1_6, given_1_7⟩ := and_e given_1_5
  obtain ⟨given_1_8, given_1_9⟩ := and_e given_1_7
  obtain ⟨narrow_1_2, narrow_1_3⟩ := and_e hn
  obtain ⟨narrow_1_4, narrow_1_5⟩ := and_e narrow_1_3
  obtain ⟨narrow_1_6, narrow_1_7⟩ := and_e narrow_1_5
  obtain ⟨narrow_1_8, narrow_1_9⟩ := and_e narrow_1_7
  obtain ⟨narrow_1_10, narrow_1_11⟩ := and_e narrow_1_9
  obtain ⟨w0, w1, w2, w3, rfl⟩ : ∃ w0 w1 w2 w3 : Value, args = #[w0, w1, w2, w3] := by
    have hs : args.size = 4 := by simpa [Cond.value, given_1] using given_1_2
    obtain ⟨L⟩ := args
    match L, hs with
    | [w0, w1, w2, w3], _ => exact ⟨w0, w1, w2, w3, rfl⟩
  have hw := fun d (hd : d ∈ tables_1) => atoms_spec (ws := Jvm.Cond.code x code maxLocals ret :: tables_1) hat d (List.mem_cons_of_mem _ hd)
  have W := fun {d : Jvm.Cond} (i : Nat) (q : tables_1[i]? = some d) => hw d (List.mem_of_getElem? q)
  have hfit : Fit s := fun {y c} hc i hi => by
    obtain ⟨ha, rfl⟩ := Array.getElem?_eq_some_iff.mp hc
    have q := List.all_eq_true.mp ((Array.all_eq_true_iff_forall_mem.mp hF) _ (Array.getElem_mem ha)) i (List.mem_range.mpr hi)
    simpa [Array.getElem?_eq_getElem hi] using q
  obtain ⟨i0, ei0⟩ := is_v given_1_4
  obtain rfl : w0 = (.int i0) := Option.some.inj ei0
  obtain ⟨i1, ei1⟩ := is_v given_1_6
  obtain rfl : w1 = (.int i1) := Option.some.inj ei1
  obtain ⟨i2, ei2⟩ := is_v given_1_8
  obtain rfl : w2 = (.int i2) := Option.some.inj ei2
  obtain ⟨i3, ei3⟩ := is_v given_1_9
  obtain rfl : w3 = (.int i3) := Option.some.inj ei3
  obtain ⟨a_UNKNOWN, ev_UNKNOWN⟩ := exa_v narrow_1_2
  have S_UNKNOWN : Sta s s.heap "com/example/contexture/contexture/engine/evaluation/TruthValue" "UNKNOWN" "Lcom/example/contexture/contexture/engine/evaluation/TruthValue;" (.ref a_UNKNOWN) := Sta.start ev_UNKNOWN (Or.inr ⟨(W 6 rfl), (W 7 rfl)⟩)
  have E_UNKNOWN : Exa s s.heap a_UNKNOWN "com/example/contexture/contexture/engine/evaluation/TruthValue" := Exa.start ev_UNKNOWN narrow_1_2
  obtain ⟨a_TRUE, ev_TRUE⟩ := exa_v narrow_1_4
  have S_TRUE : Sta s s.heap "com/example/contexture/contexture/engine/evaluation/TruthValue" "TRUE" "Lcom/example/contexture/contexture/engine/evaluation/TruthValue;" (.ref a_TRUE) := Sta.start ev_TRUE (Or.inr ⟨(W 6 rfl), (W 9 rfl)⟩)
  have E_TRUE : Exa s s.heap a_TRUE "com/example/contexture/contexture/engine/evaluation/TruthValue" := Exa.start ev_TRUE narrow_1_4
  obtain ⟨a_FALSE, ev_FALSE⟩ := exa_v narrow_1_6
  have S_FALSE : Sta s s.heap "com/example/contexture/contexture/engine/evaluation/TruthValue" "FALSE" "Lcom/example/contexture/contexture/engine/evaluation/TruthValue;" (.ref a_FALSE) := Sta.start ev_FALSE (Or.inr ⟨(W 6 rfl), (W 11 rfl)⟩)
  have E_FALSE : Exa s s.heap a_FALSE "com/example/contexture/contexture/engine/evaluation/TruthValue" := Exa.start ev_FALSE narrow_1_6
  have P_FALSE_ordinal : Fld s s.heap a_FALSE "java/lang/Enum" "ordinal" "I" (.int (1 : Int32)) := own_fldI ev_FALSE narrow_1_8
  have P_TRUE_ordinal : Fld s s.heap a_TRUE "java/lang/Enum" "ordinal" "I" (.int (0 : Int32)) := own_fldI ev_TRUE narrow_1_10
  have P_UNKNOWN_ordinal : Fld s s.heap a_UNKNOWN "java/lang/Enum" "ordinal" "I" (.int (2 : Int32)) := own_fldI ev_UNKNOWN narrow_1_11
  obtain ⟨n, o, h1, h2, h3, _, L, rfl, ⟨rfl, N⟩, hq⟩ := rm_law l s _ hw tables_1 i0 i1 i2 i3 a_UNKNOWN a_TRUE a_FALSE s.heap s.heap.size (Old.start s) S_UNKNOWN E_UNKNOWN S_TRUE E_TRUE S_FALSE E_FALSE P_FALSE_ordinal P_TRUE_ordinal P_UNKNOWN_ordinal p e ha hc hk s m _ below hf ((Spec.applies_iff_loose hf).mp happ).1 ⟨rfl, State.Warmed39.refl s, rfl⟩ trivial
  refine ⟨n, _, h1, h2, h3, hpost _ _ _ _ _ _ ⟨Cond.after_iff.mpr rfl, Cond.after_iff.mpr (eq_i res_at (Term.int_eval (1)) rfl), trivial⟩ ⟨hq.1, hq.2.1, (hq.2.2.sift fun y hy => Or.inr (N y hy)).mono (by decide) (by decide)⟩⟩
theorem main_1_1 : Claimed_1_1 := comes_1 fun _ _ _ _ _ _ h hF => ⟨h.1, hF⟩
theorem main_1_2 : Claimed_1_2 := comes_1 fun _ _ _ _ _ _ h hF => ⟨h.2.1, hF⟩
end Jvm.Pilot.@@N@@
namespace Jvm.Pilot.@@N@@
open Jvm Jvm.ClassFile Sem Op Lib Jvm.Free Jvm.Stand Jvm.Pilot.@@N@@.Jvm.D
/-! MADE BY PROGRAM (witnessworld.py) out of the Statement's table words and the real class files: 12 classes; the members and pool entries that the words name. The judged class is class 1, her method 2. -/
namespace start1
open Jvm.ClassFile
def u (s : String) : CpInfo := .utf8 (stringToUtf16 s)
/-- a pool by its gaps: so many unusable entries, then the entry; so many at the end -/
def gap : Nat → List CpInfo → List CpInfo
  | 0, r => r
  | n + 1, r => .unusable :: gap n r
def poolList (es : List (Nat × CpInfo)) (last : Nat) : List CpInfo := es.foldr (fun e r => gap e.1 (e.2 :: r)) (gap last [])
def pool (es : List (Nat × CpInfo)) (last : Nat) : Array CpInfo := ⟨poolList es last⟩
def fileOf (pool : Array CpInfo) (this : Nat) (attrs : Array Attribute := #[]) (ms : Array MethodInfo := #[]) (fl : Nat := 33) (sup : Nat := 0) (ifs : Array Nat := #[]) (fds : Array FieldInfo := #[]) : ClassFile where
  minorVersion := 0
  majorVersion := 65
  constantPool := pool
  accessFlags := fl
  thisClass := this
  superClass := sup
  interfaces := ifs
  fields := fds
  methods := ms
  attributes := attrs
def plain (name : String) (sup : Option ClassId) : Class where
  name := name
  kind := .ordinary
  loader := none
  accessFlags := 33
  super := sup
  interfaces := #[]
  cf := none
  fields := #[]
  methods := #[]
  instanceTypes := #[]
  staticTypes := #[]
  resolved := #[]
  callSites := []
  init := .initialized
  statics := none
  mirror := none

def pool0 : Array CpInfo := pool [(5, u "<init>"), (0, u "()V"), (1, .class_ 10), (1, u "java/lang/Object")] 113

def k0c0 : Code := { maxStack := 0, maxLocals := 1, code := object_method_1_code, exceptionTable := #[], attributes := #[] }
def k0m0 : Method := { name := "<init>", desc := "()V", sig := { parameters := [], returnType := none }, accessFlags := 1, code := some k0c0 }
/-- java/lang/Object -/
def k0 : Class := { plain "java/lang/Object" none with
  accessFlags := 33
  interfaces := #[]
  cf := some (fileOf pool0 8 #[] #[{ accessFlags := 1, nameIndex := 5, descriptorIndex := 6, attributes := #[] }] 33 0 #[] #[])
  fields := #[]
  methods := #[k0m0]
  instanceTypes := #[]
  staticTypes := #[]
  resolved := Array.replicate 124 none
  statics := none }

def pool1 : Array CpInfo := pool [(2, .class_ 4), (0, .nameAndType 5 6), (0, u "java/lang/Object"), (0, u "<init>"), (0, u "()V"), (0, .fieldref 8 9), (0, .class_ 10), (0, .nameAndType 11 12), (0, u "com/example/contexture/contexture/engine/evaluation/TruthValue"), (0, u "TRUE"), (0, u "Lcom/example/contexture/contexture/engine/evaluation/TruthValue;"), (0, .fieldref 8 14), (0, .nameAndType 15 12), (0, u "FALSE"), (0, .fieldref 8 17), (0, .nameAndType 18 12), (0, u "UNKNOWN"), (0, .integer 2147483647), (0, .methodref 21 22), (0, .class_ 23), (0, .nameAndType 24 25), (0, u "com/example/contexture/contexture/engine/evaluation/TallyClearPinLaw"), (0, u "v"), (0, u "(I)Lcom/example/contexture/contexture/engine/evaluation/TruthValue;"), (0, .class_ 27), (0, u "com/example/contexture/contexture/engine/evaluation/TruthValue$Tally"), (0, .methodref 26 3), (0, .methodref 26 30), (0, .nameAndType 31 32), (0, u "add"), (0, u "(Lcom/example/contexture/contexture/engine/evaluation/TruthValue;)V"), (0, .methodref 26 34), (0, .nameAndType 35 6), (0, u "clear"), (0, .methodref 26 37), (0, .nameAndType 38 39), (0, u "and"), (0, u "()Lcom/example/contexture/contexture/engine/evaluation/TruthValue;"), (0, .methodref 26 41), (0, .nameAndType 42 39), (0, u "or"), (0, .methodref 26 44), (0, .nameAndType 45 39), (0, u "xor"), (3, u "law"), (0, u "(IIII)Z")] 4

def k1m0 : Method := { name := "<init>", desc := "()V", sig := { parameters := [], returnType := none }, accessFlags := 1, code := none }
def k1c1 : Code := { maxStack := 2, maxLocals := 2, code := method_2_code, exceptionTable := #[], attributes := #[] }
def k1m1 : Method := { name := "v", desc := "(I)Lcom/example/contexture/contexture/engine/evaluation/TruthValue;", sig := { parameters := [.int], returnType := some (.object "com/example/contexture/contexture/engine/evaluation/TruthValue") }, accessFlags := 10, code := some k1c1 }
def k1c2 : Code := { maxStack := 2, maxLocals := 18, code := code, exceptionTable := #[], attributes := #[] }
def k1m2 : Method := { name := "law", desc := "(IIII)Z", sig := { parameters := [.int, .int, .int, .int], returnType := some .boolean }, accessFlags := 9, code := some k1c2 }
/-- com/example/contexture/contexture/engine/evaluation/TallyClearPinLaw -/
def k1 : Class := { plain "com/example/contexture/contexture/engine/evaluation/TallyClearPinLaw" (some 0) with
  accessFlags := 49
  interfaces := #[]
  cf := some (fileOf pool1 21 #[] #[{ accessFlags := 1, nameIndex := 5, descriptorIndex := 6, attributes := #[] }, { accessFlags := 10, nameIndex := 24, descriptorIndex := 25, attributes := #[] }, { accessFlags := 9, nameIndex := 49, descriptorIndex := 50, attributes := #[] }] 49 2 #[] #[])
  fields := #[]
  methods := #[k1m0, k1m1, k1m2]
  instanceTypes := #[]
  staticTypes := #[]
  resolved := Array.replicate 55 none
  statics := none }

def pool2 : Array CpInfo := pool [(1, .class_ 2), (0, u "java/lang/constant/Constable"), (0, .class_ 4), (0, u "java/lang/Object")] 6

/-- java/lang/constant/Constable -/
def k2 : Class := { plain "java/lang/constant/Constable" (some 0) with
  accessFlags := 1537
  interfaces := #[]
  cf := some (fileOf pool2 1 #[] #[] 1537 3 #[] #[])
  fields := #[]
  methods := #[]
  instanceTypes := #[]
  staticTypes := #[]
  resolved := Array.replicate 11 none
  statics := none }

def pool3 : Array CpInfo := pool [(1, .class_ 2), (0, u "java/lang/Comparable"), (0, .class_ 4), (0, u "java/lang/Object")] 7

/-- java/lang/Comparable -/
def k3 : Class := { plain "java/lang/Comparable" (some 0) with
  accessFlags := 1537
  interfaces := #[]
  cf := some (fileOf pool3 1 #[] #[] 1537 3 #[] #[])
  fields := #[]
  methods := #[]
  instanceTypes := #[]
  staticTypes := #[]
  resolved := Array.replicate 12 none
  statics := none }

def pool4 : Array CpInfo := pool [(1, .class_ 2), (0, u "java/io/Serializable"), (0, .class_ 4), (0, u "java/lang/Object")] 2

/-- java/io/Serializable -/
def k4 : Class := { plain "java/io/Serializable" (some 0) with
  accessFlags := 1537
  interfaces := #[]
  cf := some (fileOf pool4 1 #[] #[] 1537 3 #[] #[])
  fields := #[]
  methods := #[]
  instanceTypes := #[]
  staticTypes := #[]
  resolved := Array.replicate 7 none
  statics := none }

def pool5 : Array CpInfo := pool [(2, .class_ 4), (1, u "java/lang/Enum"), (0, u "name"), (0, u "Ljava/lang/String;"), (0, .fieldref 2 8), (0, .nameAndType 9 10), (0, u "ordinal"), (0, u "I"), (1, .class_ 14), (1, u "java/lang/Object"), (4, u "hash"), (86, .class_ 108), (1, u "java/lang/Enum$EnumDesc"), (2, .class_ 112), (0, u "java/lang/constant/Constable"), (0, .class_ 114), (0, u "java/lang/Comparable"), (0, .class_ 116), (0, u "java/io/Serializable"), (9, u "()I")] 77

def k5c0 : Code := { maxStack := 1, maxLocals := 1, code := jdk_37_method_2_code, exceptionTable := #[], attributes := #[] }
def k5m0 : Method := { name := "ordinal", desc := "()I", sig := { parameters := [], returnType := some .int }, accessFlags := 17, code := some k5c0 }
/-- java/lang/Enum -/
def k5 : Class := { plain "java/lang/Enum" (some 0) with
  accessFlags := 1057
  interfaces := #[2, 3, 4]
  cf := some (fileOf pool5 2 #[.nestMembers #[106]] #[{ accessFlags := 17, nameIndex := 9, descriptorIndex := 126, attributes := #[] }] 1057 12 #[111, 113, 115] #[{ accessFlags := 18, nameIndex := 5, descriptorIndex := 6, attributes := #[] }, { accessFlags := 18, nameIndex := 9, descriptorIndex := 10, attributes := #[] }, { accessFlags := 2, nameIndex := 19, descriptorIndex := 10, attributes := #[] }])
  fields := #[{ name := "name", type := (.object "java/lang/String"), accessFlags := 18, slot := 0, constantValue := 0 }, { name := "ordinal", type := .int, accessFlags := 18, slot := 1, constantValue := 0 }, { name := "hash", type := .int, accessFlags := 2, slot := 2, constantValue := 0 }]
  methods := #[k5m0]
  instanceTypes := #[(.object "java/lang/String"), .int, .int]
  staticTypes := #[]
  resolved := Array.replicate 204 none
  statics := none }

def pool6 : Array CpInfo := pool [(1, .class_ 2), (0, u "com/example/contexture/contexture/engine/evaluation/TruthValue"), (0, .fieldref 1 4), (0, .nameAndType 5 6), (0, u "TRUE"), (0, u "Lcom/example/contexture/contexture/engine/evaluation/TruthValue;"), (0, .fieldref 1 8), (0, .nameAndType 9 6), (0, u "FALSE"), (2, u "UNKNOWN"), (2, u "$VALUES"), (0, u "[Lcom/example/contexture/contexture/engine/evaluation/TruthValue;"), (6, .class_ 25), (1, u "java/lang/Enum"), (23, .class_ 50), (0, u "com/example/contexture/contexture/engine/evaluation/TruthValue$1"), (5, u "LOGIC"), (0, u "Lcom/example/contexture/contexture/engine/evaluation/Logic;"), (7, u "of"), (0, u "(Z)Lcom/example/contexture/contexture/engine/evaluation/TruthValue;"), (10, .class_ 78), (0, u "com/example/contexture/contexture/engine/evaluation/TruthValue$Tally")] 2

def k6c0 : Code := { maxStack := 1, maxLocals := 1, code := prog_15_method_4_code, exceptionTable := #[], attributes := #[] }
def k6m0 : Method := { name := "of", desc := "(Z)Lcom/example/contexture/contexture/engine/evaluation/TruthValue;", sig := { parameters := [.boolean], returnType := some (.object "com/example/contexture/contexture/engine/evaluation/TruthValue") }, accessFlags := 9, code := some k6c0 }
/-- com/example/contexture/contexture/engine/evaluation/TruthValue -/
def k6 : Class := { plain "com/example/contexture/contexture/engine/evaluation/TruthValue" (some 5) with
  accessFlags := 16433
  interfaces := #[]
  cf := some (fileOf pool6 1 #[.nestMembers #[77, 49]] #[{ accessFlags := 9, nameIndex := 65, descriptorIndex := 66, attributes := #[] }] 16433 23 #[] #[{ accessFlags := 16409, nameIndex := 5, descriptorIndex := 6, attributes := #[] }, { accessFlags := 16409, nameIndex := 9, descriptorIndex := 6, attributes := #[] }, { accessFlags := 16409, nameIndex := 12, descriptorIndex := 6, attributes := #[] }, { accessFlags := 25, nameIndex := 56, descriptorIndex := 57, attributes := #[] }, { accessFlags := 4122, nameIndex := 15, descriptorIndex := 16, attributes := #[] }])
  fields := #[{ name := "TRUE", type := (.object "com/example/contexture/contexture/engine/evaluation/TruthValue"), accessFlags := 16409, slot := 0, constantValue := 0 }, { name := "FALSE", type := (.object "com/example/contexture/contexture/engine/evaluation/TruthValue"), accessFlags := 16409, slot := 1, constantValue := 0 }, { name := "UNKNOWN", type := (.object "com/example/contexture/contexture/engine/evaluation/TruthValue"), accessFlags := 16409, slot := 2, constantValue := 0 }, { name := "LOGIC", type := (.object "com/example/contexture/contexture/engine/evaluation/Logic"), accessFlags := 25, slot := 3, constantValue := 0 }, { name := "$VALUES", type := (.array (.object "com/example/contexture/contexture/engine/evaluation/TruthValue")), accessFlags := 4122, slot := 4, constantValue := 0 }]
  methods := #[k6m0]
  instanceTypes := #[(.object "java/lang/String"), .int, .int]
  staticTypes := #[(.object "com/example/contexture/contexture/engine/evaluation/TruthValue"), (.object "com/example/contexture/contexture/engine/evaluation/TruthValue"), (.object "com/example/contexture/contexture/engine/evaluation/TruthValue"), (.object "com/example/contexture/contexture/engine/evaluation/Logic"), (.array (.object "com/example/contexture/contexture/engine/evaluation/TruthValue"))]
  resolved := Array.replicate 81 none
  statics := some 0 }

def pool7 : Array CpInfo := pool [(1, .class_ 2), (0, u "com/example/contexture/contexture/engine/evaluation/Logic$Tally"), (0, .class_ 4), (0, u "java/lang/Object"), (15, .class_ 21), (0, u "com/example/contexture/contexture/engine/evaluation/Logic")] 2

/-- com/example/contexture/contexture/engine/evaluation/Logic$Tally -/
def k7 : Class := { plain "com/example/contexture/contexture/engine/evaluation/Logic$Tally" (some 0) with
  accessFlags := 1537
  interfaces := #[]
  cf := some (fileOf pool7 1 #[.nestHost 20] #[] 1537 3 #[] #[])
  fields := #[]
  methods := #[]
  instanceTypes := #[]
  staticTypes := #[]
  resolved := Array.replicate 24 none
  statics := none }

def pool8 : Array CpInfo := pool [(1, .methodref 2 3), (0, .class_ 4), (0, .nameAndType 5 6), (0, u "java/lang/Object"), (0, u "<init>"), (0, u "()V"), (0, .methodref 8 9), (0, .class_ 10), (0, .nameAndType 11 12), (0, u "com/example/contexture/contexture/engine/evaluation/TruthValue"), (0, u "ordinal"), (0, u "()I"), (0, .fieldref 14 15), (0, .class_ 16), (0, .nameAndType 17 18), (0, u "com/example/contexture/contexture/engine/evaluation/TruthValue$Tally"), (0, u "trues"), (0, u "I"), (0, .fieldref 14 20), (0, .nameAndType 21 18), (0, u "falses"), (0, .fieldref 14 23), (0, .nameAndType 24 18), (0, u "unknowns"), (0, .fieldref 8 26), (0, .nameAndType 27 28), (0, u "FALSE"), (0, u "Lcom/example/contexture/contexture/engine/evaluation/TruthValue;"), (0, .fieldref 8 30), (0, .nameAndType 31 28), (0, u "TRUE"), (0, .methodref 14 33), (0, .nameAndType 34 35), (0, u "settledBy"), (0, u "(Lcom/example/contexture/contexture/engine/evaluation/TruthValue;)Lcom/example/contexture/contexture/engine/evaluation/TruthValue;"), (0, .methodref 8 37), (0, .nameAndType 38 39), (0, u "of"), (0, u "(Z)Lcom/example/contexture/contexture/engine/evaluation/TruthValue;"), (0, .fieldref 8 41), (0, .nameAndType 42 28), (0, u "UNKNOWN"), (2, u "xor"), (0, u "()Lcom/example/contexture/contexture/engine/evaluation/TruthValue;"), (2, u "or"), (2, u "and"), (2, u "add"), (0, u "(Lcom/example/contexture/contexture/engine/evaluation/TruthValue;)V"), (0, .class_ 58), (0, u "com/example/contexture/contexture/engine/evaluation/Logic$Tally"), (3, u "clear")] 12

def k8c0 : Code := { maxStack := 1, maxLocals := 1, code := prog_17_method_1_code, exceptionTable := #[], attributes := #[] }
def k8m0 : Method := { name := "<init>", desc := "()V", sig := { parameters := [], returnType := none }, accessFlags := 0, code := some k8c0 }
def k8c1 : Code := { maxStack := 3, maxLocals := 2, code := prog_17_method_2_code, exceptionTable := #[], attributes := #[] }
def k8m1 : Method := { name := "add", desc := "(Lcom/example/contexture/contexture/engine/evaluation/TruthValue;)V", sig := { parameters := [(.object "com/example/contexture/contexture/engine/evaluation/TruthValue")], returnType := none }, accessFlags := 1, code := some k8c1 }
def k8c2 : Code := { maxStack := 2, maxLocals := 1, code := prog_17_method_3_code, exceptionTable := #[], attributes := #[] }
def k8m2 : Method := { name := "clear", desc := "()V", sig := { parameters := [], returnType := none }, accessFlags := 1, code := some k8c2 }
def k8c3 : Code := { maxStack := 2, maxLocals := 1, code := prog_17_method_4_code, exceptionTable := #[], attributes := #[] }
def k8m3 : Method := { name := "and", desc := "()Lcom/example/contexture/contexture/engine/evaluation/TruthValue;", sig := { parameters := [], returnType := some (.object "com/example/contexture/contexture/engine/evaluation/TruthValue") }, accessFlags := 1, code := some k8c3 }
def k8c4 : Code := { maxStack := 2, maxLocals := 1, code := prog_17_method_5_code, exceptionTable := #[], attributes := #[] }
def k8m4 : Method := { name := "or", desc := "()Lcom/example/contexture/contexture/engine/evaluation/TruthValue;", sig := { parameters := [], returnType := some (.object "com/example/contexture/contexture/engine/evaluation/TruthValue") }, accessFlags := 1, code := some k8c4 }
def k8c5 : Code := { maxStack := 3, maxLocals := 1, code := prog_17_method_6_code, exceptionTable := #[], attributes := #[] }
def k8m5 : Method := { name := "xor", desc := "()Lcom/example/contexture/contexture/engine/evaluation/TruthValue;", sig := { parameters := [], returnType := some (.object "com/example/contexture/contexture/engine/evaluation/TruthValue") }, accessFlags := 1, code := some k8c5 }
def k8c6 : Code := { maxStack := 1, maxLocals := 2, code := prog_17_method_7_code, exceptionTable := #[], attributes := #[] }
def k8m6 : Method := { name := "settledBy", desc := "(Lcom/example/contexture/contexture/engine/evaluation/TruthValue;)Lcom/example/contexture/contexture/engine/evaluation/TruthValue;", sig := { parameters := [(.object "com/example/contexture/contexture/engine/evaluation/TruthValue")], returnType := some (.object "com/example/contexture/contexture/engine/evaluation/TruthValue") }, accessFlags := 2, code := some k8c6 }
/-- com/example/contexture/contexture/engine/evaluation/TruthValue$Tally -/
def k8 : Class := { plain "com/example/contexture/contexture/engine/evaluation/TruthValue$Tally" (some 0) with
  accessFlags := 48
  interfaces := #[7]
  cf := some (fileOf pool8 14 #[.nestHost 8] #[{ accessFlags := 0, nameIndex := 5, descriptorIndex := 6, attributes := #[] }, { accessFlags := 1, nameIndex := 55, descriptorIndex := 56, attributes := #[] }, { accessFlags := 1, nameIndex := 62, descriptorIndex := 6, attributes := #[] }, { accessFlags := 1, nameIndex := 52, descriptorIndex := 46, attributes := #[] }, { accessFlags := 1, nameIndex := 49, descriptorIndex := 46, attributes := #[] }, { accessFlags := 1, nameIndex := 45, descriptorIndex := 46, attributes := #[] }, { accessFlags := 2, nameIndex := 34, descriptorIndex := 35, attributes := #[] }] 48 2 #[57] #[{ accessFlags := 2, nameIndex := 17, descriptorIndex := 18, attributes := #[] }, { accessFlags := 2, nameIndex := 21, descriptorIndex := 18, attributes := #[] }, { accessFlags := 2, nameIndex := 24, descriptorIndex := 18, attributes := #[] }])
  fields := #[{ name := "trues", type := .int, accessFlags := 2, slot := 0, constantValue := 0 }, { name := "falses", type := .int, accessFlags := 2, slot := 1, constantValue := 0 }, { name := "unknowns", type := .int, accessFlags := 2, slot := 2, constantValue := 0 }]
  methods := #[k8m0, k8m1, k8m2, k8m3, k8m4, k8m5, k8m6]
  instanceTypes := #[.int, .int, .int]
  staticTypes := #[]
  resolved := Array.replicate 75 none
  statics := none }

def pool9 : Array CpInfo := pool [(1, u "java/lang/Cloneable"), (0, .class_ 1), (0, u "java/lang/Object"), (0, .class_ 3)] 3

/-- java/lang/Cloneable -/
def k9 : Class := { plain "java/lang/Cloneable" (some 0) with
  accessFlags := 1537
  interfaces := #[]
  cf := some (fileOf pool9 2 #[] #[] 1537 4 #[] #[])
  fields := #[]
  methods := #[]
  instanceTypes := #[]
  staticTypes := #[]
  resolved := Array.replicate 8 none
  statics := none }

/-- the primitive byte -/
def k10 : Class := { plain "byte" none with kind := .primitive 'B', accessFlags := 0x411 }
/-- [B -/
def k11 : Class := { plain "[B" (some 0) with kind := .array 10 .byte, interfaces := #[9, 4], accessFlags := 1041 }

def heap : Heap := #[{ cls := 6, slots := #[.ref 2, .ref 3, .ref 1, .null, .null], vm := .statics 6 },
  { cls := 6, slots := #[.null, .int 2, .int 0], vm := .none },
  { cls := 6, slots := #[.null, .int 0, .int 0], vm := .none },
  { cls := 6, slots := #[.null, .int 1, .int 0], vm := .none }]
def classes : Array Class := #[k0, k1, k2, k3, k4, k5, k6, k7, k8, k9, k10, k11]
def interned : List (Array UInt16 × Addr) := []
def slotsUsed : Nat := 14
def theMethod : MethodId := ⟨1, 2⟩
def args0 : Array Value := #[.int 5, .int 5, .int 5, .int 5]
def aboutOver (below : List Frame) : State where
  vm := { classes := classes, interned := interned.toArray }
  heap := heap
  slotsUsed := slotsUsed
  threads := #[{ frames := .invoking theMethod args0 :: below }]
def below0 : List Frame := [.native { method := ⟨0, 0⟩, args := #[] }]
def about1 : State := aboutOver below0
def p0 : Program := .bare "" "" ""
def e0 : Env := launch0.env 0 0 0
theorem w_frames : about1.frames = Frame.invoking theMethod args0 :: below0 := rfl
set_option maxRecDepth 65536 in
theorem w_args : argsFit about1.vm theMethod args0 = true := by decide +kernel
set_option maxRecDepth 65536 in
theorem w_heap : heapFits about1 = true := by decide +kernel
set_option maxRecDepth 65536 in
theorem w_runnable : about1.curStatus? = some .runnable := by decide +kernel
set_option maxRecDepth 65536 in
theorem w_alone : about1.alone = true := by decide +kernel
set_option maxRecDepth 65536 in
theorem w_named : about1.methodNamed? x = some theMethod := by decide +kernel
set_option maxRecDepth 65536 in
theorem w_hears : about1.hears theMethod below0 = true := by decide +kernel
set_option maxRecDepth 65536 in
theorem w_ripe : about1.ripe theMethod args0 below0 = true := by decide +kernel
theorem w_running : about1.status = .running := rfl
set_option maxRecDepth 65536 in
theorem w_room : about1.hasRoom e0.platform room_1 = true :=
  launch0.hasRoom_least _ room_1 (by decide +kernel) (by decide +kernel) (by decide +kernel) (by decide +kernel) (by decide +kernel) (by decide +kernel)
theorem allAtoms_all (ts : List Jvm.Cond) (a : Array Jvm.Value) (st : Jvm.State) : (allAtoms ts).before a st = ts.all (fun c => c.before a st) := by
  induction ts with
  | nil => rfl
  | cons c t ih =>
    show (Jvm.Cond.and c (allAtoms t)).before a st = _
    rw [Jvm.Cond.before_and, ih, List.all_cons]
def words1 : List Jvm.Cond := Jvm.Cond.code x code maxLocals ret :: tables_1
/-- a 'code' word, met by the world's own term for the bytes: nothing is compared byte by byte -/
theorem code_word {y : MethodName} {bytes : ByteArray} {mx : Nat} {rt : Option FieldType} {a : Array Value} {s : State} {m : MethodId} {meth : Method} {c : Code} (h1 : s.methodNamed? y = some m) (h2 : s.vm.method? m = some meth) (h3 : meth.code = some c) (h4 : c.code = bytes)
    (h5 : (c.maxLocals == mx && c.exceptionTable.isEmpty && decide (c.maxStack ≤ mostOperands) && decide (meth.sig.returnType = rt) && !meth.locks && decide (parseMethodDescriptor y.desc = some meth.sig)) = true) : (Jvm.Cond.code y bytes mx rt).before a s = true := by
  simp only [Bool.and_eq_true, beq_iff_eq, Bool.not_eq_true', decide_eq_true_eq] at h5
  obtain ⟨⟨⟨⟨⟨g1, g2⟩, g3⟩, g4⟩, g5⟩, g6⟩ := h5
  simp [Cond.before, Cond.holds, Cond.value, h1, h2, h3, h4, g1, g2, g3, g4, g5, g6]
def isCode : Jvm.Cond → Bool
  | .code _ _ _ _ => true
  | _ => false
theorem all_split {L : List Jvm.Cond} {P : Jvm.Cond → Bool} (h1 : L.all (fun c => isCode c || P c) = true) (h2 : ∀ c ∈ L.filter isCode, P c = true) : L.all P = true := by
  refine List.all_eq_true.mpr fun c hc => ?_
  have h := List.all_eq_true.mp h1 c hc
  rcases Bool.eq_false_or_eq_true (isCode c) with hi | hi
  · exact h2 c (List.mem_filter.mpr ⟨hc, hi⟩)
  · simpa [hi] using h
set_option maxRecDepth 65536 in
theorem w_c0 : (Jvm.Cond.code x code maxLocals ret).before args0 about1 = true := code_word (m := ⟨1, 2⟩) (meth := k1m2) (c := k1c2) (by decide +kernel) rfl rfl rfl (by decide +kernel)
set_option maxRecDepth 65536 in
theorem w_c1 : (Jvm.Cond.code ({ cls := "com/example/contexture/contexture/engine/evaluation/TallyClearPinLaw", name := "v", desc := "(I)Lcom/example/contexture/contexture/engine/evaluation/TruthValue;" } : Jvm.MethodName) method_2_code (2 : Nat) (Option.some (Jvm.ClassFile.FieldType.object "com/example/contexture/contexture/engine/evaluation/TruthValue"))).before args0 about1 = true := code_word (m := ⟨1, 1⟩) (meth := k1m1) (c := k1c1) (by decide +kernel) rfl rfl rfl (by decide +kernel)
set_option maxRecDepth 65536 in
theorem w_c2 : (Jvm.Cond.code ({ cls := "com/example/contexture/contexture/engine/evaluation/TruthValue$Tally", name := "<init>", desc := "()V" } : Jvm.MethodName) prog_17_method_1_code (1 : Nat) (Option.none : Option Jvm.ClassFile.FieldType)).before args0 about1 = true := code_word (m := ⟨8, 0⟩) (meth := k8m0) (c := k8c0) (by decide +kernel) rfl rfl rfl (by decide +kernel)
set_option maxRecDepth 65536 in
theorem w_c3 : (Jvm.Cond.code ({ cls := "java/lang/Object", name := "<init>", desc := "()V" } : Jvm.MethodName) object_method_1_code (1 : Nat) (Option.none : Option Jvm.ClassFile.FieldType)).before args0 about1 = true := code_word (m := ⟨0, 0⟩) (meth := k0m0) (c := k0c0) (by decide +kernel) rfl rfl rfl (by decide +kernel)
set_option maxRecDepth 65536 in
theorem w_c4 : (Jvm.Cond.code ({ cls := "com/example/contexture/contexture/engine/evaluation/TruthValue$Tally", name := "clear", desc := "()V" } : Jvm.MethodName) prog_17_method_3_code (1 : Nat) (Option.none : Option Jvm.ClassFile.FieldType)).before args0 about1 = true := code_word (m := ⟨8, 2⟩) (meth := k8m2) (c := k8c2) (by decide +kernel) rfl rfl rfl (by decide +kernel)
set_option maxRecDepth 65536 in
theorem w_c5 : (Jvm.Cond.code ({ cls := "com/example/contexture/contexture/engine/evaluation/TruthValue$Tally", name := "add", desc := "(Lcom/example/contexture/contexture/engine/evaluation/TruthValue;)V" } : Jvm.MethodName) prog_17_method_2_code (2 : Nat) (Option.none : Option Jvm.ClassFile.FieldType)).before args0 about1 = true := code_word (m := ⟨8, 1⟩) (meth := k8m1) (c := k8c1) (by decide +kernel) rfl rfl rfl (by decide +kernel)
set_option maxRecDepth 65536 in
theorem w_c6 : (Jvm.Cond.code ({ cls := "java/lang/Enum", name := "ordinal", desc := "()I" } : Jvm.MethodName) jdk_37_method_2_code (1 : Nat) (Option.some Jvm.ClassFile.FieldType.int)).before args0 about1 = true := code_word (m := ⟨5, 0⟩) (meth := k5m0) (c := k5c0) (by decide +kernel) rfl rfl rfl (by decide +kernel)
set_option maxRecDepth 65536 in
theorem w_c7 : (Jvm.Cond.code ({ cls := "com/example/contexture/contexture/engine/evaluation/TruthValue$Tally", name := "and", desc := "()Lcom/example/contexture/contexture/engine/evaluation/TruthValue;" } : Jvm.MethodName) prog_17_method_4_code (1 : Nat) (Option.some (Jvm.ClassFile.FieldType.object "com/example/contexture/contexture/engine/evaluation/TruthValue"))).before args0 about1 = true := code_word (m := ⟨8, 3⟩) (meth := k8m3) (c := k8c3) (by decide +kernel) rfl rfl rfl (by decide +kernel)
set_option maxRecDepth 65536 in
theorem w_c8 : (Jvm.Cond.code ({ cls := "com/example/contexture/contexture/engine/evaluation/TruthValue$Tally", name := "or", desc := "()Lcom/example/contexture/contexture/engine/evaluation/TruthValue;" } : Jvm.MethodName) prog_17_method_5_code (1 : Nat) (Option.some (Jvm.ClassFile.FieldType.object "com/example/contexture/contexture/engine/evaluation/TruthValue"))).before args0 about1 = true := code_word (m := ⟨8, 4⟩) (meth := k8m4) (c := k8c4) (by decide +kernel) rfl rfl rfl (by decide +kernel)
set_option maxRecDepth 65536 in
theorem w_c9 : (Jvm.Cond.code ({ cls := "com/example/contexture/contexture/engine/evaluation/TruthValue$Tally", name := "xor", desc := "()Lcom/example/contexture/contexture/engine/evaluation/TruthValue;" } : Jvm.MethodName) prog_17_method_6_code (1 : Nat) (Option.some (Jvm.ClassFile.FieldType.object "com/example/contexture/contexture/engine/evaluation/TruthValue"))).before args0 about1 = true := code_word (m := ⟨8, 5⟩) (meth := k8m5) (c := k8c5) (by decide +kernel) rfl rfl rfl (by decide +kernel)
set_option maxRecDepth 65536 in
theorem w_c10 : (Jvm.Cond.code ({ cls := "com/example/contexture/contexture/engine/evaluation/TruthValue", name := "of", desc := "(Z)Lcom/example/contexture/contexture/engine/evaluation/TruthValue;" } : Jvm.MethodName) prog_15_method_4_code (1 : Nat) (Option.some (Jvm.ClassFile.FieldType.object "com/example/contexture/contexture/engine/evaluation/TruthValue"))).before args0 about1 = true := code_word (m := ⟨6, 0⟩) (meth := k6m0) (c := k6c0) (by decide +kernel) rfl rfl rfl (by decide +kernel)
set_option maxRecDepth 65536 in
theorem w_c11 : (Jvm.Cond.code ({ cls := "com/example/contexture/contexture/engine/evaluation/TruthValue$Tally", name := "settledBy", desc := "(Lcom/example/contexture/contexture/engine/evaluation/TruthValue;)Lcom/example/contexture/contexture/engine/evaluation/TruthValue;" } : Jvm.MethodName) prog_17_method_7_code (2 : Nat) (Option.some (Jvm.ClassFile.FieldType.object "com/example/contexture/contexture/engine/evaluation/TruthValue"))).before args0 about1 = true := code_word (m := ⟨8, 6⟩) (meth := k8m6) (c := k8c6) (by decide +kernel) rfl rfl rfl (by decide +kernel)
def codes1 : List Jvm.Cond := [Jvm.Cond.code x code maxLocals ret, Jvm.Cond.code ({ cls := "com/example/contexture/contexture/engine/evaluation/TallyClearPinLaw", name := "v", desc := "(I)Lcom/example/contexture/contexture/engine/evaluation/TruthValue;" } : Jvm.MethodName) method_2_code (2 : Nat) (Option.some (Jvm.ClassFile.FieldType.object "com/example/contexture/contexture/engine/evaluation/TruthValue")), Jvm.Cond.code ({ cls := "com/example/contexture/contexture/engine/evaluation/TruthValue$Tally", name := "<init>", desc := "()V" } : Jvm.MethodName) prog_17_method_1_code (1 : Nat) (Option.none : Option Jvm.ClassFile.FieldType), Jvm.Cond.code ({ cls := "java/lang/Object", name := "<init>", desc := "()V" } : Jvm.MethodName) object_method_1_code (1 : Nat) (Option.none : Option Jvm.ClassFile.FieldType), Jvm.Cond.code ({ cls := "com/example/contexture/contexture/engine/evaluation/TruthValue$Tally", name := "clear", desc := "()V" } : Jvm.MethodName) prog_17_method_3_code (1 : Nat) (Option.none : Option Jvm.ClassFile.FieldType), Jvm.Cond.code ({ cls := "com/example/contexture/contexture/engine/evaluation/TruthValue$Tally", name := "add", desc := "(Lcom/example/contexture/contexture/engine/evaluation/TruthValue;)V" } : Jvm.MethodName) prog_17_method_2_code (2 : Nat) (Option.none : Option Jvm.ClassFile.FieldType), Jvm.Cond.code ({ cls := "java/lang/Enum", name := "ordinal", desc := "()I" } : Jvm.MethodName) jdk_37_method_2_code (1 : Nat) (Option.some Jvm.ClassFile.FieldType.int), Jvm.Cond.code ({ cls := "com/example/contexture/contexture/engine/evaluation/TruthValue$Tally", name := "and", desc := "()Lcom/example/contexture/contexture/engine/evaluation/TruthValue;" } : Jvm.MethodName) prog_17_method_4_code (1 : Nat) (Option.some (Jvm.ClassFile.FieldType.object "com/example/contexture/contexture/engine/evaluation/TruthValue")), Jvm.Cond.code ({ cls := "com/example/contexture/contexture/engine/evaluation/TruthValue$Tally", name := "or", desc := "()Lcom/example/contexture/contexture/engine/evaluation/TruthValue;" } : Jvm.MethodName) prog_17_method_5_code (1 : Nat) (Option.some (Jvm.ClassFile.FieldType.object "com/example/contexture/contexture/engine/evaluation/TruthValue")), Jvm.Cond.code ({ cls := "com/example/contexture/contexture/engine/evaluation/TruthValue$Tally", name := "xor", desc := "()Lcom/example/contexture/contexture/engine/evaluation/TruthValue;" } : Jvm.MethodName) prog_17_method_6_code (1 : Nat) (Option.some (Jvm.ClassFile.FieldType.object "com/example/contexture/contexture/engine/evaluation/TruthValue")), Jvm.Cond.code ({ cls := "com/example/contexture/contexture/engine/evaluation/TruthValue", name := "of", desc := "(Z)Lcom/example/contexture/contexture/engine/evaluation/TruthValue;" } : Jvm.MethodName) prog_15_method_4_code (1 : Nat) (Option.some (Jvm.ClassFile.FieldType.object "com/example/contexture/contexture/engine/evaluation/TruthValue")), Jvm.Cond.code ({ cls := "com/example/contexture/contexture/engine/evaluation/TruthValue$Tally", name := "settledBy", desc := "(Lcom/example/contexture/contexture/engine/evaluation/TruthValue;)Lcom/example/contexture/contexture/engine/evaluation/TruthValue;" } : Jvm.MethodName) prog_17_method_7_code (2 : Nat) (Option.some (Jvm.ClassFile.FieldType.object "com/example/contexture/contexture/engine/evaluation/TruthValue"))]
set_option maxRecDepth 65536 in
theorem codes_eq : words1.filter isCode = codes1 := rfl
theorem w_codes : ∀ c ∈ words1.filter isCode, c.before args0 about1 = true := by
  rw [codes_eq]
  intro c hc
  simp only [codes1, List.mem_cons, List.not_mem_nil, or_false] at hc
  rcases hc with rfl | rfl | rfl | rfl | rfl | rfl | rfl | rfl | rfl | rfl | rfl | rfl
  · exact w_c0
  · exact w_c1
  · exact w_c2
  · exact w_c3
  · exact w_c4
  · exact w_c5
  · exact w_c6
  · exact w_c7
  · exact w_c8
  · exact w_c9
  · exact w_c10
  · exact w_c11
set_option maxRecDepth 65536 in
theorem w_t1 : (words1.take 24).all (fun c => isCode c || c.before args0 about1) = true := by decide +kernel
set_option maxRecDepth 65536 in
theorem w_t2 : ((words1.drop 24).take 24).all (fun c => isCode c || c.before args0 about1) = true := by decide +kernel
set_option maxRecDepth 65536 in
theorem w_t3 : (((words1.drop 24).drop 24).take 24).all (fun c => isCode c || c.before args0 about1) = true := by decide +kernel
set_option maxRecDepth 65536 in
theorem w_t4 : (((words1.drop 24).drop 24).drop 24).all (fun c => isCode c || c.before args0 about1) = true := by decide +kernel
theorem w_tables : (allAtoms (Jvm.Cond.code x code maxLocals ret :: tables_1)).before args0 about1 = true := by
  rw [allAtoms_all]
  show words1.all (fun c => c.before args0 about1) = true
  refine all_split ?_ w_codes
  rw [← List.take_append_drop 24 words1, List.all_append, w_t1, ← List.take_append_drop 24 (words1.drop 24), List.all_append, w_t2, ← List.take_append_drop 24 ((words1.drop 24).drop 24), List.all_append, w_t3, w_t4]
  rfl
set_option maxRecDepth 65536 in
theorem w_case : (Jvm.Cond.and given_1 narrow_1).before args0 about1 = true := by decide +kernel
theorem w_applies : (headSpec (Jvm.Cond.code x code maxLocals ret :: tables_1) room_1).applies x e0.platform about1 = true :=
  (Spec.applies_iff w_frames).mpr ⟨w_running, w_runnable, w_alone, w_named, w_hears, w_ripe, w_room, w_tables⟩
theorem atStart : AtStart classFile x code maxLocals ret World_1 tables_1 room_1 Calls_1 rest_1 Pre_1 launch0 p0 e0 about1 theMethod args0 below0 :=
  ⟨lists_1, trivial, launch0.admits_env _ _ _, launch0.least_env, fairChoices_fair.cas, fairChoices_fair.clock, w_frames, w_args, w_heap, w_applies, trivial, trivial, w_case⟩
end start1
theorem witness_1 : WitnessClaimed_1 := ⟨start1.p0, start1.e0, start1.about1, start1.theMethod, start1.args0, start1.below0, start1.atStart⟩
end Jvm.Pilot.@@N@@
