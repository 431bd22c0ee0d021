import JvmDerived
import JvmDerived.Pilot.@@N@@Statement
import JvmDerived.Pilot.@@N@@Code
set_option linter.unusedVariables false
set_option linter.unusedSimpArgs false
@@BLOCK:NumsL.lean.txt@@
namespace Jvm.RoadKit
open Sem ClassFile Op Lib Jvm.Stand Jvm.Free Jvm.LawKit
section New
variable {p : Program} {l : Launch} {e : Env} {R : Room} {s : State} {m : MethodId} {args : Array Value} {below : List Frame} {meth : Method} {c : Code} {T : State} {locs : List Loc} {cells slots : Nat}
theorem retI (X : Stand p l e R s m args below meth c T locs cells slots) (hx : p.tables.exec = Jvm.exec) {pc : Nat} {Ls : Array Slot} {z : Int32} {rest : List Value} (hret : meth.sig.returnType = some .int) (hd : decode c.code pc = .ok (.ireturn, 1)) {fs : List Frame}
    (hl : ∀ (f : JFrame) (acts : List Action), f.method = m → f.locked = none → f.entered = [] → (doReturn e (T.setTop f) acts (some (.int z))).1 = T.setFrames fs) : Steps p.tables e below (T.setTop (mkF m pc Ls (.int z :: rest))) (T.setFrames fs) := by
  have hm' : T.vm.method? m = some meth := X.method'
  have hn : narrow .int (.int z) = .int z := rfl
  show Steps p.tables e below (T.setTop { method := m, pc := pc, locals := Ls, stack := _ :: rest, locked := none }) _
  jvm_step X.here [X.here.top, hx, hd, hm', hret, hn]
  first | (intro acts; rw [hl _ acts rfl rfl rfl]) | rw [hl _ _ rfl rfl rfl]
  exact Steps.refl _
end New
end Jvm.RoadKit
namespace Jvm.Pilot.@@N@@
open Jvm Jvm.ClassFile Sem Op Lib Jvm.Free Jvm.Stand Jvm.LawKit Jvm.RoadKit Bundle Jvm.Pilot.@@N@@.Jvm.D
theorem own_fld_ne {Z : State} {h : Heap} {a b : Addr} {C n d : String} {v w : Value} (F : Fld Z h a C n d v) (G : Fld Z h b C n d w) (q : v ≠ w) : a ≠ b := fun e => by
  subst e
  obtain ⟨c1, cf1, k1, i1, f1, a1, a2, -, -, -, -, a7⟩ := F
  obtain ⟨c2, cf2, k2, i2, f2, b1, b2, -, -, -, -, b7⟩ := G
  cases a1.symm.trans b1
  cases a2.symm.trans b2
  exact q (Option.some.inj (a7.symm.trans b7))
theorem own_fldI {args : Array Value} {s : State} {t : Term} {a : Addr} {C n d : String} {k : Int32} (ht : t.eval args s none [] s = some (.ref a)) (h : (Jvm.Cond.eq (Term.field t C n d) (Term.int k)).value args s none s [] = some true) : Fld s s.heap a C n d (.int k) := by
  apply Fld.start
  have e1 : (Term.field t C n d).eval args s none [] s = s.fieldOf? a C n d := fld_at ht
  have e2 : (Term.int k).eval args s none [] s = some (.int k) := Term.int_eval k
  simp only [Cond.value, e1, e2] at h
  split at h <;> simp_all
theorem own_nm0 {a : Addr} : a ∉ ([] : List Addr) := List.not_mem_nil
theorem own_nm1 {a x : Addr} (h : a ≠ x) : a ∉ [x] := fun q => h (List.mem_singleton.mp q)
theorem own_nm2 {a x y : Addr} (h : a ≠ x) (h2 : a ≠ y) : a ∉ [x, y] := fun q => by
  rcases List.mem_cons.mp q with q | q
  · exact h q
  · exact h2 (List.mem_singleton.mp q)
theorem own_nm3 {a x y z : Addr} (h : a ≠ x) (h2 : a ≠ y) (h3 : a ≠ z) : a ∉ [x, y, z] := fun q => by
  rcases List.mem_cons.mp q with q | q
  · exact h q
  · exact own_nm2 h2 h3 q
theorem own_all0 {P : Addr → Prop} : ∀ x ∈ ([] : List Addr), P x := fun x q => (List.not_mem_nil q).elim
theorem own_all1 {P : Addr → Prop} {a : Addr} (h : P a) : ∀ x ∈ [a], P x := fun x q => by rw [List.mem_singleton.mp q]; exact h
theorem own_all2 {P : Addr → Prop} {a b : Addr} (h : P a) (h2 : P b) : ∀ x ∈ [a, b], P x := fun x q => by
  rcases List.mem_cons.mp q with q | q
  · rw [q]; exact h
  · rw [List.mem_singleton.mp q]; exact h2
theorem own_all3 {P : Addr → Prop} {a b c : Addr} (h : P a) (h2 : P b) (h3 : P c) : ∀ x ∈ [a, b, c], P x := fun x q => by
  rcases List.mem_cons.mp q with q | q
  · rw [q]; exact h
  · exact own_all2 h2 h3 x q
theorem own_mask3 (x : Int32) : (x &&& (3 : Int32)) = (0 : Int32) ∨ (x &&& (3 : Int32)) = (1 : Int32) ∨ (x &&& (3 : Int32)) = (2 : Int32) ∨ (x &&& (3 : Int32)) = (3 : Int32) := by
  have e : (x &&& 3).toInt = x.toInt % 2 ^ 2 := Jvm.Kit.i32_mask x 3 (k := 2) (by decide) (by decide)
  have h : (x &&& 3).toInt = 0 ∨ (x &&& 3).toInt = 1 ∨ (x &&& 3).toInt = 2 ∨ (x &&& 3).toInt = 3 := by omega
  rcases h with h | h | h | h
  · exact Or.inl (Int32.toInt_inj.mp h)
  · exact Or.inr (Or.inl (Int32.toInt_inj.mp h))
  · exact Or.inr (Or.inr (Or.inl (Int32.toInt_inj.mp h)))
  · exact Or.inr (Or.inr (Or.inr (Int32.toInt_inj.mp h)))
theorem pn_0 : plainName "com/example/optlint/optlint/TristateNotPinLaw" = true := by first | (simp [plainName, overriddenIn]; done) | decide +kernel
theorem ef_1 (m : MethodId) (x0 : Int32) : entryFrame m #[(.int x0)] maxLocals = mkF m 0 #[.val (.int x0), .unset, .unset, .unset, .unset] [] := by first | (simp [entryFrame, mkF, argsToLocals, Value.category, maxLocals]; done) | rfl
theorem d1_0 : decode method_2_code 0 = .ok (.iload_n 0, 1) := by decide +kernel
theorem d1_1 : decode method_2_code 1 = .ok (.ifCond .ne 7, 3) := by decide +kernel
theorem d1_4 : decode method_2_code 4 = .ok (.getstatic 7, 3) := by decide +kernel
theorem d1_7 : decode method_2_code 7 = .ok (.areturn, 1) := by decide +kernel
theorem ef_2 (m : MethodId) (x0 : Int32) : entryFrame m #[(.int x0)] 1 = mkF m 0 #[.val (.int x0)] [] := by first | (simp [entryFrame, mkF, argsToLocals, Value.category]; done) | rfl
def Q_pick1_0 (Z : State) (a_NO : Addr) (h0 : Heap) (n0 : Nat) (v : Option Value) (h : Heap) (L : List Loc) : Prop := v = some (.ref a_NO) ∧ Fr n0 L ∧ h = h0
set_option maxRecDepth 65536 in
set_option maxHeartbeats 40000000 in
theorem rm_pick1_0 (l : Launch) (Z : State) (a0 : Array Value) (hw : ∀ d ∈ tables_1, d.before a0 Z = true) (ws : List Jvm.Cond) (a_NO : Addr) (h0 : Heap) (n0 : Nat) (O0 : Old Z n0 h0) (G0 : Sta Z Z.heap "com/example/optlint/optlint/Tristate" "NO" "Lcom/example/optlint/optlint/Tristate;" (.ref a_NO)) :
    MetFree l (⟨"com/example/optlint/optlint/TristateNotPinLaw", "pick", "(I)Lcom/example/optlint/optlint/Tristate;"⟩ : MethodName) (head1 (Jvm.Cond.code (⟨"com/example/optlint/optlint/TristateNotPinLaw", "pick", "(I)Lcom/example/optlint/optlint/Tristate;"⟩ : MethodName) method_2_code 1 (some (.object "com/example/optlint/optlint/Tristate")) :: ws) ({ frames := 0, cells := 0, slots := 0, locals := 0 } : Room)) (fun a U => a = #[(.int (0 : Int32))] ∧ Z.Warmed39 U.vm ∧ U.heap = h0) (fun _ _ _ _ _ => True) (fun _ U o U' => ∃ v L, o = .returned v ∧ Q_pick1_0 Z a_NO h0 n0 v U'.heap L ∧ FrameEnd U o U' L ({ frames := 0, cells := 0, slots := 0, locals := 0 } : Room).cells ({ frames := 0, cells := 0, slots := 0, locals := 0 } : Room).slots) := by
  refine MetFree.of_bodySF (plainFor_of_name pn_0) hisR ?_
  intro p e s m args below meth c s₁ Bd hml0 hP hK
  obtain ⟨rfl, hZ, hh⟩ := hP
  have hx := Bd.exec
  have hby := Bd.bytes
  have hml : c.maxLocals = 1 := hml0
  have hown : s.vm.findClass "com/example/optlint/optlint/TristateNotPinLaw" = some m.cls := findClass_of_methodNamed Bd.named
  have hnm := (name_of_methodNamed Bd.named Bd.method).1
  have X0 : Stand p l e ({ frames := 0, cells := 0, slots := 0, locals := 0 } : Room) s m #[(.int (0 : Int32))] below meth c s₁ [] 0 0 := Stand.of_body Bd
  have e0 : s₁.heap = h0 := by rw [← hh, Bd.state]; rfl
  have N0 := Fr.nil n0
  have pre0 : ∀ t, Steps p.tables e below (s₁.setTop (mkF m 0 #[.val (.int (0 : Int32))] [])) t → Steps p.tables e below (s₁.setTop (entryFrame m #[(.int (0 : Int32))] 1)) t := fun t k => castTop (ef_2 m (0 : Int32)) k
  have K0 : Keep h0 h0 [] := Keep.refl h0 []
  have pre11 : ∀ t, Steps p.tables e below (s₁.setTop (mkF m 4 #[.val (.int (0 : Int32))] [])) t → Steps p.tables e below (s₁.setTop (entryFrame m #[(.int (0 : Int32))] 1)) t := fun t kt => by
    refine pre0 _ ?_
    show Steps p.tables e below (s₁.setTop (mkF m 0 #[.val (.int (0 : Int32))] [])) _
    refine XS.iloadN X0.here hx rfl (hb hby d1_0) rfl ?_
    show Steps p.tables e below (s₁.setTop (mkF m 1 #[.val (.int (0 : Int32))] [(.int (0 : Int32))])) _
    refine XS.ifNo X0.here hx rfl (hb hby d1_1) rfl (XT.i0_ne_f (by decide)) ?_
    exact kt
  obtain ⟨T12, X12, e12, st12⟩ := getS2 X0 hx hZ hown (host := "") (Or.inl (hw _ (List.mem_of_getElem? (i := 4) rfl))) Via.refl e0 (G0.ext O0.2) (g := (mkF m 4 #[.val (.int (0 : Int32))] [])) rfl (hb hby d1_4)
  have pre13 : ∀ t, Steps p.tables e below (T12.setTop (mkF m 7 #[.val (.int (0 : Int32))] [(.ref a_NO)])) t → Steps p.tables e below (s₁.setTop (entryFrame m #[(.int (0 : Int32))] 1)) t := fun t kt => pre11 _ (st12 _ kt)
  obtain ⟨fs, hr, hrun, hended, hW, hsame⟩ := X12.leave (v := some (.ref a_NO)) (fun h => by rw [Bd.returns] at h; cases h)
  refine ⟨_, _, pre13 _ (X12.areturnOut hx rfl Bd.returns rfl (hb hby d1_7) hr), hrun, hended, _, _, rfl, ?_, ⟨_, rfl⟩, hW, hsame.mono (by decide) (by decide)⟩
  show Q_pick1_0 Z a_NO h0 n0 _ T12.heap _
  rw [e12]
  exact ⟨rfl, N0, rfl⟩
theorem pd_3 : parseMethodDescriptor "(I)Lcom/example/optlint/optlint/Tristate;" = some ⟨[.int], some (.object "com/example/optlint/optlint/Tristate")⟩ := by decide +kernel
theorem d2_0 : decode prog_85_method_6_code 0 = .ok (.aload_n 0, 1) := by decide +kernel
theorem d2_1 : decode prog_85_method_6_code 1 = .ok (.getstatic 3, 3) := by decide +kernel
theorem d2_4 : decode prog_85_method_6_code 4 = .ok (.if_acmp .ne 10, 3) := by decide +kernel
theorem d2_7 : decode prog_85_method_6_code 7 = .ok (.getstatic 10, 3) := by decide +kernel
theorem d2_10 : decode prog_85_method_6_code 10 = .ok (.astore_n 1, 1) := by decide +kernel
theorem d2_11 : decode prog_85_method_6_code 11 = .ok (.goto 19, 3) := by decide +kernel
theorem d2_30 : decode prog_85_method_6_code 30 = .ok (.aload_n 1, 1) := by decide +kernel
theorem d2_31 : decode prog_85_method_6_code 31 = .ok (.areturn, 1) := by decide +kernel
theorem pn_4 : plainName "com/example/optlint/optlint/Tristate" = true := by first | (simp [plainName, overriddenIn]; done) | decide +kernel
theorem ef_5 (m : MethodId) (x0 : Addr) : entryFrame m #[(.ref x0)] 2 = mkF m 0 #[.val (.ref x0), .unset] [] := by first | (simp [entryFrame, mkF, argsToLocals, Value.category]; done) | rfl
def Q_not2_0 (Z : State) (a_NO : Addr) (a_YES : Addr) (h0 : Heap) (n0 : Nat) (v : Option Value) (h : Heap) (L : List Loc) : Prop := v = some (.ref a_YES) ∧ Fr n0 L ∧ h = h0
set_option maxRecDepth 65536 in
set_option maxHeartbeats 40000000 in
theorem rm_not2_0 (l : Launch) (Z : State) (a0 : Array Value) (hw : ∀ d ∈ tables_1, d.before a0 Z = true) (ws : List Jvm.Cond) (a_NO : Addr) (a_YES : Addr) (h0 : Heap) (n0 : Nat) (O0 : Old Z n0 h0) (G0 : Sta Z Z.heap "com/example/optlint/optlint/Tristate" "NO" "Lcom/example/optlint/optlint/Tristate;" (.ref a_NO)) (G1 : Sta Z Z.heap "com/example/optlint/optlint/Tristate" "YES" "Lcom/example/optlint/optlint/Tristate;" (.ref a_YES)) :
    MetFree l (⟨"com/example/optlint/optlint/Tristate", "not", "()Lcom/example/optlint/optlint/Tristate;"⟩ : MethodName) (head1 (Jvm.Cond.code (⟨"com/example/optlint/optlint/Tristate", "not", "()Lcom/example/optlint/optlint/Tristate;"⟩ : MethodName) prog_85_method_6_code 2 (some (.object "com/example/optlint/optlint/Tristate")) :: ws) ({ frames := 0, cells := 0, slots := 0, locals := 0 } : Room)) (fun a U => a = #[(.ref a_NO)] ∧ Z.Warmed39 U.vm ∧ U.heap = h0) (fun _ _ _ _ _ => True) (fun _ U o U' => ∃ v L, o = .returned v ∧ Q_not2_0 Z a_NO a_YES h0 n0 v U'.heap L ∧ FrameEnd U o U' L ({ frames := 0, cells := 0, slots := 0, locals := 0 } : Room).cells ({ frames := 0, cells := 0, slots := 0, locals := 0 } : Room).slots) := by
  refine MetFree.of_bodySF (plainFor_of_name pn_4) hisR ?_
  intro p e s m args below meth c s₁ Bd hml0 hP hK
  obtain ⟨rfl, hZ, hh⟩ := hP
  have hx := Bd.exec
  have hby := Bd.bytes
  have hml : c.maxLocals = 2 := hml0
  have hown : s.vm.findClass "com/example/optlint/optlint/Tristate" = some m.cls := findClass_of_methodNamed Bd.named
  have hnm := (name_of_methodNamed Bd.named Bd.method).1
  have X0 : Stand p l e ({ frames := 0, cells := 0, slots := 0, locals := 0 } : Room) s m #[(.ref a_NO)] below meth c s₁ [] 0 0 := Stand.of_body Bd
  have e0 : s₁.heap = h0 := by rw [← hh, Bd.state]; rfl
  have N0 := Fr.nil n0
  have pre0 : ∀ t, Steps p.tables e below (s₁.setTop (mkF m 0 #[.val (.ref a_NO), .unset] [])) t → Steps p.tables e below (s₁.setTop (entryFrame m #[(.ref a_NO)] 2)) t := fun t k => castTop (ef_5 m a_NO) k
  have K0 : Keep h0 h0 [] := Keep.refl h0 []
  have pre31 : ∀ t, Steps p.tables e below (s₁.setTop (mkF m 1 #[.val (.ref a_NO), .unset] [(.ref a_NO)])) t → Steps p.tables e below (s₁.setTop (entryFrame m #[(.ref a_NO)] 2)) t := fun t kt => by
    refine pre0 _ ?_
    show Steps p.tables e below (s₁.setTop (mkF m 0 #[.val (.ref a_NO), .unset] [])) _
    refine XS.aloadN X0.here hx rfl (hb hby d2_0) rfl rfl ?_
    exact kt
  obtain ⟨T32, X32, e32, st32⟩ := getS2 X0 hx hZ hown (host := "") (Or.inl (hw _ (List.mem_of_getElem? (i := 12) rfl))) Via.refl e0 (G0.ext O0.2) (g := (mkF m 1 #[.val (.ref a_NO), .unset] [(.ref a_NO)])) rfl (hb hby d2_1)
  have pre33 : ∀ t, Steps p.tables e below (T32.setTop (mkF m 4 #[.val (.ref a_NO), .unset] [(.ref a_NO), (.ref a_NO)])) t → Steps p.tables e below (s₁.setTop (entryFrame m #[(.ref a_NO)] 2)) t := fun t kt => pre31 _ (st32 _ kt)
  have pre34 : ∀ t, Steps p.tables e below (T32.setTop (mkF m 7 #[.val (.ref a_NO), .unset] [])) t → Steps p.tables e below (s₁.setTop (entryFrame m #[(.ref a_NO)] 2)) t := fun t kt => by
    refine pre33 _ ?_
    show Steps p.tables e below (T32.setTop (mkF m 4 #[.val (.ref a_NO), .unset] [(.ref a_NO), (.ref a_NO)])) _
    refine Jvm.RoadKit.acmp (g := (mkF m 4 #[.val (.ref a_NO), .unset] [(.ref a_NO), (.ref a_NO)])) X32 hx rfl rfl rfl (pc0 := 4) (pc' := 7) (same := true) rfl (hb hby d2_4) rfl (decide_eq_true rfl) (by decide) (by decide) ?_
    exact kt
  obtain ⟨T35, X35, e35, st35⟩ := getS2 X32 hx hZ hown (host := "") (Or.inl (hw _ (List.mem_of_getElem? (i := 13) rfl))) Via.refl e32 (G1.ext O0.2) (g := (mkF m 7 #[.val (.ref a_NO), .unset] [])) rfl (hb hby d2_7)
  have pre36 : ∀ t, Steps p.tables e below (T35.setTop (mkF m 10 #[.val (.ref a_NO), .unset] [(.ref a_YES)])) t → Steps p.tables e below (s₁.setTop (entryFrame m #[(.ref a_NO)] 2)) t := fun t kt => pre34 _ (st35 _ kt)
  have pre37 : ∀ t, Steps p.tables e below (T35.setTop (mkF m 31 #[.val (.ref a_NO), .val (.ref a_YES)] [(.ref a_YES)])) t → Steps p.tables e below (s₁.setTop (entryFrame m #[(.ref a_NO)] 2)) t := fun t kt => by
    refine pre36 _ ?_
    show Steps p.tables e below (T35.setTop (mkF m 10 #[.val (.ref a_NO), .unset] [(.ref a_YES)])) _
    refine XS.astoreN X35.here hx rfl (hb hby d2_10) rfl rfl (l' := #[.val (.ref a_NO), .val (.ref a_YES)]) rfl ?_
    show Steps p.tables e below (T35.setTop (mkF m 11 #[.val (.ref a_NO), .val (.ref a_YES)] [])) _
    refine XS.goto X35.here hx rfl (pc0 := 11) (pc' := 30) rfl (hb hby d2_11) (by decide) (by decide) ?_
    show Steps p.tables e below (T35.setTop (mkF m 30 #[.val (.ref a_NO), .val (.ref a_YES)] [])) _
    refine XS.aloadN X35.here hx rfl (hb hby d2_30) rfl rfl ?_
    exact kt
  obtain ⟨fs, hr, hrun, hended, hW, hsame⟩ := X35.leave (v := some (.ref a_YES)) (fun h => by rw [Bd.returns] at h; cases h)
  refine ⟨_, _, pre37 _ (X35.areturnOut hx rfl Bd.returns rfl (hb hby d2_31) hr), hrun, hended, _, _, rfl, ?_, ⟨_, rfl⟩, hW, hsame.mono (by decide) (by decide)⟩
  show Q_not2_0 Z a_NO a_YES h0 n0 _ T35.heap _
  rw [e35]
  exact ⟨rfl, N0, rfl⟩
theorem pd_6 : parseMethodDescriptor "()Lcom/example/optlint/optlint/Tristate;" = some ⟨[], some (.object "com/example/optlint/optlint/Tristate")⟩ := by decide +kernel
theorem d1_8 : decode method_2_code 8 = .ok (.iload_n 0, 1) := by decide +kernel
theorem d1_9 : decode method_2_code 9 = .ok (.iconst 1, 1) := by decide +kernel
theorem d1_10 : decode method_2_code 10 = .ok (.if_icmp .ne 7, 3) := by decide +kernel
theorem d1_17 : decode method_2_code 17 = .ok (.iload_n 0, 1) := by decide +kernel
theorem d1_18 : decode method_2_code 18 = .ok (.iconst 2, 1) := by decide +kernel
theorem d1_19 : decode method_2_code 19 = .ok (.if_icmp .ne 7, 3) := by decide +kernel
theorem d1_22 : decode method_2_code 22 = .ok (.getstatic 16, 3) := by decide +kernel
theorem d1_25 : decode method_2_code 25 = .ok (.areturn, 1) := by decide +kernel
def Q_pick1_1 (Z : State) (a_YES : Addr) (h0 : Heap) (n0 : Nat) (v : Option Value) (h : Heap) (L : List Loc) : Prop := v = some (.ref a_YES) ∧ Fr n0 L ∧ h = h0
set_option maxRecDepth 65536 in
set_option maxHeartbeats 40000000 in
theorem rm_pick1_1 (l : Launch) (Z : State) (a0 : Array Value) (hw : ∀ d ∈ tables_1, d.before a0 Z = true) (ws : List Jvm.Cond) (a_YES : Addr) (h0 : Heap) (n0 : Nat) (O0 : Old Z n0 h0) (G0 : Sta Z Z.heap "com/example/optlint/optlint/Tristate" "YES" "Lcom/example/optlint/optlint/Tristate;" (.ref a_YES)) :
    MetFree l (⟨"com/example/optlint/optlint/TristateNotPinLaw", "pick", "(I)Lcom/example/optlint/optlint/Tristate;"⟩ : MethodName) (head1 (Jvm.Cond.code (⟨"com/example/optlint/optlint/TristateNotPinLaw", "pick", "(I)Lcom/example/optlint/optlint/Tristate;"⟩ : MethodName) method_2_code 1 (some (.object "com/example/optlint/optlint/Tristate")) :: ws) ({ frames := 0, cells := 0, slots := 0, locals := 0 } : Room)) (fun a U => a = #[(.int (2 : Int32))] ∧ Z.Warmed39 U.vm ∧ U.heap = h0) (fun _ _ _ _ _ => True) (fun _ U o U' => ∃ v L, o = .returned v ∧ Q_pick1_1 Z a_YES h0 n0 v U'.heap L ∧ FrameEnd U o U' L ({ frames := 0, cells := 0, slots := 0, locals := 0 } : Room).cells ({ frames := 0, cells := 0, slots := 0, locals := 0 } : Room).slots) := by
  refine MetFree.of_bodySF (plainFor_of_name pn_0) hisR ?_
  intro p e s m args below meth c s₁ Bd hml0 hP hK
  obtain ⟨rfl, hZ, hh⟩ := hP
  have hx := Bd.exec
  have hby := Bd.bytes
  have hml : c.maxLocals = 1 := hml0
  have hown : s.vm.findClass "com/example/optlint/optlint/TristateNotPinLaw" = some m.cls := findClass_of_methodNamed Bd.named
  have hnm := (name_of_methodNamed Bd.named Bd.method).1
  have X0 : Stand p l e ({ frames := 0, cells := 0, slots := 0, locals := 0 } : Room) s m #[(.int (2 : Int32))] below meth c s₁ [] 0 0 := Stand.of_body Bd
  have e0 : s₁.heap = h0 := by rw [← hh, Bd.state]; rfl
  have N0 := Fr.nil n0
  have pre0 : ∀ t, Steps p.tables e below (s₁.setTop (mkF m 0 #[.val (.int (2 : Int32))] [])) t → Steps p.tables e below (s₁.setTop (entryFrame m #[(.int (2 : Int32))] 1)) t := fun t k => castTop (ef_2 m (2 : Int32)) k
  have K0 : Keep h0 h0 [] := Keep.refl h0 []
  have pre47 : ∀ t, Steps p.tables e below (s₁.setTop (mkF m 22 #[.val (.int (2 : Int32))] [])) t → Steps p.tables e below (s₁.setTop (entryFrame m #[(.int (2 : Int32))] 1)) t := fun t kt => by
    refine pre0 _ ?_
    show Steps p.tables e below (s₁.setTop (mkF m 0 #[.val (.int (2 : Int32))] [])) _
    refine XS.iloadN X0.here hx rfl (hb hby d1_0) rfl ?_
    show Steps p.tables e below (s₁.setTop (mkF m 1 #[.val (.int (2 : Int32))] [(.int (2 : Int32))])) _
    refine XS.ifYes X0.here hx rfl (pc0 := 1) (pc' := 8) rfl (hb hby d1_1) rfl (XT.i0_ne_t (by decide)) (by decide) (by decide) ?_
    show Steps p.tables e below (s₁.setTop (mkF m 8 #[.val (.int (2 : Int32))] [])) _
    refine XS.iloadN X0.here hx rfl (hb hby d1_8) rfl ?_
    show Steps p.tables e below (s₁.setTop (mkF m 9 #[.val (.int (2 : Int32))] [(.int (2 : Int32))])) _
    refine XS.iconst X0.here hx rfl (hb hby d1_9) ?_
    show Steps p.tables e below (s₁.setTop (mkF m 10 #[.val (.int (2 : Int32))] [(.int (1 : Int32)), (.int (2 : Int32))])) _
    refine XS.icmpYes X0.here hx rfl (pc0 := 10) (pc' := 17) rfl (hb hby d1_10) rfl (XT.ii_ne_t (by decide)) (by decide) (by decide) ?_
    show Steps p.tables e below (s₁.setTop (mkF m 17 #[.val (.int (2 : Int32))] [])) _
    refine XS.iloadN X0.here hx rfl (hb hby d1_17) rfl ?_
    show Steps p.tables e below (s₁.setTop (mkF m 18 #[.val (.int (2 : Int32))] [(.int (2 : Int32))])) _
    refine XS.iconst X0.here hx rfl (hb hby d1_18) ?_
    show Steps p.tables e below (s₁.setTop (mkF m 19 #[.val (.int (2 : Int32))] [(.int (2 : Int32)), (.int (2 : Int32))])) _
    refine XS.icmpNo X0.here hx rfl (hb hby d1_19) rfl (XT.ii_ne_f (by decide)) ?_
    exact kt
  obtain ⟨T48, X48, e48, st48⟩ := getS2 X0 hx hZ hown (host := "") (Or.inl (hw _ (List.mem_of_getElem? (i := 15) rfl))) Via.refl e0 (G0.ext O0.2) (g := (mkF m 22 #[.val (.int (2 : Int32))] [])) rfl (hb hby d1_22)
  have pre49 : ∀ t, Steps p.tables e below (T48.setTop (mkF m 25 #[.val (.int (2 : Int32))] [(.ref a_YES)])) t → Steps p.tables e below (s₁.setTop (entryFrame m #[(.int (2 : Int32))] 1)) t := fun t kt => pre47 _ (st48 _ kt)
  obtain ⟨fs, hr, hrun, hended, hW, hsame⟩ := X48.leave (v := some (.ref a_YES)) (fun h => by rw [Bd.returns] at h; cases h)
  refine ⟨_, _, pre49 _ (X48.areturnOut hx rfl Bd.returns rfl (hb hby d1_25) hr), hrun, hended, _, _, rfl, ?_, ⟨_, rfl⟩, hW, hsame.mono (by decide) (by decide)⟩
  show Q_pick1_1 Z a_YES h0 n0 _ T48.heap _
  rw [e48]
  exact ⟨rfl, N0, rfl⟩
theorem d2_14 : decode prog_85_method_6_code 14 = .ok (.aload_n 0, 1) := by decide +kernel
theorem d2_15 : decode prog_85_method_6_code 15 = .ok (.getstatic 10, 3) := by decide +kernel
theorem d2_18 : decode prog_85_method_6_code 18 = .ok (.if_acmp .ne 10, 3) := by decide +kernel
theorem d2_21 : decode prog_85_method_6_code 21 = .ok (.getstatic 3, 3) := by decide +kernel
theorem d2_24 : decode prog_85_method_6_code 24 = .ok (.astore_n 1, 1) := by decide +kernel
theorem d2_25 : decode prog_85_method_6_code 25 = .ok (.goto 5, 3) := by decide +kernel
def Q_not2_1 (Z : State) (a_YES : Addr) (a_NO : Addr) (h0 : Heap) (n0 : Nat) (v : Option Value) (h : Heap) (L : List Loc) : Prop := v = some (.ref a_NO) ∧ Fr n0 L ∧ h = h0
set_option maxRecDepth 65536 in
set_option maxHeartbeats 40000000 in
theorem rm_not2_1 (l : Launch) (Z : State) (a0 : Array Value) (hw : ∀ d ∈ tables_1, d.before a0 Z = true) (ws : List Jvm.Cond) (a_YES : Addr) (a_NO : Addr) (h0 : Heap) (n0 : Nat) (O0 : Old Z n0 h0) (G0 : Sta Z Z.heap "com/example/optlint/optlint/Tristate" "NO" "Lcom/example/optlint/optlint/Tristate;" (.ref a_NO)) (G1 : Sta Z Z.heap "com/example/optlint/optlint/Tristate" "YES" "Lcom/example/optlint/optlint/Tristate;" (.ref a_YES)) (q0 : ¬ (a_NO = a_YES)) :
    MetFree l (⟨"com/example/optlint/optlint/Tristate", "not", "()Lcom/example/optlint/optlint/Tristate;"⟩ : MethodName) (head1 (Jvm.Cond.code (⟨"com/example/optlint/optlint/Tristate", "not", "()Lcom/example/optlint/optlint/Tristate;"⟩ : MethodName) prog_85_method_6_code 2 (some (.object "com/example/optlint/optlint/Tristate")) :: ws) ({ frames := 0, cells := 0, slots := 0, locals := 0 } : Room)) (fun a U => a = #[(.ref a_YES)] ∧ Z.Warmed39 U.vm ∧ U.heap = h0) (fun _ _ _ _ _ => True) (fun _ U o U' => ∃ v L, o = .returned v ∧ Q_not2_1 Z a_YES a_NO h0 n0 v U'.heap L ∧ FrameEnd U o U' L ({ frames := 0, cells := 0, slots := 0, locals := 0 } : Room).cells ({ frames := 0, cells := 0, slots := 0, locals := 0 } : Room).slots) := by
  refine MetFree.of_bodySF (plainFor_of_name pn_4) hisR ?_
  intro p e s m args below meth c s₁ Bd hml0 hP hK
  obtain ⟨rfl, hZ, hh⟩ := hP
  have hx := Bd.exec
  have hby := Bd.bytes
  have hml : c.maxLocals = 2 := hml0
  have hown : s.vm.findClass "com/example/optlint/optlint/Tristate" = some m.cls := findClass_of_methodNamed Bd.named
  have hnm := (name_of_methodNamed Bd.named Bd.method).1
  have X0 : Stand p l e ({ frames := 0, cells := 0, slots := 0, locals := 0 } : Room) s m #[(.ref a_YES)] below meth c s₁ [] 0 0 := Stand.of_body Bd
  have e0 : s₁.heap = h0 := by rw [← hh, Bd.state]; rfl
  have N0 := Fr.nil n0
  have pre0 : ∀ t, Steps p.tables e below (s₁.setTop (mkF m 0 #[.val (.ref a_YES), .unset] [])) t → Steps p.tables e below (s₁.setTop (entryFrame m #[(.ref a_YES)] 2)) t := fun t k => castTop (ef_5 m a_YES) k
  have K0 : Keep h0 h0 [] := Keep.refl h0 []
  have pre73 : ∀ t, Steps p.tables e below (s₁.setTop (mkF m 1 #[.val (.ref a_YES), .unset] [(.ref a_YES)])) t → Steps p.tables e below (s₁.setTop (entryFrame m #[(.ref a_YES)] 2)) t := fun t kt => by
    refine pre0 _ ?_
    show Steps p.tables e below (s₁.setTop (mkF m 0 #[.val (.ref a_YES), .unset] [])) _
    refine XS.aloadN X0.here hx rfl (hb hby d2_0) rfl rfl ?_
    exact kt
  obtain ⟨T74, X74, e74, st74⟩ := getS2 X0 hx hZ hown (host := "") (Or.inl (hw _ (List.mem_of_getElem? (i := 12) rfl))) Via.refl e0 (G0.ext O0.2) (g := (mkF m 1 #[.val (.ref a_YES), .unset] [(.ref a_YES)])) rfl (hb hby d2_1)
  have pre75 : ∀ t, Steps p.tables e below (T74.setTop (mkF m 4 #[.val (.ref a_YES), .unset] [(.ref a_NO), (.ref a_YES)])) t → Steps p.tables e below (s₁.setTop (entryFrame m #[(.ref a_YES)] 2)) t := fun t kt => pre73 _ (st74 _ kt)
  have pre76 : ∀ t, Steps p.tables e below (T74.setTop (mkF m 15 #[.val (.ref a_YES), .unset] [(.ref a_YES)])) t → Steps p.tables e below (s₁.setTop (entryFrame m #[(.ref a_YES)] 2)) t := fun t kt => by
    refine pre75 _ ?_
    show Steps p.tables e below (T74.setTop (mkF m 4 #[.val (.ref a_YES), .unset] [(.ref a_NO), (.ref a_YES)])) _
    refine Jvm.RoadKit.acmp (g := (mkF m 4 #[.val (.ref a_YES), .unset] [(.ref a_NO), (.ref a_YES)])) X74 hx rfl rfl rfl (pc0 := 4) (pc' := 14) (same := false) rfl (hb hby d2_4) rfl (decide_eq_false fun q => (fun q => q0 q.symm) (Value.ref.inj q)) (by decide) (by decide) ?_
    show Steps p.tables e below (T74.setTop (mkF m 14 #[.val (.ref a_YES), .unset] [])) _
    refine XS.aloadN X74.here hx rfl (hb hby d2_14) rfl rfl ?_
    exact kt
  obtain ⟨T77, X77, e77, st77⟩ := getS2 X74 hx hZ hown (host := "") (Or.inl (hw _ (List.mem_of_getElem? (i := 13) rfl))) Via.refl e74 (G1.ext O0.2) (g := (mkF m 15 #[.val (.ref a_YES), .unset] [(.ref a_YES)])) rfl (hb hby d2_15)
  have pre78 : ∀ t, Steps p.tables e below (T77.setTop (mkF m 18 #[.val (.ref a_YES), .unset] [(.ref a_YES), (.ref a_YES)])) t → Steps p.tables e below (s₁.setTop (entryFrame m #[(.ref a_YES)] 2)) t := fun t kt => pre76 _ (st77 _ kt)
  have pre79 : ∀ t, Steps p.tables e below (T77.setTop (mkF m 21 #[.val (.ref a_YES), .unset] [])) t → Steps p.tables e below (s₁.setTop (entryFrame m #[(.ref a_YES)] 2)) t := fun t kt => by
    refine pre78 _ ?_
    show Steps p.tables e below (T77.setTop (mkF m 18 #[.val (.ref a_YES), .unset] [(.ref a_YES), (.ref a_YES)])) _
    refine Jvm.RoadKit.acmp (g := (mkF m 18 #[.val (.ref a_YES), .unset] [(.ref a_YES), (.ref a_YES)])) X77 hx rfl rfl rfl (pc0 := 18) (pc' := 21) (same := true) rfl (hb hby d2_18) rfl (decide_eq_true rfl) (by decide) (by decide) ?_
    exact kt
  obtain ⟨T80, X80, e80, st80⟩ := getS2 X77 hx hZ hown (host := "") (Or.inl (hw _ (List.mem_of_getElem? (i := 12) rfl))) Via.refl e77 (G0.ext O0.2) (g := (mkF m 21 #[.val (.ref a_YES), .unset] [])) rfl (hb hby d2_21)
  have pre81 : ∀ t, Steps p.tables e below (T80.setTop (mkF m 24 #[.val (.ref a_YES), .unset] [(.ref a_NO)])) t → Steps p.tables e below (s₁.setTop (entryFrame m #[(.ref a_YES)] 2)) t := fun t kt => pre79 _ (st80 _ kt)
  have pre82 : ∀ t, Steps p.tables e below (T80.setTop (mkF m 31 #[.val (.ref a_YES), .val (.ref a_NO)] [(.ref a_NO)])) t → Steps p.tables e below (s₁.setTop (entryFrame m #[(.ref a_YES)] 2)) t := fun t kt => by
    refine pre81 _ ?_
    show Steps p.tables e below (T80.setTop (mkF m 24 #[.val (.ref a_YES), .unset] [(.ref a_NO)])) _
    refine XS.astoreN X80.here hx rfl (hb hby d2_24) rfl rfl (l' := #[.val (.ref a_YES), .val (.ref a_NO)]) rfl ?_
    show Steps p.tables e below (T80.setTop (mkF m 25 #[.val (.ref a_YES), .val (.ref a_NO)] [])) _
    refine XS.goto X80.here hx rfl (pc0 := 25) (pc' := 30) rfl (hb hby d2_25) (by decide) (by decide) ?_
    show Steps p.tables e below (T80.setTop (mkF m 30 #[.val (.ref a_YES), .val (.ref a_NO)] [])) _
    refine XS.aloadN X80.here hx rfl (hb hby d2_30) rfl rfl ?_
    exact kt
  obtain ⟨fs, hr, hrun, hended, hW, hsame⟩ := X80.leave (v := some (.ref a_NO)) (fun h => by rw [Bd.returns] at h; cases h)
  refine ⟨_, _, pre82 _ (X80.areturnOut hx rfl Bd.returns rfl (hb hby d2_31) hr), hrun, hended, _, _, rfl, ?_, ⟨_, rfl⟩, hW, hsame.mono (by decide) (by decide)⟩
  show Q_not2_1 Z a_YES a_NO h0 n0 _ T80.heap _
  rw [e80]
  exact ⟨rfl, N0, rfl⟩
theorem d1_13 : decode method_2_code 13 = .ok (.getstatic 13, 3) := by decide +kernel
theorem d1_16 : decode method_2_code 16 = .ok (.areturn, 1) := by decide +kernel
def Q_pick1_2 (Z : State) (a_MOD : Addr) (h0 : Heap) (n0 : Nat) (v : Option Value) (h : Heap) (L : List Loc) : Prop := v = some (.ref a_MOD) ∧ Fr n0 L ∧ h = h0
set_option maxRecDepth 65536 in
set_option maxHeartbeats 40000000 in
theorem rm_pick1_2 (l : Launch) (Z : State) (a0 : Array Value) (hw : ∀ d ∈ tables_1, d.before a0 Z = true) (ws : List Jvm.Cond) (a_MOD : Addr) (h0 : Heap) (n0 : Nat) (O0 : Old Z n0 h0) (G0 : Sta Z Z.heap "com/example/optlint/optlint/Tristate" "MOD" "Lcom/example/optlint/optlint/Tristate;" (.ref a_MOD)) :
    MetFree l (⟨"com/example/optlint/optlint/TristateNotPinLaw", "pick", "(I)Lcom/example/optlint/optlint/Tristate;"⟩ : MethodName) (head1 (Jvm.Cond.code (⟨"com/example/optlint/optlint/TristateNotPinLaw", "pick", "(I)Lcom/example/optlint/optlint/Tristate;"⟩ : MethodName) method_2_code 1 (some (.object "com/example/optlint/optlint/Tristate")) :: ws) ({ frames := 0, cells := 0, slots := 0, locals := 0 } : Room)) (fun a U => a = #[(.int (1 : Int32))] ∧ Z.Warmed39 U.vm ∧ U.heap = h0) (fun _ _ _ _ _ => True) (fun _ U o U' => ∃ v L, o = .returned v ∧ Q_pick1_2 Z a_MOD h0 n0 v U'.heap L ∧ FrameEnd U o U' L ({ frames := 0, cells := 0, slots := 0, locals := 0 } : Room).cells ({ frames := 0, cells := 0, slots := 0, locals := 0 } : Room).slots) := by
  refine MetFree.of_bodySF (plainFor_of_name pn_0) hisR ?_
  intro p e s m args below meth c s₁ Bd hml0 hP hK
  obtain ⟨rfl, hZ, hh⟩ := hP
  have hx := Bd.exec
  have hby := Bd.bytes
  have hml : c.maxLocals = 1 := hml0
  have hown : s.vm.findClass "com/example/optlint/optlint/TristateNotPinLaw" = some m.cls := findClass_of_methodNamed Bd.named
  have hnm := (name_of_methodNamed Bd.named Bd.method).1
  have X0 : Stand p l e ({ frames := 0, cells := 0, slots := 0, locals := 0 } : Room) s m #[(.int (1 : Int32))] below meth c s₁ [] 0 0 := Stand.of_body Bd
  have e0 : s₁.heap = h0 := by rw [← hh, Bd.state]; rfl
  have N0 := Fr.nil n0
  have pre0 : ∀ t, Steps p.tables e below (s₁.setTop (mkF m 0 #[.val (.int (1 : Int32))] [])) t → Steps p.tables e below (s₁.setTop (entryFrame m #[(.int (1 : Int32))] 1)) t := fun t k => castTop (ef_2 m (1 : Int32)) k
  have K0 : Keep h0 h0 [] := Keep.refl h0 []
  have pre93 : ∀ t, Steps p.tables e below (s₁.setTop (mkF m 13 #[.val (.int (1 : Int32))] [])) t → Steps p.tables e below (s₁.setTop (entryFrame m #[(.int (1 : Int32))] 1)) t := fun t kt => by
    refine pre0 _ ?_
    show Steps p.tables e below (s₁.setTop (mkF m 0 #[.val (.int (1 : Int32))] [])) _
    refine XS.iloadN X0.here hx rfl (hb hby d1_0) rfl ?_
    show Steps p.tables e below (s₁.setTop (mkF m 1 #[.val (.int (1 : Int32))] [(.int (1 : Int32))])) _
    refine XS.ifYes X0.here hx rfl (pc0 := 1) (pc' := 8) rfl (hb hby d1_1) rfl (XT.i0_ne_t (by decide)) (by decide) (by decide) ?_
    show Steps p.tables e below (s₁.setTop (mkF m 8 #[.val (.int (1 : Int32))] [])) _
    refine XS.iloadN X0.here hx rfl (hb hby d1_8) rfl ?_
    show Steps p.tables e below (s₁.setTop (mkF m 9 #[.val (.int (1 : Int32))] [(.int (1 : Int32))])) _
    refine XS.iconst X0.here hx rfl (hb hby d1_9) ?_
    show Steps p.tables e below (s₁.setTop (mkF m 10 #[.val (.int (1 : Int32))] [(.int (1 : Int32)), (.int (1 : Int32))])) _
    refine XS.icmpNo X0.here hx rfl (hb hby d1_10) rfl (XT.ii_ne_f (by decide)) ?_
    exact kt
  obtain ⟨T94, X94, e94, st94⟩ := getS2 X0 hx hZ hown (host := "") (Or.inl (hw _ (List.mem_of_getElem? (i := 18) rfl))) Via.refl e0 (G0.ext O0.2) (g := (mkF m 13 #[.val (.int (1 : Int32))] [])) rfl (hb hby d1_13)
  have pre95 : ∀ t, Steps p.tables e below (T94.setTop (mkF m 16 #[.val (.int (1 : Int32))] [(.ref a_MOD)])) t → Steps p.tables e below (s₁.setTop (entryFrame m #[(.int (1 : Int32))] 1)) t := fun t kt => pre93 _ (st94 _ kt)
  obtain ⟨fs, hr, hrun, hended, hW, hsame⟩ := X94.leave (v := some (.ref a_MOD)) (fun h => by rw [Bd.returns] at h; cases h)
  refine ⟨_, _, pre95 _ (X94.areturnOut hx rfl Bd.returns rfl (hb hby d1_16) hr), hrun, hended, _, _, rfl, ?_, ⟨_, rfl⟩, hW, hsame.mono (by decide) (by decide)⟩
  show Q_pick1_2 Z a_MOD h0 n0 _ T94.heap _
  rw [e94]
  exact ⟨rfl, N0, rfl⟩
theorem d2_28 : decode prog_85_method_6_code 28 = .ok (.aload_n 0, 1) := by decide +kernel
theorem d2_29 : decode prog_85_method_6_code 29 = .ok (.astore_n 1, 1) := by decide +kernel
def Q_not2_2 (Z : State) (a_MOD : Addr) (a_NO : Addr) (a_YES : Addr) (h0 : Heap) (n0 : Nat) (v : Option Value) (h : Heap) (L : List Loc) : Prop := v = some (.ref a_MOD) ∧ Fr n0 L ∧ h = h0
set_option maxRecDepth 65536 in
set_option maxHeartbeats 40000000 in
theorem rm_not2_2 (l : Launch) (Z : State) (a0 : Array Value) (hw : ∀ d ∈ tables_1, d.before a0 Z = true) (ws : List Jvm.Cond) (a_MOD : Addr) (a_NO : Addr) (a_YES : Addr) (h0 : Heap) (n0 : Nat) (O0 : Old Z n0 h0) (G0 : Sta Z Z.heap "com/example/optlint/optlint/Tristate" "NO" "Lcom/example/optlint/optlint/Tristate;" (.ref a_NO)) (G1 : Sta Z Z.heap "com/example/optlint/optlint/Tristate" "YES" "Lcom/example/optlint/optlint/Tristate;" (.ref a_YES)) (q0 : ¬ (a_MOD = a_YES)) (q1 : ¬ (a_MOD = a_NO)) :
    MetFree l (⟨"com/example/optlint/optlint/Tristate", "not", "()Lcom/example/optlint/optlint/Tristate;"⟩ : MethodName) (head1 (Jvm.Cond.code (⟨"com/example/optlint/optlint/Tristate", "not", "()Lcom/example/optlint/optlint/Tristate;"⟩ : MethodName) prog_85_method_6_code 2 (some (.object "com/example/optlint/optlint/Tristate")) :: ws) ({ frames := 0, cells := 0, slots := 0, locals := 0 } : Room)) (fun a U => a = #[(.ref a_MOD)] ∧ Z.Warmed39 U.vm ∧ U.heap = h0) (fun _ _ _ _ _ => True) (fun _ U o U' => ∃ v L, o = .returned v ∧ Q_not2_2 Z a_MOD a_NO a_YES h0 n0 v U'.heap L ∧ FrameEnd U o U' L ({ frames := 0, cells := 0, slots := 0, locals := 0 } : Room).cells ({ frames := 0, cells := 0, slots := 0, locals := 0 } : Room).slots) := by
  refine MetFree.of_bodySF (plainFor_of_name pn_4) hisR ?_
  intro p e s m args below meth c s₁ Bd hml0 hP hK
  obtain ⟨rfl, hZ, hh⟩ := hP
  have hx := Bd.exec
  have hby := Bd.bytes
  have hml : c.maxLocals = 2 := hml0
  have hown : s.vm.findClass "com/example/optlint/optlint/Tristate" = some m.cls := findClass_of_methodNamed Bd.named
  have hnm := (name_of_methodNamed Bd.named Bd.method).1
  have X0 : Stand p l e ({ frames := 0, cells := 0, slots := 0, locals := 0 } : Room) s m #[(.ref a_MOD)] below meth c s₁ [] 0 0 := Stand.of_body Bd
  have e0 : s₁.heap = h0 := by rw [← hh, Bd.state]; rfl
  have N0 := Fr.nil n0
  have pre0 : ∀ t, Steps p.tables e below (s₁.setTop (mkF m 0 #[.val (.ref a_MOD), .unset] [])) t → Steps p.tables e below (s₁.setTop (entryFrame m #[(.ref a_MOD)] 2)) t := fun t k => castTop (ef_5 m a_MOD) k
  have K0 : Keep h0 h0 [] := Keep.refl h0 []
  have pre113 : ∀ t, Steps p.tables e below (s₁.setTop (mkF m 1 #[.val (.ref a_MOD), .unset] [(.ref a_MOD)])) t → Steps p.tables e below (s₁.setTop (entryFrame m #[(.ref a_MOD)] 2)) t := fun t kt => by
    refine pre0 _ ?_
    show Steps p.tables e below (s₁.setTop (mkF m 0 #[.val (.ref a_MOD), .unset] [])) _
    refine XS.aloadN X0.here hx rfl (hb hby d2_0) rfl rfl ?_
    exact kt
  obtain ⟨T114, X114, e114, st114⟩ := getS2 X0 hx hZ hown (host := "") (Or.inl (hw _ (List.mem_of_getElem? (i := 12) rfl))) Via.refl e0 (G0.ext O0.2) (g := (mkF m 1 #[.val (.ref a_MOD), .unset] [(.ref a_MOD)])) rfl (hb hby d2_1)
  have pre115 : ∀ t, Steps p.tables e below (T114.setTop (mkF m 4 #[.val (.ref a_MOD), .unset] [(.ref a_NO), (.ref a_MOD)])) t → Steps p.tables e below (s₁.setTop (entryFrame m #[(.ref a_MOD)] 2)) t := fun t kt => pre113 _ (st114 _ kt)
  have pre116 : ∀ t, Steps p.tables e below (T114.setTop (mkF m 15 #[.val (.ref a_MOD), .unset] [(.ref a_MOD)])) t → Steps p.tables e below (s₁.setTop (entryFrame m #[(.ref a_MOD)] 2)) t := fun t kt => by
    refine pre115 _ ?_
    show Steps p.tables e below (T114.setTop (mkF m 4 #[.val (.ref a_MOD), .unset] [(.ref a_NO), (.ref a_MOD)])) _
    refine Jvm.RoadKit.acmp (g := (mkF m 4 #[.val (.ref a_MOD), .unset] [(.ref a_NO), (.ref a_MOD)])) X114 hx rfl rfl rfl (pc0 := 4) (pc' := 14) (same := false) rfl (hb hby d2_4) rfl (decide_eq_false fun q => q1 (Value.ref.inj q)) (by decide) (by decide) ?_
    show Steps p.tables e below (T114.setTop (mkF m 14 #[.val (.ref a_MOD), .unset] [])) _
    refine XS.aloadN X114.here hx rfl (hb hby d2_14) rfl rfl ?_
    exact kt
  obtain ⟨T117, X117, e117, st117⟩ := getS2 X114 hx hZ hown (host := "") (Or.inl (hw _ (List.mem_of_getElem? (i := 13) rfl))) Via.refl e114 (G1.ext O0.2) (g := (mkF m 15 #[.val (.ref a_MOD), .unset] [(.ref a_MOD)])) rfl (hb hby d2_15)
  have pre118 : ∀ t, Steps p.tables e below (T117.setTop (mkF m 18 #[.val (.ref a_MOD), .unset] [(.ref a_YES), (.ref a_MOD)])) t → Steps p.tables e below (s₁.setTop (entryFrame m #[(.ref a_MOD)] 2)) t := fun t kt => pre116 _ (st117 _ kt)
  have pre119 : ∀ t, Steps p.tables e below (T117.setTop (mkF m 31 #[.val (.ref a_MOD), .val (.ref a_MOD)] [(.ref a_MOD)])) t → Steps p.tables e below (s₁.setTop (entryFrame m #[(.ref a_MOD)] 2)) t := fun t kt => by
    refine pre118 _ ?_
    show Steps p.tables e below (T117.setTop (mkF m 18 #[.val (.ref a_MOD), .unset] [(.ref a_YES), (.ref a_MOD)])) _
    refine Jvm.RoadKit.acmp (g := (mkF m 18 #[.val (.ref a_MOD), .unset] [(.ref a_YES), (.ref a_MOD)])) X117 hx rfl rfl rfl (pc0 := 18) (pc' := 28) (same := false) rfl (hb hby d2_18) rfl (decide_eq_false fun q => q0 (Value.ref.inj q)) (by decide) (by decide) ?_
    show Steps p.tables e below (T117.setTop (mkF m 28 #[.val (.ref a_MOD), .unset] [])) _
    refine XS.aloadN X117.here hx rfl (hb hby d2_28) rfl rfl ?_
    show Steps p.tables e below (T117.setTop (mkF m 29 #[.val (.ref a_MOD), .unset] [(.ref a_MOD)])) _
    refine XS.astoreN X117.here hx rfl (hb hby d2_29) rfl rfl (l' := #[.val (.ref a_MOD), .val (.ref a_MOD)]) rfl ?_
    show Steps p.tables e below (T117.setTop (mkF m 30 #[.val (.ref a_MOD), .val (.ref a_MOD)] [])) _
    refine XS.aloadN X117.here hx rfl (hb hby d2_30) rfl rfl ?_
    exact kt
  obtain ⟨fs, hr, hrun, hended, hW, hsame⟩ := X117.leave (v := some (.ref a_MOD)) (fun h => by rw [Bd.returns] at h; cases h)
  refine ⟨_, _, pre119 _ (X117.areturnOut hx rfl Bd.returns rfl (hb hby d2_31) hr), hrun, hended, _, _, rfl, ?_, ⟨_, rfl⟩, hW, hsame.mono (by decide) (by decide)⟩
  show Q_not2_2 Z a_MOD a_NO a_YES h0 n0 _ T117.heap _
  rw [e117]
  exact ⟨rfl, N0, rfl⟩
theorem d1_26 : decode method_2_code 26 = .ok (.getstatic 19, 3) := by decide +kernel
theorem d1_29 : decode method_2_code 29 = .ok (.areturn, 1) := by decide +kernel
def Q_pick1_3 (Z : State) (a_UNKNOWN : Addr) (h0 : Heap) (n0 : Nat) (v : Option Value) (h : Heap) (L : List Loc) : Prop := v = some (.ref a_UNKNOWN) ∧ Fr n0 L ∧ h = h0
set_option maxRecDepth 65536 in
set_option maxHeartbeats 40000000 in
theorem rm_pick1_3 (l : Launch) (Z : State) (a0 : Array Value) (hw : ∀ d ∈ tables_1, d.before a0 Z = true) (ws : List Jvm.Cond) (a_UNKNOWN : Addr) (h0 : Heap) (n0 : Nat) (O0 : Old Z n0 h0) (G0 : Sta Z Z.heap "com/example/optlint/optlint/Tristate" "UNKNOWN" "Lcom/example/optlint/optlint/Tristate;" (.ref a_UNKNOWN)) :
    MetFree l (⟨"com/example/optlint/optlint/TristateNotPinLaw", "pick", "(I)Lcom/example/optlint/optlint/Tristate;"⟩ : MethodName) (head1 (Jvm.Cond.code (⟨"com/example/optlint/optlint/TristateNotPinLaw", "pick", "(I)Lcom/example/optlint/optlint/Tristate;"⟩ : MethodName) method_2_code 1 (some (.object "com/example/optlint/optlint/Tristate")) :: ws) ({ frames := 0, cells := 0, slots := 0, locals := 0 } : Room)) (fun a U => a = #[(.int (3 : Int32))] ∧ Z.Warmed39 U.vm ∧ U.heap = h0) (fun _ _ _ _ _ => True) (fun _ U o U' => ∃ v L, o = .returned v ∧ Q_pick1_3 Z a_UNKNOWN h0 n0 v U'.heap L ∧ FrameEnd U o U' L ({ frames := 0, cells := 0, slots := 0, locals := 0 } : Room).cells ({ frames := 0, cells := 0, slots := 0, locals := 0 } : Room).slots) := by
  refine MetFree.of_bodySF (plainFor_of_name pn_0) hisR ?_
  intro p e s m args below meth c s₁ Bd hml0 hP hK
  obtain ⟨rfl, hZ, hh⟩ := hP
  have hx := Bd.exec
  have hby := Bd.bytes
  have hml : c.maxLocals = 1 := hml0
  have hown : s.vm.findClass "com/example/optlint/optlint/TristateNotPinLaw" = some m.cls := findClass_of_methodNamed Bd.named
  have hnm := (name_of_methodNamed Bd.named Bd.method).1
  have X0 : Stand p l e ({ frames := 0, cells := 0, slots := 0, locals := 0 } : Room) s m #[(.int (3 : Int32))] below meth c s₁ [] 0 0 := Stand.of_body Bd
  have e0 : s₁.heap = h0 := by rw [← hh, Bd.state]; rfl
  have N0 := Fr.nil n0
  have pre0 : ∀ t, Steps p.tables e below (s₁.setTop (mkF m 0 #[.val (.int (3 : Int32))] [])) t → Steps p.tables e below (s₁.setTop (entryFrame m #[(.int (3 : Int32))] 1)) t := fun t k => castTop (ef_2 m (3 : Int32)) k
  have K0 : Keep h0 h0 [] := Keep.refl h0 []
  have pre149 : ∀ t, Steps p.tables e below (s₁.setTop (mkF m 26 #[.val (.int (3 : Int32))] [])) t → Steps p.tables e below (s₁.setTop (entryFrame m #[(.int (3 : Int32))] 1)) t := fun t kt => by
    refine pre0 _ ?_
    show Steps p.tables e below (s₁.setTop (mkF m 0 #[.val (.int (3 : Int32))] [])) _
    refine XS.iloadN X0.here hx rfl (hb hby d1_0) rfl ?_
    show Steps p.tables e below (s₁.setTop (mkF m 1 #[.val (.int (3 : Int32))] [(.int (3 : Int32))])) _
    refine XS.ifYes X0.here hx rfl (pc0 := 1) (pc' := 8) rfl (hb hby d1_1) rfl (XT.i0_ne_t (by decide)) (by decide) (by decide) ?_
    show Steps p.tables e below (s₁.setTop (mkF m 8 #[.val (.int (3 : Int32))] [])) _
    refine XS.iloadN X0.here hx rfl (hb hby d1_8) rfl ?_
    show Steps p.tables e below (s₁.setTop (mkF m 9 #[.val (.int (3 : Int32))] [(.int (3 : Int32))])) _
    refine XS.iconst X0.here hx rfl (hb hby d1_9) ?_
    show Steps p.tables e below (s₁.setTop (mkF m 10 #[.val (.int (3 : Int32))] [(.int (1 : Int32)), (.int (3 : Int32))])) _
    refine XS.icmpYes X0.here hx rfl (pc0 := 10) (pc' := 17) rfl (hb hby d1_10) rfl (XT.ii_ne_t (by decide)) (by decide) (by decide) ?_
    show Steps p.tables e below (s₁.setTop (mkF m 17 #[.val (.int (3 : Int32))] [])) _
    refine XS.iloadN X0.here hx rfl (hb hby d1_17) rfl ?_
    show Steps p.tables e below (s₁.setTop (mkF m 18 #[.val (.int (3 : Int32))] [(.int (3 : Int32))])) _
    refine XS.iconst X0.here hx rfl (hb hby d1_18) ?_
    show Steps p.tables e below (s₁.setTop (mkF m 19 #[.val (.int (3 : Int32))] [(.int (2 : Int32)), (.int (3 : Int32))])) _
    refine XS.icmpYes X0.here hx rfl (pc0 := 19) (pc' := 26) rfl (hb hby d1_19) rfl (XT.ii_ne_t (by decide)) (by decide) (by decide) ?_
    exact kt
  obtain ⟨T150, X150, e150, st150⟩ := getS2 X0 hx hZ hown (host := "") (Or.inl (hw _ (List.mem_of_getElem? (i := 16) rfl))) Via.refl e0 (G0.ext O0.2) (g := (mkF m 26 #[.val (.int (3 : Int32))] [])) rfl (hb hby d1_26)
  have pre151 : ∀ t, Steps p.tables e below (T150.setTop (mkF m 29 #[.val (.int (3 : Int32))] [(.ref a_UNKNOWN)])) t → Steps p.tables e below (s₁.setTop (entryFrame m #[(.int (3 : Int32))] 1)) t := fun t kt => pre149 _ (st150 _ kt)
  obtain ⟨fs, hr, hrun, hended, hW, hsame⟩ := X150.leave (v := some (.ref a_UNKNOWN)) (fun h => by rw [Bd.returns] at h; cases h)
  refine ⟨_, _, pre151 _ (X150.areturnOut hx rfl Bd.returns rfl (hb hby d1_29) hr), hrun, hended, _, _, rfl, ?_, ⟨_, rfl⟩, hW, hsame.mono (by decide) (by decide)⟩
  show Q_pick1_3 Z a_UNKNOWN h0 n0 _ T150.heap _
  rw [e150]
  exact ⟨rfl, N0, rfl⟩
def Q_law (Z : State) (p0 : Int32) (a_NO : Addr) (a_YES : Addr) (a_UNKNOWN : Addr) (a_MOD : Addr) (h0 : Heap) (n0 : Nat) (v : Option Value) (h : Heap) (L : List Loc) : Prop := v = some (.int (1 : Int32)) ∧ Fr n0 L
set_option maxRecDepth 65536 in
set_option maxHeartbeats 40000000 in
theorem rm_law (l : Launch) (Z : State) (a0 : Array Value) (hw : ∀ d ∈ tables_1, d.before a0 Z = true) (ws : List Jvm.Cond) (p0 : Int32) (a_NO : Addr) (a_YES : Addr) (a_UNKNOWN : Addr) (a_MOD : Addr) (h0 : Heap) (n0 : Nat) (O0 : Old Z n0 h0) (G0 : Sta Z Z.heap "com/example/optlint/optlint/Tristate" "NO" "Lcom/example/optlint/optlint/Tristate;" (.ref a_NO)) (G1 : Exa Z Z.heap a_NO "com/example/optlint/optlint/Tristate") (G2 : Sta Z Z.heap "com/example/optlint/optlint/Tristate" "YES" "Lcom/example/optlint/optlint/Tristate;" (.ref a_YES)) (G3 : Exa Z Z.heap a_YES "com/example/optlint/optlint/Tristate") (G4 : Sta Z Z.heap "com/example/optlint/optlint/Tristate" "UNKNOWN" "Lcom/example/optlint/optlint/Tristate;" (.ref a_UNKNOWN)) (G5 : Exa Z Z.heap a_UNKNOWN "com/example/optlint/optlint/Tristate") (G6 : Sta Z Z.heap "com/example/optlint/optlint/Tristate" "MOD" "Lcom/example/optlint/optlint/Tristate;" (.ref a_MOD)) (G7 : Exa Z Z.heap a_MOD "com/example/optlint/optlint/Tristate") (G8 : Fld Z Z.heap a_YES "java/lang/Enum" "ordinal" "I" (.int (2 : Int32))) (G9 : Fld Z Z.heap a_NO "java/lang/Enum" "ordinal" "I" (.int (0 : Int32))) (G10 : Fld Z Z.heap a_UNKNOWN "java/lang/Enum" "ordinal" "I" (.int (3 : Int32))) (G11 : Fld Z Z.heap a_MOD "java/lang/Enum" "ordinal" "I" (.int (1 : Int32))) :
    MetFree l x (head1 (Jvm.Cond.code x code maxLocals ret :: ws) room_1) (fun a U => a = #[(.int p0)] ∧ Z.Warmed39 U.vm ∧ U.heap = h0) (fun _ _ _ _ _ => True) (fun _ U o U' => ∃ v L, o = .returned v ∧ Q_law Z p0 a_NO a_YES a_UNKNOWN a_MOD h0 n0 v U'.heap L ∧ FrameEnd U o U' L room_1.cells room_1.slots) := by
  refine MetFree.of_bodySF (plainFor_of_name pn_0) hisR ?_
  intro p e s m args below meth c s₁ Bd hml0 hP hK
  obtain ⟨rfl, hZ, hh⟩ := hP
  have hx := Bd.exec
  have hby := Bd.bytes
  have hml : c.maxLocals = 5 := hml0
  have hown : s.vm.findClass "com/example/optlint/optlint/TristateNotPinLaw" = some m.cls := findClass_of_methodNamed Bd.named
  have hnm := (name_of_methodNamed Bd.named Bd.method).1
  have X0 : Stand p l e room_1 s m #[(.int p0)] below meth c s₁ [] 0 0 := Stand.of_body Bd
  have e0 : s₁.heap = h0 := by rw [← hh, Bd.state]; rfl
  have N0 := Fr.nil n0
  have pre0 : ∀ t, Steps p.tables e below (s₁.setTop (mkF m 0 #[.val (.int p0), .unset, .unset, .unset, .unset] [])) t → Steps p.tables e below (s₁.setTop (entryFrame m #[(.int p0)] maxLocals)) t := fun t k => castTop (ef_1 m p0) k
  have K0 : Keep h0 h0 [] := Keep.refl h0 []
  have ne_a_YES_a_NO : a_YES ≠ a_NO := own_fld_ne G8 G9 (by decide)
  have ne_a_YES_a_UNKNOWN : a_YES ≠ a_UNKNOWN := own_fld_ne G8 G10 (by decide)
  have ne_a_YES_a_MOD : a_YES ≠ a_MOD := own_fld_ne G8 G11 (by decide)
  have ne_a_NO_a_UNKNOWN : a_NO ≠ a_UNKNOWN := own_fld_ne G9 G10 (by decide)
  have ne_a_NO_a_MOD : a_NO ≠ a_MOD := own_fld_ne G9 G11 (by decide)
  have ne_a_UNKNOWN_a_MOD : a_UNKNOWN ≠ a_MOD := own_fld_ne G10 G11 (by decide)
  have pre1 : ∀ t, Steps p.tables e below (s₁.setTop (mkF m 3 #[.val (.int p0), .unset, .unset, .unset, .unset] [(.int (p0 &&& (3 : Int32)))])) t → Steps p.tables e below (s₁.setTop (entryFrame m #[(.int p0)] maxLocals)) t := fun t kt => by
    refine pre0 _ ?_
    show Steps p.tables e below (s₁.setTop (mkF m 0 #[.val (.int p0), .unset, .unset, .unset, .unset] [])) _
    refine XS.iloadN X0.here hx rfl (hb hby at_0) rfl ?_
    show Steps p.tables e below (s₁.setTop (mkF m 1 #[.val (.int p0), .unset, .unset, .unset, .unset] [(.int p0)])) _
    refine XS.iconst X0.here hx rfl (hb hby at_1) ?_
    show Steps p.tables e below (s₁.setTop (mkF m 2 #[.val (.int p0), .unset, .unset, .unset, .unset] [(.int (3 : Int32)), (.int p0)])) _
    refine XS.iand X0.here hx rfl (hb hby at_2) rfl ?_
    exact kt
  rcases own_mask3 p0 with hv2 | hv2 | hv2 | hv2
  · rw [hv2] at pre1
    have pre3 : ∀ t, Steps p.tables e below (s₁.setTop (mkF m 5 #[.val (.int p0), .val (.int (0 : Int32)), .unset, .unset, .unset] [(.int (0 : Int32))])) t → Steps p.tables e below (s₁.setTop (entryFrame m #[(.int p0)] maxLocals)) t := fun t kt => by
      refine pre1 _ ?_
      show Steps p.tables e below (s₁.setTop (mkF m 3 #[.val (.int p0), .unset, .unset, .unset, .unset] [(.int (0 : Int32))])) _
      refine XS.istoreN X0.here hx rfl (hb hby at_3) rfl (l' := #[.val (.int p0), .val (.int (0 : Int32)), .unset, .unset, .unset]) rfl ?_
      show Steps p.tables e below (s₁.setTop (mkF m 4 #[.val (.int p0), .val (.int (0 : Int32)), .unset, .unset, .unset] [])) _
      refine XS.iloadN X0.here hx rfl (hb hby at_4) rfl ?_
      exact kt
    obtain ⟨_, _, ⟨T4, L4, k4, n4⟩, -, X4, ⟨Lc4, hQ4, l4, y4, z4⟩, st4⟩ := Jvm.LawKit.callS X0 hx (y := (⟨"com/example/optlint/optlint/TristateNotPinLaw", "pick", "(I)Lcom/example/optlint/optlint/Tristate;"⟩ : MethodName)) hown (mvT hZ (hw _ (List.mem_of_getElem? (i := 0) rfl))) (mvT hZ (hw _ (List.mem_of_getElem? (i := 1) rfl))) (mvT hZ (hw _ (List.mem_of_getElem? (i := 2) rfl))) (mvT hZ (hw _ (List.mem_of_getElem? (i := 3) rfl))) (by decide) (backOf (W := 0) (rm_pick1_0 l Z a0 hw [] a_NO h0 n0 O0 G0) hZ (hw _ (List.mem_of_getElem? (i := 3) rfl)) (hw _ (List.mem_of_getElem? (i := 2) rfl)) (by decide) (by decide)) (g := (mkF m 5 #[.val (.int p0), .val (.int (0 : Int32)), .unset, .unset, .unset] [(.int (0 : Int32))])) rfl (by rw [hml]; rfl) (argsL := [(.int (0 : Int32))]) (rest := []) (lenOf pd_3 rfl) rfl (by show 2 * 0 + _ ≤ _; exact Nat.le_of_eq rfl) (hb hby at_5) (fun _ _ => ⟨rfl, e0, (by decide : 0 + 0 ≤ _), (by decide : 0 + 0 ≤ _)⟩)
    dsimp only [Pt.U, Pt.locs, Pt.cells, Pt.slots] at X4 l4 y4 z4 st4 hQ4
    subst l4 y4 z4
    obtain ⟨rfl, M4, e4⟩ := hQ4
    have N4 := Fr.app N0 M4
    have pre14 : ∀ t, Steps p.tables e below (T4.setTop (mkF m 8 #[.val (.int p0), .val (.int (0 : Int32)), .unset, .unset, .unset] [(.ref a_NO)])) t → Steps p.tables e below (s₁.setTop (entryFrame m #[(.int p0)] maxLocals)) t := fun t kt => pre3 _ (st4 _ kt)
    have pre15 : ∀ t, Steps p.tables e below (T4.setTop (mkF m 10 #[.val (.int p0), .val (.int (0 : Int32)), .val (.ref a_NO), .unset, .unset] [(.ref a_NO)])) t → Steps p.tables e below (s₁.setTop (entryFrame m #[(.int p0)] maxLocals)) t := fun t kt => by
      refine pre14 _ ?_
      show Steps p.tables e below (T4.setTop (mkF m 8 #[.val (.int p0), .val (.int (0 : Int32)), .unset, .unset, .unset] [(.ref a_NO)])) _
      refine XS.astoreN X4.here hx rfl (hb hby at_8) rfl rfl (l' := #[.val (.int p0), .val (.int (0 : Int32)), .val (.ref a_NO), .unset, .unset]) rfl ?_
      show Steps p.tables e below (T4.setTop (mkF m 9 #[.val (.int p0), .val (.int (0 : Int32)), .val (.ref a_NO), .unset, .unset] [])) _
      refine XS.aloadN X4.here hx rfl (hb hby at_9) rfl rfl ?_
      exact kt
    obtain ⟨cq16, kq16, q16a, q16b, q16c⟩ := isOf hZ e4 (G1.ext O0.2)
    obtain ⟨_, _, ⟨T16, L16, k16, n16⟩, -, X16, ⟨Lc16, hQ16, l16, y16, z16⟩, st16⟩ := X4.virtualBack hx (y := (⟨"com/example/optlint/optlint/Tristate", "not", "()Lcom/example/optlint/optlint/Tristate;"⟩ : MethodName)) (z := (⟨"com/example/optlint/optlint/Tristate", "not", "()Lcom/example/optlint/optlint/Tristate;"⟩ : MethodName)) hown (mvT hZ (hw _ (List.mem_of_getElem? (i := 7) rfl))) (mvT hZ (hw _ (List.mem_of_getElem? (i := 8) rfl))) (notFace_of_selects (args := #[]) (mvT hZ (hw _ (List.mem_of_getElem? (i := 10) rfl)))) (mvT hZ (hw _ (List.mem_of_getElem? (i := 10) rfl))) (mvT hZ (hw _ (List.mem_of_getElem? (i := 9) rfl))) (by decide) (backOf (W := 0) (rm_not2_0 l Z a0 hw [] a_NO a_YES h0 n0 O0 G0 G2) hZ (hw _ (List.mem_of_getElem? (i := 11) rfl)) (hw _ (List.mem_of_getElem? (i := 5) rfl)) (by decide) (by decide)) q16a q16c (g := (mkF m 10 #[.val (.int p0), .val (.int (0 : Int32)), .val (.ref a_NO), .unset, .unset] [(.ref a_NO)])) rfl (by rw [hml]; rfl) (Steps.refl _) (argsL := []) (rest := []) (lenOf pd_6 rfl) rfl (by show 2 * 0 + _ ≤ _; exact Nat.le_of_eq rfl) (hb hby at_10) (fun _ _ => ⟨rfl, e4, (by decide : 0 + 0 ≤ _), (by decide : 0 + 0 ≤ _)⟩)
    dsimp only [Pt.U, Pt.locs, Pt.cells, Pt.slots] at X16 l16 y16 z16 st16 hQ16
    subst l16 y16 z16
    obtain ⟨rfl, M16, e16⟩ := hQ16
    have N16 := Fr.app N4 M16
    have pre38 : ∀ t, Steps p.tables e below (T16.setTop (mkF m 13 #[.val (.int p0), .val (.int (0 : Int32)), .val (.ref a_NO), .unset, .unset] [(.ref a_YES)])) t → Steps p.tables e below (s₁.setTop (entryFrame m #[(.int p0)] maxLocals)) t := fun t kt => pre15 _ (st16.trans kt)
    have pre39 : ∀ t, Steps p.tables e below (T16.setTop (mkF m 28 #[.val (.int p0), .val (.int (0 : Int32)), .val (.ref a_NO), .val (.ref a_YES), .unset] [(.int (2 : Int32))])) t → Steps p.tables e below (s₁.setTop (entryFrame m #[(.int p0)] maxLocals)) t := fun t kt => by
      refine pre38 _ ?_
      show Steps p.tables e below (T16.setTop (mkF m 13 #[.val (.int p0), .val (.int (0 : Int32)), .val (.ref a_NO), .unset, .unset] [(.ref a_YES)])) _
      refine XS.astoreN X16.here hx rfl (hb hby at_13) rfl rfl (l' := #[.val (.int p0), .val (.int (0 : Int32)), .val (.ref a_NO), .val (.ref a_YES), .unset]) rfl ?_
      show Steps p.tables e below (T16.setTop (mkF m 14 #[.val (.int p0), .val (.int (0 : Int32)), .val (.ref a_NO), .val (.ref a_YES), .unset] [])) _
      refine XS.iloadN X16.here hx rfl (hb hby at_14) rfl ?_
      show Steps p.tables e below (T16.setTop (mkF m 15 #[.val (.int p0), .val (.int (0 : Int32)), .val (.ref a_NO), .val (.ref a_YES), .unset] [(.int (0 : Int32))])) _
      refine XS.iconst X16.here hx rfl (hb hby at_15) ?_
      show Steps p.tables e below (T16.setTop (mkF m 16 #[.val (.int p0), .val (.int (0 : Int32)), .val (.ref a_NO), .val (.ref a_YES), .unset] [(.int (3 : Int32)), (.int (0 : Int32))])) _
      refine XS.icmpYes X16.here hx rfl (pc0 := 16) (pc' := 25) rfl (hb hby at_16) rfl (XT.ii_ne_t (by decide)) (by decide) (by decide) ?_
      show Steps p.tables e below (T16.setTop (mkF m 25 #[.val (.int p0), .val (.int (0 : Int32)), .val (.ref a_NO), .val (.ref a_YES), .unset] [])) _
      refine XS.iconst X16.here hx rfl (hb hby at_25) ?_
      show Steps p.tables e below (T16.setTop (mkF m 26 #[.val (.int p0), .val (.int (0 : Int32)), .val (.ref a_NO), .val (.ref a_YES), .unset] [(.int (2 : Int32))])) _
      refine XS.iloadN X16.here hx rfl (hb hby at_26) rfl ?_
      show Steps p.tables e below (T16.setTop (mkF m 27 #[.val (.int p0), .val (.int (0 : Int32)), .val (.ref a_NO), .val (.ref a_YES), .unset] [(.int (0 : Int32)), (.int (2 : Int32))])) _
      refine XS.isub X16.here hx rfl (hb hby at_27) rfl ?_
      show  Steps p.tables e below (T16.setTop (mkF m 28 #[.val (.int p0), .val (.int (0 : Int32)), .val (.ref a_NO), .val (.ref a_YES), .unset] [(.int ((2 : Int32) - (0 : Int32)))])) _
      rw [(by decide : (((2 : Int32) - (0 : Int32)) : Int32) = (2 : Int32))]
      exact kt
    obtain ⟨_, _, ⟨T40, L40, k40, n40⟩, -, X40, ⟨Lc40, hQ40, l40, y40, z40⟩, st40⟩ := Jvm.LawKit.callS X16 hx (y := (⟨"com/example/optlint/optlint/TristateNotPinLaw", "pick", "(I)Lcom/example/optlint/optlint/Tristate;"⟩ : MethodName)) hown (mvT hZ (hw _ (List.mem_of_getElem? (i := 0) rfl))) (mvT hZ (hw _ (List.mem_of_getElem? (i := 1) rfl))) (mvT hZ (hw _ (List.mem_of_getElem? (i := 2) rfl))) (mvT hZ (hw _ (List.mem_of_getElem? (i := 3) rfl))) (by decide) (backOf (W := 0) (rm_pick1_1 l Z a0 hw [] a_YES h0 n0 O0 G2) hZ (hw _ (List.mem_of_getElem? (i := 3) rfl)) (hw _ (List.mem_of_getElem? (i := 2) rfl)) (by decide) (by decide)) (g := (mkF m 28 #[.val (.int p0), .val (.int (0 : Int32)), .val (.ref a_NO), .val (.ref a_YES), .unset] [(.int (2 : Int32))])) rfl (by rw [hml]; rfl) (argsL := [(.int (2 : Int32))]) (rest := []) (lenOf pd_3 rfl) rfl (by show 2 * 0 + _ ≤ _; exact Nat.le_of_eq rfl) (hb hby at_28) (fun _ _ => ⟨rfl, e16, (by decide : 0 + 0 ≤ _), (by decide : 0 + 0 ≤ _)⟩)
    dsimp only [Pt.U, Pt.locs, Pt.cells, Pt.slots] at X40 l40 y40 z40 st40 hQ40
    subst l40 y40 z40
    obtain ⟨rfl, M40, e40⟩ := hQ40
    have N40 := Fr.app N16 M40
    have pre50 : ∀ t, Steps p.tables e below (T40.setTop (mkF m 31 #[.val (.int p0), .val (.int (0 : Int32)), .val (.ref a_NO), .val (.ref a_YES), .unset] [(.ref a_YES)])) t → Steps p.tables e below (s₁.setTop (entryFrame m #[(.int p0)] maxLocals)) t := fun t kt => pre39 _ (st40 _ kt)
    have pre51 : ∀ t, Steps p.tables e below (T40.setTop (mkF m 40 #[.val (.int p0), .val (.int (0 : Int32)), .val (.ref a_NO), .val (.ref a_YES), .val (.ref a_YES)] [(.ref a_YES)])) t → Steps p.tables e below (s₁.setTop (entryFrame m #[(.int p0)] maxLocals)) t := fun t kt => by
      refine pre50 _ ?_
      show Steps p.tables e below (T40.setTop (mkF m 31 #[.val (.int p0), .val (.int (0 : Int32)), .val (.ref a_NO), .val (.ref a_YES), .unset] [(.ref a_YES)])) _
      refine XS.astore X40.here hx rfl (hb hby at_31) rfl rfl (l' := #[.val (.int p0), .val (.int (0 : Int32)), .val (.ref a_NO), .val (.ref a_YES), .val (.ref a_YES)]) rfl ?_
      show Steps p.tables e below (T40.setTop (mkF m 33 #[.val (.int p0), .val (.int (0 : Int32)), .val (.ref a_NO), .val (.ref a_YES), .val (.ref a_YES)] [])) _
      refine XS.aloadN X40.here hx rfl (hb hby at_33) rfl rfl ?_
      show Steps p.tables e below (T40.setTop (mkF m 34 #[.val (.int p0), .val (.int (0 : Int32)), .val (.ref a_NO), .val (.ref a_YES), .val (.ref a_YES)] [(.ref a_YES)])) _
      refine XS.aload X40.here hx rfl (hb hby at_34) rfl rfl ?_
      show Steps p.tables e below (T40.setTop (mkF m 36 #[.val (.int p0), .val (.int (0 : Int32)), .val (.ref a_NO), .val (.ref a_YES), .val (.ref a_YES)] [(.ref a_YES), (.ref a_YES)])) _
      refine Jvm.RoadKit.acmp (g := (mkF m 36 #[.val (.int p0), .val (.int (0 : Int32)), .val (.ref a_NO), .val (.ref a_YES), .val (.ref a_YES)] [(.ref a_YES), (.ref a_YES)])) X40 hx rfl rfl rfl (pc0 := 36) (pc' := 39) (same := true) rfl (hb hby at_36) rfl (decide_eq_true rfl) (by decide) (by decide) ?_
      show Steps p.tables e below (T40.setTop (mkF m 39 #[.val (.int p0), .val (.int (0 : Int32)), .val (.ref a_NO), .val (.ref a_YES), .val (.ref a_YES)] [])) _
      refine XS.aloadN X40.here hx rfl (hb hby at_39) rfl rfl ?_
      exact kt
    obtain ⟨cq52, kq52, q52a, q52b, q52c⟩ := isOf hZ e40 (G3.ext O0.2)
    obtain ⟨_, _, ⟨T52, L52, k52, n52⟩, -, X52, ⟨Lc52, hQ52, l52, y52, z52⟩, st52⟩ := X40.virtualBack hx (y := (⟨"com/example/optlint/optlint/Tristate", "not", "()Lcom/example/optlint/optlint/Tristate;"⟩ : MethodName)) (z := (⟨"com/example/optlint/optlint/Tristate", "not", "()Lcom/example/optlint/optlint/Tristate;"⟩ : MethodName)) hown (mvT hZ (hw _ (List.mem_of_getElem? (i := 7) rfl))) (mvT hZ (hw _ (List.mem_of_getElem? (i := 8) rfl))) (notFace_of_selects (args := #[]) (mvT hZ (hw _ (List.mem_of_getElem? (i := 10) rfl)))) (mvT hZ (hw _ (List.mem_of_getElem? (i := 10) rfl))) (mvT hZ (hw _ (List.mem_of_getElem? (i := 9) rfl))) (by decide) (backOf (W := 0) (rm_not2_1 l Z a0 hw [] a_YES a_NO h0 n0 O0 G0 G2 (fun q => ne_a_YES_a_NO q.symm)) hZ (hw _ (List.mem_of_getElem? (i := 11) rfl)) (hw _ (List.mem_of_getElem? (i := 5) rfl)) (by decide) (by decide)) q52a q52c (g := (mkF m 40 #[.val (.int p0), .val (.int (0 : Int32)), .val (.ref a_NO), .val (.ref a_YES), .val (.ref a_YES)] [(.ref a_YES)])) rfl (by rw [hml]; rfl) (Steps.refl _) (argsL := []) (rest := []) (lenOf pd_6 rfl) rfl (by show 2 * 0 + _ ≤ _; exact Nat.le_of_eq rfl) (hb hby at_40) (fun _ _ => ⟨rfl, e40, (by decide : 0 + 0 ≤ _), (by decide : 0 + 0 ≤ _)⟩)
    dsimp only [Pt.U, Pt.locs, Pt.cells, Pt.slots] at X52 l52 y52 z52 st52 hQ52
    subst l52 y52 z52
    obtain ⟨rfl, M52, e52⟩ := hQ52
    have N52 := Fr.app N40 M52
    have pre83 : ∀ t, Steps p.tables e below (T52.setTop (mkF m 43 #[.val (.int p0), .val (.int (0 : Int32)), .val (.ref a_NO), .val (.ref a_YES), .val (.ref a_YES)] [(.ref a_NO)])) t → Steps p.tables e below (s₁.setTop (entryFrame m #[(.int p0)] maxLocals)) t := fun t kt => pre51 _ (st52.trans kt)
    have pre84 : ∀ t, Steps p.tables e below (T52.setTop (mkF m 52 #[.val (.int p0), .val (.int (0 : Int32)), .val (.ref a_NO), .val (.ref a_YES), .val (.ref a_YES)] [(.int (1 : Int32))])) t → Steps p.tables e below (s₁.setTop (entryFrame m #[(.int p0)] maxLocals)) t := fun t kt => by
      refine pre83 _ ?_
      show Steps p.tables e below (T52.setTop (mkF m 43 #[.val (.int p0), .val (.int (0 : Int32)), .val (.ref a_NO), .val (.ref a_YES), .val (.ref a_YES)] [(.ref a_NO)])) _
      refine XS.aloadN X52.here hx rfl (hb hby at_43) rfl rfl ?_
      show Steps p.tables e below (T52.setTop (mkF m 44 #[.val (.int p0), .val (.int (0 : Int32)), .val (.ref a_NO), .val (.ref a_YES), .val (.ref a_YES)] [(.ref a_NO), (.ref a_NO)])) _
      refine Jvm.RoadKit.acmp (g := (mkF m 44 #[.val (.int p0), .val (.int (0 : Int32)), .val (.ref a_NO), .val (.ref a_YES), .val (.ref a_YES)] [(.ref a_NO), (.ref a_NO)])) X52 hx rfl rfl rfl (pc0 := 44) (pc' := 47) (same := true) rfl (hb hby at_44) rfl (decide_eq_true rfl) (by decide) (by decide) ?_
      show Steps p.tables e below (T52.setTop (mkF m 47 #[.val (.int p0), .val (.int (0 : Int32)), .val (.ref a_NO), .val (.ref a_YES), .val (.ref a_YES)] [])) _
      refine XS.iconst X52.here hx rfl (hb hby at_47) ?_
      show Steps p.tables e below (T52.setTop (mkF m 48 #[.val (.int p0), .val (.int (0 : Int32)), .val (.ref a_NO), .val (.ref a_YES), .val (.ref a_YES)] [(.int (1 : Int32))])) _
      refine XS.goto X52.here hx rfl (pc0 := 48) (pc' := 52) rfl (hb hby at_48) (by decide) (by decide) ?_
      exact kt
    obtain ⟨fs, hr, hrun, hended, hW, hsame⟩ := X52.leave (v := some (.int (1 : Int32))) (fun h => by rw [Bd.returns] at h; cases h)
    refine ⟨_, _, pre84 _ (retN X52 hx (t := .boolean) Bd.returns (by simp) (hb hby at_52) hr), hrun, hended, _, _, rfl, ?_, ⟨_, rfl⟩, hW, hsame.mono (by decide) (by decide)⟩
    show Q_law Z p0 a_NO a_YES a_UNKNOWN a_MOD h0 n0 _ T52.heap _
    rw [e52]
    exact ⟨rfl, N52⟩
  · rw [hv2] at pre1
    have pre85 : ∀ t, Steps p.tables e below (s₁.setTop (mkF m 5 #[.val (.int p0), .val (.int (1 : Int32)), .unset, .unset, .unset] [(.int (1 : Int32))])) t → Steps p.tables e below (s₁.setTop (entryFrame m #[(.int p0)] maxLocals)) t := fun t kt => by
      refine pre1 _ ?_
      show Steps p.tables e below (s₁.setTop (mkF m 3 #[.val (.int p0), .unset, .unset, .unset, .unset] [(.int (1 : Int32))])) _
      refine XS.istoreN X0.here hx rfl (hb hby at_3) rfl (l' := #[.val (.int p0), .val (.int (1 : Int32)), .unset, .unset, .unset]) rfl ?_
      show Steps p.tables e below (s₁.setTop (mkF m 4 #[.val (.int p0), .val (.int (1 : Int32)), .unset, .unset, .unset] [])) _
      refine XS.iloadN X0.here hx rfl (hb hby at_4) rfl ?_
      exact kt
    obtain ⟨_, _, ⟨T86, L86, k86, n86⟩, -, X86, ⟨Lc86, hQ86, l86, y86, z86⟩, st86⟩ := Jvm.LawKit.callS X0 hx (y := (⟨"com/example/optlint/optlint/TristateNotPinLaw", "pick", "(I)Lcom/example/optlint/optlint/Tristate;"⟩ : MethodName)) hown (mvT hZ (hw _ (List.mem_of_getElem? (i := 0) rfl))) (mvT hZ (hw _ (List.mem_of_getElem? (i := 1) rfl))) (mvT hZ (hw _ (List.mem_of_getElem? (i := 2) rfl))) (mvT hZ (hw _ (List.mem_of_getElem? (i := 3) rfl))) (by decide) (backOf (W := 0) (rm_pick1_2 l Z a0 hw [] a_MOD h0 n0 O0 G6) hZ (hw _ (List.mem_of_getElem? (i := 3) rfl)) (hw _ (List.mem_of_getElem? (i := 2) rfl)) (by decide) (by decide)) (g := (mkF m 5 #[.val (.int p0), .val (.int (1 : Int32)), .unset, .unset, .unset] [(.int (1 : Int32))])) rfl (by rw [hml]; rfl) (argsL := [(.int (1 : Int32))]) (rest := []) (lenOf pd_3 rfl) rfl (by show 2 * 0 + _ ≤ _; exact Nat.le_of_eq rfl) (hb hby at_5) (fun _ _ => ⟨rfl, e0, (by decide : 0 + 0 ≤ _), (by decide : 0 + 0 ≤ _)⟩)
    dsimp only [Pt.U, Pt.locs, Pt.cells, Pt.slots] at X86 l86 y86 z86 st86 hQ86
    subst l86 y86 z86
    obtain ⟨rfl, M86, e86⟩ := hQ86
    have N86 := Fr.app N0 M86
    have pre96 : ∀ t, Steps p.tables e below (T86.setTop (mkF m 8 #[.val (.int p0), .val (.int (1 : Int32)), .unset, .unset, .unset] [(.ref a_MOD)])) t → Steps p.tables e below (s₁.setTop (entryFrame m #[(.int p0)] maxLocals)) t := fun t kt => pre85 _ (st86 _ kt)
    have pre97 : ∀ t, Steps p.tables e below (T86.setTop (mkF m 10 #[.val (.int p0), .val (.int (1 : Int32)), .val (.ref a_MOD), .unset, .unset] [(.ref a_MOD)])) t → Steps p.tables e below (s₁.setTop (entryFrame m #[(.int p0)] maxLocals)) t := fun t kt => by
      refine pre96 _ ?_
      show Steps p.tables e below (T86.setTop (mkF m 8 #[.val (.int p0), .val (.int (1 : Int32)), .unset, .unset, .unset] [(.ref a_MOD)])) _
      refine XS.astoreN X86.here hx rfl (hb hby at_8) rfl rfl (l' := #[.val (.int p0), .val (.int (1 : Int32)), .val (.ref a_MOD), .unset, .unset]) rfl ?_
      show Steps p.tables e below (T86.setTop (mkF m 9 #[.val (.int p0), .val (.int (1 : Int32)), .val (.ref a_MOD), .unset, .unset] [])) _
      refine XS.aloadN X86.here hx rfl (hb hby at_9) rfl rfl ?_
      exact kt
    obtain ⟨cq98, kq98, q98a, q98b, q98c⟩ := isOf hZ e86 (G7.ext O0.2)
    obtain ⟨_, _, ⟨T98, L98, k98, n98⟩, -, X98, ⟨Lc98, hQ98, l98, y98, z98⟩, st98⟩ := X86.virtualBack hx (y := (⟨"com/example/optlint/optlint/Tristate", "not", "()Lcom/example/optlint/optlint/Tristate;"⟩ : MethodName)) (z := (⟨"com/example/optlint/optlint/Tristate", "not", "()Lcom/example/optlint/optlint/Tristate;"⟩ : MethodName)) hown (mvT hZ (hw _ (List.mem_of_getElem? (i := 7) rfl))) (mvT hZ (hw _ (List.mem_of_getElem? (i := 8) rfl))) (notFace_of_selects (args := #[]) (mvT hZ (hw _ (List.mem_of_getElem? (i := 10) rfl)))) (mvT hZ (hw _ (List.mem_of_getElem? (i := 10) rfl))) (mvT hZ (hw _ (List.mem_of_getElem? (i := 9) rfl))) (by decide) (backOf (W := 0) (rm_not2_2 l Z a0 hw [] a_MOD a_NO a_YES h0 n0 O0 G0 G2 (fun q => ne_a_YES_a_MOD q.symm) (fun q => ne_a_NO_a_MOD q.symm)) hZ (hw _ (List.mem_of_getElem? (i := 11) rfl)) (hw _ (List.mem_of_getElem? (i := 5) rfl)) (by decide) (by decide)) q98a q98c (g := (mkF m 10 #[.val (.int p0), .val (.int (1 : Int32)), .val (.ref a_MOD), .unset, .unset] [(.ref a_MOD)])) rfl (by rw [hml]; rfl) (Steps.refl _) (argsL := []) (rest := []) (lenOf pd_6 rfl) rfl (by show 2 * 0 + _ ≤ _; exact Nat.le_of_eq rfl) (hb hby at_10) (fun _ _ => ⟨rfl, e86, (by decide : 0 + 0 ≤ _), (by decide : 0 + 0 ≤ _)⟩)
    dsimp only [Pt.U, Pt.locs, Pt.cells, Pt.slots] at X98 l98 y98 z98 st98 hQ98
    subst l98 y98 z98
    obtain ⟨rfl, M98, e98⟩ := hQ98
    have N98 := Fr.app N86 M98
    have pre120 : ∀ t, Steps p.tables e below (T98.setTop (mkF m 13 #[.val (.int p0), .val (.int (1 : Int32)), .val (.ref a_MOD), .unset, .unset] [(.ref a_MOD)])) t → Steps p.tables e below (s₁.setTop (entryFrame m #[(.int p0)] maxLocals)) t := fun t kt => pre97 _ (st98.trans kt)
    have pre121 : ∀ t, Steps p.tables e below (T98.setTop (mkF m 28 #[.val (.int p0), .val (.int (1 : Int32)), .val (.ref a_MOD), .val (.ref a_MOD), .unset] [(.int (1 : Int32))])) t → Steps p.tables e below (s₁.setTop (entryFrame m #[(.int p0)] maxLocals)) t := fun t kt => by
      refine pre120 _ ?_
      show Steps p.tables e below (T98.setTop (mkF m 13 #[.val (.int p0), .val (.int (1 : Int32)), .val (.ref a_MOD), .unset, .unset] [(.ref a_MOD)])) _
      refine XS.astoreN X98.here hx rfl (hb hby at_13) rfl rfl (l' := #[.val (.int p0), .val (.int (1 : Int32)), .val (.ref a_MOD), .val (.ref a_MOD), .unset]) rfl ?_
      show Steps p.tables e below (T98.setTop (mkF m 14 #[.val (.int p0), .val (.int (1 : Int32)), .val (.ref a_MOD), .val (.ref a_MOD), .unset] [])) _
      refine XS.iloadN X98.here hx rfl (hb hby at_14) rfl ?_
      show Steps p.tables e below (T98.setTop (mkF m 15 #[.val (.int p0), .val (.int (1 : Int32)), .val (.ref a_MOD), .val (.ref a_MOD), .unset] [(.int (1 : Int32))])) _
      refine XS.iconst X98.here hx rfl (hb hby at_15) ?_
      show Steps p.tables e below (T98.setTop (mkF m 16 #[.val (.int p0), .val (.int (1 : Int32)), .val (.ref a_MOD), .val (.ref a_MOD), .unset] [(.int (3 : Int32)), (.int (1 : Int32))])) _
      refine XS.icmpYes X98.here hx rfl (pc0 := 16) (pc' := 25) rfl (hb hby at_16) rfl (XT.ii_ne_t (by decide)) (by decide) (by decide) ?_
      show Steps p.tables e below (T98.setTop (mkF m 25 #[.val (.int p0), .val (.int (1 : Int32)), .val (.ref a_MOD), .val (.ref a_MOD), .unset] [])) _
      refine XS.iconst X98.here hx rfl (hb hby at_25) ?_
      show Steps p.tables e below (T98.setTop (mkF m 26 #[.val (.int p0), .val (.int (1 : Int32)), .val (.ref a_MOD), .val (.ref a_MOD), .unset] [(.int (2 : Int32))])) _
      refine XS.iloadN X98.here hx rfl (hb hby at_26) rfl ?_
      show Steps p.tables e below (T98.setTop (mkF m 27 #[.val (.int p0), .val (.int (1 : Int32)), .val (.ref a_MOD), .val (.ref a_MOD), .unset] [(.int (1 : Int32)), (.int (2 : Int32))])) _
      refine XS.isub X98.here hx rfl (hb hby at_27) rfl ?_
      show  Steps p.tables e below (T98.setTop (mkF m 28 #[.val (.int p0), .val (.int (1 : Int32)), .val (.ref a_MOD), .val (.ref a_MOD), .unset] [(.int ((2 : Int32) - (1 : Int32)))])) _
      rw [(by decide : (((2 : Int32) - (1 : Int32)) : Int32) = (1 : Int32))]
      exact kt
    obtain ⟨_, _, ⟨T122, L122, k122, n122⟩, -, X122, ⟨Lc122, hQ122, l122, y122, z122⟩, st122⟩ := Jvm.LawKit.callS X98 hx (y := (⟨"com/example/optlint/optlint/TristateNotPinLaw", "pick", "(I)Lcom/example/optlint/optlint/Tristate;"⟩ : MethodName)) hown (mvT hZ (hw _ (List.mem_of_getElem? (i := 0) rfl))) (mvT hZ (hw _ (List.mem_of_getElem? (i := 1) rfl))) (mvT hZ (hw _ (List.mem_of_getElem? (i := 2) rfl))) (mvT hZ (hw _ (List.mem_of_getElem? (i := 3) rfl))) (by decide) (backOf (W := 0) (rm_pick1_2 l Z a0 hw [] a_MOD h0 n0 O0 G6) hZ (hw _ (List.mem_of_getElem? (i := 3) rfl)) (hw _ (List.mem_of_getElem? (i := 2) rfl)) (by decide) (by decide)) (g := (mkF m 28 #[.val (.int p0), .val (.int (1 : Int32)), .val (.ref a_MOD), .val (.ref a_MOD), .unset] [(.int (1 : Int32))])) rfl (by rw [hml]; rfl) (argsL := [(.int (1 : Int32))]) (rest := []) (lenOf pd_3 rfl) rfl (by show 2 * 0 + _ ≤ _; exact Nat.le_of_eq rfl) (hb hby at_28) (fun _ _ => ⟨rfl, e98, (by decide : 0 + 0 ≤ _), (by decide : 0 + 0 ≤ _)⟩)
    dsimp only [Pt.U, Pt.locs, Pt.cells, Pt.slots] at X122 l122 y122 z122 st122 hQ122
    subst l122 y122 z122
    obtain ⟨rfl, M122, e122⟩ := hQ122
    have N122 := Fr.app N98 M122
    have pre123 : ∀ t, Steps p.tables e below (T122.setTop (mkF m 31 #[.val (.int p0), .val (.int (1 : Int32)), .val (.ref a_MOD), .val (.ref a_MOD), .unset] [(.ref a_MOD)])) t → Steps p.tables e below (s₁.setTop (entryFrame m #[(.int p0)] maxLocals)) t := fun t kt => pre121 _ (st122 _ kt)
    have pre124 : ∀ t, Steps p.tables e below (T122.setTop (mkF m 40 #[.val (.int p0), .val (.int (1 : Int32)), .val (.ref a_MOD), .val (.ref a_MOD), .val (.ref a_MOD)] [(.ref a_MOD)])) t → Steps p.tables e below (s₁.setTop (entryFrame m #[(.int p0)] maxLocals)) t := fun t kt => by
      refine pre123 _ ?_
      show Steps p.tables e below (T122.setTop (mkF m 31 #[.val (.int p0), .val (.int (1 : Int32)), .val (.ref a_MOD), .val (.ref a_MOD), .unset] [(.ref a_MOD)])) _
      refine XS.astore X122.here hx rfl (hb hby at_31) rfl rfl (l' := #[.val (.int p0), .val (.int (1 : Int32)), .val (.ref a_MOD), .val (.ref a_MOD), .val (.ref a_MOD)]) rfl ?_
      show Steps p.tables e below (T122.setTop (mkF m 33 #[.val (.int p0), .val (.int (1 : Int32)), .val (.ref a_MOD), .val (.ref a_MOD), .val (.ref a_MOD)] [])) _
      refine XS.aloadN X122.here hx rfl (hb hby at_33) rfl rfl ?_
      show Steps p.tables e below (T122.setTop (mkF m 34 #[.val (.int p0), .val (.int (1 : Int32)), .val (.ref a_MOD), .val (.ref a_MOD), .val (.ref a_MOD)] [(.ref a_MOD)])) _
      refine XS.aload X122.here hx rfl (hb hby at_34) rfl rfl ?_
      show Steps p.tables e below (T122.setTop (mkF m 36 #[.val (.int p0), .val (.int (1 : Int32)), .val (.ref a_MOD), .val (.ref a_MOD), .val (.ref a_MOD)] [(.ref a_MOD), (.ref a_MOD)])) _
      refine Jvm.RoadKit.acmp (g := (mkF m 36 #[.val (.int p0), .val (.int (1 : Int32)), .val (.ref a_MOD), .val (.ref a_MOD), .val (.ref a_MOD)] [(.ref a_MOD), (.ref a_MOD)])) X122 hx rfl rfl rfl (pc0 := 36) (pc' := 39) (same := true) rfl (hb hby at_36) rfl (decide_eq_true rfl) (by decide) (by decide) ?_
      show Steps p.tables e below (T122.setTop (mkF m 39 #[.val (.int p0), .val (.int (1 : Int32)), .val (.ref a_MOD), .val (.ref a_MOD), .val (.ref a_MOD)] [])) _
      refine XS.aloadN X122.here hx rfl (hb hby at_39) rfl rfl ?_
      exact kt
    obtain ⟨cq125, kq125, q125a, q125b, q125c⟩ := isOf hZ e122 (G7.ext O0.2)
    obtain ⟨_, _, ⟨T125, L125, k125, n125⟩, -, X125, ⟨Lc125, hQ125, l125, y125, z125⟩, st125⟩ := X122.virtualBack hx (y := (⟨"com/example/optlint/optlint/Tristate", "not", "()Lcom/example/optlint/optlint/Tristate;"⟩ : MethodName)) (z := (⟨"com/example/optlint/optlint/Tristate", "not", "()Lcom/example/optlint/optlint/Tristate;"⟩ : MethodName)) hown (mvT hZ (hw _ (List.mem_of_getElem? (i := 7) rfl))) (mvT hZ (hw _ (List.mem_of_getElem? (i := 8) rfl))) (notFace_of_selects (args := #[]) (mvT hZ (hw _ (List.mem_of_getElem? (i := 10) rfl)))) (mvT hZ (hw _ (List.mem_of_getElem? (i := 10) rfl))) (mvT hZ (hw _ (List.mem_of_getElem? (i := 9) rfl))) (by decide) (backOf (W := 0) (rm_not2_2 l Z a0 hw [] a_MOD a_NO a_YES h0 n0 O0 G0 G2 (fun q => ne_a_YES_a_MOD q.symm) (fun q => ne_a_NO_a_MOD q.symm)) hZ (hw _ (List.mem_of_getElem? (i := 11) rfl)) (hw _ (List.mem_of_getElem? (i := 5) rfl)) (by decide) (by decide)) q125a q125c (g := (mkF m 40 #[.val (.int p0), .val (.int (1 : Int32)), .val (.ref a_MOD), .val (.ref a_MOD), .val (.ref a_MOD)] [(.ref a_MOD)])) rfl (by rw [hml]; rfl) (Steps.refl _) (argsL := []) (rest := []) (lenOf pd_6 rfl) rfl (by show 2 * 0 + _ ≤ _; exact Nat.le_of_eq rfl) (hb hby at_40) (fun _ _ => ⟨rfl, e122, (by decide : 0 + 0 ≤ _), (by decide : 0 + 0 ≤ _)⟩)
    dsimp only [Pt.U, Pt.locs, Pt.cells, Pt.slots] at X125 l125 y125 z125 st125 hQ125
    subst l125 y125 z125
    obtain ⟨rfl, M125, e125⟩ := hQ125
    have N125 := Fr.app N122 M125
    have pre126 : ∀ t, Steps p.tables e below (T125.setTop (mkF m 43 #[.val (.int p0), .val (.int (1 : Int32)), .val (.ref a_MOD), .val (.ref a_MOD), .val (.ref a_MOD)] [(.ref a_MOD)])) t → Steps p.tables e below (s₁.setTop (entryFrame m #[(.int p0)] maxLocals)) t := fun t kt => pre124 _ (st125.trans kt)
    have pre127 : ∀ t, Steps p.tables e below (T125.setTop (mkF m 52 #[.val (.int p0), .val (.int (1 : Int32)), .val (.ref a_MOD), .val (.ref a_MOD), .val (.ref a_MOD)] [(.int (1 : Int32))])) t → Steps p.tables e below (s₁.setTop (entryFrame m #[(.int p0)] maxLocals)) t := fun t kt => by
      refine pre126 _ ?_
      show Steps p.tables e below (T125.setTop (mkF m 43 #[.val (.int p0), .val (.int (1 : Int32)), .val (.ref a_MOD), .val (.ref a_MOD), .val (.ref a_MOD)] [(.ref a_MOD)])) _
      refine XS.aloadN X125.here hx rfl (hb hby at_43) rfl rfl ?_
      show Steps p.tables e below (T125.setTop (mkF m 44 #[.val (.int p0), .val (.int (1 : Int32)), .val (.ref a_MOD), .val (.ref a_MOD), .val (.ref a_MOD)] [(.ref a_MOD), (.ref a_MOD)])) _
      refine Jvm.RoadKit.acmp (g := (mkF m 44 #[.val (.int p0), .val (.int (1 : Int32)), .val (.ref a_MOD), .val (.ref a_MOD), .val (.ref a_MOD)] [(.ref a_MOD), (.ref a_MOD)])) X125 hx rfl rfl rfl (pc0 := 44) (pc' := 47) (same := true) rfl (hb hby at_44) rfl (decide_eq_true rfl) (by decide) (by decide) ?_
      show Steps p.tables e below (T125.setTop (mkF m 47 #[.val (.int p0), .val (.int (1 : Int32)), .val (.ref a_MOD), .val (.ref a_MOD), .val (.ref a_MOD)] [])) _
      refine XS.iconst X125.here hx rfl (hb hby at_47) ?_
      show Steps p.tables e below (T125.setTop (mkF m 48 #[.val (.int p0), .val (.int (1 : Int32)), .val (.ref a_MOD), .val (.ref a_MOD), .val (.ref a_MOD)] [(.int (1 : Int32))])) _
      refine XS.goto X125.here hx rfl (pc0 := 48) (pc' := 52) rfl (hb hby at_48) (by decide) (by decide) ?_
      exact kt
    obtain ⟨fs, hr, hrun, hended, hW, hsame⟩ := X125.leave (v := some (.int (1 : Int32))) (fun h => by rw [Bd.returns] at h; cases h)
    refine ⟨_, _, pre127 _ (retN X125 hx (t := .boolean) Bd.returns (by simp) (hb hby at_52) hr), hrun, hended, _, _, rfl, ?_, ⟨_, rfl⟩, hW, hsame.mono (by decide) (by decide)⟩
    show Q_law Z p0 a_NO a_YES a_UNKNOWN a_MOD h0 n0 _ T125.heap _
    rw [e125]
    exact ⟨rfl, N125⟩
  · rw [hv2] at pre1
    have pre128 : ∀ t, Steps p.tables e below (s₁.setTop (mkF m 5 #[.val (.int p0), .val (.int (2 : Int32)), .unset, .unset, .unset] [(.int (2 : Int32))])) t → Steps p.tables e below (s₁.setTop (entryFrame m #[(.int p0)] maxLocals)) t := fun t kt => by
      refine pre1 _ ?_
      show Steps p.tables e below (s₁.setTop (mkF m 3 #[.val (.int p0), .unset, .unset, .unset, .unset] [(.int (2 : Int32))])) _
      refine XS.istoreN X0.here hx rfl (hb hby at_3) rfl (l' := #[.val (.int p0), .val (.int (2 : Int32)), .unset, .unset, .unset]) rfl ?_
      show Steps p.tables e below (s₁.setTop (mkF m 4 #[.val (.int p0), .val (.int (2 : Int32)), .unset, .unset, .unset] [])) _
      refine XS.iloadN X0.here hx rfl (hb hby at_4) rfl ?_
      exact kt
    obtain ⟨_, _, ⟨T129, L129, k129, n129⟩, -, X129, ⟨Lc129, hQ129, l129, y129, z129⟩, st129⟩ := Jvm.LawKit.callS X0 hx (y := (⟨"com/example/optlint/optlint/TristateNotPinLaw", "pick", "(I)Lcom/example/optlint/optlint/Tristate;"⟩ : MethodName)) hown (mvT hZ (hw _ (List.mem_of_getElem? (i := 0) rfl))) (mvT hZ (hw _ (List.mem_of_getElem? (i := 1) rfl))) (mvT hZ (hw _ (List.mem_of_getElem? (i := 2) rfl))) (mvT hZ (hw _ (List.mem_of_getElem? (i := 3) rfl))) (by decide) (backOf (W := 0) (rm_pick1_1 l Z a0 hw [] a_YES h0 n0 O0 G2) hZ (hw _ (List.mem_of_getElem? (i := 3) rfl)) (hw _ (List.mem_of_getElem? (i := 2) rfl)) (by decide) (by decide)) (g := (mkF m 5 #[.val (.int p0), .val (.int (2 : Int32)), .unset, .unset, .unset] [(.int (2 : Int32))])) rfl (by rw [hml]; rfl) (argsL := [(.int (2 : Int32))]) (rest := []) (lenOf pd_3 rfl) rfl (by show 2 * 0 + _ ≤ _; exact Nat.le_of_eq rfl) (hb hby at_5) (fun _ _ => ⟨rfl, e0, (by decide : 0 + 0 ≤ _), (by decide : 0 + 0 ≤ _)⟩)
    dsimp only [Pt.U, Pt.locs, Pt.cells, Pt.slots] at X129 l129 y129 z129 st129 hQ129
    subst l129 y129 z129
    obtain ⟨rfl, M129, e129⟩ := hQ129
    have N129 := Fr.app N0 M129
    have pre130 : ∀ t, Steps p.tables e below (T129.setTop (mkF m 8 #[.val (.int p0), .val (.int (2 : Int32)), .unset, .unset, .unset] [(.ref a_YES)])) t → Steps p.tables e below (s₁.setTop (entryFrame m #[(.int p0)] maxLocals)) t := fun t kt => pre128 _ (st129 _ kt)
    have pre131 : ∀ t, Steps p.tables e below (T129.setTop (mkF m 10 #[.val (.int p0), .val (.int (2 : Int32)), .val (.ref a_YES), .unset, .unset] [(.ref a_YES)])) t → Steps p.tables e below (s₁.setTop (entryFrame m #[(.int p0)] maxLocals)) t := fun t kt => by
      refine pre130 _ ?_
      show Steps p.tables e below (T129.setTop (mkF m 8 #[.val (.int p0), .val (.int (2 : Int32)), .unset, .unset, .unset] [(.ref a_YES)])) _
      refine XS.astoreN X129.here hx rfl (hb hby at_8) rfl rfl (l' := #[.val (.int p0), .val (.int (2 : Int32)), .val (.ref a_YES), .unset, .unset]) rfl ?_
      show Steps p.tables e below (T129.setTop (mkF m 9 #[.val (.int p0), .val (.int (2 : Int32)), .val (.ref a_YES), .unset, .unset] [])) _
      refine XS.aloadN X129.here hx rfl (hb hby at_9) rfl rfl ?_
      exact kt
    obtain ⟨cq132, kq132, q132a, q132b, q132c⟩ := isOf hZ e129 (G3.ext O0.2)
    obtain ⟨_, _, ⟨T132, L132, k132, n132⟩, -, X132, ⟨Lc132, hQ132, l132, y132, z132⟩, st132⟩ := X129.virtualBack hx (y := (⟨"com/example/optlint/optlint/Tristate", "not", "()Lcom/example/optlint/optlint/Tristate;"⟩ : MethodName)) (z := (⟨"com/example/optlint/optlint/Tristate", "not", "()Lcom/example/optlint/optlint/Tristate;"⟩ : MethodName)) hown (mvT hZ (hw _ (List.mem_of_getElem? (i := 7) rfl))) (mvT hZ (hw _ (List.mem_of_getElem? (i := 8) rfl))) (notFace_of_selects (args := #[]) (mvT hZ (hw _ (List.mem_of_getElem? (i := 10) rfl)))) (mvT hZ (hw _ (List.mem_of_getElem? (i := 10) rfl))) (mvT hZ (hw _ (List.mem_of_getElem? (i := 9) rfl))) (by decide) (backOf (W := 0) (rm_not2_1 l Z a0 hw [] a_YES a_NO h0 n0 O0 G0 G2 (fun q => ne_a_YES_a_NO q.symm)) hZ (hw _ (List.mem_of_getElem? (i := 11) rfl)) (hw _ (List.mem_of_getElem? (i := 5) rfl)) (by decide) (by decide)) q132a q132c (g := (mkF m 10 #[.val (.int p0), .val (.int (2 : Int32)), .val (.ref a_YES), .unset, .unset] [(.ref a_YES)])) rfl (by rw [hml]; rfl) (Steps.refl _) (argsL := []) (rest := []) (lenOf pd_6 rfl) rfl (by show 2 * 0 + _ ≤ _; exact Nat.le_of_eq rfl) (hb hby at_10) (fun _ _ => ⟨rfl, e129, (by decide : 0 + 0 ≤ _), (by decide : 0 + 0 ≤ _)⟩)
    dsimp only [Pt.U, Pt.locs, Pt.cells, Pt.slots] at X132 l132 y132 z132 st132 hQ132
    subst l132 y132 z132
    obtain ⟨rfl, M132, e132⟩ := hQ132
    have N132 := Fr.app N129 M132
    have pre133 : ∀ t, Steps p.tables e below (T132.setTop (mkF m 13 #[.val (.int p0), .val (.int (2 : Int32)), .val (.ref a_YES), .unset, .unset] [(.ref a_NO)])) t → Steps p.tables e below (s₁.setTop (entryFrame m #[(.int p0)] maxLocals)) t := fun t kt => pre131 _ (st132.trans kt)
    have pre134 : ∀ t, Steps p.tables e below (T132.setTop (mkF m 28 #[.val (.int p0), .val (.int (2 : Int32)), .val (.ref a_YES), .val (.ref a_NO), .unset] [(.int (0 : Int32))])) t → Steps p.tables e below (s₁.setTop (entryFrame m #[(.int p0)] maxLocals)) t := fun t kt => by
      refine pre133 _ ?_
      show Steps p.tables e below (T132.setTop (mkF m 13 #[.val (.int p0), .val (.int (2 : Int32)), .val (.ref a_YES), .unset, .unset] [(.ref a_NO)])) _
      refine XS.astoreN X132.here hx rfl (hb hby at_13) rfl rfl (l' := #[.val (.int p0), .val (.int (2 : Int32)), .val (.ref a_YES), .val (.ref a_NO), .unset]) rfl ?_
      show Steps p.tables e below (T132.setTop (mkF m 14 #[.val (.int p0), .val (.int (2 : Int32)), .val (.ref a_YES), .val (.ref a_NO), .unset] [])) _
      refine XS.iloadN X132.here hx rfl (hb hby at_14) rfl ?_
      show Steps p.tables e below (T132.setTop (mkF m 15 #[.val (.int p0), .val (.int (2 : Int32)), .val (.ref a_YES), .val (.ref a_NO), .unset] [(.int (2 : Int32))])) _
      refine XS.iconst X132.here hx rfl (hb hby at_15) ?_
      show Steps p.tables e below (T132.setTop (mkF m 16 #[.val (.int p0), .val (.int (2 : Int32)), .val (.ref a_YES), .val (.ref a_NO), .unset] [(.int (3 : Int32)), (.int (2 : Int32))])) _
      refine XS.icmpYes X132.here hx rfl (pc0 := 16) (pc' := 25) rfl (hb hby at_16) rfl (XT.ii_ne_t (by decide)) (by decide) (by decide) ?_
      show Steps p.tables e below (T132.setTop (mkF m 25 #[.val (.int p0), .val (.int (2 : Int32)), .val (.ref a_YES), .val (.ref a_NO), .unset] [])) _
      refine XS.iconst X132.here hx rfl (hb hby at_25) ?_
      show Steps p.tables e below (T132.setTop (mkF m 26 #[.val (.int p0), .val (.int (2 : Int32)), .val (.ref a_YES), .val (.ref a_NO), .unset] [(.int (2 : Int32))])) _
      refine XS.iloadN X132.here hx rfl (hb hby at_26) rfl ?_
      show Steps p.tables e below (T132.setTop (mkF m 27 #[.val (.int p0), .val (.int (2 : Int32)), .val (.ref a_YES), .val (.ref a_NO), .unset] [(.int (2 : Int32)), (.int (2 : Int32))])) _
      refine XS.isub X132.here hx rfl (hb hby at_27) rfl ?_
      show  Steps p.tables e below (T132.setTop (mkF m 28 #[.val (.int p0), .val (.int (2 : Int32)), .val (.ref a_YES), .val (.ref a_NO), .unset] [(.int ((2 : Int32) - (2 : Int32)))])) _
      rw [(by decide : (((2 : Int32) - (2 : Int32)) : Int32) = (0 : Int32))]
      exact kt
    obtain ⟨_, _, ⟨T135, L135, k135, n135⟩, -, X135, ⟨Lc135, hQ135, l135, y135, z135⟩, st135⟩ := Jvm.LawKit.callS X132 hx (y := (⟨"com/example/optlint/optlint/TristateNotPinLaw", "pick", "(I)Lcom/example/optlint/optlint/Tristate;"⟩ : MethodName)) hown (mvT hZ (hw _ (List.mem_of_getElem? (i := 0) rfl))) (mvT hZ (hw _ (List.mem_of_getElem? (i := 1) rfl))) (mvT hZ (hw _ (List.mem_of_getElem? (i := 2) rfl))) (mvT hZ (hw _ (List.mem_of_getElem? (i := 3) rfl))) (by decide) (backOf (W := 0) (rm_pick1_0 l Z a0 hw [] a_NO h0 n0 O0 G0) hZ (hw _ (List.mem_of_getElem? (i := 3) rfl)) (hw _ (List.mem_of_getElem? (i := 2) rfl)) (by decide) (by decide)) (g := (mkF m 28 #[.val (.int p0), .val (.int (2 : Int32)), .val (.ref a_YES), .val (.ref a_NO), .unset] [(.int (0 : Int32))])) rfl (by rw [hml]; rfl) (argsL := [(.int (0 : Int32))]) (rest := []) (lenOf pd_3 rfl) rfl (by show 2 * 0 + _ ≤ _; exact Nat.le_of_eq rfl) (hb hby at_28) (fun _ _ => ⟨rfl, e132, (by decide : 0 + 0 ≤ _), (by decide : 0 + 0 ≤ _)⟩)
    dsimp only [Pt.U, Pt.locs, Pt.cells, Pt.slots] at X135 l135 y135 z135 st135 hQ135
    subst l135 y135 z135
    obtain ⟨rfl, M135, e135⟩ := hQ135
    have N135 := Fr.app N132 M135
    have pre136 : ∀ t, Steps p.tables e below (T135.setTop (mkF m 31 #[.val (.int p0), .val (.int (2 : Int32)), .val (.ref a_YES), .val (.ref a_NO), .unset] [(.ref a_NO)])) t → Steps p.tables e below (s₁.setTop (entryFrame m #[(.int p0)] maxLocals)) t := fun t kt => pre134 _ (st135 _ kt)
    have pre137 : ∀ t, Steps p.tables e below (T135.setTop (mkF m 40 #[.val (.int p0), .val (.int (2 : Int32)), .val (.ref a_YES), .val (.ref a_NO), .val (.ref a_NO)] [(.ref a_NO)])) t → Steps p.tables e below (s₁.setTop (entryFrame m #[(.int p0)] maxLocals)) t := fun t kt => by
      refine pre136 _ ?_
      show Steps p.tables e below (T135.setTop (mkF m 31 #[.val (.int p0), .val (.int (2 : Int32)), .val (.ref a_YES), .val (.ref a_NO), .unset] [(.ref a_NO)])) _
      refine XS.astore X135.here hx rfl (hb hby at_31) rfl rfl (l' := #[.val (.int p0), .val (.int (2 : Int32)), .val (.ref a_YES), .val (.ref a_NO), .val (.ref a_NO)]) rfl ?_
      show Steps p.tables e below (T135.setTop (mkF m 33 #[.val (.int p0), .val (.int (2 : Int32)), .val (.ref a_YES), .val (.ref a_NO), .val (.ref a_NO)] [])) _
      refine XS.aloadN X135.here hx rfl (hb hby at_33) rfl rfl ?_
      show Steps p.tables e below (T135.setTop (mkF m 34 #[.val (.int p0), .val (.int (2 : Int32)), .val (.ref a_YES), .val (.ref a_NO), .val (.ref a_NO)] [(.ref a_NO)])) _
      refine XS.aload X135.here hx rfl (hb hby at_34) rfl rfl ?_
      show Steps p.tables e below (T135.setTop (mkF m 36 #[.val (.int p0), .val (.int (2 : Int32)), .val (.ref a_YES), .val (.ref a_NO), .val (.ref a_NO)] [(.ref a_NO), (.ref a_NO)])) _
      refine Jvm.RoadKit.acmp (g := (mkF m 36 #[.val (.int p0), .val (.int (2 : Int32)), .val (.ref a_YES), .val (.ref a_NO), .val (.ref a_NO)] [(.ref a_NO), (.ref a_NO)])) X135 hx rfl rfl rfl (pc0 := 36) (pc' := 39) (same := true) rfl (hb hby at_36) rfl (decide_eq_true rfl) (by decide) (by decide) ?_
      show Steps p.tables e below (T135.setTop (mkF m 39 #[.val (.int p0), .val (.int (2 : Int32)), .val (.ref a_YES), .val (.ref a_NO), .val (.ref a_NO)] [])) _
      refine XS.aloadN X135.here hx rfl (hb hby at_39) rfl rfl ?_
      exact kt
    obtain ⟨cq138, kq138, q138a, q138b, q138c⟩ := isOf hZ e135 (G1.ext O0.2)
    obtain ⟨_, _, ⟨T138, L138, k138, n138⟩, -, X138, ⟨Lc138, hQ138, l138, y138, z138⟩, st138⟩ := X135.virtualBack hx (y := (⟨"com/example/optlint/optlint/Tristate", "not", "()Lcom/example/optlint/optlint/Tristate;"⟩ : MethodName)) (z := (⟨"com/example/optlint/optlint/Tristate", "not", "()Lcom/example/optlint/optlint/Tristate;"⟩ : MethodName)) hown (mvT hZ (hw _ (List.mem_of_getElem? (i := 7) rfl))) (mvT hZ (hw _ (List.mem_of_getElem? (i := 8) rfl))) (notFace_of_selects (args := #[]) (mvT hZ (hw _ (List.mem_of_getElem? (i := 10) rfl)))) (mvT hZ (hw _ (List.mem_of_getElem? (i := 10) rfl))) (mvT hZ (hw _ (List.mem_of_getElem? (i := 9) rfl))) (by decide) (backOf (W := 0) (rm_not2_0 l Z a0 hw [] a_NO a_YES h0 n0 O0 G0 G2) hZ (hw _ (List.mem_of_getElem? (i := 11) rfl)) (hw _ (List.mem_of_getElem? (i := 5) rfl)) (by decide) (by decide)) q138a q138c (g := (mkF m 40 #[.val (.int p0), .val (.int (2 : Int32)), .val (.ref a_YES), .val (.ref a_NO), .val (.ref a_NO)] [(.ref a_NO)])) rfl (by rw [hml]; rfl) (Steps.refl _) (argsL := []) (rest := []) (lenOf pd_6 rfl) rfl (by show 2 * 0 + _ ≤ _; exact Nat.le_of_eq rfl) (hb hby at_40) (fun _ _ => ⟨rfl, e135, (by decide : 0 + 0 ≤ _), (by decide : 0 + 0 ≤ _)⟩)
    dsimp only [Pt.U, Pt.locs, Pt.cells, Pt.slots] at X138 l138 y138 z138 st138 hQ138
    subst l138 y138 z138
    obtain ⟨rfl, M138, e138⟩ := hQ138
    have N138 := Fr.app N135 M138
    have pre139 : ∀ t, Steps p.tables e below (T138.setTop (mkF m 43 #[.val (.int p0), .val (.int (2 : Int32)), .val (.ref a_YES), .val (.ref a_NO), .val (.ref a_NO)] [(.ref a_YES)])) t → Steps p.tables e below (s₁.setTop (entryFrame m #[(.int p0)] maxLocals)) t := fun t kt => pre137 _ (st138.trans kt)
    have pre140 : ∀ t, Steps p.tables e below (T138.setTop (mkF m 52 #[.val (.int p0), .val (.int (2 : Int32)), .val (.ref a_YES), .val (.ref a_NO), .val (.ref a_NO)] [(.int (1 : Int32))])) t → Steps p.tables e below (s₁.setTop (entryFrame m #[(.int p0)] maxLocals)) t := fun t kt => by
      refine pre139 _ ?_
      show Steps p.tables e below (T138.setTop (mkF m 43 #[.val (.int p0), .val (.int (2 : Int32)), .val (.ref a_YES), .val (.ref a_NO), .val (.ref a_NO)] [(.ref a_YES)])) _
      refine XS.aloadN X138.here hx rfl (hb hby at_43) rfl rfl ?_
      show Steps p.tables e below (T138.setTop (mkF m 44 #[.val (.int p0), .val (.int (2 : Int32)), .val (.ref a_YES), .val (.ref a_NO), .val (.ref a_NO)] [(.ref a_YES), (.ref a_YES)])) _
      refine Jvm.RoadKit.acmp (g := (mkF m 44 #[.val (.int p0), .val (.int (2 : Int32)), .val (.ref a_YES), .val (.ref a_NO), .val (.ref a_NO)] [(.ref a_YES), (.ref a_YES)])) X138 hx rfl rfl rfl (pc0 := 44) (pc' := 47) (same := true) rfl (hb hby at_44) rfl (decide_eq_true rfl) (by decide) (by decide) ?_
      show Steps p.tables e below (T138.setTop (mkF m 47 #[.val (.int p0), .val (.int (2 : Int32)), .val (.ref a_YES), .val (.ref a_NO), .val (.ref a_NO)] [])) _
      refine XS.iconst X138.here hx rfl (hb hby at_47) ?_
      show Steps p.tables e below (T138.setTop (mkF m 48 #[.val (.int p0), .val (.int (2 : Int32)), .val (.ref a_YES), .val (.ref a_NO), .val (.ref a_NO)] [(.int (1 : Int32))])) _
      refine XS.goto X138.here hx rfl (pc0 := 48) (pc' := 52) rfl (hb hby at_48) (by decide) (by decide) ?_
      exact kt
    obtain ⟨fs, hr, hrun, hended, hW, hsame⟩ := X138.leave (v := some (.int (1 : Int32))) (fun h => by rw [Bd.returns] at h; cases h)
    refine ⟨_, _, pre140 _ (retN X138 hx (t := .boolean) Bd.returns (by simp) (hb hby at_52) hr), hrun, hended, _, _, rfl, ?_, ⟨_, rfl⟩, hW, hsame.mono (by decide) (by decide)⟩
    show Q_law Z p0 a_NO a_YES a_UNKNOWN a_MOD h0 n0 _ T138.heap _
    rw [e138]
    exact ⟨rfl, N138⟩
  · rw [hv2] at pre1
    have pre141 : ∀ t, Steps p.tables e below (s₁.setTop (mkF m 5 #[.val (.int p0), .val (.int (3 : Int32)), .unset, .unset, .unset] [(.int (3 : Int32))])) t → Steps p.tables e below (s₁.setTop (entryFrame m #[(.int p0)] maxLocals)) t := fun t kt => by
      refine pre1 _ ?_
      show Steps p.tables e below (s₁.setTop (mkF m 3 #[.val (.int p0), .unset, .unset, .unset, .unset] [(.int (3 : Int32))])) _
      refine XS.istoreN X0.here hx rfl (hb hby at_3) rfl (l' := #[.val (.int p0), .val (.int (3 : Int32)), .unset, .unset, .unset]) rfl ?_
      show Steps p.tables e below (s₁.setTop (mkF m 4 #[.val (.int p0), .val (.int (3 : Int32)), .unset, .unset, .unset] [])) _
      refine XS.iloadN X0.here hx rfl (hb hby at_4) rfl ?_
      exact kt
    obtain ⟨_, _, ⟨T142, L142, k142, n142⟩, -, X142, ⟨Lc142, hQ142, l142, y142, z142⟩, st142⟩ := Jvm.LawKit.callS X0 hx (y := (⟨"com/example/optlint/optlint/TristateNotPinLaw", "pick", "(I)Lcom/example/optlint/optlint/Tristate;"⟩ : MethodName)) hown (mvT hZ (hw _ (List.mem_of_getElem? (i := 0) rfl))) (mvT hZ (hw _ (List.mem_of_getElem? (i := 1) rfl))) (mvT hZ (hw _ (List.mem_of_getElem? (i := 2) rfl))) (mvT hZ (hw _ (List.mem_of_getElem? (i := 3) rfl))) (by decide) (backOf (W := 0) (rm_pick1_3 l Z a0 hw [] a_UNKNOWN h0 n0 O0 G4) hZ (hw _ (List.mem_of_getElem? (i := 3) rfl)) (hw _ (List.mem_of_getElem? (i := 2) rfl)) (by decide) (by decide)) (g := (mkF m 5 #[.val (.int p0), .val (.int (3 : Int32)), .unset, .unset, .unset] [(.int (3 : Int32))])) rfl (by rw [hml]; rfl) (argsL := [(.int (3 : Int32))]) (rest := []) (lenOf pd_3 rfl) rfl (by show 2 * 0 + _ ≤ _; exact Nat.le_of_eq rfl) (hb hby at_5) (fun _ _ => ⟨rfl, e0, (by decide : 0 + 0 ≤ _), (by decide : 0 + 0 ≤ _)⟩)
    dsimp only [Pt.U, Pt.locs, Pt.cells, Pt.slots] at X142 l142 y142 z142 st142 hQ142
    subst l142 y142 z142
    obtain ⟨rfl, M142, e142⟩ := hQ142
    have N142 := Fr.app N0 M142
    have pre152 : ∀ t, Steps p.tables e below (T142.setTop (mkF m 8 #[.val (.int p0), .val (.int (3 : Int32)), .unset, .unset, .unset] [(.ref a_UNKNOWN)])) t → Steps p.tables e below (s₁.setTop (entryFrame m #[(.int p0)] maxLocals)) t := fun t kt => pre141 _ (st142 _ kt)
    have pre153 : ∀ t, Steps p.tables e below (T142.setTop (mkF m 10 #[.val (.int p0), .val (.int (3 : Int32)), .val (.ref a_UNKNOWN), .unset, .unset] [(.ref a_UNKNOWN)])) t → Steps p.tables e below (s₁.setTop (entryFrame m #[(.int p0)] maxLocals)) t := fun t kt => by
      refine pre152 _ ?_
      show Steps p.tables e below (T142.setTop (mkF m 8 #[.val (.int p0), .val (.int (3 : Int32)), .unset, .unset, .unset] [(.ref a_UNKNOWN)])) _
      refine XS.astoreN X142.here hx rfl (hb hby at_8) rfl rfl (l' := #[.val (.int p0), .val (.int (3 : Int32)), .val (.ref a_UNKNOWN), .unset, .unset]) rfl ?_
      show Steps p.tables e below (T142.setTop (mkF m 9 #[.val (.int p0), .val (.int (3 : Int32)), .val (.ref a_UNKNOWN), .unset, .unset] [])) _
      refine XS.aloadN X142.here hx rfl (hb hby at_9) rfl rfl ?_
      exact kt
    obtain ⟨cq154, kq154, q154a, q154b, q154c⟩ := isOf hZ e142 (G5.ext O0.2)
    obtain ⟨_, _, ⟨T154, L154, k154, n154⟩, -, X154, ⟨Lc154, hQ154, l154, y154, z154⟩, st154⟩ := X142.virtualBack hx (y := (⟨"com/example/optlint/optlint/Tristate", "not", "()Lcom/example/optlint/optlint/Tristate;"⟩ : MethodName)) (z := (⟨"com/example/optlint/optlint/Tristate", "not", "()Lcom/example/optlint/optlint/Tristate;"⟩ : MethodName)) hown (mvT hZ (hw _ (List.mem_of_getElem? (i := 7) rfl))) (mvT hZ (hw _ (List.mem_of_getElem? (i := 8) rfl))) (notFace_of_selects (args := #[]) (mvT hZ (hw _ (List.mem_of_getElem? (i := 10) rfl)))) (mvT hZ (hw _ (List.mem_of_getElem? (i := 10) rfl))) (mvT hZ (hw _ (List.mem_of_getElem? (i := 9) rfl))) (by decide) (backOf (W := 0) (rm_not2_2 l Z a0 hw [] a_UNKNOWN a_NO a_YES h0 n0 O0 G0 G2 (fun q => ne_a_YES_a_UNKNOWN q.symm) (fun q => ne_a_NO_a_UNKNOWN q.symm)) hZ (hw _ (List.mem_of_getElem? (i := 11) rfl)) (hw _ (List.mem_of_getElem? (i := 5) rfl)) (by decide) (by decide)) q154a q154c (g := (mkF m 10 #[.val (.int p0), .val (.int (3 : Int32)), .val (.ref a_UNKNOWN), .unset, .unset] [(.ref a_UNKNOWN)])) rfl (by rw [hml]; rfl) (Steps.refl _) (argsL := []) (rest := []) (lenOf pd_6 rfl) rfl (by show 2 * 0 + _ ≤ _; exact Nat.le_of_eq rfl) (hb hby at_10) (fun _ _ => ⟨rfl, e142, (by decide : 0 + 0 ≤ _), (by decide : 0 + 0 ≤ _)⟩)
    dsimp only [Pt.U, Pt.locs, Pt.cells, Pt.slots] at X154 l154 y154 z154 st154 hQ154
    subst l154 y154 z154
    obtain ⟨rfl, M154, e154⟩ := hQ154
    have N154 := Fr.app N142 M154
    have pre155 : ∀ t, Steps p.tables e below (T154.setTop (mkF m 13 #[.val (.int p0), .val (.int (3 : Int32)), .val (.ref a_UNKNOWN), .unset, .unset] [(.ref a_UNKNOWN)])) t → Steps p.tables e below (s₁.setTop (entryFrame m #[(.int p0)] maxLocals)) t := fun t kt => pre153 _ (st154.trans kt)
    have pre156 : ∀ t, Steps p.tables e below (T154.setTop (mkF m 19 #[.val (.int p0), .val (.int (3 : Int32)), .val (.ref a_UNKNOWN), .val (.ref a_UNKNOWN), .unset] [])) t → Steps p.tables e below (s₁.setTop (entryFrame m #[(.int p0)] maxLocals)) t := fun t kt => by
      refine pre155 _ ?_
      show Steps p.tables e below (T154.setTop (mkF m 13 #[.val (.int p0), .val (.int (3 : Int32)), .val (.ref a_UNKNOWN), .unset, .unset] [(.ref a_UNKNOWN)])) _
      refine XS.astoreN X154.here hx rfl (hb hby at_13) rfl rfl (l' := #[.val (.int p0), .val (.int (3 : Int32)), .val (.ref a_UNKNOWN), .val (.ref a_UNKNOWN), .unset]) rfl ?_
      show Steps p.tables e below (T154.setTop (mkF m 14 #[.val (.int p0), .val (.int (3 : Int32)), .val (.ref a_UNKNOWN), .val (.ref a_UNKNOWN), .unset] [])) _
      refine XS.iloadN X154.here hx rfl (hb hby at_14) rfl ?_
      show Steps p.tables e below (T154.setTop (mkF m 15 #[.val (.int p0), .val (.int (3 : Int32)), .val (.ref a_UNKNOWN), .val (.ref a_UNKNOWN), .unset] [(.int (3 : Int32))])) _
      refine XS.iconst X154.here hx rfl (hb hby at_15) ?_
      show Steps p.tables e below (T154.setTop (mkF m 16 #[.val (.int p0), .val (.int (3 : Int32)), .val (.ref a_UNKNOWN), .val (.ref a_UNKNOWN), .unset] [(.int (3 : Int32)), (.int (3 : Int32))])) _
      refine XS.icmpNo X154.here hx rfl (hb hby at_16) rfl (XT.ii_ne_f (by decide)) ?_
      exact kt
    obtain ⟨T157, X157, e157, st157⟩ := getS2 X154 hx hZ hown (host := "") (Or.inl (hw _ (List.mem_of_getElem? (i := 16) rfl))) Via.refl e154 (G4.ext O0.2) (g := (mkF m 19 #[.val (.int p0), .val (.int (3 : Int32)), .val (.ref a_UNKNOWN), .val (.ref a_UNKNOWN), .unset] [])) rfl (hb hby at_19)
    have pre158 : ∀ t, Steps p.tables e below (T157.setTop (mkF m 22 #[.val (.int p0), .val (.int (3 : Int32)), .val (.ref a_UNKNOWN), .val (.ref a_UNKNOWN), .unset] [(.ref a_UNKNOWN)])) t → Steps p.tables e below (s₁.setTop (entryFrame m #[(.int p0)] maxLocals)) t := fun t kt => pre156 _ (st157 _ kt)
    have pre159 : ∀ t, Steps p.tables e below (T157.setTop (mkF m 40 #[.val (.int p0), .val (.int (3 : Int32)), .val (.ref a_UNKNOWN), .val (.ref a_UNKNOWN), .val (.ref a_UNKNOWN)] [(.ref a_UNKNOWN)])) t → Steps p.tables e below (s₁.setTop (entryFrame m #[(.int p0)] maxLocals)) t := fun t kt => by
      refine pre158 _ ?_
      show Steps p.tables e below (T157.setTop (mkF m 22 #[.val (.int p0), .val (.int (3 : Int32)), .val (.ref a_UNKNOWN), .val (.ref a_UNKNOWN), .unset] [(.ref a_UNKNOWN)])) _
      refine XS.goto X157.here hx rfl (pc0 := 22) (pc' := 31) rfl (hb hby at_22) (by decide) (by decide) ?_
      show Steps p.tables e below (T157.setTop (mkF m 31 #[.val (.int p0), .val (.int (3 : Int32)), .val (.ref a_UNKNOWN), .val (.ref a_UNKNOWN), .unset] [(.ref a_UNKNOWN)])) _
      refine XS.astore X157.here hx rfl (hb hby at_31) rfl rfl (l' := #[.val (.int p0), .val (.int (3 : Int32)), .val (.ref a_UNKNOWN), .val (.ref a_UNKNOWN), .val (.ref a_UNKNOWN)]) rfl ?_
      show Steps p.tables e below (T157.setTop (mkF m 33 #[.val (.int p0), .val (.int (3 : Int32)), .val (.ref a_UNKNOWN), .val (.ref a_UNKNOWN), .val (.ref a_UNKNOWN)] [])) _
      refine XS.aloadN X157.here hx rfl (hb hby at_33) rfl rfl ?_
      show Steps p.tables e below (T157.setTop (mkF m 34 #[.val (.int p0), .val (.int (3 : Int32)), .val (.ref a_UNKNOWN), .val (.ref a_UNKNOWN), .val (.ref a_UNKNOWN)] [(.ref a_UNKNOWN)])) _
      refine XS.aload X157.here hx rfl (hb hby at_34) rfl rfl ?_
      show Steps p.tables e below (T157.setTop (mkF m 36 #[.val (.int p0), .val (.int (3 : Int32)), .val (.ref a_UNKNOWN), .val (.ref a_UNKNOWN), .val (.ref a_UNKNOWN)] [(.ref a_UNKNOWN), (.ref a_UNKNOWN)])) _
      refine Jvm.RoadKit.acmp (g := (mkF m 36 #[.val (.int p0), .val (.int (3 : Int32)), .val (.ref a_UNKNOWN), .val (.ref a_UNKNOWN), .val (.ref a_UNKNOWN)] [(.ref a_UNKNOWN), (.ref a_UNKNOWN)])) X157 hx rfl rfl rfl (pc0 := 36) (pc' := 39) (same := true) rfl (hb hby at_36) rfl (decide_eq_true rfl) (by decide) (by decide) ?_
      show Steps p.tables e below (T157.setTop (mkF m 39 #[.val (.int p0), .val (.int (3 : Int32)), .val (.ref a_UNKNOWN), .val (.ref a_UNKNOWN), .val (.ref a_UNKNOWN)] [])) _
      refine XS.aloadN X157.here hx rfl (hb hby at_39) rfl rfl ?_
      exact kt
    obtain ⟨cq160, kq160, q160a, q160b, q160c⟩ := isOf hZ e157 (G5.ext O0.2)
    obtain ⟨_, _, ⟨T160, L160, k160, n160⟩, -, X160, ⟨Lc160, hQ160, l160, y160, z160⟩, st160⟩ := X157.virtualBack hx (y := (⟨"com/example/optlint/optlint/Tristate", "not", "()Lcom/example/optlint/optlint/Tristate;"⟩ : MethodName)) (z := (⟨"com/example/optlint/optlint/Tristate", "not", "()Lcom/example/optlint/optlint/Tristate;"⟩ : MethodName)) hown (mvT hZ (hw _ (List.mem_of_getElem? (i := 7) rfl))) (mvT hZ (hw _ (List.mem_of_getElem? (i := 8) rfl))) (notFace_of_selects (args := #[]) (mvT hZ (hw _ (List.mem_of_getElem? (i := 10) rfl)))) (mvT hZ (hw _ (List.mem_of_getElem? (i := 10) rfl))) (mvT hZ (hw _ (List.mem_of_getElem? (i := 9) rfl))) (by decide) (backOf (W := 0) (rm_not2_2 l Z a0 hw [] a_UNKNOWN a_NO a_YES h0 n0 O0 G0 G2 (fun q => ne_a_YES_a_UNKNOWN q.symm) (fun q => ne_a_NO_a_UNKNOWN q.symm)) hZ (hw _ (List.mem_of_getElem? (i := 11) rfl)) (hw _ (List.mem_of_getElem? (i := 5) rfl)) (by decide) (by decide)) q160a q160c (g := (mkF m 40 #[.val (.int p0), .val (.int (3 : Int32)), .val (.ref a_UNKNOWN), .val (.ref a_UNKNOWN), .val (.ref a_UNKNOWN)] [(.ref a_UNKNOWN)])) rfl (by rw [hml]; rfl) (Steps.refl _) (argsL := []) (rest := []) (lenOf pd_6 rfl) rfl (by show 2 * 0 + _ ≤ _; exact Nat.le_of_eq rfl) (hb hby at_40) (fun _ _ => ⟨rfl, e157, (by decide : 0 + 0 ≤ _), (by decide : 0 + 0 ≤ _)⟩)
    dsimp only [Pt.U, Pt.locs, Pt.cells, Pt.slots] at X160 l160 y160 z160 st160 hQ160
    subst l160 y160 z160
    obtain ⟨rfl, M160, e160⟩ := hQ160
    have N160 := Fr.app N154 M160
    have pre161 : ∀ t, Steps p.tables e below (T160.setTop (mkF m 43 #[.val (.int p0), .val (.int (3 : Int32)), .val (.ref a_UNKNOWN), .val (.ref a_UNKNOWN), .val (.ref a_UNKNOWN)] [(.ref a_UNKNOWN)])) t → Steps p.tables e below (s₁.setTop (entryFrame m #[(.int p0)] maxLocals)) t := fun t kt => pre159 _ (st160.trans kt)
    have pre162 : ∀ t, Steps p.tables e below (T160.setTop (mkF m 52 #[.val (.int p0), .val (.int (3 : Int32)), .val (.ref a_UNKNOWN), .val (.ref a_UNKNOWN), .val (.ref a_UNKNOWN)] [(.int (1 : Int32))])) t → Steps p.tables e below (s₁.setTop (entryFrame m #[(.int p0)] maxLocals)) t := fun t kt => by
      refine pre161 _ ?_
      show Steps p.tables e below (T160.setTop (mkF m 43 #[.val (.int p0), .val (.int (3 : Int32)), .val (.ref a_UNKNOWN), .val (.ref a_UNKNOWN), .val (.ref a_UNKNOWN)] [(.ref a_UNKNOWN)])) _
      refine XS.aloadN X160.here hx rfl (hb hby at_43) rfl rfl ?_
      show Steps p.tables e below (T160.setTop (mkF m 44 #[.val (.int p0), .val (.int (3 : Int32)), .val (.ref a_UNKNOWN), .val (.ref a_UNKNOWN), .val (.ref a_UNKNOWN)] [(.ref a_UNKNOWN), (.ref a_UNKNOWN)])) _
      refine Jvm.RoadKit.acmp (g := (mkF m 44 #[.val (.int p0), .val (.int (3 : Int32)), .val (.ref a_UNKNOWN), .val (.ref a_UNKNOWN), .val (.ref a_UNKNOWN)] [(.ref a_UNKNOWN), (.ref a_UNKNOWN)])) X160 hx rfl rfl rfl (pc0 := 44) (pc' := 47) (same := true) rfl (hb hby at_44) rfl (decide_eq_true rfl) (by decide) (by decide) ?_
      show Steps p.tables e below (T160.setTop (mkF m 47 #[.val (.int p0), .val (.int (3 : Int32)), .val (.ref a_UNKNOWN), .val (.ref a_UNKNOWN), .val (.ref a_UNKNOWN)] [])) _
      refine XS.iconst X160.here hx rfl (hb hby at_47) ?_
      show Steps p.tables e below (T160.setTop (mkF m 48 #[.val (.int p0), .val (.int (3 : Int32)), .val (.ref a_UNKNOWN), .val (.ref a_UNKNOWN), .val (.ref a_UNKNOWN)] [(.int (1 : Int32))])) _
      refine XS.goto X160.here hx rfl (pc0 := 48) (pc' := 52) rfl (hb hby at_48) (by decide) (by decide) ?_
      exact kt
    obtain ⟨fs, hr, hrun, hended, hW, hsame⟩ := X160.leave (v := some (.int (1 : Int32))) (fun h => by rw [Bd.returns] at h; cases h)
    refine ⟨_, _, pre162 _ (retN X160 hx (t := .boolean) Bd.returns (by simp) (hb hby at_52) hr), hrun, hended, _, _, rfl, ?_, ⟨_, rfl⟩, hW, hsame.mono (by decide) (by decide)⟩
    show Q_law Z p0 a_NO a_YES a_UNKNOWN a_MOD h0 n0 _ T160.heap _
    rw [e160]
    exact ⟨rfl, N160⟩
set_option maxRecDepth 65536 in
set_option maxHeartbeats 40000000 in
theorem comes_1 {Post : Tables → Env → Array Value → State → Outcome → State → Prop} (hpost : ∀ tb e args s v u, (limb_1_1.after args s (.returned v) u = true ∧ limb_1_2.after args s (.returned v) u = true ∧ True) → FrameEnd s (.returned v) u (Jvm.fieldLocs frame_1_writes args s ++ Jvm.arrayLocs frame_1_arrays args s ++ Jvm.staticLocs frame_1_statics s) 0 0 → Post tb e args s (.returned v) u) :
    ArmFor flags0 classFile x code maxLocals ret World_1 tables_1 room_1 Calls_1 rest_1 Pre_1 Post := by
  intro l hfl _ _ p e ha hc hk s m args below hf hA hF happ hP
  obtain ⟨hcalls, hrest, hpre⟩ := hP
  obtain ⟨-, -, -, hnamed, -, -, -, hat⟩ := (Spec.applies_iff hf).mp happ
  obtain ⟨hg, hn⟩ := and_e (Cond.before_iff.mp (show (Jvm.Cond.and given_1 narrow_1).before args s = true from hpre))
  obtain ⟨given_1_2, given_1_3⟩ := and_e hg
  obtain ⟨narrow_1_2, narrow_1_3⟩ := and_e hn
  obtain ⟨narrow_1_4, narrow_1_5⟩ := and_e narrow_1_3
  obtain ⟨narrow_1_6, narrow_1_7⟩ := and_e narrow_1_5
  obtain ⟨narrow_1_8, narrow_1_9⟩ := and_e narrow_1_7
  obtain ⟨narrow_1_10, narrow_1_11⟩ := and_e narrow_1_9
  obtain ⟨narrow_1_12, narrow_1_13⟩ := and_e narrow_1_11
  obtain ⟨narrow_1_14, narrow_1_15⟩ := and_e narrow_1_13
  obtain ⟨w0, rfl⟩ : ∃ w0 : Value, args = #[w0] := by
    have hs : args.size = 1 := by simpa [Cond.value, given_1] using given_1_2
    obtain ⟨L⟩ := args
    match L, hs with
    | [w0], _ => exact ⟨w0, rfl⟩
  have hw := fun d (hd : d ∈ tables_1) => atoms_spec (ws := Jvm.Cond.code x code maxLocals ret :: tables_1) hat d (List.mem_cons_of_mem _ hd)
  have hfit : Fit s := fun {y c} hc i hi => by
    obtain ⟨ha, rfl⟩ := Array.getElem?_eq_some_iff.mp hc
    have q := List.all_eq_true.mp ((Array.all_eq_true_iff_forall_mem.mp hF) _ (Array.getElem_mem ha)) i (List.mem_range.mpr hi)
    simpa [Array.getElem?_eq_getElem hi] using q
  obtain ⟨i0, ei0⟩ := is_v given_1_3
  obtain rfl : w0 = (.int i0) := Option.some.inj ei0
  obtain ⟨a_NO, ev_NO⟩ := exa_v narrow_1_2
  have S_NO : Sta s s.heap "com/example/optlint/optlint/Tristate" "NO" "Lcom/example/optlint/optlint/Tristate;" (.ref a_NO) := Sta.start ev_NO (Or.inr ⟨(hw _ (List.mem_of_getElem? (i := 5) rfl)), (hw _ (List.mem_of_getElem? (i := 6) rfl))⟩)
  have E_NO : Exa s s.heap a_NO "com/example/optlint/optlint/Tristate" := Exa.start ev_NO narrow_1_2
  obtain ⟨a_YES, ev_YES⟩ := exa_v narrow_1_4
  have S_YES : Sta s s.heap "com/example/optlint/optlint/Tristate" "YES" "Lcom/example/optlint/optlint/Tristate;" (.ref a_YES) := Sta.start ev_YES (Or.inr ⟨(hw _ (List.mem_of_getElem? (i := 5) rfl)), (hw _ (List.mem_of_getElem? (i := 14) rfl))⟩)
  have E_YES : Exa s s.heap a_YES "com/example/optlint/optlint/Tristate" := Exa.start ev_YES narrow_1_4
  obtain ⟨a_UNKNOWN, ev_UNKNOWN⟩ := exa_v narrow_1_10
  have S_UNKNOWN : Sta s s.heap "com/example/optlint/optlint/Tristate" "UNKNOWN" "Lcom/example/optlint/optlint/Tristate;" (.ref a_UNKNOWN) := Sta.start ev_UNKNOWN (Or.inr ⟨(hw _ (List.mem_of_getElem? (i := 5) rfl)), (hw _ (List.mem_of_getElem? (i := 17) rfl))⟩)
  have E_UNKNOWN : Exa s s.heap a_UNKNOWN "com/example/optlint/optlint/Tristate" := Exa.start ev_UNKNOWN narrow_1_10
  obtain ⟨a_MOD, ev_MOD⟩ := exa_v narrow_1_14
  have S_MOD : Sta s s.heap "com/example/optlint/optlint/Tristate" "MOD" "Lcom/example/optlint/optlint/Tristate;" (.ref a_MOD) := Sta.start ev_MOD (Or.inr ⟨(hw _ (List.mem_of_getElem? (i := 5) rfl)), (hw _ (List.mem_of_getElem? (i := 19) rfl))⟩)
  have E_MOD : Exa s s.heap a_MOD "com/example/optlint/optlint/Tristate" := Exa.start ev_MOD narrow_1_14
  have P_YES_ordinal : Fld s s.heap a_YES "java/lang/Enum" "ordinal" "I" (.int (2 : Int32)) := own_fldI ev_YES narrow_1_6
  have P_NO_ordinal : Fld s s.heap a_NO "java/lang/Enum" "ordinal" "I" (.int (0 : Int32)) := own_fldI ev_NO narrow_1_8
  have P_UNKNOWN_ordinal : Fld s s.heap a_UNKNOWN "java/lang/Enum" "ordinal" "I" (.int (3 : Int32)) := own_fldI ev_UNKNOWN narrow_1_12
  have P_MOD_ordinal : Fld s s.heap a_MOD "java/lang/Enum" "ordinal" "I" (.int (1 : Int32)) := own_fldI ev_MOD narrow_1_15
  obtain ⟨n, o, h1, h2, h3, _, L, rfl, ⟨rfl, N⟩, hq⟩ := rm_law l s _ hw tables_1 i0 a_NO a_YES a_UNKNOWN a_MOD s.heap s.heap.size (Old.start s) S_NO E_NO S_YES E_YES S_UNKNOWN E_UNKNOWN S_MOD E_MOD P_YES_ordinal P_NO_ordinal P_UNKNOWN_ordinal P_MOD_ordinal p e ha hc hk s m _ below hf ((Spec.applies_iff_loose hf).mp happ).1 ⟨rfl, State.Warmed39.refl s, rfl⟩ trivial
  refine ⟨n, _, h1, h2, h3, hpost _ _ _ _ _ _ ⟨Cond.after_iff.mpr rfl, Cond.after_iff.mpr (eq_i res_at (Term.int_eval (1)) rfl), trivial⟩ ⟨hq.1, hq.2.1, (hq.2.2.sift fun y hy => Or.inr (N y hy)).mono (by decide) (by decide)⟩⟩
theorem main_1_1 : Claimed_1_1 := comes_1 fun _ _ _ _ _ _ h hF => ⟨h.1, hF⟩
theorem main_1_2 : Claimed_1_2 := comes_1 fun _ _ _ _ _ _ h hF => ⟨h.2.1, hF⟩
end Jvm.Pilot.@@N@@
namespace Jvm.Pilot.@@N@@
open Jvm Jvm.ClassFile Sem Op Lib Jvm.Free Jvm.Stand Jvm.Pilot.@@N@@.Jvm.D
/-! MADE BY PROGRAM (witnessworld.py) out of the Statement's table words and the real class files: 10 classes; the members and pool entries that the words name. The judged class is class 1, her method 2. -/
namespace start1
open Jvm.ClassFile
def u (s : String) : CpInfo := .utf8 (stringToUtf16 s)
/-- a pool by its gaps: so many unusable entries, then the entry; so many at the end -/
def gap : Nat → List CpInfo → List CpInfo
  | 0, r => r
  | n + 1, r => .unusable :: gap n r
def poolList (es : List (Nat × CpInfo)) (last : Nat) : List CpInfo := es.foldr (fun e r => gap e.1 (e.2 :: r)) (gap last [])
def pool (es : List (Nat × CpInfo)) (last : Nat) : Array CpInfo := ⟨poolList es last⟩
def fileOf (pool : Array CpInfo) (this : Nat) (attrs : Array Attribute := #[]) (ms : Array MethodInfo := #[]) (fl : Nat := 33) (sup : Nat := 0) (ifs : Array Nat := #[]) (fds : Array FieldInfo := #[]) : ClassFile where
  minorVersion := 0
  majorVersion := 65
  constantPool := pool
  accessFlags := fl
  thisClass := this
  superClass := sup
  interfaces := ifs
  fields := fds
  methods := ms
  attributes := attrs
def plain (name : String) (sup : Option ClassId) : Class where
  name := name
  kind := .ordinary
  loader := none
  accessFlags := 33
  super := sup
  interfaces := #[]
  cf := none
  fields := #[]
  methods := #[]
  instanceTypes := #[]
  staticTypes := #[]
  resolved := #[]
  callSites := []
  init := .initialized
  statics := none
  mirror := none

def pool0 : Array CpInfo := pool [(5, u "<init>"), (0, u "()V"), (1, .class_ 10), (1, u "java/lang/Object")] 113

def k0m0 : Method := { name := "<init>", desc := "()V", sig := { parameters := [], returnType := none }, accessFlags := 1, code := none }
/-- java/lang/Object -/
def k0 : Class := { plain "java/lang/Object" none with
  accessFlags := 33
  interfaces := #[]
  cf := some (fileOf pool0 8 #[] #[{ accessFlags := 1, nameIndex := 5, descriptorIndex := 6, attributes := #[] }] 33 0 #[] #[])
  fields := #[]
  methods := #[k0m0]
  instanceTypes := #[]
  staticTypes := #[]
  resolved := Array.replicate 124 none
  statics := none }

def pool1 : Array CpInfo := pool [(2, .class_ 4), (1, u "java/lang/Object"), (0, u "<init>"), (0, u "()V"), (0, .fieldref 8 9), (0, .class_ 10), (0, .nameAndType 11 12), (0, u "com/example/optlint/optlint/Tristate"), (0, u "NO"), (0, u "Lcom/example/optlint/optlint/Tristate;"), (0, .fieldref 8 14), (0, .nameAndType 15 12), (0, u "MOD"), (0, .fieldref 8 17), (0, .nameAndType 18 12), (0, u "YES"), (0, .fieldref 8 20), (0, .nameAndType 21 12), (0, u "UNKNOWN"), (0, .methodref 23 24), (0, .class_ 25), (0, .nameAndType 26 27), (0, u "com/example/optlint/optlint/TristateNotPinLaw"), (0, u "pick"), (0, u "(I)Lcom/example/optlint/optlint/Tristate;"), (0, .methodref 8 29), (0, .nameAndType 30 31), (0, u "not"), (0, u "()Lcom/example/optlint/optlint/Tristate;"), (3, u "law"), (0, u "(I)Z")] 2

def k1m0 : Method := { name := "<init>", desc := "()V", sig := { parameters := [], returnType := none }, accessFlags := 1, code := none }
def k1c1 : Code := { maxStack := 2, maxLocals := 1, code := method_2_code, exceptionTable := #[], attributes := #[] }
def k1m1 : Method := { name := "pick", desc := "(I)Lcom/example/optlint/optlint/Tristate;", sig := { parameters := [.int], returnType := some (.object "com/example/optlint/optlint/Tristate") }, accessFlags := 10, code := some k1c1 }
def k1c2 : Code := { maxStack := 2, maxLocals := 5, code := code, exceptionTable := #[], attributes := #[] }
def k1m2 : Method := { name := "law", desc := "(I)Z", sig := { parameters := [.int], returnType := some .boolean }, accessFlags := 9, code := some k1c2 }
/-- com/example/optlint/optlint/TristateNotPinLaw -/
def k1 : Class := { plain "com/example/optlint/optlint/TristateNotPinLaw" (some 0) with
  accessFlags := 49
  interfaces := #[]
  cf := some (fileOf pool1 23 #[] #[{ accessFlags := 1, nameIndex := 5, descriptorIndex := 6, attributes := #[] }, { accessFlags := 10, nameIndex := 26, descriptorIndex := 27, attributes := #[] }, { accessFlags := 9, nameIndex := 35, descriptorIndex := 36, attributes := #[] }] 49 2 #[] #[])
  fields := #[]
  methods := #[k1m0, k1m1, k1m2]
  instanceTypes := #[]
  staticTypes := #[]
  resolved := Array.replicate 39 none
  statics := none }

def pool2 : Array CpInfo := pool [(1, .class_ 2), (0, u "java/lang/constant/Constable"), (0, .class_ 4), (0, u "java/lang/Object")] 6

/-- java/lang/constant/Constable -/
def k2 : Class := { plain "java/lang/constant/Constable" (some 0) with
  accessFlags := 1537
  interfaces := #[]
  cf := some (fileOf pool2 1 #[] #[] 1537 3 #[] #[])
  fields := #[]
  methods := #[]
  instanceTypes := #[]
  staticTypes := #[]
  resolved := Array.replicate 11 none
  statics := none }

def pool3 : Array CpInfo := pool [(1, .class_ 2), (0, u "java/lang/Comparable"), (0, .class_ 4), (0, u "java/lang/Object")] 7

/-- java/lang/Comparable -/
def k3 : Class := { plain "java/lang/Comparable" (some 0) with
  accessFlags := 1537
  interfaces := #[]
  cf := some (fileOf pool3 1 #[] #[] 1537 3 #[] #[])
  fields := #[]
  methods := #[]
  instanceTypes := #[]
  staticTypes := #[]
  resolved := Array.replicate 12 none
  statics := none }

def pool4 : Array CpInfo := pool [(1, .class_ 2), (0, u "java/io/Serializable"), (0, .class_ 4), (0, u "java/lang/Object")] 2

/-- java/io/Serializable -/
def k4 : Class := { plain "java/io/Serializable" (some 0) with
  accessFlags := 1537
  interfaces := #[]
  cf := some (fileOf pool4 1 #[] #[] 1537 3 #[] #[])
  fields := #[]
  methods := #[]
  instanceTypes := #[]
  staticTypes := #[]
  resolved := Array.replicate 7 none
  statics := none }

def pool5 : Array CpInfo := pool [(2, .class_ 4), (1, u "java/lang/Enum"), (0, u "name"), (0, u "Ljava/lang/String;"), (2, u "ordinal"), (0, u "I"), (1, .class_ 14), (1, u "java/lang/Object"), (4, u "hash"), (86, .class_ 108), (1, u "java/lang/Enum$EnumDesc"), (2, .class_ 112), (0, u "java/lang/constant/Constable"), (0, .class_ 114), (0, u "java/lang/Comparable"), (0, .class_ 116), (0, u "java/io/Serializable")] 87

/-- java/lang/Enum -/
def k5 : Class := { plain "java/lang/Enum" (some 0) with
  accessFlags := 1057
  interfaces := #[2, 3, 4]
  cf := some (fileOf pool5 2 #[.nestMembers #[106]] #[] 1057 12 #[111, 113, 115] #[{ accessFlags := 18, nameIndex := 5, descriptorIndex := 6, attributes := #[] }, { accessFlags := 18, nameIndex := 9, descriptorIndex := 10, attributes := #[] }, { accessFlags := 2, nameIndex := 19, descriptorIndex := 10, attributes := #[] }])
  fields := #[{ name := "name", type := (.object "java/lang/String"), accessFlags := 18, slot := 0, constantValue := 0 }, { name := "ordinal", type := .int, accessFlags := 18, slot := 1, constantValue := 0 }, { name := "hash", type := .int, accessFlags := 2, slot := 2, constantValue := 0 }]
  methods := #[]
  instanceTypes := #[(.object "java/lang/String"), .int, .int]
  staticTypes := #[]
  resolved := Array.replicate 204 none
  statics := none }

def pool6 : Array CpInfo := pool [(1, .class_ 2), (0, u "com/example/optlint/optlint/Tristate"), (0, .fieldref 1 4), (0, .nameAndType 5 6), (0, u "NO"), (0, u "Lcom/example/optlint/optlint/Tristate;"), (2, u "MOD"), (0, .fieldref 1 11), (0, .nameAndType 12 6), (0, u "YES"), (2, u "UNKNOWN"), (2, u "$VALUES"), (0, u "[Lcom/example/optlint/optlint/Tristate;"), (6, .class_ 28), (1, u "java/lang/Enum"), (8, u "text"), (0, u "Ljava/lang/String;"), (34, u "not"), (0, u "()Lcom/example/optlint/optlint/Tristate;")] 7

def k6c0 : Code := { maxStack := 2, maxLocals := 2, code := prog_85_method_6_code, exceptionTable := #[], attributes := #[] }
def k6m0 : Method := { name := "not", desc := "()Lcom/example/optlint/optlint/Tristate;", sig := { parameters := [], returnType := some (.object "com/example/optlint/optlint/Tristate") }, accessFlags := 0, code := some k6c0 }
/-- com/example/optlint/optlint/Tristate -/
def k6 : Class := { plain "com/example/optlint/optlint/Tristate" (some 5) with
  accessFlags := 16432
  interfaces := #[]
  cf := some (fileOf pool6 1 #[] #[{ accessFlags := 0, nameIndex := 73, descriptorIndex := 74, attributes := #[] }] 16432 26 #[] #[{ accessFlags := 16409, nameIndex := 5, descriptorIndex := 6, attributes := #[] }, { accessFlags := 16409, nameIndex := 9, descriptorIndex := 6, attributes := #[] }, { accessFlags := 16409, nameIndex := 12, descriptorIndex := 6, attributes := #[] }, { accessFlags := 16409, nameIndex := 15, descriptorIndex := 6, attributes := #[] }, { accessFlags := 18, nameIndex := 37, descriptorIndex := 38, attributes := #[] }, { accessFlags := 4122, nameIndex := 18, descriptorIndex := 19, attributes := #[] }])
  fields := #[{ name := "NO", type := (.object "com/example/optlint/optlint/Tristate"), accessFlags := 16409, slot := 0, constantValue := 0 }, { name := "MOD", type := (.object "com/example/optlint/optlint/Tristate"), accessFlags := 16409, slot := 1, constantValue := 0 }, { name := "YES", type := (.object "com/example/optlint/optlint/Tristate"), accessFlags := 16409, slot := 2, constantValue := 0 }, { name := "UNKNOWN", type := (.object "com/example/optlint/optlint/Tristate"), accessFlags := 16409, slot := 3, constantValue := 0 }, { name := "text", type := (.object "java/lang/String"), accessFlags := 18, slot := 3, constantValue := 0 }, { name := "$VALUES", type := (.array (.object "com/example/optlint/optlint/Tristate")), accessFlags := 4122, slot := 4, constantValue := 0 }]
  methods := #[k6m0]
  instanceTypes := #[(.object "java/lang/String"), .int, .int, (.object "java/lang/String")]
  staticTypes := #[(.object "com/example/optlint/optlint/Tristate"), (.object "com/example/optlint/optlint/Tristate"), (.object "com/example/optlint/optlint/Tristate"), (.object "com/example/optlint/optlint/Tristate"), (.array (.object "com/example/optlint/optlint/Tristate"))]
  resolved := Array.replicate 82 none
  statics := some 0 }

def pool7 : Array CpInfo := pool [(1, u "java/lang/Cloneable"), (0, .class_ 1), (0, u "java/lang/Object"), (0, .class_ 3)] 3

/-- java/lang/Cloneable -/
def k7 : Class := { plain "java/lang/Cloneable" (some 0) with
  accessFlags := 1537
  interfaces := #[]
  cf := some (fileOf pool7 2 #[] #[] 1537 4 #[] #[])
  fields := #[]
  methods := #[]
  instanceTypes := #[]
  staticTypes := #[]
  resolved := Array.replicate 8 none
  statics := none }

/-- the primitive byte -/
def k8 : Class := { plain "byte" none with kind := .primitive 'B', accessFlags := 0x411 }
/-- [B -/
def k9 : Class := { plain "[B" (some 0) with kind := .array 8 .byte, interfaces := #[7, 4], accessFlags := 1041 }

def heap : Heap := #[{ cls := 6, slots := #[.ref 1, .ref 4, .ref 2, .ref 3, .null], vm := .statics 6 },
  { cls := 6, slots := #[.null, .int 0, .int 0, .null], vm := .none },
  { cls := 6, slots := #[.null, .int 2, .int 0, .null], vm := .none },
  { cls := 6, slots := #[.null, .int 3, .int 0, .null], vm := .none },
  { cls := 6, slots := #[.null, .int 1, .int 0, .null], vm := .none }]
def classes : Array Class := #[k0, k1, k2, k3, k4, k5, k6, k7, k8, k9]
def interned : List (Array UInt16 × Addr) := []
def slotsUsed : Nat := 21
def theMethod : MethodId := ⟨1, 2⟩
def args0 : Array Value := #[.int 5]
def aboutOver (below : List Frame) : State where
  vm := { classes := classes, interned := interned.toArray }
  heap := heap
  slotsUsed := slotsUsed
  threads := #[{ frames := .invoking theMethod args0 :: below }]
def below0 : List Frame := [.native { method := ⟨0, 0⟩, args := #[] }]
def about1 : State := aboutOver below0
def p0 : Program := .bare "" "" ""
def e0 : Env := launch0.env 0 0 0
theorem w_frames : about1.frames = Frame.invoking theMethod args0 :: below0 := rfl
set_option maxRecDepth 65536 in
theorem w_args : argsFit about1.vm theMethod args0 = true := by decide +kernel
set_option maxRecDepth 65536 in
theorem w_heap : heapFits about1 = true := by decide +kernel
set_option maxRecDepth 65536 in
theorem w_runnable : about1.curStatus? = some .runnable := by decide +kernel
set_option maxRecDepth 65536 in
theorem w_alone : about1.alone = true := by decide +kernel
set_option maxRecDepth 65536 in
theorem w_named : about1.methodNamed? x = some theMethod := by decide +kernel
set_option maxRecDepth 65536 in
theorem w_hears : about1.hears theMethod below0 = true := by decide +kernel
set_option maxRecDepth 65536 in
theorem w_ripe : about1.ripe theMethod args0 below0 = true := by decide +kernel
theorem w_running : about1.status = .running := rfl
set_option maxRecDepth 65536 in
theorem w_room : about1.hasRoom e0.platform room_1 = true :=
  launch0.hasRoom_least _ room_1 (by decide +kernel) (by decide +kernel) (by decide +kernel) (by decide +kernel) (by decide +kernel) (by decide +kernel)
theorem allAtoms_all (ts : List Jvm.Cond) (a : Array Jvm.Value) (st : Jvm.State) : (allAtoms ts).before a st = ts.all (fun c => c.before a st) := by
  induction ts with
  | nil => rfl
  | cons c t ih =>
    show (Jvm.Cond.and c (allAtoms t)).before a st = _
    rw [Jvm.Cond.before_and, ih, List.all_cons]
def words1 : List Jvm.Cond := Jvm.Cond.code x code maxLocals ret :: tables_1
/-- a 'code' word, met by the world's own term for the bytes: nothing is compared byte by byte -/
theorem code_word {y : MethodName} {bytes : ByteArray} {mx : Nat} {rt : Option FieldType} {a : Array Value} {s : State} {m : MethodId} {meth : Method} {c : Code} (h1 : s.methodNamed? y = some m) (h2 : s.vm.method? m = some meth) (h3 : meth.code = some c) (h4 : c.code = bytes)
    (h5 : (c.maxLocals == mx && c.exceptionTable.isEmpty && decide (c.maxStack ≤ mostOperands) && decide (meth.sig.returnType = rt) && !meth.locks && decide (parseMethodDescriptor y.desc = some meth.sig)) = true) : (Jvm.Cond.code y bytes mx rt).before a s = true := by
  simp only [Bool.and_eq_true, beq_iff_eq, Bool.not_eq_true', decide_eq_true_eq] at h5
  obtain ⟨⟨⟨⟨⟨g1, g2⟩, g3⟩, g4⟩, g5⟩, g6⟩ := h5
  simp [Cond.before, Cond.holds, Cond.value, h1, h2, h3, h4, g1, g2, g3, g4, g5, g6]
def isCode : Jvm.Cond → Bool
  | .code _ _ _ _ => true
  | _ => false
theorem all_split {L : List Jvm.Cond} {P : Jvm.Cond → Bool} (h1 : L.all (fun c => isCode c || P c) = true) (h2 : ∀ c ∈ L.filter isCode, P c = true) : L.all P = true := by
  refine List.all_eq_true.mpr fun c hc => ?_
  have h := List.all_eq_true.mp h1 c hc
  rcases Bool.eq_false_or_eq_true (isCode c) with hi | hi
  · exact h2 c (List.mem_filter.mpr ⟨hc, hi⟩)
  · simpa [hi] using h
set_option maxRecDepth 65536 in
theorem w_c0 : (Jvm.Cond.code x code maxLocals ret).before args0 about1 = true := code_word (m := ⟨1, 2⟩) (meth := k1m2) (c := k1c2) (by decide +kernel) rfl rfl rfl (by decide +kernel)
set_option maxRecDepth 65536 in
theorem w_c1 : (Jvm.Cond.code ({ cls := "com/example/optlint/optlint/TristateNotPinLaw", name := "pick", desc := "(I)Lcom/example/optlint/optlint/Tristate;" } : Jvm.MethodName) method_2_code (1 : Nat) (Option.some (Jvm.ClassFile.FieldType.object "com/example/optlint/optlint/Tristate"))).before args0 about1 = true := code_word (m := ⟨1, 1⟩) (meth := k1m1) (c := k1c1) (by decide +kernel) rfl rfl rfl (by decide +kernel)
set_option maxRecDepth 65536 in
theorem w_c2 : (Jvm.Cond.code ({ cls := "com/example/optlint/optlint/Tristate", name := "not", desc := "()Lcom/example/optlint/optlint/Tristate;" } : Jvm.MethodName) prog_85_method_6_code (2 : Nat) (Option.some (Jvm.ClassFile.FieldType.object "com/example/optlint/optlint/Tristate"))).before args0 about1 = true := code_word (m := ⟨6, 0⟩) (meth := k6m0) (c := k6c0) (by decide +kernel) rfl rfl rfl (by decide +kernel)
def codes1 : List Jvm.Cond := [Jvm.Cond.code x code maxLocals ret, Jvm.Cond.code ({ cls := "com/example/optlint/optlint/TristateNotPinLaw", name := "pick", desc := "(I)Lcom/example/optlint/optlint/Tristate;" } : Jvm.MethodName) method_2_code (1 : Nat) (Option.some (Jvm.ClassFile.FieldType.object "com/example/optlint/optlint/Tristate")), Jvm.Cond.code ({ cls := "com/example/optlint/optlint/Tristate", name := "not", desc := "()Lcom/example/optlint/optlint/Tristate;" } : Jvm.MethodName) prog_85_method_6_code (2 : Nat) (Option.some (Jvm.ClassFile.FieldType.object "com/example/optlint/optlint/Tristate"))]
set_option maxRecDepth 65536 in
theorem codes_eq : words1.filter isCode = codes1 := rfl
theorem w_codes : ∀ c ∈ words1.filter isCode, c.before args0 about1 = true := by
  rw [codes_eq]
  intro c hc
  simp only [codes1, List.mem_cons, List.not_mem_nil, or_false] at hc
  rcases hc with rfl | rfl | rfl
  · exact w_c0
  · exact w_c1
  · exact w_c2
set_option maxRecDepth 65536 in
theorem w_t1 : words1.all (fun c => isCode c || c.before args0 about1) = true := by decide +kernel
theorem w_tables : (allAtoms (Jvm.Cond.code x code maxLocals ret :: tables_1)).before args0 about1 = true := by
  rw [allAtoms_all]
  show words1.all (fun c => c.before args0 about1) = true
  refine all_split ?_ w_codes
  rw [w_t1]
set_option maxRecDepth 65536 in
theorem w_case : (Jvm.Cond.and given_1 narrow_1).before args0 about1 = true := by decide +kernel
theorem w_applies : (headSpec (Jvm.Cond.code x code maxLocals ret :: tables_1) room_1).applies x e0.platform about1 = true :=
  (Spec.applies_iff w_frames).mpr ⟨w_running, w_runnable, w_alone, w_named, w_hears, w_ripe, w_room, w_tables⟩
theorem atStart : AtStart classFile x code maxLocals ret World_1 tables_1 room_1 Calls_1 rest_1 Pre_1 launch0 p0 e0 about1 theMethod args0 below0 :=
  ⟨lists_1, trivial, launch0.admits_env _ _ _, launch0.least_env, fairChoices_fair.cas, fairChoices_fair.clock, w_frames, w_args, w_heap, w_applies, trivial, trivial, w_case⟩
end start1
theorem witness_1 : WitnessClaimed_1 := ⟨start1.p0, start1.e0, start1.about1, start1.theMethod, start1.args0, start1.below0, start1.atStart⟩
end Jvm.Pilot.@@N@@
