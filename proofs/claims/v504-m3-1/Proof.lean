import JvmDerived
import JvmDerived.Pilot.@@N@@Statement
import JvmDerived.Pilot.@@N@@Code
set_option linter.unusedVariables false
set_option linter.unusedSimpArgs false
namespace Jvm.RoadKit
open Sem ClassFile Op Lib Jvm.Stand Jvm.Free Jvm.LawKit
section New
variable {p : Program} {l : Launch} {e : Env} {R : Room} {s : State} {m : MethodId} {args : Array Value} {below : List Frame} {meth : Method} {c : Code} {T : State} {locs : List Loc} {cells slots : Nat}
theorem retI (X : Stand p l e R s m args below meth c T locs cells slots) (hx : p.tables.exec = Jvm.exec) {pc : Nat} {Ls : Array Slot} {z : Int32} {rest : List Value} (hret : meth.sig.returnType = some .int) (hd : decode c.code pc = .ok (.ireturn, 1)) {fs : List Frame}
    (hl : ∀ (f : JFrame) (acts : List Action), f.method = m → f.locked = none → f.entered = [] → (doReturn e (T.setTop f) acts (some (.int z))).1 = T.setFrames fs) : Steps p.tables e below (T.setTop (mkF m pc Ls (.int z :: rest))) (T.setFrames fs) := by
  have hm' : T.vm.method? m = some meth := X.method'
  have hn : narrow .int (.int z) = .int z := rfl
  show Steps p.tables e below (T.setTop { method := m, pc := pc, locals := Ls, stack := _ :: rest, locked := none }) _
  jvm_step X.here [X.here.top, hx, hd, hm', hret, hn]
  first | (intro acts; rw [hl _ acts rfl rfl rfl]) | rw [hl _ _ rfl rfl rfl]
  exact Steps.refl _
end New
end Jvm.RoadKit
namespace Jvm.Pilot.@@N@@
open Jvm Jvm.ClassFile Sem Op Lib Jvm.Free Jvm.Stand Jvm.LawKit Jvm.RoadKit Bundle Jvm.Pilot.@@N@@.Jvm.D
theorem own_fld_ne {Z : State} {h : Heap} {a b : Addr} {C n d : String} {v w : Value} (F : Fld Z h a C n d v) (G : Fld Z h b C n d w) (q : v ≠ w) : a ≠ b := fun e => by
  subst e
  obtain ⟨c1, cf1, k1, i1, f1, a1, a2, -, -, -, -, a7⟩ := F
  obtain ⟨c2, cf2, k2, i2, f2, b1, b2, -, -, -, -, b7⟩ := G
  cases a1.symm.trans b1
  cases a2.symm.trans b2
  exact q (Option.some.inj (a7.symm.trans b7))
theorem own_fldI {args : Array Value} {s : State} {t : Term} {a : Addr} {C n d : String} {k : Int32} (ht : t.eval args s none [] s = some (.ref a)) (h : (Jvm.Cond.eq (Term.field t C n d) (Term.int k)).value args s none s [] = some true) : Fld s s.heap a C n d (.int k) := by
  apply Fld.start
  have e1 : (Term.field t C n d).eval args s none [] s = s.fieldOf? a C n d := fld_at ht
  have e2 : (Term.int k).eval args s none [] s = some (.int k) := Term.int_eval k
  simp only [Cond.value, e1, e2] at h
  split at h <;> simp_all
theorem own_nm0 {a : Addr} : a ∉ ([] : List Addr) := List.not_mem_nil
theorem own_nm1 {a x : Addr} (h : a ≠ x) : a ∉ [x] := fun q => h (List.mem_singleton.mp q)
theorem own_nm2 {a x y : Addr} (h : a ≠ x) (h2 : a ≠ y) : a ∉ [x, y] := fun q => by
  rcases List.mem_cons.mp q with q | q
  · exact h q
  · exact h2 (List.mem_singleton.mp q)
theorem own_nm3 {a x y z : Addr} (h : a ≠ x) (h2 : a ≠ y) (h3 : a ≠ z) : a ∉ [x, y, z] := fun q => by
  rcases List.mem_cons.mp q with q | q
  · exact h q
  · exact own_nm2 h2 h3 q
theorem own_all0 {P : Addr → Prop} : ∀ x ∈ ([] : List Addr), P x := fun x q => (List.not_mem_nil q).elim
theorem own_all1 {P : Addr → Prop} {a : Addr} (h : P a) : ∀ x ∈ [a], P x := fun x q => by rw [List.mem_singleton.mp q]; exact h
theorem own_all2 {P : Addr → Prop} {a b : Addr} (h : P a) (h2 : P b) : ∀ x ∈ [a, b], P x := fun x q => by
  rcases List.mem_cons.mp q with q | q
  · rw [q]; exact h
  · rw [List.mem_singleton.mp q]; exact h2
theorem own_all3 {P : Addr → Prop} {a b c : Addr} (h : P a) (h2 : P b) (h3 : P c) : ∀ x ∈ [a, b, c], P x := fun x q => by
  rcases List.mem_cons.mp q with q | q
  · rw [q]; exact h
  · exact own_all2 h2 h3 x q
theorem pn_0 : plainName "com/example/hemawire/hemawire/lis/PiecesPlusPinLaw" = true := by first | (simp [plainName, overriddenIn]; done) | decide +kernel
theorem ef_1 (m : MethodId) (x0 : Int32) (x1 : Int32) (x2 : Int32) (x3 : Int32) : entryFrame m #[(.int x0), (.int x1), (.int x2), (.int x3)] maxLocals = mkF m 0 #[.val (.int x0), .val (.int x1), .val (.int x2), .val (.int x3), .unset, .unset, .unset, .unset, .unset, .unset, .unset, .unset, .unset] [] := by first | (simp [entryFrame, mkF, argsToLocals, Value.category, maxLocals]; done) | rfl
theorem d1_0 : decode prog_24_method_1_code 0 = .ok (.aload_n 0, 1) := by decide +kernel
theorem d1_1 : decode prog_24_method_1_code 1 = .ok (.invokespecial 1, 3) := by decide +kernel
theorem d2_0 : decode jdk_30_method_1_code 0 = .ok (.aload_n 0, 1) := by decide +kernel
theorem d2_1 : decode jdk_30_method_1_code 1 = .ok (.invokespecial 1, 3) := by decide +kernel
theorem d2_4 : decode jdk_30_method_1_code 4 = .ok (.return_, 1) := by decide +kernel
theorem pn_2 : plainName "java/lang/Record" = true := by first | (simp [plainName, overriddenIn]; done) | decide +kernel
theorem ef_3 (m : MethodId) (x0 : Addr) : entryFrame m #[(.ref x0)] 1 = mkF m 0 #[.val (.ref x0)] [] := by first | (simp [entryFrame, mkF, argsToLocals, Value.category]; done) | rfl
def Q_init2_0 (Z : State) (b1 : Addr) (h0 : Heap) (n0 : Nat) (v : Option Value) (h : Heap) (L : List Loc) : Prop := v = none ∧ Fr n0 L ∧ h = h0
set_option maxRecDepth 65536 in
set_option maxHeartbeats 40000000 in
theorem rm_init2_0 (l : Launch) (Z : State) (a0 : Array Value) (hw : ∀ d ∈ tables_1, d.before a0 Z = true) (ws : List Jvm.Cond) (b1 : Addr) (h0 : Heap) (n0 : Nat) (O0 : Old Z n0 h0) :
    MetFree l (⟨"java/lang/Record", "<init>", "()V"⟩ : MethodName) (head1 (Jvm.Cond.code (⟨"java/lang/Record", "<init>", "()V"⟩ : MethodName) jdk_30_method_1_code 1 none :: ws) ({ frames := 1, cells := 0, slots := 0, locals := 12 } : Room)) (fun a U => a = #[(.ref b1)] ∧ Z.Warmed39 U.vm ∧ U.heap = h0) (fun _ _ _ _ _ => True) (fun _ U o U' => ∃ v L, o = .returned v ∧ Q_init2_0 Z b1 h0 n0 v U'.heap L ∧ FrameEnd U o U' L ({ frames := 1, cells := 0, slots := 0, locals := 12 } : Room).cells ({ frames := 1, cells := 0, slots := 0, locals := 12 } : Room).slots) := by
  refine MetFree.of_bodySF (plainFor_of_name pn_2) hisR ?_
  intro p e s m args below meth c s₁ Bd hml0 hP hK
  obtain ⟨rfl, hZ, hh⟩ := hP
  have hx := Bd.exec
  have hby := Bd.bytes
  have hml : c.maxLocals = 1 := hml0
  have hown : s.vm.findClass "java/lang/Record" = some m.cls := findClass_of_methodNamed Bd.named
  have hnm := (name_of_methodNamed Bd.named Bd.method).1
  have X0 : Stand p l e ({ frames := 1, cells := 0, slots := 0, locals := 12 } : Room) s m #[(.ref b1)] below meth c s₁ [] 0 0 := Stand.of_body Bd
  have e0 : s₁.heap = h0 := by rw [← hh, Bd.state]; rfl
  have N0 := Fr.nil n0
  have pre0 : ∀ t, Steps p.tables e below (s₁.setTop (mkF m 0 #[.val (.ref b1)] [])) t → Steps p.tables e below (s₁.setTop (entryFrame m #[(.ref b1)] 1)) t := fun t k => castTop (ef_3 m b1) k
  have K0 : Keep h0 h0 [] := Keep.refl h0 []
  have pre16 : ∀ t, Steps p.tables e below (s₁.setTop (mkF m 1 #[.val (.ref b1)] [(.ref b1)])) t → Steps p.tables e below (s₁.setTop (entryFrame m #[(.ref b1)] 1)) t := fun t kt => by
    refine pre0 _ ?_
    show Steps p.tables e below (s₁.setTop (mkF m 0 #[.val (.ref b1)] [])) _
    refine XS.aloadN X0.here hx rfl (hb hby d2_0) rfl rfl ?_
    exact kt
  obtain ⟨T17, X17, e17, st17⟩ := initO X0 hx hZ hown (hw _ (List.mem_of_getElem? (i := 11) rfl)) (hw _ (List.mem_of_getElem? (i := 12) rfl)) (hw _ (List.mem_of_getElem? (i := 13) rfl)) e0 (g := (mkF m 1 #[.val (.ref b1)] [(.ref b1)])) rfl (by rw [hml]; rfl) rfl (hb hby d2_1) (by decide) (W := 0) (by show 2 * 0 + _ ≤ _; exact Nat.le_of_eq rfl) (by decide)
  have pre18 : ∀ t, Steps p.tables e below (T17.setTop (mkF m 4 #[.val (.ref b1)] [])) t → Steps p.tables e below (s₁.setTop (entryFrame m #[(.ref b1)] 1)) t := fun t kt => pre16 _ (st17 _ kt)
  obtain ⟨fs, hr, hrun, hended, hW, hsame⟩ := X17.leave (v := none) (fun _ => rfl)
  refine ⟨_, _, pre18 _ (X17.returnOut hx Bd.returns (hb hby d2_4) hr), hrun, hended, _, _, rfl, ?_, ⟨_, rfl⟩, hW, hsame.mono (by decide) (by decide)⟩
  show Q_init2_0 Z b1 h0 n0 _ T17.heap _
  rw [e17]
  exact ⟨rfl, N0, rfl⟩
theorem pd_4 : parseMethodDescriptor "()V" = some ⟨[], none⟩ := by decide +kernel
theorem d1_4 : decode prog_24_method_1_code 4 = .ok (.aload_n 0, 1) := by decide +kernel
theorem d1_5 : decode prog_24_method_1_code 5 = .ok (.iload_n 1, 1) := by decide +kernel
theorem d1_6 : decode prog_24_method_1_code 6 = .ok (.putfield 7, 3) := by decide +kernel
theorem d1_9 : decode prog_24_method_1_code 9 = .ok (.aload_n 0, 1) := by decide +kernel
theorem d1_10 : decode prog_24_method_1_code 10 = .ok (.iload_n 2, 1) := by decide +kernel
theorem d1_11 : decode prog_24_method_1_code 11 = .ok (.putfield 13, 3) := by decide +kernel
theorem d1_14 : decode prog_24_method_1_code 14 = .ok (.return_, 1) := by decide +kernel
theorem pn_5 : plainName "com/example/hemawire/hemawire/lis/Delimiters$Pieces" = true := by first | (simp [plainName, overriddenIn]; done) | decide +kernel
theorem ef_6 (m : MethodId) (x0 : Addr) (x1 : Int32) (x2 : Int32) : entryFrame m #[(.ref x0), (.int x1), (.int x2)] 3 = mkF m 0 #[.val (.ref x0), .val (.int x1), .val (.int x2)] [] := by first | (simp [entryFrame, mkF, argsToLocals, Value.category]; done) | rfl
def Q_init1_0 (Z : State) (b1 : Addr) (p0 : Int32) (p1 : Int32) (h0 : Heap) (n0 : Nat) (v : Option Value) (h : Heap) (L : List Loc) : Prop := v = none ∧ Fr n0 L ∧ Keep h0 h [b1] ∧ Old Z n0 h ∧ Exa Z h b1 "com/example/hemawire/hemawire/lis/Delimiters$Pieces" ∧ Fld Z h b1 "com/example/hemawire/hemawire/lis/Delimiters$Pieces" "all" "I" (.int p0) ∧ Fld Z h b1 "com/example/hemawire/hemawire/lis/Delimiters$Pieces" "repeats" "I" (.int p1)
set_option maxRecDepth 65536 in
set_option maxHeartbeats 40000000 in
theorem rm_init1_0 (l : Launch) (Z : State) (a0 : Array Value) (hw : ∀ d ∈ tables_1, d.before a0 Z = true) (ws : List Jvm.Cond) (b1 : Addr) (p0 : Int32) (p1 : Int32) (h0 : Heap) (n0 : Nat) (O0 : Old Z n0 h0) (g_b1 : n0 ≤ b1) (Fi0 : Exa Z h0 b1 "com/example/hemawire/hemawire/lis/Delimiters$Pieces") (Fi1 : Fld Z h0 b1 "com/example/hemawire/hemawire/lis/Delimiters$Pieces" "all" "I" (.int (0 : Int32))) (Fi2 : Fld Z h0 b1 "com/example/hemawire/hemawire/lis/Delimiters$Pieces" "repeats" "I" (.int (0 : Int32))) :
    MetFree l (⟨"com/example/hemawire/hemawire/lis/Delimiters$Pieces", "<init>", "(II)V"⟩ : MethodName) (head1 (Jvm.Cond.code (⟨"com/example/hemawire/hemawire/lis/Delimiters$Pieces", "<init>", "(II)V"⟩ : MethodName) prog_24_method_1_code 3 none :: ws) ({ frames := 2, cells := 0, slots := 0, locals := 24 } : Room)) (fun a U => a = #[(.ref b1), (.int p0), (.int p1)] ∧ Z.Warmed39 U.vm ∧ U.heap = h0) (fun _ _ _ _ _ => True) (fun _ U o U' => ∃ v L, o = .returned v ∧ Q_init1_0 Z b1 p0 p1 h0 n0 v U'.heap L ∧ FrameEnd U o U' L ({ frames := 2, cells := 0, slots := 0, locals := 24 } : Room).cells ({ frames := 2, cells := 0, slots := 0, locals := 24 } : Room).slots) := by
  refine MetFree.of_bodySF (plainFor_of_name pn_5) hisR ?_
  intro p e s m args below meth c s₁ Bd hml0 hP hK
  obtain ⟨rfl, hZ, hh⟩ := hP
  have hx := Bd.exec
  have hby := Bd.bytes
  have hml : c.maxLocals = 3 := hml0
  have hown : s.vm.findClass "com/example/hemawire/hemawire/lis/Delimiters$Pieces" = some m.cls := findClass_of_methodNamed Bd.named
  have hnm := (name_of_methodNamed Bd.named Bd.method).1
  have X0 : Stand p l e ({ frames := 2, cells := 0, slots := 0, locals := 24 } : Room) s m #[(.ref b1), (.int p0), (.int p1)] below meth c s₁ [] 0 0 := Stand.of_body Bd
  have e0 : s₁.heap = h0 := by rw [← hh, Bd.state]; rfl
  have N0 := Fr.nil n0
  have pre0 : ∀ t, Steps p.tables e below (s₁.setTop (mkF m 0 #[.val (.ref b1), .val (.int p0), .val (.int p1)] [])) t → Steps p.tables e below (s₁.setTop (entryFrame m #[(.ref b1), (.int p0), (.int p1)] 3)) t := fun t k => castTop (ef_6 m b1 p0 p1) k
  have K0 : Keep h0 h0 [b1] := Keep.refl h0 [b1]
  have pre47 : ∀ t, Steps p.tables e below (s₁.setTop (mkF m 1 #[.val (.ref b1), .val (.int p0), .val (.int p1)] [(.ref b1)])) t → Steps p.tables e below (s₁.setTop (entryFrame m #[(.ref b1), (.int p0), (.int p1)] 3)) t := fun t kt => by
    refine pre0 _ ?_
    show Steps p.tables e below (s₁.setTop (mkF m 0 #[.val (.ref b1), .val (.int p0), .val (.int p1)] [])) _
    refine XS.aloadN X0.here hx rfl (hb hby d1_0) rfl rfl ?_
    exact kt
  obtain ⟨_, _, ⟨T48, L48, k48, n48⟩, -, X48, ⟨Lc48, hQ48, l48, y48, z48⟩, st48⟩ := X0.specialBack hx (y := (⟨"java/lang/Record", "<init>", "()V"⟩ : MethodName)) rfl hown (mvT hZ (hw _ (List.mem_of_getElem? (i := 6) rfl))) (mvT hZ (hw _ (List.mem_of_getElem? (i := 7) rfl))) (mvT hZ (hw _ (List.mem_of_getElem? (i := 10) rfl))) (by decide) (backOf (W := 0) (rm_init2_0 l Z a0 hw [] b1 h0 n0 O0) hZ (hw _ (List.mem_of_getElem? (i := 10) rfl)) (hw _ (List.mem_of_getElem? (i := 9) rfl)) (by decide) (by decide)) (g := (mkF m 1 #[.val (.ref b1), .val (.int p0), .val (.int p1)] [(.ref b1)])) rfl (by rw [hml]; rfl) (Steps.refl _) (a := b1) (argsL := []) (rest := []) (lenOf pd_4 rfl) rfl (by show 2 * 0 + _ ≤ _; exact Nat.le_of_eq rfl) (hb hby d1_1) (fun _ _ => ⟨rfl, e0, (by decide : 0 + 0 ≤ _), (by decide : 0 + 0 ≤ _)⟩)
  dsimp only [Pt.U, Pt.locs, Pt.cells, Pt.slots] at X48 l48 y48 z48 st48 hQ48
  subst l48 y48 z48
  obtain ⟨rfl, M48, e48⟩ := hQ48
  have N48 := Fr.app N0 M48
  have pre49 : ∀ t, Steps p.tables e below (T48.setTop (mkF m 4 #[.val (.ref b1), .val (.int p0), .val (.int p1)] [])) t → Steps p.tables e below (s₁.setTop (entryFrame m #[(.ref b1), (.int p0), (.int p1)] 3)) t := fun t kt => pre47 _ (st48.trans kt)
  have pre50 : ∀ t, Steps p.tables e below (T48.setTop (mkF m 6 #[.val (.ref b1), .val (.int p0), .val (.int p1)] [(.int p0), (.ref b1)])) t → Steps p.tables e below (s₁.setTop (entryFrame m #[(.ref b1), (.int p0), (.int p1)] 3)) t := fun t kt => by
    refine pre49 _ ?_
    show Steps p.tables e below (T48.setTop (mkF m 4 #[.val (.ref b1), .val (.int p0), .val (.int p1)] [])) _
    refine XS.aloadN X48.here hx rfl (hb hby d1_4) rfl rfl ?_
    show Steps p.tables e below (T48.setTop (mkF m 5 #[.val (.ref b1), .val (.int p0), .val (.int p1)] [(.ref b1)])) _
    refine XS.iloadN X48.here hx rfl (hb hby d1_5) rfl ?_
    exact kt
  obtain ⟨T51, h51, X51, e51, W51, st51⟩ := putF X48 hx hZ hown (host := "") (Or.inl (hw _ (List.mem_of_getElem? (i := 14) rfl))) Via.refl e48 Fi1 Fi0 (Or.inr ⟨(hw _ (List.mem_of_getElem? (i := 15) rfl)), rfl, hnm⟩) (hw _ (List.mem_of_getElem? (i := 1) rfl)) (ty := .int) (by decide) rfl rfl (g := (mkF m 6 #[.val (.ref b1), .val (.int p0), .val (.int p1)] [(.int p0), (.ref b1)])) rfl rfl (hb hby d1_6)
  have pre52 : ∀ t, Steps p.tables e below (T51.setTop (mkF m 9 #[.val (.ref b1), .val (.int p0), .val (.int p1)] [])) t → Steps p.tables e below (s₁.setTop (entryFrame m #[(.ref b1), (.int p0), (.int p1)] 3)) t := fun t kt => pre50 _ (st51 _ kt)
  have N51 := Fr.snoc X51 N48 g_b1
  have O51 := O0.wr W51 g_b1
  have K51 : Keep h0 h51 [b1] := K0.wr W51 (Or.inl (List.mem_of_getElem? (i := 0) rfl))
  have F53 : Exa Z h51 b1 "com/example/hemawire/hemawire/lis/Delimiters$Pieces" := Fi0.wr W51
  have F54 : Fld Z h51 b1 "com/example/hemawire/hemawire/lis/Delimiters$Pieces" "repeats" "I" (.int (0 : Int32)) := Fi2.other W51 (Or.inr (slot_ne (Or.inr (hw _ (List.mem_of_getElem? (i := 17) rfl))) (Or.inr (hw _ (List.mem_of_getElem? (i := 15) rfl))) (by decide) (t := .int) (t' := .int) (by decide) (by decide)))
  have F55 : Fld Z h51 b1 "com/example/hemawire/hemawire/lis/Delimiters$Pieces" "all" "I" (.int p0) := Fi1.same W51
  have pre56 : ∀ t, Steps p.tables e below (T51.setTop (mkF m 11 #[.val (.ref b1), .val (.int p0), .val (.int p1)] [(.int p1), (.ref b1)])) t → Steps p.tables e below (s₁.setTop (entryFrame m #[(.ref b1), (.int p0), (.int p1)] 3)) t := fun t kt => by
    refine pre52 _ ?_
    show Steps p.tables e below (T51.setTop (mkF m 9 #[.val (.ref b1), .val (.int p0), .val (.int p1)] [])) _
    refine XS.aloadN X51.here hx rfl (hb hby d1_9) rfl rfl ?_
    show Steps p.tables e below (T51.setTop (mkF m 10 #[.val (.ref b1), .val (.int p0), .val (.int p1)] [(.ref b1)])) _
    refine XS.iloadN X51.here hx rfl (hb hby d1_10) rfl ?_
    exact kt
  obtain ⟨T57, h57, X57, e57, W57, st57⟩ := putF X51 hx hZ hown (host := "") (Or.inl (hw _ (List.mem_of_getElem? (i := 16) rfl))) Via.refl e51 F54 F53 (Or.inr ⟨(hw _ (List.mem_of_getElem? (i := 17) rfl)), rfl, hnm⟩) (hw _ (List.mem_of_getElem? (i := 1) rfl)) (ty := .int) (by decide) rfl rfl (g := (mkF m 11 #[.val (.ref b1), .val (.int p0), .val (.int p1)] [(.int p1), (.ref b1)])) rfl rfl (hb hby d1_11)
  have pre58 : ∀ t, Steps p.tables e below (T57.setTop (mkF m 14 #[.val (.ref b1), .val (.int p0), .val (.int p1)] [])) t → Steps p.tables e below (s₁.setTop (entryFrame m #[(.ref b1), (.int p0), (.int p1)] 3)) t := fun t kt => pre56 _ (st57 _ kt)
  have N57 := Fr.snoc X57 N51 g_b1
  have O57 := O51.wr W57 g_b1
  have K57 : Keep h0 h57 [b1] := K51.wr W57 (Or.inl (List.mem_of_getElem? (i := 0) rfl))
  have F59 : Exa Z h57 b1 "com/example/hemawire/hemawire/lis/Delimiters$Pieces" := F53.wr W57
  have F60 : Fld Z h57 b1 "com/example/hemawire/hemawire/lis/Delimiters$Pieces" "all" "I" (.int p0) := F55.other W57 (Or.inr (slot_ne (Or.inr (hw _ (List.mem_of_getElem? (i := 15) rfl))) (Or.inr (hw _ (List.mem_of_getElem? (i := 17) rfl))) (by decide) (t := .int) (t' := .int) (by decide) (by decide)))
  have F61 : Fld Z h57 b1 "com/example/hemawire/hemawire/lis/Delimiters$Pieces" "repeats" "I" (.int p1) := F54.same W57
  obtain ⟨fs, hr, hrun, hended, hW, hsame⟩ := X57.leave (v := none) (fun _ => rfl)
  refine ⟨_, _, pre58 _ (X57.returnOut hx Bd.returns (hb hby d1_14) hr), hrun, hended, _, _, rfl, ?_, ⟨_, rfl⟩, hW, hsame.mono (by decide) (by decide)⟩
  show Q_init1_0 Z b1 p0 p1 h0 n0 _ T57.heap _
  rw [e57]
  exact ⟨rfl, N57, K57, O57, F59, F60, F61⟩
theorem pd_7 : parseMethodDescriptor "(II)V" = some ⟨[.int, .int], none⟩ := by decide +kernel
theorem d4_0 : decode prog_24_method_2_code 0 = .ok (.new 8, 3) := by decide +kernel
theorem d4_3 : decode prog_24_method_2_code 3 = .ok (.dup, 1) := by decide +kernel
theorem d4_4 : decode prog_24_method_2_code 4 = .ok (.aload_n 0, 1) := by decide +kernel
theorem d4_5 : decode prog_24_method_2_code 5 = .ok (.getfield 7, 3) := by decide +kernel
theorem d4_8 : decode prog_24_method_2_code 8 = .ok (.aload_n 1, 1) := by decide +kernel
theorem d4_9 : decode prog_24_method_2_code 9 = .ok (.getfield 7, 3) := by decide +kernel
theorem d4_12 : decode prog_24_method_2_code 12 = .ok (.iadd, 1) := by decide +kernel
theorem d4_13 : decode prog_24_method_2_code 13 = .ok (.aload_n 0, 1) := by decide +kernel
theorem d4_14 : decode prog_24_method_2_code 14 = .ok (.getfield 13, 3) := by decide +kernel
theorem d4_17 : decode prog_24_method_2_code 17 = .ok (.aload_n 1, 1) := by decide +kernel
theorem d4_18 : decode prog_24_method_2_code 18 = .ok (.getfield 13, 3) := by decide +kernel
theorem d4_21 : decode prog_24_method_2_code 21 = .ok (.iadd, 1) := by decide +kernel
theorem d4_22 : decode prog_24_method_2_code 22 = .ok (.invokespecial 16, 3) := by decide +kernel
theorem d4_25 : decode prog_24_method_2_code 25 = .ok (.areturn, 1) := by decide +kernel
theorem ef_8 (m : MethodId) (x0 : Addr) (x1 : Addr) : entryFrame m #[(.ref x0), (.ref x1)] 2 = mkF m 0 #[.val (.ref x0), .val (.ref x1)] [] := by first | (simp [entryFrame, mkF, argsToLocals, Value.category]; done) | rfl
def Q_plus4_0 (Z : State) (b1 : Addr) (b64 : Addr) (p0 : Int32) (p1 : Int32) (p2 : Int32) (p3 : Int32) (h0 : Heap) (n0 : Nat) (v : Option Value) (h : Heap) (L : List Loc) : Prop := ∃ (b144 : Addr), v = some (.ref b144) ∧ Fr n0 L ∧ Keep h0 h [] ∧ Old Z n0 h ∧ Exa Z h b144 "com/example/hemawire/hemawire/lis/Delimiters$Pieces" ∧ Fld Z h b144 "com/example/hemawire/hemawire/lis/Delimiters$Pieces" "all" "I" (.int (p0 + p2)) ∧ Fld Z h b144 "com/example/hemawire/hemawire/lis/Delimiters$Pieces" "repeats" "I" (.int (p1 + p3)) ∧ h0.size ≤ b144
set_option maxRecDepth 65536 in
set_option maxHeartbeats 40000000 in
theorem rm_plus4_0 (l : Launch) (Z : State) (a0 : Array Value) (hw : ∀ d ∈ tables_1, d.before a0 Z = true) (ws : List Jvm.Cond) (b1 : Addr) (b64 : Addr) (p0 : Int32) (p1 : Int32) (p2 : Int32) (p3 : Int32) (h0 : Heap) (n0 : Nat) (O0 : Old Z n0 h0) (Fi0 : Exa Z h0 b1 "com/example/hemawire/hemawire/lis/Delimiters$Pieces") (Fi1 : Fld Z h0 b1 "com/example/hemawire/hemawire/lis/Delimiters$Pieces" "all" "I" (.int p0)) (Fi2 : Fld Z h0 b1 "com/example/hemawire/hemawire/lis/Delimiters$Pieces" "repeats" "I" (.int p1)) (Fi3 : Exa Z h0 b64 "com/example/hemawire/hemawire/lis/Delimiters$Pieces") (Fi4 : Fld Z h0 b64 "com/example/hemawire/hemawire/lis/Delimiters$Pieces" "all" "I" (.int p2)) (Fi5 : Fld Z h0 b64 "com/example/hemawire/hemawire/lis/Delimiters$Pieces" "repeats" "I" (.int p3)) :
    MetFree l (⟨"com/example/hemawire/hemawire/lis/Delimiters$Pieces", "plus", "(Lcom/example/hemawire/hemawire/lis/Delimiters$Pieces;)Lcom/example/hemawire/hemawire/lis/Delimiters$Pieces;"⟩ : MethodName) (head1 (Jvm.Cond.code (⟨"com/example/hemawire/hemawire/lis/Delimiters$Pieces", "plus", "(Lcom/example/hemawire/hemawire/lis/Delimiters$Pieces;)Lcom/example/hemawire/hemawire/lis/Delimiters$Pieces;"⟩ : MethodName) prog_24_method_2_code 2 (some (.object "com/example/hemawire/hemawire/lis/Delimiters$Pieces")) :: ws) ({ frames := 3, cells := 1, slots := 2, locals := 39 } : Room)) (fun a U => a = #[(.ref b1), (.ref b64)] ∧ Z.Warmed39 U.vm ∧ U.heap = h0) (fun _ _ _ _ _ => True) (fun _ U o U' => ∃ v L, o = .returned v ∧ Q_plus4_0 Z b1 b64 p0 p1 p2 p3 h0 n0 v U'.heap L ∧ FrameEnd U o U' L ({ frames := 3, cells := 1, slots := 2, locals := 39 } : Room).cells ({ frames := 3, cells := 1, slots := 2, locals := 39 } : Room).slots) := by
  refine MetFree.of_bodySF (plainFor_of_name pn_5) hisR ?_
  intro p e s m args below meth c s₁ Bd hml0 hP hK
  obtain ⟨rfl, hZ, hh⟩ := hP
  have hx := Bd.exec
  have hby := Bd.bytes
  have hml : c.maxLocals = 2 := hml0
  have hown : s.vm.findClass "com/example/hemawire/hemawire/lis/Delimiters$Pieces" = some m.cls := findClass_of_methodNamed Bd.named
  have hnm := (name_of_methodNamed Bd.named Bd.method).1
  have X0 : Stand p l e ({ frames := 3, cells := 1, slots := 2, locals := 39 } : Room) s m #[(.ref b1), (.ref b64)] below meth c s₁ [] 0 0 := Stand.of_body Bd
  have e0 : s₁.heap = h0 := by rw [← hh, Bd.state]; rfl
  have N0 := Fr.nil n0
  have pre0 : ∀ t, Steps p.tables e below (s₁.setTop (mkF m 0 #[.val (.ref b1), .val (.ref b64)] [])) t → Steps p.tables e below (s₁.setTop (entryFrame m #[(.ref b1), (.ref b64)] 2)) t := fun t k => castTop (ef_8 m b1 b64) k
  have K0 : Keep h0 h0 [] := Keep.refl h0 []
  obtain ⟨T144, h144, X144, e144, E144, A144, D144, -, st144⟩ := newO X0 hx hZ hown (hw _ (List.mem_of_getElem? (i := 23) rfl)) (hw _ (List.mem_of_getElem? (i := 1) rfl)) (hw _ (List.mem_of_getElem? (i := 2) rfl)) e0 (g := (mkF m 0 #[.val (.ref b1), .val (.ref b64)] [])) rfl (hb hby d4_0) (by decide) (by decide)
  obtain ⟨b144, g144⟩ : ∃ z, z = h0.size := ⟨_, rfl⟩
  rw [← g144] at A144 D144 st144
  have pre145 : ∀ t, Steps p.tables e below (T144.setTop (mkF m 3 #[.val (.ref b1), .val (.ref b64)] [(.ref b144)])) t → Steps p.tables e below (s₁.setTop (entryFrame m #[(.ref b1), (.ref b64)] 2)) t := fun t kt => pre0 _ (st144 _ kt)
  have O144 := O0.ext E144
  have K144 : Keep h0 h144 [] := K0.ext E144
  have F146 : Exa Z h144 b1 "com/example/hemawire/hemawire/lis/Delimiters$Pieces" := Fi0.ext E144
  have F147 : Fld Z h144 b1 "com/example/hemawire/hemawire/lis/Delimiters$Pieces" "all" "I" (.int p0) := Fi1.ext E144
  have F148 : Fld Z h144 b1 "com/example/hemawire/hemawire/lis/Delimiters$Pieces" "repeats" "I" (.int p1) := Fi2.ext E144
  have F149 : Exa Z h144 b64 "com/example/hemawire/hemawire/lis/Delimiters$Pieces" := Fi3.ext E144
  have F150 : Fld Z h144 b64 "com/example/hemawire/hemawire/lis/Delimiters$Pieces" "all" "I" (.int p2) := Fi4.ext E144
  have F151 : Fld Z h144 b64 "com/example/hemawire/hemawire/lis/Delimiters$Pieces" "repeats" "I" (.int p3) := Fi5.ext E144
  have g_b144 : n0 ≤ b144 := Nat.le_trans (Nat.le_trans (Nat.le_of_eq O0.1.symm) O0.2.1) (Nat.le_of_eq g144.symm)
  have sz_b144 : h0.size ≤ b144 := Nat.le_trans K0.1 (Nat.le_of_eq g144.symm)
  have ne_b1_b144 : b1 ≠ b144 := Nat.ne_of_lt (Nat.lt_of_lt_of_le Fi0.lt (Nat.le_of_eq g144.symm))
  have ne_b64_b144 : b64 ≠ b144 := Nat.ne_of_lt (Nat.lt_of_lt_of_le Fi3.lt (Nat.le_of_eq g144.symm))
  have F152 : Exa Z h144 b144 "com/example/hemawire/hemawire/lis/Delimiters$Pieces" := A144
  have F153 : Fld Z h144 b144 "com/example/hemawire/hemawire/lis/Delimiters$Pieces" "all" "I" (.int (0 : Int32)) := D144 (Or.inr (hw _ (List.mem_of_getElem? (i := 15) rfl))) (ty := .int) (by decide)
  have F154 : Fld Z h144 b144 "com/example/hemawire/hemawire/lis/Delimiters$Pieces" "repeats" "I" (.int (0 : Int32)) := D144 (Or.inr (hw _ (List.mem_of_getElem? (i := 17) rfl))) (ty := .int) (by decide)
  have pre155 : ∀ t, Steps p.tables e below (T144.setTop (mkF m 5 #[.val (.ref b1), .val (.ref b64)] [(.ref b1), (.ref b144), (.ref b144)])) t → Steps p.tables e below (s₁.setTop (entryFrame m #[(.ref b1), (.ref b64)] 2)) t := fun t kt => by
    refine pre145 _ ?_
    show Steps p.tables e below (T144.setTop (mkF m 3 #[.val (.ref b1), .val (.ref b64)] [(.ref b144)])) _
    refine XS.dup X144.here hx rfl (hb hby d4_3) rfl rfl ?_
    show Steps p.tables e below (T144.setTop (mkF m 4 #[.val (.ref b1), .val (.ref b64)] [(.ref b144), (.ref b144)])) _
    refine XS.aloadN X144.here hx rfl (hb hby d4_4) rfl rfl ?_
    exact kt
  obtain ⟨T156, X156, e156, st156⟩ := getF X144 hx hZ hown (host := "") (Or.inl (hw _ (List.mem_of_getElem? (i := 14) rfl))) Via.refl e144 F147 (g := (mkF m 5 #[.val (.ref b1), .val (.ref b64)] [(.ref b1), (.ref b144), (.ref b144)])) rfl rfl (hb hby d4_5)
  have pre157 : ∀ t, Steps p.tables e below (T156.setTop (mkF m 8 #[.val (.ref b1), .val (.ref b64)] [(.int p0), (.ref b144), (.ref b144)])) t → Steps p.tables e below (s₁.setTop (entryFrame m #[(.ref b1), (.ref b64)] 2)) t := fun t kt => pre155 _ (st156 _ kt)
  have pre158 : ∀ t, Steps p.tables e below (T156.setTop (mkF m 9 #[.val (.ref b1), .val (.ref b64)] [(.ref b64), (.int p0), (.ref b144), (.ref b144)])) t → Steps p.tables e below (s₁.setTop (entryFrame m #[(.ref b1), (.ref b64)] 2)) t := fun t kt => by
    refine pre157 _ ?_
    show Steps p.tables e below (T156.setTop (mkF m 8 #[.val (.ref b1), .val (.ref b64)] [(.int p0), (.ref b144), (.ref b144)])) _
    refine XS.aloadN X156.here hx rfl (hb hby d4_8) rfl rfl ?_
    exact kt
  obtain ⟨T159, X159, e159, st159⟩ := getF X156 hx hZ hown (host := "") (Or.inl (hw _ (List.mem_of_getElem? (i := 14) rfl))) Via.refl e156 F150 (g := (mkF m 9 #[.val (.ref b1), .val (.ref b64)] [(.ref b64), (.int p0), (.ref b144), (.ref b144)])) rfl rfl (hb hby d4_9)
  have pre160 : ∀ t, Steps p.tables e below (T159.setTop (mkF m 12 #[.val (.ref b1), .val (.ref b64)] [(.int p2), (.int p0), (.ref b144), (.ref b144)])) t → Steps p.tables e below (s₁.setTop (entryFrame m #[(.ref b1), (.ref b64)] 2)) t := fun t kt => pre158 _ (st159 _ kt)
  have pre161 : ∀ t, Steps p.tables e below (T159.setTop (mkF m 14 #[.val (.ref b1), .val (.ref b64)] [(.ref b1), (.int (p0 + p2)), (.ref b144), (.ref b144)])) t → Steps p.tables e below (s₁.setTop (entryFrame m #[(.ref b1), (.ref b64)] 2)) t := fun t kt => by
    refine pre160 _ ?_
    show Steps p.tables e below (T159.setTop (mkF m 12 #[.val (.ref b1), .val (.ref b64)] [(.int p2), (.int p0), (.ref b144), (.ref b144)])) _
    refine XS.iadd X159.here hx rfl (hb hby d4_12) rfl ?_
    show Steps p.tables e below (T159.setTop (mkF m 13 #[.val (.ref b1), .val (.ref b64)] [(.int (p0 + p2)), (.ref b144), (.ref b144)])) _
    refine XS.aloadN X159.here hx rfl (hb hby d4_13) rfl rfl ?_
    exact kt
  obtain ⟨T162, X162, e162, st162⟩ := getF X159 hx hZ hown (host := "") (Or.inl (hw _ (List.mem_of_getElem? (i := 16) rfl))) Via.refl e159 F148 (g := (mkF m 14 #[.val (.ref b1), .val (.ref b64)] [(.ref b1), (.int (p0 + p2)), (.ref b144), (.ref b144)])) rfl rfl (hb hby d4_14)
  have pre163 : ∀ t, Steps p.tables e below (T162.setTop (mkF m 17 #[.val (.ref b1), .val (.ref b64)] [(.int p1), (.int (p0 + p2)), (.ref b144), (.ref b144)])) t → Steps p.tables e below (s₁.setTop (entryFrame m #[(.ref b1), (.ref b64)] 2)) t := fun t kt => pre161 _ (st162 _ kt)
  have pre164 : ∀ t, Steps p.tables e below (T162.setTop (mkF m 18 #[.val (.ref b1), .val (.ref b64)] [(.ref b64), (.int p1), (.int (p0 + p2)), (.ref b144), (.ref b144)])) t → Steps p.tables e below (s₁.setTop (entryFrame m #[(.ref b1), (.ref b64)] 2)) t := fun t kt => by
    refine pre163 _ ?_
    show Steps p.tables e below (T162.setTop (mkF m 17 #[.val (.ref b1), .val (.ref b64)] [(.int p1), (.int (p0 + p2)), (.ref b144), (.ref b144)])) _
    refine XS.aloadN X162.here hx rfl (hb hby d4_17) rfl rfl ?_
    exact kt
  obtain ⟨T165, X165, e165, st165⟩ := getF X162 hx hZ hown (host := "") (Or.inl (hw _ (List.mem_of_getElem? (i := 16) rfl))) Via.refl e162 F151 (g := (mkF m 18 #[.val (.ref b1), .val (.ref b64)] [(.ref b64), (.int p1), (.int (p0 + p2)), (.ref b144), (.ref b144)])) rfl rfl (hb hby d4_18)
  have pre166 : ∀ t, Steps p.tables e below (T165.setTop (mkF m 21 #[.val (.ref b1), .val (.ref b64)] [(.int p3), (.int p1), (.int (p0 + p2)), (.ref b144), (.ref b144)])) t → Steps p.tables e below (s₁.setTop (entryFrame m #[(.ref b1), (.ref b64)] 2)) t := fun t kt => pre164 _ (st165 _ kt)
  have pre167 : ∀ t, Steps p.tables e below (T165.setTop (mkF m 22 #[.val (.ref b1), .val (.ref b64)] [(.int (p1 + p3)), (.int (p0 + p2)), (.ref b144), (.ref b144)])) t → Steps p.tables e below (s₁.setTop (entryFrame m #[(.ref b1), (.ref b64)] 2)) t := fun t kt => by
    refine pre166 _ ?_
    show Steps p.tables e below (T165.setTop (mkF m 21 #[.val (.ref b1), .val (.ref b64)] [(.int p3), (.int p1), (.int (p0 + p2)), (.ref b144), (.ref b144)])) _
    refine XS.iadd X165.here hx rfl (hb hby d4_21) rfl ?_
    exact kt
  obtain ⟨_, _, ⟨T168, L168, k168, n168⟩, -, X168, ⟨Lc168, hQ168, l168, y168, z168⟩, st168⟩ := X165.specialBack hx (y := (⟨"com/example/hemawire/hemawire/lis/Delimiters$Pieces", "<init>", "(II)V"⟩ : MethodName)) rfl hown (mvT hZ (hw _ (List.mem_of_getElem? (i := 24) rfl))) (mvT hZ (hw _ (List.mem_of_getElem? (i := 4) rfl))) (mvT hZ (hw _ (List.mem_of_getElem? (i := 5) rfl))) (by decide) (backOf (W := 1) (rm_init1_0 l Z a0 hw [] b144 ((p0 + p2)) ((p1 + p3)) h144 n0 O144 g_b144 F152 F153 F154) hZ (hw _ (List.mem_of_getElem? (i := 5) rfl)) (hw _ (List.mem_of_getElem? (i := 2) rfl)) (by decide) (by decide)) (g := (mkF m 22 #[.val (.ref b1), .val (.ref b64)] [(.int (p1 + p3)), (.int (p0 + p2)), (.ref b144), (.ref b144)])) rfl (by rw [hml]; rfl) (Steps.refl _) (a := b144) (argsL := [(.int (p0 + p2)), (.int (p1 + p3))]) (rest := [(.ref b144)]) (lenOf pd_7 rfl) rfl (by show 2 * 0 + _ ≤ _; exact Nat.le_of_eq rfl) (hb hby d4_22) (fun _ _ => ⟨rfl, e165, (by decide : 1 + 0 ≤ _), (by decide : 2 + 0 ≤ _)⟩)
  dsimp only [Pt.U, Pt.locs, Pt.cells, Pt.slots] at X168 l168 y168 z168 st168 hQ168
  subst l168 y168 z168
  obtain ⟨rfl, M168, Kc168, O168, J168_0, J168_1, J168_2⟩ := hQ168
  obtain ⟨h168, e168⟩ : ∃ z, T168.heap = z := ⟨_, rfl⟩
  rw [e168] at Kc168 O168 J168_0 J168_1 J168_2
  have N168 := Fr.app N0 M168
  have K168 : Keep h0 h168 [] := K144.trans Kc168 (own_all1 (Or.inr sz_b144))
  have pre169 : ∀ t, Steps p.tables e below (T168.setTop (mkF m 25 #[.val (.ref b1), .val (.ref b64)] [(.ref b144)])) t → Steps p.tables e below (s₁.setTop (entryFrame m #[(.ref b1), (.ref b64)] 2)) t := fun t kt => pre167 _ (st168.trans kt)
  have F170 : Exa Z h168 b1 "com/example/hemawire/hemawire/lis/Delimiters$Pieces" := F146.keep Kc168
  have F171 : Fld Z h168 b1 "com/example/hemawire/hemawire/lis/Delimiters$Pieces" "all" "I" (.int p0) := F147.keep Kc168 (own_nm1 ne_b1_b144)
  have F172 : Fld Z h168 b1 "com/example/hemawire/hemawire/lis/Delimiters$Pieces" "repeats" "I" (.int p1) := F148.keep Kc168 (own_nm1 ne_b1_b144)
  have F173 : Exa Z h168 b64 "com/example/hemawire/hemawire/lis/Delimiters$Pieces" := F149.keep Kc168
  have F174 : Fld Z h168 b64 "com/example/hemawire/hemawire/lis/Delimiters$Pieces" "all" "I" (.int p2) := F150.keep Kc168 (own_nm1 ne_b64_b144)
  have F175 : Fld Z h168 b64 "com/example/hemawire/hemawire/lis/Delimiters$Pieces" "repeats" "I" (.int p3) := F151.keep Kc168 (own_nm1 ne_b64_b144)
  obtain ⟨fs, hr, hrun, hended, hW, hsame⟩ := X168.leave (v := some (.ref b144)) (fun h => by rw [Bd.returns] at h; cases h)
  refine ⟨_, _, pre169 _ (X168.areturnOut hx rfl Bd.returns rfl (hb hby d4_25) hr), hrun, hended, _, _, rfl, ?_, ⟨_, rfl⟩, hW, hsame.mono (by decide) (by decide)⟩
  show Q_plus4_0 Z b1 b64 p0 p1 p2 p3 h0 n0 _ T168.heap _
  rw [e168]
  exact ⟨b144, rfl, N168, K168, O168, J168_0, J168_1, J168_2, sz_b144⟩
theorem pd_9 : parseMethodDescriptor "(Lcom/example/hemawire/hemawire/lis/Delimiters$Pieces;)Lcom/example/hemawire/hemawire/lis/Delimiters$Pieces;" = some ⟨[(.object "com/example/hemawire/hemawire/lis/Delimiters$Pieces")], some (.object "com/example/hemawire/hemawire/lis/Delimiters$Pieces")⟩ := by decide +kernel
theorem d5_0 : decode prog_24_method_6_code 0 = .ok (.aload_n 0, 1) := by decide +kernel
theorem d5_1 : decode prog_24_method_6_code 1 = .ok (.getfield 7, 3) := by decide +kernel
theorem d5_4 : decode prog_24_method_6_code 4 = .ok (.ireturn, 1) := by decide +kernel
theorem ef_10 (m : MethodId) (x0 : Addr) : entryFrame m #[(.ref x0)] 1 = mkF m 0 #[.val (.ref x0)] [] := by first | (simp [entryFrame, mkF, argsToLocals, Value.category]; done) | rfl
def Q_all5_0 (Z : State) (b144_79 : Addr) (p0 : Int32) (p2 : Int32) (h0 : Heap) (n0 : Nat) (v : Option Value) (h : Heap) (L : List Loc) : Prop := v = some (.int (p0 + p2)) ∧ Fr n0 L ∧ h = h0
set_option maxRecDepth 65536 in
set_option maxHeartbeats 40000000 in
theorem rm_all5_0 (l : Launch) (Z : State) (a0 : Array Value) (hw : ∀ d ∈ tables_1, d.before a0 Z = true) (ws : List Jvm.Cond) (b144_79 : Addr) (p0 : Int32) (p2 : Int32) (h0 : Heap) (n0 : Nat) (O0 : Old Z n0 h0) (Fi0 : Fld Z h0 b144_79 "com/example/hemawire/hemawire/lis/Delimiters$Pieces" "all" "I" (.int (p0 + p2))) :
    MetFree l (⟨"com/example/hemawire/hemawire/lis/Delimiters$Pieces", "all", "()I"⟩ : MethodName) (head1 (Jvm.Cond.code (⟨"com/example/hemawire/hemawire/lis/Delimiters$Pieces", "all", "()I"⟩ : MethodName) prog_24_method_6_code 1 (some .int) :: ws) ({ frames := 0, cells := 0, slots := 0, locals := 0 } : Room)) (fun a U => a = #[(.ref b144_79)] ∧ Z.Warmed39 U.vm ∧ U.heap = h0) (fun _ _ _ _ _ => True) (fun _ U o U' => ∃ v L, o = .returned v ∧ Q_all5_0 Z b144_79 p0 p2 h0 n0 v U'.heap L ∧ FrameEnd U o U' L ({ frames := 0, cells := 0, slots := 0, locals := 0 } : Room).cells ({ frames := 0, cells := 0, slots := 0, locals := 0 } : Room).slots) := by
  refine MetFree.of_bodySF (plainFor_of_name pn_5) hisR ?_
  intro p e s m args below meth c s₁ Bd hml0 hP hK
  obtain ⟨rfl, hZ, hh⟩ := hP
  have hx := Bd.exec
  have hby := Bd.bytes
  have hml : c.maxLocals = 1 := hml0
  have hown : s.vm.findClass "com/example/hemawire/hemawire/lis/Delimiters$Pieces" = some m.cls := findClass_of_methodNamed Bd.named
  have hnm := (name_of_methodNamed Bd.named Bd.method).1
  have X0 : Stand p l e ({ frames := 0, cells := 0, slots := 0, locals := 0 } : Room) s m #[(.ref b144_79)] below meth c s₁ [] 0 0 := Stand.of_body Bd
  have e0 : s₁.heap = h0 := by rw [← hh, Bd.state]; rfl
  have N0 := Fr.nil n0
  have pre0 : ∀ t, Steps p.tables e below (s₁.setTop (mkF m 0 #[.val (.ref b144_79)] [])) t → Steps p.tables e below (s₁.setTop (entryFrame m #[(.ref b144_79)] 1)) t := fun t k => castTop (ef_10 m b144_79) k
  have K0 : Keep h0 h0 [] := Keep.refl h0 []
  have pre220 : ∀ t, Steps p.tables e below (s₁.setTop (mkF m 1 #[.val (.ref b144_79)] [(.ref b144_79)])) t → Steps p.tables e below (s₁.setTop (entryFrame m #[(.ref b144_79)] 1)) t := fun t kt => by
    refine pre0 _ ?_
    show Steps p.tables e below (s₁.setTop (mkF m 0 #[.val (.ref b144_79)] [])) _
    refine XS.aloadN X0.here hx rfl (hb hby d5_0) rfl rfl ?_
    exact kt
  obtain ⟨T221, X221, e221, st221⟩ := getF X0 hx hZ hown (host := "") (Or.inl (hw _ (List.mem_of_getElem? (i := 14) rfl))) Via.refl e0 Fi0 (g := (mkF m 1 #[.val (.ref b144_79)] [(.ref b144_79)])) rfl rfl (hb hby d5_1)
  have pre222 : ∀ t, Steps p.tables e below (T221.setTop (mkF m 4 #[.val (.ref b144_79)] [(.int (p0 + p2))])) t → Steps p.tables e below (s₁.setTop (entryFrame m #[(.ref b144_79)] 1)) t := fun t kt => pre220 _ (st221 _ kt)
  obtain ⟨fs, hr, hrun, hended, hW, hsame⟩ := X221.leave (v := some (.int (p0 + p2))) (fun h => by rw [Bd.returns] at h; cases h)
  refine ⟨_, _, pre222 _ (retI X221 hx Bd.returns (hb hby d5_4) hr), hrun, hended, _, _, rfl, ?_, ⟨_, rfl⟩, hW, hsame.mono (by decide) (by decide)⟩
  show Q_all5_0 Z b144_79 p0 p2 h0 n0 _ T221.heap _
  rw [e221]
  exact ⟨rfl, N0, rfl⟩
theorem pd_11 : parseMethodDescriptor "()I" = some ⟨[], some .int⟩ := by decide +kernel
theorem d6_0 : decode prog_24_method_7_code 0 = .ok (.aload_n 0, 1) := by decide +kernel
theorem d6_1 : decode prog_24_method_7_code 1 = .ok (.getfield 13, 3) := by decide +kernel
theorem d6_4 : decode prog_24_method_7_code 4 = .ok (.ireturn, 1) := by decide +kernel
theorem ef_12 (m : MethodId) (x0 : Addr) : entryFrame m #[(.ref x0)] 1 = mkF m 0 #[.val (.ref x0)] [] := by first | (simp [entryFrame, mkF, argsToLocals, Value.category]; done) | rfl
def Q_repeats6_0 (Z : State) (b144_79 : Addr) (p1 : Int32) (p3 : Int32) (h0 : Heap) (n0 : Nat) (v : Option Value) (h : Heap) (L : List Loc) : Prop := v = some (.int (p1 + p3)) ∧ Fr n0 L ∧ h = h0
set_option maxRecDepth 65536 in
set_option maxHeartbeats 40000000 in
theorem rm_repeats6_0 (l : Launch) (Z : State) (a0 : Array Value) (hw : ∀ d ∈ tables_1, d.before a0 Z = true) (ws : List Jvm.Cond) (b144_79 : Addr) (p1 : Int32) (p3 : Int32) (h0 : Heap) (n0 : Nat) (O0 : Old Z n0 h0) (Fi0 : Fld Z h0 b144_79 "com/example/hemawire/hemawire/lis/Delimiters$Pieces" "repeats" "I" (.int (p1 + p3))) :
    MetFree l (⟨"com/example/hemawire/hemawire/lis/Delimiters$Pieces", "repeats", "()I"⟩ : MethodName) (head1 (Jvm.Cond.code (⟨"com/example/hemawire/hemawire/lis/Delimiters$Pieces", "repeats", "()I"⟩ : MethodName) prog_24_method_7_code 1 (some .int) :: ws) ({ frames := 0, cells := 0, slots := 0, locals := 0 } : Room)) (fun a U => a = #[(.ref b144_79)] ∧ Z.Warmed39 U.vm ∧ U.heap = h0) (fun _ _ _ _ _ => True) (fun _ U o U' => ∃ v L, o = .returned v ∧ Q_repeats6_0 Z b144_79 p1 p3 h0 n0 v U'.heap L ∧ FrameEnd U o U' L ({ frames := 0, cells := 0, slots := 0, locals := 0 } : Room).cells ({ frames := 0, cells := 0, slots := 0, locals := 0 } : Room).slots) := by
  refine MetFree.of_bodySF (plainFor_of_name pn_5) hisR ?_
  intro p e s m args below meth c s₁ Bd hml0 hP hK
  obtain ⟨rfl, hZ, hh⟩ := hP
  have hx := Bd.exec
  have hby := Bd.bytes
  have hml : c.maxLocals = 1 := hml0
  have hown : s.vm.findClass "com/example/hemawire/hemawire/lis/Delimiters$Pieces" = some m.cls := findClass_of_methodNamed Bd.named
  have hnm := (name_of_methodNamed Bd.named Bd.method).1
  have X0 : Stand p l e ({ frames := 0, cells := 0, slots := 0, locals := 0 } : Room) s m #[(.ref b144_79)] below meth c s₁ [] 0 0 := Stand.of_body Bd
  have e0 : s₁.heap = h0 := by rw [← hh, Bd.state]; rfl
  have N0 := Fr.nil n0
  have pre0 : ∀ t, Steps p.tables e below (s₁.setTop (mkF m 0 #[.val (.ref b144_79)] [])) t → Steps p.tables e below (s₁.setTop (entryFrame m #[(.ref b144_79)] 1)) t := fun t k => castTop (ef_12 m b144_79) k
  have K0 : Keep h0 h0 [] := Keep.refl h0 []
  have pre232 : ∀ t, Steps p.tables e below (s₁.setTop (mkF m 1 #[.val (.ref b144_79)] [(.ref b144_79)])) t → Steps p.tables e below (s₁.setTop (entryFrame m #[(.ref b144_79)] 1)) t := fun t kt => by
    refine pre0 _ ?_
    show Steps p.tables e below (s₁.setTop (mkF m 0 #[.val (.ref b144_79)] [])) _
    refine XS.aloadN X0.here hx rfl (hb hby d6_0) rfl rfl ?_
    exact kt
  obtain ⟨T233, X233, e233, st233⟩ := getF X0 hx hZ hown (host := "") (Or.inl (hw _ (List.mem_of_getElem? (i := 16) rfl))) Via.refl e0 Fi0 (g := (mkF m 1 #[.val (.ref b144_79)] [(.ref b144_79)])) rfl rfl (hb hby d6_1)
  have pre234 : ∀ t, Steps p.tables e below (T233.setTop (mkF m 4 #[.val (.ref b144_79)] [(.int (p1 + p3))])) t → Steps p.tables e below (s₁.setTop (entryFrame m #[(.ref b144_79)] 1)) t := fun t kt => pre232 _ (st233 _ kt)
  obtain ⟨fs, hr, hrun, hended, hW, hsame⟩ := X233.leave (v := some (.int (p1 + p3))) (fun h => by rw [Bd.returns] at h; cases h)
  refine ⟨_, _, pre234 _ (retI X233 hx Bd.returns (hb hby d6_4) hr), hrun, hended, _, _, rfl, ?_, ⟨_, rfl⟩, hW, hsame.mono (by decide) (by decide)⟩
  show Q_repeats6_0 Z b144_79 p1 p3 h0 n0 _ T233.heap _
  rw [e233]
  exact ⟨rfl, N0, rfl⟩
def Q_all5_1 (Z : State) (b144_184 : Addr) (p0 : Int32) (p2 : Int32) (h0 : Heap) (n0 : Nat) (v : Option Value) (h : Heap) (L : List Loc) : Prop := v = some (.int (p2 + p0)) ∧ Fr n0 L ∧ h = h0
set_option maxRecDepth 65536 in
set_option maxHeartbeats 40000000 in
theorem rm_all5_1 (l : Launch) (Z : State) (a0 : Array Value) (hw : ∀ d ∈ tables_1, d.before a0 Z = true) (ws : List Jvm.Cond) (b144_184 : Addr) (p0 : Int32) (p2 : Int32) (h0 : Heap) (n0 : Nat) (O0 : Old Z n0 h0) (Fi0 : Fld Z h0 b144_184 "com/example/hemawire/hemawire/lis/Delimiters$Pieces" "all" "I" (.int (p2 + p0))) :
    MetFree l (⟨"com/example/hemawire/hemawire/lis/Delimiters$Pieces", "all", "()I"⟩ : MethodName) (head1 (Jvm.Cond.code (⟨"com/example/hemawire/hemawire/lis/Delimiters$Pieces", "all", "()I"⟩ : MethodName) prog_24_method_6_code 1 (some .int) :: ws) ({ frames := 0, cells := 0, slots := 0, locals := 0 } : Room)) (fun a U => a = #[(.ref b144_184)] ∧ Z.Warmed39 U.vm ∧ U.heap = h0) (fun _ _ _ _ _ => True) (fun _ U o U' => ∃ v L, o = .returned v ∧ Q_all5_1 Z b144_184 p0 p2 h0 n0 v U'.heap L ∧ FrameEnd U o U' L ({ frames := 0, cells := 0, slots := 0, locals := 0 } : Room).cells ({ frames := 0, cells := 0, slots := 0, locals := 0 } : Room).slots) := by
  refine MetFree.of_bodySF (plainFor_of_name pn_5) hisR ?_
  intro p e s m args below meth c s₁ Bd hml0 hP hK
  obtain ⟨rfl, hZ, hh⟩ := hP
  have hx := Bd.exec
  have hby := Bd.bytes
  have hml : c.maxLocals = 1 := hml0
  have hown : s.vm.findClass "com/example/hemawire/hemawire/lis/Delimiters$Pieces" = some m.cls := findClass_of_methodNamed Bd.named
  have hnm := (name_of_methodNamed Bd.named Bd.method).1
  have X0 : Stand p l e ({ frames := 0, cells := 0, slots := 0, locals := 0 } : Room) s m #[(.ref b144_184)] below meth c s₁ [] 0 0 := Stand.of_body Bd
  have e0 : s₁.heap = h0 := by rw [← hh, Bd.state]; rfl
  have N0 := Fr.nil n0
  have pre0 : ∀ t, Steps p.tables e below (s₁.setTop (mkF m 0 #[.val (.ref b144_184)] [])) t → Steps p.tables e below (s₁.setTop (entryFrame m #[(.ref b144_184)] 1)) t := fun t k => castTop (ef_10 m b144_184) k
  have K0 : Keep h0 h0 [] := Keep.refl h0 []
  have pre244 : ∀ t, Steps p.tables e below (s₁.setTop (mkF m 1 #[.val (.ref b144_184)] [(.ref b144_184)])) t → Steps p.tables e below (s₁.setTop (entryFrame m #[(.ref b144_184)] 1)) t := fun t kt => by
    refine pre0 _ ?_
    show Steps p.tables e below (s₁.setTop (mkF m 0 #[.val (.ref b144_184)] [])) _
    refine XS.aloadN X0.here hx rfl (hb hby d5_0) rfl rfl ?_
    exact kt
  obtain ⟨T245, X245, e245, st245⟩ := getF X0 hx hZ hown (host := "") (Or.inl (hw _ (List.mem_of_getElem? (i := 14) rfl))) Via.refl e0 Fi0 (g := (mkF m 1 #[.val (.ref b144_184)] [(.ref b144_184)])) rfl rfl (hb hby d5_1)
  have pre246 : ∀ t, Steps p.tables e below (T245.setTop (mkF m 4 #[.val (.ref b144_184)] [(.int (p2 + p0))])) t → Steps p.tables e below (s₁.setTop (entryFrame m #[(.ref b144_184)] 1)) t := fun t kt => pre244 _ (st245 _ kt)
  obtain ⟨fs, hr, hrun, hended, hW, hsame⟩ := X245.leave (v := some (.int (p2 + p0))) (fun h => by rw [Bd.returns] at h; cases h)
  refine ⟨_, _, pre246 _ (retI X245 hx Bd.returns (hb hby d5_4) hr), hrun, hended, _, _, rfl, ?_, ⟨_, rfl⟩, hW, hsame.mono (by decide) (by decide)⟩
  show Q_all5_1 Z b144_184 p0 p2 h0 n0 _ T245.heap _
  rw [e245]
  exact ⟨rfl, N0, rfl⟩
def Q_repeats6_1 (Z : State) (b144_184 : Addr) (p1 : Int32) (p3 : Int32) (h0 : Heap) (n0 : Nat) (v : Option Value) (h : Heap) (L : List Loc) : Prop := v = some (.int (p3 + p1)) ∧ Fr n0 L ∧ h = h0
set_option maxRecDepth 65536 in
set_option maxHeartbeats 40000000 in
theorem rm_repeats6_1 (l : Launch) (Z : State) (a0 : Array Value) (hw : ∀ d ∈ tables_1, d.before a0 Z = true) (ws : List Jvm.Cond) (b144_184 : Addr) (p1 : Int32) (p3 : Int32) (h0 : Heap) (n0 : Nat) (O0 : Old Z n0 h0) (Fi0 : Fld Z h0 b144_184 "com/example/hemawire/hemawire/lis/Delimiters$Pieces" "repeats" "I" (.int (p3 + p1))) :
    MetFree l (⟨"com/example/hemawire/hemawire/lis/Delimiters$Pieces", "repeats", "()I"⟩ : MethodName) (head1 (Jvm.Cond.code (⟨"com/example/hemawire/hemawire/lis/Delimiters$Pieces", "repeats", "()I"⟩ : MethodName) prog_24_method_7_code 1 (some .int) :: ws) ({ frames := 0, cells := 0, slots := 0, locals := 0 } : Room)) (fun a U => a = #[(.ref b144_184)] ∧ Z.Warmed39 U.vm ∧ U.heap = h0) (fun _ _ _ _ _ => True) (fun _ U o U' => ∃ v L, o = .returned v ∧ Q_repeats6_1 Z b144_184 p1 p3 h0 n0 v U'.heap L ∧ FrameEnd U o U' L ({ frames := 0, cells := 0, slots := 0, locals := 0 } : Room).cells ({ frames := 0, cells := 0, slots := 0, locals := 0 } : Room).slots) := by
  refine MetFree.of_bodySF (plainFor_of_name pn_5) hisR ?_
  intro p e s m args below meth c s₁ Bd hml0 hP hK
  obtain ⟨rfl, hZ, hh⟩ := hP
  have hx := Bd.exec
  have hby := Bd.bytes
  have hml : c.maxLocals = 1 := hml0
  have hown : s.vm.findClass "com/example/hemawire/hemawire/lis/Delimiters$Pieces" = some m.cls := findClass_of_methodNamed Bd.named
  have hnm := (name_of_methodNamed Bd.named Bd.method).1
  have X0 : Stand p l e ({ frames := 0, cells := 0, slots := 0, locals := 0 } : Room) s m #[(.ref b144_184)] below meth c s₁ [] 0 0 := Stand.of_body Bd
  have e0 : s₁.heap = h0 := by rw [← hh, Bd.state]; rfl
  have N0 := Fr.nil n0
  have pre0 : ∀ t, Steps p.tables e below (s₁.setTop (mkF m 0 #[.val (.ref b144_184)] [])) t → Steps p.tables e below (s₁.setTop (entryFrame m #[(.ref b144_184)] 1)) t := fun t k => castTop (ef_12 m b144_184) k
  have K0 : Keep h0 h0 [] := Keep.refl h0 []
  have pre259 : ∀ t, Steps p.tables e below (s₁.setTop (mkF m 1 #[.val (.ref b144_184)] [(.ref b144_184)])) t → Steps p.tables e below (s₁.setTop (entryFrame m #[(.ref b144_184)] 1)) t := fun t kt => by
    refine pre0 _ ?_
    show Steps p.tables e below (s₁.setTop (mkF m 0 #[.val (.ref b144_184)] [])) _
    refine XS.aloadN X0.here hx rfl (hb hby d6_0) rfl rfl ?_
    exact kt
  obtain ⟨T260, X260, e260, st260⟩ := getF X0 hx hZ hown (host := "") (Or.inl (hw _ (List.mem_of_getElem? (i := 16) rfl))) Via.refl e0 Fi0 (g := (mkF m 1 #[.val (.ref b144_184)] [(.ref b144_184)])) rfl rfl (hb hby d6_1)
  have pre261 : ∀ t, Steps p.tables e below (T260.setTop (mkF m 4 #[.val (.ref b144_184)] [(.int (p3 + p1))])) t → Steps p.tables e below (s₁.setTop (entryFrame m #[(.ref b144_184)] 1)) t := fun t kt => pre259 _ (st260 _ kt)
  obtain ⟨fs, hr, hrun, hended, hW, hsame⟩ := X260.leave (v := some (.int (p3 + p1))) (fun h => by rw [Bd.returns] at h; cases h)
  refine ⟨_, _, pre261 _ (retI X260 hx Bd.returns (hb hby d6_4) hr), hrun, hended, _, _, rfl, ?_, ⟨_, rfl⟩, hW, hsame.mono (by decide) (by decide)⟩
  show Q_repeats6_1 Z b144_184 p1 p3 h0 n0 _ T260.heap _
  rw [e260]
  exact ⟨rfl, N0, rfl⟩
def Q_all5_2 (Z : State) (b144_198 : Addr) (p0 : Int32) (h0 : Heap) (n0 : Nat) (v : Option Value) (h : Heap) (L : List Loc) : Prop := v = some (.int (p0 + (0 : Int32))) ∧ Fr n0 L ∧ h = h0
set_option maxRecDepth 65536 in
set_option maxHeartbeats 40000000 in
theorem rm_all5_2 (l : Launch) (Z : State) (a0 : Array Value) (hw : ∀ d ∈ tables_1, d.before a0 Z = true) (ws : List Jvm.Cond) (b144_198 : Addr) (p0 : Int32) (h0 : Heap) (n0 : Nat) (O0 : Old Z n0 h0) (Fi0 : Fld Z h0 b144_198 "com/example/hemawire/hemawire/lis/Delimiters$Pieces" "all" "I" (.int (p0 + (0 : Int32)))) :
    MetFree l (⟨"com/example/hemawire/hemawire/lis/Delimiters$Pieces", "all", "()I"⟩ : MethodName) (head1 (Jvm.Cond.code (⟨"com/example/hemawire/hemawire/lis/Delimiters$Pieces", "all", "()I"⟩ : MethodName) prog_24_method_6_code 1 (some .int) :: ws) ({ frames := 0, cells := 0, slots := 0, locals := 0 } : Room)) (fun a U => a = #[(.ref b144_198)] ∧ Z.Warmed39 U.vm ∧ U.heap = h0) (fun _ _ _ _ _ => True) (fun _ U o U' => ∃ v L, o = .returned v ∧ Q_all5_2 Z b144_198 p0 h0 n0 v U'.heap L ∧ FrameEnd U o U' L ({ frames := 0, cells := 0, slots := 0, locals := 0 } : Room).cells ({ frames := 0, cells := 0, slots := 0, locals := 0 } : Room).slots) := by
  refine MetFree.of_bodySF (plainFor_of_name pn_5) hisR ?_
  intro p e s m args below meth c s₁ Bd hml0 hP hK
  obtain ⟨rfl, hZ, hh⟩ := hP
  have hx := Bd.exec
  have hby := Bd.bytes
  have hml : c.maxLocals = 1 := hml0
  have hown : s.vm.findClass "com/example/hemawire/hemawire/lis/Delimiters$Pieces" = some m.cls := findClass_of_methodNamed Bd.named
  have hnm := (name_of_methodNamed Bd.named Bd.method).1
  have X0 : Stand p l e ({ frames := 0, cells := 0, slots := 0, locals := 0 } : Room) s m #[(.ref b144_198)] below meth c s₁ [] 0 0 := Stand.of_body Bd
  have e0 : s₁.heap = h0 := by rw [← hh, Bd.state]; rfl
  have N0 := Fr.nil n0
  have pre0 : ∀ t, Steps p.tables e below (s₁.setTop (mkF m 0 #[.val (.ref b144_198)] [])) t → Steps p.tables e below (s₁.setTop (entryFrame m #[(.ref b144_198)] 1)) t := fun t k => castTop (ef_10 m b144_198) k
  have K0 : Keep h0 h0 [] := Keep.refl h0 []
  have pre274 : ∀ t, Steps p.tables e below (s₁.setTop (mkF m 1 #[.val (.ref b144_198)] [(.ref b144_198)])) t → Steps p.tables e below (s₁.setTop (entryFrame m #[(.ref b144_198)] 1)) t := fun t kt => by
    refine pre0 _ ?_
    show Steps p.tables e below (s₁.setTop (mkF m 0 #[.val (.ref b144_198)] [])) _
    refine XS.aloadN X0.here hx rfl (hb hby d5_0) rfl rfl ?_
    exact kt
  obtain ⟨T275, X275, e275, st275⟩ := getF X0 hx hZ hown (host := "") (Or.inl (hw _ (List.mem_of_getElem? (i := 14) rfl))) Via.refl e0 Fi0 (g := (mkF m 1 #[.val (.ref b144_198)] [(.ref b144_198)])) rfl rfl (hb hby d5_1)
  have pre276 : ∀ t, Steps p.tables e below (T275.setTop (mkF m 4 #[.val (.ref b144_198)] [(.int (p0 + (0 : Int32)))])) t → Steps p.tables e below (s₁.setTop (entryFrame m #[(.ref b144_198)] 1)) t := fun t kt => pre274 _ (st275 _ kt)
  obtain ⟨fs, hr, hrun, hended, hW, hsame⟩ := X275.leave (v := some (.int (p0 + (0 : Int32)))) (fun h => by rw [Bd.returns] at h; cases h)
  refine ⟨_, _, pre276 _ (retI X275 hx Bd.returns (hb hby d5_4) hr), hrun, hended, _, _, rfl, ?_, ⟨_, rfl⟩, hW, hsame.mono (by decide) (by decide)⟩
  show Q_all5_2 Z b144_198 p0 h0 n0 _ T275.heap _
  rw [e275]
  exact ⟨rfl, N0, rfl⟩
def Q_repeats6_2 (Z : State) (b144_198 : Addr) (p1 : Int32) (h0 : Heap) (n0 : Nat) (v : Option Value) (h : Heap) (L : List Loc) : Prop := v = some (.int (p1 + (0 : Int32))) ∧ Fr n0 L ∧ h = h0
set_option maxRecDepth 65536 in
set_option maxHeartbeats 40000000 in
theorem rm_repeats6_2 (l : Launch) (Z : State) (a0 : Array Value) (hw : ∀ d ∈ tables_1, d.before a0 Z = true) (ws : List Jvm.Cond) (b144_198 : Addr) (p1 : Int32) (h0 : Heap) (n0 : Nat) (O0 : Old Z n0 h0) (Fi0 : Fld Z h0 b144_198 "com/example/hemawire/hemawire/lis/Delimiters$Pieces" "repeats" "I" (.int (p1 + (0 : Int32)))) :
    MetFree l (⟨"com/example/hemawire/hemawire/lis/Delimiters$Pieces", "repeats", "()I"⟩ : MethodName) (head1 (Jvm.Cond.code (⟨"com/example/hemawire/hemawire/lis/Delimiters$Pieces", "repeats", "()I"⟩ : MethodName) prog_24_method_7_code 1 (some .int) :: ws) ({ frames := 0, cells := 0, slots := 0, locals := 0 } : Room)) (fun a U => a = #[(.ref b144_198)] ∧ Z.Warmed39 U.vm ∧ U.heap = h0) (fun _ _ _ _ _ => True) (fun _ U o U' => ∃ v L, o = .returned v ∧ Q_repeats6_2 Z b144_198 p1 h0 n0 v U'.heap L ∧ FrameEnd U o U' L ({ frames := 0, cells := 0, slots := 0, locals := 0 } : Room).cells ({ frames := 0, cells := 0, slots := 0, locals := 0 } : Room).slots) := by
  refine MetFree.of_bodySF (plainFor_of_name pn_5) hisR ?_
  intro p e s m args below meth c s₁ Bd hml0 hP hK
  obtain ⟨rfl, hZ, hh⟩ := hP
  have hx := Bd.exec
  have hby := Bd.bytes
  have hml : c.maxLocals = 1 := hml0
  have hown : s.vm.findClass "com/example/hemawire/hemawire/lis/Delimiters$Pieces" = some m.cls := findClass_of_methodNamed Bd.named
  have hnm := (name_of_methodNamed Bd.named Bd.method).1
  have X0 : Stand p l e ({ frames := 0, cells := 0, slots := 0, locals := 0 } : Room) s m #[(.ref b144_198)] below meth c s₁ [] 0 0 := Stand.of_body Bd
  have e0 : s₁.heap = h0 := by rw [← hh, Bd.state]; rfl
  have N0 := Fr.nil n0
  have pre0 : ∀ t, Steps p.tables e below (s₁.setTop (mkF m 0 #[.val (.ref b144_198)] [])) t → Steps p.tables e below (s₁.setTop (entryFrame m #[(.ref b144_198)] 1)) t := fun t k => castTop (ef_12 m b144_198) k
  have K0 : Keep h0 h0 [] := Keep.refl h0 []
  have pre286 : ∀ t, Steps p.tables e below (s₁.setTop (mkF m 1 #[.val (.ref b144_198)] [(.ref b144_198)])) t → Steps p.tables e below (s₁.setTop (entryFrame m #[(.ref b144_198)] 1)) t := fun t kt => by
    refine pre0 _ ?_
    show Steps p.tables e below (s₁.setTop (mkF m 0 #[.val (.ref b144_198)] [])) _
    refine XS.aloadN X0.here hx rfl (hb hby d6_0) rfl rfl ?_
    exact kt
  obtain ⟨T287, X287, e287, st287⟩ := getF X0 hx hZ hown (host := "") (Or.inl (hw _ (List.mem_of_getElem? (i := 16) rfl))) Via.refl e0 Fi0 (g := (mkF m 1 #[.val (.ref b144_198)] [(.ref b144_198)])) rfl rfl (hb hby d6_1)
  have pre288 : ∀ t, Steps p.tables e below (T287.setTop (mkF m 4 #[.val (.ref b144_198)] [(.int (p1 + (0 : Int32)))])) t → Steps p.tables e below (s₁.setTop (entryFrame m #[(.ref b144_198)] 1)) t := fun t kt => pre286 _ (st287 _ kt)
  obtain ⟨fs, hr, hrun, hended, hW, hsame⟩ := X287.leave (v := some (.int (p1 + (0 : Int32)))) (fun h => by rw [Bd.returns] at h; cases h)
  refine ⟨_, _, pre288 _ (retI X287 hx Bd.returns (hb hby d6_4) hr), hrun, hended, _, _, rfl, ?_, ⟨_, rfl⟩, hW, hsame.mono (by decide) (by decide)⟩
  show Q_repeats6_2 Z b144_198 p1 h0 n0 _ T287.heap _
  rw [e287]
  exact ⟨rfl, N0, rfl⟩
def Q_all5_3 (Z : State) (b1 : Addr) (p0 : Int32) (h0 : Heap) (n0 : Nat) (v : Option Value) (h : Heap) (L : List Loc) : Prop := v = some (.int p0) ∧ Fr n0 L ∧ h = h0
set_option maxRecDepth 65536 in
set_option maxHeartbeats 40000000 in
theorem rm_all5_3 (l : Launch) (Z : State) (a0 : Array Value) (hw : ∀ d ∈ tables_1, d.before a0 Z = true) (ws : List Jvm.Cond) (b1 : Addr) (p0 : Int32) (h0 : Heap) (n0 : Nat) (O0 : Old Z n0 h0) (Fi0 : Fld Z h0 b1 "com/example/hemawire/hemawire/lis/Delimiters$Pieces" "all" "I" (.int p0)) :
    MetFree l (⟨"com/example/hemawire/hemawire/lis/Delimiters$Pieces", "all", "()I"⟩ : MethodName) (head1 (Jvm.Cond.code (⟨"com/example/hemawire/hemawire/lis/Delimiters$Pieces", "all", "()I"⟩ : MethodName) prog_24_method_6_code 1 (some .int) :: ws) ({ frames := 0, cells := 0, slots := 0, locals := 0 } : Room)) (fun a U => a = #[(.ref b1)] ∧ Z.Warmed39 U.vm ∧ U.heap = h0) (fun _ _ _ _ _ => True) (fun _ U o U' => ∃ v L, o = .returned v ∧ Q_all5_3 Z b1 p0 h0 n0 v U'.heap L ∧ FrameEnd U o U' L ({ frames := 0, cells := 0, slots := 0, locals := 0 } : Room).cells ({ frames := 0, cells := 0, slots := 0, locals := 0 } : Room).slots) := by
  refine MetFree.of_bodySF (plainFor_of_name pn_5) hisR ?_
  intro p e s m args below meth c s₁ Bd hml0 hP hK
  obtain ⟨rfl, hZ, hh⟩ := hP
  have hx := Bd.exec
  have hby := Bd.bytes
  have hml : c.maxLocals = 1 := hml0
  have hown : s.vm.findClass "com/example/hemawire/hemawire/lis/Delimiters$Pieces" = some m.cls := findClass_of_methodNamed Bd.named
  have hnm := (name_of_methodNamed Bd.named Bd.method).1
  have X0 : Stand p l e ({ frames := 0, cells := 0, slots := 0, locals := 0 } : Room) s m #[(.ref b1)] below meth c s₁ [] 0 0 := Stand.of_body Bd
  have e0 : s₁.heap = h0 := by rw [← hh, Bd.state]; rfl
  have N0 := Fr.nil n0
  have pre0 : ∀ t, Steps p.tables e below (s₁.setTop (mkF m 0 #[.val (.ref b1)] [])) t → Steps p.tables e below (s₁.setTop (entryFrame m #[(.ref b1)] 1)) t := fun t k => castTop (ef_10 m b1) k
  have K0 : Keep h0 h0 [] := Keep.refl h0 []
  have pre298 : ∀ t, Steps p.tables e below (s₁.setTop (mkF m 1 #[.val (.ref b1)] [(.ref b1)])) t → Steps p.tables e below (s₁.setTop (entryFrame m #[(.ref b1)] 1)) t := fun t kt => by
    refine pre0 _ ?_
    show Steps p.tables e below (s₁.setTop (mkF m 0 #[.val (.ref b1)] [])) _
    refine XS.aloadN X0.here hx rfl (hb hby d5_0) rfl rfl ?_
    exact kt
  obtain ⟨T299, X299, e299, st299⟩ := getF X0 hx hZ hown (host := "") (Or.inl (hw _ (List.mem_of_getElem? (i := 14) rfl))) Via.refl e0 Fi0 (g := (mkF m 1 #[.val (.ref b1)] [(.ref b1)])) rfl rfl (hb hby d5_1)
  have pre300 : ∀ t, Steps p.tables e below (T299.setTop (mkF m 4 #[.val (.ref b1)] [(.int p0)])) t → Steps p.tables e below (s₁.setTop (entryFrame m #[(.ref b1)] 1)) t := fun t kt => pre298 _ (st299 _ kt)
  obtain ⟨fs, hr, hrun, hended, hW, hsame⟩ := X299.leave (v := some (.int p0)) (fun h => by rw [Bd.returns] at h; cases h)
  refine ⟨_, _, pre300 _ (retI X299 hx Bd.returns (hb hby d5_4) hr), hrun, hended, _, _, rfl, ?_, ⟨_, rfl⟩, hW, hsame.mono (by decide) (by decide)⟩
  show Q_all5_3 Z b1 p0 h0 n0 _ T299.heap _
  rw [e299]
  exact ⟨rfl, N0, rfl⟩
def Q_repeats6_3 (Z : State) (b1 : Addr) (p1 : Int32) (h0 : Heap) (n0 : Nat) (v : Option Value) (h : Heap) (L : List Loc) : Prop := v = some (.int p1) ∧ Fr n0 L ∧ h = h0
set_option maxRecDepth 65536 in
set_option maxHeartbeats 40000000 in
theorem rm_repeats6_3 (l : Launch) (Z : State) (a0 : Array Value) (hw : ∀ d ∈ tables_1, d.before a0 Z = true) (ws : List Jvm.Cond) (b1 : Addr) (p1 : Int32) (h0 : Heap) (n0 : Nat) (O0 : Old Z n0 h0) (Fi0 : Fld Z h0 b1 "com/example/hemawire/hemawire/lis/Delimiters$Pieces" "repeats" "I" (.int p1)) :
    MetFree l (⟨"com/example/hemawire/hemawire/lis/Delimiters$Pieces", "repeats", "()I"⟩ : MethodName) (head1 (Jvm.Cond.code (⟨"com/example/hemawire/hemawire/lis/Delimiters$Pieces", "repeats", "()I"⟩ : MethodName) prog_24_method_7_code 1 (some .int) :: ws) ({ frames := 0, cells := 0, slots := 0, locals := 0 } : Room)) (fun a U => a = #[(.ref b1)] ∧ Z.Warmed39 U.vm ∧ U.heap = h0) (fun _ _ _ _ _ => True) (fun _ U o U' => ∃ v L, o = .returned v ∧ Q_repeats6_3 Z b1 p1 h0 n0 v U'.heap L ∧ FrameEnd U o U' L ({ frames := 0, cells := 0, slots := 0, locals := 0 } : Room).cells ({ frames := 0, cells := 0, slots := 0, locals := 0 } : Room).slots) := by
  refine MetFree.of_bodySF (plainFor_of_name pn_5) hisR ?_
  intro p e s m args below meth c s₁ Bd hml0 hP hK
  obtain ⟨rfl, hZ, hh⟩ := hP
  have hx := Bd.exec
  have hby := Bd.bytes
  have hml : c.maxLocals = 1 := hml0
  have hown : s.vm.findClass "com/example/hemawire/hemawire/lis/Delimiters$Pieces" = some m.cls := findClass_of_methodNamed Bd.named
  have hnm := (name_of_methodNamed Bd.named Bd.method).1
  have X0 : Stand p l e ({ frames := 0, cells := 0, slots := 0, locals := 0 } : Room) s m #[(.ref b1)] below meth c s₁ [] 0 0 := Stand.of_body Bd
  have e0 : s₁.heap = h0 := by rw [← hh, Bd.state]; rfl
  have N0 := Fr.nil n0
  have pre0 : ∀ t, Steps p.tables e below (s₁.setTop (mkF m 0 #[.val (.ref b1)] [])) t → Steps p.tables e below (s₁.setTop (entryFrame m #[(.ref b1)] 1)) t := fun t k => castTop (ef_12 m b1) k
  have K0 : Keep h0 h0 [] := Keep.refl h0 []
  have pre310 : ∀ t, Steps p.tables e below (s₁.setTop (mkF m 1 #[.val (.ref b1)] [(.ref b1)])) t → Steps p.tables e below (s₁.setTop (entryFrame m #[(.ref b1)] 1)) t := fun t kt => by
    refine pre0 _ ?_
    show Steps p.tables e below (s₁.setTop (mkF m 0 #[.val (.ref b1)] [])) _
    refine XS.aloadN X0.here hx rfl (hb hby d6_0) rfl rfl ?_
    exact kt
  obtain ⟨T311, X311, e311, st311⟩ := getF X0 hx hZ hown (host := "") (Or.inl (hw _ (List.mem_of_getElem? (i := 16) rfl))) Via.refl e0 Fi0 (g := (mkF m 1 #[.val (.ref b1)] [(.ref b1)])) rfl rfl (hb hby d6_1)
  have pre312 : ∀ t, Steps p.tables e below (T311.setTop (mkF m 4 #[.val (.ref b1)] [(.int p1)])) t → Steps p.tables e below (s₁.setTop (entryFrame m #[(.ref b1)] 1)) t := fun t kt => pre310 _ (st311 _ kt)
  obtain ⟨fs, hr, hrun, hended, hW, hsame⟩ := X311.leave (v := some (.int p1)) (fun h => by rw [Bd.returns] at h; cases h)
  refine ⟨_, _, pre312 _ (retI X311 hx Bd.returns (hb hby d6_4) hr), hrun, hended, _, _, rfl, ?_, ⟨_, rfl⟩, hW, hsame.mono (by decide) (by decide)⟩
  show Q_repeats6_3 Z b1 p1 h0 n0 _ T311.heap _
  rw [e311]
  exact ⟨rfl, N0, rfl⟩
def Q_law (Z : State) (p0 : Int32) (p1 : Int32) (p2 : Int32) (p3 : Int32) (a_NONE : Addr) (h0 : Heap) (n0 : Nat) (v : Option Value) (h : Heap) (L : List Loc) : Prop := v = some (.int (1 : Int32)) ∧ Fr n0 L
set_option maxRecDepth 65536 in
set_option maxHeartbeats 40000000 in
theorem rm_law (l : Launch) (Z : State) (a0 : Array Value) (hw : ∀ d ∈ tables_1, d.before a0 Z = true) (ws : List Jvm.Cond) (p0 : Int32) (p1 : Int32) (p2 : Int32) (p3 : Int32) (a_NONE : Addr) (h0 : Heap) (n0 : Nat) (O0 : Old Z n0 h0) (G0 : Sta Z Z.heap "com/example/hemawire/hemawire/lis/Delimiters$Pieces" "NONE" "Lcom/example/hemawire/hemawire/lis/Delimiters$Pieces;" (.ref a_NONE)) (G1 : Exa Z Z.heap a_NONE "com/example/hemawire/hemawire/lis/Delimiters$Pieces") (G2 : Fld Z Z.heap a_NONE "com/example/hemawire/hemawire/lis/Delimiters$Pieces" "all" "I" (.int (0 : Int32))) (G3 : Fld Z Z.heap a_NONE "com/example/hemawire/hemawire/lis/Delimiters$Pieces" "repeats" "I" (.int (0 : Int32))) :
    MetFree l x (head1 (Jvm.Cond.code x code maxLocals ret :: ws) room_1) (fun a U => a = #[(.int p0), (.int p1), (.int p2), (.int p3)] ∧ Z.Warmed39 U.vm ∧ U.heap = h0) (fun _ _ _ _ _ => True) (fun _ U o U' => ∃ v L, o = .returned v ∧ Q_law Z p0 p1 p2 p3 a_NONE h0 n0 v U'.heap L ∧ FrameEnd U o U' L room_1.cells room_1.slots) := by
  refine MetFree.of_bodySF (plainFor_of_name pn_0) hisR ?_
  intro p e s m args below meth c s₁ Bd hml0 hP hK
  obtain ⟨rfl, hZ, hh⟩ := hP
  have hx := Bd.exec
  have hby := Bd.bytes
  have hml : c.maxLocals = 13 := hml0
  have hown : s.vm.findClass "com/example/hemawire/hemawire/lis/PiecesPlusPinLaw" = some m.cls := findClass_of_methodNamed Bd.named
  have hnm := (name_of_methodNamed Bd.named Bd.method).1
  have X0 : Stand p l e room_1 s m #[(.int p0), (.int p1), (.int p2), (.int p3)] below meth c s₁ [] 0 0 := Stand.of_body Bd
  have e0 : s₁.heap = h0 := by rw [← hh, Bd.state]; rfl
  have N0 := Fr.nil n0
  have pre0 : ∀ t, Steps p.tables e below (s₁.setTop (mkF m 0 #[.val (.int p0), .val (.int p1), .val (.int p2), .val (.int p3), .unset, .unset, .unset, .unset, .unset, .unset, .unset, .unset, .unset] [])) t → Steps p.tables e below (s₁.setTop (entryFrame m #[(.int p0), (.int p1), (.int p2), (.int p3)] maxLocals)) t := fun t k => castTop (ef_1 m p0 p1 p2 p3) k
  have K0 : Keep h0 h0 [] := Keep.refl h0 []
  obtain ⟨T1, h1, X1, e1, E1, A1, D1, -, st1⟩ := newO X0 hx hZ hown (hw _ (List.mem_of_getElem? (i := 0) rfl)) (hw _ (List.mem_of_getElem? (i := 1) rfl)) (hw _ (List.mem_of_getElem? (i := 2) rfl)) e0 (g := (mkF m 0 #[.val (.int p0), .val (.int p1), .val (.int p2), .val (.int p3), .unset, .unset, .unset, .unset, .unset, .unset, .unset, .unset, .unset] [])) rfl (hb hby at_0) (by decide) (by decide)
  obtain ⟨b1, g1⟩ : ∃ z, z = h0.size := ⟨_, rfl⟩
  rw [← g1] at A1 D1 st1
  have pre2 : ∀ t, Steps p.tables e below (T1.setTop (mkF m 3 #[.val (.int p0), .val (.int p1), .val (.int p2), .val (.int p3), .unset, .unset, .unset, .unset, .unset, .unset, .unset, .unset, .unset] [(.ref b1)])) t → Steps p.tables e below (s₁.setTop (entryFrame m #[(.int p0), (.int p1), (.int p2), (.int p3)] maxLocals)) t := fun t kt => pre0 _ (st1 _ kt)
  have O1 := O0.ext E1
  have K1 : Keep h0 h1 [] := K0.ext E1
  have g_b1 : n0 ≤ b1 := Nat.le_trans (Nat.le_trans (Nat.le_of_eq O0.1.symm) O0.2.1) (Nat.le_of_eq g1.symm)
  have sz_b1 : h0.size ≤ b1 := Nat.le_trans K0.1 (Nat.le_of_eq g1.symm)
  have ne_a_NONE_b1 : a_NONE ≠ b1 := Nat.ne_of_lt (Nat.lt_of_lt_of_le (G1.ext O0.2).lt (Nat.le_of_eq g1.symm))
  have F3 : Exa Z h1 b1 "com/example/hemawire/hemawire/lis/Delimiters$Pieces" := A1
  have F4 : Fld Z h1 b1 "com/example/hemawire/hemawire/lis/Delimiters$Pieces" "all" "I" (.int (0 : Int32)) := D1 (Or.inr (hw _ (List.mem_of_getElem? (i := 15) rfl))) (ty := .int) (by decide)
  have F5 : Fld Z h1 b1 "com/example/hemawire/hemawire/lis/Delimiters$Pieces" "repeats" "I" (.int (0 : Int32)) := D1 (Or.inr (hw _ (List.mem_of_getElem? (i := 17) rfl))) (ty := .int) (by decide)
  have pre6 : ∀ t, Steps p.tables e below (T1.setTop (mkF m 6 #[.val (.int p0), .val (.int p1), .val (.int p2), .val (.int p3), .unset, .unset, .unset, .unset, .unset, .unset, .unset, .unset, .unset] [(.int p1), (.int p0), (.ref b1), (.ref b1)])) t → Steps p.tables e below (s₁.setTop (entryFrame m #[(.int p0), (.int p1), (.int p2), (.int p3)] maxLocals)) t := fun t kt => by
    refine pre2 _ ?_
    show Steps p.tables e below (T1.setTop (mkF m 3 #[.val (.int p0), .val (.int p1), .val (.int p2), .val (.int p3), .unset, .unset, .unset, .unset, .unset, .unset, .unset, .unset, .unset] [(.ref b1)])) _
    refine XS.dup X1.here hx rfl (hb hby at_3) rfl rfl ?_
    show Steps p.tables e below (T1.setTop (mkF m 4 #[.val (.int p0), .val (.int p1), .val (.int p2), .val (.int p3), .unset, .unset, .unset, .unset, .unset, .unset, .unset, .unset, .unset] [(.ref b1), (.ref b1)])) _
    refine XS.iloadN X1.here hx rfl (hb hby at_4) rfl ?_
    show Steps p.tables e below (T1.setTop (mkF m 5 #[.val (.int p0), .val (.int p1), .val (.int p2), .val (.int p3), .unset, .unset, .unset, .unset, .unset, .unset, .unset, .unset, .unset] [(.int p0), (.ref b1), (.ref b1)])) _
    refine XS.iloadN X1.here hx rfl (hb hby at_5) rfl ?_
    exact kt
  obtain ⟨_, _, ⟨T7, L7, k7, n7⟩, -, X7, ⟨Lc7, hQ7, l7, y7, z7⟩, st7⟩ := X1.specialBack hx (y := (⟨"com/example/hemawire/hemawire/lis/Delimiters$Pieces", "<init>", "(II)V"⟩ : MethodName)) rfl hown (mvT hZ (hw _ (List.mem_of_getElem? (i := 3) rfl))) (mvT hZ (hw _ (List.mem_of_getElem? (i := 4) rfl))) (mvT hZ (hw _ (List.mem_of_getElem? (i := 5) rfl))) (by decide) (backOf (W := 1) (rm_init1_0 l Z a0 hw [] b1 p0 p1 h1 n0 O1 g_b1 F3 F4 F5) hZ (hw _ (List.mem_of_getElem? (i := 5) rfl)) (hw _ (List.mem_of_getElem? (i := 2) rfl)) (by decide) (by decide)) (g := (mkF m 6 #[.val (.int p0), .val (.int p1), .val (.int p2), .val (.int p3), .unset, .unset, .unset, .unset, .unset, .unset, .unset, .unset, .unset] [(.int p1), (.int p0), (.ref b1), (.ref b1)])) rfl (by rw [hml]; rfl) (Steps.refl _) (a := b1) (argsL := [(.int p0), (.int p1)]) (rest := [(.ref b1)]) (lenOf pd_7 rfl) rfl (by show 2 * 0 + _ ≤ _; exact Nat.le_of_eq rfl) (hb hby at_6) (fun _ _ => ⟨rfl, e1, (by decide : 1 + 0 ≤ _), (by decide : 2 + 0 ≤ _)⟩)
  dsimp only [Pt.U, Pt.locs, Pt.cells, Pt.slots] at X7 l7 y7 z7 st7 hQ7
  subst l7 y7 z7
  obtain ⟨rfl, M7, Kc7, O7, J7_0, J7_1, J7_2⟩ := hQ7
  obtain ⟨h7, e7⟩ : ∃ z, T7.heap = z := ⟨_, rfl⟩
  rw [e7] at Kc7 O7 J7_0 J7_1 J7_2
  have N7 := Fr.app N0 M7
  have K7 : Keep h0 h7 [] := K1.trans Kc7 (own_all1 (Or.inr sz_b1))
  have pre62 : ∀ t, Steps p.tables e below (T7.setTop (mkF m 9 #[.val (.int p0), .val (.int p1), .val (.int p2), .val (.int p3), .unset, .unset, .unset, .unset, .unset, .unset, .unset, .unset, .unset] [(.ref b1)])) t → Steps p.tables e below (s₁.setTop (entryFrame m #[(.int p0), (.int p1), (.int p2), (.int p3)] maxLocals)) t := fun t kt => pre6 _ (st7.trans kt)
  have pre63 : ∀ t, Steps p.tables e below (T7.setTop (mkF m 11 #[.val (.int p0), .val (.int p1), .val (.int p2), .val (.int p3), .val (.ref b1), .unset, .unset, .unset, .unset, .unset, .unset, .unset, .unset] [])) t → Steps p.tables e below (s₁.setTop (entryFrame m #[(.int p0), (.int p1), (.int p2), (.int p3)] maxLocals)) t := fun t kt => by
    refine pre62 _ ?_
    show Steps p.tables e below (T7.setTop (mkF m 9 #[.val (.int p0), .val (.int p1), .val (.int p2), .val (.int p3), .unset, .unset, .unset, .unset, .unset, .unset, .unset, .unset, .unset] [(.ref b1)])) _
    refine XS.astore X7.here hx rfl (hb hby at_9) rfl rfl (l' := #[.val (.int p0), .val (.int p1), .val (.int p2), .val (.int p3), .val (.ref b1), .unset, .unset, .unset, .unset, .unset, .unset, .unset, .unset]) rfl ?_
    exact kt
  obtain ⟨T64, h64, X64, e64, E64, A64, D64, -, st64⟩ := newO X7 hx hZ hown (hw _ (List.mem_of_getElem? (i := 0) rfl)) (hw _ (List.mem_of_getElem? (i := 1) rfl)) (hw _ (List.mem_of_getElem? (i := 2) rfl)) e7 (g := (mkF m 11 #[.val (.int p0), .val (.int p1), .val (.int p2), .val (.int p3), .val (.ref b1), .unset, .unset, .unset, .unset, .unset, .unset, .unset, .unset] [])) rfl (hb hby at_11) (by decide) (by decide)
  obtain ⟨b64, g64⟩ : ∃ z, z = h7.size := ⟨_, rfl⟩
  rw [← g64] at A64 D64 st64
  have pre65 : ∀ t, Steps p.tables e below (T64.setTop (mkF m 14 #[.val (.int p0), .val (.int p1), .val (.int p2), .val (.int p3), .val (.ref b1), .unset, .unset, .unset, .unset, .unset, .unset, .unset, .unset] [(.ref b64)])) t → Steps p.tables e below (s₁.setTop (entryFrame m #[(.int p0), (.int p1), (.int p2), (.int p3)] maxLocals)) t := fun t kt => pre63 _ (st64 _ kt)
  have O64 := O7.ext E64
  have K64 : Keep h0 h64 [] := K7.ext E64
  have F66 : Exa Z h64 b1 "com/example/hemawire/hemawire/lis/Delimiters$Pieces" := J7_0.ext E64
  have F67 : Fld Z h64 b1 "com/example/hemawire/hemawire/lis/Delimiters$Pieces" "all" "I" (.int p0) := J7_1.ext E64
  have F68 : Fld Z h64 b1 "com/example/hemawire/hemawire/lis/Delimiters$Pieces" "repeats" "I" (.int p1) := J7_2.ext E64
  have g_b64 : n0 ≤ b64 := Nat.le_trans (Nat.le_trans (Nat.le_of_eq O7.1.symm) O7.2.1) (Nat.le_of_eq g64.symm)
  have sz_b64 : h0.size ≤ b64 := Nat.le_trans K7.1 (Nat.le_of_eq g64.symm)
  have ne_a_NONE_b64 : a_NONE ≠ b64 := Nat.ne_of_lt (Nat.lt_of_lt_of_le (G1.ext O7.2).lt (Nat.le_of_eq g64.symm))
  have ne_b1_b64 : b1 ≠ b64 := Nat.ne_of_lt (Nat.lt_of_lt_of_le J7_0.lt (Nat.le_of_eq g64.symm))
  have F69 : Exa Z h64 b64 "com/example/hemawire/hemawire/lis/Delimiters$Pieces" := A64
  have F70 : Fld Z h64 b64 "com/example/hemawire/hemawire/lis/Delimiters$Pieces" "all" "I" (.int (0 : Int32)) := D64 (Or.inr (hw _ (List.mem_of_getElem? (i := 15) rfl))) (ty := .int) (by decide)
  have F71 : Fld Z h64 b64 "com/example/hemawire/hemawire/lis/Delimiters$Pieces" "repeats" "I" (.int (0 : Int32)) := D64 (Or.inr (hw _ (List.mem_of_getElem? (i := 17) rfl))) (ty := .int) (by decide)
  have pre72 : ∀ t, Steps p.tables e below (T64.setTop (mkF m 17 #[.val (.int p0), .val (.int p1), .val (.int p2), .val (.int p3), .val (.ref b1), .unset, .unset, .unset, .unset, .unset, .unset, .unset, .unset] [(.int p3), (.int p2), (.ref b64), (.ref b64)])) t → Steps p.tables e below (s₁.setTop (entryFrame m #[(.int p0), (.int p1), (.int p2), (.int p3)] maxLocals)) t := fun t kt => by
    refine pre65 _ ?_
    show Steps p.tables e below (T64.setTop (mkF m 14 #[.val (.int p0), .val (.int p1), .val (.int p2), .val (.int p3), .val (.ref b1), .unset, .unset, .unset, .unset, .unset, .unset, .unset, .unset] [(.ref b64)])) _
    refine XS.dup X64.here hx rfl (hb hby at_14) rfl rfl ?_
    show Steps p.tables e below (T64.setTop (mkF m 15 #[.val (.int p0), .val (.int p1), .val (.int p2), .val (.int p3), .val (.ref b1), .unset, .unset, .unset, .unset, .unset, .unset, .unset, .unset] [(.ref b64), (.ref b64)])) _
    refine XS.iloadN X64.here hx rfl (hb hby at_15) rfl ?_
    show Steps p.tables e below (T64.setTop (mkF m 16 #[.val (.int p0), .val (.int p1), .val (.int p2), .val (.int p3), .val (.ref b1), .unset, .unset, .unset, .unset, .unset, .unset, .unset, .unset] [(.int p2), (.ref b64), (.ref b64)])) _
    refine XS.iloadN X64.here hx rfl (hb hby at_16) rfl ?_
    exact kt
  obtain ⟨_, _, ⟨T73, L73, k73, n73⟩, -, X73, ⟨Lc73, hQ73, l73, y73, z73⟩, st73⟩ := X64.specialBack hx (y := (⟨"com/example/hemawire/hemawire/lis/Delimiters$Pieces", "<init>", "(II)V"⟩ : MethodName)) rfl hown (mvT hZ (hw _ (List.mem_of_getElem? (i := 3) rfl))) (mvT hZ (hw _ (List.mem_of_getElem? (i := 4) rfl))) (mvT hZ (hw _ (List.mem_of_getElem? (i := 5) rfl))) (by decide) (backOf (W := 1) (rm_init1_0 l Z a0 hw [] b64 p2 p3 h64 n0 O64 g_b64 F69 F70 F71) hZ (hw _ (List.mem_of_getElem? (i := 5) rfl)) (hw _ (List.mem_of_getElem? (i := 2) rfl)) (by decide) (by decide)) (g := (mkF m 17 #[.val (.int p0), .val (.int p1), .val (.int p2), .val (.int p3), .val (.ref b1), .unset, .unset, .unset, .unset, .unset, .unset, .unset, .unset] [(.int p3), (.int p2), (.ref b64), (.ref b64)])) rfl (by rw [hml]; rfl) (Steps.refl _) (a := b64) (argsL := [(.int p2), (.int p3)]) (rest := [(.ref b64)]) (lenOf pd_7 rfl) rfl (by show 2 * 0 + _ ≤ _; exact Nat.le_of_eq rfl) (hb hby at_17) (fun _ _ => ⟨rfl, e64, (by decide : 2 + 0 ≤ _), (by decide : 4 + 0 ≤ _)⟩)
  dsimp only [Pt.U, Pt.locs, Pt.cells, Pt.slots] at X73 l73 y73 z73 st73 hQ73
  subst l73 y73 z73
  obtain ⟨rfl, M73, Kc73, O73, J73_0, J73_1, J73_2⟩ := hQ73
  obtain ⟨h73, e73⟩ : ∃ z, T73.heap = z := ⟨_, rfl⟩
  rw [e73] at Kc73 O73 J73_0 J73_1 J73_2
  have N73 := Fr.app N7 M73
  have K73 : Keep h0 h73 [] := K64.trans Kc73 (own_all1 (Or.inr sz_b64))
  have pre74 : ∀ t, Steps p.tables e below (T73.setTop (mkF m 20 #[.val (.int p0), .val (.int p1), .val (.int p2), .val (.int p3), .val (.ref b1), .unset, .unset, .unset, .unset, .unset, .unset, .unset, .unset] [(.ref b64)])) t → Steps p.tables e below (s₁.setTop (entryFrame m #[(.int p0), (.int p1), (.int p2), (.int p3)] maxLocals)) t := fun t kt => pre72 _ (st73.trans kt)
  have F75 : Exa Z h73 b1 "com/example/hemawire/hemawire/lis/Delimiters$Pieces" := F66.keep Kc73
  have F76 : Fld Z h73 b1 "com/example/hemawire/hemawire/lis/Delimiters$Pieces" "all" "I" (.int p0) := F67.keep Kc73 (own_nm1 ne_b1_b64)
  have F77 : Fld Z h73 b1 "com/example/hemawire/hemawire/lis/Delimiters$Pieces" "repeats" "I" (.int p1) := F68.keep Kc73 (own_nm1 ne_b1_b64)
  have pre78 : ∀ t, Steps p.tables e below (T73.setTop (mkF m 26 #[.val (.int p0), .val (.int p1), .val (.int p2), .val (.int p3), .val (.ref b1), .val (.ref b64), .unset, .unset, .unset, .unset, .unset, .unset, .unset] [(.ref b64), (.ref b1)])) t → Steps p.tables e below (s₁.setTop (entryFrame m #[(.int p0), (.int p1), (.int p2), (.int p3)] maxLocals)) t := fun t kt => by
    refine pre74 _ ?_
    show Steps p.tables e below (T73.setTop (mkF m 20 #[.val (.int p0), .val (.int p1), .val (.int p2), .val (.int p3), .val (.ref b1), .unset, .unset, .unset, .unset, .unset, .unset, .unset, .unset] [(.ref b64)])) _
    refine XS.astore X73.here hx rfl (hb hby at_20) rfl rfl (l' := #[.val (.int p0), .val (.int p1), .val (.int p2), .val (.int p3), .val (.ref b1), .val (.ref b64), .unset, .unset, .unset, .unset, .unset, .unset, .unset]) rfl ?_
    show Steps p.tables e below (T73.setTop (mkF m 22 #[.val (.int p0), .val (.int p1), .val (.int p2), .val (.int p3), .val (.ref b1), .val (.ref b64), .unset, .unset, .unset, .unset, .unset, .unset, .unset] [])) _
    refine XS.aload X73.here hx rfl (hb hby at_22) rfl rfl ?_
    show Steps p.tables e below (T73.setTop (mkF m 24 #[.val (.int p0), .val (.int p1), .val (.int p2), .val (.int p3), .val (.ref b1), .val (.ref b64), .unset, .unset, .unset, .unset, .unset, .unset, .unset] [(.ref b1)])) _
    refine XS.aload X73.here hx rfl (hb hby at_24) rfl rfl ?_
    exact kt
  obtain ⟨cq79, kq79, q79a, q79b, q79c⟩ := isOf hZ e73 F75
  obtain ⟨_, _, ⟨T79, L79, k79, n79⟩, -, X79, ⟨Lc79, hQ79, l79, y79, z79⟩, st79⟩ := X73.virtualBack hx (y := (⟨"com/example/hemawire/hemawire/lis/Delimiters$Pieces", "plus", "(Lcom/example/hemawire/hemawire/lis/Delimiters$Pieces;)Lcom/example/hemawire/hemawire/lis/Delimiters$Pieces;"⟩ : MethodName)) (z := (⟨"com/example/hemawire/hemawire/lis/Delimiters$Pieces", "plus", "(Lcom/example/hemawire/hemawire/lis/Delimiters$Pieces;)Lcom/example/hemawire/hemawire/lis/Delimiters$Pieces;"⟩ : MethodName)) hown (mvT hZ (hw _ (List.mem_of_getElem? (i := 18) rfl))) (mvT hZ (hw _ (List.mem_of_getElem? (i := 19) rfl))) (notFace_of_selects (args := #[]) (mvT hZ (hw _ (List.mem_of_getElem? (i := 21) rfl)))) (mvT hZ (hw _ (List.mem_of_getElem? (i := 21) rfl))) (mvT hZ (hw _ (List.mem_of_getElem? (i := 20) rfl))) (by decide) (backOf (W := 0) (rm_plus4_0 l Z a0 hw [] b1 b64 p0 p1 p2 p3 h73 n0 O73 F75 F76 F77 J73_0 J73_1 J73_2) hZ (hw _ (List.mem_of_getElem? (i := 22) rfl)) (hw _ (List.mem_of_getElem? (i := 2) rfl)) (by decide) (by decide)) q79a q79c (g := (mkF m 26 #[.val (.int p0), .val (.int p1), .val (.int p2), .val (.int p3), .val (.ref b1), .val (.ref b64), .unset, .unset, .unset, .unset, .unset, .unset, .unset] [(.ref b64), (.ref b1)])) rfl (by rw [hml]; rfl) (Steps.refl _) (argsL := [(.ref b64)]) (rest := []) (lenOf pd_9 rfl) rfl (by show 2 * 0 + _ ≤ _; exact Nat.le_of_eq rfl) (hb hby at_26) (fun _ _ => ⟨rfl, e73, (by decide : 2 + 1 ≤ _), (by decide : 4 + 2 ≤ _)⟩)
  dsimp only [Pt.U, Pt.locs, Pt.cells, Pt.slots] at X79 l79 y79 z79 st79 hQ79
  subst l79 y79 z79
  obtain ⟨b144_79, rfl, M79, Kc79, O79, J79_0, J79_1, J79_2, P79_0⟩ := hQ79
  obtain ⟨h79, e79⟩ : ∃ z, T79.heap = z := ⟨_, rfl⟩
  rw [e79] at Kc79 O79 J79_0 J79_1 J79_2
  try rw [e79] at P79_0
  have N79 := Fr.app N73 M79
  have K79 : Keep h0 h79 [] := K73.trans Kc79 (own_all0 )
  have pre176 : ∀ t, Steps p.tables e below (T79.setTop (mkF m 29 #[.val (.int p0), .val (.int p1), .val (.int p2), .val (.int p3), .val (.ref b1), .val (.ref b64), .unset, .unset, .unset, .unset, .unset, .unset, .unset] [(.ref b144_79)])) t → Steps p.tables e below (s₁.setTop (entryFrame m #[(.int p0), (.int p1), (.int p2), (.int p3)] maxLocals)) t := fun t kt => pre78 _ (st79.trans kt)
  have F177 : Exa Z h79 b1 "com/example/hemawire/hemawire/lis/Delimiters$Pieces" := F75.keep Kc79
  have F178 : Fld Z h79 b1 "com/example/hemawire/hemawire/lis/Delimiters$Pieces" "all" "I" (.int p0) := F76.keep Kc79 (own_nm0 )
  have F179 : Fld Z h79 b1 "com/example/hemawire/hemawire/lis/Delimiters$Pieces" "repeats" "I" (.int p1) := F77.keep Kc79 (own_nm0 )
  have F180 : Exa Z h79 b64 "com/example/hemawire/hemawire/lis/Delimiters$Pieces" := J73_0.keep Kc79
  have F181 : Fld Z h79 b64 "com/example/hemawire/hemawire/lis/Delimiters$Pieces" "all" "I" (.int p2) := J73_1.keep Kc79 (own_nm0 )
  have F182 : Fld Z h79 b64 "com/example/hemawire/hemawire/lis/Delimiters$Pieces" "repeats" "I" (.int p3) := J73_2.keep Kc79 (own_nm0 )
  have sz_b144_79 : h0.size ≤ b144_79 := Nat.le_trans K73.1 P79_0
  have ne_a_NONE_b144_79 : a_NONE ≠ b144_79 := Nat.ne_of_lt (Nat.lt_of_lt_of_le (G1.ext O73.2).lt P79_0)
  have ne_b1_b144_79 : b1 ≠ b144_79 := Nat.ne_of_lt (Nat.lt_of_lt_of_le F75.lt P79_0)
  have ne_b64_b144_79 : b64 ≠ b144_79 := Nat.ne_of_lt (Nat.lt_of_lt_of_le J73_0.lt P79_0)
  have g_b144_79 : n0 ≤ b144_79 := Nat.le_trans (Nat.le_trans (Nat.le_of_eq O0.1.symm) O0.2.1) sz_b144_79
  have pre183 : ∀ t, Steps p.tables e below (T79.setTop (mkF m 35 #[.val (.int p0), .val (.int p1), .val (.int p2), .val (.int p3), .val (.ref b1), .val (.ref b64), .val (.ref b144_79), .unset, .unset, .unset, .unset, .unset, .unset] [(.ref b1), (.ref b64)])) t → Steps p.tables e below (s₁.setTop (entryFrame m #[(.int p0), (.int p1), (.int p2), (.int p3)] maxLocals)) t := fun t kt => by
    refine pre176 _ ?_
    show Steps p.tables e below (T79.setTop (mkF m 29 #[.val (.int p0), .val (.int p1), .val (.int p2), .val (.int p3), .val (.ref b1), .val (.ref b64), .unset, .unset, .unset, .unset, .unset, .unset, .unset] [(.ref b144_79)])) _
    refine XS.astore X79.here hx rfl (hb hby at_29) rfl rfl (l' := #[.val (.int p0), .val (.int p1), .val (.int p2), .val (.int p3), .val (.ref b1), .val (.ref b64), .val (.ref b144_79), .unset, .unset, .unset, .unset, .unset, .unset]) rfl ?_
    show Steps p.tables e below (T79.setTop (mkF m 31 #[.val (.int p0), .val (.int p1), .val (.int p2), .val (.int p3), .val (.ref b1), .val (.ref b64), .val (.ref b144_79), .unset, .unset, .unset, .unset, .unset, .unset] [])) _
    refine XS.aload X79.here hx rfl (hb hby at_31) rfl rfl ?_
    show Steps p.tables e below (T79.setTop (mkF m 33 #[.val (.int p0), .val (.int p1), .val (.int p2), .val (.int p3), .val (.ref b1), .val (.ref b64), .val (.ref b144_79), .unset, .unset, .unset, .unset, .unset, .unset] [(.ref b64)])) _
    refine XS.aload X79.here hx rfl (hb hby at_33) rfl rfl ?_
    exact kt
  obtain ⟨cq184, kq184, q184a, q184b, q184c⟩ := isOf hZ e79 F180
  obtain ⟨_, _, ⟨T184, L184, k184, n184⟩, -, X184, ⟨Lc184, hQ184, l184, y184, z184⟩, st184⟩ := X79.virtualBack hx (y := (⟨"com/example/hemawire/hemawire/lis/Delimiters$Pieces", "plus", "(Lcom/example/hemawire/hemawire/lis/Delimiters$Pieces;)Lcom/example/hemawire/hemawire/lis/Delimiters$Pieces;"⟩ : MethodName)) (z := (⟨"com/example/hemawire/hemawire/lis/Delimiters$Pieces", "plus", "(Lcom/example/hemawire/hemawire/lis/Delimiters$Pieces;)Lcom/example/hemawire/hemawire/lis/Delimiters$Pieces;"⟩ : MethodName)) hown (mvT hZ (hw _ (List.mem_of_getElem? (i := 18) rfl))) (mvT hZ (hw _ (List.mem_of_getElem? (i := 19) rfl))) (notFace_of_selects (args := #[]) (mvT hZ (hw _ (List.mem_of_getElem? (i := 21) rfl)))) (mvT hZ (hw _ (List.mem_of_getElem? (i := 21) rfl))) (mvT hZ (hw _ (List.mem_of_getElem? (i := 20) rfl))) (by decide) (backOf (W := 0) (rm_plus4_0 l Z a0 hw [] b64 b1 p2 p3 p0 p1 h79 n0 O79 F180 F181 F182 F177 F178 F179) hZ (hw _ (List.mem_of_getElem? (i := 22) rfl)) (hw _ (List.mem_of_getElem? (i := 2) rfl)) (by decide) (by decide)) q184a q184c (g := (mkF m 35 #[.val (.int p0), .val (.int p1), .val (.int p2), .val (.int p3), .val (.ref b1), .val (.ref b64), .val (.ref b144_79), .unset, .unset, .unset, .unset, .unset, .unset] [(.ref b1), (.ref b64)])) rfl (by rw [hml]; rfl) (Steps.refl _) (argsL := [(.ref b1)]) (rest := []) (lenOf pd_9 rfl) rfl (by show 2 * 0 + _ ≤ _; exact Nat.le_of_eq rfl) (hb hby at_35) (fun _ _ => ⟨rfl, e79, (by decide : 3 + 1 ≤ _), (by decide : 6 + 2 ≤ _)⟩)
  dsimp only [Pt.U, Pt.locs, Pt.cells, Pt.slots] at X184 l184 y184 z184 st184 hQ184
  subst l184 y184 z184
  obtain ⟨b144_184, rfl, M184, Kc184, O184, J184_0, J184_1, J184_2, P184_0⟩ := hQ184
  obtain ⟨h184, e184⟩ : ∃ z, T184.heap = z := ⟨_, rfl⟩
  rw [e184] at Kc184 O184 J184_0 J184_1 J184_2
  try rw [e184] at P184_0
  have N184 := Fr.app N79 M184
  have K184 : Keep h0 h184 [] := K79.trans Kc184 (own_all0 )
  have pre185 : ∀ t, Steps p.tables e below (T184.setTop (mkF m 38 #[.val (.int p0), .val (.int p1), .val (.int p2), .val (.int p3), .val (.ref b1), .val (.ref b64), .val (.ref b144_79), .unset, .unset, .unset, .unset, .unset, .unset] [(.ref b144_184)])) t → Steps p.tables e below (s₁.setTop (entryFrame m #[(.int p0), (.int p1), (.int p2), (.int p3)] maxLocals)) t := fun t kt => pre183 _ (st184.trans kt)
  have F186 : Exa Z h184 b1 "com/example/hemawire/hemawire/lis/Delimiters$Pieces" := F177.keep Kc184
  have F187 : Fld Z h184 b1 "com/example/hemawire/hemawire/lis/Delimiters$Pieces" "all" "I" (.int p0) := F178.keep Kc184 (own_nm0 )
  have F188 : Fld Z h184 b1 "com/example/hemawire/hemawire/lis/Delimiters$Pieces" "repeats" "I" (.int p1) := F179.keep Kc184 (own_nm0 )
  have F189 : Exa Z h184 b64 "com/example/hemawire/hemawire/lis/Delimiters$Pieces" := F180.keep Kc184
  have F190 : Fld Z h184 b64 "com/example/hemawire/hemawire/lis/Delimiters$Pieces" "all" "I" (.int p2) := F181.keep Kc184 (own_nm0 )
  have F191 : Fld Z h184 b64 "com/example/hemawire/hemawire/lis/Delimiters$Pieces" "repeats" "I" (.int p3) := F182.keep Kc184 (own_nm0 )
  have F192 : Exa Z h184 b144_79 "com/example/hemawire/hemawire/lis/Delimiters$Pieces" := J79_0.keep Kc184
  have F193 : Fld Z h184 b144_79 "com/example/hemawire/hemawire/lis/Delimiters$Pieces" "all" "I" (.int (p0 + p2)) := J79_1.keep Kc184 (own_nm0 )
  have F194 : Fld Z h184 b144_79 "com/example/hemawire/hemawire/lis/Delimiters$Pieces" "repeats" "I" (.int (p1 + p3)) := J79_2.keep Kc184 (own_nm0 )
  have sz_b144_184 : h0.size ≤ b144_184 := Nat.le_trans K79.1 P184_0
  have ne_a_NONE_b144_184 : a_NONE ≠ b144_184 := Nat.ne_of_lt (Nat.lt_of_lt_of_le (G1.ext O79.2).lt P184_0)
  have ne_b1_b144_184 : b1 ≠ b144_184 := Nat.ne_of_lt (Nat.lt_of_lt_of_le F177.lt P184_0)
  have ne_b64_b144_184 : b64 ≠ b144_184 := Nat.ne_of_lt (Nat.lt_of_lt_of_le F180.lt P184_0)
  have ne_b144_79_b144_184 : b144_79 ≠ b144_184 := Nat.ne_of_lt (Nat.lt_of_lt_of_le J79_0.lt P184_0)
  have g_b144_184 : n0 ≤ b144_184 := Nat.le_trans (Nat.le_trans (Nat.le_of_eq O0.1.symm) O0.2.1) sz_b144_184
  have pre195 : ∀ t, Steps p.tables e below (T184.setTop (mkF m 42 #[.val (.int p0), .val (.int p1), .val (.int p2), .val (.int p3), .val (.ref b1), .val (.ref b64), .val (.ref b144_79), .val (.ref b144_184), .unset, .unset, .unset, .unset, .unset] [(.ref b1)])) t → Steps p.tables e below (s₁.setTop (entryFrame m #[(.int p0), (.int p1), (.int p2), (.int p3)] maxLocals)) t := fun t kt => by
    refine pre185 _ ?_
    show Steps p.tables e below (T184.setTop (mkF m 38 #[.val (.int p0), .val (.int p1), .val (.int p2), .val (.int p3), .val (.ref b1), .val (.ref b64), .val (.ref b144_79), .unset, .unset, .unset, .unset, .unset, .unset] [(.ref b144_184)])) _
    refine XS.astore X184.here hx rfl (hb hby at_38) rfl rfl (l' := #[.val (.int p0), .val (.int p1), .val (.int p2), .val (.int p3), .val (.ref b1), .val (.ref b64), .val (.ref b144_79), .val (.ref b144_184), .unset, .unset, .unset, .unset, .unset]) rfl ?_
    show Steps p.tables e below (T184.setTop (mkF m 40 #[.val (.int p0), .val (.int p1), .val (.int p2), .val (.int p3), .val (.ref b1), .val (.ref b64), .val (.ref b144_79), .val (.ref b144_184), .unset, .unset, .unset, .unset, .unset] [])) _
    refine XS.aload X184.here hx rfl (hb hby at_40) rfl rfl ?_
    exact kt
  obtain ⟨T196, X196, e196, st196⟩ := getS2 X184 hx hZ hown (host := "") (Or.inl (hw _ (List.mem_of_getElem? (i := 25) rfl))) Via.refl e184 (G0.ext O184.2) (g := (mkF m 42 #[.val (.int p0), .val (.int p1), .val (.int p2), .val (.int p3), .val (.ref b1), .val (.ref b64), .val (.ref b144_79), .val (.ref b144_184), .unset, .unset, .unset, .unset, .unset] [(.ref b1)])) rfl (hb hby at_42)
  have pre197 : ∀ t, Steps p.tables e below (T196.setTop (mkF m 45 #[.val (.int p0), .val (.int p1), .val (.int p2), .val (.int p3), .val (.ref b1), .val (.ref b64), .val (.ref b144_79), .val (.ref b144_184), .unset, .unset, .unset, .unset, .unset] [(.ref a_NONE), (.ref b1)])) t → Steps p.tables e below (s₁.setTop (entryFrame m #[(.int p0), (.int p1), (.int p2), (.int p3)] maxLocals)) t := fun t kt => pre195 _ (st196 _ kt)
  obtain ⟨cq198, kq198, q198a, q198b, q198c⟩ := isOf hZ e196 F186
  obtain ⟨_, _, ⟨T198, L198, k198, n198⟩, -, X198, ⟨Lc198, hQ198, l198, y198, z198⟩, st198⟩ := X196.virtualBack hx (y := (⟨"com/example/hemawire/hemawire/lis/Delimiters$Pieces", "plus", "(Lcom/example/hemawire/hemawire/lis/Delimiters$Pieces;)Lcom/example/hemawire/hemawire/lis/Delimiters$Pieces;"⟩ : MethodName)) (z := (⟨"com/example/hemawire/hemawire/lis/Delimiters$Pieces", "plus", "(Lcom/example/hemawire/hemawire/lis/Delimiters$Pieces;)Lcom/example/hemawire/hemawire/lis/Delimiters$Pieces;"⟩ : MethodName)) hown (mvT hZ (hw _ (List.mem_of_getElem? (i := 18) rfl))) (mvT hZ (hw _ (List.mem_of_getElem? (i := 19) rfl))) (notFace_of_selects (args := #[]) (mvT hZ (hw _ (List.mem_of_getElem? (i := 21) rfl)))) (mvT hZ (hw _ (List.mem_of_getElem? (i := 21) rfl))) (mvT hZ (hw _ (List.mem_of_getElem? (i := 20) rfl))) (by decide) (backOf (W := 0) (rm_plus4_0 l Z a0 hw [] b1 a_NONE p0 p1 ((0 : Int32)) ((0 : Int32)) h184 n0 O184 F186 F187 F188 (G1.ext O184.2) (G2.ext O184.2) (G3.ext O184.2)) hZ (hw _ (List.mem_of_getElem? (i := 22) rfl)) (hw _ (List.mem_of_getElem? (i := 2) rfl)) (by decide) (by decide)) q198a q198c (g := (mkF m 45 #[.val (.int p0), .val (.int p1), .val (.int p2), .val (.int p3), .val (.ref b1), .val (.ref b64), .val (.ref b144_79), .val (.ref b144_184), .unset, .unset, .unset, .unset, .unset] [(.ref a_NONE), (.ref b1)])) rfl (by rw [hml]; rfl) (Steps.refl _) (argsL := [(.ref a_NONE)]) (rest := []) (lenOf pd_9 rfl) rfl (by show 2 * 0 + _ ≤ _; exact Nat.le_of_eq rfl) (hb hby at_45) (fun _ _ => ⟨rfl, e196, (by decide : 4 + 1 ≤ _), (by decide : 8 + 2 ≤ _)⟩)
  dsimp only [Pt.U, Pt.locs, Pt.cells, Pt.slots] at X198 l198 y198 z198 st198 hQ198
  subst l198 y198 z198
  obtain ⟨b144_198, rfl, M198, Kc198, O198, J198_0, J198_1, J198_2, P198_0⟩ := hQ198
  obtain ⟨h198, e198⟩ : ∃ z, T198.heap = z := ⟨_, rfl⟩
  rw [e198] at Kc198 O198 J198_0 J198_1 J198_2
  try rw [e198] at P198_0
  have N198 := Fr.app N184 M198
  have K198 : Keep h0 h198 [] := K184.trans Kc198 (own_all0 )
  have pre199 : ∀ t, Steps p.tables e below (T198.setTop (mkF m 48 #[.val (.int p0), .val (.int p1), .val (.int p2), .val (.int p3), .val (.ref b1), .val (.ref b64), .val (.ref b144_79), .val (.ref b144_184), .unset, .unset, .unset, .unset, .unset] [(.ref b144_198)])) t → Steps p.tables e below (s₁.setTop (entryFrame m #[(.int p0), (.int p1), (.int p2), (.int p3)] maxLocals)) t := fun t kt => pre197 _ (st198.trans kt)
  have F200 : Exa Z h198 b1 "com/example/hemawire/hemawire/lis/Delimiters$Pieces" := F186.keep Kc198
  have F201 : Fld Z h198 b1 "com/example/hemawire/hemawire/lis/Delimiters$Pieces" "all" "I" (.int p0) := F187.keep Kc198 (own_nm0 )
  have F202 : Fld Z h198 b1 "com/example/hemawire/hemawire/lis/Delimiters$Pieces" "repeats" "I" (.int p1) := F188.keep Kc198 (own_nm0 )
  have F203 : Exa Z h198 b64 "com/example/hemawire/hemawire/lis/Delimiters$Pieces" := F189.keep Kc198
  have F204 : Fld Z h198 b64 "com/example/hemawire/hemawire/lis/Delimiters$Pieces" "all" "I" (.int p2) := F190.keep Kc198 (own_nm0 )
  have F205 : Fld Z h198 b64 "com/example/hemawire/hemawire/lis/Delimiters$Pieces" "repeats" "I" (.int p3) := F191.keep Kc198 (own_nm0 )
  have F206 : Exa Z h198 b144_79 "com/example/hemawire/hemawire/lis/Delimiters$Pieces" := F192.keep Kc198
  have F207 : Fld Z h198 b144_79 "com/example/hemawire/hemawire/lis/Delimiters$Pieces" "all" "I" (.int (p0 + p2)) := F193.keep Kc198 (own_nm0 )
  have F208 : Fld Z h198 b144_79 "com/example/hemawire/hemawire/lis/Delimiters$Pieces" "repeats" "I" (.int (p1 + p3)) := F194.keep Kc198 (own_nm0 )
  have F209 : Exa Z h198 b144_184 "com/example/hemawire/hemawire/lis/Delimiters$Pieces" := J184_0.keep Kc198
  have F210 : Fld Z h198 b144_184 "com/example/hemawire/hemawire/lis/Delimiters$Pieces" "all" "I" (.int (p2 + p0)) := J184_1.keep Kc198 (own_nm0 )
  have F211 : Fld Z h198 b144_184 "com/example/hemawire/hemawire/lis/Delimiters$Pieces" "repeats" "I" (.int (p3 + p1)) := J184_2.keep Kc198 (own_nm0 )
  have sz_b144_198 : h0.size ≤ b144_198 := Nat.le_trans K184.1 P198_0
  have ne_a_NONE_b144_198 : a_NONE ≠ b144_198 := Nat.ne_of_lt (Nat.lt_of_lt_of_le (G1.ext O184.2).lt P198_0)
  have ne_b1_b144_198 : b1 ≠ b144_198 := Nat.ne_of_lt (Nat.lt_of_lt_of_le F186.lt P198_0)
  have ne_b64_b144_198 : b64 ≠ b144_198 := Nat.ne_of_lt (Nat.lt_of_lt_of_le F189.lt P198_0)
  have ne_b144_79_b144_198 : b144_79 ≠ b144_198 := Nat.ne_of_lt (Nat.lt_of_lt_of_le F192.lt P198_0)
  have ne_b144_184_b144_198 : b144_184 ≠ b144_198 := Nat.ne_of_lt (Nat.lt_of_lt_of_le J184_0.lt P198_0)
  have g_b144_198 : n0 ≤ b144_198 := Nat.le_trans (Nat.le_trans (Nat.le_of_eq O0.1.symm) O0.2.1) sz_b144_198
  have pre212 : ∀ t, Steps p.tables e below (T198.setTop (mkF m 52 #[.val (.int p0), .val (.int p1), .val (.int p2), .val (.int p3), .val (.ref b1), .val (.ref b64), .val (.ref b144_79), .val (.ref b144_184), .val (.ref b144_198), .unset, .unset, .unset, .unset] [(.ref b144_79)])) t → Steps p.tables e below (s₁.setTop (entryFrame m #[(.int p0), (.int p1), (.int p2), (.int p3)] maxLocals)) t := fun t kt => by
    refine pre199 _ ?_
    show Steps p.tables e below (T198.setTop (mkF m 48 #[.val (.int p0), .val (.int p1), .val (.int p2), .val (.int p3), .val (.ref b1), .val (.ref b64), .val (.ref b144_79), .val (.ref b144_184), .unset, .unset, .unset, .unset, .unset] [(.ref b144_198)])) _
    refine XS.astore X198.here hx rfl (hb hby at_48) rfl rfl (l' := #[.val (.int p0), .val (.int p1), .val (.int p2), .val (.int p3), .val (.ref b1), .val (.ref b64), .val (.ref b144_79), .val (.ref b144_184), .val (.ref b144_198), .unset, .unset, .unset, .unset]) rfl ?_
    show Steps p.tables e below (T198.setTop (mkF m 50 #[.val (.int p0), .val (.int p1), .val (.int p2), .val (.int p3), .val (.ref b1), .val (.ref b64), .val (.ref b144_79), .val (.ref b144_184), .val (.ref b144_198), .unset, .unset, .unset, .unset] [])) _
    refine XS.aload X198.here hx rfl (hb hby at_50) rfl rfl ?_
    exact kt
  obtain ⟨cq213, kq213, q213a, q213b, q213c⟩ := isOf hZ e198 F206
  obtain ⟨_, _, ⟨T213, L213, k213, n213⟩, -, X213, ⟨Lc213, hQ213, l213, y213, z213⟩, st213⟩ := X198.virtualBack hx (y := (⟨"com/example/hemawire/hemawire/lis/Delimiters$Pieces", "all", "()I"⟩ : MethodName)) (z := (⟨"com/example/hemawire/hemawire/lis/Delimiters$Pieces", "all", "()I"⟩ : MethodName)) hown (mvT hZ (hw _ (List.mem_of_getElem? (i := 27) rfl))) (mvT hZ (hw _ (List.mem_of_getElem? (i := 28) rfl))) (notFace_of_selects (args := #[]) (mvT hZ (hw _ (List.mem_of_getElem? (i := 30) rfl)))) (mvT hZ (hw _ (List.mem_of_getElem? (i := 30) rfl))) (mvT hZ (hw _ (List.mem_of_getElem? (i := 29) rfl))) (by decide) (backOf (W := 0) (rm_all5_0 l Z a0 hw [] b144_79 p0 p2 h198 n0 O198 F207) hZ (hw _ (List.mem_of_getElem? (i := 31) rfl)) (hw _ (List.mem_of_getElem? (i := 2) rfl)) (by decide) (by decide)) q213a q213c (g := (mkF m 52 #[.val (.int p0), .val (.int p1), .val (.int p2), .val (.int p3), .val (.ref b1), .val (.ref b64), .val (.ref b144_79), .val (.ref b144_184), .val (.ref b144_198), .unset, .unset, .unset, .unset] [(.ref b144_79)])) rfl (by rw [hml]; rfl) (Steps.refl _) (argsL := []) (rest := []) (lenOf pd_11 rfl) rfl (by show 2 * 0 + _ ≤ _; exact Nat.le_of_eq rfl) (hb hby at_52) (fun _ _ => ⟨rfl, e198, (by decide : 5 + 0 ≤ _), (by decide : 10 + 0 ≤ _)⟩)
  dsimp only [Pt.U, Pt.locs, Pt.cells, Pt.slots] at X213 l213 y213 z213 st213 hQ213
  subst l213 y213 z213
  obtain ⟨rfl, M213, e213⟩ := hQ213
  have N213 := Fr.app N198 M213
  have pre223 : ∀ t, Steps p.tables e below (T213.setTop (mkF m 55 #[.val (.int p0), .val (.int p1), .val (.int p2), .val (.int p3), .val (.ref b1), .val (.ref b64), .val (.ref b144_79), .val (.ref b144_184), .val (.ref b144_198), .unset, .unset, .unset, .unset] [(.int (p0 + p2))])) t → Steps p.tables e below (s₁.setTop (entryFrame m #[(.int p0), (.int p1), (.int p2), (.int p3)] maxLocals)) t := fun t kt => pre212 _ (st213.trans kt)
  have pre224 : ∀ t, Steps p.tables e below (T213.setTop (mkF m 63 #[.val (.int p0), .val (.int p1), .val (.int p2), .val (.int p3), .val (.ref b1), .val (.ref b64), .val (.ref b144_79), .val (.ref b144_184), .val (.ref b144_198), .unset, .unset, .unset, .unset] [(.ref b144_79)])) t → Steps p.tables e below (s₁.setTop (entryFrame m #[(.int p0), (.int p1), (.int p2), (.int p3)] maxLocals)) t := fun t kt => by
    refine pre223 _ ?_
    show Steps p.tables e below (T213.setTop (mkF m 55 #[.val (.int p0), .val (.int p1), .val (.int p2), .val (.int p3), .val (.ref b1), .val (.ref b64), .val (.ref b144_79), .val (.ref b144_184), .val (.ref b144_198), .unset, .unset, .unset, .unset] [(.int (p0 + p2))])) _
    refine XS.iloadN X213.here hx rfl (hb hby at_55) rfl ?_
    show Steps p.tables e below (T213.setTop (mkF m 56 #[.val (.int p0), .val (.int p1), .val (.int p2), .val (.int p3), .val (.ref b1), .val (.ref b64), .val (.ref b144_79), .val (.ref b144_184), .val (.ref b144_198), .unset, .unset, .unset, .unset] [(.int p0), (.int (p0 + p2))])) _
    refine XS.iloadN X213.here hx rfl (hb hby at_56) rfl ?_
    show Steps p.tables e below (T213.setTop (mkF m 57 #[.val (.int p0), .val (.int p1), .val (.int p2), .val (.int p3), .val (.ref b1), .val (.ref b64), .val (.ref b144_79), .val (.ref b144_184), .val (.ref b144_198), .unset, .unset, .unset, .unset] [(.int p2), (.int p0), (.int (p0 + p2))])) _
    refine XS.iadd X213.here hx rfl (hb hby at_57) rfl ?_
    show Steps p.tables e below (T213.setTop (mkF m 58 #[.val (.int p0), .val (.int p1), .val (.int p2), .val (.int p3), .val (.ref b1), .val (.ref b64), .val (.ref b144_79), .val (.ref b144_184), .val (.ref b144_198), .unset, .unset, .unset, .unset] [(.int (p0 + p2)), (.int (p0 + p2))])) _
    refine XS.icmpNo X213.here hx rfl (hb hby at_58) rfl (XT.ii_ne_f rfl) ?_
    show Steps p.tables e below (T213.setTop (mkF m 61 #[.val (.int p0), .val (.int p1), .val (.int p2), .val (.int p3), .val (.ref b1), .val (.ref b64), .val (.ref b144_79), .val (.ref b144_184), .val (.ref b144_198), .unset, .unset, .unset, .unset] [])) _
    refine XS.aload X213.here hx rfl (hb hby at_61) rfl rfl ?_
    exact kt
  obtain ⟨cq225, kq225, q225a, q225b, q225c⟩ := isOf hZ e213 F206
  obtain ⟨_, _, ⟨T225, L225, k225, n225⟩, -, X225, ⟨Lc225, hQ225, l225, y225, z225⟩, st225⟩ := X213.virtualBack hx (y := (⟨"com/example/hemawire/hemawire/lis/Delimiters$Pieces", "repeats", "()I"⟩ : MethodName)) (z := (⟨"com/example/hemawire/hemawire/lis/Delimiters$Pieces", "repeats", "()I"⟩ : MethodName)) hown (mvT hZ (hw _ (List.mem_of_getElem? (i := 32) rfl))) (mvT hZ (hw _ (List.mem_of_getElem? (i := 33) rfl))) (notFace_of_selects (args := #[]) (mvT hZ (hw _ (List.mem_of_getElem? (i := 35) rfl)))) (mvT hZ (hw _ (List.mem_of_getElem? (i := 35) rfl))) (mvT hZ (hw _ (List.mem_of_getElem? (i := 34) rfl))) (by decide) (backOf (W := 0) (rm_repeats6_0 l Z a0 hw [] b144_79 p1 p3 h198 n0 O198 F208) hZ (hw _ (List.mem_of_getElem? (i := 36) rfl)) (hw _ (List.mem_of_getElem? (i := 2) rfl)) (by decide) (by decide)) q225a q225c (g := (mkF m 63 #[.val (.int p0), .val (.int p1), .val (.int p2), .val (.int p3), .val (.ref b1), .val (.ref b64), .val (.ref b144_79), .val (.ref b144_184), .val (.ref b144_198), .unset, .unset, .unset, .unset] [(.ref b144_79)])) rfl (by rw [hml]; rfl) (Steps.refl _) (argsL := []) (rest := []) (lenOf pd_11 rfl) rfl (by show 2 * 0 + _ ≤ _; exact Nat.le_of_eq rfl) (hb hby at_63) (fun _ _ => ⟨rfl, e213, (by decide : 5 + 0 ≤ _), (by decide : 10 + 0 ≤ _)⟩)
  dsimp only [Pt.U, Pt.locs, Pt.cells, Pt.slots] at X225 l225 y225 z225 st225 hQ225
  subst l225 y225 z225
  obtain ⟨rfl, M225, e225⟩ := hQ225
  have N225 := Fr.app N213 M225
  have pre235 : ∀ t, Steps p.tables e below (T225.setTop (mkF m 66 #[.val (.int p0), .val (.int p1), .val (.int p2), .val (.int p3), .val (.ref b1), .val (.ref b64), .val (.ref b144_79), .val (.ref b144_184), .val (.ref b144_198), .unset, .unset, .unset, .unset] [(.int (p1 + p3))])) t → Steps p.tables e below (s₁.setTop (entryFrame m #[(.int p0), (.int p1), (.int p2), (.int p3)] maxLocals)) t := fun t kt => pre224 _ (st225.trans kt)
  have pre236 : ∀ t, Steps p.tables e below (T225.setTop (mkF m 81 #[.val (.int p0), .val (.int p1), .val (.int p2), .val (.int p3), .val (.ref b1), .val (.ref b64), .val (.ref b144_79), .val (.ref b144_184), .val (.ref b144_198), .val (.int (1 : Int32)), .unset, .unset, .unset] [(.ref b144_184)])) t → Steps p.tables e below (s₁.setTop (entryFrame m #[(.int p0), (.int p1), (.int p2), (.int p3)] maxLocals)) t := fun t kt => by
    refine pre235 _ ?_
    show Steps p.tables e below (T225.setTop (mkF m 66 #[.val (.int p0), .val (.int p1), .val (.int p2), .val (.int p3), .val (.ref b1), .val (.ref b64), .val (.ref b144_79), .val (.ref b144_184), .val (.ref b144_198), .unset, .unset, .unset, .unset] [(.int (p1 + p3))])) _
    refine XS.iloadN X225.here hx rfl (hb hby at_66) rfl ?_
    show Steps p.tables e below (T225.setTop (mkF m 67 #[.val (.int p0), .val (.int p1), .val (.int p2), .val (.int p3), .val (.ref b1), .val (.ref b64), .val (.ref b144_79), .val (.ref b144_184), .val (.ref b144_198), .unset, .unset, .unset, .unset] [(.int p1), (.int (p1 + p3))])) _
    refine XS.iloadN X225.here hx rfl (hb hby at_67) rfl ?_
    show Steps p.tables e below (T225.setTop (mkF m 68 #[.val (.int p0), .val (.int p1), .val (.int p2), .val (.int p3), .val (.ref b1), .val (.ref b64), .val (.ref b144_79), .val (.ref b144_184), .val (.ref b144_198), .unset, .unset, .unset, .unset] [(.int p3), (.int p1), (.int (p1 + p3))])) _
    refine XS.iadd X225.here hx rfl (hb hby at_68) rfl ?_
    show Steps p.tables e below (T225.setTop (mkF m 69 #[.val (.int p0), .val (.int p1), .val (.int p2), .val (.int p3), .val (.ref b1), .val (.ref b64), .val (.ref b144_79), .val (.ref b144_184), .val (.ref b144_198), .unset, .unset, .unset, .unset] [(.int (p1 + p3)), (.int (p1 + p3))])) _
    refine XS.icmpNo X225.here hx rfl (hb hby at_69) rfl (XT.ii_ne_f rfl) ?_
    show Steps p.tables e below (T225.setTop (mkF m 72 #[.val (.int p0), .val (.int p1), .val (.int p2), .val (.int p3), .val (.ref b1), .val (.ref b64), .val (.ref b144_79), .val (.ref b144_184), .val (.ref b144_198), .unset, .unset, .unset, .unset] [])) _
    refine XS.iconst X225.here hx rfl (hb hby at_72) ?_
    show Steps p.tables e below (T225.setTop (mkF m 73 #[.val (.int p0), .val (.int p1), .val (.int p2), .val (.int p3), .val (.ref b1), .val (.ref b64), .val (.ref b144_79), .val (.ref b144_184), .val (.ref b144_198), .unset, .unset, .unset, .unset] [(.int (1 : Int32))])) _
    refine XS.goto X225.here hx rfl (pc0 := 73) (pc' := 77) rfl (hb hby at_73) (by decide) (by decide) ?_
    show Steps p.tables e below (T225.setTop (mkF m 77 #[.val (.int p0), .val (.int p1), .val (.int p2), .val (.int p3), .val (.ref b1), .val (.ref b64), .val (.ref b144_79), .val (.ref b144_184), .val (.ref b144_198), .unset, .unset, .unset, .unset] [(.int (1 : Int32))])) _
    refine XS.istore X225.here hx rfl (hb hby at_77) rfl (l' := #[.val (.int p0), .val (.int p1), .val (.int p2), .val (.int p3), .val (.ref b1), .val (.ref b64), .val (.ref b144_79), .val (.ref b144_184), .val (.ref b144_198), .val (.int (1 : Int32)), .unset, .unset, .unset]) rfl ?_
    show Steps p.tables e below (T225.setTop (mkF m 79 #[.val (.int p0), .val (.int p1), .val (.int p2), .val (.int p3), .val (.ref b1), .val (.ref b64), .val (.ref b144_79), .val (.ref b144_184), .val (.ref b144_198), .val (.int (1 : Int32)), .unset, .unset, .unset] [])) _
    refine XS.aload X225.here hx rfl (hb hby at_79) rfl rfl ?_
    exact kt
  obtain ⟨cq237, kq237, q237a, q237b, q237c⟩ := isOf hZ e225 F209
  obtain ⟨_, _, ⟨T237, L237, k237, n237⟩, -, X237, ⟨Lc237, hQ237, l237, y237, z237⟩, st237⟩ := X225.virtualBack hx (y := (⟨"com/example/hemawire/hemawire/lis/Delimiters$Pieces", "all", "()I"⟩ : MethodName)) (z := (⟨"com/example/hemawire/hemawire/lis/Delimiters$Pieces", "all", "()I"⟩ : MethodName)) hown (mvT hZ (hw _ (List.mem_of_getElem? (i := 27) rfl))) (mvT hZ (hw _ (List.mem_of_getElem? (i := 28) rfl))) (notFace_of_selects (args := #[]) (mvT hZ (hw _ (List.mem_of_getElem? (i := 30) rfl)))) (mvT hZ (hw _ (List.mem_of_getElem? (i := 30) rfl))) (mvT hZ (hw _ (List.mem_of_getElem? (i := 29) rfl))) (by decide) (backOf (W := 0) (rm_all5_1 l Z a0 hw [] b144_184 p0 p2 h198 n0 O198 F210) hZ (hw _ (List.mem_of_getElem? (i := 31) rfl)) (hw _ (List.mem_of_getElem? (i := 2) rfl)) (by decide) (by decide)) q237a q237c (g := (mkF m 81 #[.val (.int p0), .val (.int p1), .val (.int p2), .val (.int p3), .val (.ref b1), .val (.ref b64), .val (.ref b144_79), .val (.ref b144_184), .val (.ref b144_198), .val (.int (1 : Int32)), .unset, .unset, .unset] [(.ref b144_184)])) rfl (by rw [hml]; rfl) (Steps.refl _) (argsL := []) (rest := []) (lenOf pd_11 rfl) rfl (by show 2 * 0 + _ ≤ _; exact Nat.le_of_eq rfl) (hb hby at_81) (fun _ _ => ⟨rfl, e225, (by decide : 5 + 0 ≤ _), (by decide : 10 + 0 ≤ _)⟩)
  dsimp only [Pt.U, Pt.locs, Pt.cells, Pt.slots] at X237 l237 y237 z237 st237 hQ237
  subst l237 y237 z237
  obtain ⟨rfl, M237, e237⟩ := hQ237
  have N237 := Fr.app N225 M237
  have pre247 : ∀ t, Steps p.tables e below (T237.setTop (mkF m 84 #[.val (.int p0), .val (.int p1), .val (.int p2), .val (.int p3), .val (.ref b1), .val (.ref b64), .val (.ref b144_79), .val (.ref b144_184), .val (.ref b144_198), .val (.int (1 : Int32)), .unset, .unset, .unset] [(.int (p2 + p0))])) t → Steps p.tables e below (s₁.setTop (entryFrame m #[(.int p0), (.int p1), (.int p2), (.int p3)] maxLocals)) t := fun t kt => pre236 _ (st237.trans kt)
  have pre248 : ∀ t, Steps p.tables e below (T237.setTop (mkF m 86 #[.val (.int p0), .val (.int p1), .val (.int p2), .val (.int p3), .val (.ref b1), .val (.ref b64), .val (.ref b144_79), .val (.ref b144_184), .val (.ref b144_198), .val (.int (1 : Int32)), .unset, .unset, .unset] [(.ref b144_79), (.int (p2 + p0))])) t → Steps p.tables e below (s₁.setTop (entryFrame m #[(.int p0), (.int p1), (.int p2), (.int p3)] maxLocals)) t := fun t kt => by
    refine pre247 _ ?_
    show Steps p.tables e below (T237.setTop (mkF m 84 #[.val (.int p0), .val (.int p1), .val (.int p2), .val (.int p3), .val (.ref b1), .val (.ref b64), .val (.ref b144_79), .val (.ref b144_184), .val (.ref b144_198), .val (.int (1 : Int32)), .unset, .unset, .unset] [(.int (p2 + p0))])) _
    refine XS.aload X237.here hx rfl (hb hby at_84) rfl rfl ?_
    exact kt
  obtain ⟨cq249, kq249, q249a, q249b, q249c⟩ := isOf hZ e237 F206
  obtain ⟨_, _, ⟨T249, L249, k249, n249⟩, -, X249, ⟨Lc249, hQ249, l249, y249, z249⟩, st249⟩ := X237.virtualBack hx (y := (⟨"com/example/hemawire/hemawire/lis/Delimiters$Pieces", "all", "()I"⟩ : MethodName)) (z := (⟨"com/example/hemawire/hemawire/lis/Delimiters$Pieces", "all", "()I"⟩ : MethodName)) hown (mvT hZ (hw _ (List.mem_of_getElem? (i := 27) rfl))) (mvT hZ (hw _ (List.mem_of_getElem? (i := 28) rfl))) (notFace_of_selects (args := #[]) (mvT hZ (hw _ (List.mem_of_getElem? (i := 30) rfl)))) (mvT hZ (hw _ (List.mem_of_getElem? (i := 30) rfl))) (mvT hZ (hw _ (List.mem_of_getElem? (i := 29) rfl))) (by decide) (backOf (W := 1) (rm_all5_0 l Z a0 hw [] b144_79 p0 p2 h198 n0 O198 F207) hZ (hw _ (List.mem_of_getElem? (i := 31) rfl)) (hw _ (List.mem_of_getElem? (i := 2) rfl)) (by decide) (by decide)) q249a q249c (g := (mkF m 86 #[.val (.int p0), .val (.int p1), .val (.int p2), .val (.int p3), .val (.ref b1), .val (.ref b64), .val (.ref b144_79), .val (.ref b144_184), .val (.ref b144_198), .val (.int (1 : Int32)), .unset, .unset, .unset] [(.ref b144_79), (.int (p2 + p0))])) rfl (by rw [hml]; rfl) (Steps.refl _) (argsL := []) (rest := [(.int (p2 + p0))]) (lenOf pd_11 rfl) rfl (by show 2 * 0 + _ ≤ _; exact Nat.le_of_eq rfl) (hb hby at_86) (fun _ _ => ⟨rfl, e237, (by decide : 5 + 0 ≤ _), (by decide : 10 + 0 ≤ _)⟩)
  dsimp only [Pt.U, Pt.locs, Pt.cells, Pt.slots] at X249 l249 y249 z249 st249 hQ249
  subst l249 y249 z249
  obtain ⟨rfl, M249, e249⟩ := hQ249
  have N249 := Fr.app N237 M249
  have pre250 : ∀ t, Steps p.tables e below (T249.setTop (mkF m 89 #[.val (.int p0), .val (.int p1), .val (.int p2), .val (.int p3), .val (.ref b1), .val (.ref b64), .val (.ref b144_79), .val (.ref b144_184), .val (.ref b144_198), .val (.int (1 : Int32)), .unset, .unset, .unset] [(.int (p0 + p2)), (.int (p2 + p0))])) t → Steps p.tables e below (s₁.setTop (entryFrame m #[(.int p0), (.int p1), (.int p2), (.int p3)] maxLocals)) t := fun t kt => pre248 _ (st249.trans kt)
  have pre251 : ∀ t, Steps p.tables e below (T249.setTop (mkF m 94 #[.val (.int p0), .val (.int p1), .val (.int p2), .val (.int p3), .val (.ref b1), .val (.ref b64), .val (.ref b144_79), .val (.ref b144_184), .val (.ref b144_198), .val (.int (1 : Int32)), .unset, .unset, .unset] [(.ref b144_184)])) t → Steps p.tables e below (s₁.setTop (entryFrame m #[(.int p0), (.int p1), (.int p2), (.int p3)] maxLocals)) t := fun t kt => by
    refine pre250 _ ?_
    show Steps p.tables e below (T249.setTop (mkF m 89 #[.val (.int p0), .val (.int p1), .val (.int p2), .val (.int p3), .val (.ref b1), .val (.ref b64), .val (.ref b144_79), .val (.ref b144_184), .val (.ref b144_198), .val (.int (1 : Int32)), .unset, .unset, .unset] [(.int (p0 + p2)), (.int (p2 + p0))])) _
    refine XS.icmpNo X249.here hx rfl (hb hby at_89) rfl (XT.ii_ne_f (Int32.add_comm _ _)) ?_
    show Steps p.tables e below (T249.setTop (mkF m 92 #[.val (.int p0), .val (.int p1), .val (.int p2), .val (.int p3), .val (.ref b1), .val (.ref b64), .val (.ref b144_79), .val (.ref b144_184), .val (.ref b144_198), .val (.int (1 : Int32)), .unset, .unset, .unset] [])) _
    refine XS.aload X249.here hx rfl (hb hby at_92) rfl rfl ?_
    exact kt
  obtain ⟨cq252, kq252, q252a, q252b, q252c⟩ := isOf hZ e249 F209
  obtain ⟨_, _, ⟨T252, L252, k252, n252⟩, -, X252, ⟨Lc252, hQ252, l252, y252, z252⟩, st252⟩ := X249.virtualBack hx (y := (⟨"com/example/hemawire/hemawire/lis/Delimiters$Pieces", "repeats", "()I"⟩ : MethodName)) (z := (⟨"com/example/hemawire/hemawire/lis/Delimiters$Pieces", "repeats", "()I"⟩ : MethodName)) hown (mvT hZ (hw _ (List.mem_of_getElem? (i := 32) rfl))) (mvT hZ (hw _ (List.mem_of_getElem? (i := 33) rfl))) (notFace_of_selects (args := #[]) (mvT hZ (hw _ (List.mem_of_getElem? (i := 35) rfl)))) (mvT hZ (hw _ (List.mem_of_getElem? (i := 35) rfl))) (mvT hZ (hw _ (List.mem_of_getElem? (i := 34) rfl))) (by decide) (backOf (W := 0) (rm_repeats6_1 l Z a0 hw [] b144_184 p1 p3 h198 n0 O198 F211) hZ (hw _ (List.mem_of_getElem? (i := 36) rfl)) (hw _ (List.mem_of_getElem? (i := 2) rfl)) (by decide) (by decide)) q252a q252c (g := (mkF m 94 #[.val (.int p0), .val (.int p1), .val (.int p2), .val (.int p3), .val (.ref b1), .val (.ref b64), .val (.ref b144_79), .val (.ref b144_184), .val (.ref b144_198), .val (.int (1 : Int32)), .unset, .unset, .unset] [(.ref b144_184)])) rfl (by rw [hml]; rfl) (Steps.refl _) (argsL := []) (rest := []) (lenOf pd_11 rfl) rfl (by show 2 * 0 + _ ≤ _; exact Nat.le_of_eq rfl) (hb hby at_94) (fun _ _ => ⟨rfl, e249, (by decide : 5 + 0 ≤ _), (by decide : 10 + 0 ≤ _)⟩)
  dsimp only [Pt.U, Pt.locs, Pt.cells, Pt.slots] at X252 l252 y252 z252 st252 hQ252
  subst l252 y252 z252
  obtain ⟨rfl, M252, e252⟩ := hQ252
  have N252 := Fr.app N249 M252
  have pre262 : ∀ t, Steps p.tables e below (T252.setTop (mkF m 97 #[.val (.int p0), .val (.int p1), .val (.int p2), .val (.int p3), .val (.ref b1), .val (.ref b64), .val (.ref b144_79), .val (.ref b144_184), .val (.ref b144_198), .val (.int (1 : Int32)), .unset, .unset, .unset] [(.int (p3 + p1))])) t → Steps p.tables e below (s₁.setTop (entryFrame m #[(.int p0), (.int p1), (.int p2), (.int p3)] maxLocals)) t := fun t kt => pre251 _ (st252.trans kt)
  have pre263 : ∀ t, Steps p.tables e below (T252.setTop (mkF m 99 #[.val (.int p0), .val (.int p1), .val (.int p2), .val (.int p3), .val (.ref b1), .val (.ref b64), .val (.ref b144_79), .val (.ref b144_184), .val (.ref b144_198), .val (.int (1 : Int32)), .unset, .unset, .unset] [(.ref b144_79), (.int (p3 + p1))])) t → Steps p.tables e below (s₁.setTop (entryFrame m #[(.int p0), (.int p1), (.int p2), (.int p3)] maxLocals)) t := fun t kt => by
    refine pre262 _ ?_
    show Steps p.tables e below (T252.setTop (mkF m 97 #[.val (.int p0), .val (.int p1), .val (.int p2), .val (.int p3), .val (.ref b1), .val (.ref b64), .val (.ref b144_79), .val (.ref b144_184), .val (.ref b144_198), .val (.int (1 : Int32)), .unset, .unset, .unset] [(.int (p3 + p1))])) _
    refine XS.aload X252.here hx rfl (hb hby at_97) rfl rfl ?_
    exact kt
  obtain ⟨cq264, kq264, q264a, q264b, q264c⟩ := isOf hZ e252 F206
  obtain ⟨_, _, ⟨T264, L264, k264, n264⟩, -, X264, ⟨Lc264, hQ264, l264, y264, z264⟩, st264⟩ := X252.virtualBack hx (y := (⟨"com/example/hemawire/hemawire/lis/Delimiters$Pieces", "repeats", "()I"⟩ : MethodName)) (z := (⟨"com/example/hemawire/hemawire/lis/Delimiters$Pieces", "repeats", "()I"⟩ : MethodName)) hown (mvT hZ (hw _ (List.mem_of_getElem? (i := 32) rfl))) (mvT hZ (hw _ (List.mem_of_getElem? (i := 33) rfl))) (notFace_of_selects (args := #[]) (mvT hZ (hw _ (List.mem_of_getElem? (i := 35) rfl)))) (mvT hZ (hw _ (List.mem_of_getElem? (i := 35) rfl))) (mvT hZ (hw _ (List.mem_of_getElem? (i := 34) rfl))) (by decide) (backOf (W := 1) (rm_repeats6_0 l Z a0 hw [] b144_79 p1 p3 h198 n0 O198 F208) hZ (hw _ (List.mem_of_getElem? (i := 36) rfl)) (hw _ (List.mem_of_getElem? (i := 2) rfl)) (by decide) (by decide)) q264a q264c (g := (mkF m 99 #[.val (.int p0), .val (.int p1), .val (.int p2), .val (.int p3), .val (.ref b1), .val (.ref b64), .val (.ref b144_79), .val (.ref b144_184), .val (.ref b144_198), .val (.int (1 : Int32)), .unset, .unset, .unset] [(.ref b144_79), (.int (p3 + p1))])) rfl (by rw [hml]; rfl) (Steps.refl _) (argsL := []) (rest := [(.int (p3 + p1))]) (lenOf pd_11 rfl) rfl (by show 2 * 0 + _ ≤ _; exact Nat.le_of_eq rfl) (hb hby at_99) (fun _ _ => ⟨rfl, e252, (by decide : 5 + 0 ≤ _), (by decide : 10 + 0 ≤ _)⟩)
  dsimp only [Pt.U, Pt.locs, Pt.cells, Pt.slots] at X264 l264 y264 z264 st264 hQ264
  subst l264 y264 z264
  obtain ⟨rfl, M264, e264⟩ := hQ264
  have N264 := Fr.app N252 M264
  have pre265 : ∀ t, Steps p.tables e below (T264.setTop (mkF m 102 #[.val (.int p0), .val (.int p1), .val (.int p2), .val (.int p3), .val (.ref b1), .val (.ref b64), .val (.ref b144_79), .val (.ref b144_184), .val (.ref b144_198), .val (.int (1 : Int32)), .unset, .unset, .unset] [(.int (p1 + p3)), (.int (p3 + p1))])) t → Steps p.tables e below (s₁.setTop (entryFrame m #[(.int p0), (.int p1), (.int p2), (.int p3)] maxLocals)) t := fun t kt => pre263 _ (st264.trans kt)
  have pre266 : ∀ t, Steps p.tables e below (T264.setTop (mkF m 114 #[.val (.int p0), .val (.int p1), .val (.int p2), .val (.int p3), .val (.ref b1), .val (.ref b64), .val (.ref b144_79), .val (.ref b144_184), .val (.ref b144_198), .val (.int (1 : Int32)), .val (.int (1 : Int32)), .unset, .unset] [(.ref b144_198)])) t → Steps p.tables e below (s₁.setTop (entryFrame m #[(.int p0), (.int p1), (.int p2), (.int p3)] maxLocals)) t := fun t kt => by
    refine pre265 _ ?_
    show Steps p.tables e below (T264.setTop (mkF m 102 #[.val (.int p0), .val (.int p1), .val (.int p2), .val (.int p3), .val (.ref b1), .val (.ref b64), .val (.ref b144_79), .val (.ref b144_184), .val (.ref b144_198), .val (.int (1 : Int32)), .unset, .unset, .unset] [(.int (p1 + p3)), (.int (p3 + p1))])) _
    refine XS.icmpNo X264.here hx rfl (hb hby at_102) rfl (XT.ii_ne_f (Int32.add_comm _ _)) ?_
    show Steps p.tables e below (T264.setTop (mkF m 105 #[.val (.int p0), .val (.int p1), .val (.int p2), .val (.int p3), .val (.ref b1), .val (.ref b64), .val (.ref b144_79), .val (.ref b144_184), .val (.ref b144_198), .val (.int (1 : Int32)), .unset, .unset, .unset] [])) _
    refine XS.iconst X264.here hx rfl (hb hby at_105) ?_
    show Steps p.tables e below (T264.setTop (mkF m 106 #[.val (.int p0), .val (.int p1), .val (.int p2), .val (.int p3), .val (.ref b1), .val (.ref b64), .val (.ref b144_79), .val (.ref b144_184), .val (.ref b144_198), .val (.int (1 : Int32)), .unset, .unset, .unset] [(.int (1 : Int32))])) _
    refine XS.goto X264.here hx rfl (pc0 := 106) (pc' := 110) rfl (hb hby at_106) (by decide) (by decide) ?_
    show Steps p.tables e below (T264.setTop (mkF m 110 #[.val (.int p0), .val (.int p1), .val (.int p2), .val (.int p3), .val (.ref b1), .val (.ref b64), .val (.ref b144_79), .val (.ref b144_184), .val (.ref b144_198), .val (.int (1 : Int32)), .unset, .unset, .unset] [(.int (1 : Int32))])) _
    refine XS.istore X264.here hx rfl (hb hby at_110) rfl (l' := #[.val (.int p0), .val (.int p1), .val (.int p2), .val (.int p3), .val (.ref b1), .val (.ref b64), .val (.ref b144_79), .val (.ref b144_184), .val (.ref b144_198), .val (.int (1 : Int32)), .val (.int (1 : Int32)), .unset, .unset]) rfl ?_
    show Steps p.tables e below (T264.setTop (mkF m 112 #[.val (.int p0), .val (.int p1), .val (.int p2), .val (.int p3), .val (.ref b1), .val (.ref b64), .val (.ref b144_79), .val (.ref b144_184), .val (.ref b144_198), .val (.int (1 : Int32)), .val (.int (1 : Int32)), .unset, .unset] [])) _
    refine XS.aload X264.here hx rfl (hb hby at_112) rfl rfl ?_
    exact kt
  obtain ⟨cq267, kq267, q267a, q267b, q267c⟩ := isOf hZ e264 J198_0
  obtain ⟨_, _, ⟨T267, L267, k267, n267⟩, -, X267, ⟨Lc267, hQ267, l267, y267, z267⟩, st267⟩ := X264.virtualBack hx (y := (⟨"com/example/hemawire/hemawire/lis/Delimiters$Pieces", "all", "()I"⟩ : MethodName)) (z := (⟨"com/example/hemawire/hemawire/lis/Delimiters$Pieces", "all", "()I"⟩ : MethodName)) hown (mvT hZ (hw _ (List.mem_of_getElem? (i := 27) rfl))) (mvT hZ (hw _ (List.mem_of_getElem? (i := 28) rfl))) (notFace_of_selects (args := #[]) (mvT hZ (hw _ (List.mem_of_getElem? (i := 30) rfl)))) (mvT hZ (hw _ (List.mem_of_getElem? (i := 30) rfl))) (mvT hZ (hw _ (List.mem_of_getElem? (i := 29) rfl))) (by decide) (backOf (W := 0) (rm_all5_2 l Z a0 hw [] b144_198 p0 h198 n0 O198 J198_1) hZ (hw _ (List.mem_of_getElem? (i := 31) rfl)) (hw _ (List.mem_of_getElem? (i := 2) rfl)) (by decide) (by decide)) q267a q267c (g := (mkF m 114 #[.val (.int p0), .val (.int p1), .val (.int p2), .val (.int p3), .val (.ref b1), .val (.ref b64), .val (.ref b144_79), .val (.ref b144_184), .val (.ref b144_198), .val (.int (1 : Int32)), .val (.int (1 : Int32)), .unset, .unset] [(.ref b144_198)])) rfl (by rw [hml]; rfl) (Steps.refl _) (argsL := []) (rest := []) (lenOf pd_11 rfl) rfl (by show 2 * 0 + _ ≤ _; exact Nat.le_of_eq rfl) (hb hby at_114) (fun _ _ => ⟨rfl, e264, (by decide : 5 + 0 ≤ _), (by decide : 10 + 0 ≤ _)⟩)
  dsimp only [Pt.U, Pt.locs, Pt.cells, Pt.slots] at X267 l267 y267 z267 st267 hQ267
  subst l267 y267 z267
  obtain ⟨rfl, M267, e267⟩ := hQ267
  have N267 := Fr.app N264 M267
  have pre277 : ∀ t, Steps p.tables e below (T267.setTop (mkF m 117 #[.val (.int p0), .val (.int p1), .val (.int p2), .val (.int p3), .val (.ref b1), .val (.ref b64), .val (.ref b144_79), .val (.ref b144_184), .val (.ref b144_198), .val (.int (1 : Int32)), .val (.int (1 : Int32)), .unset, .unset] [(.int (p0 + (0 : Int32)))])) t → Steps p.tables e below (s₁.setTop (entryFrame m #[(.int p0), (.int p1), (.int p2), (.int p3)] maxLocals)) t := fun t kt => pre266 _ (st267.trans kt)
  have pre278 : ∀ t, Steps p.tables e below (T267.setTop (mkF m 123 #[.val (.int p0), .val (.int p1), .val (.int p2), .val (.int p3), .val (.ref b1), .val (.ref b64), .val (.ref b144_79), .val (.ref b144_184), .val (.ref b144_198), .val (.int (1 : Int32)), .val (.int (1 : Int32)), .unset, .unset] [(.ref b144_198)])) t → Steps p.tables e below (s₁.setTop (entryFrame m #[(.int p0), (.int p1), (.int p2), (.int p3)] maxLocals)) t := fun t kt => by
    refine pre277 _ ?_
    show Steps p.tables e below (T267.setTop (mkF m 117 #[.val (.int p0), .val (.int p1), .val (.int p2), .val (.int p3), .val (.ref b1), .val (.ref b64), .val (.ref b144_79), .val (.ref b144_184), .val (.ref b144_198), .val (.int (1 : Int32)), .val (.int (1 : Int32)), .unset, .unset] [(.int (p0 + (0 : Int32)))])) _
    refine XS.iloadN X267.here hx rfl (hb hby at_117) rfl ?_
    show Steps p.tables e below (T267.setTop (mkF m 118 #[.val (.int p0), .val (.int p1), .val (.int p2), .val (.int p3), .val (.ref b1), .val (.ref b64), .val (.ref b144_79), .val (.ref b144_184), .val (.ref b144_198), .val (.int (1 : Int32)), .val (.int (1 : Int32)), .unset, .unset] [(.int p0), (.int (p0 + (0 : Int32)))])) _
    refine XS.icmpNo X267.here hx rfl (hb hby at_118) rfl (XT.ii_ne_f (Int32.add_zero _)) ?_
    show Steps p.tables e below (T267.setTop (mkF m 121 #[.val (.int p0), .val (.int p1), .val (.int p2), .val (.int p3), .val (.ref b1), .val (.ref b64), .val (.ref b144_79), .val (.ref b144_184), .val (.ref b144_198), .val (.int (1 : Int32)), .val (.int (1 : Int32)), .unset, .unset] [])) _
    refine XS.aload X267.here hx rfl (hb hby at_121) rfl rfl ?_
    exact kt
  obtain ⟨cq279, kq279, q279a, q279b, q279c⟩ := isOf hZ e267 J198_0
  obtain ⟨_, _, ⟨T279, L279, k279, n279⟩, -, X279, ⟨Lc279, hQ279, l279, y279, z279⟩, st279⟩ := X267.virtualBack hx (y := (⟨"com/example/hemawire/hemawire/lis/Delimiters$Pieces", "repeats", "()I"⟩ : MethodName)) (z := (⟨"com/example/hemawire/hemawire/lis/Delimiters$Pieces", "repeats", "()I"⟩ : MethodName)) hown (mvT hZ (hw _ (List.mem_of_getElem? (i := 32) rfl))) (mvT hZ (hw _ (List.mem_of_getElem? (i := 33) rfl))) (notFace_of_selects (args := #[]) (mvT hZ (hw _ (List.mem_of_getElem? (i := 35) rfl)))) (mvT hZ (hw _ (List.mem_of_getElem? (i := 35) rfl))) (mvT hZ (hw _ (List.mem_of_getElem? (i := 34) rfl))) (by decide) (backOf (W := 0) (rm_repeats6_2 l Z a0 hw [] b144_198 p1 h198 n0 O198 J198_2) hZ (hw _ (List.mem_of_getElem? (i := 36) rfl)) (hw _ (List.mem_of_getElem? (i := 2) rfl)) (by decide) (by decide)) q279a q279c (g := (mkF m 123 #[.val (.int p0), .val (.int p1), .val (.int p2), .val (.int p3), .val (.ref b1), .val (.ref b64), .val (.ref b144_79), .val (.ref b144_184), .val (.ref b144_198), .val (.int (1 : Int32)), .val (.int (1 : Int32)), .unset, .unset] [(.ref b144_198)])) rfl (by rw [hml]; rfl) (Steps.refl _) (argsL := []) (rest := []) (lenOf pd_11 rfl) rfl (by show 2 * 0 + _ ≤ _; exact Nat.le_of_eq rfl) (hb hby at_123) (fun _ _ => ⟨rfl, e267, (by decide : 5 + 0 ≤ _), (by decide : 10 + 0 ≤ _)⟩)
  dsimp only [Pt.U, Pt.locs, Pt.cells, Pt.slots] at X279 l279 y279 z279 st279 hQ279
  subst l279 y279 z279
  obtain ⟨rfl, M279, e279⟩ := hQ279
  have N279 := Fr.app N267 M279
  have pre289 : ∀ t, Steps p.tables e below (T279.setTop (mkF m 126 #[.val (.int p0), .val (.int p1), .val (.int p2), .val (.int p3), .val (.ref b1), .val (.ref b64), .val (.ref b144_79), .val (.ref b144_184), .val (.ref b144_198), .val (.int (1 : Int32)), .val (.int (1 : Int32)), .unset, .unset] [(.int (p1 + (0 : Int32)))])) t → Steps p.tables e below (s₁.setTop (entryFrame m #[(.int p0), (.int p1), (.int p2), (.int p3)] maxLocals)) t := fun t kt => pre278 _ (st279.trans kt)
  have pre290 : ∀ t, Steps p.tables e below (T279.setTop (mkF m 139 #[.val (.int p0), .val (.int p1), .val (.int p2), .val (.int p3), .val (.ref b1), .val (.ref b64), .val (.ref b144_79), .val (.ref b144_184), .val (.ref b144_198), .val (.int (1 : Int32)), .val (.int (1 : Int32)), .val (.int (1 : Int32)), .unset] [(.ref b1)])) t → Steps p.tables e below (s₁.setTop (entryFrame m #[(.int p0), (.int p1), (.int p2), (.int p3)] maxLocals)) t := fun t kt => by
    refine pre289 _ ?_
    show Steps p.tables e below (T279.setTop (mkF m 126 #[.val (.int p0), .val (.int p1), .val (.int p2), .val (.int p3), .val (.ref b1), .val (.ref b64), .val (.ref b144_79), .val (.ref b144_184), .val (.ref b144_198), .val (.int (1 : Int32)), .val (.int (1 : Int32)), .unset, .unset] [(.int (p1 + (0 : Int32)))])) _
    refine XS.iloadN X279.here hx rfl (hb hby at_126) rfl ?_
    show Steps p.tables e below (T279.setTop (mkF m 127 #[.val (.int p0), .val (.int p1), .val (.int p2), .val (.int p3), .val (.ref b1), .val (.ref b64), .val (.ref b144_79), .val (.ref b144_184), .val (.ref b144_198), .val (.int (1 : Int32)), .val (.int (1 : Int32)), .unset, .unset] [(.int p1), (.int (p1 + (0 : Int32)))])) _
    refine XS.icmpNo X279.here hx rfl (hb hby at_127) rfl (XT.ii_ne_f (Int32.add_zero _)) ?_
    show Steps p.tables e below (T279.setTop (mkF m 130 #[.val (.int p0), .val (.int p1), .val (.int p2), .val (.int p3), .val (.ref b1), .val (.ref b64), .val (.ref b144_79), .val (.ref b144_184), .val (.ref b144_198), .val (.int (1 : Int32)), .val (.int (1 : Int32)), .unset, .unset] [])) _
    refine XS.iconst X279.here hx rfl (hb hby at_130) ?_
    show Steps p.tables e below (T279.setTop (mkF m 131 #[.val (.int p0), .val (.int p1), .val (.int p2), .val (.int p3), .val (.ref b1), .val (.ref b64), .val (.ref b144_79), .val (.ref b144_184), .val (.ref b144_198), .val (.int (1 : Int32)), .val (.int (1 : Int32)), .unset, .unset] [(.int (1 : Int32))])) _
    refine XS.goto X279.here hx rfl (pc0 := 131) (pc' := 135) rfl (hb hby at_131) (by decide) (by decide) ?_
    show Steps p.tables e below (T279.setTop (mkF m 135 #[.val (.int p0), .val (.int p1), .val (.int p2), .val (.int p3), .val (.ref b1), .val (.ref b64), .val (.ref b144_79), .val (.ref b144_184), .val (.ref b144_198), .val (.int (1 : Int32)), .val (.int (1 : Int32)), .unset, .unset] [(.int (1 : Int32))])) _
    refine XS.istore X279.here hx rfl (hb hby at_135) rfl (l' := #[.val (.int p0), .val (.int p1), .val (.int p2), .val (.int p3), .val (.ref b1), .val (.ref b64), .val (.ref b144_79), .val (.ref b144_184), .val (.ref b144_198), .val (.int (1 : Int32)), .val (.int (1 : Int32)), .val (.int (1 : Int32)), .unset]) rfl ?_
    show Steps p.tables e below (T279.setTop (mkF m 137 #[.val (.int p0), .val (.int p1), .val (.int p2), .val (.int p3), .val (.ref b1), .val (.ref b64), .val (.ref b144_79), .val (.ref b144_184), .val (.ref b144_198), .val (.int (1 : Int32)), .val (.int (1 : Int32)), .val (.int (1 : Int32)), .unset] [])) _
    refine XS.aload X279.here hx rfl (hb hby at_137) rfl rfl ?_
    exact kt
  obtain ⟨cq291, kq291, q291a, q291b, q291c⟩ := isOf hZ e279 F200
  obtain ⟨_, _, ⟨T291, L291, k291, n291⟩, -, X291, ⟨Lc291, hQ291, l291, y291, z291⟩, st291⟩ := X279.virtualBack hx (y := (⟨"com/example/hemawire/hemawire/lis/Delimiters$Pieces", "all", "()I"⟩ : MethodName)) (z := (⟨"com/example/hemawire/hemawire/lis/Delimiters$Pieces", "all", "()I"⟩ : MethodName)) hown (mvT hZ (hw _ (List.mem_of_getElem? (i := 27) rfl))) (mvT hZ (hw _ (List.mem_of_getElem? (i := 28) rfl))) (notFace_of_selects (args := #[]) (mvT hZ (hw _ (List.mem_of_getElem? (i := 30) rfl)))) (mvT hZ (hw _ (List.mem_of_getElem? (i := 30) rfl))) (mvT hZ (hw _ (List.mem_of_getElem? (i := 29) rfl))) (by decide) (backOf (W := 0) (rm_all5_3 l Z a0 hw [] b1 p0 h198 n0 O198 F201) hZ (hw _ (List.mem_of_getElem? (i := 31) rfl)) (hw _ (List.mem_of_getElem? (i := 2) rfl)) (by decide) (by decide)) q291a q291c (g := (mkF m 139 #[.val (.int p0), .val (.int p1), .val (.int p2), .val (.int p3), .val (.ref b1), .val (.ref b64), .val (.ref b144_79), .val (.ref b144_184), .val (.ref b144_198), .val (.int (1 : Int32)), .val (.int (1 : Int32)), .val (.int (1 : Int32)), .unset] [(.ref b1)])) rfl (by rw [hml]; rfl) (Steps.refl _) (argsL := []) (rest := []) (lenOf pd_11 rfl) rfl (by show 2 * 0 + _ ≤ _; exact Nat.le_of_eq rfl) (hb hby at_139) (fun _ _ => ⟨rfl, e279, (by decide : 5 + 0 ≤ _), (by decide : 10 + 0 ≤ _)⟩)
  dsimp only [Pt.U, Pt.locs, Pt.cells, Pt.slots] at X291 l291 y291 z291 st291 hQ291
  subst l291 y291 z291
  obtain ⟨rfl, M291, e291⟩ := hQ291
  have N291 := Fr.app N279 M291
  have pre301 : ∀ t, Steps p.tables e below (T291.setTop (mkF m 142 #[.val (.int p0), .val (.int p1), .val (.int p2), .val (.int p3), .val (.ref b1), .val (.ref b64), .val (.ref b144_79), .val (.ref b144_184), .val (.ref b144_198), .val (.int (1 : Int32)), .val (.int (1 : Int32)), .val (.int (1 : Int32)), .unset] [(.int p0)])) t → Steps p.tables e below (s₁.setTop (entryFrame m #[(.int p0), (.int p1), (.int p2), (.int p3)] maxLocals)) t := fun t kt => pre290 _ (st291.trans kt)
  have pre302 : ∀ t, Steps p.tables e below (T291.setTop (mkF m 148 #[.val (.int p0), .val (.int p1), .val (.int p2), .val (.int p3), .val (.ref b1), .val (.ref b64), .val (.ref b144_79), .val (.ref b144_184), .val (.ref b144_198), .val (.int (1 : Int32)), .val (.int (1 : Int32)), .val (.int (1 : Int32)), .unset] [(.ref b1)])) t → Steps p.tables e below (s₁.setTop (entryFrame m #[(.int p0), (.int p1), (.int p2), (.int p3)] maxLocals)) t := fun t kt => by
    refine pre301 _ ?_
    show Steps p.tables e below (T291.setTop (mkF m 142 #[.val (.int p0), .val (.int p1), .val (.int p2), .val (.int p3), .val (.ref b1), .val (.ref b64), .val (.ref b144_79), .val (.ref b144_184), .val (.ref b144_198), .val (.int (1 : Int32)), .val (.int (1 : Int32)), .val (.int (1 : Int32)), .unset] [(.int p0)])) _
    refine XS.iloadN X291.here hx rfl (hb hby at_142) rfl ?_
    show Steps p.tables e below (T291.setTop (mkF m 143 #[.val (.int p0), .val (.int p1), .val (.int p2), .val (.int p3), .val (.ref b1), .val (.ref b64), .val (.ref b144_79), .val (.ref b144_184), .val (.ref b144_198), .val (.int (1 : Int32)), .val (.int (1 : Int32)), .val (.int (1 : Int32)), .unset] [(.int p0), (.int p0)])) _
    refine XS.icmpNo X291.here hx rfl (hb hby at_143) rfl (XT.ii_ne_f rfl) ?_
    show Steps p.tables e below (T291.setTop (mkF m 146 #[.val (.int p0), .val (.int p1), .val (.int p2), .val (.int p3), .val (.ref b1), .val (.ref b64), .val (.ref b144_79), .val (.ref b144_184), .val (.ref b144_198), .val (.int (1 : Int32)), .val (.int (1 : Int32)), .val (.int (1 : Int32)), .unset] [])) _
    refine XS.aload X291.here hx rfl (hb hby at_146) rfl rfl ?_
    exact kt
  obtain ⟨cq303, kq303, q303a, q303b, q303c⟩ := isOf hZ e291 F200
  obtain ⟨_, _, ⟨T303, L303, k303, n303⟩, -, X303, ⟨Lc303, hQ303, l303, y303, z303⟩, st303⟩ := X291.virtualBack hx (y := (⟨"com/example/hemawire/hemawire/lis/Delimiters$Pieces", "repeats", "()I"⟩ : MethodName)) (z := (⟨"com/example/hemawire/hemawire/lis/Delimiters$Pieces", "repeats", "()I"⟩ : MethodName)) hown (mvT hZ (hw _ (List.mem_of_getElem? (i := 32) rfl))) (mvT hZ (hw _ (List.mem_of_getElem? (i := 33) rfl))) (notFace_of_selects (args := #[]) (mvT hZ (hw _ (List.mem_of_getElem? (i := 35) rfl)))) (mvT hZ (hw _ (List.mem_of_getElem? (i := 35) rfl))) (mvT hZ (hw _ (List.mem_of_getElem? (i := 34) rfl))) (by decide) (backOf (W := 0) (rm_repeats6_3 l Z a0 hw [] b1 p1 h198 n0 O198 F202) hZ (hw _ (List.mem_of_getElem? (i := 36) rfl)) (hw _ (List.mem_of_getElem? (i := 2) rfl)) (by decide) (by decide)) q303a q303c (g := (mkF m 148 #[.val (.int p0), .val (.int p1), .val (.int p2), .val (.int p3), .val (.ref b1), .val (.ref b64), .val (.ref b144_79), .val (.ref b144_184), .val (.ref b144_198), .val (.int (1 : Int32)), .val (.int (1 : Int32)), .val (.int (1 : Int32)), .unset] [(.ref b1)])) rfl (by rw [hml]; rfl) (Steps.refl _) (argsL := []) (rest := []) (lenOf pd_11 rfl) rfl (by show 2 * 0 + _ ≤ _; exact Nat.le_of_eq rfl) (hb hby at_148) (fun _ _ => ⟨rfl, e291, (by decide : 5 + 0 ≤ _), (by decide : 10 + 0 ≤ _)⟩)
  dsimp only [Pt.U, Pt.locs, Pt.cells, Pt.slots] at X303 l303 y303 z303 st303 hQ303
  subst l303 y303 z303
  obtain ⟨rfl, M303, e303⟩ := hQ303
  have N303 := Fr.app N291 M303
  have pre313 : ∀ t, Steps p.tables e below (T303.setTop (mkF m 151 #[.val (.int p0), .val (.int p1), .val (.int p2), .val (.int p3), .val (.ref b1), .val (.ref b64), .val (.ref b144_79), .val (.ref b144_184), .val (.ref b144_198), .val (.int (1 : Int32)), .val (.int (1 : Int32)), .val (.int (1 : Int32)), .unset] [(.int p1)])) t → Steps p.tables e below (s₁.setTop (entryFrame m #[(.int p0), (.int p1), (.int p2), (.int p3)] maxLocals)) t := fun t kt => pre302 _ (st303.trans kt)
  have pre314 : ∀ t, Steps p.tables e below (T303.setTop (mkF m 157 #[.val (.int p0), .val (.int p1), .val (.int p2), .val (.int p3), .val (.ref b1), .val (.ref b64), .val (.ref b144_79), .val (.ref b144_184), .val (.ref b144_198), .val (.int (1 : Int32)), .val (.int (1 : Int32)), .val (.int (1 : Int32)), .unset] [(.ref b64)])) t → Steps p.tables e below (s₁.setTop (entryFrame m #[(.int p0), (.int p1), (.int p2), (.int p3)] maxLocals)) t := fun t kt => by
    refine pre313 _ ?_
    show Steps p.tables e below (T303.setTop (mkF m 151 #[.val (.int p0), .val (.int p1), .val (.int p2), .val (.int p3), .val (.ref b1), .val (.ref b64), .val (.ref b144_79), .val (.ref b144_184), .val (.ref b144_198), .val (.int (1 : Int32)), .val (.int (1 : Int32)), .val (.int (1 : Int32)), .unset] [(.int p1)])) _
    refine XS.iloadN X303.here hx rfl (hb hby at_151) rfl ?_
    show Steps p.tables e below (T303.setTop (mkF m 152 #[.val (.int p0), .val (.int p1), .val (.int p2), .val (.int p3), .val (.ref b1), .val (.ref b64), .val (.ref b144_79), .val (.ref b144_184), .val (.ref b144_198), .val (.int (1 : Int32)), .val (.int (1 : Int32)), .val (.int (1 : Int32)), .unset] [(.int p1), (.int p1)])) _
    refine XS.icmpNo X303.here hx rfl (hb hby at_152) rfl (XT.ii_ne_f rfl) ?_
    show Steps p.tables e below (T303.setTop (mkF m 155 #[.val (.int p0), .val (.int p1), .val (.int p2), .val (.int p3), .val (.ref b1), .val (.ref b64), .val (.ref b144_79), .val (.ref b144_184), .val (.ref b144_198), .val (.int (1 : Int32)), .val (.int (1 : Int32)), .val (.int (1 : Int32)), .unset] [])) _
    refine XS.aload X303.here hx rfl (hb hby at_155) rfl rfl ?_
    exact kt
  obtain ⟨cq315, kq315, q315a, q315b, q315c⟩ := isOf hZ e303 F203
  obtain ⟨_, _, ⟨T315, L315, k315, n315⟩, -, X315, ⟨Lc315, hQ315, l315, y315, z315⟩, st315⟩ := X303.virtualBack hx (y := (⟨"com/example/hemawire/hemawire/lis/Delimiters$Pieces", "all", "()I"⟩ : MethodName)) (z := (⟨"com/example/hemawire/hemawire/lis/Delimiters$Pieces", "all", "()I"⟩ : MethodName)) hown (mvT hZ (hw _ (List.mem_of_getElem? (i := 27) rfl))) (mvT hZ (hw _ (List.mem_of_getElem? (i := 28) rfl))) (notFace_of_selects (args := #[]) (mvT hZ (hw _ (List.mem_of_getElem? (i := 30) rfl)))) (mvT hZ (hw _ (List.mem_of_getElem? (i := 30) rfl))) (mvT hZ (hw _ (List.mem_of_getElem? (i := 29) rfl))) (by decide) (backOf (W := 0) (rm_all5_3 l Z a0 hw [] b64 p2 h198 n0 O198 F204) hZ (hw _ (List.mem_of_getElem? (i := 31) rfl)) (hw _ (List.mem_of_getElem? (i := 2) rfl)) (by decide) (by decide)) q315a q315c (g := (mkF m 157 #[.val (.int p0), .val (.int p1), .val (.int p2), .val (.int p3), .val (.ref b1), .val (.ref b64), .val (.ref b144_79), .val (.ref b144_184), .val (.ref b144_198), .val (.int (1 : Int32)), .val (.int (1 : Int32)), .val (.int (1 : Int32)), .unset] [(.ref b64)])) rfl (by rw [hml]; rfl) (Steps.refl _) (argsL := []) (rest := []) (lenOf pd_11 rfl) rfl (by show 2 * 0 + _ ≤ _; exact Nat.le_of_eq rfl) (hb hby at_157) (fun _ _ => ⟨rfl, e303, (by decide : 5 + 0 ≤ _), (by decide : 10 + 0 ≤ _)⟩)
  dsimp only [Pt.U, Pt.locs, Pt.cells, Pt.slots] at X315 l315 y315 z315 st315 hQ315
  subst l315 y315 z315
  obtain ⟨rfl, M315, e315⟩ := hQ315
  have N315 := Fr.app N303 M315
  have pre316 : ∀ t, Steps p.tables e below (T315.setTop (mkF m 160 #[.val (.int p0), .val (.int p1), .val (.int p2), .val (.int p3), .val (.ref b1), .val (.ref b64), .val (.ref b144_79), .val (.ref b144_184), .val (.ref b144_198), .val (.int (1 : Int32)), .val (.int (1 : Int32)), .val (.int (1 : Int32)), .unset] [(.int p2)])) t → Steps p.tables e below (s₁.setTop (entryFrame m #[(.int p0), (.int p1), (.int p2), (.int p3)] maxLocals)) t := fun t kt => pre314 _ (st315.trans kt)
  have pre317 : ∀ t, Steps p.tables e below (T315.setTop (mkF m 166 #[.val (.int p0), .val (.int p1), .val (.int p2), .val (.int p3), .val (.ref b1), .val (.ref b64), .val (.ref b144_79), .val (.ref b144_184), .val (.ref b144_198), .val (.int (1 : Int32)), .val (.int (1 : Int32)), .val (.int (1 : Int32)), .unset] [(.ref b64)])) t → Steps p.tables e below (s₁.setTop (entryFrame m #[(.int p0), (.int p1), (.int p2), (.int p3)] maxLocals)) t := fun t kt => by
    refine pre316 _ ?_
    show Steps p.tables e below (T315.setTop (mkF m 160 #[.val (.int p0), .val (.int p1), .val (.int p2), .val (.int p3), .val (.ref b1), .val (.ref b64), .val (.ref b144_79), .val (.ref b144_184), .val (.ref b144_198), .val (.int (1 : Int32)), .val (.int (1 : Int32)), .val (.int (1 : Int32)), .unset] [(.int p2)])) _
    refine XS.iloadN X315.here hx rfl (hb hby at_160) rfl ?_
    show Steps p.tables e below (T315.setTop (mkF m 161 #[.val (.int p0), .val (.int p1), .val (.int p2), .val (.int p3), .val (.ref b1), .val (.ref b64), .val (.ref b144_79), .val (.ref b144_184), .val (.ref b144_198), .val (.int (1 : Int32)), .val (.int (1 : Int32)), .val (.int (1 : Int32)), .unset] [(.int p2), (.int p2)])) _
    refine XS.icmpNo X315.here hx rfl (hb hby at_161) rfl (XT.ii_ne_f rfl) ?_
    show Steps p.tables e below (T315.setTop (mkF m 164 #[.val (.int p0), .val (.int p1), .val (.int p2), .val (.int p3), .val (.ref b1), .val (.ref b64), .val (.ref b144_79), .val (.ref b144_184), .val (.ref b144_198), .val (.int (1 : Int32)), .val (.int (1 : Int32)), .val (.int (1 : Int32)), .unset] [])) _
    refine XS.aload X315.here hx rfl (hb hby at_164) rfl rfl ?_
    exact kt
  obtain ⟨cq318, kq318, q318a, q318b, q318c⟩ := isOf hZ e315 F203
  obtain ⟨_, _, ⟨T318, L318, k318, n318⟩, -, X318, ⟨Lc318, hQ318, l318, y318, z318⟩, st318⟩ := X315.virtualBack hx (y := (⟨"com/example/hemawire/hemawire/lis/Delimiters$Pieces", "repeats", "()I"⟩ : MethodName)) (z := (⟨"com/example/hemawire/hemawire/lis/Delimiters$Pieces", "repeats", "()I"⟩ : MethodName)) hown (mvT hZ (hw _ (List.mem_of_getElem? (i := 32) rfl))) (mvT hZ (hw _ (List.mem_of_getElem? (i := 33) rfl))) (notFace_of_selects (args := #[]) (mvT hZ (hw _ (List.mem_of_getElem? (i := 35) rfl)))) (mvT hZ (hw _ (List.mem_of_getElem? (i := 35) rfl))) (mvT hZ (hw _ (List.mem_of_getElem? (i := 34) rfl))) (by decide) (backOf (W := 0) (rm_repeats6_3 l Z a0 hw [] b64 p3 h198 n0 O198 F205) hZ (hw _ (List.mem_of_getElem? (i := 36) rfl)) (hw _ (List.mem_of_getElem? (i := 2) rfl)) (by decide) (by decide)) q318a q318c (g := (mkF m 166 #[.val (.int p0), .val (.int p1), .val (.int p2), .val (.int p3), .val (.ref b1), .val (.ref b64), .val (.ref b144_79), .val (.ref b144_184), .val (.ref b144_198), .val (.int (1 : Int32)), .val (.int (1 : Int32)), .val (.int (1 : Int32)), .unset] [(.ref b64)])) rfl (by rw [hml]; rfl) (Steps.refl _) (argsL := []) (rest := []) (lenOf pd_11 rfl) rfl (by show 2 * 0 + _ ≤ _; exact Nat.le_of_eq rfl) (hb hby at_166) (fun _ _ => ⟨rfl, e315, (by decide : 5 + 0 ≤ _), (by decide : 10 + 0 ≤ _)⟩)
  dsimp only [Pt.U, Pt.locs, Pt.cells, Pt.slots] at X318 l318 y318 z318 st318 hQ318
  subst l318 y318 z318
  obtain ⟨rfl, M318, e318⟩ := hQ318
  have N318 := Fr.app N315 M318
  have pre319 : ∀ t, Steps p.tables e below (T318.setTop (mkF m 169 #[.val (.int p0), .val (.int p1), .val (.int p2), .val (.int p3), .val (.ref b1), .val (.ref b64), .val (.ref b144_79), .val (.ref b144_184), .val (.ref b144_198), .val (.int (1 : Int32)), .val (.int (1 : Int32)), .val (.int (1 : Int32)), .unset] [(.int p3)])) t → Steps p.tables e below (s₁.setTop (entryFrame m #[(.int p0), (.int p1), (.int p2), (.int p3)] maxLocals)) t := fun t kt => pre317 _ (st318.trans kt)
  have pre320 : ∀ t, Steps p.tables e below (T318.setTop (mkF m 205 #[.val (.int p0), .val (.int p1), .val (.int p2), .val (.int p3), .val (.ref b1), .val (.ref b64), .val (.ref b144_79), .val (.ref b144_184), .val (.ref b144_198), .val (.int (1 : Int32)), .val (.int (1 : Int32)), .val (.int (1 : Int32)), .val (.int (1 : Int32))] [(.int (1 : Int32))])) t → Steps p.tables e below (s₁.setTop (entryFrame m #[(.int p0), (.int p1), (.int p2), (.int p3)] maxLocals)) t := fun t kt => by
    refine pre319 _ ?_
    show Steps p.tables e below (T318.setTop (mkF m 169 #[.val (.int p0), .val (.int p1), .val (.int p2), .val (.int p3), .val (.ref b1), .val (.ref b64), .val (.ref b144_79), .val (.ref b144_184), .val (.ref b144_198), .val (.int (1 : Int32)), .val (.int (1 : Int32)), .val (.int (1 : Int32)), .unset] [(.int p3)])) _
    refine XS.iloadN X318.here hx rfl (hb hby at_169) rfl ?_
    show Steps p.tables e below (T318.setTop (mkF m 170 #[.val (.int p0), .val (.int p1), .val (.int p2), .val (.int p3), .val (.ref b1), .val (.ref b64), .val (.ref b144_79), .val (.ref b144_184), .val (.ref b144_198), .val (.int (1 : Int32)), .val (.int (1 : Int32)), .val (.int (1 : Int32)), .unset] [(.int p3), (.int p3)])) _
    refine XS.icmpNo X318.here hx rfl (hb hby at_170) rfl (XT.ii_ne_f rfl) ?_
    show Steps p.tables e below (T318.setTop (mkF m 173 #[.val (.int p0), .val (.int p1), .val (.int p2), .val (.int p3), .val (.ref b1), .val (.ref b64), .val (.ref b144_79), .val (.ref b144_184), .val (.ref b144_198), .val (.int (1 : Int32)), .val (.int (1 : Int32)), .val (.int (1 : Int32)), .unset] [])) _
    refine XS.iconst X318.here hx rfl (hb hby at_173) ?_
    show Steps p.tables e below (T318.setTop (mkF m 174 #[.val (.int p0), .val (.int p1), .val (.int p2), .val (.int p3), .val (.ref b1), .val (.ref b64), .val (.ref b144_79), .val (.ref b144_184), .val (.ref b144_198), .val (.int (1 : Int32)), .val (.int (1 : Int32)), .val (.int (1 : Int32)), .unset] [(.int (1 : Int32))])) _
    refine XS.goto X318.here hx rfl (pc0 := 174) (pc' := 178) rfl (hb hby at_174) (by decide) (by decide) ?_
    show Steps p.tables e below (T318.setTop (mkF m 178 #[.val (.int p0), .val (.int p1), .val (.int p2), .val (.int p3), .val (.ref b1), .val (.ref b64), .val (.ref b144_79), .val (.ref b144_184), .val (.ref b144_198), .val (.int (1 : Int32)), .val (.int (1 : Int32)), .val (.int (1 : Int32)), .unset] [(.int (1 : Int32))])) _
    refine XS.istore X318.here hx rfl (hb hby at_178) rfl (l' := #[.val (.int p0), .val (.int p1), .val (.int p2), .val (.int p3), .val (.ref b1), .val (.ref b64), .val (.ref b144_79), .val (.ref b144_184), .val (.ref b144_198), .val (.int (1 : Int32)), .val (.int (1 : Int32)), .val (.int (1 : Int32)), .val (.int (1 : Int32))]) rfl ?_
    show Steps p.tables e below (T318.setTop (mkF m 180 #[.val (.int p0), .val (.int p1), .val (.int p2), .val (.int p3), .val (.ref b1), .val (.ref b64), .val (.ref b144_79), .val (.ref b144_184), .val (.ref b144_198), .val (.int (1 : Int32)), .val (.int (1 : Int32)), .val (.int (1 : Int32)), .val (.int (1 : Int32))] [])) _
    refine XS.iload X318.here hx rfl (hb hby at_180) rfl ?_
    show Steps p.tables e below (T318.setTop (mkF m 182 #[.val (.int p0), .val (.int p1), .val (.int p2), .val (.int p3), .val (.ref b1), .val (.ref b64), .val (.ref b144_79), .val (.ref b144_184), .val (.ref b144_198), .val (.int (1 : Int32)), .val (.int (1 : Int32)), .val (.int (1 : Int32)), .val (.int (1 : Int32))] [(.int (1 : Int32))])) _
    refine XS.ifNo X318.here hx rfl (hb hby at_182) rfl (XT.i0_eq_f (by decide)) ?_
    show Steps p.tables e below (T318.setTop (mkF m 185 #[.val (.int p0), .val (.int p1), .val (.int p2), .val (.int p3), .val (.ref b1), .val (.ref b64), .val (.ref b144_79), .val (.ref b144_184), .val (.ref b144_198), .val (.int (1 : Int32)), .val (.int (1 : Int32)), .val (.int (1 : Int32)), .val (.int (1 : Int32))] [])) _
    refine XS.iload X318.here hx rfl (hb hby at_185) rfl ?_
    show Steps p.tables e below (T318.setTop (mkF m 187 #[.val (.int p0), .val (.int p1), .val (.int p2), .val (.int p3), .val (.ref b1), .val (.ref b64), .val (.ref b144_79), .val (.ref b144_184), .val (.ref b144_198), .val (.int (1 : Int32)), .val (.int (1 : Int32)), .val (.int (1 : Int32)), .val (.int (1 : Int32))] [(.int (1 : Int32))])) _
    refine XS.ifNo X318.here hx rfl (hb hby at_187) rfl (XT.i0_eq_f (by decide)) ?_
    show Steps p.tables e below (T318.setTop (mkF m 190 #[.val (.int p0), .val (.int p1), .val (.int p2), .val (.int p3), .val (.ref b1), .val (.ref b64), .val (.ref b144_79), .val (.ref b144_184), .val (.ref b144_198), .val (.int (1 : Int32)), .val (.int (1 : Int32)), .val (.int (1 : Int32)), .val (.int (1 : Int32))] [])) _
    refine XS.iload X318.here hx rfl (hb hby at_190) rfl ?_
    show Steps p.tables e below (T318.setTop (mkF m 192 #[.val (.int p0), .val (.int p1), .val (.int p2), .val (.int p3), .val (.ref b1), .val (.ref b64), .val (.ref b144_79), .val (.ref b144_184), .val (.ref b144_198), .val (.int (1 : Int32)), .val (.int (1 : Int32)), .val (.int (1 : Int32)), .val (.int (1 : Int32))] [(.int (1 : Int32))])) _
    refine XS.ifNo X318.here hx rfl (hb hby at_192) rfl (XT.i0_eq_f (by decide)) ?_
    show Steps p.tables e below (T318.setTop (mkF m 195 #[.val (.int p0), .val (.int p1), .val (.int p2), .val (.int p3), .val (.ref b1), .val (.ref b64), .val (.ref b144_79), .val (.ref b144_184), .val (.ref b144_198), .val (.int (1 : Int32)), .val (.int (1 : Int32)), .val (.int (1 : Int32)), .val (.int (1 : Int32))] [])) _
    refine XS.iload X318.here hx rfl (hb hby at_195) rfl ?_
    show Steps p.tables e below (T318.setTop (mkF m 197 #[.val (.int p0), .val (.int p1), .val (.int p2), .val (.int p3), .val (.ref b1), .val (.ref b64), .val (.ref b144_79), .val (.ref b144_184), .val (.ref b144_198), .val (.int (1 : Int32)), .val (.int (1 : Int32)), .val (.int (1 : Int32)), .val (.int (1 : Int32))] [(.int (1 : Int32))])) _
    refine XS.ifNo X318.here hx rfl (hb hby at_197) rfl (XT.i0_eq_f (by decide)) ?_
    show Steps p.tables e below (T318.setTop (mkF m 200 #[.val (.int p0), .val (.int p1), .val (.int p2), .val (.int p3), .val (.ref b1), .val (.ref b64), .val (.ref b144_79), .val (.ref b144_184), .val (.ref b144_198), .val (.int (1 : Int32)), .val (.int (1 : Int32)), .val (.int (1 : Int32)), .val (.int (1 : Int32))] [])) _
    refine XS.iconst X318.here hx rfl (hb hby at_200) ?_
    show Steps p.tables e below (T318.setTop (mkF m 201 #[.val (.int p0), .val (.int p1), .val (.int p2), .val (.int p3), .val (.ref b1), .val (.ref b64), .val (.ref b144_79), .val (.ref b144_184), .val (.ref b144_198), .val (.int (1 : Int32)), .val (.int (1 : Int32)), .val (.int (1 : Int32)), .val (.int (1 : Int32))] [(.int (1 : Int32))])) _
    refine XS.goto X318.here hx rfl (pc0 := 201) (pc' := 205) rfl (hb hby at_201) (by decide) (by decide) ?_
    exact kt
  obtain ⟨fs, hr, hrun, hended, hW, hsame⟩ := X318.leave (v := some (.int (1 : Int32))) (fun h => by rw [Bd.returns] at h; cases h)
  refine ⟨_, _, pre320 _ (retN X318 hx (t := .boolean) Bd.returns (by simp) (hb hby at_205) hr), hrun, hended, _, _, rfl, ?_, ⟨_, rfl⟩, hW, hsame.mono (by decide) (by decide)⟩
  show Q_law Z p0 p1 p2 p3 a_NONE h0 n0 _ T318.heap _
  rw [e318]
  exact ⟨rfl, N318⟩
set_option maxRecDepth 65536 in
set_option maxHeartbeats 40000000 in
theorem comes_1 {Post : Tables → Env → Array Value → State → Outcome → State → Prop} (hpost : ∀ tb e args s v u, (limb_1_1.after args s (.returned v) u = true ∧ limb_1_2.after args s (.returned v) u = true ∧ True) → FrameEnd s (.returned v) u (Jvm.fieldLocs frame_1_writes args s ++ Jvm.arrayLocs frame_1_arrays args s ++ Jvm.staticLocs frame_1_statics s) 24 128 → Post tb e args s (.returned v) u) :
    ArmFor flags0 classFile x code maxLocals ret World_1 tables_1 room_1 Calls_1 rest_1 Pre_1 Post := by
  intro l hfl _ _ p e ha hc hk s m args below hf hA hF happ hP
  obtain ⟨hcalls, hrest, hpre⟩ := hP
  obtain ⟨-, -, -, hnamed, -, -, -, hat⟩ := (Spec.applies_iff hf).mp happ
  obtain ⟨hg, hn⟩ := and_e (Cond.before_iff.mp (show (Jvm.Cond.and given_1 narrow_1).before args s = true from hpre))
  obtain ⟨given_1_2, given_1_3⟩ := and_e hg
  obtain ⟨given_1_4, given_1_5⟩ := and_e given_1_3
  obtain ⟨given_1_6, given_1_7⟩ := and_e given_1_5
  obtain ⟨given_1_8, given_1_9⟩ := and_e given_1_7
  obtain ⟨narrow_1_2, narrow_1_3⟩ := and_e hn
  obtain ⟨narrow_1_4, narrow_1_5⟩ := and_e narrow_1_3
  obtain ⟨w0, w1, w2, w3, rfl⟩ : ∃ w0 w1 w2 w3 : Value, args = #[w0, w1, w2, w3] := by
    have hs : args.size = 4 := by simpa [Cond.value, given_1] using given_1_2
    obtain ⟨L⟩ := args
    match L, hs with
    | [w0, w1, w2, w3], _ => exact ⟨w0, w1, w2, w3, rfl⟩
  have hw := fun d (hd : d ∈ tables_1) => atoms_spec (ws := Jvm.Cond.code x code maxLocals ret :: tables_1) hat d (List.mem_cons_of_mem _ hd)
  have hfit : Fit s := fun {y c} hc i hi => by
    obtain ⟨ha, rfl⟩ := Array.getElem?_eq_some_iff.mp hc
    have q := List.all_eq_true.mp ((Array.all_eq_true_iff_forall_mem.mp hF) _ (Array.getElem_mem ha)) i (List.mem_range.mpr hi)
    simpa [Array.getElem?_eq_getElem hi] using q
  obtain ⟨i0, ei0⟩ := is_v given_1_4
  obtain rfl : w0 = (.int i0) := Option.some.inj ei0
  obtain ⟨i1, ei1⟩ := is_v given_1_6
  obtain rfl : w1 = (.int i1) := Option.some.inj ei1
  obtain ⟨i2, ei2⟩ := is_v given_1_8
  obtain rfl : w2 = (.int i2) := Option.some.inj ei2
  obtain ⟨i3, ei3⟩ := is_v given_1_9
  obtain rfl : w3 = (.int i3) := Option.some.inj ei3
  obtain ⟨a_NONE, ev_NONE⟩ := exa_v narrow_1_2
  have S_NONE : Sta s s.heap "com/example/hemawire/hemawire/lis/Delimiters$Pieces" "NONE" "Lcom/example/hemawire/hemawire/lis/Delimiters$Pieces;" (.ref a_NONE) := Sta.start ev_NONE (Or.inr ⟨(hw _ (List.mem_of_getElem? (i := 2) rfl)), (hw _ (List.mem_of_getElem? (i := 26) rfl))⟩)
  have E_NONE : Exa s s.heap a_NONE "com/example/hemawire/hemawire/lis/Delimiters$Pieces" := Exa.start ev_NONE narrow_1_2
  have P_NONE_all : Fld s s.heap a_NONE "com/example/hemawire/hemawire/lis/Delimiters$Pieces" "all" "I" (.int (0 : Int32)) := own_fldI ev_NONE narrow_1_4
  have P_NONE_repeats : Fld s s.heap a_NONE "com/example/hemawire/hemawire/lis/Delimiters$Pieces" "repeats" "I" (.int (0 : Int32)) := own_fldI ev_NONE narrow_1_5
  obtain ⟨n, o, h1, h2, h3, _, L, rfl, ⟨rfl, N⟩, hq⟩ := rm_law l s _ hw tables_1 i0 i1 i2 i3 a_NONE s.heap s.heap.size (Old.start s) S_NONE E_NONE P_NONE_all P_NONE_repeats p e ha hc hk s m _ below hf ((Spec.applies_iff_loose hf).mp happ).1 ⟨rfl, State.Warmed39.refl s, rfl⟩ trivial
  refine ⟨n, _, h1, h2, h3, hpost _ _ _ _ _ _ ⟨Cond.after_iff.mpr rfl, Cond.after_iff.mpr (eq_i res_at (Term.int_eval (1)) rfl), trivial⟩ ⟨hq.1, hq.2.1, (hq.2.2.sift fun y hy => Or.inr (N y hy)).mono (by decide) (by decide)⟩⟩
theorem main_1_1 : Claimed_1_1 := comes_1 fun _ _ _ _ _ _ h hF => ⟨h.1, hF⟩
theorem main_1_2 : Claimed_1_2 := comes_1 fun _ _ _ _ _ _ h hF => ⟨h.2.1, hF⟩
end Jvm.Pilot.@@N@@
namespace Jvm.Pilot.@@N@@
open Jvm Jvm.ClassFile Sem Op Lib Jvm.Free Jvm.Stand Jvm.Pilot.@@N@@.Jvm.D
/-! MADE BY PROGRAM (witnessworld.py) out of the Statement's table words and the real class files: 8 classes; the members and pool entries that the words name. The judged class is class 1, her method 1. -/
namespace start1
open Jvm.ClassFile
def u (s : String) : CpInfo := .utf8 (stringToUtf16 s)
/-- a pool by its gaps: so many unusable entries, then the entry; so many at the end -/
def gap : Nat → List CpInfo → List CpInfo
  | 0, r => r
  | n + 1, r => .unusable :: gap n r
def poolList (es : List (Nat × CpInfo)) (last : Nat) : List CpInfo := es.foldr (fun e r => gap e.1 (e.2 :: r)) (gap last [])
def pool (es : List (Nat × CpInfo)) (last : Nat) : Array CpInfo := ⟨poolList es last⟩
def fileOf (pool : Array CpInfo) (this : Nat) (attrs : Array Attribute := #[]) (ms : Array MethodInfo := #[]) (fl : Nat := 33) (sup : Nat := 0) (ifs : Array Nat := #[]) (fds : Array FieldInfo := #[]) : ClassFile where
  minorVersion := 0
  majorVersion := 65
  constantPool := pool
  accessFlags := fl
  thisClass := this
  superClass := sup
  interfaces := ifs
  fields := fds
  methods := ms
  attributes := attrs
def plain (name : String) (sup : Option ClassId) : Class where
  name := name
  kind := .ordinary
  loader := none
  accessFlags := 33
  super := sup
  interfaces := #[]
  cf := none
  fields := #[]
  methods := #[]
  instanceTypes := #[]
  staticTypes := #[]
  resolved := #[]
  callSites := []
  init := .initialized
  statics := none
  mirror := none

def pool0 : Array CpInfo := pool [(5, u "<init>"), (0, u "()V"), (1, .class_ 10), (1, u "java/lang/Object")] 113

def k0c0 : Code := { maxStack := 0, maxLocals := 1, code := object_method_1_code, exceptionTable := #[], attributes := #[] }
def k0m0 : Method := { name := "<init>", desc := "()V", sig := { parameters := [], returnType := none }, accessFlags := 1, code := some k0c0 }
/-- java/lang/Object -/
def k0 : Class := { plain "java/lang/Object" none with
  accessFlags := 33
  interfaces := #[]
  cf := some (fileOf pool0 8 #[] #[{ accessFlags := 1, nameIndex := 5, descriptorIndex := 6, attributes := #[] }] 33 0 #[] #[])
  fields := #[]
  methods := #[k0m0]
  instanceTypes := #[]
  staticTypes := #[]
  resolved := Array.replicate 124 none
  statics := none }

def pool1 : Array CpInfo := pool [(2, .class_ 4), (1, u "java/lang/Object"), (0, u "<init>"), (0, u "()V"), (0, .class_ 8), (0, u "com/example/hemawire/hemawire/lis/Delimiters$Pieces"), (0, .methodref 7 10), (0, .nameAndType 5 11), (0, u "(II)V"), (0, .methodref 7 13), (0, .nameAndType 14 15), (0, u "plus"), (0, u "(Lcom/example/hemawire/hemawire/lis/Delimiters$Pieces;)Lcom/example/hemawire/hemawire/lis/Delimiters$Pieces;"), (0, .fieldref 7 17), (0, .nameAndType 18 19), (0, u "NONE"), (0, u "Lcom/example/hemawire/hemawire/lis/Delimiters$Pieces;"), (0, .methodref 7 21), (0, .nameAndType 22 23), (0, u "all"), (0, u "()I"), (0, .methodref 7 25), (0, .nameAndType 26 23), (0, u "repeats"), (0, .class_ 28), (0, u "com/example/hemawire/hemawire/lis/PiecesPlusPinLaw"), (2, u "law"), (0, u "(IIII)Z")] 7

def k1m0 : Method := { name := "<init>", desc := "()V", sig := { parameters := [], returnType := none }, accessFlags := 1, code := none }
def k1c1 : Code := { maxStack := 4, maxLocals := 13, code := code, exceptionTable := #[], attributes := #[] }
def k1m1 : Method := { name := "law", desc := "(IIII)Z", sig := { parameters := [.int, .int, .int, .int], returnType := some .boolean }, accessFlags := 9, code := some k1c1 }
/-- com/example/hemawire/hemawire/lis/PiecesPlusPinLaw -/
def k1 : Class := { plain "com/example/hemawire/hemawire/lis/PiecesPlusPinLaw" (some 0) with
  accessFlags := 49
  interfaces := #[]
  cf := some (fileOf pool1 27 #[] #[{ accessFlags := 1, nameIndex := 5, descriptorIndex := 6, attributes := #[] }, { accessFlags := 9, nameIndex := 31, descriptorIndex := 32, attributes := #[] }] 49 2 #[] #[])
  fields := #[]
  methods := #[k1m0, k1m1]
  instanceTypes := #[]
  staticTypes := #[]
  resolved := Array.replicate 40 none
  statics := none }

def pool2 : Array CpInfo := pool [(1, .methodref 2 3), (0, .class_ 4), (0, .nameAndType 5 6), (0, u "java/lang/Object"), (0, u "<init>"), (0, u "()V"), (0, .class_ 8), (0, u "java/lang/Record")] 13

def k2c0 : Code := { maxStack := 1, maxLocals := 1, code := jdk_30_method_1_code, exceptionTable := #[], attributes := #[] }
def k2m0 : Method := { name := "<init>", desc := "()V", sig := { parameters := [], returnType := none }, accessFlags := 4, code := some k2c0 }
/-- java/lang/Record -/
def k2 : Class := { plain "java/lang/Record" (some 0) with
  accessFlags := 1057
  interfaces := #[]
  cf := some (fileOf pool2 7 #[] #[{ accessFlags := 4, nameIndex := 5, descriptorIndex := 6, attributes := #[] }] 1057 2 #[] #[])
  fields := #[]
  methods := #[k2m0]
  instanceTypes := #[]
  staticTypes := #[]
  resolved := Array.replicate 22 none
  statics := none }

def pool3 : Array CpInfo := pool [(1, .methodref 2 3), (0, .class_ 4), (0, .nameAndType 5 6), (0, u "java/lang/Record"), (0, u "<init>"), (0, u "()V"), (0, .fieldref 8 9), (0, .class_ 10), (0, .nameAndType 11 12), (0, u "com/example/hemawire/hemawire/lis/Delimiters$Pieces"), (0, u "all"), (0, u "I"), (0, .fieldref 8 14), (0, .nameAndType 15 12), (0, u "repeats"), (0, .methodref 8 17), (0, .nameAndType 5 18), (0, u "(II)V"), (14, u "NONE"), (0, u "Lcom/example/hemawire/hemawire/lis/Delimiters$Pieces;"), (3, u "plus"), (0, u "(Lcom/example/hemawire/hemawire/lis/Delimiters$Pieces;)Lcom/example/hemawire/hemawire/lis/Delimiters$Pieces;"), (1, u "()I"), (5, .class_ 48), (0, u "com/example/hemawire/hemawire/lis/Delimiters")] 20

def k3c0 : Code := { maxStack := 2, maxLocals := 3, code := prog_24_method_1_code, exceptionTable := #[], attributes := #[] }
def k3m0 : Method := { name := "<init>", desc := "(II)V", sig := { parameters := [.int, .int], returnType := none }, accessFlags := 1, code := some k3c0 }
def k3c1 : Code := { maxStack := 5, maxLocals := 2, code := prog_24_method_2_code, exceptionTable := #[], attributes := #[] }
def k3m1 : Method := { name := "plus", desc := "(Lcom/example/hemawire/hemawire/lis/Delimiters$Pieces;)Lcom/example/hemawire/hemawire/lis/Delimiters$Pieces;", sig := { parameters := [(.object "com/example/hemawire/hemawire/lis/Delimiters$Pieces")], returnType := some (.object "com/example/hemawire/hemawire/lis/Delimiters$Pieces") }, accessFlags := 0, code := some k3c1 }
def k3c2 : Code := { maxStack := 1, maxLocals := 1, code := prog_24_method_6_code, exceptionTable := #[], attributes := #[] }
def k3m2 : Method := { name := "all", desc := "()I", sig := { parameters := [], returnType := some .int }, accessFlags := 1, code := some k3c2 }
def k3c3 : Code := { maxStack := 1, maxLocals := 1, code := prog_24_method_7_code, exceptionTable := #[], attributes := #[] }
def k3m3 : Method := { name := "repeats", desc := "()I", sig := { parameters := [], returnType := some .int }, accessFlags := 1, code := some k3c3 }
/-- com/example/hemawire/hemawire/lis/Delimiters$Pieces -/
def k3 : Class := { plain "com/example/hemawire/hemawire/lis/Delimiters$Pieces" (some 2) with
  accessFlags := 49
  interfaces := #[]
  cf := some (fileOf pool3 8 #[.nestHost 47] #[{ accessFlags := 1, nameIndex := 5, descriptorIndex := 18, attributes := #[] }, { accessFlags := 0, nameIndex := 38, descriptorIndex := 39, attributes := #[] }, { accessFlags := 1, nameIndex := 11, descriptorIndex := 41, attributes := #[] }, { accessFlags := 1, nameIndex := 15, descriptorIndex := 41, attributes := #[] }] 49 2 #[] #[{ accessFlags := 18, nameIndex := 11, descriptorIndex := 12, attributes := #[] }, { accessFlags := 18, nameIndex := 15, descriptorIndex := 12, attributes := #[] }, { accessFlags := 24, nameIndex := 33, descriptorIndex := 34, attributes := #[] }])
  fields := #[{ name := "all", type := .int, accessFlags := 18, slot := 0, constantValue := 0 }, { name := "repeats", type := .int, accessFlags := 18, slot := 1, constantValue := 0 }, { name := "NONE", type := (.object "com/example/hemawire/hemawire/lis/Delimiters$Pieces"), accessFlags := 24, slot := 0, constantValue := 0 }]
  methods := #[k3m0, k3m1, k3m2, k3m3]
  instanceTypes := #[.int, .int]
  staticTypes := #[(.object "com/example/hemawire/hemawire/lis/Delimiters$Pieces")]
  resolved := Array.replicate 69 none
  statics := some 0 }

def pool4 : Array CpInfo := pool [(1, u "java/lang/Cloneable"), (0, .class_ 1), (0, u "java/lang/Object"), (0, .class_ 3)] 3

/-- java/lang/Cloneable -/
def k4 : Class := { plain "java/lang/Cloneable" (some 0) with
  accessFlags := 1537
  interfaces := #[]
  cf := some (fileOf pool4 2 #[] #[] 1537 4 #[] #[])
  fields := #[]
  methods := #[]
  instanceTypes := #[]
  staticTypes := #[]
  resolved := Array.replicate 8 none
  statics := none }

def pool5 : Array CpInfo := pool [(1, u "java/io/Serializable"), (0, .class_ 1), (0, u "java/lang/Object"), (0, .class_ 3)] 3

/-- java/io/Serializable -/
def k5 : Class := { plain "java/io/Serializable" (some 0) with
  accessFlags := 1537
  interfaces := #[]
  cf := some (fileOf pool5 2 #[] #[] 1537 4 #[] #[])
  fields := #[]
  methods := #[]
  instanceTypes := #[]
  staticTypes := #[]
  resolved := Array.replicate 8 none
  statics := none }

/-- the primitive byte -/
def k6 : Class := { plain "byte" none with kind := .primitive 'B', accessFlags := 0x411 }
/-- [B -/
def k7 : Class := { plain "[B" (some 0) with kind := .array 6 .byte, interfaces := #[4, 5], accessFlags := 1041 }

def heap : Heap := #[{ cls := 3, slots := #[.ref 1], vm := .statics 3 },
  { cls := 3, slots := #[.int 0, .int 0], vm := .none }]
def classes : Array Class := #[k0, k1, k2, k3, k4, k5, k6, k7]
def interned : List (Array UInt16 × Addr) := []
def slotsUsed : Nat := 3
def theMethod : MethodId := ⟨1, 1⟩
def args0 : Array Value := #[.int 5, .int 4, .int 5, .int 4]
def aboutOver (below : List Frame) : State where
  vm := { classes := classes, interned := interned.toArray }
  heap := heap
  slotsUsed := slotsUsed
  threads := #[{ frames := .invoking theMethod args0 :: below }]
def below0 : List Frame := [.native { method := ⟨0, 0⟩, args := #[] }]
def about1 : State := aboutOver below0
def p0 : Program := .bare "" "" ""
def e0 : Env := launch0.env 0 0 0
theorem w_frames : about1.frames = Frame.invoking theMethod args0 :: below0 := rfl
set_option maxRecDepth 65536 in
theorem w_args : argsFit about1.vm theMethod args0 = true := by decide +kernel
set_option maxRecDepth 65536 in
theorem w_heap : heapFits about1 = true := by decide +kernel
set_option maxRecDepth 65536 in
theorem w_runnable : about1.curStatus? = some .runnable := by decide +kernel
set_option maxRecDepth 65536 in
theorem w_alone : about1.alone = true := by decide +kernel
set_option maxRecDepth 65536 in
theorem w_named : about1.methodNamed? x = some theMethod := by decide +kernel
set_option maxRecDepth 65536 in
theorem w_hears : about1.hears theMethod below0 = true := by decide +kernel
set_option maxRecDepth 65536 in
theorem w_ripe : about1.ripe theMethod args0 below0 = true := by decide +kernel
theorem w_running : about1.status = .running := rfl
set_option maxRecDepth 65536 in
theorem w_room : about1.hasRoom e0.platform room_1 = true :=
  launch0.hasRoom_least _ room_1 (by decide +kernel) (by decide +kernel) (by decide +kernel) (by decide +kernel) (by decide +kernel) (by decide +kernel)
theorem allAtoms_all (ts : List Jvm.Cond) (a : Array Jvm.Value) (st : Jvm.State) : (allAtoms ts).before a st = ts.all (fun c => c.before a st) := by
  induction ts with
  | nil => rfl
  | cons c t ih =>
    show (Jvm.Cond.and c (allAtoms t)).before a st = _
    rw [Jvm.Cond.before_and, ih, List.all_cons]
def words1 : List Jvm.Cond := Jvm.Cond.code x code maxLocals ret :: tables_1
/-- a 'code' word, met by the world's own term for the bytes: nothing is compared byte by byte -/
theorem code_word {y : MethodName} {bytes : ByteArray} {mx : Nat} {rt : Option FieldType} {a : Array Value} {s : State} {m : MethodId} {meth : Method} {c : Code} (h1 : s.methodNamed? y = some m) (h2 : s.vm.method? m = some meth) (h3 : meth.code = some c) (h4 : c.code = bytes)
    (h5 : (c.maxLocals == mx && c.exceptionTable.isEmpty && decide (c.maxStack ≤ mostOperands) && decide (meth.sig.returnType = rt) && !meth.locks && decide (parseMethodDescriptor y.desc = some meth.sig)) = true) : (Jvm.Cond.code y bytes mx rt).before a s = true := by
  simp only [Bool.and_eq_true, beq_iff_eq, Bool.not_eq_true', decide_eq_true_eq] at h5
  obtain ⟨⟨⟨⟨⟨g1, g2⟩, g3⟩, g4⟩, g5⟩, g6⟩ := h5
  simp [Cond.before, Cond.holds, Cond.value, h1, h2, h3, h4, g1, g2, g3, g4, g5, g6]
def isCode : Jvm.Cond → Bool
  | .code _ _ _ _ => true
  | _ => false
theorem all_split {L : List Jvm.Cond} {P : Jvm.Cond → Bool} (h1 : L.all (fun c => isCode c || P c) = true) (h2 : ∀ c ∈ L.filter isCode, P c = true) : L.all P = true := by
  refine List.all_eq_true.mpr fun c hc => ?_
  have h := List.all_eq_true.mp h1 c hc
  rcases Bool.eq_false_or_eq_true (isCode c) with hi | hi
  · exact h2 c (List.mem_filter.mpr ⟨hc, hi⟩)
  · simpa [hi] using h
set_option maxRecDepth 65536 in
theorem w_c0 : (Jvm.Cond.code x code maxLocals ret).before args0 about1 = true := code_word (m := ⟨1, 1⟩) (meth := k1m1) (c := k1c1) (by decide +kernel) rfl rfl rfl (by decide +kernel)
set_option maxRecDepth 65536 in
theorem w_c1 : (Jvm.Cond.code ({ cls := "com/example/hemawire/hemawire/lis/Delimiters$Pieces", name := "<init>", desc := "(II)V" } : Jvm.MethodName) prog_24_method_1_code (3 : Nat) (Option.none : Option Jvm.ClassFile.FieldType)).before args0 about1 = true := code_word (m := ⟨3, 0⟩) (meth := k3m0) (c := k3c0) (by decide +kernel) rfl rfl rfl (by decide +kernel)
set_option maxRecDepth 65536 in
theorem w_c2 : (Jvm.Cond.code ({ cls := "java/lang/Record", name := "<init>", desc := "()V" } : Jvm.MethodName) jdk_30_method_1_code (1 : Nat) (Option.none : Option Jvm.ClassFile.FieldType)).before args0 about1 = true := code_word (m := ⟨2, 0⟩) (meth := k2m0) (c := k2c0) (by decide +kernel) rfl rfl rfl (by decide +kernel)
set_option maxRecDepth 65536 in
theorem w_c3 : (Jvm.Cond.code ({ cls := "java/lang/Object", name := "<init>", desc := "()V" } : Jvm.MethodName) object_method_1_code (1 : Nat) (Option.none : Option Jvm.ClassFile.FieldType)).before args0 about1 = true := code_word (m := ⟨0, 0⟩) (meth := k0m0) (c := k0c0) (by decide +kernel) rfl rfl rfl (by decide +kernel)
set_option maxRecDepth 65536 in
theorem w_c4 : (Jvm.Cond.code ({ cls := "com/example/hemawire/hemawire/lis/Delimiters$Pieces", name := "plus", desc := "(Lcom/example/hemawire/hemawire/lis/Delimiters$Pieces;)Lcom/example/hemawire/hemawire/lis/Delimiters$Pieces;" } : Jvm.MethodName) prog_24_method_2_code (2 : Nat) (Option.some (Jvm.ClassFile.FieldType.object "com/example/hemawire/hemawire/lis/Delimiters$Pieces"))).before args0 about1 = true := code_word (m := ⟨3, 1⟩) (meth := k3m1) (c := k3c1) (by decide +kernel) rfl rfl rfl (by decide +kernel)
set_option maxRecDepth 65536 in
theorem w_c5 : (Jvm.Cond.code ({ cls := "com/example/hemawire/hemawire/lis/Delimiters$Pieces", name := "all", desc := "()I" } : Jvm.MethodName) prog_24_method_6_code (1 : Nat) (Option.some Jvm.ClassFile.FieldType.int)).before args0 about1 = true := code_word (m := ⟨3, 2⟩) (meth := k3m2) (c := k3c2) (by decide +kernel) rfl rfl rfl (by decide +kernel)
set_option maxRecDepth 65536 in
theorem w_c6 : (Jvm.Cond.code ({ cls := "com/example/hemawire/hemawire/lis/Delimiters$Pieces", name := "repeats", desc := "()I" } : Jvm.MethodName) prog_24_method_7_code (1 : Nat) (Option.some Jvm.ClassFile.FieldType.int)).before args0 about1 = true := code_word (m := ⟨3, 3⟩) (meth := k3m3) (c := k3c3) (by decide +kernel) rfl rfl rfl (by decide +kernel)
def codes1 : List Jvm.Cond := [Jvm.Cond.code x code maxLocals ret, Jvm.Cond.code ({ cls := "com/example/hemawire/hemawire/lis/Delimiters$Pieces", name := "<init>", desc := "(II)V" } : Jvm.MethodName) prog_24_method_1_code (3 : Nat) (Option.none : Option Jvm.ClassFile.FieldType), Jvm.Cond.code ({ cls := "java/lang/Record", name := "<init>", desc := "()V" } : Jvm.MethodName) jdk_30_method_1_code (1 : Nat) (Option.none : Option Jvm.ClassFile.FieldType), Jvm.Cond.code ({ cls := "java/lang/Object", name := "<init>", desc := "()V" } : Jvm.MethodName) object_method_1_code (1 : Nat) (Option.none : Option Jvm.ClassFile.FieldType), Jvm.Cond.code ({ cls := "com/example/hemawire/hemawire/lis/Delimiters$Pieces", name := "plus", desc := "(Lcom/example/hemawire/hemawire/lis/Delimiters$Pieces;)Lcom/example/hemawire/hemawire/lis/Delimiters$Pieces;" } : Jvm.MethodName) prog_24_method_2_code (2 : Nat) (Option.some (Jvm.ClassFile.FieldType.object "com/example/hemawire/hemawire/lis/Delimiters$Pieces")), Jvm.Cond.code ({ cls := "com/example/hemawire/hemawire/lis/Delimiters$Pieces", name := "all", desc := "()I" } : Jvm.MethodName) prog_24_method_6_code (1 : Nat) (Option.some Jvm.ClassFile.FieldType.int), Jvm.Cond.code ({ cls := "com/example/hemawire/hemawire/lis/Delimiters$Pieces", name := "repeats", desc := "()I" } : Jvm.MethodName) prog_24_method_7_code (1 : Nat) (Option.some Jvm.ClassFile.FieldType.int)]
set_option maxRecDepth 65536 in
theorem codes_eq : words1.filter isCode = codes1 := rfl
theorem w_codes : ∀ c ∈ words1.filter isCode, c.before args0 about1 = true := by
  rw [codes_eq]
  intro c hc
  simp only [codes1, List.mem_cons, List.not_mem_nil, or_false] at hc
  rcases hc with rfl | rfl | rfl | rfl | rfl | rfl | rfl
  · exact w_c0
  · exact w_c1
  · exact w_c2
  · exact w_c3
  · exact w_c4
  · exact w_c5
  · exact w_c6
set_option maxRecDepth 65536 in
theorem w_t1 : (words1.take 24).all (fun c => isCode c || c.before args0 about1) = true := by decide +kernel
set_option maxRecDepth 65536 in
theorem w_t2 : (words1.drop 24).all (fun c => isCode c || c.before args0 about1) = true := by decide +kernel
theorem w_tables : (allAtoms (Jvm.Cond.code x code maxLocals ret :: tables_1)).before args0 about1 = true := by
  rw [allAtoms_all]
  show words1.all (fun c => c.before args0 about1) = true
  refine all_split ?_ w_codes
  rw [← List.take_append_drop 24 words1, List.all_append, w_t1, w_t2]
  rfl
set_option maxRecDepth 65536 in
theorem w_case : (Jvm.Cond.and given_1 narrow_1).before args0 about1 = true := by decide +kernel
theorem w_applies : (headSpec (Jvm.Cond.code x code maxLocals ret :: tables_1) room_1).applies x e0.platform about1 = true :=
  (Spec.applies_iff w_frames).mpr ⟨w_running, w_runnable, w_alone, w_named, w_hears, w_ripe, w_room, w_tables⟩
theorem atStart : AtStart classFile x code maxLocals ret World_1 tables_1 room_1 Calls_1 rest_1 Pre_1 launch0 p0 e0 about1 theMethod args0 below0 :=
  ⟨lists_1, trivial, launch0.admits_env _ _ _, launch0.least_env, fairChoices_fair.cas, fairChoices_fair.clock, w_frames, w_args, w_heap, w_applies, trivial, trivial, w_case⟩
end start1
theorem witness_1 : WitnessClaimed_1 := ⟨start1.p0, start1.e0, start1.about1, start1.theMethod, start1.args0, start1.below0, start1.atStart⟩
end Jvm.Pilot.@@N@@
