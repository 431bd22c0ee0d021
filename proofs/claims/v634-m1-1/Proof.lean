import JvmDerived
import JvmDerived.Pilot.@@N@@Statement
import JvmDerived.Pilot.@@N@@Code
set_option linter.unusedVariables false
set_option linter.unusedSimpArgs false
@@BLOCK:NumsL.lean.txt@@
namespace Jvm.RoadKit
open Sem ClassFile Op Lib Jvm.Stand Jvm.Free Jvm.LawKit
section New
variable {p : Program} {l : Launch} {e : Env} {R : Room} {s : State} {m : MethodId} {args : Array Value} {below : List Frame} {meth : Method} {c : Code} {T : State} {locs : List Loc} {cells slots : Nat}
theorem retI (X : Stand p l e R s m args below meth c T locs cells slots) (hx : p.tables.exec = Jvm.exec) {pc : Nat} {Ls : Array Slot} {z : Int32} {rest : List Value} (hret : meth.sig.returnType = some .int) (hd : decode c.code pc = .ok (.ireturn, 1)) {fs : List Frame}
    (hl : ∀ (f : JFrame) (acts : List Action), f.method = m → f.locked = none → f.entered = [] → (doReturn e (T.setTop f) acts (some (.int z))).1 = T.setFrames fs) : Steps p.tables e below (T.setTop (mkF m pc Ls (.int z :: rest))) (T.setFrames fs) := by
  have hm' : T.vm.method? m = some meth := X.method'
  have hn : narrow .int (.int z) = .int z := rfl
  show Steps p.tables e below (T.setTop { method := m, pc := pc, locals := Ls, stack := _ :: rest, locked := none }) _
  jvm_step X.here [X.here.top, hx, hd, hm', hret, hn]
  first | (intro acts; rw [hl _ acts rfl rfl rfl]) | rw [hl _ _ rfl rfl rfl]
  exact Steps.refl _
end New
end Jvm.RoadKit
namespace Jvm.Pilot.@@N@@
open Jvm Jvm.ClassFile Sem Op Lib Jvm.Free Jvm.Stand Jvm.LawKit Jvm.RoadKit Bundle Jvm.Pilot.@@N@@.Jvm.D
theorem own_fld_ne {Z : State} {h : Heap} {a b : Addr} {C n d : String} {v w : Value} (F : Fld Z h a C n d v) (G : Fld Z h b C n d w) (q : v ≠ w) : a ≠ b := fun e => by
  subst e
  obtain ⟨c1, cf1, k1, i1, f1, a1, a2, -, -, -, -, a7⟩ := F
  obtain ⟨c2, cf2, k2, i2, f2, b1, b2, -, -, -, -, b7⟩ := G
  cases a1.symm.trans b1
  cases a2.symm.trans b2
  exact q (Option.some.inj (a7.symm.trans b7))
theorem own_fldI {args : Array Value} {s : State} {t : Term} {a : Addr} {C n d : String} {k : Int32} (ht : t.eval args s none [] s = some (.ref a)) (h : (Jvm.Cond.eq (Term.field t C n d) (Term.int k)).value args s none s [] = some true) : Fld s s.heap a C n d (.int k) := by
  apply Fld.start
  have e1 : (Term.field t C n d).eval args s none [] s = s.fieldOf? a C n d := fld_at ht
  have e2 : (Term.int k).eval args s none [] s = some (.int k) := Term.int_eval k
  simp only [Cond.value, e1, e2] at h
  split at h <;> simp_all
theorem own_nm0 {a : Addr} : a ∉ ([] : List Addr) := List.not_mem_nil
theorem own_nm1 {a x : Addr} (h : a ≠ x) : a ∉ [x] := fun q => h (List.mem_singleton.mp q)
theorem own_nm2 {a x y : Addr} (h : a ≠ x) (h2 : a ≠ y) : a ∉ [x, y] := fun q => by
  rcases List.mem_cons.mp q with q | q
  · exact h q
  · exact h2 (List.mem_singleton.mp q)
theorem own_nm3 {a x y z : Addr} (h : a ≠ x) (h2 : a ≠ y) (h3 : a ≠ z) : a ∉ [x, y, z] := fun q => by
  rcases List.mem_cons.mp q with q | q
  · exact h q
  · exact own_nm2 h2 h3 q
theorem own_all0 {P : Addr → Prop} : ∀ x ∈ ([] : List Addr), P x := fun x q => (List.not_mem_nil q).elim
theorem own_all1 {P : Addr → Prop} {a : Addr} (h : P a) : ∀ x ∈ [a], P x := fun x q => by rw [List.mem_singleton.mp q]; exact h
theorem own_all2 {P : Addr → Prop} {a b : Addr} (h : P a) (h2 : P b) : ∀ x ∈ [a, b], P x := fun x q => by
  rcases List.mem_cons.mp q with q | q
  · rw [q]; exact h
  · rw [List.mem_singleton.mp q]; exact h2
theorem own_all3 {P : Addr → Prop} {a b c : Addr} (h : P a) (h2 : P b) (h3 : P c) : ∀ x ∈ [a, b, c], P x := fun x q => by
  rcases List.mem_cons.mp q with q | q
  · rw [q]; exact h
  · exact own_all2 h2 h3 x q
section OwnD
open Jvm.FP
variable {p : Program} {l : Launch} {e : Env} {R : Room} {s : State} {m : MethodId} {args : Array Value} {below : List Frame} {meth : Method} {c : Code} {T : State} {locs : List Loc} {cells slots : Nat}
theorem own_retD (X : Stand p l e R s m args below meth c T locs cells slots) (hx : p.tables.exec = Jvm.exec) {pc : Nat} {Ls : Array Slot} {z : UInt64} {rest : List Value} (hret : meth.sig.returnType = some .double) (hd : decode c.code pc = .ok (.dreturn, 1)) {fs : List Frame}
    (hl : ∀ (f : JFrame) (acts : List Action), f.method = m → f.locked = none → f.entered = [] → (doReturn e (T.setTop f) acts (some (.double z))).1 = T.setFrames fs) : Steps p.tables e below (T.setTop (mkF m pc Ls (.double z :: rest))) (T.setFrames fs) := by
  have hm' : T.vm.method? m = some meth := X.method'
  show Steps p.tables e below (T.setTop { method := m, pc := pc, locals := Ls, stack := _ :: rest, locked := none }) _
  jvm_step X.here [X.here.top, hx, hd, hm', hret]
  first | (intro acts; rw [hl _ acts rfl rfl rfl]) | rw [hl _ _ rfl rfl rfl]
  exact Steps.refl _
end OwnD
def own_D (x : UInt64) (i : Int) (K : Nat) : Prop := Jvm.FP.Core.DInt i x ∧ i.natAbs ≤ K
def own_L (a : Int64) (i : Int) (K : Nat) : Prop := a.toInt = i ∧ i.natAbs ≤ K
theorem own_D_nn {x : UInt64} {i : Int} {K : Nat} (h : own_D x i K) : Jvm.Free.Fl.NoNaN64 x := Jvm.Free.Fl.noNaN64_no.mpr ((Jvm.FP.Core.notNaN_iff x).mpr (Jvm.FP.Core.DInt_ne_nan h.1))
theorem own_D_mul {x y : UInt64} {i j : Int} {K M : Nat} (h : own_D x i K) (q : own_D y j M) (b : K * M ≤ 2 ^ 53) : own_D (FP.dmul x y) (i * j) (K * M) := by
  have e : (i * j).natAbs ≤ K * M := by rw [Int.natAbs_mul]; exact Nat.mul_le_mul h.2 q.2
  exact ⟨Jvm.FP.Core.dmul_int h.1 q.1 (Nat.le_trans e b), e⟩
theorem own_D_add {x y : UInt64} {i j : Int} {K M : Nat} (h : own_D x i K) (q : own_D y j M) (b : K + M ≤ 2 ^ 53) : own_D (FP.dadd x y) (i + j) (K + M) := by
  have e : (i + j).natAbs ≤ K + M := Nat.le_trans (Int.natAbs_add_le i j) (Nat.add_le_add h.2 q.2)
  exact ⟨Jvm.FP.Core.dadd_int h.1 q.1 (Nat.le_trans e b), e⟩
theorem own_D_0 : own_D (0 : UInt64) (0 : Int) 0 := by
  refine ⟨?_, Nat.le_refl _⟩
  have h := Jvm.FP.Core.l2d_int (a := (0 : Int64)) (by decide)
  rw [show Jvm.FP.Core.l2d (0 : Int64) = (0 : UInt64) from Jvm.FP.Core.l2d_zero] at h
  exact h
theorem own_D_i (t : Int32) {K : Nat} (h : t.toInt.natAbs ≤ K) : own_D (FP.i2d t) t.toInt K := ⟨Jvm.FP.Core.i2d_int t, h⟩
theorem own_D_cmp {x y : UInt64} {i : Int} {K M : Nat} (h : own_D x i K) (q : own_D y i M) (o : CmpOp) : cmpValue (FP.dcmp x y) o = 0 := by
  rw [show FP.dcmp x y = some (compare i i) from Jvm.FP.Core.dcmp_int h.1 q.1, Jvm.FP.Core.compare_ite, if_neg (Int.lt_irrefl i), if_pos rfl]
  rfl
theorem own_L_0 : own_L (0 : Int64) (0 : Int) 0 := ⟨by decide, Nat.le_refl _⟩
theorem own_L_i (t : Int32) {K : Nat} (h : t.toInt.natAbs ≤ K) : own_L t.toInt64 t.toInt K := ⟨Jvm.Kit.i64_of_i32 t, h⟩
theorem own_L_mul {a b : Int64} {i j : Int} {K M : Nat} (h : own_L a i K) (q : own_L b j M) (d : K * M ≤ 2 ^ 53) : own_L (a * b) (i * j) (K * M) := by
  have e : (i * j).natAbs ≤ K * M := by rw [Int.natAbs_mul]; exact Nat.mul_le_mul h.2 q.2
  refine ⟨?_, e⟩
  rw [Jvm.Kit.i64_mul (by rw [h.1, q.1]; omega) (by rw [h.1, q.1]; omega), h.1, q.1]
theorem own_L_add {a b : Int64} {i j : Int} {K M : Nat} (h : own_L a i K) (q : own_L b j M) (d : K + M ≤ 2 ^ 53) : own_L (a + b) (i + j) (K + M) := by
  have e : (i + j).natAbs ≤ K + M := Nat.le_trans (Int.natAbs_add_le i j) (Nat.add_le_add h.2 q.2)
  refine ⟨?_, e⟩
  rw [Jvm.Kit.i64_add (by rw [h.1, q.1]; omega) (by rw [h.1, q.1]; omega), h.1, q.1]
theorem own_LD {a : Int64} {i : Int} {K : Nat} (h : own_L a i K) (b : K ≤ 2 ^ 53) : own_D (FP.l2d a) i K := by
  obtain ⟨rfl, h2⟩ := h
  exact ⟨Jvm.FP.Core.l2d_int (Nat.le_trans h2 b), h2⟩
def own_hi (yp : Int32) : Int32 := (yp >>> ((16 : Int32) &&& 31))
def own_lo (yp : Int32) : Int32 := ((yp <<< ((16 : Int32) &&& 31)) >>> ((16 : Int32) &&& 31))
theorem own_hi_b (x : Int32) : (own_hi x).toInt.natAbs ≤ 32768 := by
  have e : (own_hi x).toInt = x.toInt / 2 ^ 16 := Jvm.Kit.i32_shr x _ (k := 16) (by decide)
  have a := x.toInt_lt; have b := x.le_toInt
  rw [e]; omega
theorem own_lo_b (x : Int32) : (own_lo x).toInt.natAbs ≤ 32768 := own_hi_b _
theorem own_r75 (x : Int32) : ((x &&& (7 : Int32)) - ((x &&& (7 : Int32)) / (5 : Int32)) * (5 : Int32)) = (0 : Int32) ∨ ((x &&& (7 : Int32)) - ((x &&& (7 : Int32)) / (5 : Int32)) * (5 : Int32)) = (1 : Int32) ∨ ((x &&& (7 : Int32)) - ((x &&& (7 : Int32)) / (5 : Int32)) * (5 : Int32)) = (2 : Int32) ∨ ((x &&& (7 : Int32)) - ((x &&& (7 : Int32)) / (5 : Int32)) * (5 : Int32)) = (3 : Int32) ∨ ((x &&& (7 : Int32)) - ((x &&& (7 : Int32)) / (5 : Int32)) * (5 : Int32)) = (4 : Int32) := by
  have e : (x &&& (7 : Int32)).toInt = x.toInt % 2 ^ 3 := Jvm.Kit.i32_mask x _ (k := 3) (by decide) (by decide)
  generalize (x &&& (7 : Int32)) = y at *
  have h : y.toInt = 0 ∨ y.toInt = 1 ∨ y.toInt = 2 ∨ y.toInt = 3 ∨ y.toInt = 4 ∨ y.toInt = 5 ∨ y.toInt = 6 ∨ y.toInt = 7 := by omega
  rcases h with h | h | h | h | h | h | h | h
  · rw [show y = 0 from Int32.toInt_inj.mp h]; decide
  · rw [show y = 1 from Int32.toInt_inj.mp h]; decide
  · rw [show y = 2 from Int32.toInt_inj.mp h]; decide
  · rw [show y = 3 from Int32.toInt_inj.mp h]; decide
  · rw [show y = 4 from Int32.toInt_inj.mp h]; decide
  · rw [show y = 5 from Int32.toInt_inj.mp h]; decide
  · rw [show y = 6 from Int32.toInt_inj.mp h]; decide
  · rw [show y = 7 from Int32.toInt_inj.mp h]; decide
theorem pn_0 : plainName "com/example/centroid/centroid/VectorsDotPinLaw" = true := by first | (simp [plainName, overriddenIn]; done) | decide +kernel
theorem ef_1 (m : MethodId) (x0 : Int32) : entryFrame m #[(.int x0)] 1 = mkF m 0 #[.val (.int x0)] [] := by first | (simp [entryFrame, mkF, argsToLocals, Value.category]; done) | rfl
theorem d2_0 : decode method_2_code 0 = .ok (.iload_n 0, 1) := by decide +kernel
theorem d2_1 : decode method_2_code 1 = .ok (.bipush 16, 2) := by decide +kernel
theorem d2_3 : decode method_2_code 3 = .ok (.ishl, 1) := by decide +kernel
theorem d2_4 : decode method_2_code 4 = .ok (.bipush 16, 2) := by decide +kernel
theorem d2_6 : decode method_2_code 6 = .ok (.ishr, 1) := by decide +kernel
theorem d2_7 : decode method_2_code 7 = .ok (.ireturn, 1) := by decide +kernel
def Q_lo (Z : State) (yp : Int32) (h0 : Heap) (n0 : Nat) (v : Option Value) (h : Heap) (L : List Loc) : Prop := v = some (.int (own_lo yp)) ∧ Fr n0 L ∧ h = h0
set_option maxRecDepth 65536 in
set_option maxHeartbeats 40000000 in
theorem rm_lo (l : Launch) (Z : State) (a0 : Array Value) (hw : ∀ d ∈ tables_1, d.before a0 Z = true) (ws : List Jvm.Cond) (yp : Int32) (h0 : Heap) (n0 : Nat) (O0 : Old Z n0 h0) :
    MetFree l (⟨"com/example/centroid/centroid/VectorsDotPinLaw", "lo", "(I)I"⟩ : MethodName) (head1 (Jvm.Cond.code (⟨"com/example/centroid/centroid/VectorsDotPinLaw", "lo", "(I)I"⟩ : MethodName) method_2_code 1 (some .int) :: ws) ({ frames := 0, cells := 0, slots := 0, locals := 0 } : Room)) (fun a U => a = #[(.int yp)] ∧ Z.Warmed39 U.vm ∧ U.heap = h0) (fun _ _ _ _ _ => True) (fun _ U o U' => ∃ v L, o = .returned v ∧ Q_lo Z yp h0 n0 v U'.heap L ∧ FrameEnd U o U' L ({ frames := 0, cells := 0, slots := 0, locals := 0 } : Room).cells ({ frames := 0, cells := 0, slots := 0, locals := 0 } : Room).slots) := by
  refine MetFree.of_bodySF (plainFor_of_name pn_0) hisR ?_
  intro p e s m args below meth c s₁ Bd hml0 hP hK
  have W := fun {d : Jvm.Cond} (i : Nat) (q : tables_1[i]? = some d) => hw d (List.mem_of_getElem? q)
  obtain ⟨rfl, hZ, hh⟩ := hP
  have hx := Bd.exec
  have hby := Bd.bytes
  have hml : c.maxLocals = 1 := hml0
  have hown : s.vm.findClass "com/example/centroid/centroid/VectorsDotPinLaw" = some m.cls := findClass_of_methodNamed Bd.named
  have hnm := (name_of_methodNamed Bd.named Bd.method).1
  have X0 : Stand p l e ({ frames := 0, cells := 0, slots := 0, locals := 0 } : Room) s m #[(.int yp)] below meth c s₁ [] 0 0 := Stand.of_body Bd
  have e0 : s₁.heap = h0 := by rw [← hh, Bd.state]; rfl
  have N0 := Fr.nil n0
  have pre0 : ∀ t, Steps p.tables e below (s₁.setTop (mkF m 0 #[iv yp] [])) t → Steps p.tables e below (s₁.setTop (entryFrame m #[(.int yp)] 1)) t := fun t k => castTop (ef_1 m yp) k
  have K0 : Keep h0 h0 [] := Keep.refl h0 []
  have pre1 : ∀ t, Steps p.tables e below (s₁.setTop (mkF m 7 #[iv yp] [(.int ((yp <<< ((16 : Int32) &&& 31)) >>> ((16 : Int32) &&& 31)))])) t → Steps p.tables e below (s₁.setTop (entryFrame m #[(.int yp)] 1)) t := fun t kt => by
    refine pre0 _ ?_
    show Steps p.tables e below (s₁.setTop (mkF m 0 #[iv yp] [])) _
    refine XS.iloadN X0.here hx rfl (hb hby d2_0) rfl ?_
    show Steps p.tables e below (s₁.setTop (mkF m 1 #[iv yp] [(.int yp)])) _
    refine XS.bipush X0.here hx rfl (hb hby d2_1) ?_
    show Steps p.tables e below (s₁.setTop (mkF m 3 #[iv yp] [(.int (16 : Int32)), (.int yp)])) _
    refine XS.ishl X0.here hx rfl (hb hby d2_3) rfl ?_
    show Steps p.tables e below (s₁.setTop (mkF m 4 #[iv yp] [(.int (yp <<< ((16 : Int32) &&& 31)))])) _
    refine XS.bipush X0.here hx rfl (hb hby d2_4) ?_
    show Steps p.tables e below (s₁.setTop (mkF m 6 #[iv yp] [(.int (16 : Int32)), (.int (yp <<< ((16 : Int32) &&& 31)))])) _
    refine XS.ishr X0.here hx rfl (hb hby d2_6) rfl ?_
    exact kt
  -- returns (.int ((yp <<< ((16 : Int32) &&& 31)) >>> ((16 : Int32) &&& 31))), wanted (.int (own_lo yp))
  obtain ⟨fs, hr, hrun, hended, hW, hsame⟩ := X0.leave (v := some (.int ((yp <<< ((16 : Int32) &&& 31)) >>> ((16 : Int32) &&& 31)))) (fun h => by rw [Bd.returns] at h; cases h)
  refine ⟨_, _, pre1 _ (retI X0 hx Bd.returns (hb hby d2_7) hr), hrun, hended, _, _, rfl, ?_, ⟨_, rfl⟩, hW, hsame.mono (by decide) (by decide)⟩
  show Q_lo Z yp h0 n0 _ s₁.heap _
  rw [e0]
  exact ⟨(congrArg (fun z => some (Value.int z)) rfl), N0, rfl⟩
theorem ef_2 (m : MethodId) (x0 : Int32) : entryFrame m #[(.int x0)] 1 = mkF m 0 #[.val (.int x0)] [] := by first | (simp [entryFrame, mkF, argsToLocals, Value.category]; done) | rfl
theorem d3_0 : decode method_3_code 0 = .ok (.iload_n 0, 1) := by decide +kernel
theorem d3_1 : decode method_3_code 1 = .ok (.bipush 16, 2) := by decide +kernel
theorem d3_3 : decode method_3_code 3 = .ok (.ishr, 1) := by decide +kernel
theorem d3_4 : decode method_3_code 4 = .ok (.ireturn, 1) := by decide +kernel
def Q_hi (Z : State) (yp : Int32) (h0 : Heap) (n0 : Nat) (v : Option Value) (h : Heap) (L : List Loc) : Prop := v = some (.int (own_hi yp)) ∧ Fr n0 L ∧ h = h0
set_option maxRecDepth 65536 in
set_option maxHeartbeats 40000000 in
theorem rm_hi (l : Launch) (Z : State) (a0 : Array Value) (hw : ∀ d ∈ tables_1, d.before a0 Z = true) (ws : List Jvm.Cond) (yp : Int32) (h0 : Heap) (n0 : Nat) (O0 : Old Z n0 h0) :
    MetFree l (⟨"com/example/centroid/centroid/VectorsDotPinLaw", "hi", "(I)I"⟩ : MethodName) (head1 (Jvm.Cond.code (⟨"com/example/centroid/centroid/VectorsDotPinLaw", "hi", "(I)I"⟩ : MethodName) method_3_code 1 (some .int) :: ws) ({ frames := 0, cells := 0, slots := 0, locals := 0 } : Room)) (fun a U => a = #[(.int yp)] ∧ Z.Warmed39 U.vm ∧ U.heap = h0) (fun _ _ _ _ _ => True) (fun _ U o U' => ∃ v L, o = .returned v ∧ Q_hi Z yp h0 n0 v U'.heap L ∧ FrameEnd U o U' L ({ frames := 0, cells := 0, slots := 0, locals := 0 } : Room).cells ({ frames := 0, cells := 0, slots := 0, locals := 0 } : Room).slots) := by
  refine MetFree.of_bodySF (plainFor_of_name pn_0) hisR ?_
  intro p e s m args below meth c s₁ Bd hml0 hP hK
  have W := fun {d : Jvm.Cond} (i : Nat) (q : tables_1[i]? = some d) => hw d (List.mem_of_getElem? q)
  obtain ⟨rfl, hZ, hh⟩ := hP
  have hx := Bd.exec
  have hby := Bd.bytes
  have hml : c.maxLocals = 1 := hml0
  have hown : s.vm.findClass "com/example/centroid/centroid/VectorsDotPinLaw" = some m.cls := findClass_of_methodNamed Bd.named
  have hnm := (name_of_methodNamed Bd.named Bd.method).1
  have X0 : Stand p l e ({ frames := 0, cells := 0, slots := 0, locals := 0 } : Room) s m #[(.int yp)] below meth c s₁ [] 0 0 := Stand.of_body Bd
  have e0 : s₁.heap = h0 := by rw [← hh, Bd.state]; rfl
  have N0 := Fr.nil n0
  have pre0 : ∀ t, Steps p.tables e below (s₁.setTop (mkF m 0 #[iv yp] [])) t → Steps p.tables e below (s₁.setTop (entryFrame m #[(.int yp)] 1)) t := fun t k => castTop (ef_2 m yp) k
  have K0 : Keep h0 h0 [] := Keep.refl h0 []
  have pre2 : ∀ t, Steps p.tables e below (s₁.setTop (mkF m 4 #[iv yp] [(.int (yp >>> ((16 : Int32) &&& 31)))])) t → Steps p.tables e below (s₁.setTop (entryFrame m #[(.int yp)] 1)) t := fun t kt => by
    refine pre0 _ ?_
    show Steps p.tables e below (s₁.setTop (mkF m 0 #[iv yp] [])) _
    refine XS.iloadN X0.here hx rfl (hb hby d3_0) rfl ?_
    show Steps p.tables e below (s₁.setTop (mkF m 1 #[iv yp] [(.int yp)])) _
    refine XS.bipush X0.here hx rfl (hb hby d3_1) ?_
    show Steps p.tables e below (s₁.setTop (mkF m 3 #[iv yp] [(.int (16 : Int32)), (.int yp)])) _
    refine XS.ishr X0.here hx rfl (hb hby d3_3) rfl ?_
    exact kt
  -- returns (.int (yp >>> ((16 : Int32) &&& 31))), wanted (.int (own_hi yp))
  obtain ⟨fs, hr, hrun, hended, hW, hsame⟩ := X0.leave (v := some (.int (yp >>> ((16 : Int32) &&& 31)))) (fun h => by rw [Bd.returns] at h; cases h)
  refine ⟨_, _, pre2 _ (retI X0 hx Bd.returns (hb hby d3_4) hr), hrun, hended, _, _, rfl, ?_, ⟨_, rfl⟩, hW, hsame.mono (by decide) (by decide)⟩
  show Q_hi Z yp h0 n0 _ s₁.heap _
  rw [e0]
  exact ⟨(congrArg (fun z => some (Value.int z)) rfl), N0, rfl⟩
theorem pn_3 : plainName "com/example/centroid/centroid/Vectors" = true := by first | (simp [plainName, overriddenIn]; done) | decide +kernel
theorem ef_4 (m : MethodId) (x0 : Addr) (x1 : Addr) : entryFrame m #[(.ref x0), (.ref x1)] 5 = mkF m 0 #[.val (.ref x0), .val (.ref x1), .unset, .unset, .unset] [] := by first | (simp [entryFrame, mkF, argsToLocals, Value.category]; done) | rfl
theorem d1_0 : decode prog_52_method_2_code 0 = .ok (.dconst 0, 1) := by decide +kernel
theorem d1_1 : decode prog_52_method_2_code 1 = .ok (.dstore_n 2, 1) := by decide +kernel
theorem d1_2 : decode prog_52_method_2_code 2 = .ok (.iconst 0, 1) := by decide +kernel
theorem d1_3 : decode prog_52_method_2_code 3 = .ok (.istore 4, 2) := by decide +kernel
theorem d1_5 : decode prog_52_method_2_code 5 = .ok (.iload 4, 2) := by decide +kernel
theorem d1_7 : decode prog_52_method_2_code 7 = .ok (.aload_n 0, 1) := by decide +kernel
theorem d1_8 : decode prog_52_method_2_code 8 = .ok (.arraylength, 1) := by decide +kernel
theorem d1_9 : decode prog_52_method_2_code 9 = .ok (.if_icmp .ge 21, 3) := by decide +kernel
theorem d1_30 : decode prog_52_method_2_code 30 = .ok (.dload_n 2, 1) := by decide +kernel
theorem d1_31 : decode prog_52_method_2_code 31 = .ok (.dreturn, 1) := by decide +kernel
def Q_dot0 (Z : State) (xa : Addr) (ya : Addr) (kx : ClassId) (ky : ClassId) (h0 : Heap) (n0 : Nat) (v : Option Value) (h : Heap) (L : List Loc) : Prop := ∃ (rd : UInt64), v = some (.double rd) ∧ Fr n0 L ∧ h = h0 ∧ (own_D rd (0 : Int) 0)
set_option maxRecDepth 65536 in
set_option maxHeartbeats 40000000 in
theorem rm_dot0 (l : Launch) (Z : State) (a0 : Array Value) (hw : ∀ d ∈ tables_1, d.before a0 Z = true) (ws : List Jvm.Cond) (xa : Addr) (ya : Addr) (kx : ClassId) (ky : ClassId) (h0 : Heap) (n0 : Nat) (O0 : Old Z n0 h0) (Fi0 : Arv Z h0 xa kx .double (0 : Int32) [] (.double (0 : UInt64))) (Fi1 : Arv Z h0 ya ky .double (0 : Int32) [] (.double (0 : UInt64))) :
    MetFree l (⟨"com/example/centroid/centroid/Vectors", "dot", "([D[D)D"⟩ : MethodName) (head1 (Jvm.Cond.code (⟨"com/example/centroid/centroid/Vectors", "dot", "([D[D)D"⟩ : MethodName) prog_52_method_2_code 5 (some .double) :: ws) ({ frames := 0, cells := 0, slots := 0, locals := 0 } : Room)) (fun a U => a = #[(.ref xa), (.ref ya)] ∧ Z.Warmed39 U.vm ∧ U.heap = h0) (fun _ _ _ _ _ => True) (fun _ U o U' => ∃ v L, o = .returned v ∧ Q_dot0 Z xa ya kx ky h0 n0 v U'.heap L ∧ FrameEnd U o U' L ({ frames := 0, cells := 0, slots := 0, locals := 0 } : Room).cells ({ frames := 0, cells := 0, slots := 0, locals := 0 } : Room).slots) := by
  refine MetFree.of_bodySF (plainFor_of_name pn_3) hisR ?_
  intro p e s m args below meth c s₁ Bd hml0 hP hK
  have W := fun {d : Jvm.Cond} (i : Nat) (q : tables_1[i]? = some d) => hw d (List.mem_of_getElem? q)
  obtain ⟨rfl, hZ, hh⟩ := hP
  have hx := Bd.exec
  have hby := Bd.bytes
  have hml : c.maxLocals = 5 := hml0
  have hown : s.vm.findClass "com/example/centroid/centroid/Vectors" = some m.cls := findClass_of_methodNamed Bd.named
  have hnm := (name_of_methodNamed Bd.named Bd.method).1
  have X0 : Stand p l e ({ frames := 0, cells := 0, slots := 0, locals := 0 } : Room) s m #[(.ref xa), (.ref ya)] below meth c s₁ [] 0 0 := Stand.of_body Bd
  have e0 : s₁.heap = h0 := by rw [← hh, Bd.state]; rfl
  have N0 := Fr.nil n0
  have pre0 : ∀ t, Steps p.tables e below (s₁.setTop (mkF m 0 #[rv xa, rv ya, .unset, .unset, .unset] [])) t → Steps p.tables e below (s₁.setTop (entryFrame m #[(.ref xa), (.ref ya)] 5)) t := fun t k => castTop (ef_4 m xa ya) k
  have K0 : Keep h0 h0 [] := Keep.refl h0 []
  have pre4 : ∀ t, Steps p.tables e below (s₁.setTop (mkF m 8 #[rv xa, rv ya, .val (.double (0 : UInt64)), .second, iv (0 : Int32)] [(.ref xa), (.int (0 : Int32))])) t → Steps p.tables e below (s₁.setTop (entryFrame m #[(.ref xa), (.ref ya)] 5)) t := fun t kt => by
    refine pre0 _ ?_
    show Steps p.tables e below (s₁.setTop (mkF m 0 #[rv xa, rv ya, .unset, .unset, .unset] [])) _
    refine XS.dconst0 X0.here hx rfl (hb hby d1_0) (v := (0 : UInt64)) rfl ?_
    show Steps p.tables e below (s₁.setTop (mkF m 1 #[rv xa, rv ya, .unset, .unset, .unset] [(.double (0 : UInt64))])) _
    refine XS.dstoreN X0.here hx rfl (hb hby d1_1) rfl (l' := #[rv xa, rv ya, .val (.double (0 : UInt64)), .second, .unset]) rfl ?_
    show Steps p.tables e below (s₁.setTop (mkF m 2 #[rv xa, rv ya, .val (.double (0 : UInt64)), .second, .unset] [])) _
    refine XS.iconst X0.here hx rfl (hb hby d1_2) ?_
    show Steps p.tables e below (s₁.setTop (mkF m 3 #[rv xa, rv ya, .val (.double (0 : UInt64)), .second, .unset] [(.int (0 : Int32))])) _
    refine XS.istore X0.here hx rfl (hb hby d1_3) rfl (l' := #[rv xa, rv ya, .val (.double (0 : UInt64)), .second, iv (0 : Int32)]) rfl ?_
    show Steps p.tables e below (s₁.setTop (mkF m 5 #[rv xa, rv ya, .val (.double (0 : UInt64)), .second, iv (0 : Int32)] [])) _
    refine XS.iload X0.here hx rfl (hb hby d1_5) rfl ?_
    show Steps p.tables e below (s₁.setTop (mkF m 7 #[rv xa, rv ya, .val (.double (0 : UInt64)), .second, iv (0 : Int32)] [(.int (0 : Int32))])) _
    refine XS.aloadN X0.here hx rfl (hb hby d1_7) rfl rfl ?_
    exact kt
  obtain ⟨c3, Ar3, -, S3, M3, -, -⟩ := id Fi0
  have pre5 : ∀ t, Steps p.tables e below (s₁.setTop (mkF m 31 #[rv xa, rv ya, .val (.double (0 : UInt64)), .second, iv (0 : Int32)] [(.double (0 : UInt64))])) t → Steps p.tables e below (s₁.setTop (entryFrame m #[(.ref xa), (.ref ya)] 5)) t := fun t kt => by
    refine pre4 _ ?_
    show Steps p.tables e below (s₁.setTop (mkF m 8 #[rv xa, rv ya, .val (.double (0 : UInt64)), .second, iv (0 : Int32)] [(.ref xa), (.int (0 : Int32))])) _
    refine X0.arraylength hx (by rw [e0]; exact Ar3.1) (State.isArrayOf_alike hZ.alike Ar3.2.1) (g := (mkF m 8 #[rv xa, rv ya, .val (.double (0 : UInt64)), .second, iv (0 : Int32)] [(.ref xa), (.int (0 : Int32))])) rfl rfl (hb hby d1_8) _ ?_
    rw [len_of S3 M3]
    show Steps p.tables e below (s₁.setTop (mkF m 9 #[rv xa, rv ya, .val (.double (0 : UInt64)), .second, iv (0 : Int32)] [(.int (0 : Int32)), (.int (0 : Int32))])) _
    refine XS.icmpYes X0.here hx rfl (pc0 := 9) (pc' := 30) rfl (hb hby d1_9) rfl (XT.ii_ge_t (by decide)) (by decide) (by decide) ?_
    show Steps p.tables e below (s₁.setTop (mkF m 30 #[rv xa, rv ya, .val (.double (0 : UInt64)), .second, iv (0 : Int32)] [])) _
    refine XS.dloadN X0.here hx rfl (hb hby d1_30) rfl ?_
    exact kt
  obtain ⟨fs, hr, hrun, hended, hW, hsame⟩ := X0.leave (v := some (.double (0 : UInt64))) (fun h => by rw [Bd.returns] at h; cases h)
  refine ⟨_, _, pre5 _ (own_retD X0 hx Bd.returns (hb hby d1_31) hr), hrun, hended, _, _, rfl, ?_, ⟨_, rfl⟩, hW, hsame.mono (by decide) (by decide)⟩
  show Q_dot0 Z xa ya kx ky h0 n0 _ s₁.heap _
  rw [e0]
  exact ⟨(0 : UInt64), rfl, N0, rfl, own_D_0⟩
theorem d1_12 : decode prog_52_method_2_code 12 = .ok (.dload_n 2, 1) := by decide +kernel
theorem d1_13 : decode prog_52_method_2_code 13 = .ok (.aload_n 0, 1) := by decide +kernel
theorem d1_14 : decode prog_52_method_2_code 14 = .ok (.iload 4, 2) := by decide +kernel
theorem d1_16 : decode prog_52_method_2_code 16 = .ok (.daload, 1) := by decide +kernel
theorem d1_17 : decode prog_52_method_2_code 17 = .ok (.aload_n 1, 1) := by decide +kernel
theorem d1_18 : decode prog_52_method_2_code 18 = .ok (.iload 4, 2) := by decide +kernel
theorem d1_20 : decode prog_52_method_2_code 20 = .ok (.daload, 1) := by decide +kernel
theorem d1_21 : decode prog_52_method_2_code 21 = .ok (.dmul, 1) := by decide +kernel
theorem d1_22 : decode prog_52_method_2_code 22 = .ok (.dadd, 1) := by decide +kernel
theorem d1_23 : decode prog_52_method_2_code 23 = .ok (.dstore_n 2, 1) := by decide +kernel
theorem d1_24 : decode prog_52_method_2_code 24 = .ok (.iinc 4 1, 3) := by decide +kernel
theorem d1_27 : decode prog_52_method_2_code 27 = .ok (.goto (-22), 3) := by decide +kernel
def Q_dot1 (Z : State) (xa : Addr) (ya : Addr) (kx : ClassId) (ky : ClassId) (xx0 : UInt64) (yy0 : UInt64) (ix0 : Int) (jy0 : Int) (h0 : Heap) (n0 : Nat) (v : Option Value) (h : Heap) (L : List Loc) : Prop := ∃ (rd : UInt64), v = some (.double rd) ∧ Fr n0 L ∧ h = h0 ∧ (own_D rd ((0 : Int) + ix0 * jy0) (0 + 32768 * 32768))
set_option maxRecDepth 65536 in
set_option maxHeartbeats 40000000 in
theorem rm_dot1 (l : Launch) (Z : State) (a0 : Array Value) (hw : ∀ d ∈ tables_1, d.before a0 Z = true) (ws : List Jvm.Cond) (xa : Addr) (ya : Addr) (kx : ClassId) (ky : ClassId) (xx0 : UInt64) (yy0 : UInt64) (ix0 : Int) (jy0 : Int) (h0 : Heap) (n0 : Nat) (O0 : Old Z n0 h0) (Fi0 : Arv Z h0 xa kx .double (1 : Int32) [(.double xx0)] (.double (0 : UInt64))) (Fi1 : Arv Z h0 ya ky .double (1 : Int32) [(.double yy0)] (.double (0 : UInt64))) (qx0 : own_D xx0 ix0 32768) (qy0 : own_D yy0 jy0 32768) :
    MetFree l (⟨"com/example/centroid/centroid/Vectors", "dot", "([D[D)D"⟩ : MethodName) (head1 (Jvm.Cond.code (⟨"com/example/centroid/centroid/Vectors", "dot", "([D[D)D"⟩ : MethodName) prog_52_method_2_code 5 (some .double) :: ws) ({ frames := 0, cells := 0, slots := 0, locals := 0 } : Room)) (fun a U => a = #[(.ref xa), (.ref ya)] ∧ Z.Warmed39 U.vm ∧ U.heap = h0) (fun _ _ _ _ _ => True) (fun _ U o U' => ∃ v L, o = .returned v ∧ Q_dot1 Z xa ya kx ky xx0 yy0 ix0 jy0 h0 n0 v U'.heap L ∧ FrameEnd U o U' L ({ frames := 0, cells := 0, slots := 0, locals := 0 } : Room).cells ({ frames := 0, cells := 0, slots := 0, locals := 0 } : Room).slots) := by
  refine MetFree.of_bodySF (plainFor_of_name pn_3) hisR ?_
  intro p e s m args below meth c s₁ Bd hml0 hP hK
  have W := fun {d : Jvm.Cond} (i : Nat) (q : tables_1[i]? = some d) => hw d (List.mem_of_getElem? q)
  obtain ⟨rfl, hZ, hh⟩ := hP
  have hx := Bd.exec
  have hby := Bd.bytes
  have hml : c.maxLocals = 5 := hml0
  have hown : s.vm.findClass "com/example/centroid/centroid/Vectors" = some m.cls := findClass_of_methodNamed Bd.named
  have hnm := (name_of_methodNamed Bd.named Bd.method).1
  have X0 : Stand p l e ({ frames := 0, cells := 0, slots := 0, locals := 0 } : Room) s m #[(.ref xa), (.ref ya)] below meth c s₁ [] 0 0 := Stand.of_body Bd
  have e0 : s₁.heap = h0 := by rw [← hh, Bd.state]; rfl
  have N0 := Fr.nil n0
  have pre0 : ∀ t, Steps p.tables e below (s₁.setTop (mkF m 0 #[rv xa, rv ya, .unset, .unset, .unset] [])) t → Steps p.tables e below (s₁.setTop (entryFrame m #[(.ref xa), (.ref ya)] 5)) t := fun t k => castTop (ef_4 m xa ya) k
  have K0 : Keep h0 h0 [] := Keep.refl h0 []
  have pre7 : ∀ t, Steps p.tables e below (s₁.setTop (mkF m 8 #[rv xa, rv ya, .val (.double (0 : UInt64)), .second, iv (0 : Int32)] [(.ref xa), (.int (0 : Int32))])) t → Steps p.tables e below (s₁.setTop (entryFrame m #[(.ref xa), (.ref ya)] 5)) t := fun t kt => by
    refine pre0 _ ?_
    show Steps p.tables e below (s₁.setTop (mkF m 0 #[rv xa, rv ya, .unset, .unset, .unset] [])) _
    refine XS.dconst0 X0.here hx rfl (hb hby d1_0) (v := (0 : UInt64)) rfl ?_
    show Steps p.tables e below (s₁.setTop (mkF m 1 #[rv xa, rv ya, .unset, .unset, .unset] [(.double (0 : UInt64))])) _
    refine XS.dstoreN X0.here hx rfl (hb hby d1_1) rfl (l' := #[rv xa, rv ya, .val (.double (0 : UInt64)), .second, .unset]) rfl ?_
    show Steps p.tables e below (s₁.setTop (mkF m 2 #[rv xa, rv ya, .val (.double (0 : UInt64)), .second, .unset] [])) _
    refine XS.iconst X0.here hx rfl (hb hby d1_2) ?_
    show Steps p.tables e below (s₁.setTop (mkF m 3 #[rv xa, rv ya, .val (.double (0 : UInt64)), .second, .unset] [(.int (0 : Int32))])) _
    refine XS.istore X0.here hx rfl (hb hby d1_3) rfl (l' := #[rv xa, rv ya, .val (.double (0 : UInt64)), .second, iv (0 : Int32)]) rfl ?_
    show Steps p.tables e below (s₁.setTop (mkF m 5 #[rv xa, rv ya, .val (.double (0 : UInt64)), .second, iv (0 : Int32)] [])) _
    refine XS.iload X0.here hx rfl (hb hby d1_5) rfl ?_
    show Steps p.tables e below (s₁.setTop (mkF m 7 #[rv xa, rv ya, .val (.double (0 : UInt64)), .second, iv (0 : Int32)] [(.int (0 : Int32))])) _
    refine XS.aloadN X0.here hx rfl (hb hby d1_7) rfl rfl ?_
    exact kt
  obtain ⟨c6, Ar6, -, S6, M6, -, -⟩ := id Fi0
  have pre9 : ∀ t, Steps p.tables e below (s₁.setTop (mkF m 16 #[rv xa, rv ya, .val (.double (0 : UInt64)), .second, iv (0 : Int32)] [(.int (0 : Int32)), (.ref xa), (.double (0 : UInt64))])) t → Steps p.tables e below (s₁.setTop (entryFrame m #[(.ref xa), (.ref ya)] 5)) t := fun t kt => by
    refine pre7 _ ?_
    show Steps p.tables e below (s₁.setTop (mkF m 8 #[rv xa, rv ya, .val (.double (0 : UInt64)), .second, iv (0 : Int32)] [(.ref xa), (.int (0 : Int32))])) _
    refine X0.arraylength hx (by rw [e0]; exact Ar6.1) (State.isArrayOf_alike hZ.alike Ar6.2.1) (g := (mkF m 8 #[rv xa, rv ya, .val (.double (0 : UInt64)), .second, iv (0 : Int32)] [(.ref xa), (.int (0 : Int32))])) rfl rfl (hb hby d1_8) _ ?_
    rw [len_of S6 M6]
    show Steps p.tables e below (s₁.setTop (mkF m 9 #[rv xa, rv ya, .val (.double (0 : UInt64)), .second, iv (0 : Int32)] [(.int (1 : Int32)), (.int (0 : Int32))])) _
    refine XS.icmpNo X0.here hx rfl (hb hby d1_9) rfl (XT.ii_ge_f (by decide)) ?_
    show Steps p.tables e below (s₁.setTop (mkF m 12 #[rv xa, rv ya, .val (.double (0 : UInt64)), .second, iv (0 : Int32)] [])) _
    refine XS.dloadN X0.here hx rfl (hb hby d1_12) rfl ?_
    show Steps p.tables e below (s₁.setTop (mkF m 13 #[rv xa, rv ya, .val (.double (0 : UInt64)), .second, iv (0 : Int32)] [(.double (0 : UInt64))])) _
    refine XS.aloadN X0.here hx rfl (hb hby d1_13) rfl rfl ?_
    show Steps p.tables e below (s₁.setTop (mkF m 14 #[rv xa, rv ya, .val (.double (0 : UInt64)), .second, iv (0 : Int32)] [(.ref xa), (.double (0 : UInt64))])) _
    refine XS.iload X0.here hx rfl (hb hby d1_14) rfl ?_
    exact kt
  obtain ⟨c8, Ar8, q8, S8, M8, H8, G8⟩ := id Fi0
  have i8 : ¬ ((0 : Int32) < 0 ∨ c8.slots.size ≤ ((0 : Int32)).toNatClampNeg) := inb_of S8 ⟨by decide, by decide⟩
  have t8 : c8.slots[((0 : Int32)).toNatClampNeg]? = some (.double xx0) := Has.at H8 i8 rfl
  have pre11 : ∀ t, Steps p.tables e below (s₁.setTop (mkF m 20 #[rv xa, rv ya, .val (.double (0 : UInt64)), .second, iv (0 : Int32)] [(.int (0 : Int32)), (.ref ya), (.double xx0), (.double (0 : UInt64))])) t → Steps p.tables e below (s₁.setTop (entryFrame m #[(.ref xa), (.ref ya)] 5)) t := fun t kt => by
    refine pre9 _ ?_
    show Steps p.tables e below (s₁.setTop (mkF m 16 #[rv xa, rv ya, .val (.double (0 : UInt64)), .second, iv (0 : Int32)] [(.int (0 : Int32)), (.ref xa), (.double (0 : UInt64))])) _
    refine X0.daload hx (j := (0 : Int32)) (v := (.double xx0)) (by rw [e0]; exact Ar8.1) (State.isArrayOf_alike hZ.alike Ar8.2.1) Ar8.2.2 i8 t8 (g := (mkF m 16 #[rv xa, rv ya, .val (.double (0 : UInt64)), .second, iv (0 : Int32)] [(.int (0 : Int32)), (.ref xa), (.double (0 : UInt64))])) rfl rfl (hb hby d1_16) _ ?_
    show Steps p.tables e below (s₁.setTop (mkF m 17 #[rv xa, rv ya, .val (.double (0 : UInt64)), .second, iv (0 : Int32)] [(.double xx0), (.double (0 : UInt64))])) _
    refine XS.aloadN X0.here hx rfl (hb hby d1_17) rfl rfl ?_
    show Steps p.tables e below (s₁.setTop (mkF m 18 #[rv xa, rv ya, .val (.double (0 : UInt64)), .second, iv (0 : Int32)] [(.ref ya), (.double xx0), (.double (0 : UInt64))])) _
    refine XS.iload X0.here hx rfl (hb hby d1_18) rfl ?_
    exact kt
  obtain ⟨c10, Ar10, q10, S10, M10, H10, G10⟩ := id Fi1
  have i10 : ¬ ((0 : Int32) < 0 ∨ c10.slots.size ≤ ((0 : Int32)).toNatClampNeg) := inb_of S10 ⟨by decide, by decide⟩
  have t10 : c10.slots[((0 : Int32)).toNatClampNeg]? = some (.double yy0) := Has.at H10 i10 rfl
  have D12 := own_D_mul qx0 qy0 (by decide)
  have D13 := own_D_add own_D_0 D12 (by decide)
  have pre15 : ∀ t, Steps p.tables e below (s₁.setTop (mkF m 8 #[rv xa, rv ya, .val (.double (FP.dadd (0 : UInt64) (FP.dmul xx0 yy0))), .second, iv (1 : Int32)] [(.ref xa), (.int (1 : Int32))])) t → Steps p.tables e below (s₁.setTop (entryFrame m #[(.ref xa), (.ref ya)] 5)) t := fun t kt => by
    refine pre11 _ ?_
    show Steps p.tables e below (s₁.setTop (mkF m 20 #[rv xa, rv ya, .val (.double (0 : UInt64)), .second, iv (0 : Int32)] [(.int (0 : Int32)), (.ref ya), (.double xx0), (.double (0 : UInt64))])) _
    refine X0.daload hx (j := (0 : Int32)) (v := (.double yy0)) (by rw [e0]; exact Ar10.1) (State.isArrayOf_alike hZ.alike Ar10.2.1) Ar10.2.2 i10 t10 (g := (mkF m 20 #[rv xa, rv ya, .val (.double (0 : UInt64)), .second, iv (0 : Int32)] [(.int (0 : Int32)), (.ref ya), (.double xx0), (.double (0 : UInt64))])) rfl rfl (hb hby d1_20) _ ?_
    show Steps p.tables e below (s₁.setTop (mkF m 21 #[rv xa, rv ya, .val (.double (0 : UInt64)), .second, iv (0 : Int32)] [(.double yy0), (.double xx0), (.double (0 : UInt64))])) _
    refine XS.dmulS X0.here hx rfl (hb hby d1_21) rfl (own_D_nn D12) rfl ?_
    show Steps p.tables e below (s₁.setTop (mkF m 22 #[rv xa, rv ya, .val (.double (0 : UInt64)), .second, iv (0 : Int32)] [(.double (FP.dmul xx0 yy0)), (.double (0 : UInt64))])) _
    refine XS.daddS X0.here hx rfl (hb hby d1_22) rfl (own_D_nn D13) rfl ?_
    show Steps p.tables e below (s₁.setTop (mkF m 23 #[rv xa, rv ya, .val (.double (0 : UInt64)), .second, iv (0 : Int32)] [(.double (FP.dadd (0 : UInt64) (FP.dmul xx0 yy0)))])) _
    refine XS.dstoreN X0.here hx rfl (hb hby d1_23) rfl (l' := #[rv xa, rv ya, .val (.double (FP.dadd (0 : UInt64) (FP.dmul xx0 yy0))), .second, iv (0 : Int32)]) rfl ?_
    show Steps p.tables e below (s₁.setTop (mkF m 24 #[rv xa, rv ya, .val (.double (FP.dadd (0 : UInt64) (FP.dmul xx0 yy0))), .second, iv (0 : Int32)] [])) _
    refine XS.iinc X0.here hx rfl (hb hby d1_24) rfl (l' := #[rv xa, rv ya, .val (.double (FP.dadd (0 : UInt64) (FP.dmul xx0 yy0))), .second, iv ((0 : Int32) + (1 : Int32))]) rfl ?_
    show  Steps p.tables e below (s₁.setTop (mkF m 27 #[rv xa, rv ya, .val (.double (FP.dadd (0 : UInt64) (FP.dmul xx0 yy0))), .second, iv ((0 : Int32) + (1 : Int32))] [])) _
    rw [(by decide : (((0 : Int32) + (1 : Int32)) : Int32) = (1 : Int32))]
    show Steps p.tables e below (s₁.setTop (mkF m 27 #[rv xa, rv ya, .val (.double (FP.dadd (0 : UInt64) (FP.dmul xx0 yy0))), .second, iv (1 : Int32)] [])) _
    refine XS.goto X0.here hx rfl (pc0 := 27) (pc' := 5) rfl (hb hby d1_27) (by decide) (by decide) ?_
    show Steps p.tables e below (s₁.setTop (mkF m 5 #[rv xa, rv ya, .val (.double (FP.dadd (0 : UInt64) (FP.dmul xx0 yy0))), .second, iv (1 : Int32)] [])) _
    refine XS.iload X0.here hx rfl (hb hby d1_5) rfl ?_
    show Steps p.tables e below (s₁.setTop (mkF m 7 #[rv xa, rv ya, .val (.double (FP.dadd (0 : UInt64) (FP.dmul xx0 yy0))), .second, iv (1 : Int32)] [(.int (1 : Int32))])) _
    refine XS.aloadN X0.here hx rfl (hb hby d1_7) rfl rfl ?_
    exact kt
  obtain ⟨c14, Ar14, -, S14, M14, -, -⟩ := id Fi0
  have pre16 : ∀ t, Steps p.tables e below (s₁.setTop (mkF m 31 #[rv xa, rv ya, .val (.double (FP.dadd (0 : UInt64) (FP.dmul xx0 yy0))), .second, iv (1 : Int32)] [(.double (FP.dadd (0 : UInt64) (FP.dmul xx0 yy0)))])) t → Steps p.tables e below (s₁.setTop (entryFrame m #[(.ref xa), (.ref ya)] 5)) t := fun t kt => by
    refine pre15 _ ?_
    show Steps p.tables e below (s₁.setTop (mkF m 8 #[rv xa, rv ya, .val (.double (FP.dadd (0 : UInt64) (FP.dmul xx0 yy0))), .second, iv (1 : Int32)] [(.ref xa), (.int (1 : Int32))])) _
    refine X0.arraylength hx (by rw [e0]; exact Ar14.1) (State.isArrayOf_alike hZ.alike Ar14.2.1) (g := (mkF m 8 #[rv xa, rv ya, .val (.double (FP.dadd (0 : UInt64) (FP.dmul xx0 yy0))), .second, iv (1 : Int32)] [(.ref xa), (.int (1 : Int32))])) rfl rfl (hb hby d1_8) _ ?_
    rw [len_of S14 M14]
    show Steps p.tables e below (s₁.setTop (mkF m 9 #[rv xa, rv ya, .val (.double (FP.dadd (0 : UInt64) (FP.dmul xx0 yy0))), .second, iv (1 : Int32)] [(.int (1 : Int32)), (.int (1 : Int32))])) _
    refine XS.icmpYes X0.here hx rfl (pc0 := 9) (pc' := 30) rfl (hb hby d1_9) rfl (XT.ii_ge_t (by decide)) (by decide) (by decide) ?_
    show Steps p.tables e below (s₁.setTop (mkF m 30 #[rv xa, rv ya, .val (.double (FP.dadd (0 : UInt64) (FP.dmul xx0 yy0))), .second, iv (1 : Int32)] [])) _
    refine XS.dloadN X0.here hx rfl (hb hby d1_30) rfl ?_
    exact kt
  obtain ⟨fs, hr, hrun, hended, hW, hsame⟩ := X0.leave (v := some (.double (FP.dadd (0 : UInt64) (FP.dmul xx0 yy0)))) (fun h => by rw [Bd.returns] at h; cases h)
  refine ⟨_, _, pre16 _ (own_retD X0 hx Bd.returns (hb hby d1_31) hr), hrun, hended, _, _, rfl, ?_, ⟨_, rfl⟩, hW, hsame.mono (by decide) (by decide)⟩
  show Q_dot1 Z xa ya kx ky xx0 yy0 ix0 jy0 h0 n0 _ s₁.heap _
  rw [e0]
  exact ⟨(FP.dadd (0 : UInt64) (FP.dmul xx0 yy0)), rfl, N0, rfl, D13⟩
def Q_dot2 (Z : State) (xa : Addr) (ya : Addr) (kx : ClassId) (ky : ClassId) (xx0 : UInt64) (xx1 : UInt64) (yy0 : UInt64) (yy1 : UInt64) (ix0 : Int) (ix1 : Int) (jy0 : Int) (jy1 : Int) (h0 : Heap) (n0 : Nat) (v : Option Value) (h : Heap) (L : List Loc) : Prop := ∃ (rd : UInt64), v = some (.double rd) ∧ Fr n0 L ∧ h = h0 ∧ (own_D rd (((0 : Int) + ix0 * jy0) + ix1 * jy1) ((0 + 32768 * 32768) + 32768 * 32768))
set_option maxRecDepth 65536 in
set_option maxHeartbeats 40000000 in
theorem rm_dot2 (l : Launch) (Z : State) (a0 : Array Value) (hw : ∀ d ∈ tables_1, d.before a0 Z = true) (ws : List Jvm.Cond) (xa : Addr) (ya : Addr) (kx : ClassId) (ky : ClassId) (xx0 : UInt64) (xx1 : UInt64) (yy0 : UInt64) (yy1 : UInt64) (ix0 : Int) (ix1 : Int) (jy0 : Int) (jy1 : Int) (h0 : Heap) (n0 : Nat) (O0 : Old Z n0 h0) (Fi0 : Arv Z h0 xa kx .double (2 : Int32) [(.double xx0), (.double xx1)] (.double (0 : UInt64))) (Fi1 : Arv Z h0 ya ky .double (2 : Int32) [(.double yy0), (.double yy1)] (.double (0 : UInt64))) (qx0 : own_D xx0 ix0 32768) (qx1 : own_D xx1 ix1 32768) (qy0 : own_D yy0 jy0 32768) (qy1 : own_D yy1 jy1 32768) :
    MetFree l (⟨"com/example/centroid/centroid/Vectors", "dot", "([D[D)D"⟩ : MethodName) (head1 (Jvm.Cond.code (⟨"com/example/centroid/centroid/Vectors", "dot", "([D[D)D"⟩ : MethodName) prog_52_method_2_code 5 (some .double) :: ws) ({ frames := 0, cells := 0, slots := 0, locals := 0 } : Room)) (fun a U => a = #[(.ref xa), (.ref ya)] ∧ Z.Warmed39 U.vm ∧ U.heap = h0) (fun _ _ _ _ _ => True) (fun _ U o U' => ∃ v L, o = .returned v ∧ Q_dot2 Z xa ya kx ky xx0 xx1 yy0 yy1 ix0 ix1 jy0 jy1 h0 n0 v U'.heap L ∧ FrameEnd U o U' L ({ frames := 0, cells := 0, slots := 0, locals := 0 } : Room).cells ({ frames := 0, cells := 0, slots := 0, locals := 0 } : Room).slots) := by
  refine MetFree.of_bodySF (plainFor_of_name pn_3) hisR ?_
  intro p e s m args below meth c s₁ Bd hml0 hP hK
  have W := fun {d : Jvm.Cond} (i : Nat) (q : tables_1[i]? = some d) => hw d (List.mem_of_getElem? q)
  obtain ⟨rfl, hZ, hh⟩ := hP
  have hx := Bd.exec
  have hby := Bd.bytes
  have hml : c.maxLocals = 5 := hml0
  have hown : s.vm.findClass "com/example/centroid/centroid/Vectors" = some m.cls := findClass_of_methodNamed Bd.named
  have hnm := (name_of_methodNamed Bd.named Bd.method).1
  have X0 : Stand p l e ({ frames := 0, cells := 0, slots := 0, locals := 0 } : Room) s m #[(.ref xa), (.ref ya)] below meth c s₁ [] 0 0 := Stand.of_body Bd
  have e0 : s₁.heap = h0 := by rw [← hh, Bd.state]; rfl
  have N0 := Fr.nil n0
  have pre0 : ∀ t, Steps p.tables e below (s₁.setTop (mkF m 0 #[rv xa, rv ya, .unset, .unset, .unset] [])) t → Steps p.tables e below (s₁.setTop (entryFrame m #[(.ref xa), (.ref ya)] 5)) t := fun t k => castTop (ef_4 m xa ya) k
  have K0 : Keep h0 h0 [] := Keep.refl h0 []
  have pre18 : ∀ t, Steps p.tables e below (s₁.setTop (mkF m 8 #[rv xa, rv ya, .val (.double (0 : UInt64)), .second, iv (0 : Int32)] [(.ref xa), (.int (0 : Int32))])) t → Steps p.tables e below (s₁.setTop (entryFrame m #[(.ref xa), (.ref ya)] 5)) t := fun t kt => by
    refine pre0 _ ?_
    show Steps p.tables e below (s₁.setTop (mkF m 0 #[rv xa, rv ya, .unset, .unset, .unset] [])) _
    refine XS.dconst0 X0.here hx rfl (hb hby d1_0) (v := (0 : UInt64)) rfl ?_
    show Steps p.tables e below (s₁.setTop (mkF m 1 #[rv xa, rv ya, .unset, .unset, .unset] [(.double (0 : UInt64))])) _
    refine XS.dstoreN X0.here hx rfl (hb hby d1_1) rfl (l' := #[rv xa, rv ya, .val (.double (0 : UInt64)), .second, .unset]) rfl ?_
    show Steps p.tables e below (s₁.setTop (mkF m 2 #[rv xa, rv ya, .val (.double (0 : UInt64)), .second, .unset] [])) _
    refine XS.iconst X0.here hx rfl (hb hby d1_2) ?_
    show Steps p.tables e below (s₁.setTop (mkF m 3 #[rv xa, rv ya, .val (.double (0 : UInt64)), .second, .unset] [(.int (0 : Int32))])) _
    refine XS.istore X0.here hx rfl (hb hby d1_3) rfl (l' := #[rv xa, rv ya, .val (.double (0 : UInt64)), .second, iv (0 : Int32)]) rfl ?_
    show Steps p.tables e below (s₁.setTop (mkF m 5 #[rv xa, rv ya, .val (.double (0 : UInt64)), .second, iv (0 : Int32)] [])) _
    refine XS.iload X0.here hx rfl (hb hby d1_5) rfl ?_
    show Steps p.tables e below (s₁.setTop (mkF m 7 #[rv xa, rv ya, .val (.double (0 : UInt64)), .second, iv (0 : Int32)] [(.int (0 : Int32))])) _
    refine XS.aloadN X0.here hx rfl (hb hby d1_7) rfl rfl ?_
    exact kt
  obtain ⟨c17, Ar17, -, S17, M17, -, -⟩ := id Fi0
  have pre20 : ∀ t, Steps p.tables e below (s₁.setTop (mkF m 16 #[rv xa, rv ya, .val (.double (0 : UInt64)), .second, iv (0 : Int32)] [(.int (0 : Int32)), (.ref xa), (.double (0 : UInt64))])) t → Steps p.tables e below (s₁.setTop (entryFrame m #[(.ref xa), (.ref ya)] 5)) t := fun t kt => by
    refine pre18 _ ?_
    show Steps p.tables e below (s₁.setTop (mkF m 8 #[rv xa, rv ya, .val (.double (0 : UInt64)), .second, iv (0 : Int32)] [(.ref xa), (.int (0 : Int32))])) _
    refine X0.arraylength hx (by rw [e0]; exact Ar17.1) (State.isArrayOf_alike hZ.alike Ar17.2.1) (g := (mkF m 8 #[rv xa, rv ya, .val (.double (0 : UInt64)), .second, iv (0 : Int32)] [(.ref xa), (.int (0 : Int32))])) rfl rfl (hb hby d1_8) _ ?_
    rw [len_of S17 M17]
    show Steps p.tables e below (s₁.setTop (mkF m 9 #[rv xa, rv ya, .val (.double (0 : UInt64)), .second, iv (0 : Int32)] [(.int (2 : Int32)), (.int (0 : Int32))])) _
    refine XS.icmpNo X0.here hx rfl (hb hby d1_9) rfl (XT.ii_ge_f (by decide)) ?_
    show Steps p.tables e below (s₁.setTop (mkF m 12 #[rv xa, rv ya, .val (.double (0 : UInt64)), .second, iv (0 : Int32)] [])) _
    refine XS.dloadN X0.here hx rfl (hb hby d1_12) rfl ?_
    show Steps p.tables e below (s₁.setTop (mkF m 13 #[rv xa, rv ya, .val (.double (0 : UInt64)), .second, iv (0 : Int32)] [(.double (0 : UInt64))])) _
    refine XS.aloadN X0.here hx rfl (hb hby d1_13) rfl rfl ?_
    show Steps p.tables e below (s₁.setTop (mkF m 14 #[rv xa, rv ya, .val (.double (0 : UInt64)), .second, iv (0 : Int32)] [(.ref xa), (.double (0 : UInt64))])) _
    refine XS.iload X0.here hx rfl (hb hby d1_14) rfl ?_
    exact kt
  obtain ⟨c19, Ar19, q19, S19, M19, H19, G19⟩ := id Fi0
  have i19 : ¬ ((0 : Int32) < 0 ∨ c19.slots.size ≤ ((0 : Int32)).toNatClampNeg) := inb_of S19 ⟨by decide, by decide⟩
  have t19 : c19.slots[((0 : Int32)).toNatClampNeg]? = some (.double xx0) := Has.at H19 i19 rfl
  have pre22 : ∀ t, Steps p.tables e below (s₁.setTop (mkF m 20 #[rv xa, rv ya, .val (.double (0 : UInt64)), .second, iv (0 : Int32)] [(.int (0 : Int32)), (.ref ya), (.double xx0), (.double (0 : UInt64))])) t → Steps p.tables e below (s₁.setTop (entryFrame m #[(.ref xa), (.ref ya)] 5)) t := fun t kt => by
    refine pre20 _ ?_
    show Steps p.tables e below (s₁.setTop (mkF m 16 #[rv xa, rv ya, .val (.double (0 : UInt64)), .second, iv (0 : Int32)] [(.int (0 : Int32)), (.ref xa), (.double (0 : UInt64))])) _
    refine X0.daload hx (j := (0 : Int32)) (v := (.double xx0)) (by rw [e0]; exact Ar19.1) (State.isArrayOf_alike hZ.alike Ar19.2.1) Ar19.2.2 i19 t19 (g := (mkF m 16 #[rv xa, rv ya, .val (.double (0 : UInt64)), .second, iv (0 : Int32)] [(.int (0 : Int32)), (.ref xa), (.double (0 : UInt64))])) rfl rfl (hb hby d1_16) _ ?_
    show Steps p.tables e below (s₁.setTop (mkF m 17 #[rv xa, rv ya, .val (.double (0 : UInt64)), .second, iv (0 : Int32)] [(.double xx0), (.double (0 : UInt64))])) _
    refine XS.aloadN X0.here hx rfl (hb hby d1_17) rfl rfl ?_
    show Steps p.tables e below (s₁.setTop (mkF m 18 #[rv xa, rv ya, .val (.double (0 : UInt64)), .second, iv (0 : Int32)] [(.ref ya), (.double xx0), (.double (0 : UInt64))])) _
    refine XS.iload X0.here hx rfl (hb hby d1_18) rfl ?_
    exact kt
  obtain ⟨c21, Ar21, q21, S21, M21, H21, G21⟩ := id Fi1
  have i21 : ¬ ((0 : Int32) < 0 ∨ c21.slots.size ≤ ((0 : Int32)).toNatClampNeg) := inb_of S21 ⟨by decide, by decide⟩
  have t21 : c21.slots[((0 : Int32)).toNatClampNeg]? = some (.double yy0) := Has.at H21 i21 rfl
  have D23 := own_D_mul qx0 qy0 (by decide)
  have D24 := own_D_add own_D_0 D23 (by decide)
  have pre26 : ∀ t, Steps p.tables e below (s₁.setTop (mkF m 8 #[rv xa, rv ya, .val (.double (FP.dadd (0 : UInt64) (FP.dmul xx0 yy0))), .second, iv (1 : Int32)] [(.ref xa), (.int (1 : Int32))])) t → Steps p.tables e below (s₁.setTop (entryFrame m #[(.ref xa), (.ref ya)] 5)) t := fun t kt => by
    refine pre22 _ ?_
    show Steps p.tables e below (s₁.setTop (mkF m 20 #[rv xa, rv ya, .val (.double (0 : UInt64)), .second, iv (0 : Int32)] [(.int (0 : Int32)), (.ref ya), (.double xx0), (.double (0 : UInt64))])) _
    refine X0.daload hx (j := (0 : Int32)) (v := (.double yy0)) (by rw [e0]; exact Ar21.1) (State.isArrayOf_alike hZ.alike Ar21.2.1) Ar21.2.2 i21 t21 (g := (mkF m 20 #[rv xa, rv ya, .val (.double (0 : UInt64)), .second, iv (0 : Int32)] [(.int (0 : Int32)), (.ref ya), (.double xx0), (.double (0 : UInt64))])) rfl rfl (hb hby d1_20) _ ?_
    show Steps p.tables e below (s₁.setTop (mkF m 21 #[rv xa, rv ya, .val (.double (0 : UInt64)), .second, iv (0 : Int32)] [(.double yy0), (.double xx0), (.double (0 : UInt64))])) _
    refine XS.dmulS X0.here hx rfl (hb hby d1_21) rfl (own_D_nn D23) rfl ?_
    show Steps p.tables e below (s₁.setTop (mkF m 22 #[rv xa, rv ya, .val (.double (0 : UInt64)), .second, iv (0 : Int32)] [(.double (FP.dmul xx0 yy0)), (.double (0 : UInt64))])) _
    refine XS.daddS X0.here hx rfl (hb hby d1_22) rfl (own_D_nn D24) rfl ?_
    show Steps p.tables e below (s₁.setTop (mkF m 23 #[rv xa, rv ya, .val (.double (0 : UInt64)), .second, iv (0 : Int32)] [(.double (FP.dadd (0 : UInt64) (FP.dmul xx0 yy0)))])) _
    refine XS.dstoreN X0.here hx rfl (hb hby d1_23) rfl (l' := #[rv xa, rv ya, .val (.double (FP.dadd (0 : UInt64) (FP.dmul xx0 yy0))), .second, iv (0 : Int32)]) rfl ?_
    show Steps p.tables e below (s₁.setTop (mkF m 24 #[rv xa, rv ya, .val (.double (FP.dadd (0 : UInt64) (FP.dmul xx0 yy0))), .second, iv (0 : Int32)] [])) _
    refine XS.iinc X0.here hx rfl (hb hby d1_24) rfl (l' := #[rv xa, rv ya, .val (.double (FP.dadd (0 : UInt64) (FP.dmul xx0 yy0))), .second, iv ((0 : Int32) + (1 : Int32))]) rfl ?_
    show  Steps p.tables e below (s₁.setTop (mkF m 27 #[rv xa, rv ya, .val (.double (FP.dadd (0 : UInt64) (FP.dmul xx0 yy0))), .second, iv ((0 : Int32) + (1 : Int32))] [])) _
    rw [(by decide : (((0 : Int32) + (1 : Int32)) : Int32) = (1 : Int32))]
    show Steps p.tables e below (s₁.setTop (mkF m 27 #[rv xa, rv ya, .val (.double (FP.dadd (0 : UInt64) (FP.dmul xx0 yy0))), .second, iv (1 : Int32)] [])) _
    refine XS.goto X0.here hx rfl (pc0 := 27) (pc' := 5) rfl (hb hby d1_27) (by decide) (by decide) ?_
    show Steps p.tables e below (s₁.setTop (mkF m 5 #[rv xa, rv ya, .val (.double (FP.dadd (0 : UInt64) (FP.dmul xx0 yy0))), .second, iv (1 : Int32)] [])) _
    refine XS.iload X0.here hx rfl (hb hby d1_5) rfl ?_
    show Steps p.tables e below (s₁.setTop (mkF m 7 #[rv xa, rv ya, .val (.double (FP.dadd (0 : UInt64) (FP.dmul xx0 yy0))), .second, iv (1 : Int32)] [(.int (1 : Int32))])) _
    refine XS.aloadN X0.here hx rfl (hb hby d1_7) rfl rfl ?_
    exact kt
  obtain ⟨c25, Ar25, -, S25, M25, -, -⟩ := id Fi0
  have pre28 : ∀ t, Steps p.tables e below (s₁.setTop (mkF m 16 #[rv xa, rv ya, .val (.double (FP.dadd (0 : UInt64) (FP.dmul xx0 yy0))), .second, iv (1 : Int32)] [(.int (1 : Int32)), (.ref xa), (.double (FP.dadd (0 : UInt64) (FP.dmul xx0 yy0)))])) t → Steps p.tables e below (s₁.setTop (entryFrame m #[(.ref xa), (.ref ya)] 5)) t := fun t kt => by
    refine pre26 _ ?_
    show Steps p.tables e below (s₁.setTop (mkF m 8 #[rv xa, rv ya, .val (.double (FP.dadd (0 : UInt64) (FP.dmul xx0 yy0))), .second, iv (1 : Int32)] [(.ref xa), (.int (1 : Int32))])) _
    refine X0.arraylength hx (by rw [e0]; exact Ar25.1) (State.isArrayOf_alike hZ.alike Ar25.2.1) (g := (mkF m 8 #[rv xa, rv ya, .val (.double (FP.dadd (0 : UInt64) (FP.dmul xx0 yy0))), .second, iv (1 : Int32)] [(.ref xa), (.int (1 : Int32))])) rfl rfl (hb hby d1_8) _ ?_
    rw [len_of S25 M25]
    show Steps p.tables e below (s₁.setTop (mkF m 9 #[rv xa, rv ya, .val (.double (FP.dadd (0 : UInt64) (FP.dmul xx0 yy0))), .second, iv (1 : Int32)] [(.int (2 : Int32)), (.int (1 : Int32))])) _
    refine XS.icmpNo X0.here hx rfl (hb hby d1_9) rfl (XT.ii_ge_f (by decide)) ?_
    show Steps p.tables e below (s₁.setTop (mkF m 12 #[rv xa, rv ya, .val (.double (FP.dadd (0 : UInt64) (FP.dmul xx0 yy0))), .second, iv (1 : Int32)] [])) _
    refine XS.dloadN X0.here hx rfl (hb hby d1_12) rfl ?_
    show Steps p.tables e below (s₁.setTop (mkF m 13 #[rv xa, rv ya, .val (.double (FP.dadd (0 : UInt64) (FP.dmul xx0 yy0))), .second, iv (1 : Int32)] [(.double (FP.dadd (0 : UInt64) (FP.dmul xx0 yy0)))])) _
    refine XS.aloadN X0.here hx rfl (hb hby d1_13) rfl rfl ?_
    show Steps p.tables e below (s₁.setTop (mkF m 14 #[rv xa, rv ya, .val (.double (FP.dadd (0 : UInt64) (FP.dmul xx0 yy0))), .second, iv (1 : Int32)] [(.ref xa), (.double (FP.dadd (0 : UInt64) (FP.dmul xx0 yy0)))])) _
    refine XS.iload X0.here hx rfl (hb hby d1_14) rfl ?_
    exact kt
  obtain ⟨c27, Ar27, q27, S27, M27, H27, G27⟩ := id Fi0
  have i27 : ¬ ((1 : Int32) < 0 ∨ c27.slots.size ≤ ((1 : Int32)).toNatClampNeg) := inb_of S27 ⟨by decide, by decide⟩
  have t27 : c27.slots[((1 : Int32)).toNatClampNeg]? = some (.double xx1) := Has.at H27 i27 rfl
  have pre30 : ∀ t, Steps p.tables e below (s₁.setTop (mkF m 20 #[rv xa, rv ya, .val (.double (FP.dadd (0 : UInt64) (FP.dmul xx0 yy0))), .second, iv (1 : Int32)] [(.int (1 : Int32)), (.ref ya), (.double xx1), (.double (FP.dadd (0 : UInt64) (FP.dmul xx0 yy0)))])) t → Steps p.tables e below (s₁.setTop (entryFrame m #[(.ref xa), (.ref ya)] 5)) t := fun t kt => by
    refine pre28 _ ?_
    show Steps p.tables e below (s₁.setTop (mkF m 16 #[rv xa, rv ya, .val (.double (FP.dadd (0 : UInt64) (FP.dmul xx0 yy0))), .second, iv (1 : Int32)] [(.int (1 : Int32)), (.ref xa), (.double (FP.dadd (0 : UInt64) (FP.dmul xx0 yy0)))])) _
    refine X0.daload hx (j := (1 : Int32)) (v := (.double xx1)) (by rw [e0]; exact Ar27.1) (State.isArrayOf_alike hZ.alike Ar27.2.1) Ar27.2.2 i27 t27 (g := (mkF m 16 #[rv xa, rv ya, .val (.double (FP.dadd (0 : UInt64) (FP.dmul xx0 yy0))), .second, iv (1 : Int32)] [(.int (1 : Int32)), (.ref xa), (.double (FP.dadd (0 : UInt64) (FP.dmul xx0 yy0)))])) rfl rfl (hb hby d1_16) _ ?_
    show Steps p.tables e below (s₁.setTop (mkF m 17 #[rv xa, rv ya, .val (.double (FP.dadd (0 : UInt64) (FP.dmul xx0 yy0))), .second, iv (1 : Int32)] [(.double xx1), (.double (FP.dadd (0 : UInt64) (FP.dmul xx0 yy0)))])) _
    refine XS.aloadN X0.here hx rfl (hb hby d1_17) rfl rfl ?_
    show Steps p.tables e below (s₁.setTop (mkF m 18 #[rv xa, rv ya, .val (.double (FP.dadd (0 : UInt64) (FP.dmul xx0 yy0))), .second, iv (1 : Int32)] [(.ref ya), (.double xx1), (.double (FP.dadd (0 : UInt64) (FP.dmul xx0 yy0)))])) _
    refine XS.iload X0.here hx rfl (hb hby d1_18) rfl ?_
    exact kt
  obtain ⟨c29, Ar29, q29, S29, M29, H29, G29⟩ := id Fi1
  have i29 : ¬ ((1 : Int32) < 0 ∨ c29.slots.size ≤ ((1 : Int32)).toNatClampNeg) := inb_of S29 ⟨by decide, by decide⟩
  have t29 : c29.slots[((1 : Int32)).toNatClampNeg]? = some (.double yy1) := Has.at H29 i29 rfl
  have D31 := own_D_mul qx1 qy1 (by decide)
  have D32 := own_D_add D24 D31 (by decide)
  have pre34 : ∀ t, Steps p.tables e below (s₁.setTop (mkF m 8 #[rv xa, rv ya, .val (.double (FP.dadd (FP.dadd (0 : UInt64) (FP.dmul xx0 yy0)) (FP.dmul xx1 yy1))), .second, iv (2 : Int32)] [(.ref xa), (.int (2 : Int32))])) t → Steps p.tables e below (s₁.setTop (entryFrame m #[(.ref xa), (.ref ya)] 5)) t := fun t kt => by
    refine pre30 _ ?_
    show Steps p.tables e below (s₁.setTop (mkF m 20 #[rv xa, rv ya, .val (.double (FP.dadd (0 : UInt64) (FP.dmul xx0 yy0))), .second, iv (1 : Int32)] [(.int (1 : Int32)), (.ref ya), (.double xx1), (.double (FP.dadd (0 : UInt64) (FP.dmul xx0 yy0)))])) _
    refine X0.daload hx (j := (1 : Int32)) (v := (.double yy1)) (by rw [e0]; exact Ar29.1) (State.isArrayOf_alike hZ.alike Ar29.2.1) Ar29.2.2 i29 t29 (g := (mkF m 20 #[rv xa, rv ya, .val (.double (FP.dadd (0 : UInt64) (FP.dmul xx0 yy0))), .second, iv (1 : Int32)] [(.int (1 : Int32)), (.ref ya), (.double xx1), (.double (FP.dadd (0 : UInt64) (FP.dmul xx0 yy0)))])) rfl rfl (hb hby d1_20) _ ?_
    show Steps p.tables e below (s₁.setTop (mkF m 21 #[rv xa, rv ya, .val (.double (FP.dadd (0 : UInt64) (FP.dmul xx0 yy0))), .second, iv (1 : Int32)] [(.double yy1), (.double xx1), (.double (FP.dadd (0 : UInt64) (FP.dmul xx0 yy0)))])) _
    refine XS.dmulS X0.here hx rfl (hb hby d1_21) rfl (own_D_nn D31) rfl ?_
    show Steps p.tables e below (s₁.setTop (mkF m 22 #[rv xa, rv ya, .val (.double (FP.dadd (0 : UInt64) (FP.dmul xx0 yy0))), .second, iv (1 : Int32)] [(.double (FP.dmul xx1 yy1)), (.double (FP.dadd (0 : UInt64) (FP.dmul xx0 yy0)))])) _
    refine XS.daddS X0.here hx rfl (hb hby d1_22) rfl (own_D_nn D32) rfl ?_
    show Steps p.tables e below (s₁.setTop (mkF m 23 #[rv xa, rv ya, .val (.double (FP.dadd (0 : UInt64) (FP.dmul xx0 yy0))), .second, iv (1 : Int32)] [(.double (FP.dadd (FP.dadd (0 : UInt64) (FP.dmul xx0 yy0)) (FP.dmul xx1 yy1)))])) _
    refine XS.dstoreN X0.here hx rfl (hb hby d1_23) rfl (l' := #[rv xa, rv ya, .val (.double (FP.dadd (FP.dadd (0 : UInt64) (FP.dmul xx0 yy0)) (FP.dmul xx1 yy1))), .second, iv (1 : Int32)]) rfl ?_
    show Steps p.tables e below (s₁.setTop (mkF m 24 #[rv xa, rv ya, .val (.double (FP.dadd (FP.dadd (0 : UInt64) (FP.dmul xx0 yy0)) (FP.dmul xx1 yy1))), .second, iv (1 : Int32)] [])) _
    refine XS.iinc X0.here hx rfl (hb hby d1_24) rfl (l' := #[rv xa, rv ya, .val (.double (FP.dadd (FP.dadd (0 : UInt64) (FP.dmul xx0 yy0)) (FP.dmul xx1 yy1))), .second, iv ((1 : Int32) + (1 : Int32))]) rfl ?_
    show  Steps p.tables e below (s₁.setTop (mkF m 27 #[rv xa, rv ya, .val (.double (FP.dadd (FP.dadd (0 : UInt64) (FP.dmul xx0 yy0)) (FP.dmul xx1 yy1))), .second, iv ((1 : Int32) + (1 : Int32))] [])) _
    rw [(by decide : (((1 : Int32) + (1 : Int32)) : Int32) = (2 : Int32))]
    show Steps p.tables e below (s₁.setTop (mkF m 27 #[rv xa, rv ya, .val (.double (FP.dadd (FP.dadd (0 : UInt64) (FP.dmul xx0 yy0)) (FP.dmul xx1 yy1))), .second, iv (2 : Int32)] [])) _
    refine XS.goto X0.here hx rfl (pc0 := 27) (pc' := 5) rfl (hb hby d1_27) (by decide) (by decide) ?_
    show Steps p.tables e below (s₁.setTop (mkF m 5 #[rv xa, rv ya, .val (.double (FP.dadd (FP.dadd (0 : UInt64) (FP.dmul xx0 yy0)) (FP.dmul xx1 yy1))), .second, iv (2 : Int32)] [])) _
    refine XS.iload X0.here hx rfl (hb hby d1_5) rfl ?_
    show Steps p.tables e below (s₁.setTop (mkF m 7 #[rv xa, rv ya, .val (.double (FP.dadd (FP.dadd (0 : UInt64) (FP.dmul xx0 yy0)) (FP.dmul xx1 yy1))), .second, iv (2 : Int32)] [(.int (2 : Int32))])) _
    refine XS.aloadN X0.here hx rfl (hb hby d1_7) rfl rfl ?_
    exact kt
  obtain ⟨c33, Ar33, -, S33, M33, -, -⟩ := id Fi0
  have pre35 : ∀ t, Steps p.tables e below (s₁.setTop (mkF m 31 #[rv xa, rv ya, .val (.double (FP.dadd (FP.dadd (0 : UInt64) (FP.dmul xx0 yy0)) (FP.dmul xx1 yy1))), .second, iv (2 : Int32)] [(.double (FP.dadd (FP.dadd (0 : UInt64) (FP.dmul xx0 yy0)) (FP.dmul xx1 yy1)))])) t → Steps p.tables e below (s₁.setTop (entryFrame m #[(.ref xa), (.ref ya)] 5)) t := fun t kt => by
    refine pre34 _ ?_
    show Steps p.tables e below (s₁.setTop (mkF m 8 #[rv xa, rv ya, .val (.double (FP.dadd (FP.dadd (0 : UInt64) (FP.dmul xx0 yy0)) (FP.dmul xx1 yy1))), .second, iv (2 : Int32)] [(.ref xa), (.int (2 : Int32))])) _
    refine X0.arraylength hx (by rw [e0]; exact Ar33.1) (State.isArrayOf_alike hZ.alike Ar33.2.1) (g := (mkF m 8 #[rv xa, rv ya, .val (.double (FP.dadd (FP.dadd (0 : UInt64) (FP.dmul xx0 yy0)) (FP.dmul xx1 yy1))), .second, iv (2 : Int32)] [(.ref xa), (.int (2 : Int32))])) rfl rfl (hb hby d1_8) _ ?_
    rw [len_of S33 M33]
    show Steps p.tables e below (s₁.setTop (mkF m 9 #[rv xa, rv ya, .val (.double (FP.dadd (FP.dadd (0 : UInt64) (FP.dmul xx0 yy0)) (FP.dmul xx1 yy1))), .second, iv (2 : Int32)] [(.int (2 : Int32)), (.int (2 : Int32))])) _
    refine XS.icmpYes X0.here hx rfl (pc0 := 9) (pc' := 30) rfl (hb hby d1_9) rfl (XT.ii_ge_t (by decide)) (by decide) (by decide) ?_
    show Steps p.tables e below (s₁.setTop (mkF m 30 #[rv xa, rv ya, .val (.double (FP.dadd (FP.dadd (0 : UInt64) (FP.dmul xx0 yy0)) (FP.dmul xx1 yy1))), .second, iv (2 : Int32)] [])) _
    refine XS.dloadN X0.here hx rfl (hb hby d1_30) rfl ?_
    exact kt
  obtain ⟨fs, hr, hrun, hended, hW, hsame⟩ := X0.leave (v := some (.double (FP.dadd (FP.dadd (0 : UInt64) (FP.dmul xx0 yy0)) (FP.dmul xx1 yy1)))) (fun h => by rw [Bd.returns] at h; cases h)
  refine ⟨_, _, pre35 _ (own_retD X0 hx Bd.returns (hb hby d1_31) hr), hrun, hended, _, _, rfl, ?_, ⟨_, rfl⟩, hW, hsame.mono (by decide) (by decide)⟩
  show Q_dot2 Z xa ya kx ky xx0 xx1 yy0 yy1 ix0 ix1 jy0 jy1 h0 n0 _ s₁.heap _
  rw [e0]
  exact ⟨(FP.dadd (FP.dadd (0 : UInt64) (FP.dmul xx0 yy0)) (FP.dmul xx1 yy1)), rfl, N0, rfl, D32⟩
def Q_dot3 (Z : State) (xa : Addr) (ya : Addr) (kx : ClassId) (ky : ClassId) (xx0 : UInt64) (xx1 : UInt64) (xx2 : UInt64) (yy0 : UInt64) (yy1 : UInt64) (yy2 : UInt64) (ix0 : Int) (ix1 : Int) (ix2 : Int) (jy0 : Int) (jy1 : Int) (jy2 : Int) (h0 : Heap) (n0 : Nat) (v : Option Value) (h : Heap) (L : List Loc) : Prop := ∃ (rd : UInt64), v = some (.double rd) ∧ Fr n0 L ∧ h = h0 ∧ (own_D rd ((((0 : Int) + ix0 * jy0) + ix1 * jy1) + ix2 * jy2) (((0 + 32768 * 32768) + 32768 * 32768) + 32768 * 32768))
set_option maxRecDepth 65536 in
set_option maxHeartbeats 40000000 in
theorem rm_dot3 (l : Launch) (Z : State) (a0 : Array Value) (hw : ∀ d ∈ tables_1, d.before a0 Z = true) (ws : List Jvm.Cond) (xa : Addr) (ya : Addr) (kx : ClassId) (ky : ClassId) (xx0 : UInt64) (xx1 : UInt64) (xx2 : UInt64) (yy0 : UInt64) (yy1 : UInt64) (yy2 : UInt64) (ix0 : Int) (ix1 : Int) (ix2 : Int) (jy0 : Int) (jy1 : Int) (jy2 : Int) (h0 : Heap) (n0 : Nat) (O0 : Old Z n0 h0) (Fi0 : Arv Z h0 xa kx .double (3 : Int32) [(.double xx0), (.double xx1), (.double xx2)] (.double (0 : UInt64))) (Fi1 : Arv Z h0 ya ky .double (3 : Int32) [(.double yy0), (.double yy1), (.double yy2)] (.double (0 : UInt64))) (qx0 : own_D xx0 ix0 32768) (qx1 : own_D xx1 ix1 32768) (qx2 : own_D xx2 ix2 32768) (qy0 : own_D yy0 jy0 32768) (qy1 : own_D yy1 jy1 32768) (qy2 : own_D yy2 jy2 32768) :
    MetFree l (⟨"com/example/centroid/centroid/Vectors", "dot", "([D[D)D"⟩ : MethodName) (head1 (Jvm.Cond.code (⟨"com/example/centroid/centroid/Vectors", "dot", "([D[D)D"⟩ : MethodName) prog_52_method_2_code 5 (some .double) :: ws) ({ frames := 0, cells := 0, slots := 0, locals := 0 } : Room)) (fun a U => a = #[(.ref xa), (.ref ya)] ∧ Z.Warmed39 U.vm ∧ U.heap = h0) (fun _ _ _ _ _ => True) (fun _ U o U' => ∃ v L, o = .returned v ∧ Q_dot3 Z xa ya kx ky xx0 xx1 xx2 yy0 yy1 yy2 ix0 ix1 ix2 jy0 jy1 jy2 h0 n0 v U'.heap L ∧ FrameEnd U o U' L ({ frames := 0, cells := 0, slots := 0, locals := 0 } : Room).cells ({ frames := 0, cells := 0, slots := 0, locals := 0 } : Room).slots) := by
  refine MetFree.of_bodySF (plainFor_of_name pn_3) hisR ?_
  intro p e s m args below meth c s₁ Bd hml0 hP hK
  have W := fun {d : Jvm.Cond} (i : Nat) (q : tables_1[i]? = some d) => hw d (List.mem_of_getElem? q)
  obtain ⟨rfl, hZ, hh⟩ := hP
  have hx := Bd.exec
  have hby := Bd.bytes
  have hml : c.maxLocals = 5 := hml0
  have hown : s.vm.findClass "com/example/centroid/centroid/Vectors" = some m.cls := findClass_of_methodNamed Bd.named
  have hnm := (name_of_methodNamed Bd.named Bd.method).1
  have X0 : Stand p l e ({ frames := 0, cells := 0, slots := 0, locals := 0 } : Room) s m #[(.ref xa), (.ref ya)] below meth c s₁ [] 0 0 := Stand.of_body Bd
  have e0 : s₁.heap = h0 := by rw [← hh, Bd.state]; rfl
  have N0 := Fr.nil n0
  have pre0 : ∀ t, Steps p.tables e below (s₁.setTop (mkF m 0 #[rv xa, rv ya, .unset, .unset, .unset] [])) t → Steps p.tables e below (s₁.setTop (entryFrame m #[(.ref xa), (.ref ya)] 5)) t := fun t k => castTop (ef_4 m xa ya) k
  have K0 : Keep h0 h0 [] := Keep.refl h0 []
  have pre37 : ∀ t, Steps p.tables e below (s₁.setTop (mkF m 8 #[rv xa, rv ya, .val (.double (0 : UInt64)), .second, iv (0 : Int32)] [(.ref xa), (.int (0 : Int32))])) t → Steps p.tables e below (s₁.setTop (entryFrame m #[(.ref xa), (.ref ya)] 5)) t := fun t kt => by
    refine pre0 _ ?_
    show Steps p.tables e below (s₁.setTop (mkF m 0 #[rv xa, rv ya, .unset, .unset, .unset] [])) _
    refine XS.dconst0 X0.here hx rfl (hb hby d1_0) (v := (0 : UInt64)) rfl ?_
    show Steps p.tables e below (s₁.setTop (mkF m 1 #[rv xa, rv ya, .unset, .unset, .unset] [(.double (0 : UInt64))])) _
    refine XS.dstoreN X0.here hx rfl (hb hby d1_1) rfl (l' := #[rv xa, rv ya, .val (.double (0 : UInt64)), .second, .unset]) rfl ?_
    show Steps p.tables e below (s₁.setTop (mkF m 2 #[rv xa, rv ya, .val (.double (0 : UInt64)), .second, .unset] [])) _
    refine XS.iconst X0.here hx rfl (hb hby d1_2) ?_
    show Steps p.tables e below (s₁.setTop (mkF m 3 #[rv xa, rv ya, .val (.double (0 : UInt64)), .second, .unset] [(.int (0 : Int32))])) _
    refine XS.istore X0.here hx rfl (hb hby d1_3) rfl (l' := #[rv xa, rv ya, .val (.double (0 : UInt64)), .second, iv (0 : Int32)]) rfl ?_
    show Steps p.tables e below (s₁.setTop (mkF m 5 #[rv xa, rv ya, .val (.double (0 : UInt64)), .second, iv (0 : Int32)] [])) _
    refine XS.iload X0.here hx rfl (hb hby d1_5) rfl ?_
    show Steps p.tables e below (s₁.setTop (mkF m 7 #[rv xa, rv ya, .val (.double (0 : UInt64)), .second, iv (0 : Int32)] [(.int (0 : Int32))])) _
    refine XS.aloadN X0.here hx rfl (hb hby d1_7) rfl rfl ?_
    exact kt
  obtain ⟨c36, Ar36, -, S36, M36, -, -⟩ := id Fi0
  have pre39 : ∀ t, Steps p.tables e below (s₁.setTop (mkF m 16 #[rv xa, rv ya, .val (.double (0 : UInt64)), .second, iv (0 : Int32)] [(.int (0 : Int32)), (.ref xa), (.double (0 : UInt64))])) t → Steps p.tables e below (s₁.setTop (entryFrame m #[(.ref xa), (.ref ya)] 5)) t := fun t kt => by
    refine pre37 _ ?_
    show Steps p.tables e below (s₁.setTop (mkF m 8 #[rv xa, rv ya, .val (.double (0 : UInt64)), .second, iv (0 : Int32)] [(.ref xa), (.int (0 : Int32))])) _
    refine X0.arraylength hx (by rw [e0]; exact Ar36.1) (State.isArrayOf_alike hZ.alike Ar36.2.1) (g := (mkF m 8 #[rv xa, rv ya, .val (.double (0 : UInt64)), .second, iv (0 : Int32)] [(.ref xa), (.int (0 : Int32))])) rfl rfl (hb hby d1_8) _ ?_
    rw [len_of S36 M36]
    show Steps p.tables e below (s₁.setTop (mkF m 9 #[rv xa, rv ya, .val (.double (0 : UInt64)), .second, iv (0 : Int32)] [(.int (3 : Int32)), (.int (0 : Int32))])) _
    refine XS.icmpNo X0.here hx rfl (hb hby d1_9) rfl (XT.ii_ge_f (by decide)) ?_
    show Steps p.tables e below (s₁.setTop (mkF m 12 #[rv xa, rv ya, .val (.double (0 : UInt64)), .second, iv (0 : Int32)] [])) _
    refine XS.dloadN X0.here hx rfl (hb hby d1_12) rfl ?_
    show Steps p.tables e below (s₁.setTop (mkF m 13 #[rv xa, rv ya, .val (.double (0 : UInt64)), .second, iv (0 : Int32)] [(.double (0 : UInt64))])) _
    refine XS.aloadN X0.here hx rfl (hb hby d1_13) rfl rfl ?_
    show Steps p.tables e below (s₁.setTop (mkF m 14 #[rv xa, rv ya, .val (.double (0 : UInt64)), .second, iv (0 : Int32)] [(.ref xa), (.double (0 : UInt64))])) _
    refine XS.iload X0.here hx rfl (hb hby d1_14) rfl ?_
    exact kt
  obtain ⟨c38, Ar38, q38, S38, M38, H38, G38⟩ := id Fi0
  have i38 : ¬ ((0 : Int32) < 0 ∨ c38.slots.size ≤ ((0 : Int32)).toNatClampNeg) := inb_of S38 ⟨by decide, by decide⟩
  have t38 : c38.slots[((0 : Int32)).toNatClampNeg]? = some (.double xx0) := Has.at H38 i38 rfl
  have pre41 : ∀ t, Steps p.tables e below (s₁.setTop (mkF m 20 #[rv xa, rv ya, .val (.double (0 : UInt64)), .second, iv (0 : Int32)] [(.int (0 : Int32)), (.ref ya), (.double xx0), (.double (0 : UInt64))])) t → Steps p.tables e below (s₁.setTop (entryFrame m #[(.ref xa), (.ref ya)] 5)) t := fun t kt => by
    refine pre39 _ ?_
    show Steps p.tables e below (s₁.setTop (mkF m 16 #[rv xa, rv ya, .val (.double (0 : UInt64)), .second, iv (0 : Int32)] [(.int (0 : Int32)), (.ref xa), (.double (0 : UInt64))])) _
    refine X0.daload hx (j := (0 : Int32)) (v := (.double xx0)) (by rw [e0]; exact Ar38.1) (State.isArrayOf_alike hZ.alike Ar38.2.1) Ar38.2.2 i38 t38 (g := (mkF m 16 #[rv xa, rv ya, .val (.double (0 : UInt64)), .second, iv (0 : Int32)] [(.int (0 : Int32)), (.ref xa), (.double (0 : UInt64))])) rfl rfl (hb hby d1_16) _ ?_
    show Steps p.tables e below (s₁.setTop (mkF m 17 #[rv xa, rv ya, .val (.double (0 : UInt64)), .second, iv (0 : Int32)] [(.double xx0), (.double (0 : UInt64))])) _
    refine XS.aloadN X0.here hx rfl (hb hby d1_17) rfl rfl ?_
    show Steps p.tables e below (s₁.setTop (mkF m 18 #[rv xa, rv ya, .val (.double (0 : UInt64)), .second, iv (0 : Int32)] [(.ref ya), (.double xx0), (.double (0 : UInt64))])) _
    refine XS.iload X0.here hx rfl (hb hby d1_18) rfl ?_
    exact kt
  obtain ⟨c40, Ar40, q40, S40, M40, H40, G40⟩ := id Fi1
  have i40 : ¬ ((0 : Int32) < 0 ∨ c40.slots.size ≤ ((0 : Int32)).toNatClampNeg) := inb_of S40 ⟨by decide, by decide⟩
  have t40 : c40.slots[((0 : Int32)).toNatClampNeg]? = some (.double yy0) := Has.at H40 i40 rfl
  have D42 := own_D_mul qx0 qy0 (by decide)
  have D43 := own_D_add own_D_0 D42 (by decide)
  have pre45 : ∀ t, Steps p.tables e below (s₁.setTop (mkF m 8 #[rv xa, rv ya, .val (.double (FP.dadd (0 : UInt64) (FP.dmul xx0 yy0))), .second, iv (1 : Int32)] [(.ref xa), (.int (1 : Int32))])) t → Steps p.tables e below (s₁.setTop (entryFrame m #[(.ref xa), (.ref ya)] 5)) t := fun t kt => by
    refine pre41 _ ?_
    show Steps p.tables e below (s₁.setTop (mkF m 20 #[rv xa, rv ya, .val (.double (0 : UInt64)), .second, iv (0 : Int32)] [(.int (0 : Int32)), (.ref ya), (.double xx0), (.double (0 : UInt64))])) _
    refine X0.daload hx (j := (0 : Int32)) (v := (.double yy0)) (by rw [e0]; exact Ar40.1) (State.isArrayOf_alike hZ.alike Ar40.2.1) Ar40.2.2 i40 t40 (g := (mkF m 20 #[rv xa, rv ya, .val (.double (0 : UInt64)), .second, iv (0 : Int32)] [(.int (0 : Int32)), (.ref ya), (.double xx0), (.double (0 : UInt64))])) rfl rfl (hb hby d1_20) _ ?_
    show Steps p.tables e below (s₁.setTop (mkF m 21 #[rv xa, rv ya, .val (.double (0 : UInt64)), .second, iv (0 : Int32)] [(.double yy0), (.double xx0), (.double (0 : UInt64))])) _
    refine XS.dmulS X0.here hx rfl (hb hby d1_21) rfl (own_D_nn D42) rfl ?_
    show Steps p.tables e below (s₁.setTop (mkF m 22 #[rv xa, rv ya, .val (.double (0 : UInt64)), .second, iv (0 : Int32)] [(.double (FP.dmul xx0 yy0)), (.double (0 : UInt64))])) _
    refine XS.daddS X0.here hx rfl (hb hby d1_22) rfl (own_D_nn D43) rfl ?_
    show Steps p.tables e below (s₁.setTop (mkF m 23 #[rv xa, rv ya, .val (.double (0 : UInt64)), .second, iv (0 : Int32)] [(.double (FP.dadd (0 : UInt64) (FP.dmul xx0 yy0)))])) _
    refine XS.dstoreN X0.here hx rfl (hb hby d1_23) rfl (l' := #[rv xa, rv ya, .val (.double (FP.dadd (0 : UInt64) (FP.dmul xx0 yy0))), .second, iv (0 : Int32)]) rfl ?_
    show Steps p.tables e below (s₁.setTop (mkF m 24 #[rv xa, rv ya, .val (.double (FP.dadd (0 : UInt64) (FP.dmul xx0 yy0))), .second, iv (0 : Int32)] [])) _
    refine XS.iinc X0.here hx rfl (hb hby d1_24) rfl (l' := #[rv xa, rv ya, .val (.double (FP.dadd (0 : UInt64) (FP.dmul xx0 yy0))), .second, iv ((0 : Int32) + (1 : Int32))]) rfl ?_
    show  Steps p.tables e below (s₁.setTop (mkF m 27 #[rv xa, rv ya, .val (.double (FP.dadd (0 : UInt64) (FP.dmul xx0 yy0))), .second, iv ((0 : Int32) + (1 : Int32))] [])) _
    rw [(by decide : (((0 : Int32) + (1 : Int32)) : Int32) = (1 : Int32))]
    show Steps p.tables e below (s₁.setTop (mkF m 27 #[rv xa, rv ya, .val (.double (FP.dadd (0 : UInt64) (FP.dmul xx0 yy0))), .second, iv (1 : Int32)] [])) _
    refine XS.goto X0.here hx rfl (pc0 := 27) (pc' := 5) rfl (hb hby d1_27) (by decide) (by decide) ?_
    show Steps p.tables e below (s₁.setTop (mkF m 5 #[rv xa, rv ya, .val (.double (FP.dadd (0 : UInt64) (FP.dmul xx0 yy0))), .second, iv (1 : Int32)] [])) _
    refine XS.iload X0.here hx rfl (hb hby d1_5) rfl ?_
    show Steps p.tables e below (s₁.setTop (mkF m 7 #[rv xa, rv ya, .val (.double (FP.dadd (0 : UInt64) (FP.dmul xx0 yy0))), .second, iv (1 : Int32)] [(.int (1 : Int32))])) _
    refine XS.aloadN X0.here hx rfl (hb hby d1_7) rfl rfl ?_
    exact kt
  obtain ⟨c44, Ar44, -, S44, M44, -, -⟩ := id Fi0
  have pre47 : ∀ t, Steps p.tables e below (s₁.setTop (mkF m 16 #[rv xa, rv ya, .val (.double (FP.dadd (0 : UInt64) (FP.dmul xx0 yy0))), .second, iv (1 : Int32)] [(.int (1 : Int32)), (.ref xa), (.double (FP.dadd (0 : UInt64) (FP.dmul xx0 yy0)))])) t → Steps p.tables e below (s₁.setTop (entryFrame m #[(.ref xa), (.ref ya)] 5)) t := fun t kt => by
    refine pre45 _ ?_
    show Steps p.tables e below (s₁.setTop (mkF m 8 #[rv xa, rv ya, .val (.double (FP.dadd (0 : UInt64) (FP.dmul xx0 yy0))), .second, iv (1 : Int32)] [(.ref xa), (.int (1 : Int32))])) _
    refine X0.arraylength hx (by rw [e0]; exact Ar44.1) (State.isArrayOf_alike hZ.alike Ar44.2.1) (g := (mkF m 8 #[rv xa, rv ya, .val (.double (FP.dadd (0 : UInt64) (FP.dmul xx0 yy0))), .second, iv (1 : Int32)] [(.ref xa), (.int (1 : Int32))])) rfl rfl (hb hby d1_8) _ ?_
    rw [len_of S44 M44]
    show Steps p.tables e below (s₁.setTop (mkF m 9 #[rv xa, rv ya, .val (.double (FP.dadd (0 : UInt64) (FP.dmul xx0 yy0))), .second, iv (1 : Int32)] [(.int (3 : Int32)), (.int (1 : Int32))])) _
    refine XS.icmpNo X0.here hx rfl (hb hby d1_9) rfl (XT.ii_ge_f (by decide)) ?_
    show Steps p.tables e below (s₁.setTop (mkF m 12 #[rv xa, rv ya, .val (.double (FP.dadd (0 : UInt64) (FP.dmul xx0 yy0))), .second, iv (1 : Int32)] [])) _
    refine XS.dloadN X0.here hx rfl (hb hby d1_12) rfl ?_
    show Steps p.tables e below (s₁.setTop (mkF m 13 #[rv xa, rv ya, .val (.double (FP.dadd (0 : UInt64) (FP.dmul xx0 yy0))), .second, iv (1 : Int32)] [(.double (FP.dadd (0 : UInt64) (FP.dmul xx0 yy0)))])) _
    refine XS.aloadN X0.here hx rfl (hb hby d1_13) rfl rfl ?_
    show Steps p.tables e below (s₁.setTop (mkF m 14 #[rv xa, rv ya, .val (.double (FP.dadd (0 : UInt64) (FP.dmul xx0 yy0))), .second, iv (1 : Int32)] [(.ref xa), (.double (FP.dadd (0 : UInt64) (FP.dmul xx0 yy0)))])) _
    refine XS.iload X0.here hx rfl (hb hby d1_14) rfl ?_
    exact kt
  obtain ⟨c46, Ar46, q46, S46, M46, H46, G46⟩ := id Fi0
  have i46 : ¬ ((1 : Int32) < 0 ∨ c46.slots.size ≤ ((1 : Int32)).toNatClampNeg) := inb_of S46 ⟨by decide, by decide⟩
  have t46 : c46.slots[((1 : Int32)).toNatClampNeg]? = some (.double xx1) := Has.at H46 i46 rfl
  have pre49 : ∀ t, Steps p.tables e below (s₁.setTop (mkF m 20 #[rv xa, rv ya, .val (.double (FP.dadd (0 : UInt64) (FP.dmul xx0 yy0))), .second, iv (1 : Int32)] [(.int (1 : Int32)), (.ref ya), (.double xx1), (.double (FP.dadd (0 : UInt64) (FP.dmul xx0 yy0)))])) t → Steps p.tables e below (s₁.setTop (entryFrame m #[(.ref xa), (.ref ya)] 5)) t := fun t kt => by
    refine pre47 _ ?_
    show Steps p.tables e below (s₁.setTop (mkF m 16 #[rv xa, rv ya, .val (.double (FP.dadd (0 : UInt64) (FP.dmul xx0 yy0))), .second, iv (1 : Int32)] [(.int (1 : Int32)), (.ref xa), (.double (FP.dadd (0 : UInt64) (FP.dmul xx0 yy0)))])) _
    refine X0.daload hx (j := (1 : Int32)) (v := (.double xx1)) (by rw [e0]; exact Ar46.1) (State.isArrayOf_alike hZ.alike Ar46.2.1) Ar46.2.2 i46 t46 (g := (mkF m 16 #[rv xa, rv ya, .val (.double (FP.dadd (0 : UInt64) (FP.dmul xx0 yy0))), .second, iv (1 : Int32)] [(.int (1 : Int32)), (.ref xa), (.double (FP.dadd (0 : UInt64) (FP.dmul xx0 yy0)))])) rfl rfl (hb hby d1_16) _ ?_
    show Steps p.tables e below (s₁.setTop (mkF m 17 #[rv xa, rv ya, .val (.double (FP.dadd (0 : UInt64) (FP.dmul xx0 yy0))), .second, iv (1 : Int32)] [(.double xx1), (.double (FP.dadd (0 : UInt64) (FP.dmul xx0 yy0)))])) _
    refine XS.aloadN X0.here hx rfl (hb hby d1_17) rfl rfl ?_
    show Steps p.tables e below (s₁.setTop (mkF m 18 #[rv xa, rv ya, .val (.double (FP.dadd (0 : UInt64) (FP.dmul xx0 yy0))), .second, iv (1 : Int32)] [(.ref ya), (.double xx1), (.double (FP.dadd (0 : UInt64) (FP.dmul xx0 yy0)))])) _
    refine XS.iload X0.here hx rfl (hb hby d1_18) rfl ?_
    exact kt
  obtain ⟨c48, Ar48, q48, S48, M48, H48, G48⟩ := id Fi1
  have i48 : ¬ ((1 : Int32) < 0 ∨ c48.slots.size ≤ ((1 : Int32)).toNatClampNeg) := inb_of S48 ⟨by decide, by decide⟩
  have t48 : c48.slots[((1 : Int32)).toNatClampNeg]? = some (.double yy1) := Has.at H48 i48 rfl
  have D50 := own_D_mul qx1 qy1 (by decide)
  have D51 := own_D_add D43 D50 (by decide)
  have pre53 : ∀ t, Steps p.tables e below (s₁.setTop (mkF m 8 #[rv xa, rv ya, .val (.double (FP.dadd (FP.dadd (0 : UInt64) (FP.dmul xx0 yy0)) (FP.dmul xx1 yy1))), .second, iv (2 : Int32)] [(.ref xa), (.int (2 : Int32))])) t → Steps p.tables e below (s₁.setTop (entryFrame m #[(.ref xa), (.ref ya)] 5)) t := fun t kt => by
    refine pre49 _ ?_
    show Steps p.tables e below (s₁.setTop (mkF m 20 #[rv xa, rv ya, .val (.double (FP.dadd (0 : UInt64) (FP.dmul xx0 yy0))), .second, iv (1 : Int32)] [(.int (1 : Int32)), (.ref ya), (.double xx1), (.double (FP.dadd (0 : UInt64) (FP.dmul xx0 yy0)))])) _
    refine X0.daload hx (j := (1 : Int32)) (v := (.double yy1)) (by rw [e0]; exact Ar48.1) (State.isArrayOf_alike hZ.alike Ar48.2.1) Ar48.2.2 i48 t48 (g := (mkF m 20 #[rv xa, rv ya, .val (.double (FP.dadd (0 : UInt64) (FP.dmul xx0 yy0))), .second, iv (1 : Int32)] [(.int (1 : Int32)), (.ref ya), (.double xx1), (.double (FP.dadd (0 : UInt64) (FP.dmul xx0 yy0)))])) rfl rfl (hb hby d1_20) _ ?_
    show Steps p.tables e below (s₁.setTop (mkF m 21 #[rv xa, rv ya, .val (.double (FP.dadd (0 : UInt64) (FP.dmul xx0 yy0))), .second, iv (1 : Int32)] [(.double yy1), (.double xx1), (.double (FP.dadd (0 : UInt64) (FP.dmul xx0 yy0)))])) _
    refine XS.dmulS X0.here hx rfl (hb hby d1_21) rfl (own_D_nn D50) rfl ?_
    show Steps p.tables e below (s₁.setTop (mkF m 22 #[rv xa, rv ya, .val (.double (FP.dadd (0 : UInt64) (FP.dmul xx0 yy0))), .second, iv (1 : Int32)] [(.double (FP.dmul xx1 yy1)), (.double (FP.dadd (0 : UInt64) (FP.dmul xx0 yy0)))])) _
    refine XS.daddS X0.here hx rfl (hb hby d1_22) rfl (own_D_nn D51) rfl ?_
    show Steps p.tables e below (s₁.setTop (mkF m 23 #[rv xa, rv ya, .val (.double (FP.dadd (0 : UInt64) (FP.dmul xx0 yy0))), .second, iv (1 : Int32)] [(.double (FP.dadd (FP.dadd (0 : UInt64) (FP.dmul xx0 yy0)) (FP.dmul xx1 yy1)))])) _
    refine XS.dstoreN X0.here hx rfl (hb hby d1_23) rfl (l' := #[rv xa, rv ya, .val (.double (FP.dadd (FP.dadd (0 : UInt64) (FP.dmul xx0 yy0)) (FP.dmul xx1 yy1))), .second, iv (1 : Int32)]) rfl ?_
    show Steps p.tables e below (s₁.setTop (mkF m 24 #[rv xa, rv ya, .val (.double (FP.dadd (FP.dadd (0 : UInt64) (FP.dmul xx0 yy0)) (FP.dmul xx1 yy1))), .second, iv (1 : Int32)] [])) _
    refine XS.iinc X0.here hx rfl (hb hby d1_24) rfl (l' := #[rv xa, rv ya, .val (.double (FP.dadd (FP.dadd (0 : UInt64) (FP.dmul xx0 yy0)) (FP.dmul xx1 yy1))), .second, iv ((1 : Int32) + (1 : Int32))]) rfl ?_
    show  Steps p.tables e below (s₁.setTop (mkF m 27 #[rv xa, rv ya, .val (.double (FP.dadd (FP.dadd (0 : UInt64) (FP.dmul xx0 yy0)) (FP.dmul xx1 yy1))), .second, iv ((1 : Int32) + (1 : Int32))] [])) _
    rw [(by decide : (((1 : Int32) + (1 : Int32)) : Int32) = (2 : Int32))]
    show Steps p.tables e below (s₁.setTop (mkF m 27 #[rv xa, rv ya, .val (.double (FP.dadd (FP.dadd (0 : UInt64) (FP.dmul xx0 yy0)) (FP.dmul xx1 yy1))), .second, iv (2 : Int32)] [])) _
    refine XS.goto X0.here hx rfl (pc0 := 27) (pc' := 5) rfl (hb hby d1_27) (by decide) (by decide) ?_
    show Steps p.tables e below (s₁.setTop (mkF m 5 #[rv xa, rv ya, .val (.double (FP.dadd (FP.dadd (0 : UInt64) (FP.dmul xx0 yy0)) (FP.dmul xx1 yy1))), .second, iv (2 : Int32)] [])) _
    refine XS.iload X0.here hx rfl (hb hby d1_5) rfl ?_
    show Steps p.tables e below (s₁.setTop (mkF m 7 #[rv xa, rv ya, .val (.double (FP.dadd (FP.dadd (0 : UInt64) (FP.dmul xx0 yy0)) (FP.dmul xx1 yy1))), .second, iv (2 : Int32)] [(.int (2 : Int32))])) _
    refine XS.aloadN X0.here hx rfl (hb hby d1_7) rfl rfl ?_
    exact kt
  obtain ⟨c52, Ar52, -, S52, M52, -, -⟩ := id Fi0
  have pre55 : ∀ t, Steps p.tables e below (s₁.setTop (mkF m 16 #[rv xa, rv ya, .val (.double (FP.dadd (FP.dadd (0 : UInt64) (FP.dmul xx0 yy0)) (FP.dmul xx1 yy1))), .second, iv (2 : Int32)] [(.int (2 : Int32)), (.ref xa), (.double (FP.dadd (FP.dadd (0 : UInt64) (FP.dmul xx0 yy0)) (FP.dmul xx1 yy1)))])) t → Steps p.tables e below (s₁.setTop (entryFrame m #[(.ref xa), (.ref ya)] 5)) t := fun t kt => by
    refine pre53 _ ?_
    show Steps p.tables e below (s₁.setTop (mkF m 8 #[rv xa, rv ya, .val (.double (FP.dadd (FP.dadd (0 : UInt64) (FP.dmul xx0 yy0)) (FP.dmul xx1 yy1))), .second, iv (2 : Int32)] [(.ref xa), (.int (2 : Int32))])) _
    refine X0.arraylength hx (by rw [e0]; exact Ar52.1) (State.isArrayOf_alike hZ.alike Ar52.2.1) (g := (mkF m 8 #[rv xa, rv ya, .val (.double (FP.dadd (FP.dadd (0 : UInt64) (FP.dmul xx0 yy0)) (FP.dmul xx1 yy1))), .second, iv (2 : Int32)] [(.ref xa), (.int (2 : Int32))])) rfl rfl (hb hby d1_8) _ ?_
    rw [len_of S52 M52]
    show Steps p.tables e below (s₁.setTop (mkF m 9 #[rv xa, rv ya, .val (.double (FP.dadd (FP.dadd (0 : UInt64) (FP.dmul xx0 yy0)) (FP.dmul xx1 yy1))), .second, iv (2 : Int32)] [(.int (3 : Int32)), (.int (2 : Int32))])) _
    refine XS.icmpNo X0.here hx rfl (hb hby d1_9) rfl (XT.ii_ge_f (by decide)) ?_
    show Steps p.tables e below (s₁.setTop (mkF m 12 #[rv xa, rv ya, .val (.double (FP.dadd (FP.dadd (0 : UInt64) (FP.dmul xx0 yy0)) (FP.dmul xx1 yy1))), .second, iv (2 : Int32)] [])) _
    refine XS.dloadN X0.here hx rfl (hb hby d1_12) rfl ?_
    show Steps p.tables e below (s₁.setTop (mkF m 13 #[rv xa, rv ya, .val (.double (FP.dadd (FP.dadd (0 : UInt64) (FP.dmul xx0 yy0)) (FP.dmul xx1 yy1))), .second, iv (2 : Int32)] [(.double (FP.dadd (FP.dadd (0 : UInt64) (FP.dmul xx0 yy0)) (FP.dmul xx1 yy1)))])) _
    refine XS.aloadN X0.here hx rfl (hb hby d1_13) rfl rfl ?_
    show Steps p.tables e below (s₁.setTop (mkF m 14 #[rv xa, rv ya, .val (.double (FP.dadd (FP.dadd (0 : UInt64) (FP.dmul xx0 yy0)) (FP.dmul xx1 yy1))), .second, iv (2 : Int32)] [(.ref xa), (.double (FP.dadd (FP.dadd (0 : UInt64) (FP.dmul xx0 yy0)) (FP.dmul xx1 yy1)))])) _
    refine XS.iload X0.here hx rfl (hb hby d1_14) rfl ?_
    exact kt
  obtain ⟨c54, Ar54, q54, S54, M54, H54, G54⟩ := id Fi0
  have i54 : ¬ ((2 : Int32) < 0 ∨ c54.slots.size ≤ ((2 : Int32)).toNatClampNeg) := inb_of S54 ⟨by decide, by decide⟩
  have t54 : c54.slots[((2 : Int32)).toNatClampNeg]? = some (.double xx2) := Has.at H54 i54 rfl
  have pre57 : ∀ t, Steps p.tables e below (s₁.setTop (mkF m 20 #[rv xa, rv ya, .val (.double (FP.dadd (FP.dadd (0 : UInt64) (FP.dmul xx0 yy0)) (FP.dmul xx1 yy1))), .second, iv (2 : Int32)] [(.int (2 : Int32)), (.ref ya), (.double xx2), (.double (FP.dadd (FP.dadd (0 : UInt64) (FP.dmul xx0 yy0)) (FP.dmul xx1 yy1)))])) t → Steps p.tables e below (s₁.setTop (entryFrame m #[(.ref xa), (.ref ya)] 5)) t := fun t kt => by
    refine pre55 _ ?_
    show Steps p.tables e below (s₁.setTop (mkF m 16 #[rv xa, rv ya, .val (.double (FP.dadd (FP.dadd (0 : UInt64) (FP.dmul xx0 yy0)) (FP.dmul xx1 yy1))), .second, iv (2 : Int32)] [(.int (2 : Int32)), (.ref xa), (.double (FP.dadd (FP.dadd (0 : UInt64) (FP.dmul xx0 yy0)) (FP.dmul xx1 yy1)))])) _
    refine X0.daload hx (j := (2 : Int32)) (v := (.double xx2)) (by rw [e0]; exact Ar54.1) (State.isArrayOf_alike hZ.alike Ar54.2.1) Ar54.2.2 i54 t54 (g := (mkF m 16 #[rv xa, rv ya, .val (.double (FP.dadd (FP.dadd (0 : UInt64) (FP.dmul xx0 yy0)) (FP.dmul xx1 yy1))), .second, iv (2 : Int32)] [(.int (2 : Int32)), (.ref xa), (.double (FP.dadd (FP.dadd (0 : UInt64) (FP.dmul xx0 yy0)) (FP.dmul xx1 yy1)))])) rfl rfl (hb hby d1_16) _ ?_
    show Steps p.tables e below (s₁.setTop (mkF m 17 #[rv xa, rv ya, .val (.double (FP.dadd (FP.dadd (0 : UInt64) (FP.dmul xx0 yy0)) (FP.dmul xx1 yy1))), .second, iv (2 : Int32)] [(.double xx2), (.double (FP.dadd (FP.dadd (0 : UInt64) (FP.dmul xx0 yy0)) (FP.dmul xx1 yy1)))])) _
    refine XS.aloadN X0.here hx rfl (hb hby d1_17) rfl rfl ?_
    show Steps p.tables e below (s₁.setTop (mkF m 18 #[rv xa, rv ya, .val (.double (FP.dadd (FP.dadd (0 : UInt64) (FP.dmul xx0 yy0)) (FP.dmul xx1 yy1))), .second, iv (2 : Int32)] [(.ref ya), (.double xx2), (.double (FP.dadd (FP.dadd (0 : UInt64) (FP.dmul xx0 yy0)) (FP.dmul xx1 yy1)))])) _
    refine XS.iload X0.here hx rfl (hb hby d1_18) rfl ?_
    exact kt
  obtain ⟨c56, Ar56, q56, S56, M56, H56, G56⟩ := id Fi1
  have i56 : ¬ ((2 : Int32) < 0 ∨ c56.slots.size ≤ ((2 : Int32)).toNatClampNeg) := inb_of S56 ⟨by decide, by decide⟩
  have t56 : c56.slots[((2 : Int32)).toNatClampNeg]? = some (.double yy2) := Has.at H56 i56 rfl
  have D58 := own_D_mul qx2 qy2 (by decide)
  have D59 := own_D_add D51 D58 (by decide)
  have pre61 : ∀ t, Steps p.tables e below (s₁.setTop (mkF m 8 #[rv xa, rv ya, .val (.double (FP.dadd (FP.dadd (FP.dadd (0 : UInt64) (FP.dmul xx0 yy0)) (FP.dmul xx1 yy1)) (FP.dmul xx2 yy2))), .second, iv (3 : Int32)] [(.ref xa), (.int (3 : Int32))])) t → Steps p.tables e below (s₁.setTop (entryFrame m #[(.ref xa), (.ref ya)] 5)) t := fun t kt => by
    refine pre57 _ ?_
    show Steps p.tables e below (s₁.setTop (mkF m 20 #[rv xa, rv ya, .val (.double (FP.dadd (FP.dadd (0 : UInt64) (FP.dmul xx0 yy0)) (FP.dmul xx1 yy1))), .second, iv (2 : Int32)] [(.int (2 : Int32)), (.ref ya), (.double xx2), (.double (FP.dadd (FP.dadd (0 : UInt64) (FP.dmul xx0 yy0)) (FP.dmul xx1 yy1)))])) _
    refine X0.daload hx (j := (2 : Int32)) (v := (.double yy2)) (by rw [e0]; exact Ar56.1) (State.isArrayOf_alike hZ.alike Ar56.2.1) Ar56.2.2 i56 t56 (g := (mkF m 20 #[rv xa, rv ya, .val (.double (FP.dadd (FP.dadd (0 : UInt64) (FP.dmul xx0 yy0)) (FP.dmul xx1 yy1))), .second, iv (2 : Int32)] [(.int (2 : Int32)), (.ref ya), (.double xx2), (.double (FP.dadd (FP.dadd (0 : UInt64) (FP.dmul xx0 yy0)) (FP.dmul xx1 yy1)))])) rfl rfl (hb hby d1_20) _ ?_
    show Steps p.tables e below (s₁.setTop (mkF m 21 #[rv xa, rv ya, .val (.double (FP.dadd (FP.dadd (0 : UInt64) (FP.dmul xx0 yy0)) (FP.dmul xx1 yy1))), .second, iv (2 : Int32)] [(.double yy2), (.double xx2), (.double (FP.dadd (FP.dadd (0 : UInt64) (FP.dmul xx0 yy0)) (FP.dmul xx1 yy1)))])) _
    refine XS.dmulS X0.here hx rfl (hb hby d1_21) rfl (own_D_nn D58) rfl ?_
    show Steps p.tables e below (s₁.setTop (mkF m 22 #[rv xa, rv ya, .val (.double (FP.dadd (FP.dadd (0 : UInt64) (FP.dmul xx0 yy0)) (FP.dmul xx1 yy1))), .second, iv (2 : Int32)] [(.double (FP.dmul xx2 yy2)), (.double (FP.dadd (FP.dadd (0 : UInt64) (FP.dmul xx0 yy0)) (FP.dmul xx1 yy1)))])) _
    refine XS.daddS X0.here hx rfl (hb hby d1_22) rfl (own_D_nn D59) rfl ?_
    show Steps p.tables e below (s₁.setTop (mkF m 23 #[rv xa, rv ya, .val (.double (FP.dadd (FP.dadd (0 : UInt64) (FP.dmul xx0 yy0)) (FP.dmul xx1 yy1))), .second, iv (2 : Int32)] [(.double (FP.dadd (FP.dadd (FP.dadd (0 : UInt64) (FP.dmul xx0 yy0)) (FP.dmul xx1 yy1)) (FP.dmul xx2 yy2)))])) _
    refine XS.dstoreN X0.here hx rfl (hb hby d1_23) rfl (l' := #[rv xa, rv ya, .val (.double (FP.dadd (FP.dadd (FP.dadd (0 : UInt64) (FP.dmul xx0 yy0)) (FP.dmul xx1 yy1)) (FP.dmul xx2 yy2))), .second, iv (2 : Int32)]) rfl ?_
    show Steps p.tables e below (s₁.setTop (mkF m 24 #[rv xa, rv ya, .val (.double (FP.dadd (FP.dadd (FP.dadd (0 : UInt64) (FP.dmul xx0 yy0)) (FP.dmul xx1 yy1)) (FP.dmul xx2 yy2))), .second, iv (2 : Int32)] [])) _
    refine XS.iinc X0.here hx rfl (hb hby d1_24) rfl (l' := #[rv xa, rv ya, .val (.double (FP.dadd (FP.dadd (FP.dadd (0 : UInt64) (FP.dmul xx0 yy0)) (FP.dmul xx1 yy1)) (FP.dmul xx2 yy2))), .second, iv ((2 : Int32) + (1 : Int32))]) rfl ?_
    show  Steps p.tables e below (s₁.setTop (mkF m 27 #[rv xa, rv ya, .val (.double (FP.dadd (FP.dadd (FP.dadd (0 : UInt64) (FP.dmul xx0 yy0)) (FP.dmul xx1 yy1)) (FP.dmul xx2 yy2))), .second, iv ((2 : Int32) + (1 : Int32))] [])) _
    rw [(by decide : (((2 : Int32) + (1 : Int32)) : Int32) = (3 : Int32))]
    show Steps p.tables e below (s₁.setTop (mkF m 27 #[rv xa, rv ya, .val (.double (FP.dadd (FP.dadd (FP.dadd (0 : UInt64) (FP.dmul xx0 yy0)) (FP.dmul xx1 yy1)) (FP.dmul xx2 yy2))), .second, iv (3 : Int32)] [])) _
    refine XS.goto X0.here hx rfl (pc0 := 27) (pc' := 5) rfl (hb hby d1_27) (by decide) (by decide) ?_
    show Steps p.tables e below (s₁.setTop (mkF m 5 #[rv xa, rv ya, .val (.double (FP.dadd (FP.dadd (FP.dadd (0 : UInt64) (FP.dmul xx0 yy0)) (FP.dmul xx1 yy1)) (FP.dmul xx2 yy2))), .second, iv (3 : Int32)] [])) _
    refine XS.iload X0.here hx rfl (hb hby d1_5) rfl ?_
    show Steps p.tables e below (s₁.setTop (mkF m 7 #[rv xa, rv ya, .val (.double (FP.dadd (FP.dadd (FP.dadd (0 : UInt64) (FP.dmul xx0 yy0)) (FP.dmul xx1 yy1)) (FP.dmul xx2 yy2))), .second, iv (3 : Int32)] [(.int (3 : Int32))])) _
    refine XS.aloadN X0.here hx rfl (hb hby d1_7) rfl rfl ?_
    exact kt
  obtain ⟨c60, Ar60, -, S60, M60, -, -⟩ := id Fi0
  have pre62 : ∀ t, Steps p.tables e below (s₁.setTop (mkF m 31 #[rv xa, rv ya, .val (.double (FP.dadd (FP.dadd (FP.dadd (0 : UInt64) (FP.dmul xx0 yy0)) (FP.dmul xx1 yy1)) (FP.dmul xx2 yy2))), .second, iv (3 : Int32)] [(.double (FP.dadd (FP.dadd (FP.dadd (0 : UInt64) (FP.dmul xx0 yy0)) (FP.dmul xx1 yy1)) (FP.dmul xx2 yy2)))])) t → Steps p.tables e below (s₁.setTop (entryFrame m #[(.ref xa), (.ref ya)] 5)) t := fun t kt => by
    refine pre61 _ ?_
    show Steps p.tables e below (s₁.setTop (mkF m 8 #[rv xa, rv ya, .val (.double (FP.dadd (FP.dadd (FP.dadd (0 : UInt64) (FP.dmul xx0 yy0)) (FP.dmul xx1 yy1)) (FP.dmul xx2 yy2))), .second, iv (3 : Int32)] [(.ref xa), (.int (3 : Int32))])) _
    refine X0.arraylength hx (by rw [e0]; exact Ar60.1) (State.isArrayOf_alike hZ.alike Ar60.2.1) (g := (mkF m 8 #[rv xa, rv ya, .val (.double (FP.dadd (FP.dadd (FP.dadd (0 : UInt64) (FP.dmul xx0 yy0)) (FP.dmul xx1 yy1)) (FP.dmul xx2 yy2))), .second, iv (3 : Int32)] [(.ref xa), (.int (3 : Int32))])) rfl rfl (hb hby d1_8) _ ?_
    rw [len_of S60 M60]
    show Steps p.tables e below (s₁.setTop (mkF m 9 #[rv xa, rv ya, .val (.double (FP.dadd (FP.dadd (FP.dadd (0 : UInt64) (FP.dmul xx0 yy0)) (FP.dmul xx1 yy1)) (FP.dmul xx2 yy2))), .second, iv (3 : Int32)] [(.int (3 : Int32)), (.int (3 : Int32))])) _
    refine XS.icmpYes X0.here hx rfl (pc0 := 9) (pc' := 30) rfl (hb hby d1_9) rfl (XT.ii_ge_t (by decide)) (by decide) (by decide) ?_
    show Steps p.tables e below (s₁.setTop (mkF m 30 #[rv xa, rv ya, .val (.double (FP.dadd (FP.dadd (FP.dadd (0 : UInt64) (FP.dmul xx0 yy0)) (FP.dmul xx1 yy1)) (FP.dmul xx2 yy2))), .second, iv (3 : Int32)] [])) _
    refine XS.dloadN X0.here hx rfl (hb hby d1_30) rfl ?_
    exact kt
  obtain ⟨fs, hr, hrun, hended, hW, hsame⟩ := X0.leave (v := some (.double (FP.dadd (FP.dadd (FP.dadd (0 : UInt64) (FP.dmul xx0 yy0)) (FP.dmul xx1 yy1)) (FP.dmul xx2 yy2)))) (fun h => by rw [Bd.returns] at h; cases h)
  refine ⟨_, _, pre62 _ (own_retD X0 hx Bd.returns (hb hby d1_31) hr), hrun, hended, _, _, rfl, ?_, ⟨_, rfl⟩, hW, hsame.mono (by decide) (by decide)⟩
  show Q_dot3 Z xa ya kx ky xx0 xx1 xx2 yy0 yy1 yy2 ix0 ix1 ix2 jy0 jy1 jy2 h0 n0 _ s₁.heap _
  rw [e0]
  exact ⟨(FP.dadd (FP.dadd (FP.dadd (0 : UInt64) (FP.dmul xx0 yy0)) (FP.dmul xx1 yy1)) (FP.dmul xx2 yy2)), rfl, N0, rfl, D59⟩
def Q_dot4 (Z : State) (xa : Addr) (ya : Addr) (kx : ClassId) (ky : ClassId) (xx0 : UInt64) (xx1 : UInt64) (xx2 : UInt64) (xx3 : UInt64) (yy0 : UInt64) (yy1 : UInt64) (yy2 : UInt64) (yy3 : UInt64) (ix0 : Int) (ix1 : Int) (ix2 : Int) (ix3 : Int) (jy0 : Int) (jy1 : Int) (jy2 : Int) (jy3 : Int) (h0 : Heap) (n0 : Nat) (v : Option Value) (h : Heap) (L : List Loc) : Prop := ∃ (rd : UInt64), v = some (.double rd) ∧ Fr n0 L ∧ h = h0 ∧ (own_D rd (((((0 : Int) + ix0 * jy0) + ix1 * jy1) + ix2 * jy2) + ix3 * jy3) ((((0 + 32768 * 32768) + 32768 * 32768) + 32768 * 32768) + 32768 * 32768))
set_option maxRecDepth 65536 in
set_option maxHeartbeats 40000000 in
theorem rm_dot4 (l : Launch) (Z : State) (a0 : Array Value) (hw : ∀ d ∈ tables_1, d.before a0 Z = true) (ws : List Jvm.Cond) (xa : Addr) (ya : Addr) (kx : ClassId) (ky : ClassId) (xx0 : UInt64) (xx1 : UInt64) (xx2 : UInt64) (xx3 : UInt64) (yy0 : UInt64) (yy1 : UInt64) (yy2 : UInt64) (yy3 : UInt64) (ix0 : Int) (ix1 : Int) (ix2 : Int) (ix3 : Int) (jy0 : Int) (jy1 : Int) (jy2 : Int) (jy3 : Int) (h0 : Heap) (n0 : Nat) (O0 : Old Z n0 h0) (Fi0 : Arv Z h0 xa kx .double (4 : Int32) [(.double xx0), (.double xx1), (.double xx2), (.double xx3)] (.double (0 : UInt64))) (Fi1 : Arv Z h0 ya ky .double (4 : Int32) [(.double yy0), (.double yy1), (.double yy2), (.double yy3)] (.double (0 : UInt64))) (qx0 : own_D xx0 ix0 32768) (qx1 : own_D xx1 ix1 32768) (qx2 : own_D xx2 ix2 32768) (qx3 : own_D xx3 ix3 32768) (qy0 : own_D yy0 jy0 32768) (qy1 : own_D yy1 jy1 32768) (qy2 : own_D yy2 jy2 32768) (qy3 : own_D yy3 jy3 32768) :
    MetFree l (⟨"com/example/centroid/centroid/Vectors", "dot", "([D[D)D"⟩ : MethodName) (head1 (Jvm.Cond.code (⟨"com/example/centroid/centroid/Vectors", "dot", "([D[D)D"⟩ : MethodName) prog_52_method_2_code 5 (some .double) :: ws) ({ frames := 0, cells := 0, slots := 0, locals := 0 } : Room)) (fun a U => a = #[(.ref xa), (.ref ya)] ∧ Z.Warmed39 U.vm ∧ U.heap = h0) (fun _ _ _ _ _ => True) (fun _ U o U' => ∃ v L, o = .returned v ∧ Q_dot4 Z xa ya kx ky xx0 xx1 xx2 xx3 yy0 yy1 yy2 yy3 ix0 ix1 ix2 ix3 jy0 jy1 jy2 jy3 h0 n0 v U'.heap L ∧ FrameEnd U o U' L ({ frames := 0, cells := 0, slots := 0, locals := 0 } : Room).cells ({ frames := 0, cells := 0, slots := 0, locals := 0 } : Room).slots) := by
  refine MetFree.of_bodySF (plainFor_of_name pn_3) hisR ?_
  intro p e s m args below meth c s₁ Bd hml0 hP hK
  have W := fun {d : Jvm.Cond} (i : Nat) (q : tables_1[i]? = some d) => hw d (List.mem_of_getElem? q)
  obtain ⟨rfl, hZ, hh⟩ := hP
  have hx := Bd.exec
  have hby := Bd.bytes
  have hml : c.maxLocals = 5 := hml0
  have hown : s.vm.findClass "com/example/centroid/centroid/Vectors" = some m.cls := findClass_of_methodNamed Bd.named
  have hnm := (name_of_methodNamed Bd.named Bd.method).1
  have X0 : Stand p l e ({ frames := 0, cells := 0, slots := 0, locals := 0 } : Room) s m #[(.ref xa), (.ref ya)] below meth c s₁ [] 0 0 := Stand.of_body Bd
  have e0 : s₁.heap = h0 := by rw [← hh, Bd.state]; rfl
  have N0 := Fr.nil n0
  have pre0 : ∀ t, Steps p.tables e below (s₁.setTop (mkF m 0 #[rv xa, rv ya, .unset, .unset, .unset] [])) t → Steps p.tables e below (s₁.setTop (entryFrame m #[(.ref xa), (.ref ya)] 5)) t := fun t k => castTop (ef_4 m xa ya) k
  have K0 : Keep h0 h0 [] := Keep.refl h0 []
  have pre64 : ∀ t, Steps p.tables e below (s₁.setTop (mkF m 8 #[rv xa, rv ya, .val (.double (0 : UInt64)), .second, iv (0 : Int32)] [(.ref xa), (.int (0 : Int32))])) t → Steps p.tables e below (s₁.setTop (entryFrame m #[(.ref xa), (.ref ya)] 5)) t := fun t kt => by
    refine pre0 _ ?_
    show Steps p.tables e below (s₁.setTop (mkF m 0 #[rv xa, rv ya, .unset, .unset, .unset] [])) _
    refine XS.dconst0 X0.here hx rfl (hb hby d1_0) (v := (0 : UInt64)) rfl ?_
    show Steps p.tables e below (s₁.setTop (mkF m 1 #[rv xa, rv ya, .unset, .unset, .unset] [(.double (0 : UInt64))])) _
    refine XS.dstoreN X0.here hx rfl (hb hby d1_1) rfl (l' := #[rv xa, rv ya, .val (.double (0 : UInt64)), .second, .unset]) rfl ?_
    show Steps p.tables e below (s₁.setTop (mkF m 2 #[rv xa, rv ya, .val (.double (0 : UInt64)), .second, .unset] [])) _
    refine XS.iconst X0.here hx rfl (hb hby d1_2) ?_
    show Steps p.tables e below (s₁.setTop (mkF m 3 #[rv xa, rv ya, .val (.double (0 : UInt64)), .second, .unset] [(.int (0 : Int32))])) _
    refine XS.istore X0.here hx rfl (hb hby d1_3) rfl (l' := #[rv xa, rv ya, .val (.double (0 : UInt64)), .second, iv (0 : Int32)]) rfl ?_
    show Steps p.tables e below (s₁.setTop (mkF m 5 #[rv xa, rv ya, .val (.double (0 : UInt64)), .second, iv (0 : Int32)] [])) _
    refine XS.iload X0.here hx rfl (hb hby d1_5) rfl ?_
    show Steps p.tables e below (s₁.setTop (mkF m 7 #[rv xa, rv ya, .val (.double (0 : UInt64)), .second, iv (0 : Int32)] [(.int (0 : Int32))])) _
    refine XS.aloadN X0.here hx rfl (hb hby d1_7) rfl rfl ?_
    exact kt
  obtain ⟨c63, Ar63, -, S63, M63, -, -⟩ := id Fi0
  have pre66 : ∀ t, Steps p.tables e below (s₁.setTop (mkF m 16 #[rv xa, rv ya, .val (.double (0 : UInt64)), .second, iv (0 : Int32)] [(.int (0 : Int32)), (.ref xa), (.double (0 : UInt64))])) t → Steps p.tables e below (s₁.setTop (entryFrame m #[(.ref xa), (.ref ya)] 5)) t := fun t kt => by
    refine pre64 _ ?_
    show Steps p.tables e below (s₁.setTop (mkF m 8 #[rv xa, rv ya, .val (.double (0 : UInt64)), .second, iv (0 : Int32)] [(.ref xa), (.int (0 : Int32))])) _
    refine X0.arraylength hx (by rw [e0]; exact Ar63.1) (State.isArrayOf_alike hZ.alike Ar63.2.1) (g := (mkF m 8 #[rv xa, rv ya, .val (.double (0 : UInt64)), .second, iv (0 : Int32)] [(.ref xa), (.int (0 : Int32))])) rfl rfl (hb hby d1_8) _ ?_
    rw [len_of S63 M63]
    show Steps p.tables e below (s₁.setTop (mkF m 9 #[rv xa, rv ya, .val (.double (0 : UInt64)), .second, iv (0 : Int32)] [(.int (4 : Int32)), (.int (0 : Int32))])) _
    refine XS.icmpNo X0.here hx rfl (hb hby d1_9) rfl (XT.ii_ge_f (by decide)) ?_
    show Steps p.tables e below (s₁.setTop (mkF m 12 #[rv xa, rv ya, .val (.double (0 : UInt64)), .second, iv (0 : Int32)] [])) _
    refine XS.dloadN X0.here hx rfl (hb hby d1_12) rfl ?_
    show Steps p.tables e below (s₁.setTop (mkF m 13 #[rv xa, rv ya, .val (.double (0 : UInt64)), .second, iv (0 : Int32)] [(.double (0 : UInt64))])) _
    refine XS.aloadN X0.here hx rfl (hb hby d1_13) rfl rfl ?_
    show Steps p.tables e below (s₁.setTop (mkF m 14 #[rv xa, rv ya, .val (.double (0 : UInt64)), .second, iv (0 : Int32)] [(.ref xa), (.double (0 : UInt64))])) _
    refine XS.iload X0.here hx rfl (hb hby d1_14) rfl ?_
    exact kt
  obtain ⟨c65, Ar65, q65, S65, M65, H65, G65⟩ := id Fi0
  have i65 : ¬ ((0 : Int32) < 0 ∨ c65.slots.size ≤ ((0 : Int32)).toNatClampNeg) := inb_of S65 ⟨by decide, by decide⟩
  have t65 : c65.slots[((0 : Int32)).toNatClampNeg]? = some (.double xx0) := Has.at H65 i65 rfl
  have pre68 : ∀ t, Steps p.tables e below (s₁.setTop (mkF m 20 #[rv xa, rv ya, .val (.double (0 : UInt64)), .second, iv (0 : Int32)] [(.int (0 : Int32)), (.ref ya), (.double xx0), (.double (0 : UInt64))])) t → Steps p.tables e below (s₁.setTop (entryFrame m #[(.ref xa), (.ref ya)] 5)) t := fun t kt => by
    refine pre66 _ ?_
    show Steps p.tables e below (s₁.setTop (mkF m 16 #[rv xa, rv ya, .val (.double (0 : UInt64)), .second, iv (0 : Int32)] [(.int (0 : Int32)), (.ref xa), (.double (0 : UInt64))])) _
    refine X0.daload hx (j := (0 : Int32)) (v := (.double xx0)) (by rw [e0]; exact Ar65.1) (State.isArrayOf_alike hZ.alike Ar65.2.1) Ar65.2.2 i65 t65 (g := (mkF m 16 #[rv xa, rv ya, .val (.double (0 : UInt64)), .second, iv (0 : Int32)] [(.int (0 : Int32)), (.ref xa), (.double (0 : UInt64))])) rfl rfl (hb hby d1_16) _ ?_
    show Steps p.tables e below (s₁.setTop (mkF m 17 #[rv xa, rv ya, .val (.double (0 : UInt64)), .second, iv (0 : Int32)] [(.double xx0), (.double (0 : UInt64))])) _
    refine XS.aloadN X0.here hx rfl (hb hby d1_17) rfl rfl ?_
    show Steps p.tables e below (s₁.setTop (mkF m 18 #[rv xa, rv ya, .val (.double (0 : UInt64)), .second, iv (0 : Int32)] [(.ref ya), (.double xx0), (.double (0 : UInt64))])) _
    refine XS.iload X0.here hx rfl (hb hby d1_18) rfl ?_
    exact kt
  obtain ⟨c67, Ar67, q67, S67, M67, H67, G67⟩ := id Fi1
  have i67 : ¬ ((0 : Int32) < 0 ∨ c67.slots.size ≤ ((0 : Int32)).toNatClampNeg) := inb_of S67 ⟨by decide, by decide⟩
  have t67 : c67.slots[((0 : Int32)).toNatClampNeg]? = some (.double yy0) := Has.at H67 i67 rfl
  have D69 := own_D_mul qx0 qy0 (by decide)
  have D70 := own_D_add own_D_0 D69 (by decide)
  have pre72 : ∀ t, Steps p.tables e below (s₁.setTop (mkF m 8 #[rv xa, rv ya, .val (.double (FP.dadd (0 : UInt64) (FP.dmul xx0 yy0))), .second, iv (1 : Int32)] [(.ref xa), (.int (1 : Int32))])) t → Steps p.tables e below (s₁.setTop (entryFrame m #[(.ref xa), (.ref ya)] 5)) t := fun t kt => by
    refine pre68 _ ?_
    show Steps p.tables e below (s₁.setTop (mkF m 20 #[rv xa, rv ya, .val (.double (0 : UInt64)), .second, iv (0 : Int32)] [(.int (0 : Int32)), (.ref ya), (.double xx0), (.double (0 : UInt64))])) _
    refine X0.daload hx (j := (0 : Int32)) (v := (.double yy0)) (by rw [e0]; exact Ar67.1) (State.isArrayOf_alike hZ.alike Ar67.2.1) Ar67.2.2 i67 t67 (g := (mkF m 20 #[rv xa, rv ya, .val (.double (0 : UInt64)), .second, iv (0 : Int32)] [(.int (0 : Int32)), (.ref ya), (.double xx0), (.double (0 : UInt64))])) rfl rfl (hb hby d1_20) _ ?_
    show Steps p.tables e below (s₁.setTop (mkF m 21 #[rv xa, rv ya, .val (.double (0 : UInt64)), .second, iv (0 : Int32)] [(.double yy0), (.double xx0), (.double (0 : UInt64))])) _
    refine XS.dmulS X0.here hx rfl (hb hby d1_21) rfl (own_D_nn D69) rfl ?_
    show Steps p.tables e below (s₁.setTop (mkF m 22 #[rv xa, rv ya, .val (.double (0 : UInt64)), .second, iv (0 : Int32)] [(.double (FP.dmul xx0 yy0)), (.double (0 : UInt64))])) _
    refine XS.daddS X0.here hx rfl (hb hby d1_22) rfl (own_D_nn D70) rfl ?_
    show Steps p.tables e below (s₁.setTop (mkF m 23 #[rv xa, rv ya, .val (.double (0 : UInt64)), .second, iv (0 : Int32)] [(.double (FP.dadd (0 : UInt64) (FP.dmul xx0 yy0)))])) _
    refine XS.dstoreN X0.here hx rfl (hb hby d1_23) rfl (l' := #[rv xa, rv ya, .val (.double (FP.dadd (0 : UInt64) (FP.dmul xx0 yy0))), .second, iv (0 : Int32)]) rfl ?_
    show Steps p.tables e below (s₁.setTop (mkF m 24 #[rv xa, rv ya, .val (.double (FP.dadd (0 : UInt64) (FP.dmul xx0 yy0))), .second, iv (0 : Int32)] [])) _
    refine XS.iinc X0.here hx rfl (hb hby d1_24) rfl (l' := #[rv xa, rv ya, .val (.double (FP.dadd (0 : UInt64) (FP.dmul xx0 yy0))), .second, iv ((0 : Int32) + (1 : Int32))]) rfl ?_
    show  Steps p.tables e below (s₁.setTop (mkF m 27 #[rv xa, rv ya, .val (.double (FP.dadd (0 : UInt64) (FP.dmul xx0 yy0))), .second, iv ((0 : Int32) + (1 : Int32))] [])) _
    rw [(by decide : (((0 : Int32) + (1 : Int32)) : Int32) = (1 : Int32))]
    show Steps p.tables e below (s₁.setTop (mkF m 27 #[rv xa, rv ya, .val (.double (FP.dadd (0 : UInt64) (FP.dmul xx0 yy0))), .second, iv (1 : Int32)] [])) _
    refine XS.goto X0.here hx rfl (pc0 := 27) (pc' := 5) rfl (hb hby d1_27) (by decide) (by decide) ?_
    show Steps p.tables e below (s₁.setTop (mkF m 5 #[rv xa, rv ya, .val (.double (FP.dadd (0 : UInt64) (FP.dmul xx0 yy0))), .second, iv (1 : Int32)] [])) _
    refine XS.iload X0.here hx rfl (hb hby d1_5) rfl ?_
    show Steps p.tables e below (s₁.setTop (mkF m 7 #[rv xa, rv ya, .val (.double (FP.dadd (0 : UInt64) (FP.dmul xx0 yy0))), .second, iv (1 : Int32)] [(.int (1 : Int32))])) _
    refine XS.aloadN X0.here hx rfl (hb hby d1_7) rfl rfl ?_
    exact kt
  obtain ⟨c71, Ar71, -, S71, M71, -, -⟩ := id Fi0
  have pre74 : ∀ t, Steps p.tables e below (s₁.setTop (mkF m 16 #[rv xa, rv ya, .val (.double (FP.dadd (0 : UInt64) (FP.dmul xx0 yy0))), .second, iv (1 : Int32)] [(.int (1 : Int32)), (.ref xa), (.double (FP.dadd (0 : UInt64) (FP.dmul xx0 yy0)))])) t → Steps p.tables e below (s₁.setTop (entryFrame m #[(.ref xa), (.ref ya)] 5)) t := fun t kt => by
    refine pre72 _ ?_
    show Steps p.tables e below (s₁.setTop (mkF m 8 #[rv xa, rv ya, .val (.double (FP.dadd (0 : UInt64) (FP.dmul xx0 yy0))), .second, iv (1 : Int32)] [(.ref xa), (.int (1 : Int32))])) _
    refine X0.arraylength hx (by rw [e0]; exact Ar71.1) (State.isArrayOf_alike hZ.alike Ar71.2.1) (g := (mkF m 8 #[rv xa, rv ya, .val (.double (FP.dadd (0 : UInt64) (FP.dmul xx0 yy0))), .second, iv (1 : Int32)] [(.ref xa), (.int (1 : Int32))])) rfl rfl (hb hby d1_8) _ ?_
    rw [len_of S71 M71]
    show Steps p.tables e below (s₁.setTop (mkF m 9 #[rv xa, rv ya, .val (.double (FP.dadd (0 : UInt64) (FP.dmul xx0 yy0))), .second, iv (1 : Int32)] [(.int (4 : Int32)), (.int (1 : Int32))])) _
    refine XS.icmpNo X0.here hx rfl (hb hby d1_9) rfl (XT.ii_ge_f (by decide)) ?_
    show Steps p.tables e below (s₁.setTop (mkF m 12 #[rv xa, rv ya, .val (.double (FP.dadd (0 : UInt64) (FP.dmul xx0 yy0))), .second, iv (1 : Int32)] [])) _
    refine XS.dloadN X0.here hx rfl (hb hby d1_12) rfl ?_
    show Steps p.tables e below (s₁.setTop (mkF m 13 #[rv xa, rv ya, .val (.double (FP.dadd (0 : UInt64) (FP.dmul xx0 yy0))), .second, iv (1 : Int32)] [(.double (FP.dadd (0 : UInt64) (FP.dmul xx0 yy0)))])) _
    refine XS.aloadN X0.here hx rfl (hb hby d1_13) rfl rfl ?_
    show Steps p.tables e below (s₁.setTop (mkF m 14 #[rv xa, rv ya, .val (.double (FP.dadd (0 : UInt64) (FP.dmul xx0 yy0))), .second, iv (1 : Int32)] [(.ref xa), (.double (FP.dadd (0 : UInt64) (FP.dmul xx0 yy0)))])) _
    refine XS.iload X0.here hx rfl (hb hby d1_14) rfl ?_
    exact kt
  obtain ⟨c73, Ar73, q73, S73, M73, H73, G73⟩ := id Fi0
  have i73 : ¬ ((1 : Int32) < 0 ∨ c73.slots.size ≤ ((1 : Int32)).toNatClampNeg) := inb_of S73 ⟨by decide, by decide⟩
  have t73 : c73.slots[((1 : Int32)).toNatClampNeg]? = some (.double xx1) := Has.at H73 i73 rfl
  have pre76 : ∀ t, Steps p.tables e below (s₁.setTop (mkF m 20 #[rv xa, rv ya, .val (.double (FP.dadd (0 : UInt64) (FP.dmul xx0 yy0))), .second, iv (1 : Int32)] [(.int (1 : Int32)), (.ref ya), (.double xx1), (.double (FP.dadd (0 : UInt64) (FP.dmul xx0 yy0)))])) t → Steps p.tables e below (s₁.setTop (entryFrame m #[(.ref xa), (.ref ya)] 5)) t := fun t kt => by
    refine pre74 _ ?_
    show Steps p.tables e below (s₁.setTop (mkF m 16 #[rv xa, rv ya, .val (.double (FP.dadd (0 : UInt64) (FP.dmul xx0 yy0))), .second, iv (1 : Int32)] [(.int (1 : Int32)), (.ref xa), (.double (FP.dadd (0 : UInt64) (FP.dmul xx0 yy0)))])) _
    refine X0.daload hx (j := (1 : Int32)) (v := (.double xx1)) (by rw [e0]; exact Ar73.1) (State.isArrayOf_alike hZ.alike Ar73.2.1) Ar73.2.2 i73 t73 (g := (mkF m 16 #[rv xa, rv ya, .val (.double (FP.dadd (0 : UInt64) (FP.dmul xx0 yy0))), .second, iv (1 : Int32)] [(.int (1 : Int32)), (.ref xa), (.double (FP.dadd (0 : UInt64) (FP.dmul xx0 yy0)))])) rfl rfl (hb hby d1_16) _ ?_
    show Steps p.tables e below (s₁.setTop (mkF m 17 #[rv xa, rv ya, .val (.double (FP.dadd (0 : UInt64) (FP.dmul xx0 yy0))), .second, iv (1 : Int32)] [(.double xx1), (.double (FP.dadd (0 : UInt64) (FP.dmul xx0 yy0)))])) _
    refine XS.aloadN X0.here hx rfl (hb hby d1_17) rfl rfl ?_
    show Steps p.tables e below (s₁.setTop (mkF m 18 #[rv xa, rv ya, .val (.double (FP.dadd (0 : UInt64) (FP.dmul xx0 yy0))), .second, iv (1 : Int32)] [(.ref ya), (.double xx1), (.double (FP.dadd (0 : UInt64) (FP.dmul xx0 yy0)))])) _
    refine XS.iload X0.here hx rfl (hb hby d1_18) rfl ?_
    exact kt
  obtain ⟨c75, Ar75, q75, S75, M75, H75, G75⟩ := id Fi1
  have i75 : ¬ ((1 : Int32) < 0 ∨ c75.slots.size ≤ ((1 : Int32)).toNatClampNeg) := inb_of S75 ⟨by decide, by decide⟩
  have t75 : c75.slots[((1 : Int32)).toNatClampNeg]? = some (.double yy1) := Has.at H75 i75 rfl
  have D77 := own_D_mul qx1 qy1 (by decide)
  have D78 := own_D_add D70 D77 (by decide)
  have pre80 : ∀ t, Steps p.tables e below (s₁.setTop (mkF m 8 #[rv xa, rv ya, .val (.double (FP.dadd (FP.dadd (0 : UInt64) (FP.dmul xx0 yy0)) (FP.dmul xx1 yy1))), .second, iv (2 : Int32)] [(.ref xa), (.int (2 : Int32))])) t → Steps p.tables e below (s₁.setTop (entryFrame m #[(.ref xa), (.ref ya)] 5)) t := fun t kt => by
    refine pre76 _ ?_
    show Steps p.tables e below (s₁.setTop (mkF m 20 #[rv xa, rv ya, .val (.double (FP.dadd (0 : UInt64) (FP.dmul xx0 yy0))), .second, iv (1 : Int32)] [(.int (1 : Int32)), (.ref ya), (.double xx1), (.double (FP.dadd (0 : UInt64) (FP.dmul xx0 yy0)))])) _
    refine X0.daload hx (j := (1 : Int32)) (v := (.double yy1)) (by rw [e0]; exact Ar75.1) (State.isArrayOf_alike hZ.alike Ar75.2.1) Ar75.2.2 i75 t75 (g := (mkF m 20 #[rv xa, rv ya, .val (.double (FP.dadd (0 : UInt64) (FP.dmul xx0 yy0))), .second, iv (1 : Int32)] [(.int (1 : Int32)), (.ref ya), (.double xx1), (.double (FP.dadd (0 : UInt64) (FP.dmul xx0 yy0)))])) rfl rfl (hb hby d1_20) _ ?_
    show Steps p.tables e below (s₁.setTop (mkF m 21 #[rv xa, rv ya, .val (.double (FP.dadd (0 : UInt64) (FP.dmul xx0 yy0))), .second, iv (1 : Int32)] [(.double yy1), (.double xx1), (.double (FP.dadd (0 : UInt64) (FP.dmul xx0 yy0)))])) _
    refine XS.dmulS X0.here hx rfl (hb hby d1_21) rfl (own_D_nn D77) rfl ?_
    show Steps p.tables e below (s₁.setTop (mkF m 22 #[rv xa, rv ya, .val (.double (FP.dadd (0 : UInt64) (FP.dmul xx0 yy0))), .second, iv (1 : Int32)] [(.double (FP.dmul xx1 yy1)), (.double (FP.dadd (0 : UInt64) (FP.dmul xx0 yy0)))])) _
    refine XS.daddS X0.here hx rfl (hb hby d1_22) rfl (own_D_nn D78) rfl ?_
    show Steps p.tables e below (s₁.setTop (mkF m 23 #[rv xa, rv ya, .val (.double (FP.dadd (0 : UInt64) (FP.dmul xx0 yy0))), .second, iv (1 : Int32)] [(.double (FP.dadd (FP.dadd (0 : UInt64) (FP.dmul xx0 yy0)) (FP.dmul xx1 yy1)))])) _
    refine XS.dstoreN X0.here hx rfl (hb hby d1_23) rfl (l' := #[rv xa, rv ya, .val (.double (FP.dadd (FP.dadd (0 : UInt64) (FP.dmul xx0 yy0)) (FP.dmul xx1 yy1))), .second, iv (1 : Int32)]) rfl ?_
    show Steps p.tables e below (s₁.setTop (mkF m 24 #[rv xa, rv ya, .val (.double (FP.dadd (FP.dadd (0 : UInt64) (FP.dmul xx0 yy0)) (FP.dmul xx1 yy1))), .second, iv (1 : Int32)] [])) _
    refine XS.iinc X0.here hx rfl (hb hby d1_24) rfl (l' := #[rv xa, rv ya, .val (.double (FP.dadd (FP.dadd (0 : UInt64) (FP.dmul xx0 yy0)) (FP.dmul xx1 yy1))), .second, iv ((1 : Int32) + (1 : Int32))]) rfl ?_
    show  Steps p.tables e below (s₁.setTop (mkF m 27 #[rv xa, rv ya, .val (.double (FP.dadd (FP.dadd (0 : UInt64) (FP.dmul xx0 yy0)) (FP.dmul xx1 yy1))), .second, iv ((1 : Int32) + (1 : Int32))] [])) _
    rw [(by decide : (((1 : Int32) + (1 : Int32)) : Int32) = (2 : Int32))]
    show Steps p.tables e below (s₁.setTop (mkF m 27 #[rv xa, rv ya, .val (.double (FP.dadd (FP.dadd (0 : UInt64) (FP.dmul xx0 yy0)) (FP.dmul xx1 yy1))), .second, iv (2 : Int32)] [])) _
    refine XS.goto X0.here hx rfl (pc0 := 27) (pc' := 5) rfl (hb hby d1_27) (by decide) (by decide) ?_
    show Steps p.tables e below (s₁.setTop (mkF m 5 #[rv xa, rv ya, .val (.double (FP.dadd (FP.dadd (0 : UInt64) (FP.dmul xx0 yy0)) (FP.dmul xx1 yy1))), .second, iv (2 : Int32)] [])) _
    refine XS.iload X0.here hx rfl (hb hby d1_5) rfl ?_
    show Steps p.tables e below (s₁.setTop (mkF m 7 #[rv xa, rv ya, .val (.double (FP.dadd (FP.dadd (0 : UInt64) (FP.dmul xx0 yy0)) (FP.dmul xx1 yy1))), .second, iv (2 : Int32)] [(.int (2 : Int32))])) _
    refine XS.aloadN X0.here hx rfl (hb hby d1_7) rfl rfl ?_
    exact kt
  obtain ⟨c79, Ar79, -, S79, M79, -, -⟩ := id Fi0
  have pre82 : ∀ t, Steps p.tables e below (s₁.setTop (mkF m 16 #[rv xa, rv ya, .val (.double (FP.dadd (FP.dadd (0 : UInt64) (FP.dmul xx0 yy0)) (FP.dmul xx1 yy1))), .second, iv (2 : Int32)] [(.int (2 : Int32)), (.ref xa), (.double (FP.dadd (FP.dadd (0 : UInt64) (FP.dmul xx0 yy0)) (FP.dmul xx1 yy1)))])) t → Steps p.tables e below (s₁.setTop (entryFrame m #[(.ref xa), (.ref ya)] 5)) t := fun t kt => by
    refine pre80 _ ?_
    show Steps p.tables e below (s₁.setTop (mkF m 8 #[rv xa, rv ya, .val (.double (FP.dadd (FP.dadd (0 : UInt64) (FP.dmul xx0 yy0)) (FP.dmul xx1 yy1))), .second, iv (2 : Int32)] [(.ref xa), (.int (2 : Int32))])) _
    refine X0.arraylength hx (by rw [e0]; exact Ar79.1) (State.isArrayOf_alike hZ.alike Ar79.2.1) (g := (mkF m 8 #[rv xa, rv ya, .val (.double (FP.dadd (FP.dadd (0 : UInt64) (FP.dmul xx0 yy0)) (FP.dmul xx1 yy1))), .second, iv (2 : Int32)] [(.ref xa), (.int (2 : Int32))])) rfl rfl (hb hby d1_8) _ ?_
    rw [len_of S79 M79]
    show Steps p.tables e below (s₁.setTop (mkF m 9 #[rv xa, rv ya, .val (.double (FP.dadd (FP.dadd (0 : UInt64) (FP.dmul xx0 yy0)) (FP.dmul xx1 yy1))), .second, iv (2 : Int32)] [(.int (4 : Int32)), (.int (2 : Int32))])) _
    refine XS.icmpNo X0.here hx rfl (hb hby d1_9) rfl (XT.ii_ge_f (by decide)) ?_
    show Steps p.tables e below (s₁.setTop (mkF m 12 #[rv xa, rv ya, .val (.double (FP.dadd (FP.dadd (0 : UInt64) (FP.dmul xx0 yy0)) (FP.dmul xx1 yy1))), .second, iv (2 : Int32)] [])) _
    refine XS.dloadN X0.here hx rfl (hb hby d1_12) rfl ?_
    show Steps p.tables e below (s₁.setTop (mkF m 13 #[rv xa, rv ya, .val (.double (FP.dadd (FP.dadd (0 : UInt64) (FP.dmul xx0 yy0)) (FP.dmul xx1 yy1))), .second, iv (2 : Int32)] [(.double (FP.dadd (FP.dadd (0 : UInt64) (FP.dmul xx0 yy0)) (FP.dmul xx1 yy1)))])) _
    refine XS.aloadN X0.here hx rfl (hb hby d1_13) rfl rfl ?_
    show Steps p.tables e below (s₁.setTop (mkF m 14 #[rv xa, rv ya, .val (.double (FP.dadd (FP.dadd (0 : UInt64) (FP.dmul xx0 yy0)) (FP.dmul xx1 yy1))), .second, iv (2 : Int32)] [(.ref xa), (.double (FP.dadd (FP.dadd (0 : UInt64) (FP.dmul xx0 yy0)) (FP.dmul xx1 yy1)))])) _
    refine XS.iload X0.here hx rfl (hb hby d1_14) rfl ?_
    exact kt
  obtain ⟨c81, Ar81, q81, S81, M81, H81, G81⟩ := id Fi0
  have i81 : ¬ ((2 : Int32) < 0 ∨ c81.slots.size ≤ ((2 : Int32)).toNatClampNeg) := inb_of S81 ⟨by decide, by decide⟩
  have t81 : c81.slots[((2 : Int32)).toNatClampNeg]? = some (.double xx2) := Has.at H81 i81 rfl
  have pre84 : ∀ t, Steps p.tables e below (s₁.setTop (mkF m 20 #[rv xa, rv ya, .val (.double (FP.dadd (FP.dadd (0 : UInt64) (FP.dmul xx0 yy0)) (FP.dmul xx1 yy1))), .second, iv (2 : Int32)] [(.int (2 : Int32)), (.ref ya), (.double xx2), (.double (FP.dadd (FP.dadd (0 : UInt64) (FP.dmul xx0 yy0)) (FP.dmul xx1 yy1)))])) t → Steps p.tables e below (s₁.setTop (entryFrame m #[(.ref xa), (.ref ya)] 5)) t := fun t kt => by
    refine pre82 _ ?_
    show Steps p.tables e below (s₁.setTop (mkF m 16 #[rv xa, rv ya, .val (.double (FP.dadd (FP.dadd (0 : UInt64) (FP.dmul xx0 yy0)) (FP.dmul xx1 yy1))), .second, iv (2 : Int32)] [(.int (2 : Int32)), (.ref xa), (.double (FP.dadd (FP.dadd (0 : UInt64) (FP.dmul xx0 yy0)) (FP.dmul xx1 yy1)))])) _
    refine X0.daload hx (j := (2 : Int32)) (v := (.double xx2)) (by rw [e0]; exact Ar81.1) (State.isArrayOf_alike hZ.alike Ar81.2.1) Ar81.2.2 i81 t81 (g := (mkF m 16 #[rv xa, rv ya, .val (.double (FP.dadd (FP.dadd (0 : UInt64) (FP.dmul xx0 yy0)) (FP.dmul xx1 yy1))), .second, iv (2 : Int32)] [(.int (2 : Int32)), (.ref xa), (.double (FP.dadd (FP.dadd (0 : UInt64) (FP.dmul xx0 yy0)) (FP.dmul xx1 yy1)))])) rfl rfl (hb hby d1_16) _ ?_
    show Steps p.tables e below (s₁.setTop (mkF m 17 #[rv xa, rv ya, .val (.double (FP.dadd (FP.dadd (0 : UInt64) (FP.dmul xx0 yy0)) (FP.dmul xx1 yy1))), .second, iv (2 : Int32)] [(.double xx2), (.double (FP.dadd (FP.dadd (0 : UInt64) (FP.dmul xx0 yy0)) (FP.dmul xx1 yy1)))])) _
    refine XS.aloadN X0.here hx rfl (hb hby d1_17) rfl rfl ?_
    show Steps p.tables e below (s₁.setTop (mkF m 18 #[rv xa, rv ya, .val (.double (FP.dadd (FP.dadd (0 : UInt64) (FP.dmul xx0 yy0)) (FP.dmul xx1 yy1))), .second, iv (2 : Int32)] [(.ref ya), (.double xx2), (.double (FP.dadd (FP.dadd (0 : UInt64) (FP.dmul xx0 yy0)) (FP.dmul xx1 yy1)))])) _
    refine XS.iload X0.here hx rfl (hb hby d1_18) rfl ?_
    exact kt
  obtain ⟨c83, Ar83, q83, S83, M83, H83, G83⟩ := id Fi1
  have i83 : ¬ ((2 : Int32) < 0 ∨ c83.slots.size ≤ ((2 : Int32)).toNatClampNeg) := inb_of S83 ⟨by decide, by decide⟩
  have t83 : c83.slots[((2 : Int32)).toNatClampNeg]? = some (.double yy2) := Has.at H83 i83 rfl
  have D85 := own_D_mul qx2 qy2 (by decide)
  have D86 := own_D_add D78 D85 (by decide)
  have pre88 : ∀ t, Steps p.tables e below (s₁.setTop (mkF m 8 #[rv xa, rv ya, .val (.double (FP.dadd (FP.dadd (FP.dadd (0 : UInt64) (FP.dmul xx0 yy0)) (FP.dmul xx1 yy1)) (FP.dmul xx2 yy2))), .second, iv (3 : Int32)] [(.ref xa), (.int (3 : Int32))])) t → Steps p.tables e below (s₁.setTop (entryFrame m #[(.ref xa), (.ref ya)] 5)) t := fun t kt => by
    refine pre84 _ ?_
    show Steps p.tables e below (s₁.setTop (mkF m 20 #[rv xa, rv ya, .val (.double (FP.dadd (FP.dadd (0 : UInt64) (FP.dmul xx0 yy0)) (FP.dmul xx1 yy1))), .second, iv (2 : Int32)] [(.int (2 : Int32)), (.ref ya), (.double xx2), (.double (FP.dadd (FP.dadd (0 : UInt64) (FP.dmul xx0 yy0)) (FP.dmul xx1 yy1)))])) _
    refine X0.daload hx (j := (2 : Int32)) (v := (.double yy2)) (by rw [e0]; exact Ar83.1) (State.isArrayOf_alike hZ.alike Ar83.2.1) Ar83.2.2 i83 t83 (g := (mkF m 20 #[rv xa, rv ya, .val (.double (FP.dadd (FP.dadd (0 : UInt64) (FP.dmul xx0 yy0)) (FP.dmul xx1 yy1))), .second, iv (2 : Int32)] [(.int (2 : Int32)), (.ref ya), (.double xx2), (.double (FP.dadd (FP.dadd (0 : UInt64) (FP.dmul xx0 yy0)) (FP.dmul xx1 yy1)))])) rfl rfl (hb hby d1_20) _ ?_
    show Steps p.tables e below (s₁.setTop (mkF m 21 #[rv xa, rv ya, .val (.double (FP.dadd (FP.dadd (0 : UInt64) (FP.dmul xx0 yy0)) (FP.dmul xx1 yy1))), .second, iv (2 : Int32)] [(.double yy2), (.double xx2), (.double (FP.dadd (FP.dadd (0 : UInt64) (FP.dmul xx0 yy0)) (FP.dmul xx1 yy1)))])) _
    refine XS.dmulS X0.here hx rfl (hb hby d1_21) rfl (own_D_nn D85) rfl ?_
    show Steps p.tables e below (s₁.setTop (mkF m 22 #[rv xa, rv ya, .val (.double (FP.dadd (FP.dadd (0 : UInt64) (FP.dmul xx0 yy0)) (FP.dmul xx1 yy1))), .second, iv (2 : Int32)] [(.double (FP.dmul xx2 yy2)), (.double (FP.dadd (FP.dadd (0 : UInt64) (FP.dmul xx0 yy0)) (FP.dmul xx1 yy1)))])) _
    refine XS.daddS X0.here hx rfl (hb hby d1_22) rfl (own_D_nn D86) rfl ?_
    show Steps p.tables e below (s₁.setTop (mkF m 23 #[rv xa, rv ya, .val (.double (FP.dadd (FP.dadd (0 : UInt64) (FP.dmul xx0 yy0)) (FP.dmul xx1 yy1))), .second, iv (2 : Int32)] [(.double (FP.dadd (FP.dadd (FP.dadd (0 : UInt64) (FP.dmul xx0 yy0)) (FP.dmul xx1 yy1)) (FP.dmul xx2 yy2)))])) _
    refine XS.dstoreN X0.here hx rfl (hb hby d1_23) rfl (l' := #[rv xa, rv ya, .val (.double (FP.dadd (FP.dadd (FP.dadd (0 : UInt64) (FP.dmul xx0 yy0)) (FP.dmul xx1 yy1)) (FP.dmul xx2 yy2))), .second, iv (2 : Int32)]) rfl ?_
    show Steps p.tables e below (s₁.setTop (mkF m 24 #[rv xa, rv ya, .val (.double (FP.dadd (FP.dadd (FP.dadd (0 : UInt64) (FP.dmul xx0 yy0)) (FP.dmul xx1 yy1)) (FP.dmul xx2 yy2))), .second, iv (2 : Int32)] [])) _
    refine XS.iinc X0.here hx rfl (hb hby d1_24) rfl (l' := #[rv xa, rv ya, .val (.double (FP.dadd (FP.dadd (FP.dadd (0 : UInt64) (FP.dmul xx0 yy0)) (FP.dmul xx1 yy1)) (FP.dmul xx2 yy2))), .second, iv ((2 : Int32) + (1 : Int32))]) rfl ?_
    show  Steps p.tables e below (s₁.setTop (mkF m 27 #[rv xa, rv ya, .val (.double (FP.dadd (FP.dadd (FP.dadd (0 : UInt64) (FP.dmul xx0 yy0)) (FP.dmul xx1 yy1)) (FP.dmul xx2 yy2))), .second, iv ((2 : Int32) + (1 : Int32))] [])) _
    rw [(by decide : (((2 : Int32) + (1 : Int32)) : Int32) = (3 : Int32))]
    show Steps p.tables e below (s₁.setTop (mkF m 27 #[rv xa, rv ya, .val (.double (FP.dadd (FP.dadd (FP.dadd (0 : UInt64) (FP.dmul xx0 yy0)) (FP.dmul xx1 yy1)) (FP.dmul xx2 yy2))), .second, iv (3 : Int32)] [])) _
    refine XS.goto X0.here hx rfl (pc0 := 27) (pc' := 5) rfl (hb hby d1_27) (by decide) (by decide) ?_
    show Steps p.tables e below (s₁.setTop (mkF m 5 #[rv xa, rv ya, .val (.double (FP.dadd (FP.dadd (FP.dadd (0 : UInt64) (FP.dmul xx0 yy0)) (FP.dmul xx1 yy1)) (FP.dmul xx2 yy2))), .second, iv (3 : Int32)] [])) _
    refine XS.iload X0.here hx rfl (hb hby d1_5) rfl ?_
    show Steps p.tables e below (s₁.setTop (mkF m 7 #[rv xa, rv ya, .val (.double (FP.dadd (FP.dadd (FP.dadd (0 : UInt64) (FP.dmul xx0 yy0)) (FP.dmul xx1 yy1)) (FP.dmul xx2 yy2))), .second, iv (3 : Int32)] [(.int (3 : Int32))])) _
    refine XS.aloadN X0.here hx rfl (hb hby d1_7) rfl rfl ?_
    exact kt
  obtain ⟨c87, Ar87, -, S87, M87, -, -⟩ := id Fi0
  have pre90 : ∀ t, Steps p.tables e below (s₁.setTop (mkF m 16 #[rv xa, rv ya, .val (.double (FP.dadd (FP.dadd (FP.dadd (0 : UInt64) (FP.dmul xx0 yy0)) (FP.dmul xx1 yy1)) (FP.dmul xx2 yy2))), .second, iv (3 : Int32)] [(.int (3 : Int32)), (.ref xa), (.double (FP.dadd (FP.dadd (FP.dadd (0 : UInt64) (FP.dmul xx0 yy0)) (FP.dmul xx1 yy1)) (FP.dmul xx2 yy2)))])) t → Steps p.tables e below (s₁.setTop (entryFrame m #[(.ref xa), (.ref ya)] 5)) t := fun t kt => by
    refine pre88 _ ?_
    show Steps p.tables e below (s₁.setTop (mkF m 8 #[rv xa, rv ya, .val (.double (FP.dadd (FP.dadd (FP.dadd (0 : UInt64) (FP.dmul xx0 yy0)) (FP.dmul xx1 yy1)) (FP.dmul xx2 yy2))), .second, iv (3 : Int32)] [(.ref xa), (.int (3 : Int32))])) _
    refine X0.arraylength hx (by rw [e0]; exact Ar87.1) (State.isArrayOf_alike hZ.alike Ar87.2.1) (g := (mkF m 8 #[rv xa, rv ya, .val (.double (FP.dadd (FP.dadd (FP.dadd (0 : UInt64) (FP.dmul xx0 yy0)) (FP.dmul xx1 yy1)) (FP.dmul xx2 yy2))), .second, iv (3 : Int32)] [(.ref xa), (.int (3 : Int32))])) rfl rfl (hb hby d1_8) _ ?_
    rw [len_of S87 M87]
    show Steps p.tables e below (s₁.setTop (mkF m 9 #[rv xa, rv ya, .val (.double (FP.dadd (FP.dadd (FP.dadd (0 : UInt64) (FP.dmul xx0 yy0)) (FP.dmul xx1 yy1)) (FP.dmul xx2 yy2))), .second, iv (3 : Int32)] [(.int (4 : Int32)), (.int (3 : Int32))])) _
    refine XS.icmpNo X0.here hx rfl (hb hby d1_9) rfl (XT.ii_ge_f (by decide)) ?_
    show Steps p.tables e below (s₁.setTop (mkF m 12 #[rv xa, rv ya, .val (.double (FP.dadd (FP.dadd (FP.dadd (0 : UInt64) (FP.dmul xx0 yy0)) (FP.dmul xx1 yy1)) (FP.dmul xx2 yy2))), .second, iv (3 : Int32)] [])) _
    refine XS.dloadN X0.here hx rfl (hb hby d1_12) rfl ?_
    show Steps p.tables e below (s₁.setTop (mkF m 13 #[rv xa, rv ya, .val (.double (FP.dadd (FP.dadd (FP.dadd (0 : UInt64) (FP.dmul xx0 yy0)) (FP.dmul xx1 yy1)) (FP.dmul xx2 yy2))), .second, iv (3 : Int32)] [(.double (FP.dadd (FP.dadd (FP.dadd (0 : UInt64) (FP.dmul xx0 yy0)) (FP.dmul xx1 yy1)) (FP.dmul xx2 yy2)))])) _
    refine XS.aloadN X0.here hx rfl (hb hby d1_13) rfl rfl ?_
    show Steps p.tables e below (s₁.setTop (mkF m 14 #[rv xa, rv ya, .val (.double (FP.dadd (FP.dadd (FP.dadd (0 : UInt64) (FP.dmul xx0 yy0)) (FP.dmul xx1 yy1)) (FP.dmul xx2 yy2))), .second, iv (3 : Int32)] [(.ref xa), (.double (FP.dadd (FP.dadd (FP.dadd (0 : UInt64) (FP.dmul xx0 yy0)) (FP.dmul xx1 yy1)) (FP.dmul xx2 yy2)))])) _
    refine XS.iload X0.here hx rfl (hb hby d1_14) rfl ?_
    exact kt
  obtain ⟨c89, Ar89, q89, S89, M89, H89, G89⟩ := id Fi0
  have i89 : ¬ ((3 : Int32) < 0 ∨ c89.slots.size ≤ ((3 : Int32)).toNatClampNeg) := inb_of S89 ⟨by decide, by decide⟩
  have t89 : c89.slots[((3 : Int32)).toNatClampNeg]? = some (.double xx3) := Has.at H89 i89 rfl
  have pre92 : ∀ t, Steps p.tables e below (s₁.setTop (mkF m 20 #[rv xa, rv ya, .val (.double (FP.dadd (FP.dadd (FP.dadd (0 : UInt64) (FP.dmul xx0 yy0)) (FP.dmul xx1 yy1)) (FP.dmul xx2 yy2))), .second, iv (3 : Int32)] [(.int (3 : Int32)), (.ref ya), (.double xx3), (.double (FP.dadd (FP.dadd (FP.dadd (0 : UInt64) (FP.dmul xx0 yy0)) (FP.dmul xx1 yy1)) (FP.dmul xx2 yy2)))])) t → Steps p.tables e below (s₁.setTop (entryFrame m #[(.ref xa), (.ref ya)] 5)) t := fun t kt => by
    refine pre90 _ ?_
    show Steps p.tables e below (s₁.setTop (mkF m 16 #[rv xa, rv ya, .val (.double (FP.dadd (FP.dadd (FP.dadd (0 : UInt64) (FP.dmul xx0 yy0)) (FP.dmul xx1 yy1)) (FP.dmul xx2 yy2))), .second, iv (3 : Int32)] [(.int (3 : Int32)), (.ref xa), (.double (FP.dadd (FP.dadd (FP.dadd (0 : UInt64) (FP.dmul xx0 yy0)) (FP.dmul xx1 yy1)) (FP.dmul xx2 yy2)))])) _
    refine X0.daload hx (j := (3 : Int32)) (v := (.double xx3)) (by rw [e0]; exact Ar89.1) (State.isArrayOf_alike hZ.alike Ar89.2.1) Ar89.2.2 i89 t89 (g := (mkF m 16 #[rv xa, rv ya, .val (.double (FP.dadd (FP.dadd (FP.dadd (0 : UInt64) (FP.dmul xx0 yy0)) (FP.dmul xx1 yy1)) (FP.dmul xx2 yy2))), .second, iv (3 : Int32)] [(.int (3 : Int32)), (.ref xa), (.double (FP.dadd (FP.dadd (FP.dadd (0 : UInt64) (FP.dmul xx0 yy0)) (FP.dmul xx1 yy1)) (FP.dmul xx2 yy2)))])) rfl rfl (hb hby d1_16) _ ?_
    show Steps p.tables e below (s₁.setTop (mkF m 17 #[rv xa, rv ya, .val (.double (FP.dadd (FP.dadd (FP.dadd (0 : UInt64) (FP.dmul xx0 yy0)) (FP.dmul xx1 yy1)) (FP.dmul xx2 yy2))), .second, iv (3 : Int32)] [(.double xx3), (.double (FP.dadd (FP.dadd (FP.dadd (0 : UInt64) (FP.dmul xx0 yy0)) (FP.dmul xx1 yy1)) (FP.dmul xx2 yy2)))])) _
    refine XS.aloadN X0.here hx rfl (hb hby d1_17) rfl rfl ?_
    show Steps p.tables e below (s₁.setTop (mkF m 18 #[rv xa, rv ya, .val (.double (FP.dadd (FP.dadd (FP.dadd (0 : UInt64) (FP.dmul xx0 yy0)) (FP.dmul xx1 yy1)) (FP.dmul xx2 yy2))), .second, iv (3 : Int32)] [(.ref ya), (.double xx3), (.double (FP.dadd (FP.dadd (FP.dadd (0 : UInt64) (FP.dmul xx0 yy0)) (FP.dmul xx1 yy1)) (FP.dmul xx2 yy2)))])) _
    refine XS.iload X0.here hx rfl (hb hby d1_18) rfl ?_
    exact kt
  obtain ⟨c91, Ar91, q91, S91, M91, H91, G91⟩ := id Fi1
  have i91 : ¬ ((3 : Int32) < 0 ∨ c91.slots.size ≤ ((3 : Int32)).toNatClampNeg) := inb_of S91 ⟨by decide, by decide⟩
  have t91 : c91.slots[((3 : Int32)).toNatClampNeg]? = some (.double yy3) := Has.at H91 i91 rfl
  have D93 := own_D_mul qx3 qy3 (by decide)
  have D94 := own_D_add D86 D93 (by decide)
  have pre96 : ∀ t, Steps p.tables e below (s₁.setTop (mkF m 8 #[rv xa, rv ya, .val (.double (FP.dadd (FP.dadd (FP.dadd (FP.dadd (0 : UInt64) (FP.dmul xx0 yy0)) (FP.dmul xx1 yy1)) (FP.dmul xx2 yy2)) (FP.dmul xx3 yy3))), .second, iv (4 : Int32)] [(.ref xa), (.int (4 : Int32))])) t → Steps p.tables e below (s₁.setTop (entryFrame m #[(.ref xa), (.ref ya)] 5)) t := fun t kt => by
    refine pre92 _ ?_
    show Steps p.tables e below (s₁.setTop (mkF m 20 #[rv xa, rv ya, .val (.double (FP.dadd (FP.dadd (FP.dadd (0 : UInt64) (FP.dmul xx0 yy0)) (FP.dmul xx1 yy1)) (FP.dmul xx2 yy2))), .second, iv (3 : Int32)] [(.int (3 : Int32)), (.ref ya), (.double xx3), (.double (FP.dadd (FP.dadd (FP.dadd (0 : UInt64) (FP.dmul xx0 yy0)) (FP.dmul xx1 yy1)) (FP.dmul xx2 yy2)))])) _
    refine X0.daload hx (j := (3 : Int32)) (v := (.double yy3)) (by rw [e0]; exact Ar91.1) (State.isArrayOf_alike hZ.alike Ar91.2.1) Ar91.2.2 i91 t91 (g := (mkF m 20 #[rv xa, rv ya, .val (.double (FP.dadd (FP.dadd (FP.dadd (0 : UInt64) (FP.dmul xx0 yy0)) (FP.dmul xx1 yy1)) (FP.dmul xx2 yy2))), .second, iv (3 : Int32)] [(.int (3 : Int32)), (.ref ya), (.double xx3), (.double (FP.dadd (FP.dadd (FP.dadd (0 : UInt64) (FP.dmul xx0 yy0)) (FP.dmul xx1 yy1)) (FP.dmul xx2 yy2)))])) rfl rfl (hb hby d1_20) _ ?_
    show Steps p.tables e below (s₁.setTop (mkF m 21 #[rv xa, rv ya, .val (.double (FP.dadd (FP.dadd (FP.dadd (0 : UInt64) (FP.dmul xx0 yy0)) (FP.dmul xx1 yy1)) (FP.dmul xx2 yy2))), .second, iv (3 : Int32)] [(.double yy3), (.double xx3), (.double (FP.dadd (FP.dadd (FP.dadd (0 : UInt64) (FP.dmul xx0 yy0)) (FP.dmul xx1 yy1)) (FP.dmul xx2 yy2)))])) _
    refine XS.dmulS X0.here hx rfl (hb hby d1_21) rfl (own_D_nn D93) rfl ?_
    show Steps p.tables e below (s₁.setTop (mkF m 22 #[rv xa, rv ya, .val (.double (FP.dadd (FP.dadd (FP.dadd (0 : UInt64) (FP.dmul xx0 yy0)) (FP.dmul xx1 yy1)) (FP.dmul xx2 yy2))), .second, iv (3 : Int32)] [(.double (FP.dmul xx3 yy3)), (.double (FP.dadd (FP.dadd (FP.dadd (0 : UInt64) (FP.dmul xx0 yy0)) (FP.dmul xx1 yy1)) (FP.dmul xx2 yy2)))])) _
    refine XS.daddS X0.here hx rfl (hb hby d1_22) rfl (own_D_nn D94) rfl ?_
    show Steps p.tables e below (s₁.setTop (mkF m 23 #[rv xa, rv ya, .val (.double (FP.dadd (FP.dadd (FP.dadd (0 : UInt64) (FP.dmul xx0 yy0)) (FP.dmul xx1 yy1)) (FP.dmul xx2 yy2))), .second, iv (3 : Int32)] [(.double (FP.dadd (FP.dadd (FP.dadd (FP.dadd (0 : UInt64) (FP.dmul xx0 yy0)) (FP.dmul xx1 yy1)) (FP.dmul xx2 yy2)) (FP.dmul xx3 yy3)))])) _
    refine XS.dstoreN X0.here hx rfl (hb hby d1_23) rfl (l' := #[rv xa, rv ya, .val (.double (FP.dadd (FP.dadd (FP.dadd (FP.dadd (0 : UInt64) (FP.dmul xx0 yy0)) (FP.dmul xx1 yy1)) (FP.dmul xx2 yy2)) (FP.dmul xx3 yy3))), .second, iv (3 : Int32)]) rfl ?_
    show Steps p.tables e below (s₁.setTop (mkF m 24 #[rv xa, rv ya, .val (.double (FP.dadd (FP.dadd (FP.dadd (FP.dadd (0 : UInt64) (FP.dmul xx0 yy0)) (FP.dmul xx1 yy1)) (FP.dmul xx2 yy2)) (FP.dmul xx3 yy3))), .second, iv (3 : Int32)] [])) _
    refine XS.iinc X0.here hx rfl (hb hby d1_24) rfl (l' := #[rv xa, rv ya, .val (.double (FP.dadd (FP.dadd (FP.dadd (FP.dadd (0 : UInt64) (FP.dmul xx0 yy0)) (FP.dmul xx1 yy1)) (FP.dmul xx2 yy2)) (FP.dmul xx3 yy3))), .second, iv ((3 : Int32) + (1 : Int32))]) rfl ?_
    show  Steps p.tables e below (s₁.setTop (mkF m 27 #[rv xa, rv ya, .val (.double (FP.dadd (FP.dadd (FP.dadd (FP.dadd (0 : UInt64) (FP.dmul xx0 yy0)) (FP.dmul xx1 yy1)) (FP.dmul xx2 yy2)) (FP.dmul xx3 yy3))), .second, iv ((3 : Int32) + (1 : Int32))] [])) _
    rw [(by decide : (((3 : Int32) + (1 : Int32)) : Int32) = (4 : Int32))]
    show Steps p.tables e below (s₁.setTop (mkF m 27 #[rv xa, rv ya, .val (.double (FP.dadd (FP.dadd (FP.dadd (FP.dadd (0 : UInt64) (FP.dmul xx0 yy0)) (FP.dmul xx1 yy1)) (FP.dmul xx2 yy2)) (FP.dmul xx3 yy3))), .second, iv (4 : Int32)] [])) _
    refine XS.goto X0.here hx rfl (pc0 := 27) (pc' := 5) rfl (hb hby d1_27) (by decide) (by decide) ?_
    show Steps p.tables e below (s₁.setTop (mkF m 5 #[rv xa, rv ya, .val (.double (FP.dadd (FP.dadd (FP.dadd (FP.dadd (0 : UInt64) (FP.dmul xx0 yy0)) (FP.dmul xx1 yy1)) (FP.dmul xx2 yy2)) (FP.dmul xx3 yy3))), .second, iv (4 : Int32)] [])) _
    refine XS.iload X0.here hx rfl (hb hby d1_5) rfl ?_
    show Steps p.tables e below (s₁.setTop (mkF m 7 #[rv xa, rv ya, .val (.double (FP.dadd (FP.dadd (FP.dadd (FP.dadd (0 : UInt64) (FP.dmul xx0 yy0)) (FP.dmul xx1 yy1)) (FP.dmul xx2 yy2)) (FP.dmul xx3 yy3))), .second, iv (4 : Int32)] [(.int (4 : Int32))])) _
    refine XS.aloadN X0.here hx rfl (hb hby d1_7) rfl rfl ?_
    exact kt
  obtain ⟨c95, Ar95, -, S95, M95, -, -⟩ := id Fi0
  have pre97 : ∀ t, Steps p.tables e below (s₁.setTop (mkF m 31 #[rv xa, rv ya, .val (.double (FP.dadd (FP.dadd (FP.dadd (FP.dadd (0 : UInt64) (FP.dmul xx0 yy0)) (FP.dmul xx1 yy1)) (FP.dmul xx2 yy2)) (FP.dmul xx3 yy3))), .second, iv (4 : Int32)] [(.double (FP.dadd (FP.dadd (FP.dadd (FP.dadd (0 : UInt64) (FP.dmul xx0 yy0)) (FP.dmul xx1 yy1)) (FP.dmul xx2 yy2)) (FP.dmul xx3 yy3)))])) t → Steps p.tables e below (s₁.setTop (entryFrame m #[(.ref xa), (.ref ya)] 5)) t := fun t kt => by
    refine pre96 _ ?_
    show Steps p.tables e below (s₁.setTop (mkF m 8 #[rv xa, rv ya, .val (.double (FP.dadd (FP.dadd (FP.dadd (FP.dadd (0 : UInt64) (FP.dmul xx0 yy0)) (FP.dmul xx1 yy1)) (FP.dmul xx2 yy2)) (FP.dmul xx3 yy3))), .second, iv (4 : Int32)] [(.ref xa), (.int (4 : Int32))])) _
    refine X0.arraylength hx (by rw [e0]; exact Ar95.1) (State.isArrayOf_alike hZ.alike Ar95.2.1) (g := (mkF m 8 #[rv xa, rv ya, .val (.double (FP.dadd (FP.dadd (FP.dadd (FP.dadd (0 : UInt64) (FP.dmul xx0 yy0)) (FP.dmul xx1 yy1)) (FP.dmul xx2 yy2)) (FP.dmul xx3 yy3))), .second, iv (4 : Int32)] [(.ref xa), (.int (4 : Int32))])) rfl rfl (hb hby d1_8) _ ?_
    rw [len_of S95 M95]
    show Steps p.tables e below (s₁.setTop (mkF m 9 #[rv xa, rv ya, .val (.double (FP.dadd (FP.dadd (FP.dadd (FP.dadd (0 : UInt64) (FP.dmul xx0 yy0)) (FP.dmul xx1 yy1)) (FP.dmul xx2 yy2)) (FP.dmul xx3 yy3))), .second, iv (4 : Int32)] [(.int (4 : Int32)), (.int (4 : Int32))])) _
    refine XS.icmpYes X0.here hx rfl (pc0 := 9) (pc' := 30) rfl (hb hby d1_9) rfl (XT.ii_ge_t (by decide)) (by decide) (by decide) ?_
    show Steps p.tables e below (s₁.setTop (mkF m 30 #[rv xa, rv ya, .val (.double (FP.dadd (FP.dadd (FP.dadd (FP.dadd (0 : UInt64) (FP.dmul xx0 yy0)) (FP.dmul xx1 yy1)) (FP.dmul xx2 yy2)) (FP.dmul xx3 yy3))), .second, iv (4 : Int32)] [])) _
    refine XS.dloadN X0.here hx rfl (hb hby d1_30) rfl ?_
    exact kt
  obtain ⟨fs, hr, hrun, hended, hW, hsame⟩ := X0.leave (v := some (.double (FP.dadd (FP.dadd (FP.dadd (FP.dadd (0 : UInt64) (FP.dmul xx0 yy0)) (FP.dmul xx1 yy1)) (FP.dmul xx2 yy2)) (FP.dmul xx3 yy3)))) (fun h => by rw [Bd.returns] at h; cases h)
  refine ⟨_, _, pre97 _ (own_retD X0 hx Bd.returns (hb hby d1_31) hr), hrun, hended, _, _, rfl, ?_, ⟨_, rfl⟩, hW, hsame.mono (by decide) (by decide)⟩
  show Q_dot4 Z xa ya kx ky xx0 xx1 xx2 xx3 yy0 yy1 yy2 yy3 ix0 ix1 ix2 ix3 jy0 jy1 jy2 jy3 h0 n0 _ s₁.heap _
  rw [e0]
  exact ⟨(FP.dadd (FP.dadd (FP.dadd (FP.dadd (0 : UInt64) (FP.dmul xx0 yy0)) (FP.dmul xx1 yy1)) (FP.dmul xx2 yy2)) (FP.dmul xx3 yy3)), rfl, N0, rfl, D94⟩
theorem ef_5 (m : MethodId) (x0 : Int32) (x1 : Int32) (x2 : Int32) (x3 : Int32) (x4 : Int32) : entryFrame m #[(.int x0), (.int x1), (.int x2), (.int x3), (.int x4)] maxLocals = mkF m 0 #[.val (.int x0), .val (.int x1), .val (.int x2), .val (.int x3), .val (.int x4), .unset, .unset, .unset, .unset, .unset, .unset, .unset] [] := by first | (simp [entryFrame, mkF, argsToLocals, Value.category, maxLocals]; done) | rfl
theorem pd_6 : parseMethodDescriptor "([D[D)D" = some ⟨[(.array .double), (.array .double)], some .double⟩ := by decide +kernel
theorem pd_7 : parseMethodDescriptor "(I)I" = some ⟨[.int], some .int⟩ := by decide +kernel
def Q_law (Z : State) (p0 : Int32) (p1 : Int32) (p2 : Int32) (p3 : Int32) (p4 : Int32) (h0 : Heap) (n0 : Nat) (v : Option Value) (h : Heap) (L : List Loc) : Prop := v = some (.int (1 : Int32)) ∧ Fr n0 L
set_option maxRecDepth 65536 in
set_option maxHeartbeats 40000000 in
theorem rm_law (l : Launch) (Z : State) (a0 : Array Value) (hw : ∀ d ∈ tables_1, d.before a0 Z = true) (ws : List Jvm.Cond) (p0 : Int32) (p1 : Int32) (p2 : Int32) (p3 : Int32) (p4 : Int32) (h0 : Heap) (n0 : Nat) (O0 : Old Z n0 h0) :
    MetFree l x (head1 (Jvm.Cond.code x code maxLocals ret :: ws) room_1) (fun a U => a = #[(.int p0), (.int p1), (.int p2), (.int p3), (.int p4)] ∧ Z.Warmed39 U.vm ∧ U.heap = h0) (fun _ _ _ _ _ => True) (fun _ U o U' => ∃ v L, o = .returned v ∧ Q_law Z p0 p1 p2 p3 p4 h0 n0 v U'.heap L ∧ FrameEnd U o U' L room_1.cells room_1.slots) := by
  refine MetFree.of_bodySF (plainFor_of_name pn_0) hisR ?_
  intro p e s m args below meth c s₁ Bd hml0 hP hK
  have W := fun {d : Jvm.Cond} (i : Nat) (q : tables_1[i]? = some d) => hw d (List.mem_of_getElem? q)
  obtain ⟨rfl, hZ, hh⟩ := hP
  have hx := Bd.exec
  have hby := Bd.bytes
  have hml : c.maxLocals = 12 := hml0
  have hown : s.vm.findClass "com/example/centroid/centroid/VectorsDotPinLaw" = some m.cls := findClass_of_methodNamed Bd.named
  have hnm := (name_of_methodNamed Bd.named Bd.method).1
  have X0 : Stand p l e room_1 s m #[(.int p0), (.int p1), (.int p2), (.int p3), (.int p4)] below meth c s₁ [] 0 0 := Stand.of_body Bd
  have e0 : s₁.heap = h0 := by rw [← hh, Bd.state]; rfl
  have N0 := Fr.nil n0
  have pre0 : ∀ t, Steps p.tables e below (s₁.setTop (mkF m 0 #[iv p0, iv p1, iv p2, iv p3, iv p4, .unset, .unset, .unset, .unset, .unset, .unset, .unset] [])) t → Steps p.tables e below (s₁.setTop (entryFrame m #[(.int p0), (.int p1), (.int p2), (.int p3), (.int p4)] maxLocals)) t := fun t k => castTop (ef_5 m p0 p1 p2 p3 p4) k
  have K0 : Keep h0 h0 [] := Keep.refl h0 []
  have pre98 : ∀ t, Steps p.tables e below (s₁.setTop (mkF m 8 #[iv p0, iv p1, iv p2, iv p3, iv p4, iv ((p0 &&& (7 : Int32)) - ((p0 &&& (7 : Int32)) / (5 : Int32)) * (5 : Int32)), .unset, .unset, .unset, .unset, .unset, .unset] [])) t → Steps p.tables e below (s₁.setTop (entryFrame m #[(.int p0), (.int p1), (.int p2), (.int p3), (.int p4)] maxLocals)) t := fun t kt => by
    refine pre0 _ ?_
    show Steps p.tables e below (s₁.setTop (mkF m 0 #[iv p0, iv p1, iv p2, iv p3, iv p4, .unset, .unset, .unset, .unset, .unset, .unset, .unset] [])) _
    refine XS.iloadN X0.here hx rfl (hb hby at_0) rfl ?_
    show Steps p.tables e below (s₁.setTop (mkF m 1 #[iv p0, iv p1, iv p2, iv p3, iv p4, .unset, .unset, .unset, .unset, .unset, .unset, .unset] [(.int p0)])) _
    refine XS.bipush X0.here hx rfl (hb hby at_1) ?_
    show Steps p.tables e below (s₁.setTop (mkF m 3 #[iv p0, iv p1, iv p2, iv p3, iv p4, .unset, .unset, .unset, .unset, .unset, .unset, .unset] [(.int (7 : Int32)), (.int p0)])) _
    refine XS.iand X0.here hx rfl (hb hby at_3) rfl ?_
    show Steps p.tables e below (s₁.setTop (mkF m 4 #[iv p0, iv p1, iv p2, iv p3, iv p4, .unset, .unset, .unset, .unset, .unset, .unset, .unset] [(.int (p0 &&& (7 : Int32)))])) _
    refine XS.iconst X0.here hx rfl (hb hby at_4) ?_
    show Steps p.tables e below (s₁.setTop (mkF m 5 #[iv p0, iv p1, iv p2, iv p3, iv p4, .unset, .unset, .unset, .unset, .unset, .unset, .unset] [(.int (5 : Int32)), (.int (p0 &&& (7 : Int32)))])) _
    refine XS.irem X0.here hx rfl (hb hby at_5) rfl (by decide) ?_
    show Steps p.tables e below (s₁.setTop (mkF m 6 #[iv p0, iv p1, iv p2, iv p3, iv p4, .unset, .unset, .unset, .unset, .unset, .unset, .unset] [(.int ((p0 &&& (7 : Int32)) - ((p0 &&& (7 : Int32)) / (5 : Int32)) * (5 : Int32)))])) _
    refine XS.istore X0.here hx rfl (hb hby at_6) rfl (l' := #[iv p0, iv p1, iv p2, iv p3, iv p4, iv ((p0 &&& (7 : Int32)) - ((p0 &&& (7 : Int32)) / (5 : Int32)) * (5 : Int32)), .unset, .unset, .unset, .unset, .unset, .unset]) rfl ?_
    exact kt
  rcases own_r75 p0 with hv99 | hv99 | hv99 | hv99 | hv99
  · rw [hv99] at pre98
    have pre100 : ∀ t, Steps p.tables e below (s₁.setTop (mkF m 10 #[iv p0, iv p1, iv p2, iv p3, iv p4, iv (0 : Int32), .unset, .unset, .unset, .unset, .unset, .unset] [(.int (0 : Int32))])) t → Steps p.tables e below (s₁.setTop (entryFrame m #[(.int p0), (.int p1), (.int p2), (.int p3), (.int p4)] maxLocals)) t := fun t kt => by
      refine pre98 _ ?_
      show Steps p.tables e below (s₁.setTop (mkF m 8 #[iv p0, iv p1, iv p2, iv p3, iv p4, iv (0 : Int32), .unset, .unset, .unset, .unset, .unset, .unset] [])) _
      refine XS.iload X0.here hx rfl (hb hby at_8) rfl ?_
      exact kt
    obtain ⟨T101, h101, k101, X101, e101, E101, A101, B101, st101⟩ := newPE X0 hx hZ (W 0 rfl) e0 (g := (mkF m 10 #[iv p0, iv p1, iv p2, iv p3, iv p4, iv (0 : Int32), .unset, .unset, .unset, .unset, .unset, .unset] [(.int (0 : Int32))])) rfl (hb hby at_10) rfl (by decide) (cap := 0) (by decide) (by decide) (by decide) (by decide) (ad := "[D") (by decide)
    obtain ⟨b101, g101⟩ : ∃ z, z = h0.size := ⟨_, rfl⟩
    rw [← g101] at A101 B101 st101
    have pre102 : ∀ t, Steps p.tables e below (T101.setTop (mkF m 12 #[iv p0, iv p1, iv p2, iv p3, iv p4, iv (0 : Int32), .unset, .unset, .unset, .unset, .unset, .unset] [(.ref b101)])) t → Steps p.tables e below (s₁.setTop (entryFrame m #[(.int p0), (.int p1), (.int p2), (.int p3), (.int p4)] maxLocals)) t := fun t kt => pre100 _ (st101 _ kt)
    have O101 := O0.ext E101
    have K101 : Keep h0 h101 [] := K0.ext E101
    have g_b101 : n0 ≤ b101 := Nat.le_trans (Nat.le_trans (Nat.le_of_eq O0.1.symm) O0.2.1) (Nat.le_of_eq g101.symm)
    have sz_b101 : h0.size ≤ b101 := Nat.le_trans K0.1 (Nat.le_of_eq g101.symm)
    have F103 : Exa Z h101 b101 "[D" := B101
    have F104 : Arv Z h101 b101 k101 .double (0 : Int32) [] (.double (0 : UInt64)) := (Arv.new A101 (by decide)).pad (pad_rep [] (.double (0 : UInt64)) 0)
    have pre105 : ∀ t, Steps p.tables e below (T101.setTop (mkF m 16 #[iv p0, iv p1, iv p2, iv p3, iv p4, iv (0 : Int32), rv b101, .unset, .unset, .unset, .unset, .unset] [(.int (0 : Int32))])) t → Steps p.tables e below (s₁.setTop (entryFrame m #[(.int p0), (.int p1), (.int p2), (.int p3), (.int p4)] maxLocals)) t := fun t kt => by
      refine pre102 _ ?_
      show Steps p.tables e below (T101.setTop (mkF m 12 #[iv p0, iv p1, iv p2, iv p3, iv p4, iv (0 : Int32), .unset, .unset, .unset, .unset, .unset, .unset] [(.ref b101)])) _
      refine XS.astore X101.here hx rfl (hb hby at_12) rfl rfl (l' := #[iv p0, iv p1, iv p2, iv p3, iv p4, iv (0 : Int32), rv b101, .unset, .unset, .unset, .unset, .unset]) rfl ?_
      show Steps p.tables e below (T101.setTop (mkF m 14 #[iv p0, iv p1, iv p2, iv p3, iv p4, iv (0 : Int32), rv b101, .unset, .unset, .unset, .unset, .unset] [])) _
      refine XS.iload X101.here hx rfl (hb hby at_14) rfl ?_
      exact kt
    obtain ⟨T106, h106, k106, X106, e106, E106, A106, B106, st106⟩ := newPE X101 hx hZ (W 0 rfl) e101 (g := (mkF m 16 #[iv p0, iv p1, iv p2, iv p3, iv p4, iv (0 : Int32), rv b101, .unset, .unset, .unset, .unset, .unset] [(.int (0 : Int32))])) rfl (hb hby at_16) rfl (by decide) (cap := 0) (by decide) (by decide) (by decide) (by decide) (ad := "[D") (by decide)
    obtain ⟨b106, g106⟩ : ∃ z, z = h101.size := ⟨_, rfl⟩
    rw [← g106] at A106 B106 st106
    have pre107 : ∀ t, Steps p.tables e below (T106.setTop (mkF m 18 #[iv p0, iv p1, iv p2, iv p3, iv p4, iv (0 : Int32), rv b101, .unset, .unset, .unset, .unset, .unset] [(.ref b106)])) t → Steps p.tables e below (s₁.setTop (entryFrame m #[(.int p0), (.int p1), (.int p2), (.int p3), (.int p4)] maxLocals)) t := fun t kt => pre105 _ (st106 _ kt)
    have O106 := O101.ext E106
    have K106 : Keep h0 h106 [] := K101.ext E106
    have F108 := F103.ext E106
    have F109 := F104.ext E106
    have g_b106 : n0 ≤ b106 := Nat.le_trans (Nat.le_trans (Nat.le_of_eq O101.1.symm) O101.2.1) (Nat.le_of_eq g106.symm)
    have sz_b106 : h0.size ≤ b106 := Nat.le_trans K101.1 (Nat.le_of_eq g106.symm)
    have ne_b101_b106 : b101 ≠ b106 := Nat.ne_of_lt (Nat.lt_of_lt_of_le F103.lt (Nat.le_of_eq g106.symm))
    have F110 : Exa Z h106 b106 "[D" := B106
    have F111 : Arv Z h106 b106 k106 .double (0 : Int32) [] (.double (0 : UInt64)) := (Arv.new A106 (by decide)).pad (pad_rep [] (.double (0 : UInt64)) 0)
    have pre112 : ∀ t, Steps p.tables e below (T106.setTop (mkF m 190 #[iv p0, iv p1, iv p2, iv p3, iv p4, iv (0 : Int32), rv b101, rv b106, .val (.long (0 : Int64)), .second, .unset, .unset] [(.ref b106), (.ref b101)])) t → Steps p.tables e below (s₁.setTop (entryFrame m #[(.int p0), (.int p1), (.int p2), (.int p3), (.int p4)] maxLocals)) t := fun t kt => by
      refine pre107 _ ?_
      show Steps p.tables e below (T106.setTop (mkF m 18 #[iv p0, iv p1, iv p2, iv p3, iv p4, iv (0 : Int32), rv b101, .unset, .unset, .unset, .unset, .unset] [(.ref b106)])) _
      refine XS.astore X106.here hx rfl (hb hby at_18) rfl rfl (l' := #[iv p0, iv p1, iv p2, iv p3, iv p4, iv (0 : Int32), rv b101, rv b106, .unset, .unset, .unset, .unset]) rfl ?_
      show Steps p.tables e below (T106.setTop (mkF m 20 #[iv p0, iv p1, iv p2, iv p3, iv p4, iv (0 : Int32), rv b101, rv b106, .unset, .unset, .unset, .unset] [])) _
      refine XS.lconst X106.here hx rfl (hb hby at_20) ?_
      show Steps p.tables e below (T106.setTop (mkF m 21 #[iv p0, iv p1, iv p2, iv p3, iv p4, iv (0 : Int32), rv b101, rv b106, .unset, .unset, .unset, .unset] [(.long (0 : Int64))])) _
      refine XS.lstore X106.here hx rfl (hb hby at_21) rfl (l' := #[iv p0, iv p1, iv p2, iv p3, iv p4, iv (0 : Int32), rv b101, rv b106, .val (.long (0 : Int64)), .second, .unset, .unset]) rfl ?_
      show Steps p.tables e below (T106.setTop (mkF m 23 #[iv p0, iv p1, iv p2, iv p3, iv p4, iv (0 : Int32), rv b101, rv b106, .val (.long (0 : Int64)), .second, .unset, .unset] [])) _
      refine XS.iload X106.here hx rfl (hb hby at_23) rfl ?_
      show Steps p.tables e below (T106.setTop (mkF m 25 #[iv p0, iv p1, iv p2, iv p3, iv p4, iv (0 : Int32), rv b101, rv b106, .val (.long (0 : Int64)), .second, .unset, .unset] [(.int (0 : Int32))])) _
      refine XS.ifYes X106.here hx rfl (pc0 := 25) (pc' := 62) rfl (hb hby at_25) rfl (XT.i0_le_t (by decide)) (by decide) (by decide) ?_
      show Steps p.tables e below (T106.setTop (mkF m 62 #[iv p0, iv p1, iv p2, iv p3, iv p4, iv (0 : Int32), rv b101, rv b106, .val (.long (0 : Int64)), .second, .unset, .unset] [])) _
      refine XS.iload X106.here hx rfl (hb hby at_62) rfl ?_
      show Steps p.tables e below (T106.setTop (mkF m 64 #[iv p0, iv p1, iv p2, iv p3, iv p4, iv (0 : Int32), rv b101, rv b106, .val (.long (0 : Int64)), .second, .unset, .unset] [(.int (0 : Int32))])) _
      refine XS.iconst X106.here hx rfl (hb hby at_64) ?_
      show Steps p.tables e below (T106.setTop (mkF m 65 #[iv p0, iv p1, iv p2, iv p3, iv p4, iv (0 : Int32), rv b101, rv b106, .val (.long (0 : Int64)), .second, .unset, .unset] [(.int (1 : Int32)), (.int (0 : Int32))])) _
      refine XS.icmpYes X106.here hx rfl (pc0 := 65) (pc' := 102) rfl (hb hby at_65) rfl (XT.ii_le_t (by decide)) (by decide) (by decide) ?_
      show Steps p.tables e below (T106.setTop (mkF m 102 #[iv p0, iv p1, iv p2, iv p3, iv p4, iv (0 : Int32), rv b101, rv b106, .val (.long (0 : Int64)), .second, .unset, .unset] [])) _
      refine XS.iload X106.here hx rfl (hb hby at_102) rfl ?_
      show Steps p.tables e below (T106.setTop (mkF m 104 #[iv p0, iv p1, iv p2, iv p3, iv p4, iv (0 : Int32), rv b101, rv b106, .val (.long (0 : Int64)), .second, .unset, .unset] [(.int (0 : Int32))])) _
      refine XS.iconst X106.here hx rfl (hb hby at_104) ?_
      show Steps p.tables e below (T106.setTop (mkF m 105 #[iv p0, iv p1, iv p2, iv p3, iv p4, iv (0 : Int32), rv b101, rv b106, .val (.long (0 : Int64)), .second, .unset, .unset] [(.int (2 : Int32)), (.int (0 : Int32))])) _
      refine XS.icmpYes X106.here hx rfl (pc0 := 105) (pc' := 142) rfl (hb hby at_105) rfl (XT.ii_le_t (by decide)) (by decide) (by decide) ?_
      show Steps p.tables e below (T106.setTop (mkF m 142 #[iv p0, iv p1, iv p2, iv p3, iv p4, iv (0 : Int32), rv b101, rv b106, .val (.long (0 : Int64)), .second, .unset, .unset] [])) _
      refine XS.iload X106.here hx rfl (hb hby at_142) rfl ?_
      show Steps p.tables e below (T106.setTop (mkF m 144 #[iv p0, iv p1, iv p2, iv p3, iv p4, iv (0 : Int32), rv b101, rv b106, .val (.long (0 : Int64)), .second, .unset, .unset] [(.int (0 : Int32))])) _
      refine XS.iconst X106.here hx rfl (hb hby at_144) ?_
      show Steps p.tables e below (T106.setTop (mkF m 145 #[iv p0, iv p1, iv p2, iv p3, iv p4, iv (0 : Int32), rv b101, rv b106, .val (.long (0 : Int64)), .second, .unset, .unset] [(.int (3 : Int32)), (.int (0 : Int32))])) _
      refine XS.icmpYes X106.here hx rfl (pc0 := 145) (pc' := 186) rfl (hb hby at_145) rfl (XT.ii_le_t (by decide)) (by decide) (by decide) ?_
      show Steps p.tables e below (T106.setTop (mkF m 186 #[iv p0, iv p1, iv p2, iv p3, iv p4, iv (0 : Int32), rv b101, rv b106, .val (.long (0 : Int64)), .second, .unset, .unset] [])) _
      refine XS.aload X106.here hx rfl (hb hby at_186) rfl rfl ?_
      show Steps p.tables e below (T106.setTop (mkF m 188 #[iv p0, iv p1, iv p2, iv p3, iv p4, iv (0 : Int32), rv b101, rv b106, .val (.long (0 : Int64)), .second, .unset, .unset] [(.ref b101)])) _
      refine XS.aload X106.here hx rfl (hb hby at_188) rfl rfl ?_
      exact kt
    obtain ⟨_, _, ⟨T113, L113, k113, n113⟩, -, X113, ⟨Lc113, hQ113, l113, y113, z113⟩, st113⟩ := Jvm.LawKit.callS X106 hx (y := (⟨"com/example/centroid/centroid/Vectors", "dot", "([D[D)D"⟩ : MethodName)) hown (mvT hZ (W 1 rfl)) (mvT hZ (W 2 rfl)) (mvT hZ (W 3 rfl)) (mvT hZ (W 4 rfl)) (by decide) (backOf (W := 0) (rm_dot0 l Z a0 hw [] b101 b106 k101 k106 h106 n0 O106 F109 F111) hZ (W 4 rfl) (W 3 rfl) (by decide) (by decide)) (g := (mkF m 190 #[iv p0, iv p1, iv p2, iv p3, iv p4, iv (0 : Int32), rv b101, rv b106, .val (.long (0 : Int64)), .second, .unset, .unset] [(.ref b106), (.ref b101)])) rfl (by rw [hml]; rfl) (argsL := [(.ref b101), (.ref b106)]) (rest := []) (lenOf pd_6 rfl) rfl (by show 2 * 0 + _ ≤ _; exact Nat.le_of_eq rfl) (hb hby at_190) (fun _ _ => ⟨rfl, e106, (by decide : 2 + 0 ≤ _), (by decide : 0 + 0 ≤ _)⟩)
    dsimp only [Pt.U, Pt.locs, Pt.cells, Pt.slots] at X113 l113 y113 z113 st113 hQ113
    replace l113 := l113.symm
    replace y113 : 2 = k113 := y113.symm
    replace z113 : 0 = n113 := z113.symm
    subst l113 y113 z113
    obtain ⟨rd_113, rfl, M113, e113, P113_0⟩ := hQ113
    have N113 := Fr.app N0 M113
    have pre114 : ∀ t, Steps p.tables e below (T113.setTop (mkF m 193 #[iv p0, iv p1, iv p2, iv p3, iv p4, iv (0 : Int32), rv b101, rv b106, .val (.long (0 : Int64)), .second, .unset, .unset] [(.double rd_113)])) t → Steps p.tables e below (s₁.setTop (entryFrame m #[(.int p0), (.int p1), (.int p2), (.int p3), (.int p4)] maxLocals)) t := fun t kt => pre112 _ (st113 _ kt)
    have pre115 : ∀ t, Steps p.tables e below (T113.setTop (mkF m 209 #[iv p0, iv p1, iv p2, iv p3, iv p4, iv (0 : Int32), rv b101, rv b106, .val (.long (0 : Int64)), .second, .val (.double rd_113), .second] [(.int (1 : Int32))])) t → Steps p.tables e below (s₁.setTop (entryFrame m #[(.int p0), (.int p1), (.int p2), (.int p3), (.int p4)] maxLocals)) t := fun t kt => by
      refine pre114 _ ?_
      show Steps p.tables e below (T113.setTop (mkF m 193 #[iv p0, iv p1, iv p2, iv p3, iv p4, iv (0 : Int32), rv b101, rv b106, .val (.long (0 : Int64)), .second, .unset, .unset] [(.double rd_113)])) _
      refine XS.dstore X113.here hx rfl (hb hby at_193) rfl (l' := #[iv p0, iv p1, iv p2, iv p3, iv p4, iv (0 : Int32), rv b101, rv b106, .val (.long (0 : Int64)), .second, .val (.double rd_113), .second]) rfl ?_
      show Steps p.tables e below (T113.setTop (mkF m 195 #[iv p0, iv p1, iv p2, iv p3, iv p4, iv (0 : Int32), rv b101, rv b106, .val (.long (0 : Int64)), .second, .val (.double rd_113), .second] [])) _
      refine XS.dload X113.here hx rfl (hb hby at_195) rfl ?_
      show Steps p.tables e below (T113.setTop (mkF m 197 #[iv p0, iv p1, iv p2, iv p3, iv p4, iv (0 : Int32), rv b101, rv b106, .val (.long (0 : Int64)), .second, .val (.double rd_113), .second] [(.double rd_113)])) _
      refine XS.lload X113.here hx rfl (hb hby at_197) rfl ?_
      show Steps p.tables e below (T113.setTop (mkF m 199 #[iv p0, iv p1, iv p2, iv p3, iv p4, iv (0 : Int32), rv b101, rv b106, .val (.long (0 : Int64)), .second, .val (.double rd_113), .second] [(.long (0 : Int64)), (.double rd_113)])) _
      refine XS.l2dS X113.here hx rfl (hb hby at_199) rfl rfl ?_
      show Steps p.tables e below (T113.setTop (mkF m 200 #[iv p0, iv p1, iv p2, iv p3, iv p4, iv (0 : Int32), rv b101, rv b106, .val (.long (0 : Int64)), .second, .val (.double rd_113), .second] [(.double (FP.l2d (0 : Int64))), (.double rd_113)])) _
      refine XS.dcmpS X113.here hx rfl (hb hby at_200) rfl (v := (0 : Int32)) (own_D_cmp P113_0 (own_LD own_L_0 (by decide)) _) ?_
      show Steps p.tables e below (T113.setTop (mkF m 201 #[iv p0, iv p1, iv p2, iv p3, iv p4, iv (0 : Int32), rv b101, rv b106, .val (.long (0 : Int64)), .second, .val (.double rd_113), .second] [(.int (0 : Int32))])) _
      refine XS.ifNo X113.here hx rfl (hb hby at_201) rfl (XT.i0_ne_f (by decide)) ?_
      show Steps p.tables e below (T113.setTop (mkF m 204 #[iv p0, iv p1, iv p2, iv p3, iv p4, iv (0 : Int32), rv b101, rv b106, .val (.long (0 : Int64)), .second, .val (.double rd_113), .second] [])) _
      refine XS.iconst X113.here hx rfl (hb hby at_204) ?_
      show Steps p.tables e below (T113.setTop (mkF m 205 #[iv p0, iv p1, iv p2, iv p3, iv p4, iv (0 : Int32), rv b101, rv b106, .val (.long (0 : Int64)), .second, .val (.double rd_113), .second] [(.int (1 : Int32))])) _
      refine XS.goto X113.here hx rfl (pc0 := 205) (pc' := 209) rfl (hb hby at_205) (by decide) (by decide) ?_
      exact kt
    obtain ⟨fs, hr, hrun, hended, hW, hsame⟩ := X113.leave (v := some (.int (1 : Int32))) (fun h => by rw [Bd.returns] at h; cases h)
    refine ⟨_, _, pre115 _ (retN X113 hx (t := .boolean) Bd.returns (by simp) (hb hby at_209) hr), hrun, hended, _, _, rfl, ?_, ⟨_, rfl⟩, hW, hsame.mono (by decide) (by decide)⟩
    show Q_law Z p0 p1 p2 p3 p4 h0 n0 _ T113.heap _
    rw [e113]
    exact ⟨rfl, N113⟩
  · rw [hv99] at pre98
    have pre116 : ∀ t, Steps p.tables e below (s₁.setTop (mkF m 10 #[iv p0, iv p1, iv p2, iv p3, iv p4, iv (1 : Int32), .unset, .unset, .unset, .unset, .unset, .unset] [(.int (1 : Int32))])) t → Steps p.tables e below (s₁.setTop (entryFrame m #[(.int p0), (.int p1), (.int p2), (.int p3), (.int p4)] maxLocals)) t := fun t kt => by
      refine pre98 _ ?_
      show Steps p.tables e below (s₁.setTop (mkF m 8 #[iv p0, iv p1, iv p2, iv p3, iv p4, iv (1 : Int32), .unset, .unset, .unset, .unset, .unset, .unset] [])) _
      refine XS.iload X0.here hx rfl (hb hby at_8) rfl ?_
      exact kt
    obtain ⟨T117, h117, k117, X117, e117, E117, A117, B117, st117⟩ := newPE X0 hx hZ (W 0 rfl) e0 (g := (mkF m 10 #[iv p0, iv p1, iv p2, iv p3, iv p4, iv (1 : Int32), .unset, .unset, .unset, .unset, .unset, .unset] [(.int (1 : Int32))])) rfl (hb hby at_10) rfl (by decide) (cap := 1) (by decide) (by decide) (by decide) (by decide) (ad := "[D") (by decide)
    obtain ⟨b117, g117⟩ : ∃ z, z = h0.size := ⟨_, rfl⟩
    rw [← g117] at A117 B117 st117
    have pre118 : ∀ t, Steps p.tables e below (T117.setTop (mkF m 12 #[iv p0, iv p1, iv p2, iv p3, iv p4, iv (1 : Int32), .unset, .unset, .unset, .unset, .unset, .unset] [(.ref b117)])) t → Steps p.tables e below (s₁.setTop (entryFrame m #[(.int p0), (.int p1), (.int p2), (.int p3), (.int p4)] maxLocals)) t := fun t kt => pre116 _ (st117 _ kt)
    have O117 := O0.ext E117
    have K117 : Keep h0 h117 [] := K0.ext E117
    have g_b117 : n0 ≤ b117 := Nat.le_trans (Nat.le_trans (Nat.le_of_eq O0.1.symm) O0.2.1) (Nat.le_of_eq g117.symm)
    have sz_b117 : h0.size ≤ b117 := Nat.le_trans K0.1 (Nat.le_of_eq g117.symm)
    have F119 : Exa Z h117 b117 "[D" := B117
    have F120 : Arv Z h117 b117 k117 .double (1 : Int32) [(.double (0 : UInt64))] (.double (0 : UInt64)) := (Arv.new A117 (by decide)).pad (pad_rep [] (.double (0 : UInt64)) 1)
    have pre121 : ∀ t, Steps p.tables e below (T117.setTop (mkF m 16 #[iv p0, iv p1, iv p2, iv p3, iv p4, iv (1 : Int32), rv b117, .unset, .unset, .unset, .unset, .unset] [(.int (1 : Int32))])) t → Steps p.tables e below (s₁.setTop (entryFrame m #[(.int p0), (.int p1), (.int p2), (.int p3), (.int p4)] maxLocals)) t := fun t kt => by
      refine pre118 _ ?_
      show Steps p.tables e below (T117.setTop (mkF m 12 #[iv p0, iv p1, iv p2, iv p3, iv p4, iv (1 : Int32), .unset, .unset, .unset, .unset, .unset, .unset] [(.ref b117)])) _
      refine XS.astore X117.here hx rfl (hb hby at_12) rfl rfl (l' := #[iv p0, iv p1, iv p2, iv p3, iv p4, iv (1 : Int32), rv b117, .unset, .unset, .unset, .unset, .unset]) rfl ?_
      show Steps p.tables e below (T117.setTop (mkF m 14 #[iv p0, iv p1, iv p2, iv p3, iv p4, iv (1 : Int32), rv b117, .unset, .unset, .unset, .unset, .unset] [])) _
      refine XS.iload X117.here hx rfl (hb hby at_14) rfl ?_
      exact kt
    obtain ⟨T122, h122, k122, X122, e122, E122, A122, B122, st122⟩ := newPE X117 hx hZ (W 0 rfl) e117 (g := (mkF m 16 #[iv p0, iv p1, iv p2, iv p3, iv p4, iv (1 : Int32), rv b117, .unset, .unset, .unset, .unset, .unset] [(.int (1 : Int32))])) rfl (hb hby at_16) rfl (by decide) (cap := 1) (by decide) (by decide) (by decide) (by decide) (ad := "[D") (by decide)
    obtain ⟨b122, g122⟩ : ∃ z, z = h117.size := ⟨_, rfl⟩
    rw [← g122] at A122 B122 st122
    have pre123 : ∀ t, Steps p.tables e below (T122.setTop (mkF m 18 #[iv p0, iv p1, iv p2, iv p3, iv p4, iv (1 : Int32), rv b117, .unset, .unset, .unset, .unset, .unset] [(.ref b122)])) t → Steps p.tables e below (s₁.setTop (entryFrame m #[(.int p0), (.int p1), (.int p2), (.int p3), (.int p4)] maxLocals)) t := fun t kt => pre121 _ (st122 _ kt)
    have O122 := O117.ext E122
    have K122 : Keep h0 h122 [] := K117.ext E122
    have F124 := F119.ext E122
    have F125 := F120.ext E122
    have g_b122 : n0 ≤ b122 := Nat.le_trans (Nat.le_trans (Nat.le_of_eq O117.1.symm) O117.2.1) (Nat.le_of_eq g122.symm)
    have sz_b122 : h0.size ≤ b122 := Nat.le_trans K117.1 (Nat.le_of_eq g122.symm)
    have ne_b117_b122 : b117 ≠ b122 := Nat.ne_of_lt (Nat.lt_of_lt_of_le F119.lt (Nat.le_of_eq g122.symm))
    have F126 : Exa Z h122 b122 "[D" := B122
    have F127 : Arv Z h122 b122 k122 .double (1 : Int32) [(.double (0 : UInt64))] (.double (0 : UInt64)) := (Arv.new A122 (by decide)).pad (pad_rep [] (.double (0 : UInt64)) 1)
    have pre128 : ∀ t, Steps p.tables e below (T122.setTop (mkF m 32 #[iv p0, iv p1, iv p2, iv p3, iv p4, iv (1 : Int32), rv b117, rv b122, .val (.long (0 : Int64)), .second, .unset, .unset] [(.int p1), (.int (0 : Int32)), (.ref b117)])) t → Steps p.tables e below (s₁.setTop (entryFrame m #[(.int p0), (.int p1), (.int p2), (.int p3), (.int p4)] maxLocals)) t := fun t kt => by
      refine pre123 _ ?_
      show Steps p.tables e below (T122.setTop (mkF m 18 #[iv p0, iv p1, iv p2, iv p3, iv p4, iv (1 : Int32), rv b117, .unset, .unset, .unset, .unset, .unset] [(.ref b122)])) _
      refine XS.astore X122.here hx rfl (hb hby at_18) rfl rfl (l' := #[iv p0, iv p1, iv p2, iv p3, iv p4, iv (1 : Int32), rv b117, rv b122, .unset, .unset, .unset, .unset]) rfl ?_
      show Steps p.tables e below (T122.setTop (mkF m 20 #[iv p0, iv p1, iv p2, iv p3, iv p4, iv (1 : Int32), rv b117, rv b122, .unset, .unset, .unset, .unset] [])) _
      refine XS.lconst X122.here hx rfl (hb hby at_20) ?_
      show Steps p.tables e below (T122.setTop (mkF m 21 #[iv p0, iv p1, iv p2, iv p3, iv p4, iv (1 : Int32), rv b117, rv b122, .unset, .unset, .unset, .unset] [(.long (0 : Int64))])) _
      refine XS.lstore X122.here hx rfl (hb hby at_21) rfl (l' := #[iv p0, iv p1, iv p2, iv p3, iv p4, iv (1 : Int32), rv b117, rv b122, .val (.long (0 : Int64)), .second, .unset, .unset]) rfl ?_
      show Steps p.tables e below (T122.setTop (mkF m 23 #[iv p0, iv p1, iv p2, iv p3, iv p4, iv (1 : Int32), rv b117, rv b122, .val (.long (0 : Int64)), .second, .unset, .unset] [])) _
      refine XS.iload X122.here hx rfl (hb hby at_23) rfl ?_
      show Steps p.tables e below (T122.setTop (mkF m 25 #[iv p0, iv p1, iv p2, iv p3, iv p4, iv (1 : Int32), rv b117, rv b122, .val (.long (0 : Int64)), .second, .unset, .unset] [(.int (1 : Int32))])) _
      refine XS.ifNo X122.here hx rfl (hb hby at_25) rfl (XT.i0_le_f (by decide)) ?_
      show Steps p.tables e below (T122.setTop (mkF m 28 #[iv p0, iv p1, iv p2, iv p3, iv p4, iv (1 : Int32), rv b117, rv b122, .val (.long (0 : Int64)), .second, .unset, .unset] [])) _
      refine XS.aload X122.here hx rfl (hb hby at_28) rfl rfl ?_
      show Steps p.tables e below (T122.setTop (mkF m 30 #[iv p0, iv p1, iv p2, iv p3, iv p4, iv (1 : Int32), rv b117, rv b122, .val (.long (0 : Int64)), .second, .unset, .unset] [(.ref b117)])) _
      refine XS.iconst X122.here hx rfl (hb hby at_30) ?_
      show Steps p.tables e below (T122.setTop (mkF m 31 #[iv p0, iv p1, iv p2, iv p3, iv p4, iv (1 : Int32), rv b117, rv b122, .val (.long (0 : Int64)), .second, .unset, .unset] [(.int (0 : Int32)), (.ref b117)])) _
      refine XS.iloadN X122.here hx rfl (hb hby at_31) rfl ?_
      exact kt
    obtain ⟨_, _, ⟨T129, L129, k129, n129⟩, -, X129, ⟨Lc129, hQ129, l129, y129, z129⟩, st129⟩ := Jvm.LawKit.callS X122 hx (y := (⟨"com/example/centroid/centroid/VectorsDotPinLaw", "lo", "(I)I"⟩ : MethodName)) hown (mvT hZ (W 5 rfl)) (mvT hZ (W 6 rfl)) (mvT hZ (W 7 rfl)) (mvT hZ (W 8 rfl)) (by decide) (backOf (W := 2) (rm_lo l Z a0 hw [] p1 h122 n0 O122) hZ (W 8 rfl) (W 7 rfl) (by decide) (by decide)) (g := (mkF m 32 #[iv p0, iv p1, iv p2, iv p3, iv p4, iv (1 : Int32), rv b117, rv b122, .val (.long (0 : Int64)), .second, .unset, .unset] [(.int p1), (.int (0 : Int32)), (.ref b117)])) rfl (by rw [hml]; rfl) (argsL := [(.int p1)]) (rest := [(.int (0 : Int32)), (.ref b117)]) (lenOf pd_7 rfl) rfl (by show 2 * 0 + _ ≤ _; exact Nat.le_of_eq rfl) (hb hby at_32) (fun _ _ => ⟨rfl, e122, (by decide : 2 + 0 ≤ _), (by decide : 2 + 0 ≤ _)⟩)
    dsimp only [Pt.U, Pt.locs, Pt.cells, Pt.slots] at X129 l129 y129 z129 st129 hQ129
    replace l129 := l129.symm
    replace y129 : 2 = k129 := y129.symm
    replace z129 : 2 = n129 := z129.symm
    subst l129 y129 z129
    obtain ⟨rfl, M129, e129⟩ := hQ129
    have N129 := Fr.app N0 M129
    have pre130 : ∀ t, Steps p.tables e below (T129.setTop (mkF m 35 #[iv p0, iv p1, iv p2, iv p3, iv p4, iv (1 : Int32), rv b117, rv b122, .val (.long (0 : Int64)), .second, .unset, .unset] [(.int (own_lo p1)), (.int (0 : Int32)), (.ref b117)])) t → Steps p.tables e below (s₁.setTop (entryFrame m #[(.int p0), (.int p1), (.int p2), (.int p3), (.int p4)] maxLocals)) t := fun t kt => pre128 _ (st129 _ kt)
    have pre131 : ∀ t, Steps p.tables e below (T129.setTop (mkF m 36 #[iv p0, iv p1, iv p2, iv p3, iv p4, iv (1 : Int32), rv b117, rv b122, .val (.long (0 : Int64)), .second, .unset, .unset] [(.double (FP.i2d (own_lo p1))), (.int (0 : Int32)), (.ref b117)])) t → Steps p.tables e below (s₁.setTop (entryFrame m #[(.int p0), (.int p1), (.int p2), (.int p3), (.int p4)] maxLocals)) t := fun t kt => by
      refine pre130 _ ?_
      show Steps p.tables e below (T129.setTop (mkF m 35 #[iv p0, iv p1, iv p2, iv p3, iv p4, iv (1 : Int32), rv b117, rv b122, .val (.long (0 : Int64)), .second, .unset, .unset] [(.int (own_lo p1)), (.int (0 : Int32)), (.ref b117)])) _
      refine XS.i2dS X129.here hx rfl (hb hby at_35) rfl rfl ?_
      exact kt
    obtain ⟨c132, Ar132, q132, S132, M132, H132, G132⟩ := id F125
    have i132 : ¬ ((0 : Int32) < 0 ∨ c132.slots.size ≤ ((0 : Int32)).toNatClampNeg) := inb_of S132 ⟨by decide, by decide⟩
    obtain ⟨T133, h133, X133, e133, W133, st133⟩ := stD X129 hx hZ e129 Ar132 (j := (0 : Int32)) i132 (g := (mkF m 36 #[iv p0, iv p1, iv p2, iv p3, iv p4, iv (1 : Int32), rv b117, rv b122, .val (.long (0 : Int64)), .second, .unset, .unset] [(.double (FP.i2d (own_lo p1))), (.int (0 : Int32)), (.ref b117)])) rfl rfl (hb hby at_36)
    have pre134 : ∀ t, Steps p.tables e below (T133.setTop (mkF m 37 #[iv p0, iv p1, iv p2, iv p3, iv p4, iv (1 : Int32), rv b117, rv b122, .val (.long (0 : Int64)), .second, .unset, .unset] [])) t → Steps p.tables e below (s₁.setTop (entryFrame m #[(.int p0), (.int p1), (.int p2), (.int p3), (.int p4)] maxLocals)) t := fun t kt => pre131 _ (st133 _ kt)
    have N133 := Fr.snoc X133 N129 g_b117
    have O133 := O122.wr W133 g_b117
    have K133 : Keep h0 h133 [] := K122.wr W133 (Or.inr sz_b117)
    have F135 := F124.wr W133
    have F136 := F126.wr W133
    have F137 := F127.other W133 (fun q => ne_b117_b122 q.symm)
    have F138 : Arv Z h133 b117 k117 .double (1 : Int32) [(.double (FP.i2d (own_lo p1)))] (.double (0 : UInt64)) := Arv.set Ar132 q132 S132 M132 H132 G132 rfl W133 0 rfl (Nat.le_of_ble_eq_true rfl)
    have pre139 : ∀ t, Steps p.tables e below (T133.setTop (mkF m 41 #[iv p0, iv p1, iv p2, iv p3, iv p4, iv (1 : Int32), rv b117, rv b122, .val (.long (0 : Int64)), .second, .unset, .unset] [(.int p1), (.int (0 : Int32)), (.ref b122)])) t → Steps p.tables e below (s₁.setTop (entryFrame m #[(.int p0), (.int p1), (.int p2), (.int p3), (.int p4)] maxLocals)) t := fun t kt => by
      refine pre134 _ ?_
      show Steps p.tables e below (T133.setTop (mkF m 37 #[iv p0, iv p1, iv p2, iv p3, iv p4, iv (1 : Int32), rv b117, rv b122, .val (.long (0 : Int64)), .second, .unset, .unset] [])) _
      refine XS.aload X133.here hx rfl (hb hby at_37) rfl rfl ?_
      show Steps p.tables e below (T133.setTop (mkF m 39 #[iv p0, iv p1, iv p2, iv p3, iv p4, iv (1 : Int32), rv b117, rv b122, .val (.long (0 : Int64)), .second, .unset, .unset] [(.ref b122)])) _
      refine XS.iconst X133.here hx rfl (hb hby at_39) ?_
      show Steps p.tables e below (T133.setTop (mkF m 40 #[iv p0, iv p1, iv p2, iv p3, iv p4, iv (1 : Int32), rv b117, rv b122, .val (.long (0 : Int64)), .second, .unset, .unset] [(.int (0 : Int32)), (.ref b122)])) _
      refine XS.iloadN X133.here hx rfl (hb hby at_40) rfl ?_
      exact kt
    obtain ⟨_, _, ⟨T140, L140, k140, n140⟩, -, X140, ⟨Lc140, hQ140, l140, y140, z140⟩, st140⟩ := Jvm.LawKit.callS X133 hx (y := (⟨"com/example/centroid/centroid/VectorsDotPinLaw", "hi", "(I)I"⟩ : MethodName)) hown (mvT hZ (W 9 rfl)) (mvT hZ (W 10 rfl)) (mvT hZ (W 7 rfl)) (mvT hZ (W 11 rfl)) (by decide) (backOf (W := 2) (rm_hi l Z a0 hw [] p1 h133 n0 O133) hZ (W 11 rfl) (W 7 rfl) (by decide) (by decide)) (g := (mkF m 41 #[iv p0, iv p1, iv p2, iv p3, iv p4, iv (1 : Int32), rv b117, rv b122, .val (.long (0 : Int64)), .second, .unset, .unset] [(.int p1), (.int (0 : Int32)), (.ref b122)])) rfl (by rw [hml]; rfl) (argsL := [(.int p1)]) (rest := [(.int (0 : Int32)), (.ref b122)]) (lenOf pd_7 rfl) rfl (by show 2 * 0 + _ ≤ _; exact Nat.le_of_eq rfl) (hb hby at_41) (fun _ _ => ⟨rfl, e133, (by decide : 2 + 0 ≤ _), (by decide : 2 + 0 ≤ _)⟩)
    dsimp only [Pt.U, Pt.locs, Pt.cells, Pt.slots] at X140 l140 y140 z140 st140 hQ140
    replace l140 := l140.symm
    replace y140 : 2 = k140 := y140.symm
    replace z140 : 2 = n140 := z140.symm
    subst l140 y140 z140
    obtain ⟨rfl, M140, e140⟩ := hQ140
    have N140 := Fr.app N133 M140
    have pre141 : ∀ t, Steps p.tables e below (T140.setTop (mkF m 44 #[iv p0, iv p1, iv p2, iv p3, iv p4, iv (1 : Int32), rv b117, rv b122, .val (.long (0 : Int64)), .second, .unset, .unset] [(.int (own_hi p1)), (.int (0 : Int32)), (.ref b122)])) t → Steps p.tables e below (s₁.setTop (entryFrame m #[(.int p0), (.int p1), (.int p2), (.int p3), (.int p4)] maxLocals)) t := fun t kt => pre139 _ (st140 _ kt)
    have pre142 : ∀ t, Steps p.tables e below (T140.setTop (mkF m 45 #[iv p0, iv p1, iv p2, iv p3, iv p4, iv (1 : Int32), rv b117, rv b122, .val (.long (0 : Int64)), .second, .unset, .unset] [(.double (FP.i2d (own_hi p1))), (.int (0 : Int32)), (.ref b122)])) t → Steps p.tables e below (s₁.setTop (entryFrame m #[(.int p0), (.int p1), (.int p2), (.int p3), (.int p4)] maxLocals)) t := fun t kt => by
      refine pre141 _ ?_
      show Steps p.tables e below (T140.setTop (mkF m 44 #[iv p0, iv p1, iv p2, iv p3, iv p4, iv (1 : Int32), rv b117, rv b122, .val (.long (0 : Int64)), .second, .unset, .unset] [(.int (own_hi p1)), (.int (0 : Int32)), (.ref b122)])) _
      refine XS.i2dS X140.here hx rfl (hb hby at_44) rfl rfl ?_
      exact kt
    obtain ⟨c143, Ar143, q143, S143, M143, H143, G143⟩ := id F137
    have i143 : ¬ ((0 : Int32) < 0 ∨ c143.slots.size ≤ ((0 : Int32)).toNatClampNeg) := inb_of S143 ⟨by decide, by decide⟩
    obtain ⟨T144, h144, X144, e144, W144, st144⟩ := stD X140 hx hZ e140 Ar143 (j := (0 : Int32)) i143 (g := (mkF m 45 #[iv p0, iv p1, iv p2, iv p3, iv p4, iv (1 : Int32), rv b117, rv b122, .val (.long (0 : Int64)), .second, .unset, .unset] [(.double (FP.i2d (own_hi p1))), (.int (0 : Int32)), (.ref b122)])) rfl rfl (hb hby at_45)
    have pre145 : ∀ t, Steps p.tables e below (T144.setTop (mkF m 46 #[iv p0, iv p1, iv p2, iv p3, iv p4, iv (1 : Int32), rv b117, rv b122, .val (.long (0 : Int64)), .second, .unset, .unset] [])) t → Steps p.tables e below (s₁.setTop (entryFrame m #[(.int p0), (.int p1), (.int p2), (.int p3), (.int p4)] maxLocals)) t := fun t kt => pre142 _ (st144 _ kt)
    have N144 := Fr.snoc X144 N140 g_b122
    have O144 := O133.wr W144 g_b122
    have K144 : Keep h0 h144 [] := K133.wr W144 (Or.inr sz_b122)
    have F146 := F135.wr W144
    have F147 := F136.wr W144
    have F148 := F138.other W144 ne_b117_b122
    have F149 : Arv Z h144 b122 k122 .double (1 : Int32) [(.double (FP.i2d (own_hi p1)))] (.double (0 : UInt64)) := Arv.set Ar143 q143 S143 M143 H143 G143 rfl W144 0 rfl (Nat.le_of_ble_eq_true rfl)
    have pre150 : ∀ t, Steps p.tables e below (T144.setTop (mkF m 49 #[iv p0, iv p1, iv p2, iv p3, iv p4, iv (1 : Int32), rv b117, rv b122, .val (.long (0 : Int64)), .second, .unset, .unset] [(.int p1), (.long (0 : Int64))])) t → Steps p.tables e below (s₁.setTop (entryFrame m #[(.int p0), (.int p1), (.int p2), (.int p3), (.int p4)] maxLocals)) t := fun t kt => by
      refine pre145 _ ?_
      show Steps p.tables e below (T144.setTop (mkF m 46 #[iv p0, iv p1, iv p2, iv p3, iv p4, iv (1 : Int32), rv b117, rv b122, .val (.long (0 : Int64)), .second, .unset, .unset] [])) _
      refine XS.lload X144.here hx rfl (hb hby at_46) rfl ?_
      show Steps p.tables e below (T144.setTop (mkF m 48 #[iv p0, iv p1, iv p2, iv p3, iv p4, iv (1 : Int32), rv b117, rv b122, .val (.long (0 : Int64)), .second, .unset, .unset] [(.long (0 : Int64))])) _
      refine XS.iloadN X144.here hx rfl (hb hby at_48) rfl ?_
      exact kt
    obtain ⟨_, _, ⟨T151, L151, k151, n151⟩, -, X151, ⟨Lc151, hQ151, l151, y151, z151⟩, st151⟩ := Jvm.LawKit.callS X144 hx (y := (⟨"com/example/centroid/centroid/VectorsDotPinLaw", "lo", "(I)I"⟩ : MethodName)) hown (mvT hZ (W 5 rfl)) (mvT hZ (W 6 rfl)) (mvT hZ (W 7 rfl)) (mvT hZ (W 8 rfl)) (by decide) (backOf (W := 2) (rm_lo l Z a0 hw [] p1 h144 n0 O144) hZ (W 8 rfl) (W 7 rfl) (by decide) (by decide)) (g := (mkF m 49 #[iv p0, iv p1, iv p2, iv p3, iv p4, iv (1 : Int32), rv b117, rv b122, .val (.long (0 : Int64)), .second, .unset, .unset] [(.int p1), (.long (0 : Int64))])) rfl (by rw [hml]; rfl) (argsL := [(.int p1)]) (rest := [(.long (0 : Int64))]) (lenOf pd_7 rfl) rfl (by show 2 * 0 + _ ≤ _; exact Nat.le_of_eq rfl) (hb hby at_49) (fun _ _ => ⟨rfl, e144, (by decide : 2 + 0 ≤ _), (by decide : 2 + 0 ≤ _)⟩)
    dsimp only [Pt.U, Pt.locs, Pt.cells, Pt.slots] at X151 l151 y151 z151 st151 hQ151
    replace l151 := l151.symm
    replace y151 : 2 = k151 := y151.symm
    replace z151 : 2 = n151 := z151.symm
    subst l151 y151 z151
    obtain ⟨rfl, M151, e151⟩ := hQ151
    have N151 := Fr.app N144 M151
    have pre152 : ∀ t, Steps p.tables e below (T151.setTop (mkF m 52 #[iv p0, iv p1, iv p2, iv p3, iv p4, iv (1 : Int32), rv b117, rv b122, .val (.long (0 : Int64)), .second, .unset, .unset] [(.int (own_lo p1)), (.long (0 : Int64))])) t → Steps p.tables e below (s₁.setTop (entryFrame m #[(.int p0), (.int p1), (.int p2), (.int p3), (.int p4)] maxLocals)) t := fun t kt => pre150 _ (st151 _ kt)
    have pre153 : ∀ t, Steps p.tables e below (T151.setTop (mkF m 54 #[iv p0, iv p1, iv p2, iv p3, iv p4, iv (1 : Int32), rv b117, rv b122, .val (.long (0 : Int64)), .second, .unset, .unset] [(.int p1), (.long ((own_lo p1).toInt64)), (.long (0 : Int64))])) t → Steps p.tables e below (s₁.setTop (entryFrame m #[(.int p0), (.int p1), (.int p2), (.int p3), (.int p4)] maxLocals)) t := fun t kt => by
      refine pre152 _ ?_
      show Steps p.tables e below (T151.setTop (mkF m 52 #[iv p0, iv p1, iv p2, iv p3, iv p4, iv (1 : Int32), rv b117, rv b122, .val (.long (0 : Int64)), .second, .unset, .unset] [(.int (own_lo p1)), (.long (0 : Int64))])) _
      refine XS.i2l X151.here hx rfl (hb hby at_52) rfl ?_
      show Steps p.tables e below (T151.setTop (mkF m 53 #[iv p0, iv p1, iv p2, iv p3, iv p4, iv (1 : Int32), rv b117, rv b122, .val (.long (0 : Int64)), .second, .unset, .unset] [(.long ((own_lo p1).toInt64)), (.long (0 : Int64))])) _
      refine XS.iloadN X151.here hx rfl (hb hby at_53) rfl ?_
      exact kt
    obtain ⟨_, _, ⟨T154, L154, k154, n154⟩, -, X154, ⟨Lc154, hQ154, l154, y154, z154⟩, st154⟩ := Jvm.LawKit.callS X151 hx (y := (⟨"com/example/centroid/centroid/VectorsDotPinLaw", "hi", "(I)I"⟩ : MethodName)) hown (mvT hZ (W 9 rfl)) (mvT hZ (W 10 rfl)) (mvT hZ (W 7 rfl)) (mvT hZ (W 11 rfl)) (by decide) (backOf (W := 4) (rm_hi l Z a0 hw [] p1 h144 n0 O144) hZ (W 11 rfl) (W 7 rfl) (by decide) (by decide)) (g := (mkF m 54 #[iv p0, iv p1, iv p2, iv p3, iv p4, iv (1 : Int32), rv b117, rv b122, .val (.long (0 : Int64)), .second, .unset, .unset] [(.int p1), (.long ((own_lo p1).toInt64)), (.long (0 : Int64))])) rfl (by rw [hml]; rfl) (argsL := [(.int p1)]) (rest := [(.long ((own_lo p1).toInt64)), (.long (0 : Int64))]) (lenOf pd_7 rfl) rfl (by show 2 * 0 + _ ≤ _; exact Nat.le_of_eq rfl) (hb hby at_54) (fun _ _ => ⟨rfl, e151, (by decide : 2 + 0 ≤ _), (by decide : 2 + 0 ≤ _)⟩)
    dsimp only [Pt.U, Pt.locs, Pt.cells, Pt.slots] at X154 l154 y154 z154 st154 hQ154
    replace l154 := l154.symm
    replace y154 : 2 = k154 := y154.symm
    replace z154 : 2 = n154 := z154.symm
    subst l154 y154 z154
    obtain ⟨rfl, M154, e154⟩ := hQ154
    have N154 := Fr.app N151 M154
    have pre155 : ∀ t, Steps p.tables e below (T154.setTop (mkF m 57 #[iv p0, iv p1, iv p2, iv p3, iv p4, iv (1 : Int32), rv b117, rv b122, .val (.long (0 : Int64)), .second, .unset, .unset] [(.int (own_hi p1)), (.long ((own_lo p1).toInt64)), (.long (0 : Int64))])) t → Steps p.tables e below (s₁.setTop (entryFrame m #[(.int p0), (.int p1), (.int p2), (.int p3), (.int p4)] maxLocals)) t := fun t kt => pre153 _ (st154 _ kt)
    have pre156 : ∀ t, Steps p.tables e below (T154.setTop (mkF m 190 #[iv p0, iv p1, iv p2, iv p3, iv p4, iv (1 : Int32), rv b117, rv b122, .val (.long ((0 : Int64) + (((own_lo p1).toInt64) * ((own_hi p1).toInt64)))), .second, .unset, .unset] [(.ref b122), (.ref b117)])) t → Steps p.tables e below (s₁.setTop (entryFrame m #[(.int p0), (.int p1), (.int p2), (.int p3), (.int p4)] maxLocals)) t := fun t kt => by
      refine pre155 _ ?_
      show Steps p.tables e below (T154.setTop (mkF m 57 #[iv p0, iv p1, iv p2, iv p3, iv p4, iv (1 : Int32), rv b117, rv b122, .val (.long (0 : Int64)), .second, .unset, .unset] [(.int (own_hi p1)), (.long ((own_lo p1).toInt64)), (.long (0 : Int64))])) _
      refine XS.i2l X154.here hx rfl (hb hby at_57) rfl ?_
      show Steps p.tables e below (T154.setTop (mkF m 58 #[iv p0, iv p1, iv p2, iv p3, iv p4, iv (1 : Int32), rv b117, rv b122, .val (.long (0 : Int64)), .second, .unset, .unset] [(.long ((own_hi p1).toInt64)), (.long ((own_lo p1).toInt64)), (.long (0 : Int64))])) _
      refine XS.lmul X154.here hx rfl (hb hby at_58) rfl ?_
      show Steps p.tables e below (T154.setTop (mkF m 59 #[iv p0, iv p1, iv p2, iv p3, iv p4, iv (1 : Int32), rv b117, rv b122, .val (.long (0 : Int64)), .second, .unset, .unset] [(.long (((own_lo p1).toInt64) * ((own_hi p1).toInt64))), (.long (0 : Int64))])) _
      refine XS.ladd X154.here hx rfl (hb hby at_59) rfl ?_
      show Steps p.tables e below (T154.setTop (mkF m 60 #[iv p0, iv p1, iv p2, iv p3, iv p4, iv (1 : Int32), rv b117, rv b122, .val (.long (0 : Int64)), .second, .unset, .unset] [(.long ((0 : Int64) + (((own_lo p1).toInt64) * ((own_hi p1).toInt64))))])) _
      refine XS.lstore X154.here hx rfl (hb hby at_60) rfl (l' := #[iv p0, iv p1, iv p2, iv p3, iv p4, iv (1 : Int32), rv b117, rv b122, .val (.long ((0 : Int64) + (((own_lo p1).toInt64) * ((own_hi p1).toInt64)))), .second, .unset, .unset]) rfl ?_
      show Steps p.tables e below (T154.setTop (mkF m 62 #[iv p0, iv p1, iv p2, iv p3, iv p4, iv (1 : Int32), rv b117, rv b122, .val (.long ((0 : Int64) + (((own_lo p1).toInt64) * ((own_hi p1).toInt64)))), .second, .unset, .unset] [])) _
      refine XS.iload X154.here hx rfl (hb hby at_62) rfl ?_
      show Steps p.tables e below (T154.setTop (mkF m 64 #[iv p0, iv p1, iv p2, iv p3, iv p4, iv (1 : Int32), rv b117, rv b122, .val (.long ((0 : Int64) + (((own_lo p1).toInt64) * ((own_hi p1).toInt64)))), .second, .unset, .unset] [(.int (1 : Int32))])) _
      refine XS.iconst X154.here hx rfl (hb hby at_64) ?_
      show Steps p.tables e below (T154.setTop (mkF m 65 #[iv p0, iv p1, iv p2, iv p3, iv p4, iv (1 : Int32), rv b117, rv b122, .val (.long ((0 : Int64) + (((own_lo p1).toInt64) * ((own_hi p1).toInt64)))), .second, .unset, .unset] [(.int (1 : Int32)), (.int (1 : Int32))])) _
      refine XS.icmpYes X154.here hx rfl (pc0 := 65) (pc' := 102) rfl (hb hby at_65) rfl (XT.ii_le_t (by decide)) (by decide) (by decide) ?_
      show Steps p.tables e below (T154.setTop (mkF m 102 #[iv p0, iv p1, iv p2, iv p3, iv p4, iv (1 : Int32), rv b117, rv b122, .val (.long ((0 : Int64) + (((own_lo p1).toInt64) * ((own_hi p1).toInt64)))), .second, .unset, .unset] [])) _
      refine XS.iload X154.here hx rfl (hb hby at_102) rfl ?_
      show Steps p.tables e below (T154.setTop (mkF m 104 #[iv p0, iv p1, iv p2, iv p3, iv p4, iv (1 : Int32), rv b117, rv b122, .val (.long ((0 : Int64) + (((own_lo p1).toInt64) * ((own_hi p1).toInt64)))), .second, .unset, .unset] [(.int (1 : Int32))])) _
      refine XS.iconst X154.here hx rfl (hb hby at_104) ?_
      show Steps p.tables e below (T154.setTop (mkF m 105 #[iv p0, iv p1, iv p2, iv p3, iv p4, iv (1 : Int32), rv b117, rv b122, .val (.long ((0 : Int64) + (((own_lo p1).toInt64) * ((own_hi p1).toInt64)))), .second, .unset, .unset] [(.int (2 : Int32)), (.int (1 : Int32))])) _
      refine XS.icmpYes X154.here hx rfl (pc0 := 105) (pc' := 142) rfl (hb hby at_105) rfl (XT.ii_le_t (by decide)) (by decide) (by decide) ?_
      show Steps p.tables e below (T154.setTop (mkF m 142 #[iv p0, iv p1, iv p2, iv p3, iv p4, iv (1 : Int32), rv b117, rv b122, .val (.long ((0 : Int64) + (((own_lo p1).toInt64) * ((own_hi p1).toInt64)))), .second, .unset, .unset] [])) _
      refine XS.iload X154.here hx rfl (hb hby at_142) rfl ?_
      show Steps p.tables e below (T154.setTop (mkF m 144 #[iv p0, iv p1, iv p2, iv p3, iv p4, iv (1 : Int32), rv b117, rv b122, .val (.long ((0 : Int64) + (((own_lo p1).toInt64) * ((own_hi p1).toInt64)))), .second, .unset, .unset] [(.int (1 : Int32))])) _
      refine XS.iconst X154.here hx rfl (hb hby at_144) ?_
      show Steps p.tables e below (T154.setTop (mkF m 145 #[iv p0, iv p1, iv p2, iv p3, iv p4, iv (1 : Int32), rv b117, rv b122, .val (.long ((0 : Int64) + (((own_lo p1).toInt64) * ((own_hi p1).toInt64)))), .second, .unset, .unset] [(.int (3 : Int32)), (.int (1 : Int32))])) _
      refine XS.icmpYes X154.here hx rfl (pc0 := 145) (pc' := 186) rfl (hb hby at_145) rfl (XT.ii_le_t (by decide)) (by decide) (by decide) ?_
      show Steps p.tables e below (T154.setTop (mkF m 186 #[iv p0, iv p1, iv p2, iv p3, iv p4, iv (1 : Int32), rv b117, rv b122, .val (.long ((0 : Int64) + (((own_lo p1).toInt64) * ((own_hi p1).toInt64)))), .second, .unset, .unset] [])) _
      refine XS.aload X154.here hx rfl (hb hby at_186) rfl rfl ?_
      show Steps p.tables e below (T154.setTop (mkF m 188 #[iv p0, iv p1, iv p2, iv p3, iv p4, iv (1 : Int32), rv b117, rv b122, .val (.long ((0 : Int64) + (((own_lo p1).toInt64) * ((own_hi p1).toInt64)))), .second, .unset, .unset] [(.ref b117)])) _
      refine XS.aload X154.here hx rfl (hb hby at_188) rfl rfl ?_
      exact kt
    obtain ⟨_, _, ⟨T157, L157, k157, n157⟩, -, X157, ⟨Lc157, hQ157, l157, y157, z157⟩, st157⟩ := Jvm.LawKit.callS X154 hx (y := (⟨"com/example/centroid/centroid/Vectors", "dot", "([D[D)D"⟩ : MethodName)) hown (mvT hZ (W 1 rfl)) (mvT hZ (W 2 rfl)) (mvT hZ (W 3 rfl)) (mvT hZ (W 4 rfl)) (by decide) (backOf (W := 0) (rm_dot1 l Z a0 hw [] b117 b122 k117 k122 ((FP.i2d (own_lo p1))) ((FP.i2d (own_hi p1))) ((own_lo p1).toInt) ((own_hi p1).toInt) h144 n0 O144 F148 F149 (own_D_i _ (own_lo_b _)) (own_D_i _ (own_hi_b _))) hZ (W 4 rfl) (W 3 rfl) (by decide) (by decide)) (g := (mkF m 190 #[iv p0, iv p1, iv p2, iv p3, iv p4, iv (1 : Int32), rv b117, rv b122, .val (.long ((0 : Int64) + (((own_lo p1).toInt64) * ((own_hi p1).toInt64)))), .second, .unset, .unset] [(.ref b122), (.ref b117)])) rfl (by rw [hml]; rfl) (argsL := [(.ref b117), (.ref b122)]) (rest := []) (lenOf pd_6 rfl) rfl (by show 2 * 0 + _ ≤ _; exact Nat.le_of_eq rfl) (hb hby at_190) (fun _ _ => ⟨rfl, e154, (by decide : 2 + 0 ≤ _), (by decide : 2 + 0 ≤ _)⟩)
    dsimp only [Pt.U, Pt.locs, Pt.cells, Pt.slots] at X157 l157 y157 z157 st157 hQ157
    replace l157 := l157.symm
    replace y157 : 2 = k157 := y157.symm
    replace z157 : 2 = n157 := z157.symm
    subst l157 y157 z157
    obtain ⟨rd_157, rfl, M157, e157, P157_0⟩ := hQ157
    have N157 := Fr.app N154 M157
    have pre158 : ∀ t, Steps p.tables e below (T157.setTop (mkF m 193 #[iv p0, iv p1, iv p2, iv p3, iv p4, iv (1 : Int32), rv b117, rv b122, .val (.long ((0 : Int64) + (((own_lo p1).toInt64) * ((own_hi p1).toInt64)))), .second, .unset, .unset] [(.double rd_157)])) t → Steps p.tables e below (s₁.setTop (entryFrame m #[(.int p0), (.int p1), (.int p2), (.int p3), (.int p4)] maxLocals)) t := fun t kt => pre156 _ (st157 _ kt)
    have pre159 : ∀ t, Steps p.tables e below (T157.setTop (mkF m 209 #[iv p0, iv p1, iv p2, iv p3, iv p4, iv (1 : Int32), rv b117, rv b122, .val (.long ((0 : Int64) + (((own_lo p1).toInt64) * ((own_hi p1).toInt64)))), .second, .val (.double rd_157), .second] [(.int (1 : Int32))])) t → Steps p.tables e below (s₁.setTop (entryFrame m #[(.int p0), (.int p1), (.int p2), (.int p3), (.int p4)] maxLocals)) t := fun t kt => by
      refine pre158 _ ?_
      show Steps p.tables e below (T157.setTop (mkF m 193 #[iv p0, iv p1, iv p2, iv p3, iv p4, iv (1 : Int32), rv b117, rv b122, .val (.long ((0 : Int64) + (((own_lo p1).toInt64) * ((own_hi p1).toInt64)))), .second, .unset, .unset] [(.double rd_157)])) _
      refine XS.dstore X157.here hx rfl (hb hby at_193) rfl (l' := #[iv p0, iv p1, iv p2, iv p3, iv p4, iv (1 : Int32), rv b117, rv b122, .val (.long ((0 : Int64) + (((own_lo p1).toInt64) * ((own_hi p1).toInt64)))), .second, .val (.double rd_157), .second]) rfl ?_
      show Steps p.tables e below (T157.setTop (mkF m 195 #[iv p0, iv p1, iv p2, iv p3, iv p4, iv (1 : Int32), rv b117, rv b122, .val (.long ((0 : Int64) + (((own_lo p1).toInt64) * ((own_hi p1).toInt64)))), .second, .val (.double rd_157), .second] [])) _
      refine XS.dload X157.here hx rfl (hb hby at_195) rfl ?_
      show Steps p.tables e below (T157.setTop (mkF m 197 #[iv p0, iv p1, iv p2, iv p3, iv p4, iv (1 : Int32), rv b117, rv b122, .val (.long ((0 : Int64) + (((own_lo p1).toInt64) * ((own_hi p1).toInt64)))), .second, .val (.double rd_157), .second] [(.double rd_157)])) _
      refine XS.lload X157.here hx rfl (hb hby at_197) rfl ?_
      show Steps p.tables e below (T157.setTop (mkF m 199 #[iv p0, iv p1, iv p2, iv p3, iv p4, iv (1 : Int32), rv b117, rv b122, .val (.long ((0 : Int64) + (((own_lo p1).toInt64) * ((own_hi p1).toInt64)))), .second, .val (.double rd_157), .second] [(.long ((0 : Int64) + (((own_lo p1).toInt64) * ((own_hi p1).toInt64)))), (.double rd_157)])) _
      refine XS.l2dS X157.here hx rfl (hb hby at_199) rfl rfl ?_
      show Steps p.tables e below (T157.setTop (mkF m 200 #[iv p0, iv p1, iv p2, iv p3, iv p4, iv (1 : Int32), rv b117, rv b122, .val (.long ((0 : Int64) + (((own_lo p1).toInt64) * ((own_hi p1).toInt64)))), .second, .val (.double rd_157), .second] [(.double (FP.l2d ((0 : Int64) + (((own_lo p1).toInt64) * ((own_hi p1).toInt64))))), (.double rd_157)])) _
      refine XS.dcmpS X157.here hx rfl (hb hby at_200) rfl (v := (0 : Int32)) (own_D_cmp P157_0 (own_LD (own_L_add own_L_0 (own_L_mul (own_L_i _ (own_lo_b _)) (own_L_i _ (own_hi_b _)) (by decide)) (by decide)) (by decide)) _) ?_
      show Steps p.tables e below (T157.setTop (mkF m 201 #[iv p0, iv p1, iv p2, iv p3, iv p4, iv (1 : Int32), rv b117, rv b122, .val (.long ((0 : Int64) + (((own_lo p1).toInt64) * ((own_hi p1).toInt64)))), .second, .val (.double rd_157), .second] [(.int (0 : Int32))])) _
      refine XS.ifNo X157.here hx rfl (hb hby at_201) rfl (XT.i0_ne_f (by decide)) ?_
      show Steps p.tables e below (T157.setTop (mkF m 204 #[iv p0, iv p1, iv p2, iv p3, iv p4, iv (1 : Int32), rv b117, rv b122, .val (.long ((0 : Int64) + (((own_lo p1).toInt64) * ((own_hi p1).toInt64)))), .second, .val (.double rd_157), .second] [])) _
      refine XS.iconst X157.here hx rfl (hb hby at_204) ?_
      show Steps p.tables e below (T157.setTop (mkF m 205 #[iv p0, iv p1, iv p2, iv p3, iv p4, iv (1 : Int32), rv b117, rv b122, .val (.long ((0 : Int64) + (((own_lo p1).toInt64) * ((own_hi p1).toInt64)))), .second, .val (.double rd_157), .second] [(.int (1 : Int32))])) _
      refine XS.goto X157.here hx rfl (pc0 := 205) (pc' := 209) rfl (hb hby at_205) (by decide) (by decide) ?_
      exact kt
    obtain ⟨fs, hr, hrun, hended, hW, hsame⟩ := X157.leave (v := some (.int (1 : Int32))) (fun h => by rw [Bd.returns] at h; cases h)
    refine ⟨_, _, pre159 _ (retN X157 hx (t := .boolean) Bd.returns (by simp) (hb hby at_209) hr), hrun, hended, _, _, rfl, ?_, ⟨_, rfl⟩, hW, hsame.mono (by decide) (by decide)⟩
    show Q_law Z p0 p1 p2 p3 p4 h0 n0 _ T157.heap _
    rw [e157]
    exact ⟨rfl, N157⟩
  · rw [hv99] at pre98
    have pre160 : ∀ t, Steps p.tables e below (s₁.setTop (mkF m 10 #[iv p0, iv p1, iv p2, iv p3, iv p4, iv (2 : Int32), .unset, .unset, .unset, .unset, .unset, .unset] [(.int (2 : Int32))])) t → Steps p.tables e below (s₁.setTop (entryFrame m #[(.int p0), (.int p1), (.int p2), (.int p3), (.int p4)] maxLocals)) t := fun t kt => by
      refine pre98 _ ?_
      show Steps p.tables e below (s₁.setTop (mkF m 8 #[iv p0, iv p1, iv p2, iv p3, iv p4, iv (2 : Int32), .unset, .unset, .unset, .unset, .unset, .unset] [])) _
      refine XS.iload X0.here hx rfl (hb hby at_8) rfl ?_
      exact kt
    obtain ⟨T161, h161, k161, X161, e161, E161, A161, B161, st161⟩ := newPE X0 hx hZ (W 0 rfl) e0 (g := (mkF m 10 #[iv p0, iv p1, iv p2, iv p3, iv p4, iv (2 : Int32), .unset, .unset, .unset, .unset, .unset, .unset] [(.int (2 : Int32))])) rfl (hb hby at_10) rfl (by decide) (cap := 2) (by decide) (by decide) (by decide) (by decide) (ad := "[D") (by decide)
    obtain ⟨b161, g161⟩ : ∃ z, z = h0.size := ⟨_, rfl⟩
    rw [← g161] at A161 B161 st161
    have pre162 : ∀ t, Steps p.tables e below (T161.setTop (mkF m 12 #[iv p0, iv p1, iv p2, iv p3, iv p4, iv (2 : Int32), .unset, .unset, .unset, .unset, .unset, .unset] [(.ref b161)])) t → Steps p.tables e below (s₁.setTop (entryFrame m #[(.int p0), (.int p1), (.int p2), (.int p3), (.int p4)] maxLocals)) t := fun t kt => pre160 _ (st161 _ kt)
    have O161 := O0.ext E161
    have K161 : Keep h0 h161 [] := K0.ext E161
    have g_b161 : n0 ≤ b161 := Nat.le_trans (Nat.le_trans (Nat.le_of_eq O0.1.symm) O0.2.1) (Nat.le_of_eq g161.symm)
    have sz_b161 : h0.size ≤ b161 := Nat.le_trans K0.1 (Nat.le_of_eq g161.symm)
    have F163 : Exa Z h161 b161 "[D" := B161
    have F164 : Arv Z h161 b161 k161 .double (2 : Int32) [(.double (0 : UInt64)), (.double (0 : UInt64))] (.double (0 : UInt64)) := (Arv.new A161 (by decide)).pad (pad_rep [] (.double (0 : UInt64)) 2)
    have pre165 : ∀ t, Steps p.tables e below (T161.setTop (mkF m 16 #[iv p0, iv p1, iv p2, iv p3, iv p4, iv (2 : Int32), rv b161, .unset, .unset, .unset, .unset, .unset] [(.int (2 : Int32))])) t → Steps p.tables e below (s₁.setTop (entryFrame m #[(.int p0), (.int p1), (.int p2), (.int p3), (.int p4)] maxLocals)) t := fun t kt => by
      refine pre162 _ ?_
      show Steps p.tables e below (T161.setTop (mkF m 12 #[iv p0, iv p1, iv p2, iv p3, iv p4, iv (2 : Int32), .unset, .unset, .unset, .unset, .unset, .unset] [(.ref b161)])) _
      refine XS.astore X161.here hx rfl (hb hby at_12) rfl rfl (l' := #[iv p0, iv p1, iv p2, iv p3, iv p4, iv (2 : Int32), rv b161, .unset, .unset, .unset, .unset, .unset]) rfl ?_
      show Steps p.tables e below (T161.setTop (mkF m 14 #[iv p0, iv p1, iv p2, iv p3, iv p4, iv (2 : Int32), rv b161, .unset, .unset, .unset, .unset, .unset] [])) _
      refine XS.iload X161.here hx rfl (hb hby at_14) rfl ?_
      exact kt
    obtain ⟨T166, h166, k166, X166, e166, E166, A166, B166, st166⟩ := newPE X161 hx hZ (W 0 rfl) e161 (g := (mkF m 16 #[iv p0, iv p1, iv p2, iv p3, iv p4, iv (2 : Int32), rv b161, .unset, .unset, .unset, .unset, .unset] [(.int (2 : Int32))])) rfl (hb hby at_16) rfl (by decide) (cap := 2) (by decide) (by decide) (by decide) (by decide) (ad := "[D") (by decide)
    obtain ⟨b166, g166⟩ : ∃ z, z = h161.size := ⟨_, rfl⟩
    rw [← g166] at A166 B166 st166
    have pre167 : ∀ t, Steps p.tables e below (T166.setTop (mkF m 18 #[iv p0, iv p1, iv p2, iv p3, iv p4, iv (2 : Int32), rv b161, .unset, .unset, .unset, .unset, .unset] [(.ref b166)])) t → Steps p.tables e below (s₁.setTop (entryFrame m #[(.int p0), (.int p1), (.int p2), (.int p3), (.int p4)] maxLocals)) t := fun t kt => pre165 _ (st166 _ kt)
    have O166 := O161.ext E166
    have K166 : Keep h0 h166 [] := K161.ext E166
    have F168 := F163.ext E166
    have F169 := F164.ext E166
    have g_b166 : n0 ≤ b166 := Nat.le_trans (Nat.le_trans (Nat.le_of_eq O161.1.symm) O161.2.1) (Nat.le_of_eq g166.symm)
    have sz_b166 : h0.size ≤ b166 := Nat.le_trans K161.1 (Nat.le_of_eq g166.symm)
    have ne_b161_b166 : b161 ≠ b166 := Nat.ne_of_lt (Nat.lt_of_lt_of_le F163.lt (Nat.le_of_eq g166.symm))
    have F170 : Exa Z h166 b166 "[D" := B166
    have F171 : Arv Z h166 b166 k166 .double (2 : Int32) [(.double (0 : UInt64)), (.double (0 : UInt64))] (.double (0 : UInt64)) := (Arv.new A166 (by decide)).pad (pad_rep [] (.double (0 : UInt64)) 2)
    have pre172 : ∀ t, Steps p.tables e below (T166.setTop (mkF m 32 #[iv p0, iv p1, iv p2, iv p3, iv p4, iv (2 : Int32), rv b161, rv b166, .val (.long (0 : Int64)), .second, .unset, .unset] [(.int p1), (.int (0 : Int32)), (.ref b161)])) t → Steps p.tables e below (s₁.setTop (entryFrame m #[(.int p0), (.int p1), (.int p2), (.int p3), (.int p4)] maxLocals)) t := fun t kt => by
      refine pre167 _ ?_
      show Steps p.tables e below (T166.setTop (mkF m 18 #[iv p0, iv p1, iv p2, iv p3, iv p4, iv (2 : Int32), rv b161, .unset, .unset, .unset, .unset, .unset] [(.ref b166)])) _
      refine XS.astore X166.here hx rfl (hb hby at_18) rfl rfl (l' := #[iv p0, iv p1, iv p2, iv p3, iv p4, iv (2 : Int32), rv b161, rv b166, .unset, .unset, .unset, .unset]) rfl ?_
      show Steps p.tables e below (T166.setTop (mkF m 20 #[iv p0, iv p1, iv p2, iv p3, iv p4, iv (2 : Int32), rv b161, rv b166, .unset, .unset, .unset, .unset] [])) _
      refine XS.lconst X166.here hx rfl (hb hby at_20) ?_
      show Steps p.tables e below (T166.setTop (mkF m 21 #[iv p0, iv p1, iv p2, iv p3, iv p4, iv (2 : Int32), rv b161, rv b166, .unset, .unset, .unset, .unset] [(.long (0 : Int64))])) _
      refine XS.lstore X166.here hx rfl (hb hby at_21) rfl (l' := #[iv p0, iv p1, iv p2, iv p3, iv p4, iv (2 : Int32), rv b161, rv b166, .val (.long (0 : Int64)), .second, .unset, .unset]) rfl ?_
      show Steps p.tables e below (T166.setTop (mkF m 23 #[iv p0, iv p1, iv p2, iv p3, iv p4, iv (2 : Int32), rv b161, rv b166, .val (.long (0 : Int64)), .second, .unset, .unset] [])) _
      refine XS.iload X166.here hx rfl (hb hby at_23) rfl ?_
      show Steps p.tables e below (T166.setTop (mkF m 25 #[iv p0, iv p1, iv p2, iv p3, iv p4, iv (2 : Int32), rv b161, rv b166, .val (.long (0 : Int64)), .second, .unset, .unset] [(.int (2 : Int32))])) _
      refine XS.ifNo X166.here hx rfl (hb hby at_25) rfl (XT.i0_le_f (by decide)) ?_
      show Steps p.tables e below (T166.setTop (mkF m 28 #[iv p0, iv p1, iv p2, iv p3, iv p4, iv (2 : Int32), rv b161, rv b166, .val (.long (0 : Int64)), .second, .unset, .unset] [])) _
      refine XS.aload X166.here hx rfl (hb hby at_28) rfl rfl ?_
      show Steps p.tables e below (T166.setTop (mkF m 30 #[iv p0, iv p1, iv p2, iv p3, iv p4, iv (2 : Int32), rv b161, rv b166, .val (.long (0 : Int64)), .second, .unset, .unset] [(.ref b161)])) _
      refine XS.iconst X166.here hx rfl (hb hby at_30) ?_
      show Steps p.tables e below (T166.setTop (mkF m 31 #[iv p0, iv p1, iv p2, iv p3, iv p4, iv (2 : Int32), rv b161, rv b166, .val (.long (0 : Int64)), .second, .unset, .unset] [(.int (0 : Int32)), (.ref b161)])) _
      refine XS.iloadN X166.here hx rfl (hb hby at_31) rfl ?_
      exact kt
    obtain ⟨_, _, ⟨T173, L173, k173, n173⟩, -, X173, ⟨Lc173, hQ173, l173, y173, z173⟩, st173⟩ := Jvm.LawKit.callS X166 hx (y := (⟨"com/example/centroid/centroid/VectorsDotPinLaw", "lo", "(I)I"⟩ : MethodName)) hown (mvT hZ (W 5 rfl)) (mvT hZ (W 6 rfl)) (mvT hZ (W 7 rfl)) (mvT hZ (W 8 rfl)) (by decide) (backOf (W := 2) (rm_lo l Z a0 hw [] p1 h166 n0 O166) hZ (W 8 rfl) (W 7 rfl) (by decide) (by decide)) (g := (mkF m 32 #[iv p0, iv p1, iv p2, iv p3, iv p4, iv (2 : Int32), rv b161, rv b166, .val (.long (0 : Int64)), .second, .unset, .unset] [(.int p1), (.int (0 : Int32)), (.ref b161)])) rfl (by rw [hml]; rfl) (argsL := [(.int p1)]) (rest := [(.int (0 : Int32)), (.ref b161)]) (lenOf pd_7 rfl) rfl (by show 2 * 0 + _ ≤ _; exact Nat.le_of_eq rfl) (hb hby at_32) (fun _ _ => ⟨rfl, e166, (by decide : 2 + 0 ≤ _), (by decide : 4 + 0 ≤ _)⟩)
    dsimp only [Pt.U, Pt.locs, Pt.cells, Pt.slots] at X173 l173 y173 z173 st173 hQ173
    replace l173 := l173.symm
    replace y173 : 2 = k173 := y173.symm
    replace z173 : 4 = n173 := z173.symm
    subst l173 y173 z173
    obtain ⟨rfl, M173, e173⟩ := hQ173
    have N173 := Fr.app N0 M173
    have pre174 : ∀ t, Steps p.tables e below (T173.setTop (mkF m 35 #[iv p0, iv p1, iv p2, iv p3, iv p4, iv (2 : Int32), rv b161, rv b166, .val (.long (0 : Int64)), .second, .unset, .unset] [(.int (own_lo p1)), (.int (0 : Int32)), (.ref b161)])) t → Steps p.tables e below (s₁.setTop (entryFrame m #[(.int p0), (.int p1), (.int p2), (.int p3), (.int p4)] maxLocals)) t := fun t kt => pre172 _ (st173 _ kt)
    have pre175 : ∀ t, Steps p.tables e below (T173.setTop (mkF m 36 #[iv p0, iv p1, iv p2, iv p3, iv p4, iv (2 : Int32), rv b161, rv b166, .val (.long (0 : Int64)), .second, .unset, .unset] [(.double (FP.i2d (own_lo p1))), (.int (0 : Int32)), (.ref b161)])) t → Steps p.tables e below (s₁.setTop (entryFrame m #[(.int p0), (.int p1), (.int p2), (.int p3), (.int p4)] maxLocals)) t := fun t kt => by
      refine pre174 _ ?_
      show Steps p.tables e below (T173.setTop (mkF m 35 #[iv p0, iv p1, iv p2, iv p3, iv p4, iv (2 : Int32), rv b161, rv b166, .val (.long (0 : Int64)), .second, .unset, .unset] [(.int (own_lo p1)), (.int (0 : Int32)), (.ref b161)])) _
      refine XS.i2dS X173.here hx rfl (hb hby at_35) rfl rfl ?_
      exact kt
    obtain ⟨c176, Ar176, q176, S176, M176, H176, G176⟩ := id F169
    have i176 : ¬ ((0 : Int32) < 0 ∨ c176.slots.size ≤ ((0 : Int32)).toNatClampNeg) := inb_of S176 ⟨by decide, by decide⟩
    obtain ⟨T177, h177, X177, e177, W177, st177⟩ := stD X173 hx hZ e173 Ar176 (j := (0 : Int32)) i176 (g := (mkF m 36 #[iv p0, iv p1, iv p2, iv p3, iv p4, iv (2 : Int32), rv b161, rv b166, .val (.long (0 : Int64)), .second, .unset, .unset] [(.double (FP.i2d (own_lo p1))), (.int (0 : Int32)), (.ref b161)])) rfl rfl (hb hby at_36)
    have pre178 : ∀ t, Steps p.tables e below (T177.setTop (mkF m 37 #[iv p0, iv p1, iv p2, iv p3, iv p4, iv (2 : Int32), rv b161, rv b166, .val (.long (0 : Int64)), .second, .unset, .unset] [])) t → Steps p.tables e below (s₁.setTop (entryFrame m #[(.int p0), (.int p1), (.int p2), (.int p3), (.int p4)] maxLocals)) t := fun t kt => pre175 _ (st177 _ kt)
    have N177 := Fr.snoc X177 N173 g_b161
    have O177 := O166.wr W177 g_b161
    have K177 : Keep h0 h177 [] := K166.wr W177 (Or.inr sz_b161)
    have F179 := F168.wr W177
    have F180 := F170.wr W177
    have F181 := F171.other W177 (fun q => ne_b161_b166 q.symm)
    have F182 : Arv Z h177 b161 k161 .double (2 : Int32) [(.double (FP.i2d (own_lo p1))), (.double (0 : UInt64))] (.double (0 : UInt64)) := Arv.set Ar176 q176 S176 M176 H176 G176 rfl W177 0 rfl (Nat.le_of_ble_eq_true rfl)
    have pre183 : ∀ t, Steps p.tables e below (T177.setTop (mkF m 41 #[iv p0, iv p1, iv p2, iv p3, iv p4, iv (2 : Int32), rv b161, rv b166, .val (.long (0 : Int64)), .second, .unset, .unset] [(.int p1), (.int (0 : Int32)), (.ref b166)])) t → Steps p.tables e below (s₁.setTop (entryFrame m #[(.int p0), (.int p1), (.int p2), (.int p3), (.int p4)] maxLocals)) t := fun t kt => by
      refine pre178 _ ?_
      show Steps p.tables e below (T177.setTop (mkF m 37 #[iv p0, iv p1, iv p2, iv p3, iv p4, iv (2 : Int32), rv b161, rv b166, .val (.long (0 : Int64)), .second, .unset, .unset] [])) _
      refine XS.aload X177.here hx rfl (hb hby at_37) rfl rfl ?_
      show Steps p.tables e below (T177.setTop (mkF m 39 #[iv p0, iv p1, iv p2, iv p3, iv p4, iv (2 : Int32), rv b161, rv b166, .val (.long (0 : Int64)), .second, .unset, .unset] [(.ref b166)])) _
      refine XS.iconst X177.here hx rfl (hb hby at_39) ?_
      show Steps p.tables e below (T177.setTop (mkF m 40 #[iv p0, iv p1, iv p2, iv p3, iv p4, iv (2 : Int32), rv b161, rv b166, .val (.long (0 : Int64)), .second, .unset, .unset] [(.int (0 : Int32)), (.ref b166)])) _
      refine XS.iloadN X177.here hx rfl (hb hby at_40) rfl ?_
      exact kt
    obtain ⟨_, _, ⟨T184, L184, k184, n184⟩, -, X184, ⟨Lc184, hQ184, l184, y184, z184⟩, st184⟩ := Jvm.LawKit.callS X177 hx (y := (⟨"com/example/centroid/centroid/VectorsDotPinLaw", "hi", "(I)I"⟩ : MethodName)) hown (mvT hZ (W 9 rfl)) (mvT hZ (W 10 rfl)) (mvT hZ (W 7 rfl)) (mvT hZ (W 11 rfl)) (by decide) (backOf (W := 2) (rm_hi l Z a0 hw [] p1 h177 n0 O177) hZ (W 11 rfl) (W 7 rfl) (by decide) (by decide)) (g := (mkF m 41 #[iv p0, iv p1, iv p2, iv p3, iv p4, iv (2 : Int32), rv b161, rv b166, .val (.long (0 : Int64)), .second, .unset, .unset] [(.int p1), (.int (0 : Int32)), (.ref b166)])) rfl (by rw [hml]; rfl) (argsL := [(.int p1)]) (rest := [(.int (0 : Int32)), (.ref b166)]) (lenOf pd_7 rfl) rfl (by show 2 * 0 + _ ≤ _; exact Nat.le_of_eq rfl) (hb hby at_41) (fun _ _ => ⟨rfl, e177, (by decide : 2 + 0 ≤ _), (by decide : 4 + 0 ≤ _)⟩)
    dsimp only [Pt.U, Pt.locs, Pt.cells, Pt.slots] at X184 l184 y184 z184 st184 hQ184
    replace l184 := l184.symm
    replace y184 : 2 = k184 := y184.symm
    replace z184 : 4 = n184 := z184.symm
    subst l184 y184 z184
    obtain ⟨rfl, M184, e184⟩ := hQ184
    have N184 := Fr.app N177 M184
    have pre185 : ∀ t, Steps p.tables e below (T184.setTop (mkF m 44 #[iv p0, iv p1, iv p2, iv p3, iv p4, iv (2 : Int32), rv b161, rv b166, .val (.long (0 : Int64)), .second, .unset, .unset] [(.int (own_hi p1)), (.int (0 : Int32)), (.ref b166)])) t → Steps p.tables e below (s₁.setTop (entryFrame m #[(.int p0), (.int p1), (.int p2), (.int p3), (.int p4)] maxLocals)) t := fun t kt => pre183 _ (st184 _ kt)
    have pre186 : ∀ t, Steps p.tables e below (T184.setTop (mkF m 45 #[iv p0, iv p1, iv p2, iv p3, iv p4, iv (2 : Int32), rv b161, rv b166, .val (.long (0 : Int64)), .second, .unset, .unset] [(.double (FP.i2d (own_hi p1))), (.int (0 : Int32)), (.ref b166)])) t → Steps p.tables e below (s₁.setTop (entryFrame m #[(.int p0), (.int p1), (.int p2), (.int p3), (.int p4)] maxLocals)) t := fun t kt => by
      refine pre185 _ ?_
      show Steps p.tables e below (T184.setTop (mkF m 44 #[iv p0, iv p1, iv p2, iv p3, iv p4, iv (2 : Int32), rv b161, rv b166, .val (.long (0 : Int64)), .second, .unset, .unset] [(.int (own_hi p1)), (.int (0 : Int32)), (.ref b166)])) _
      refine XS.i2dS X184.here hx rfl (hb hby at_44) rfl rfl ?_
      exact kt
    obtain ⟨c187, Ar187, q187, S187, M187, H187, G187⟩ := id F181
    have i187 : ¬ ((0 : Int32) < 0 ∨ c187.slots.size ≤ ((0 : Int32)).toNatClampNeg) := inb_of S187 ⟨by decide, by decide⟩
    obtain ⟨T188, h188, X188, e188, W188, st188⟩ := stD X184 hx hZ e184 Ar187 (j := (0 : Int32)) i187 (g := (mkF m 45 #[iv p0, iv p1, iv p2, iv p3, iv p4, iv (2 : Int32), rv b161, rv b166, .val (.long (0 : Int64)), .second, .unset, .unset] [(.double (FP.i2d (own_hi p1))), (.int (0 : Int32)), (.ref b166)])) rfl rfl (hb hby at_45)
    have pre189 : ∀ t, Steps p.tables e below (T188.setTop (mkF m 46 #[iv p0, iv p1, iv p2, iv p3, iv p4, iv (2 : Int32), rv b161, rv b166, .val (.long (0 : Int64)), .second, .unset, .unset] [])) t → Steps p.tables e below (s₁.setTop (entryFrame m #[(.int p0), (.int p1), (.int p2), (.int p3), (.int p4)] maxLocals)) t := fun t kt => pre186 _ (st188 _ kt)
    have N188 := Fr.snoc X188 N184 g_b166
    have O188 := O177.wr W188 g_b166
    have K188 : Keep h0 h188 [] := K177.wr W188 (Or.inr sz_b166)
    have F190 := F179.wr W188
    have F191 := F180.wr W188
    have F192 := F182.other W188 ne_b161_b166
    have F193 : Arv Z h188 b166 k166 .double (2 : Int32) [(.double (FP.i2d (own_hi p1))), (.double (0 : UInt64))] (.double (0 : UInt64)) := Arv.set Ar187 q187 S187 M187 H187 G187 rfl W188 0 rfl (Nat.le_of_ble_eq_true rfl)
    have pre194 : ∀ t, Steps p.tables e below (T188.setTop (mkF m 49 #[iv p0, iv p1, iv p2, iv p3, iv p4, iv (2 : Int32), rv b161, rv b166, .val (.long (0 : Int64)), .second, .unset, .unset] [(.int p1), (.long (0 : Int64))])) t → Steps p.tables e below (s₁.setTop (entryFrame m #[(.int p0), (.int p1), (.int p2), (.int p3), (.int p4)] maxLocals)) t := fun t kt => by
      refine pre189 _ ?_
      show Steps p.tables e below (T188.setTop (mkF m 46 #[iv p0, iv p1, iv p2, iv p3, iv p4, iv (2 : Int32), rv b161, rv b166, .val (.long (0 : Int64)), .second, .unset, .unset] [])) _
      refine XS.lload X188.here hx rfl (hb hby at_46) rfl ?_
      show Steps p.tables e below (T188.setTop (mkF m 48 #[iv p0, iv p1, iv p2, iv p3, iv p4, iv (2 : Int32), rv b161, rv b166, .val (.long (0 : Int64)), .second, .unset, .unset] [(.long (0 : Int64))])) _
      refine XS.iloadN X188.here hx rfl (hb hby at_48) rfl ?_
      exact kt
    obtain ⟨_, _, ⟨T195, L195, k195, n195⟩, -, X195, ⟨Lc195, hQ195, l195, y195, z195⟩, st195⟩ := Jvm.LawKit.callS X188 hx (y := (⟨"com/example/centroid/centroid/VectorsDotPinLaw", "lo", "(I)I"⟩ : MethodName)) hown (mvT hZ (W 5 rfl)) (mvT hZ (W 6 rfl)) (mvT hZ (W 7 rfl)) (mvT hZ (W 8 rfl)) (by decide) (backOf (W := 2) (rm_lo l Z a0 hw [] p1 h188 n0 O188) hZ (W 8 rfl) (W 7 rfl) (by decide) (by decide)) (g := (mkF m 49 #[iv p0, iv p1, iv p2, iv p3, iv p4, iv (2 : Int32), rv b161, rv b166, .val (.long (0 : Int64)), .second, .unset, .unset] [(.int p1), (.long (0 : Int64))])) rfl (by rw [hml]; rfl) (argsL := [(.int p1)]) (rest := [(.long (0 : Int64))]) (lenOf pd_7 rfl) rfl (by show 2 * 0 + _ ≤ _; exact Nat.le_of_eq rfl) (hb hby at_49) (fun _ _ => ⟨rfl, e188, (by decide : 2 + 0 ≤ _), (by decide : 4 + 0 ≤ _)⟩)
    dsimp only [Pt.U, Pt.locs, Pt.cells, Pt.slots] at X195 l195 y195 z195 st195 hQ195
    replace l195 := l195.symm
    replace y195 : 2 = k195 := y195.symm
    replace z195 : 4 = n195 := z195.symm
    subst l195 y195 z195
    obtain ⟨rfl, M195, e195⟩ := hQ195
    have N195 := Fr.app N188 M195
    have pre196 : ∀ t, Steps p.tables e below (T195.setTop (mkF m 52 #[iv p0, iv p1, iv p2, iv p3, iv p4, iv (2 : Int32), rv b161, rv b166, .val (.long (0 : Int64)), .second, .unset, .unset] [(.int (own_lo p1)), (.long (0 : Int64))])) t → Steps p.tables e below (s₁.setTop (entryFrame m #[(.int p0), (.int p1), (.int p2), (.int p3), (.int p4)] maxLocals)) t := fun t kt => pre194 _ (st195 _ kt)
    have pre197 : ∀ t, Steps p.tables e below (T195.setTop (mkF m 54 #[iv p0, iv p1, iv p2, iv p3, iv p4, iv (2 : Int32), rv b161, rv b166, .val (.long (0 : Int64)), .second, .unset, .unset] [(.int p1), (.long ((own_lo p1).toInt64)), (.long (0 : Int64))])) t → Steps p.tables e below (s₁.setTop (entryFrame m #[(.int p0), (.int p1), (.int p2), (.int p3), (.int p4)] maxLocals)) t := fun t kt => by
      refine pre196 _ ?_
      show Steps p.tables e below (T195.setTop (mkF m 52 #[iv p0, iv p1, iv p2, iv p3, iv p4, iv (2 : Int32), rv b161, rv b166, .val (.long (0 : Int64)), .second, .unset, .unset] [(.int (own_lo p1)), (.long (0 : Int64))])) _
      refine XS.i2l X195.here hx rfl (hb hby at_52) rfl ?_
      show Steps p.tables e below (T195.setTop (mkF m 53 #[iv p0, iv p1, iv p2, iv p3, iv p4, iv (2 : Int32), rv b161, rv b166, .val (.long (0 : Int64)), .second, .unset, .unset] [(.long ((own_lo p1).toInt64)), (.long (0 : Int64))])) _
      refine XS.iloadN X195.here hx rfl (hb hby at_53) rfl ?_
      exact kt
    obtain ⟨_, _, ⟨T198, L198, k198, n198⟩, -, X198, ⟨Lc198, hQ198, l198, y198, z198⟩, st198⟩ := Jvm.LawKit.callS X195 hx (y := (⟨"com/example/centroid/centroid/VectorsDotPinLaw", "hi", "(I)I"⟩ : MethodName)) hown (mvT hZ (W 9 rfl)) (mvT hZ (W 10 rfl)) (mvT hZ (W 7 rfl)) (mvT hZ (W 11 rfl)) (by decide) (backOf (W := 4) (rm_hi l Z a0 hw [] p1 h188 n0 O188) hZ (W 11 rfl) (W 7 rfl) (by decide) (by decide)) (g := (mkF m 54 #[iv p0, iv p1, iv p2, iv p3, iv p4, iv (2 : Int32), rv b161, rv b166, .val (.long (0 : Int64)), .second, .unset, .unset] [(.int p1), (.long ((own_lo p1).toInt64)), (.long (0 : Int64))])) rfl (by rw [hml]; rfl) (argsL := [(.int p1)]) (rest := [(.long ((own_lo p1).toInt64)), (.long (0 : Int64))]) (lenOf pd_7 rfl) rfl (by show 2 * 0 + _ ≤ _; exact Nat.le_of_eq rfl) (hb hby at_54) (fun _ _ => ⟨rfl, e195, (by decide : 2 + 0 ≤ _), (by decide : 4 + 0 ≤ _)⟩)
    dsimp only [Pt.U, Pt.locs, Pt.cells, Pt.slots] at X198 l198 y198 z198 st198 hQ198
    replace l198 := l198.symm
    replace y198 : 2 = k198 := y198.symm
    replace z198 : 4 = n198 := z198.symm
    subst l198 y198 z198
    obtain ⟨rfl, M198, e198⟩ := hQ198
    have N198 := Fr.app N195 M198
    have pre199 : ∀ t, Steps p.tables e below (T198.setTop (mkF m 57 #[iv p0, iv p1, iv p2, iv p3, iv p4, iv (2 : Int32), rv b161, rv b166, .val (.long (0 : Int64)), .second, .unset, .unset] [(.int (own_hi p1)), (.long ((own_lo p1).toInt64)), (.long (0 : Int64))])) t → Steps p.tables e below (s₁.setTop (entryFrame m #[(.int p0), (.int p1), (.int p2), (.int p3), (.int p4)] maxLocals)) t := fun t kt => pre197 _ (st198 _ kt)
    have pre200 : ∀ t, Steps p.tables e below (T198.setTop (mkF m 72 #[iv p0, iv p1, iv p2, iv p3, iv p4, iv (2 : Int32), rv b161, rv b166, .val (.long ((0 : Int64) + (((own_lo p1).toInt64) * ((own_hi p1).toInt64)))), .second, .unset, .unset] [(.int p2), (.int (1 : Int32)), (.ref b161)])) t → Steps p.tables e below (s₁.setTop (entryFrame m #[(.int p0), (.int p1), (.int p2), (.int p3), (.int p4)] maxLocals)) t := fun t kt => by
      refine pre199 _ ?_
      show Steps p.tables e below (T198.setTop (mkF m 57 #[iv p0, iv p1, iv p2, iv p3, iv p4, iv (2 : Int32), rv b161, rv b166, .val (.long (0 : Int64)), .second, .unset, .unset] [(.int (own_hi p1)), (.long ((own_lo p1).toInt64)), (.long (0 : Int64))])) _
      refine XS.i2l X198.here hx rfl (hb hby at_57) rfl ?_
      show Steps p.tables e below (T198.setTop (mkF m 58 #[iv p0, iv p1, iv p2, iv p3, iv p4, iv (2 : Int32), rv b161, rv b166, .val (.long (0 : Int64)), .second, .unset, .unset] [(.long ((own_hi p1).toInt64)), (.long ((own_lo p1).toInt64)), (.long (0 : Int64))])) _
      refine XS.lmul X198.here hx rfl (hb hby at_58) rfl ?_
      show Steps p.tables e below (T198.setTop (mkF m 59 #[iv p0, iv p1, iv p2, iv p3, iv p4, iv (2 : Int32), rv b161, rv b166, .val (.long (0 : Int64)), .second, .unset, .unset] [(.long (((own_lo p1).toInt64) * ((own_hi p1).toInt64))), (.long (0 : Int64))])) _
      refine XS.ladd X198.here hx rfl (hb hby at_59) rfl ?_
      show Steps p.tables e below (T198.setTop (mkF m 60 #[iv p0, iv p1, iv p2, iv p3, iv p4, iv (2 : Int32), rv b161, rv b166, .val (.long (0 : Int64)), .second, .unset, .unset] [(.long ((0 : Int64) + (((own_lo p1).toInt64) * ((own_hi p1).toInt64))))])) _
      refine XS.lstore X198.here hx rfl (hb hby at_60) rfl (l' := #[iv p0, iv p1, iv p2, iv p3, iv p4, iv (2 : Int32), rv b161, rv b166, .val (.long ((0 : Int64) + (((own_lo p1).toInt64) * ((own_hi p1).toInt64)))), .second, .unset, .unset]) rfl ?_
      show Steps p.tables e below (T198.setTop (mkF m 62 #[iv p0, iv p1, iv p2, iv p3, iv p4, iv (2 : Int32), rv b161, rv b166, .val (.long ((0 : Int64) + (((own_lo p1).toInt64) * ((own_hi p1).toInt64)))), .second, .unset, .unset] [])) _
      refine XS.iload X198.here hx rfl (hb hby at_62) rfl ?_
      show Steps p.tables e below (T198.setTop (mkF m 64 #[iv p0, iv p1, iv p2, iv p3, iv p4, iv (2 : Int32), rv b161, rv b166, .val (.long ((0 : Int64) + (((own_lo p1).toInt64) * ((own_hi p1).toInt64)))), .second, .unset, .unset] [(.int (2 : Int32))])) _
      refine XS.iconst X198.here hx rfl (hb hby at_64) ?_
      show Steps p.tables e below (T198.setTop (mkF m 65 #[iv p0, iv p1, iv p2, iv p3, iv p4, iv (2 : Int32), rv b161, rv b166, .val (.long ((0 : Int64) + (((own_lo p1).toInt64) * ((own_hi p1).toInt64)))), .second, .unset, .unset] [(.int (1 : Int32)), (.int (2 : Int32))])) _
      refine XS.icmpNo X198.here hx rfl (hb hby at_65) rfl (XT.ii_le_f (by decide)) ?_
      show Steps p.tables e below (T198.setTop (mkF m 68 #[iv p0, iv p1, iv p2, iv p3, iv p4, iv (2 : Int32), rv b161, rv b166, .val (.long ((0 : Int64) + (((own_lo p1).toInt64) * ((own_hi p1).toInt64)))), .second, .unset, .unset] [])) _
      refine XS.aload X198.here hx rfl (hb hby at_68) rfl rfl ?_
      show Steps p.tables e below (T198.setTop (mkF m 70 #[iv p0, iv p1, iv p2, iv p3, iv p4, iv (2 : Int32), rv b161, rv b166, .val (.long ((0 : Int64) + (((own_lo p1).toInt64) * ((own_hi p1).toInt64)))), .second, .unset, .unset] [(.ref b161)])) _
      refine XS.iconst X198.here hx rfl (hb hby at_70) ?_
      show Steps p.tables e below (T198.setTop (mkF m 71 #[iv p0, iv p1, iv p2, iv p3, iv p4, iv (2 : Int32), rv b161, rv b166, .val (.long ((0 : Int64) + (((own_lo p1).toInt64) * ((own_hi p1).toInt64)))), .second, .unset, .unset] [(.int (1 : Int32)), (.ref b161)])) _
      refine XS.iloadN X198.here hx rfl (hb hby at_71) rfl ?_
      exact kt
    obtain ⟨_, _, ⟨T201, L201, k201, n201⟩, -, X201, ⟨Lc201, hQ201, l201, y201, z201⟩, st201⟩ := Jvm.LawKit.callS X198 hx (y := (⟨"com/example/centroid/centroid/VectorsDotPinLaw", "lo", "(I)I"⟩ : MethodName)) hown (mvT hZ (W 5 rfl)) (mvT hZ (W 6 rfl)) (mvT hZ (W 7 rfl)) (mvT hZ (W 8 rfl)) (by decide) (backOf (W := 2) (rm_lo l Z a0 hw [] p2 h188 n0 O188) hZ (W 8 rfl) (W 7 rfl) (by decide) (by decide)) (g := (mkF m 72 #[iv p0, iv p1, iv p2, iv p3, iv p4, iv (2 : Int32), rv b161, rv b166, .val (.long ((0 : Int64) + (((own_lo p1).toInt64) * ((own_hi p1).toInt64)))), .second, .unset, .unset] [(.int p2), (.int (1 : Int32)), (.ref b161)])) rfl (by rw [hml]; rfl) (argsL := [(.int p2)]) (rest := [(.int (1 : Int32)), (.ref b161)]) (lenOf pd_7 rfl) rfl (by show 2 * 0 + _ ≤ _; exact Nat.le_of_eq rfl) (hb hby at_72) (fun _ _ => ⟨rfl, e198, (by decide : 2 + 0 ≤ _), (by decide : 4 + 0 ≤ _)⟩)
    dsimp only [Pt.U, Pt.locs, Pt.cells, Pt.slots] at X201 l201 y201 z201 st201 hQ201
    replace l201 := l201.symm
    replace y201 : 2 = k201 := y201.symm
    replace z201 : 4 = n201 := z201.symm
    subst l201 y201 z201
    obtain ⟨rfl, M201, e201⟩ := hQ201
    have N201 := Fr.app N198 M201
    have pre202 : ∀ t, Steps p.tables e below (T201.setTop (mkF m 75 #[iv p0, iv p1, iv p2, iv p3, iv p4, iv (2 : Int32), rv b161, rv b166, .val (.long ((0 : Int64) + (((own_lo p1).toInt64) * ((own_hi p1).toInt64)))), .second, .unset, .unset] [(.int (own_lo p2)), (.int (1 : Int32)), (.ref b161)])) t → Steps p.tables e below (s₁.setTop (entryFrame m #[(.int p0), (.int p1), (.int p2), (.int p3), (.int p4)] maxLocals)) t := fun t kt => pre200 _ (st201 _ kt)
    have pre203 : ∀ t, Steps p.tables e below (T201.setTop (mkF m 76 #[iv p0, iv p1, iv p2, iv p3, iv p4, iv (2 : Int32), rv b161, rv b166, .val (.long ((0 : Int64) + (((own_lo p1).toInt64) * ((own_hi p1).toInt64)))), .second, .unset, .unset] [(.double (FP.i2d (own_lo p2))), (.int (1 : Int32)), (.ref b161)])) t → Steps p.tables e below (s₁.setTop (entryFrame m #[(.int p0), (.int p1), (.int p2), (.int p3), (.int p4)] maxLocals)) t := fun t kt => by
      refine pre202 _ ?_
      show Steps p.tables e below (T201.setTop (mkF m 75 #[iv p0, iv p1, iv p2, iv p3, iv p4, iv (2 : Int32), rv b161, rv b166, .val (.long ((0 : Int64) + (((own_lo p1).toInt64) * ((own_hi p1).toInt64)))), .second, .unset, .unset] [(.int (own_lo p2)), (.int (1 : Int32)), (.ref b161)])) _
      refine XS.i2dS X201.here hx rfl (hb hby at_75) rfl rfl ?_
      exact kt
    obtain ⟨c204, Ar204, q204, S204, M204, H204, G204⟩ := id F192
    have i204 : ¬ ((1 : Int32) < 0 ∨ c204.slots.size ≤ ((1 : Int32)).toNatClampNeg) := inb_of S204 ⟨by decide, by decide⟩
    obtain ⟨T205, h205, X205, e205, W205, st205⟩ := stD X201 hx hZ e201 Ar204 (j := (1 : Int32)) i204 (g := (mkF m 76 #[iv p0, iv p1, iv p2, iv p3, iv p4, iv (2 : Int32), rv b161, rv b166, .val (.long ((0 : Int64) + (((own_lo p1).toInt64) * ((own_hi p1).toInt64)))), .second, .unset, .unset] [(.double (FP.i2d (own_lo p2))), (.int (1 : Int32)), (.ref b161)])) rfl rfl (hb hby at_76)
    have pre206 : ∀ t, Steps p.tables e below (T205.setTop (mkF m 77 #[iv p0, iv p1, iv p2, iv p3, iv p4, iv (2 : Int32), rv b161, rv b166, .val (.long ((0 : Int64) + (((own_lo p1).toInt64) * ((own_hi p1).toInt64)))), .second, .unset, .unset] [])) t → Steps p.tables e below (s₁.setTop (entryFrame m #[(.int p0), (.int p1), (.int p2), (.int p3), (.int p4)] maxLocals)) t := fun t kt => pre203 _ (st205 _ kt)
    have N205 := Fr.snoc X205 N201 g_b161
    have O205 := O188.wr W205 g_b161
    have K205 : Keep h0 h205 [] := K188.wr W205 (Or.inr sz_b161)
    have F207 := F190.wr W205
    have F208 := F191.wr W205
    have F209 := F193.other W205 (fun q => ne_b161_b166 q.symm)
    have F210 : Arv Z h205 b161 k161 .double (2 : Int32) [(.double (FP.i2d (own_lo p1))), (.double (FP.i2d (own_lo p2)))] (.double (0 : UInt64)) := Arv.set Ar204 q204 S204 M204 H204 G204 rfl W205 1 rfl (Nat.le_of_ble_eq_true rfl)
    have pre211 : ∀ t, Steps p.tables e below (T205.setTop (mkF m 81 #[iv p0, iv p1, iv p2, iv p3, iv p4, iv (2 : Int32), rv b161, rv b166, .val (.long ((0 : Int64) + (((own_lo p1).toInt64) * ((own_hi p1).toInt64)))), .second, .unset, .unset] [(.int p2), (.int (1 : Int32)), (.ref b166)])) t → Steps p.tables e below (s₁.setTop (entryFrame m #[(.int p0), (.int p1), (.int p2), (.int p3), (.int p4)] maxLocals)) t := fun t kt => by
      refine pre206 _ ?_
      show Steps p.tables e below (T205.setTop (mkF m 77 #[iv p0, iv p1, iv p2, iv p3, iv p4, iv (2 : Int32), rv b161, rv b166, .val (.long ((0 : Int64) + (((own_lo p1).toInt64) * ((own_hi p1).toInt64)))), .second, .unset, .unset] [])) _
      refine XS.aload X205.here hx rfl (hb hby at_77) rfl rfl ?_
      show Steps p.tables e below (T205.setTop (mkF m 79 #[iv p0, iv p1, iv p2, iv p3, iv p4, iv (2 : Int32), rv b161, rv b166, .val (.long ((0 : Int64) + (((own_lo p1).toInt64) * ((own_hi p1).toInt64)))), .second, .unset, .unset] [(.ref b166)])) _
      refine XS.iconst X205.here hx rfl (hb hby at_79) ?_
      show Steps p.tables e below (T205.setTop (mkF m 80 #[iv p0, iv p1, iv p2, iv p3, iv p4, iv (2 : Int32), rv b161, rv b166, .val (.long ((0 : Int64) + (((own_lo p1).toInt64) * ((own_hi p1).toInt64)))), .second, .unset, .unset] [(.int (1 : Int32)), (.ref b166)])) _
      refine XS.iloadN X205.here hx rfl (hb hby at_80) rfl ?_
      exact kt
    obtain ⟨_, _, ⟨T212, L212, k212, n212⟩, -, X212, ⟨Lc212, hQ212, l212, y212, z212⟩, st212⟩ := Jvm.LawKit.callS X205 hx (y := (⟨"com/example/centroid/centroid/VectorsDotPinLaw", "hi", "(I)I"⟩ : MethodName)) hown (mvT hZ (W 9 rfl)) (mvT hZ (W 10 rfl)) (mvT hZ (W 7 rfl)) (mvT hZ (W 11 rfl)) (by decide) (backOf (W := 2) (rm_hi l Z a0 hw [] p2 h205 n0 O205) hZ (W 11 rfl) (W 7 rfl) (by decide) (by decide)) (g := (mkF m 81 #[iv p0, iv p1, iv p2, iv p3, iv p4, iv (2 : Int32), rv b161, rv b166, .val (.long ((0 : Int64) + (((own_lo p1).toInt64) * ((own_hi p1).toInt64)))), .second, .unset, .unset] [(.int p2), (.int (1 : Int32)), (.ref b166)])) rfl (by rw [hml]; rfl) (argsL := [(.int p2)]) (rest := [(.int (1 : Int32)), (.ref b166)]) (lenOf pd_7 rfl) rfl (by show 2 * 0 + _ ≤ _; exact Nat.le_of_eq rfl) (hb hby at_81) (fun _ _ => ⟨rfl, e205, (by decide : 2 + 0 ≤ _), (by decide : 4 + 0 ≤ _)⟩)
    dsimp only [Pt.U, Pt.locs, Pt.cells, Pt.slots] at X212 l212 y212 z212 st212 hQ212
    replace l212 := l212.symm
    replace y212 : 2 = k212 := y212.symm
    replace z212 : 4 = n212 := z212.symm
    subst l212 y212 z212
    obtain ⟨rfl, M212, e212⟩ := hQ212
    have N212 := Fr.app N205 M212
    have pre213 : ∀ t, Steps p.tables e below (T212.setTop (mkF m 84 #[iv p0, iv p1, iv p2, iv p3, iv p4, iv (2 : Int32), rv b161, rv b166, .val (.long ((0 : Int64) + (((own_lo p1).toInt64) * ((own_hi p1).toInt64)))), .second, .unset, .unset] [(.int (own_hi p2)), (.int (1 : Int32)), (.ref b166)])) t → Steps p.tables e below (s₁.setTop (entryFrame m #[(.int p0), (.int p1), (.int p2), (.int p3), (.int p4)] maxLocals)) t := fun t kt => pre211 _ (st212 _ kt)
    have pre214 : ∀ t, Steps p.tables e below (T212.setTop (mkF m 85 #[iv p0, iv p1, iv p2, iv p3, iv p4, iv (2 : Int32), rv b161, rv b166, .val (.long ((0 : Int64) + (((own_lo p1).toInt64) * ((own_hi p1).toInt64)))), .second, .unset, .unset] [(.double (FP.i2d (own_hi p2))), (.int (1 : Int32)), (.ref b166)])) t → Steps p.tables e below (s₁.setTop (entryFrame m #[(.int p0), (.int p1), (.int p2), (.int p3), (.int p4)] maxLocals)) t := fun t kt => by
      refine pre213 _ ?_
      show Steps p.tables e below (T212.setTop (mkF m 84 #[iv p0, iv p1, iv p2, iv p3, iv p4, iv (2 : Int32), rv b161, rv b166, .val (.long ((0 : Int64) + (((own_lo p1).toInt64) * ((own_hi p1).toInt64)))), .second, .unset, .unset] [(.int (own_hi p2)), (.int (1 : Int32)), (.ref b166)])) _
      refine XS.i2dS X212.here hx rfl (hb hby at_84) rfl rfl ?_
      exact kt
    obtain ⟨c215, Ar215, q215, S215, M215, H215, G215⟩ := id F209
    have i215 : ¬ ((1 : Int32) < 0 ∨ c215.slots.size ≤ ((1 : Int32)).toNatClampNeg) := inb_of S215 ⟨by decide, by decide⟩
    obtain ⟨T216, h216, X216, e216, W216, st216⟩ := stD X212 hx hZ e212 Ar215 (j := (1 : Int32)) i215 (g := (mkF m 85 #[iv p0, iv p1, iv p2, iv p3, iv p4, iv (2 : Int32), rv b161, rv b166, .val (.long ((0 : Int64) + (((own_lo p1).toInt64) * ((own_hi p1).toInt64)))), .second, .unset, .unset] [(.double (FP.i2d (own_hi p2))), (.int (1 : Int32)), (.ref b166)])) rfl rfl (hb hby at_85)
    have pre217 : ∀ t, Steps p.tables e below (T216.setTop (mkF m 86 #[iv p0, iv p1, iv p2, iv p3, iv p4, iv (2 : Int32), rv b161, rv b166, .val (.long ((0 : Int64) + (((own_lo p1).toInt64) * ((own_hi p1).toInt64)))), .second, .unset, .unset] [])) t → Steps p.tables e below (s₁.setTop (entryFrame m #[(.int p0), (.int p1), (.int p2), (.int p3), (.int p4)] maxLocals)) t := fun t kt => pre214 _ (st216 _ kt)
    have N216 := Fr.snoc X216 N212 g_b166
    have O216 := O205.wr W216 g_b166
    have K216 : Keep h0 h216 [] := K205.wr W216 (Or.inr sz_b166)
    have F218 := F207.wr W216
    have F219 := F208.wr W216
    have F220 := F210.other W216 ne_b161_b166
    have F221 : Arv Z h216 b166 k166 .double (2 : Int32) [(.double (FP.i2d (own_hi p1))), (.double (FP.i2d (own_hi p2)))] (.double (0 : UInt64)) := Arv.set Ar215 q215 S215 M215 H215 G215 rfl W216 1 rfl (Nat.le_of_ble_eq_true rfl)
    have pre222 : ∀ t, Steps p.tables e below (T216.setTop (mkF m 89 #[iv p0, iv p1, iv p2, iv p3, iv p4, iv (2 : Int32), rv b161, rv b166, .val (.long ((0 : Int64) + (((own_lo p1).toInt64) * ((own_hi p1).toInt64)))), .second, .unset, .unset] [(.int p2), (.long ((0 : Int64) + (((own_lo p1).toInt64) * ((own_hi p1).toInt64))))])) t → Steps p.tables e below (s₁.setTop (entryFrame m #[(.int p0), (.int p1), (.int p2), (.int p3), (.int p4)] maxLocals)) t := fun t kt => by
      refine pre217 _ ?_
      show Steps p.tables e below (T216.setTop (mkF m 86 #[iv p0, iv p1, iv p2, iv p3, iv p4, iv (2 : Int32), rv b161, rv b166, .val (.long ((0 : Int64) + (((own_lo p1).toInt64) * ((own_hi p1).toInt64)))), .second, .unset, .unset] [])) _
      refine XS.lload X216.here hx rfl (hb hby at_86) rfl ?_
      show Steps p.tables e below (T216.setTop (mkF m 88 #[iv p0, iv p1, iv p2, iv p3, iv p4, iv (2 : Int32), rv b161, rv b166, .val (.long ((0 : Int64) + (((own_lo p1).toInt64) * ((own_hi p1).toInt64)))), .second, .unset, .unset] [(.long ((0 : Int64) + (((own_lo p1).toInt64) * ((own_hi p1).toInt64))))])) _
      refine XS.iloadN X216.here hx rfl (hb hby at_88) rfl ?_
      exact kt
    obtain ⟨_, _, ⟨T223, L223, k223, n223⟩, -, X223, ⟨Lc223, hQ223, l223, y223, z223⟩, st223⟩ := Jvm.LawKit.callS X216 hx (y := (⟨"com/example/centroid/centroid/VectorsDotPinLaw", "lo", "(I)I"⟩ : MethodName)) hown (mvT hZ (W 5 rfl)) (mvT hZ (W 6 rfl)) (mvT hZ (W 7 rfl)) (mvT hZ (W 8 rfl)) (by decide) (backOf (W := 2) (rm_lo l Z a0 hw [] p2 h216 n0 O216) hZ (W 8 rfl) (W 7 rfl) (by decide) (by decide)) (g := (mkF m 89 #[iv p0, iv p1, iv p2, iv p3, iv p4, iv (2 : Int32), rv b161, rv b166, .val (.long ((0 : Int64) + (((own_lo p1).toInt64) * ((own_hi p1).toInt64)))), .second, .unset, .unset] [(.int p2), (.long ((0 : Int64) + (((own_lo p1).toInt64) * ((own_hi p1).toInt64))))])) rfl (by rw [hml]; rfl) (argsL := [(.int p2)]) (rest := [(.long ((0 : Int64) + (((own_lo p1).toInt64) * ((own_hi p1).toInt64))))]) (lenOf pd_7 rfl) rfl (by show 2 * 0 + _ ≤ _; exact Nat.le_of_eq rfl) (hb hby at_89) (fun _ _ => ⟨rfl, e216, (by decide : 2 + 0 ≤ _), (by decide : 4 + 0 ≤ _)⟩)
    dsimp only [Pt.U, Pt.locs, Pt.cells, Pt.slots] at X223 l223 y223 z223 st223 hQ223
    replace l223 := l223.symm
    replace y223 : 2 = k223 := y223.symm
    replace z223 : 4 = n223 := z223.symm
    subst l223 y223 z223
    obtain ⟨rfl, M223, e223⟩ := hQ223
    have N223 := Fr.app N216 M223
    have pre224 : ∀ t, Steps p.tables e below (T223.setTop (mkF m 92 #[iv p0, iv p1, iv p2, iv p3, iv p4, iv (2 : Int32), rv b161, rv b166, .val (.long ((0 : Int64) + (((own_lo p1).toInt64) * ((own_hi p1).toInt64)))), .second, .unset, .unset] [(.int (own_lo p2)), (.long ((0 : Int64) + (((own_lo p1).toInt64) * ((own_hi p1).toInt64))))])) t → Steps p.tables e below (s₁.setTop (entryFrame m #[(.int p0), (.int p1), (.int p2), (.int p3), (.int p4)] maxLocals)) t := fun t kt => pre222 _ (st223 _ kt)
    have pre225 : ∀ t, Steps p.tables e below (T223.setTop (mkF m 94 #[iv p0, iv p1, iv p2, iv p3, iv p4, iv (2 : Int32), rv b161, rv b166, .val (.long ((0 : Int64) + (((own_lo p1).toInt64) * ((own_hi p1).toInt64)))), .second, .unset, .unset] [(.int p2), (.long ((own_lo p2).toInt64)), (.long ((0 : Int64) + (((own_lo p1).toInt64) * ((own_hi p1).toInt64))))])) t → Steps p.tables e below (s₁.setTop (entryFrame m #[(.int p0), (.int p1), (.int p2), (.int p3), (.int p4)] maxLocals)) t := fun t kt => by
      refine pre224 _ ?_
      show Steps p.tables e below (T223.setTop (mkF m 92 #[iv p0, iv p1, iv p2, iv p3, iv p4, iv (2 : Int32), rv b161, rv b166, .val (.long ((0 : Int64) + (((own_lo p1).toInt64) * ((own_hi p1).toInt64)))), .second, .unset, .unset] [(.int (own_lo p2)), (.long ((0 : Int64) + (((own_lo p1).toInt64) * ((own_hi p1).toInt64))))])) _
      refine XS.i2l X223.here hx rfl (hb hby at_92) rfl ?_
      show Steps p.tables e below (T223.setTop (mkF m 93 #[iv p0, iv p1, iv p2, iv p3, iv p4, iv (2 : Int32), rv b161, rv b166, .val (.long ((0 : Int64) + (((own_lo p1).toInt64) * ((own_hi p1).toInt64)))), .second, .unset, .unset] [(.long ((own_lo p2).toInt64)), (.long ((0 : Int64) + (((own_lo p1).toInt64) * ((own_hi p1).toInt64))))])) _
      refine XS.iloadN X223.here hx rfl (hb hby at_93) rfl ?_
      exact kt
    obtain ⟨_, _, ⟨T226, L226, k226, n226⟩, -, X226, ⟨Lc226, hQ226, l226, y226, z226⟩, st226⟩ := Jvm.LawKit.callS X223 hx (y := (⟨"com/example/centroid/centroid/VectorsDotPinLaw", "hi", "(I)I"⟩ : MethodName)) hown (mvT hZ (W 9 rfl)) (mvT hZ (W 10 rfl)) (mvT hZ (W 7 rfl)) (mvT hZ (W 11 rfl)) (by decide) (backOf (W := 4) (rm_hi l Z a0 hw [] p2 h216 n0 O216) hZ (W 11 rfl) (W 7 rfl) (by decide) (by decide)) (g := (mkF m 94 #[iv p0, iv p1, iv p2, iv p3, iv p4, iv (2 : Int32), rv b161, rv b166, .val (.long ((0 : Int64) + (((own_lo p1).toInt64) * ((own_hi p1).toInt64)))), .second, .unset, .unset] [(.int p2), (.long ((own_lo p2).toInt64)), (.long ((0 : Int64) + (((own_lo p1).toInt64) * ((own_hi p1).toInt64))))])) rfl (by rw [hml]; rfl) (argsL := [(.int p2)]) (rest := [(.long ((own_lo p2).toInt64)), (.long ((0 : Int64) + (((own_lo p1).toInt64) * ((own_hi p1).toInt64))))]) (lenOf pd_7 rfl) rfl (by show 2 * 0 + _ ≤ _; exact Nat.le_of_eq rfl) (hb hby at_94) (fun _ _ => ⟨rfl, e223, (by decide : 2 + 0 ≤ _), (by decide : 4 + 0 ≤ _)⟩)
    dsimp only [Pt.U, Pt.locs, Pt.cells, Pt.slots] at X226 l226 y226 z226 st226 hQ226
    replace l226 := l226.symm
    replace y226 : 2 = k226 := y226.symm
    replace z226 : 4 = n226 := z226.symm
    subst l226 y226 z226
    obtain ⟨rfl, M226, e226⟩ := hQ226
    have N226 := Fr.app N223 M226
    have pre227 : ∀ t, Steps p.tables e below (T226.setTop (mkF m 97 #[iv p0, iv p1, iv p2, iv p3, iv p4, iv (2 : Int32), rv b161, rv b166, .val (.long ((0 : Int64) + (((own_lo p1).toInt64) * ((own_hi p1).toInt64)))), .second, .unset, .unset] [(.int (own_hi p2)), (.long ((own_lo p2).toInt64)), (.long ((0 : Int64) + (((own_lo p1).toInt64) * ((own_hi p1).toInt64))))])) t → Steps p.tables e below (s₁.setTop (entryFrame m #[(.int p0), (.int p1), (.int p2), (.int p3), (.int p4)] maxLocals)) t := fun t kt => pre225 _ (st226 _ kt)
    have pre228 : ∀ t, Steps p.tables e below (T226.setTop (mkF m 190 #[iv p0, iv p1, iv p2, iv p3, iv p4, iv (2 : Int32), rv b161, rv b166, .val (.long (((0 : Int64) + (((own_lo p1).toInt64) * ((own_hi p1).toInt64))) + (((own_lo p2).toInt64) * ((own_hi p2).toInt64)))), .second, .unset, .unset] [(.ref b166), (.ref b161)])) t → Steps p.tables e below (s₁.setTop (entryFrame m #[(.int p0), (.int p1), (.int p2), (.int p3), (.int p4)] maxLocals)) t := fun t kt => by
      refine pre227 _ ?_
      show Steps p.tables e below (T226.setTop (mkF m 97 #[iv p0, iv p1, iv p2, iv p3, iv p4, iv (2 : Int32), rv b161, rv b166, .val (.long ((0 : Int64) + (((own_lo p1).toInt64) * ((own_hi p1).toInt64)))), .second, .unset, .unset] [(.int (own_hi p2)), (.long ((own_lo p2).toInt64)), (.long ((0 : Int64) + (((own_lo p1).toInt64) * ((own_hi p1).toInt64))))])) _
      refine XS.i2l X226.here hx rfl (hb hby at_97) rfl ?_
      show Steps p.tables e below (T226.setTop (mkF m 98 #[iv p0, iv p1, iv p2, iv p3, iv p4, iv (2 : Int32), rv b161, rv b166, .val (.long ((0 : Int64) + (((own_lo p1).toInt64) * ((own_hi p1).toInt64)))), .second, .unset, .unset] [(.long ((own_hi p2).toInt64)), (.long ((own_lo p2).toInt64)), (.long ((0 : Int64) + (((own_lo p1).toInt64) * ((own_hi p1).toInt64))))])) _
      refine XS.lmul X226.here hx rfl (hb hby at_98) rfl ?_
      show Steps p.tables e below (T226.setTop (mkF m 99 #[iv p0, iv p1, iv p2, iv p3, iv p4, iv (2 : Int32), rv b161, rv b166, .val (.long ((0 : Int64) + (((own_lo p1).toInt64) * ((own_hi p1).toInt64)))), .second, .unset, .unset] [(.long (((own_lo p2).toInt64) * ((own_hi p2).toInt64))), (.long ((0 : Int64) + (((own_lo p1).toInt64) * ((own_hi p1).toInt64))))])) _
      refine XS.ladd X226.here hx rfl (hb hby at_99) rfl ?_
      show Steps p.tables e below (T226.setTop (mkF m 100 #[iv p0, iv p1, iv p2, iv p3, iv p4, iv (2 : Int32), rv b161, rv b166, .val (.long ((0 : Int64) + (((own_lo p1).toInt64) * ((own_hi p1).toInt64)))), .second, .unset, .unset] [(.long (((0 : Int64) + (((own_lo p1).toInt64) * ((own_hi p1).toInt64))) + (((own_lo p2).toInt64) * ((own_hi p2).toInt64))))])) _
      refine XS.lstore X226.here hx rfl (hb hby at_100) rfl (l' := #[iv p0, iv p1, iv p2, iv p3, iv p4, iv (2 : Int32), rv b161, rv b166, .val (.long (((0 : Int64) + (((own_lo p1).toInt64) * ((own_hi p1).toInt64))) + (((own_lo p2).toInt64) * ((own_hi p2).toInt64)))), .second, .unset, .unset]) rfl ?_
      show Steps p.tables e below (T226.setTop (mkF m 102 #[iv p0, iv p1, iv p2, iv p3, iv p4, iv (2 : Int32), rv b161, rv b166, .val (.long (((0 : Int64) + (((own_lo p1).toInt64) * ((own_hi p1).toInt64))) + (((own_lo p2).toInt64) * ((own_hi p2).toInt64)))), .second, .unset, .unset] [])) _
      refine XS.iload X226.here hx rfl (hb hby at_102) rfl ?_
      show Steps p.tables e below (T226.setTop (mkF m 104 #[iv p0, iv p1, iv p2, iv p3, iv p4, iv (2 : Int32), rv b161, rv b166, .val (.long (((0 : Int64) + (((own_lo p1).toInt64) * ((own_hi p1).toInt64))) + (((own_lo p2).toInt64) * ((own_hi p2).toInt64)))), .second, .unset, .unset] [(.int (2 : Int32))])) _
      refine XS.iconst X226.here hx rfl (hb hby at_104) ?_
      show Steps p.tables e below (T226.setTop (mkF m 105 #[iv p0, iv p1, iv p2, iv p3, iv p4, iv (2 : Int32), rv b161, rv b166, .val (.long (((0 : Int64) + (((own_lo p1).toInt64) * ((own_hi p1).toInt64))) + (((own_lo p2).toInt64) * ((own_hi p2).toInt64)))), .second, .unset, .unset] [(.int (2 : Int32)), (.int (2 : Int32))])) _
      refine XS.icmpYes X226.here hx rfl (pc0 := 105) (pc' := 142) rfl (hb hby at_105) rfl (XT.ii_le_t (by decide)) (by decide) (by decide) ?_
      show Steps p.tables e below (T226.setTop (mkF m 142 #[iv p0, iv p1, iv p2, iv p3, iv p4, iv (2 : Int32), rv b161, rv b166, .val (.long (((0 : Int64) + (((own_lo p1).toInt64) * ((own_hi p1).toInt64))) + (((own_lo p2).toInt64) * ((own_hi p2).toInt64)))), .second, .unset, .unset] [])) _
      refine XS.iload X226.here hx rfl (hb hby at_142) rfl ?_
      show Steps p.tables e below (T226.setTop (mkF m 144 #[iv p0, iv p1, iv p2, iv p3, iv p4, iv (2 : Int32), rv b161, rv b166, .val (.long (((0 : Int64) + (((own_lo p1).toInt64) * ((own_hi p1).toInt64))) + (((own_lo p2).toInt64) * ((own_hi p2).toInt64)))), .second, .unset, .unset] [(.int (2 : Int32))])) _
      refine XS.iconst X226.here hx rfl (hb hby at_144) ?_
      show Steps p.tables e below (T226.setTop (mkF m 145 #[iv p0, iv p1, iv p2, iv p3, iv p4, iv (2 : Int32), rv b161, rv b166, .val (.long (((0 : Int64) + (((own_lo p1).toInt64) * ((own_hi p1).toInt64))) + (((own_lo p2).toInt64) * ((own_hi p2).toInt64)))), .second, .unset, .unset] [(.int (3 : Int32)), (.int (2 : Int32))])) _
      refine XS.icmpYes X226.here hx rfl (pc0 := 145) (pc' := 186) rfl (hb hby at_145) rfl (XT.ii_le_t (by decide)) (by decide) (by decide) ?_
      show Steps p.tables e below (T226.setTop (mkF m 186 #[iv p0, iv p1, iv p2, iv p3, iv p4, iv (2 : Int32), rv b161, rv b166, .val (.long (((0 : Int64) + (((own_lo p1).toInt64) * ((own_hi p1).toInt64))) + (((own_lo p2).toInt64) * ((own_hi p2).toInt64)))), .second, .unset, .unset] [])) _
      refine XS.aload X226.here hx rfl (hb hby at_186) rfl rfl ?_
      show Steps p.tables e below (T226.setTop (mkF m 188 #[iv p0, iv p1, iv p2, iv p3, iv p4, iv (2 : Int32), rv b161, rv b166, .val (.long (((0 : Int64) + (((own_lo p1).toInt64) * ((own_hi p1).toInt64))) + (((own_lo p2).toInt64) * ((own_hi p2).toInt64)))), .second, .unset, .unset] [(.ref b161)])) _
      refine XS.aload X226.here hx rfl (hb hby at_188) rfl rfl ?_
      exact kt
    obtain ⟨_, _, ⟨T229, L229, k229, n229⟩, -, X229, ⟨Lc229, hQ229, l229, y229, z229⟩, st229⟩ := Jvm.LawKit.callS X226 hx (y := (⟨"com/example/centroid/centroid/Vectors", "dot", "([D[D)D"⟩ : MethodName)) hown (mvT hZ (W 1 rfl)) (mvT hZ (W 2 rfl)) (mvT hZ (W 3 rfl)) (mvT hZ (W 4 rfl)) (by decide) (backOf (W := 0) (rm_dot2 l Z a0 hw [] b161 b166 k161 k166 ((FP.i2d (own_lo p1))) ((FP.i2d (own_lo p2))) ((FP.i2d (own_hi p1))) ((FP.i2d (own_hi p2))) ((own_lo p1).toInt) ((own_lo p2).toInt) ((own_hi p1).toInt) ((own_hi p2).toInt) h216 n0 O216 F220 F221 (own_D_i _ (own_lo_b _)) (own_D_i _ (own_lo_b _)) (own_D_i _ (own_hi_b _)) (own_D_i _ (own_hi_b _))) hZ (W 4 rfl) (W 3 rfl) (by decide) (by decide)) (g := (mkF m 190 #[iv p0, iv p1, iv p2, iv p3, iv p4, iv (2 : Int32), rv b161, rv b166, .val (.long (((0 : Int64) + (((own_lo p1).toInt64) * ((own_hi p1).toInt64))) + (((own_lo p2).toInt64) * ((own_hi p2).toInt64)))), .second, .unset, .unset] [(.ref b166), (.ref b161)])) rfl (by rw [hml]; rfl) (argsL := [(.ref b161), (.ref b166)]) (rest := []) (lenOf pd_6 rfl) rfl (by show 2 * 0 + _ ≤ _; exact Nat.le_of_eq rfl) (hb hby at_190) (fun _ _ => ⟨rfl, e226, (by decide : 2 + 0 ≤ _), (by decide : 4 + 0 ≤ _)⟩)
    dsimp only [Pt.U, Pt.locs, Pt.cells, Pt.slots] at X229 l229 y229 z229 st229 hQ229
    replace l229 := l229.symm
    replace y229 : 2 = k229 := y229.symm
    replace z229 : 4 = n229 := z229.symm
    subst l229 y229 z229
    obtain ⟨rd_229, rfl, M229, e229, P229_0⟩ := hQ229
    have N229 := Fr.app N226 M229
    have pre230 : ∀ t, Steps p.tables e below (T229.setTop (mkF m 193 #[iv p0, iv p1, iv p2, iv p3, iv p4, iv (2 : Int32), rv b161, rv b166, .val (.long (((0 : Int64) + (((own_lo p1).toInt64) * ((own_hi p1).toInt64))) + (((own_lo p2).toInt64) * ((own_hi p2).toInt64)))), .second, .unset, .unset] [(.double rd_229)])) t → Steps p.tables e below (s₁.setTop (entryFrame m #[(.int p0), (.int p1), (.int p2), (.int p3), (.int p4)] maxLocals)) t := fun t kt => pre228 _ (st229 _ kt)
    have pre231 : ∀ t, Steps p.tables e below (T229.setTop (mkF m 209 #[iv p0, iv p1, iv p2, iv p3, iv p4, iv (2 : Int32), rv b161, rv b166, .val (.long (((0 : Int64) + (((own_lo p1).toInt64) * ((own_hi p1).toInt64))) + (((own_lo p2).toInt64) * ((own_hi p2).toInt64)))), .second, .val (.double rd_229), .second] [(.int (1 : Int32))])) t → Steps p.tables e below (s₁.setTop (entryFrame m #[(.int p0), (.int p1), (.int p2), (.int p3), (.int p4)] maxLocals)) t := fun t kt => by
      refine pre230 _ ?_
      show Steps p.tables e below (T229.setTop (mkF m 193 #[iv p0, iv p1, iv p2, iv p3, iv p4, iv (2 : Int32), rv b161, rv b166, .val (.long (((0 : Int64) + (((own_lo p1).toInt64) * ((own_hi p1).toInt64))) + (((own_lo p2).toInt64) * ((own_hi p2).toInt64)))), .second, .unset, .unset] [(.double rd_229)])) _
      refine XS.dstore X229.here hx rfl (hb hby at_193) rfl (l' := #[iv p0, iv p1, iv p2, iv p3, iv p4, iv (2 : Int32), rv b161, rv b166, .val (.long (((0 : Int64) + (((own_lo p1).toInt64) * ((own_hi p1).toInt64))) + (((own_lo p2).toInt64) * ((own_hi p2).toInt64)))), .second, .val (.double rd_229), .second]) rfl ?_
      show Steps p.tables e below (T229.setTop (mkF m 195 #[iv p0, iv p1, iv p2, iv p3, iv p4, iv (2 : Int32), rv b161, rv b166, .val (.long (((0 : Int64) + (((own_lo p1).toInt64) * ((own_hi p1).toInt64))) + (((own_lo p2).toInt64) * ((own_hi p2).toInt64)))), .second, .val (.double rd_229), .second] [])) _
      refine XS.dload X229.here hx rfl (hb hby at_195) rfl ?_
      show Steps p.tables e below (T229.setTop (mkF m 197 #[iv p0, iv p1, iv p2, iv p3, iv p4, iv (2 : Int32), rv b161, rv b166, .val (.long (((0 : Int64) + (((own_lo p1).toInt64) * ((own_hi p1).toInt64))) + (((own_lo p2).toInt64) * ((own_hi p2).toInt64)))), .second, .val (.double rd_229), .second] [(.double rd_229)])) _
      refine XS.lload X229.here hx rfl (hb hby at_197) rfl ?_
      show Steps p.tables e below (T229.setTop (mkF m 199 #[iv p0, iv p1, iv p2, iv p3, iv p4, iv (2 : Int32), rv b161, rv b166, .val (.long (((0 : Int64) + (((own_lo p1).toInt64) * ((own_hi p1).toInt64))) + (((own_lo p2).toInt64) * ((own_hi p2).toInt64)))), .second, .val (.double rd_229), .second] [(.long (((0 : Int64) + (((own_lo p1).toInt64) * ((own_hi p1).toInt64))) + (((own_lo p2).toInt64) * ((own_hi p2).toInt64)))), (.double rd_229)])) _
      refine XS.l2dS X229.here hx rfl (hb hby at_199) rfl rfl ?_
      show Steps p.tables e below (T229.setTop (mkF m 200 #[iv p0, iv p1, iv p2, iv p3, iv p4, iv (2 : Int32), rv b161, rv b166, .val (.long (((0 : Int64) + (((own_lo p1).toInt64) * ((own_hi p1).toInt64))) + (((own_lo p2).toInt64) * ((own_hi p2).toInt64)))), .second, .val (.double rd_229), .second] [(.double (FP.l2d (((0 : Int64) + (((own_lo p1).toInt64) * ((own_hi p1).toInt64))) + (((own_lo p2).toInt64) * ((own_hi p2).toInt64))))), (.double rd_229)])) _
      refine XS.dcmpS X229.here hx rfl (hb hby at_200) rfl (v := (0 : Int32)) (own_D_cmp P229_0 (own_LD (own_L_add (own_L_add own_L_0 (own_L_mul (own_L_i _ (own_lo_b _)) (own_L_i _ (own_hi_b _)) (by decide)) (by decide)) (own_L_mul (own_L_i _ (own_lo_b _)) (own_L_i _ (own_hi_b _)) (by decide)) (by decide)) (by decide)) _) ?_
      show Steps p.tables e below (T229.setTop (mkF m 201 #[iv p0, iv p1, iv p2, iv p3, iv p4, iv (2 : Int32), rv b161, rv b166, .val (.long (((0 : Int64) + (((own_lo p1).toInt64) * ((own_hi p1).toInt64))) + (((own_lo p2).toInt64) * ((own_hi p2).toInt64)))), .second, .val (.double rd_229), .second] [(.int (0 : Int32))])) _
      refine XS.ifNo X229.here hx rfl (hb hby at_201) rfl (XT.i0_ne_f (by decide)) ?_
      show Steps p.tables e below (T229.setTop (mkF m 204 #[iv p0, iv p1, iv p2, iv p3, iv p4, iv (2 : Int32), rv b161, rv b166, .val (.long (((0 : Int64) + (((own_lo p1).toInt64) * ((own_hi p1).toInt64))) + (((own_lo p2).toInt64) * ((own_hi p2).toInt64)))), .second, .val (.double rd_229), .second] [])) _
      refine XS.iconst X229.here hx rfl (hb hby at_204) ?_
      show Steps p.tables e below (T229.setTop (mkF m 205 #[iv p0, iv p1, iv p2, iv p3, iv p4, iv (2 : Int32), rv b161, rv b166, .val (.long (((0 : Int64) + (((own_lo p1).toInt64) * ((own_hi p1).toInt64))) + (((own_lo p2).toInt64) * ((own_hi p2).toInt64)))), .second, .val (.double rd_229), .second] [(.int (1 : Int32))])) _
      refine XS.goto X229.here hx rfl (pc0 := 205) (pc' := 209) rfl (hb hby at_205) (by decide) (by decide) ?_
      exact kt
    obtain ⟨fs, hr, hrun, hended, hW, hsame⟩ := X229.leave (v := some (.int (1 : Int32))) (fun h => by rw [Bd.returns] at h; cases h)
    refine ⟨_, _, pre231 _ (retN X229 hx (t := .boolean) Bd.returns (by simp) (hb hby at_209) hr), hrun, hended, _, _, rfl, ?_, ⟨_, rfl⟩, hW, hsame.mono (by decide) (by decide)⟩
    show Q_law Z p0 p1 p2 p3 p4 h0 n0 _ T229.heap _
    rw [e229]
    exact ⟨rfl, N229⟩
  · rw [hv99] at pre98
    have pre232 : ∀ t, Steps p.tables e below (s₁.setTop (mkF m 10 #[iv p0, iv p1, iv p2, iv p3, iv p4, iv (3 : Int32), .unset, .unset, .unset, .unset, .unset, .unset] [(.int (3 : Int32))])) t → Steps p.tables e below (s₁.setTop (entryFrame m #[(.int p0), (.int p1), (.int p2), (.int p3), (.int p4)] maxLocals)) t := fun t kt => by
      refine pre98 _ ?_
      show Steps p.tables e below (s₁.setTop (mkF m 8 #[iv p0, iv p1, iv p2, iv p3, iv p4, iv (3 : Int32), .unset, .unset, .unset, .unset, .unset, .unset] [])) _
      refine XS.iload X0.here hx rfl (hb hby at_8) rfl ?_
      exact kt
    obtain ⟨T233, h233, k233, X233, e233, E233, A233, B233, st233⟩ := newPE X0 hx hZ (W 0 rfl) e0 (g := (mkF m 10 #[iv p0, iv p1, iv p2, iv p3, iv p4, iv (3 : Int32), .unset, .unset, .unset, .unset, .unset, .unset] [(.int (3 : Int32))])) rfl (hb hby at_10) rfl (by decide) (cap := 3) (by decide) (by decide) (by decide) (by decide) (ad := "[D") (by decide)
    obtain ⟨b233, g233⟩ : ∃ z, z = h0.size := ⟨_, rfl⟩
    rw [← g233] at A233 B233 st233
    have pre234 : ∀ t, Steps p.tables e below (T233.setTop (mkF m 12 #[iv p0, iv p1, iv p2, iv p3, iv p4, iv (3 : Int32), .unset, .unset, .unset, .unset, .unset, .unset] [(.ref b233)])) t → Steps p.tables e below (s₁.setTop (entryFrame m #[(.int p0), (.int p1), (.int p2), (.int p3), (.int p4)] maxLocals)) t := fun t kt => pre232 _ (st233 _ kt)
    have O233 := O0.ext E233
    have K233 : Keep h0 h233 [] := K0.ext E233
    have g_b233 : n0 ≤ b233 := Nat.le_trans (Nat.le_trans (Nat.le_of_eq O0.1.symm) O0.2.1) (Nat.le_of_eq g233.symm)
    have sz_b233 : h0.size ≤ b233 := Nat.le_trans K0.1 (Nat.le_of_eq g233.symm)
    have F235 : Exa Z h233 b233 "[D" := B233
    have F236 : Arv Z h233 b233 k233 .double (3 : Int32) [(.double (0 : UInt64)), (.double (0 : UInt64)), (.double (0 : UInt64))] (.double (0 : UInt64)) := (Arv.new A233 (by decide)).pad (pad_rep [] (.double (0 : UInt64)) 3)
    have pre237 : ∀ t, Steps p.tables e below (T233.setTop (mkF m 16 #[iv p0, iv p1, iv p2, iv p3, iv p4, iv (3 : Int32), rv b233, .unset, .unset, .unset, .unset, .unset] [(.int (3 : Int32))])) t → Steps p.tables e below (s₁.setTop (entryFrame m #[(.int p0), (.int p1), (.int p2), (.int p3), (.int p4)] maxLocals)) t := fun t kt => by
      refine pre234 _ ?_
      show Steps p.tables e below (T233.setTop (mkF m 12 #[iv p0, iv p1, iv p2, iv p3, iv p4, iv (3 : Int32), .unset, .unset, .unset, .unset, .unset, .unset] [(.ref b233)])) _
      refine XS.astore X233.here hx rfl (hb hby at_12) rfl rfl (l' := #[iv p0, iv p1, iv p2, iv p3, iv p4, iv (3 : Int32), rv b233, .unset, .unset, .unset, .unset, .unset]) rfl ?_
      show Steps p.tables e below (T233.setTop (mkF m 14 #[iv p0, iv p1, iv p2, iv p3, iv p4, iv (3 : Int32), rv b233, .unset, .unset, .unset, .unset, .unset] [])) _
      refine XS.iload X233.here hx rfl (hb hby at_14) rfl ?_
      exact kt
    obtain ⟨T238, h238, k238, X238, e238, E238, A238, B238, st238⟩ := newPE X233 hx hZ (W 0 rfl) e233 (g := (mkF m 16 #[iv p0, iv p1, iv p2, iv p3, iv p4, iv (3 : Int32), rv b233, .unset, .unset, .unset, .unset, .unset] [(.int (3 : Int32))])) rfl (hb hby at_16) rfl (by decide) (cap := 3) (by decide) (by decide) (by decide) (by decide) (ad := "[D") (by decide)
    obtain ⟨b238, g238⟩ : ∃ z, z = h233.size := ⟨_, rfl⟩
    rw [← g238] at A238 B238 st238
    have pre239 : ∀ t, Steps p.tables e below (T238.setTop (mkF m 18 #[iv p0, iv p1, iv p2, iv p3, iv p4, iv (3 : Int32), rv b233, .unset, .unset, .unset, .unset, .unset] [(.ref b238)])) t → Steps p.tables e below (s₁.setTop (entryFrame m #[(.int p0), (.int p1), (.int p2), (.int p3), (.int p4)] maxLocals)) t := fun t kt => pre237 _ (st238 _ kt)
    have O238 := O233.ext E238
    have K238 : Keep h0 h238 [] := K233.ext E238
    have F240 := F235.ext E238
    have F241 := F236.ext E238
    have g_b238 : n0 ≤ b238 := Nat.le_trans (Nat.le_trans (Nat.le_of_eq O233.1.symm) O233.2.1) (Nat.le_of_eq g238.symm)
    have sz_b238 : h0.size ≤ b238 := Nat.le_trans K233.1 (Nat.le_of_eq g238.symm)
    have ne_b233_b238 : b233 ≠ b238 := Nat.ne_of_lt (Nat.lt_of_lt_of_le F235.lt (Nat.le_of_eq g238.symm))
    have F242 : Exa Z h238 b238 "[D" := B238
    have F243 : Arv Z h238 b238 k238 .double (3 : Int32) [(.double (0 : UInt64)), (.double (0 : UInt64)), (.double (0 : UInt64))] (.double (0 : UInt64)) := (Arv.new A238 (by decide)).pad (pad_rep [] (.double (0 : UInt64)) 3)
    have pre244 : ∀ t, Steps p.tables e below (T238.setTop (mkF m 32 #[iv p0, iv p1, iv p2, iv p3, iv p4, iv (3 : Int32), rv b233, rv b238, .val (.long (0 : Int64)), .second, .unset, .unset] [(.int p1), (.int (0 : Int32)), (.ref b233)])) t → Steps p.tables e below (s₁.setTop (entryFrame m #[(.int p0), (.int p1), (.int p2), (.int p3), (.int p4)] maxLocals)) t := fun t kt => by
      refine pre239 _ ?_
      show Steps p.tables e below (T238.setTop (mkF m 18 #[iv p0, iv p1, iv p2, iv p3, iv p4, iv (3 : Int32), rv b233, .unset, .unset, .unset, .unset, .unset] [(.ref b238)])) _
      refine XS.astore X238.here hx rfl (hb hby at_18) rfl rfl (l' := #[iv p0, iv p1, iv p2, iv p3, iv p4, iv (3 : Int32), rv b233, rv b238, .unset, .unset, .unset, .unset]) rfl ?_
      show Steps p.tables e below (T238.setTop (mkF m 20 #[iv p0, iv p1, iv p2, iv p3, iv p4, iv (3 : Int32), rv b233, rv b238, .unset, .unset, .unset, .unset] [])) _
      refine XS.lconst X238.here hx rfl (hb hby at_20) ?_
      show Steps p.tables e below (T238.setTop (mkF m 21 #[iv p0, iv p1, iv p2, iv p3, iv p4, iv (3 : Int32), rv b233, rv b238, .unset, .unset, .unset, .unset] [(.long (0 : Int64))])) _
      refine XS.lstore X238.here hx rfl (hb hby at_21) rfl (l' := #[iv p0, iv p1, iv p2, iv p3, iv p4, iv (3 : Int32), rv b233, rv b238, .val (.long (0 : Int64)), .second, .unset, .unset]) rfl ?_
      show Steps p.tables e below (T238.setTop (mkF m 23 #[iv p0, iv p1, iv p2, iv p3, iv p4, iv (3 : Int32), rv b233, rv b238, .val (.long (0 : Int64)), .second, .unset, .unset] [])) _
      refine XS.iload X238.here hx rfl (hb hby at_23) rfl ?_
      show Steps p.tables e below (T238.setTop (mkF m 25 #[iv p0, iv p1, iv p2, iv p3, iv p4, iv (3 : Int32), rv b233, rv b238, .val (.long (0 : Int64)), .second, .unset, .unset] [(.int (3 : Int32))])) _
      refine XS.ifNo X238.here hx rfl (hb hby at_25) rfl (XT.i0_le_f (by decide)) ?_
      show Steps p.tables e below (T238.setTop (mkF m 28 #[iv p0, iv p1, iv p2, iv p3, iv p4, iv (3 : Int32), rv b233, rv b238, .val (.long (0 : Int64)), .second, .unset, .unset] [])) _
      refine XS.aload X238.here hx rfl (hb hby at_28) rfl rfl ?_
      show Steps p.tables e below (T238.setTop (mkF m 30 #[iv p0, iv p1, iv p2, iv p3, iv p4, iv (3 : Int32), rv b233, rv b238, .val (.long (0 : Int64)), .second, .unset, .unset] [(.ref b233)])) _
      refine XS.iconst X238.here hx rfl (hb hby at_30) ?_
      show Steps p.tables e below (T238.setTop (mkF m 31 #[iv p0, iv p1, iv p2, iv p3, iv p4, iv (3 : Int32), rv b233, rv b238, .val (.long (0 : Int64)), .second, .unset, .unset] [(.int (0 : Int32)), (.ref b233)])) _
      refine XS.iloadN X238.here hx rfl (hb hby at_31) rfl ?_
      exact kt
    obtain ⟨_, _, ⟨T245, L245, k245, n245⟩, -, X245, ⟨Lc245, hQ245, l245, y245, z245⟩, st245⟩ := Jvm.LawKit.callS X238 hx (y := (⟨"com/example/centroid/centroid/VectorsDotPinLaw", "lo", "(I)I"⟩ : MethodName)) hown (mvT hZ (W 5 rfl)) (mvT hZ (W 6 rfl)) (mvT hZ (W 7 rfl)) (mvT hZ (W 8 rfl)) (by decide) (backOf (W := 2) (rm_lo l Z a0 hw [] p1 h238 n0 O238) hZ (W 8 rfl) (W 7 rfl) (by decide) (by decide)) (g := (mkF m 32 #[iv p0, iv p1, iv p2, iv p3, iv p4, iv (3 : Int32), rv b233, rv b238, .val (.long (0 : Int64)), .second, .unset, .unset] [(.int p1), (.int (0 : Int32)), (.ref b233)])) rfl (by rw [hml]; rfl) (argsL := [(.int p1)]) (rest := [(.int (0 : Int32)), (.ref b233)]) (lenOf pd_7 rfl) rfl (by show 2 * 0 + _ ≤ _; exact Nat.le_of_eq rfl) (hb hby at_32) (fun _ _ => ⟨rfl, e238, (by decide : 2 + 0 ≤ _), (by decide : 6 + 0 ≤ _)⟩)
    dsimp only [Pt.U, Pt.locs, Pt.cells, Pt.slots] at X245 l245 y245 z245 st245 hQ245
    replace l245 := l245.symm
    replace y245 : 2 = k245 := y245.symm
    replace z245 : 6 = n245 := z245.symm
    subst l245 y245 z245
    obtain ⟨rfl, M245, e245⟩ := hQ245
    have N245 := Fr.app N0 M245
    have pre246 : ∀ t, Steps p.tables e below (T245.setTop (mkF m 35 #[iv p0, iv p1, iv p2, iv p3, iv p4, iv (3 : Int32), rv b233, rv b238, .val (.long (0 : Int64)), .second, .unset, .unset] [(.int (own_lo p1)), (.int (0 : Int32)), (.ref b233)])) t → Steps p.tables e below (s₁.setTop (entryFrame m #[(.int p0), (.int p1), (.int p2), (.int p3), (.int p4)] maxLocals)) t := fun t kt => pre244 _ (st245 _ kt)
    have pre247 : ∀ t, Steps p.tables e below (T245.setTop (mkF m 36 #[iv p0, iv p1, iv p2, iv p3, iv p4, iv (3 : Int32), rv b233, rv b238, .val (.long (0 : Int64)), .second, .unset, .unset] [(.double (FP.i2d (own_lo p1))), (.int (0 : Int32)), (.ref b233)])) t → Steps p.tables e below (s₁.setTop (entryFrame m #[(.int p0), (.int p1), (.int p2), (.int p3), (.int p4)] maxLocals)) t := fun t kt => by
      refine pre246 _ ?_
      show Steps p.tables e below (T245.setTop (mkF m 35 #[iv p0, iv p1, iv p2, iv p3, iv p4, iv (3 : Int32), rv b233, rv b238, .val (.long (0 : Int64)), .second, .unset, .unset] [(.int (own_lo p1)), (.int (0 : Int32)), (.ref b233)])) _
      refine XS.i2dS X245.here hx rfl (hb hby at_35) rfl rfl ?_
      exact kt
    obtain ⟨c248, Ar248, q248, S248, M248, H248, G248⟩ := id F241
    have i248 : ¬ ((0 : Int32) < 0 ∨ c248.slots.size ≤ ((0 : Int32)).toNatClampNeg) := inb_of S248 ⟨by decide, by decide⟩
    obtain ⟨T249, h249, X249, e249, W249, st249⟩ := stD X245 hx hZ e245 Ar248 (j := (0 : Int32)) i248 (g := (mkF m 36 #[iv p0, iv p1, iv p2, iv p3, iv p4, iv (3 : Int32), rv b233, rv b238, .val (.long (0 : Int64)), .second, .unset, .unset] [(.double (FP.i2d (own_lo p1))), (.int (0 : Int32)), (.ref b233)])) rfl rfl (hb hby at_36)
    have pre250 : ∀ t, Steps p.tables e below (T249.setTop (mkF m 37 #[iv p0, iv p1, iv p2, iv p3, iv p4, iv (3 : Int32), rv b233, rv b238, .val (.long (0 : Int64)), .second, .unset, .unset] [])) t → Steps p.tables e below (s₁.setTop (entryFrame m #[(.int p0), (.int p1), (.int p2), (.int p3), (.int p4)] maxLocals)) t := fun t kt => pre247 _ (st249 _ kt)
    have N249 := Fr.snoc X249 N245 g_b233
    have O249 := O238.wr W249 g_b233
    have K249 : Keep h0 h249 [] := K238.wr W249 (Or.inr sz_b233)
    have F251 := F240.wr W249
    have F252 := F242.wr W249
    have F253 := F243.other W249 (fun q => ne_b233_b238 q.symm)
    have F254 : Arv Z h249 b233 k233 .double (3 : Int32) [(.double (FP.i2d (own_lo p1))), (.double (0 : UInt64)), (.double (0 : UInt64))] (.double (0 : UInt64)) := Arv.set Ar248 q248 S248 M248 H248 G248 rfl W249 0 rfl (Nat.le_of_ble_eq_true rfl)
    have pre255 : ∀ t, Steps p.tables e below (T249.setTop (mkF m 41 #[iv p0, iv p1, iv p2, iv p3, iv p4, iv (3 : Int32), rv b233, rv b238, .val (.long (0 : Int64)), .second, .unset, .unset] [(.int p1), (.int (0 : Int32)), (.ref b238)])) t → Steps p.tables e below (s₁.setTop (entryFrame m #[(.int p0), (.int p1), (.int p2), (.int p3), (.int p4)] maxLocals)) t := fun t kt => by
      refine pre250 _ ?_
      show Steps p.tables e below (T249.setTop (mkF m 37 #[iv p0, iv p1, iv p2, iv p3, iv p4, iv (3 : Int32), rv b233, rv b238, .val (.long (0 : Int64)), .second, .unset, .unset] [])) _
      refine XS.aload X249.here hx rfl (hb hby at_37) rfl rfl ?_
      show Steps p.tables e below (T249.setTop (mkF m 39 #[iv p0, iv p1, iv p2, iv p3, iv p4, iv (3 : Int32), rv b233, rv b238, .val (.long (0 : Int64)), .second, .unset, .unset] [(.ref b238)])) _
      refine XS.iconst X249.here hx rfl (hb hby at_39) ?_
      show Steps p.tables e below (T249.setTop (mkF m 40 #[iv p0, iv p1, iv p2, iv p3, iv p4, iv (3 : Int32), rv b233, rv b238, .val (.long (0 : Int64)), .second, .unset, .unset] [(.int (0 : Int32)), (.ref b238)])) _
      refine XS.iloadN X249.here hx rfl (hb hby at_40) rfl ?_
      exact kt
    obtain ⟨_, _, ⟨T256, L256, k256, n256⟩, -, X256, ⟨Lc256, hQ256, l256, y256, z256⟩, st256⟩ := Jvm.LawKit.callS X249 hx (y := (⟨"com/example/centroid/centroid/VectorsDotPinLaw", "hi", "(I)I"⟩ : MethodName)) hown (mvT hZ (W 9 rfl)) (mvT hZ (W 10 rfl)) (mvT hZ (W 7 rfl)) (mvT hZ (W 11 rfl)) (by decide) (backOf (W := 2) (rm_hi l Z a0 hw [] p1 h249 n0 O249) hZ (W 11 rfl) (W 7 rfl) (by decide) (by decide)) (g := (mkF m 41 #[iv p0, iv p1, iv p2, iv p3, iv p4, iv (3 : Int32), rv b233, rv b238, .val (.long (0 : Int64)), .second, .unset, .unset] [(.int p1), (.int (0 : Int32)), (.ref b238)])) rfl (by rw [hml]; rfl) (argsL := [(.int p1)]) (rest := [(.int (0 : Int32)), (.ref b238)]) (lenOf pd_7 rfl) rfl (by show 2 * 0 + _ ≤ _; exact Nat.le_of_eq rfl) (hb hby at_41) (fun _ _ => ⟨rfl, e249, (by decide : 2 + 0 ≤ _), (by decide : 6 + 0 ≤ _)⟩)
    dsimp only [Pt.U, Pt.locs, Pt.cells, Pt.slots] at X256 l256 y256 z256 st256 hQ256
    replace l256 := l256.symm
    replace y256 : 2 = k256 := y256.symm
    replace z256 : 6 = n256 := z256.symm
    subst l256 y256 z256
    obtain ⟨rfl, M256, e256⟩ := hQ256
    have N256 := Fr.app N249 M256
    have pre257 : ∀ t, Steps p.tables e below (T256.setTop (mkF m 44 #[iv p0, iv p1, iv p2, iv p3, iv p4, iv (3 : Int32), rv b233, rv b238, .val (.long (0 : Int64)), .second, .unset, .unset] [(.int (own_hi p1)), (.int (0 : Int32)), (.ref b238)])) t → Steps p.tables e below (s₁.setTop (entryFrame m #[(.int p0), (.int p1), (.int p2), (.int p3), (.int p4)] maxLocals)) t := fun t kt => pre255 _ (st256 _ kt)
    have pre258 : ∀ t, Steps p.tables e below (T256.setTop (mkF m 45 #[iv p0, iv p1, iv p2, iv p3, iv p4, iv (3 : Int32), rv b233, rv b238, .val (.long (0 : Int64)), .second, .unset, .unset] [(.double (FP.i2d (own_hi p1))), (.int (0 : Int32)), (.ref b238)])) t → Steps p.tables e below (s₁.setTop (entryFrame m #[(.int p0), (.int p1), (.int p2), (.int p3), (.int p4)] maxLocals)) t := fun t kt => by
      refine pre257 _ ?_
      show Steps p.tables e below (T256.setTop (mkF m 44 #[iv p0, iv p1, iv p2, iv p3, iv p4, iv (3 : Int32), rv b233, rv b238, .val (.long (0 : Int64)), .second, .unset, .unset] [(.int (own_hi p1)), (.int (0 : Int32)), (.ref b238)])) _
      refine XS.i2dS X256.here hx rfl (hb hby at_44) rfl rfl ?_
      exact kt
    obtain ⟨c259, Ar259, q259, S259, M259, H259, G259⟩ := id F253
    have i259 : ¬ ((0 : Int32) < 0 ∨ c259.slots.size ≤ ((0 : Int32)).toNatClampNeg) := inb_of S259 ⟨by decide, by decide⟩
    obtain ⟨T260, h260, X260, e260, W260, st260⟩ := stD X256 hx hZ e256 Ar259 (j := (0 : Int32)) i259 (g := (mkF m 45 #[iv p0, iv p1, iv p2, iv p3, iv p4, iv (3 : Int32), rv b233, rv b238, .val (.long (0 : Int64)), .second, .unset, .unset] [(.double (FP.i2d (own_hi p1))), (.int (0 : Int32)), (.ref b238)])) rfl rfl (hb hby at_45)
    have pre261 : ∀ t, Steps p.tables e below (T260.setTop (mkF m 46 #[iv p0, iv p1, iv p2, iv p3, iv p4, iv (3 : Int32), rv b233, rv b238, .val (.long (0 : Int64)), .second, .unset, .unset] [])) t → Steps p.tables e below (s₁.setTop (entryFrame m #[(.int p0), (.int p1), (.int p2), (.int p3), (.int p4)] maxLocals)) t := fun t kt => pre258 _ (st260 _ kt)
    have N260 := Fr.snoc X260 N256 g_b238
    have O260 := O249.wr W260 g_b238
    have K260 : Keep h0 h260 [] := K249.wr W260 (Or.inr sz_b238)
    have F262 := F251.wr W260
    have F263 := F252.wr W260
    have F264 := F254.other W260 ne_b233_b238
    have F265 : Arv Z h260 b238 k238 .double (3 : Int32) [(.double (FP.i2d (own_hi p1))), (.double (0 : UInt64)), (.double (0 : UInt64))] (.double (0 : UInt64)) := Arv.set Ar259 q259 S259 M259 H259 G259 rfl W260 0 rfl (Nat.le_of_ble_eq_true rfl)
    have pre266 : ∀ t, Steps p.tables e below (T260.setTop (mkF m 49 #[iv p0, iv p1, iv p2, iv p3, iv p4, iv (3 : Int32), rv b233, rv b238, .val (.long (0 : Int64)), .second, .unset, .unset] [(.int p1), (.long (0 : Int64))])) t → Steps p.tables e below (s₁.setTop (entryFrame m #[(.int p0), (.int p1), (.int p2), (.int p3), (.int p4)] maxLocals)) t := fun t kt => by
      refine pre261 _ ?_
      show Steps p.tables e below (T260.setTop (mkF m 46 #[iv p0, iv p1, iv p2, iv p3, iv p4, iv (3 : Int32), rv b233, rv b238, .val (.long (0 : Int64)), .second, .unset, .unset] [])) _
      refine XS.lload X260.here hx rfl (hb hby at_46) rfl ?_
      show Steps p.tables e below (T260.setTop (mkF m 48 #[iv p0, iv p1, iv p2, iv p3, iv p4, iv (3 : Int32), rv b233, rv b238, .val (.long (0 : Int64)), .second, .unset, .unset] [(.long (0 : Int64))])) _
      refine XS.iloadN X260.here hx rfl (hb hby at_48) rfl ?_
      exact kt
    obtain ⟨_, _, ⟨T267, L267, k267, n267⟩, -, X267, ⟨Lc267, hQ267, l267, y267, z267⟩, st267⟩ := Jvm.LawKit.callS X260 hx (y := (⟨"com/example/centroid/centroid/VectorsDotPinLaw", "lo", "(I)I"⟩ : MethodName)) hown (mvT hZ (W 5 rfl)) (mvT hZ (W 6 rfl)) (mvT hZ (W 7 rfl)) (mvT hZ (W 8 rfl)) (by decide) (backOf (W := 2) (rm_lo l Z a0 hw [] p1 h260 n0 O260) hZ (W 8 rfl) (W 7 rfl) (by decide) (by decide)) (g := (mkF m 49 #[iv p0, iv p1, iv p2, iv p3, iv p4, iv (3 : Int32), rv b233, rv b238, .val (.long (0 : Int64)), .second, .unset, .unset] [(.int p1), (.long (0 : Int64))])) rfl (by rw [hml]; rfl) (argsL := [(.int p1)]) (rest := [(.long (0 : Int64))]) (lenOf pd_7 rfl) rfl (by show 2 * 0 + _ ≤ _; exact Nat.le_of_eq rfl) (hb hby at_49) (fun _ _ => ⟨rfl, e260, (by decide : 2 + 0 ≤ _), (by decide : 6 + 0 ≤ _)⟩)
    dsimp only [Pt.U, Pt.locs, Pt.cells, Pt.slots] at X267 l267 y267 z267 st267 hQ267
    replace l267 := l267.symm
    replace y267 : 2 = k267 := y267.symm
    replace z267 : 6 = n267 := z267.symm
    subst l267 y267 z267
    obtain ⟨rfl, M267, e267⟩ := hQ267
    have N267 := Fr.app N260 M267
    have pre268 : ∀ t, Steps p.tables e below (T267.setTop (mkF m 52 #[iv p0, iv p1, iv p2, iv p3, iv p4, iv (3 : Int32), rv b233, rv b238, .val (.long (0 : Int64)), .second, .unset, .unset] [(.int (own_lo p1)), (.long (0 : Int64))])) t → Steps p.tables e below (s₁.setTop (entryFrame m #[(.int p0), (.int p1), (.int p2), (.int p3), (.int p4)] maxLocals)) t := fun t kt => pre266 _ (st267 _ kt)
    have pre269 : ∀ t, Steps p.tables e below (T267.setTop (mkF m 54 #[iv p0, iv p1, iv p2, iv p3, iv p4, iv (3 : Int32), rv b233, rv b238, .val (.long (0 : Int64)), .second, .unset, .unset] [(.int p1), (.long ((own_lo p1).toInt64)), (.long (0 : Int64))])) t → Steps p.tables e below (s₁.setTop (entryFrame m #[(.int p0), (.int p1), (.int p2), (.int p3), (.int p4)] maxLocals)) t := fun t kt => by
      refine pre268 _ ?_
      show Steps p.tables e below (T267.setTop (mkF m 52 #[iv p0, iv p1, iv p2, iv p3, iv p4, iv (3 : Int32), rv b233, rv b238, .val (.long (0 : Int64)), .second, .unset, .unset] [(.int (own_lo p1)), (.long (0 : Int64))])) _
      refine XS.i2l X267.here hx rfl (hb hby at_52) rfl ?_
      show Steps p.tables e below (T267.setTop (mkF m 53 #[iv p0, iv p1, iv p2, iv p3, iv p4, iv (3 : Int32), rv b233, rv b238, .val (.long (0 : Int64)), .second, .unset, .unset] [(.long ((own_lo p1).toInt64)), (.long (0 : Int64))])) _
      refine XS.iloadN X267.here hx rfl (hb hby at_53) rfl ?_
      exact kt
    obtain ⟨_, _, ⟨T270, L270, k270, n270⟩, -, X270, ⟨Lc270, hQ270, l270, y270, z270⟩, st270⟩ := Jvm.LawKit.callS X267 hx (y := (⟨"com/example/centroid/centroid/VectorsDotPinLaw", "hi", "(I)I"⟩ : MethodName)) hown (mvT hZ (W 9 rfl)) (mvT hZ (W 10 rfl)) (mvT hZ (W 7 rfl)) (mvT hZ (W 11 rfl)) (by decide) (backOf (W := 4) (rm_hi l Z a0 hw [] p1 h260 n0 O260) hZ (W 11 rfl) (W 7 rfl) (by decide) (by decide)) (g := (mkF m 54 #[iv p0, iv p1, iv p2, iv p3, iv p4, iv (3 : Int32), rv b233, rv b238, .val (.long (0 : Int64)), .second, .unset, .unset] [(.int p1), (.long ((own_lo p1).toInt64)), (.long (0 : Int64))])) rfl (by rw [hml]; rfl) (argsL := [(.int p1)]) (rest := [(.long ((own_lo p1).toInt64)), (.long (0 : Int64))]) (lenOf pd_7 rfl) rfl (by show 2 * 0 + _ ≤ _; exact Nat.le_of_eq rfl) (hb hby at_54) (fun _ _ => ⟨rfl, e267, (by decide : 2 + 0 ≤ _), (by decide : 6 + 0 ≤ _)⟩)
    dsimp only [Pt.U, Pt.locs, Pt.cells, Pt.slots] at X270 l270 y270 z270 st270 hQ270
    replace l270 := l270.symm
    replace y270 : 2 = k270 := y270.symm
    replace z270 : 6 = n270 := z270.symm
    subst l270 y270 z270
    obtain ⟨rfl, M270, e270⟩ := hQ270
    have N270 := Fr.app N267 M270
    have pre271 : ∀ t, Steps p.tables e below (T270.setTop (mkF m 57 #[iv p0, iv p1, iv p2, iv p3, iv p4, iv (3 : Int32), rv b233, rv b238, .val (.long (0 : Int64)), .second, .unset, .unset] [(.int (own_hi p1)), (.long ((own_lo p1).toInt64)), (.long (0 : Int64))])) t → Steps p.tables e below (s₁.setTop (entryFrame m #[(.int p0), (.int p1), (.int p2), (.int p3), (.int p4)] maxLocals)) t := fun t kt => pre269 _ (st270 _ kt)
    have pre272 : ∀ t, Steps p.tables e below (T270.setTop (mkF m 72 #[iv p0, iv p1, iv p2, iv p3, iv p4, iv (3 : Int32), rv b233, rv b238, .val (.long ((0 : Int64) + (((own_lo p1).toInt64) * ((own_hi p1).toInt64)))), .second, .unset, .unset] [(.int p2), (.int (1 : Int32)), (.ref b233)])) t → Steps p.tables e below (s₁.setTop (entryFrame m #[(.int p0), (.int p1), (.int p2), (.int p3), (.int p4)] maxLocals)) t := fun t kt => by
      refine pre271 _ ?_
      show Steps p.tables e below (T270.setTop (mkF m 57 #[iv p0, iv p1, iv p2, iv p3, iv p4, iv (3 : Int32), rv b233, rv b238, .val (.long (0 : Int64)), .second, .unset, .unset] [(.int (own_hi p1)), (.long ((own_lo p1).toInt64)), (.long (0 : Int64))])) _
      refine XS.i2l X270.here hx rfl (hb hby at_57) rfl ?_
      show Steps p.tables e below (T270.setTop (mkF m 58 #[iv p0, iv p1, iv p2, iv p3, iv p4, iv (3 : Int32), rv b233, rv b238, .val (.long (0 : Int64)), .second, .unset, .unset] [(.long ((own_hi p1).toInt64)), (.long ((own_lo p1).toInt64)), (.long (0 : Int64))])) _
      refine XS.lmul X270.here hx rfl (hb hby at_58) rfl ?_
      show Steps p.tables e below (T270.setTop (mkF m 59 #[iv p0, iv p1, iv p2, iv p3, iv p4, iv (3 : Int32), rv b233, rv b238, .val (.long (0 : Int64)), .second, .unset, .unset] [(.long (((own_lo p1).toInt64) * ((own_hi p1).toInt64))), (.long (0 : Int64))])) _
      refine XS.ladd X270.here hx rfl (hb hby at_59) rfl ?_
      show Steps p.tables e below (T270.setTop (mkF m 60 #[iv p0, iv p1, iv p2, iv p3, iv p4, iv (3 : Int32), rv b233, rv b238, .val (.long (0 : Int64)), .second, .unset, .unset] [(.long ((0 : Int64) + (((own_lo p1).toInt64) * ((own_hi p1).toInt64))))])) _
      refine XS.lstore X270.here hx rfl (hb hby at_60) rfl (l' := #[iv p0, iv p1, iv p2, iv p3, iv p4, iv (3 : Int32), rv b233, rv b238, .val (.long ((0 : Int64) + (((own_lo p1).toInt64) * ((own_hi p1).toInt64)))), .second, .unset, .unset]) rfl ?_
      show Steps p.tables e below (T270.setTop (mkF m 62 #[iv p0, iv p1, iv p2, iv p3, iv p4, iv (3 : Int32), rv b233, rv b238, .val (.long ((0 : Int64) + (((own_lo p1).toInt64) * ((own_hi p1).toInt64)))), .second, .unset, .unset] [])) _
      refine XS.iload X270.here hx rfl (hb hby at_62) rfl ?_
      show Steps p.tables e below (T270.setTop (mkF m 64 #[iv p0, iv p1, iv p2, iv p3, iv p4, iv (3 : Int32), rv b233, rv b238, .val (.long ((0 : Int64) + (((own_lo p1).toInt64) * ((own_hi p1).toInt64)))), .second, .unset, .unset] [(.int (3 : Int32))])) _
      refine XS.iconst X270.here hx rfl (hb hby at_64) ?_
      show Steps p.tables e below (T270.setTop (mkF m 65 #[iv p0, iv p1, iv p2, iv p3, iv p4, iv (3 : Int32), rv b233, rv b238, .val (.long ((0 : Int64) + (((own_lo p1).toInt64) * ((own_hi p1).toInt64)))), .second, .unset, .unset] [(.int (1 : Int32)), (.int (3 : Int32))])) _
      refine XS.icmpNo X270.here hx rfl (hb hby at_65) rfl (XT.ii_le_f (by decide)) ?_
      show Steps p.tables e below (T270.setTop (mkF m 68 #[iv p0, iv p1, iv p2, iv p3, iv p4, iv (3 : Int32), rv b233, rv b238, .val (.long ((0 : Int64) + (((own_lo p1).toInt64) * ((own_hi p1).toInt64)))), .second, .unset, .unset] [])) _
      refine XS.aload X270.here hx rfl (hb hby at_68) rfl rfl ?_
      show Steps p.tables e below (T270.setTop (mkF m 70 #[iv p0, iv p1, iv p2, iv p3, iv p4, iv (3 : Int32), rv b233, rv b238, .val (.long ((0 : Int64) + (((own_lo p1).toInt64) * ((own_hi p1).toInt64)))), .second, .unset, .unset] [(.ref b233)])) _
      refine XS.iconst X270.here hx rfl (hb hby at_70) ?_
      show Steps p.tables e below (T270.setTop (mkF m 71 #[iv p0, iv p1, iv p2, iv p3, iv p4, iv (3 : Int32), rv b233, rv b238, .val (.long ((0 : Int64) + (((own_lo p1).toInt64) * ((own_hi p1).toInt64)))), .second, .unset, .unset] [(.int (1 : Int32)), (.ref b233)])) _
      refine XS.iloadN X270.here hx rfl (hb hby at_71) rfl ?_
      exact kt
    obtain ⟨_, _, ⟨T273, L273, k273, n273⟩, -, X273, ⟨Lc273, hQ273, l273, y273, z273⟩, st273⟩ := Jvm.LawKit.callS X270 hx (y := (⟨"com/example/centroid/centroid/VectorsDotPinLaw", "lo", "(I)I"⟩ : MethodName)) hown (mvT hZ (W 5 rfl)) (mvT hZ (W 6 rfl)) (mvT hZ (W 7 rfl)) (mvT hZ (W 8 rfl)) (by decide) (backOf (W := 2) (rm_lo l Z a0 hw [] p2 h260 n0 O260) hZ (W 8 rfl) (W 7 rfl) (by decide) (by decide)) (g := (mkF m 72 #[iv p0, iv p1, iv p2, iv p3, iv p4, iv (3 : Int32), rv b233, rv b238, .val (.long ((0 : Int64) + (((own_lo p1).toInt64) * ((own_hi p1).toInt64)))), .second, .unset, .unset] [(.int p2), (.int (1 : Int32)), (.ref b233)])) rfl (by rw [hml]; rfl) (argsL := [(.int p2)]) (rest := [(.int (1 : Int32)), (.ref b233)]) (lenOf pd_7 rfl) rfl (by show 2 * 0 + _ ≤ _; exact Nat.le_of_eq rfl) (hb hby at_72) (fun _ _ => ⟨rfl, e270, (by decide : 2 + 0 ≤ _), (by decide : 6 + 0 ≤ _)⟩)
    dsimp only [Pt.U, Pt.locs, Pt.cells, Pt.slots] at X273 l273 y273 z273 st273 hQ273
    replace l273 := l273.symm
    replace y273 : 2 = k273 := y273.symm
    replace z273 : 6 = n273 := z273.symm
    subst l273 y273 z273
    obtain ⟨rfl, M273, e273⟩ := hQ273
    have N273 := Fr.app N270 M273
    have pre274 : ∀ t, Steps p.tables e below (T273.setTop (mkF m 75 #[iv p0, iv p1, iv p2, iv p3, iv p4, iv (3 : Int32), rv b233, rv b238, .val (.long ((0 : Int64) + (((own_lo p1).toInt64) * ((own_hi p1).toInt64)))), .second, .unset, .unset] [(.int (own_lo p2)), (.int (1 : Int32)), (.ref b233)])) t → Steps p.tables e below (s₁.setTop (entryFrame m #[(.int p0), (.int p1), (.int p2), (.int p3), (.int p4)] maxLocals)) t := fun t kt => pre272 _ (st273 _ kt)
    have pre275 : ∀ t, Steps p.tables e below (T273.setTop (mkF m 76 #[iv p0, iv p1, iv p2, iv p3, iv p4, iv (3 : Int32), rv b233, rv b238, .val (.long ((0 : Int64) + (((own_lo p1).toInt64) * ((own_hi p1).toInt64)))), .second, .unset, .unset] [(.double (FP.i2d (own_lo p2))), (.int (1 : Int32)), (.ref b233)])) t → Steps p.tables e below (s₁.setTop (entryFrame m #[(.int p0), (.int p1), (.int p2), (.int p3), (.int p4)] maxLocals)) t := fun t kt => by
      refine pre274 _ ?_
      show Steps p.tables e below (T273.setTop (mkF m 75 #[iv p0, iv p1, iv p2, iv p3, iv p4, iv (3 : Int32), rv b233, rv b238, .val (.long ((0 : Int64) + (((own_lo p1).toInt64) * ((own_hi p1).toInt64)))), .second, .unset, .unset] [(.int (own_lo p2)), (.int (1 : Int32)), (.ref b233)])) _
      refine XS.i2dS X273.here hx rfl (hb hby at_75) rfl rfl ?_
      exact kt
    obtain ⟨c276, Ar276, q276, S276, M276, H276, G276⟩ := id F264
    have i276 : ¬ ((1 : Int32) < 0 ∨ c276.slots.size ≤ ((1 : Int32)).toNatClampNeg) := inb_of S276 ⟨by decide, by decide⟩
    obtain ⟨T277, h277, X277, e277, W277, st277⟩ := stD X273 hx hZ e273 Ar276 (j := (1 : Int32)) i276 (g := (mkF m 76 #[iv p0, iv p1, iv p2, iv p3, iv p4, iv (3 : Int32), rv b233, rv b238, .val (.long ((0 : Int64) + (((own_lo p1).toInt64) * ((own_hi p1).toInt64)))), .second, .unset, .unset] [(.double (FP.i2d (own_lo p2))), (.int (1 : Int32)), (.ref b233)])) rfl rfl (hb hby at_76)
    have pre278 : ∀ t, Steps p.tables e below (T277.setTop (mkF m 77 #[iv p0, iv p1, iv p2, iv p3, iv p4, iv (3 : Int32), rv b233, rv b238, .val (.long ((0 : Int64) + (((own_lo p1).toInt64) * ((own_hi p1).toInt64)))), .second, .unset, .unset] [])) t → Steps p.tables e below (s₁.setTop (entryFrame m #[(.int p0), (.int p1), (.int p2), (.int p3), (.int p4)] maxLocals)) t := fun t kt => pre275 _ (st277 _ kt)
    have N277 := Fr.snoc X277 N273 g_b233
    have O277 := O260.wr W277 g_b233
    have K277 : Keep h0 h277 [] := K260.wr W277 (Or.inr sz_b233)
    have F279 := F262.wr W277
    have F280 := F263.wr W277
    have F281 := F265.other W277 (fun q => ne_b233_b238 q.symm)
    have F282 : Arv Z h277 b233 k233 .double (3 : Int32) [(.double (FP.i2d (own_lo p1))), (.double (FP.i2d (own_lo p2))), (.double (0 : UInt64))] (.double (0 : UInt64)) := Arv.set Ar276 q276 S276 M276 H276 G276 rfl W277 1 rfl (Nat.le_of_ble_eq_true rfl)
    have pre283 : ∀ t, Steps p.tables e below (T277.setTop (mkF m 81 #[iv p0, iv p1, iv p2, iv p3, iv p4, iv (3 : Int32), rv b233, rv b238, .val (.long ((0 : Int64) + (((own_lo p1).toInt64) * ((own_hi p1).toInt64)))), .second, .unset, .unset] [(.int p2), (.int (1 : Int32)), (.ref b238)])) t → Steps p.tables e below (s₁.setTop (entryFrame m #[(.int p0), (.int p1), (.int p2), (.int p3), (.int p4)] maxLocals)) t := fun t kt => by
      refine pre278 _ ?_
      show Steps p.tables e below (T277.setTop (mkF m 77 #[iv p0, iv p1, iv p2, iv p3, iv p4, iv (3 : Int32), rv b233, rv b238, .val (.long ((0 : Int64) + (((own_lo p1).toInt64) * ((own_hi p1).toInt64)))), .second, .unset, .unset] [])) _
      refine XS.aload X277.here hx rfl (hb hby at_77) rfl rfl ?_
      show Steps p.tables e below (T277.setTop (mkF m 79 #[iv p0, iv p1, iv p2, iv p3, iv p4, iv (3 : Int32), rv b233, rv b238, .val (.long ((0 : Int64) + (((own_lo p1).toInt64) * ((own_hi p1).toInt64)))), .second, .unset, .unset] [(.ref b238)])) _
      refine XS.iconst X277.here hx rfl (hb hby at_79) ?_
      show Steps p.tables e below (T277.setTop (mkF m 80 #[iv p0, iv p1, iv p2, iv p3, iv p4, iv (3 : Int32), rv b233, rv b238, .val (.long ((0 : Int64) + (((own_lo p1).toInt64) * ((own_hi p1).toInt64)))), .second, .unset, .unset] [(.int (1 : Int32)), (.ref b238)])) _
      refine XS.iloadN X277.here hx rfl (hb hby at_80) rfl ?_
      exact kt
    obtain ⟨_, _, ⟨T284, L284, k284, n284⟩, -, X284, ⟨Lc284, hQ284, l284, y284, z284⟩, st284⟩ := Jvm.LawKit.callS X277 hx (y := (⟨"com/example/centroid/centroid/VectorsDotPinLaw", "hi", "(I)I"⟩ : MethodName)) hown (mvT hZ (W 9 rfl)) (mvT hZ (W 10 rfl)) (mvT hZ (W 7 rfl)) (mvT hZ (W 11 rfl)) (by decide) (backOf (W := 2) (rm_hi l Z a0 hw [] p2 h277 n0 O277) hZ (W 11 rfl) (W 7 rfl) (by decide) (by decide)) (g := (mkF m 81 #[iv p0, iv p1, iv p2, iv p3, iv p4, iv (3 : Int32), rv b233, rv b238, .val (.long ((0 : Int64) + (((own_lo p1).toInt64) * ((own_hi p1).toInt64)))), .second, .unset, .unset] [(.int p2), (.int (1 : Int32)), (.ref b238)])) rfl (by rw [hml]; rfl) (argsL := [(.int p2)]) (rest := [(.int (1 : Int32)), (.ref b238)]) (lenOf pd_7 rfl) rfl (by show 2 * 0 + _ ≤ _; exact Nat.le_of_eq rfl) (hb hby at_81) (fun _ _ => ⟨rfl, e277, (by decide : 2 + 0 ≤ _), (by decide : 6 + 0 ≤ _)⟩)
    dsimp only [Pt.U, Pt.locs, Pt.cells, Pt.slots] at X284 l284 y284 z284 st284 hQ284
    replace l284 := l284.symm
    replace y284 : 2 = k284 := y284.symm
    replace z284 : 6 = n284 := z284.symm
    subst l284 y284 z284
    obtain ⟨rfl, M284, e284⟩ := hQ284
    have N284 := Fr.app N277 M284
    have pre285 : ∀ t, Steps p.tables e below (T284.setTop (mkF m 84 #[iv p0, iv p1, iv p2, iv p3, iv p4, iv (3 : Int32), rv b233, rv b238, .val (.long ((0 : Int64) + (((own_lo p1).toInt64) * ((own_hi p1).toInt64)))), .second, .unset, .unset] [(.int (own_hi p2)), (.int (1 : Int32)), (.ref b238)])) t → Steps p.tables e below (s₁.setTop (entryFrame m #[(.int p0), (.int p1), (.int p2), (.int p3), (.int p4)] maxLocals)) t := fun t kt => pre283 _ (st284 _ kt)
    have pre286 : ∀ t, Steps p.tables e below (T284.setTop (mkF m 85 #[iv p0, iv p1, iv p2, iv p3, iv p4, iv (3 : Int32), rv b233, rv b238, .val (.long ((0 : Int64) + (((own_lo p1).toInt64) * ((own_hi p1).toInt64)))), .second, .unset, .unset] [(.double (FP.i2d (own_hi p2))), (.int (1 : Int32)), (.ref b238)])) t → Steps p.tables e below (s₁.setTop (entryFrame m #[(.int p0), (.int p1), (.int p2), (.int p3), (.int p4)] maxLocals)) t := fun t kt => by
      refine pre285 _ ?_
      show Steps p.tables e below (T284.setTop (mkF m 84 #[iv p0, iv p1, iv p2, iv p3, iv p4, iv (3 : Int32), rv b233, rv b238, .val (.long ((0 : Int64) + (((own_lo p1).toInt64) * ((own_hi p1).toInt64)))), .second, .unset, .unset] [(.int (own_hi p2)), (.int (1 : Int32)), (.ref b238)])) _
      refine XS.i2dS X284.here hx rfl (hb hby at_84) rfl rfl ?_
      exact kt
    obtain ⟨c287, Ar287, q287, S287, M287, H287, G287⟩ := id F281
    have i287 : ¬ ((1 : Int32) < 0 ∨ c287.slots.size ≤ ((1 : Int32)).toNatClampNeg) := inb_of S287 ⟨by decide, by decide⟩
    obtain ⟨T288, h288, X288, e288, W288, st288⟩ := stD X284 hx hZ e284 Ar287 (j := (1 : Int32)) i287 (g := (mkF m 85 #[iv p0, iv p1, iv p2, iv p3, iv p4, iv (3 : Int32), rv b233, rv b238, .val (.long ((0 : Int64) + (((own_lo p1).toInt64) * ((own_hi p1).toInt64)))), .second, .unset, .unset] [(.double (FP.i2d (own_hi p2))), (.int (1 : Int32)), (.ref b238)])) rfl rfl (hb hby at_85)
    have pre289 : ∀ t, Steps p.tables e below (T288.setTop (mkF m 86 #[iv p0, iv p1, iv p2, iv p3, iv p4, iv (3 : Int32), rv b233, rv b238, .val (.long ((0 : Int64) + (((own_lo p1).toInt64) * ((own_hi p1).toInt64)))), .second, .unset, .unset] [])) t → Steps p.tables e below (s₁.setTop (entryFrame m #[(.int p0), (.int p1), (.int p2), (.int p3), (.int p4)] maxLocals)) t := fun t kt => pre286 _ (st288 _ kt)
    have N288 := Fr.snoc X288 N284 g_b238
    have O288 := O277.wr W288 g_b238
    have K288 : Keep h0 h288 [] := K277.wr W288 (Or.inr sz_b238)
    have F290 := F279.wr W288
    have F291 := F280.wr W288
    have F292 := F282.other W288 ne_b233_b238
    have F293 : Arv Z h288 b238 k238 .double (3 : Int32) [(.double (FP.i2d (own_hi p1))), (.double (FP.i2d (own_hi p2))), (.double (0 : UInt64))] (.double (0 : UInt64)) := Arv.set Ar287 q287 S287 M287 H287 G287 rfl W288 1 rfl (Nat.le_of_ble_eq_true rfl)
    have pre294 : ∀ t, Steps p.tables e below (T288.setTop (mkF m 89 #[iv p0, iv p1, iv p2, iv p3, iv p4, iv (3 : Int32), rv b233, rv b238, .val (.long ((0 : Int64) + (((own_lo p1).toInt64) * ((own_hi p1).toInt64)))), .second, .unset, .unset] [(.int p2), (.long ((0 : Int64) + (((own_lo p1).toInt64) * ((own_hi p1).toInt64))))])) t → Steps p.tables e below (s₁.setTop (entryFrame m #[(.int p0), (.int p1), (.int p2), (.int p3), (.int p4)] maxLocals)) t := fun t kt => by
      refine pre289 _ ?_
      show Steps p.tables e below (T288.setTop (mkF m 86 #[iv p0, iv p1, iv p2, iv p3, iv p4, iv (3 : Int32), rv b233, rv b238, .val (.long ((0 : Int64) + (((own_lo p1).toInt64) * ((own_hi p1).toInt64)))), .second, .unset, .unset] [])) _
      refine XS.lload X288.here hx rfl (hb hby at_86) rfl ?_
      show Steps p.tables e below (T288.setTop (mkF m 88 #[iv p0, iv p1, iv p2, iv p3, iv p4, iv (3 : Int32), rv b233, rv b238, .val (.long ((0 : Int64) + (((own_lo p1).toInt64) * ((own_hi p1).toInt64)))), .second, .unset, .unset] [(.long ((0 : Int64) + (((own_lo p1).toInt64) * ((own_hi p1).toInt64))))])) _
      refine XS.iloadN X288.here hx rfl (hb hby at_88) rfl ?_
      exact kt
    obtain ⟨_, _, ⟨T295, L295, k295, n295⟩, -, X295, ⟨Lc295, hQ295, l295, y295, z295⟩, st295⟩ := Jvm.LawKit.callS X288 hx (y := (⟨"com/example/centroid/centroid/VectorsDotPinLaw", "lo", "(I)I"⟩ : MethodName)) hown (mvT hZ (W 5 rfl)) (mvT hZ (W 6 rfl)) (mvT hZ (W 7 rfl)) (mvT hZ (W 8 rfl)) (by decide) (backOf (W := 2) (rm_lo l Z a0 hw [] p2 h288 n0 O288) hZ (W 8 rfl) (W 7 rfl) (by decide) (by decide)) (g := (mkF m 89 #[iv p0, iv p1, iv p2, iv p3, iv p4, iv (3 : Int32), rv b233, rv b238, .val (.long ((0 : Int64) + (((own_lo p1).toInt64) * ((own_hi p1).toInt64)))), .second, .unset, .unset] [(.int p2), (.long ((0 : Int64) + (((own_lo p1).toInt64) * ((own_hi p1).toInt64))))])) rfl (by rw [hml]; rfl) (argsL := [(.int p2)]) (rest := [(.long ((0 : Int64) + (((own_lo p1).toInt64) * ((own_hi p1).toInt64))))]) (lenOf pd_7 rfl) rfl (by show 2 * 0 + _ ≤ _; exact Nat.le_of_eq rfl) (hb hby at_89) (fun _ _ => ⟨rfl, e288, (by decide : 2 + 0 ≤ _), (by decide : 6 + 0 ≤ _)⟩)
    dsimp only [Pt.U, Pt.locs, Pt.cells, Pt.slots] at X295 l295 y295 z295 st295 hQ295
    replace l295 := l295.symm
    replace y295 : 2 = k295 := y295.symm
    replace z295 : 6 = n295 := z295.symm
    subst l295 y295 z295
    obtain ⟨rfl, M295, e295⟩ := hQ295
    have N295 := Fr.app N288 M295
    have pre296 : ∀ t, Steps p.tables e below (T295.setTop (mkF m 92 #[iv p0, iv p1, iv p2, iv p3, iv p4, iv (3 : Int32), rv b233, rv b238, .val (.long ((0 : Int64) + (((own_lo p1).toInt64) * ((own_hi p1).toInt64)))), .second, .unset, .unset] [(.int (own_lo p2)), (.long ((0 : Int64) + (((own_lo p1).toInt64) * ((own_hi p1).toInt64))))])) t → Steps p.tables e below (s₁.setTop (entryFrame m #[(.int p0), (.int p1), (.int p2), (.int p3), (.int p4)] maxLocals)) t := fun t kt => pre294 _ (st295 _ kt)
    have pre297 : ∀ t, Steps p.tables e below (T295.setTop (mkF m 94 #[iv p0, iv p1, iv p2, iv p3, iv p4, iv (3 : Int32), rv b233, rv b238, .val (.long ((0 : Int64) + (((own_lo p1).toInt64) * ((own_hi p1).toInt64)))), .second, .unset, .unset] [(.int p2), (.long ((own_lo p2).toInt64)), (.long ((0 : Int64) + (((own_lo p1).toInt64) * ((own_hi p1).toInt64))))])) t → Steps p.tables e below (s₁.setTop (entryFrame m #[(.int p0), (.int p1), (.int p2), (.int p3), (.int p4)] maxLocals)) t := fun t kt => by
      refine pre296 _ ?_
      show Steps p.tables e below (T295.setTop (mkF m 92 #[iv p0, iv p1, iv p2, iv p3, iv p4, iv (3 : Int32), rv b233, rv b238, .val (.long ((0 : Int64) + (((own_lo p1).toInt64) * ((own_hi p1).toInt64)))), .second, .unset, .unset] [(.int (own_lo p2)), (.long ((0 : Int64) + (((own_lo p1).toInt64) * ((own_hi p1).toInt64))))])) _
      refine XS.i2l X295.here hx rfl (hb hby at_92) rfl ?_
      show Steps p.tables e below (T295.setTop (mkF m 93 #[iv p0, iv p1, iv p2, iv p3, iv p4, iv (3 : Int32), rv b233, rv b238, .val (.long ((0 : Int64) + (((own_lo p1).toInt64) * ((own_hi p1).toInt64)))), .second, .unset, .unset] [(.long ((own_lo p2).toInt64)), (.long ((0 : Int64) + (((own_lo p1).toInt64) * ((own_hi p1).toInt64))))])) _
      refine XS.iloadN X295.here hx rfl (hb hby at_93) rfl ?_
      exact kt
    obtain ⟨_, _, ⟨T298, L298, k298, n298⟩, -, X298, ⟨Lc298, hQ298, l298, y298, z298⟩, st298⟩ := Jvm.LawKit.callS X295 hx (y := (⟨"com/example/centroid/centroid/VectorsDotPinLaw", "hi", "(I)I"⟩ : MethodName)) hown (mvT hZ (W 9 rfl)) (mvT hZ (W 10 rfl)) (mvT hZ (W 7 rfl)) (mvT hZ (W 11 rfl)) (by decide) (backOf (W := 4) (rm_hi l Z a0 hw [] p2 h288 n0 O288) hZ (W 11 rfl) (W 7 rfl) (by decide) (by decide)) (g := (mkF m 94 #[iv p0, iv p1, iv p2, iv p3, iv p4, iv (3 : Int32), rv b233, rv b238, .val (.long ((0 : Int64) + (((own_lo p1).toInt64) * ((own_hi p1).toInt64)))), .second, .unset, .unset] [(.int p2), (.long ((own_lo p2).toInt64)), (.long ((0 : Int64) + (((own_lo p1).toInt64) * ((own_hi p1).toInt64))))])) rfl (by rw [hml]; rfl) (argsL := [(.int p2)]) (rest := [(.long ((own_lo p2).toInt64)), (.long ((0 : Int64) + (((own_lo p1).toInt64) * ((own_hi p1).toInt64))))]) (lenOf pd_7 rfl) rfl (by show 2 * 0 + _ ≤ _; exact Nat.le_of_eq rfl) (hb hby at_94) (fun _ _ => ⟨rfl, e295, (by decide : 2 + 0 ≤ _), (by decide : 6 + 0 ≤ _)⟩)
    dsimp only [Pt.U, Pt.locs, Pt.cells, Pt.slots] at X298 l298 y298 z298 st298 hQ298
    replace l298 := l298.symm
    replace y298 : 2 = k298 := y298.symm
    replace z298 : 6 = n298 := z298.symm
    subst l298 y298 z298
    obtain ⟨rfl, M298, e298⟩ := hQ298
    have N298 := Fr.app N295 M298
    have pre299 : ∀ t, Steps p.tables e below (T298.setTop (mkF m 97 #[iv p0, iv p1, iv p2, iv p3, iv p4, iv (3 : Int32), rv b233, rv b238, .val (.long ((0 : Int64) + (((own_lo p1).toInt64) * ((own_hi p1).toInt64)))), .second, .unset, .unset] [(.int (own_hi p2)), (.long ((own_lo p2).toInt64)), (.long ((0 : Int64) + (((own_lo p1).toInt64) * ((own_hi p1).toInt64))))])) t → Steps p.tables e below (s₁.setTop (entryFrame m #[(.int p0), (.int p1), (.int p2), (.int p3), (.int p4)] maxLocals)) t := fun t kt => pre297 _ (st298 _ kt)
    have pre300 : ∀ t, Steps p.tables e below (T298.setTop (mkF m 112 #[iv p0, iv p1, iv p2, iv p3, iv p4, iv (3 : Int32), rv b233, rv b238, .val (.long (((0 : Int64) + (((own_lo p1).toInt64) * ((own_hi p1).toInt64))) + (((own_lo p2).toInt64) * ((own_hi p2).toInt64)))), .second, .unset, .unset] [(.int p3), (.int (2 : Int32)), (.ref b233)])) t → Steps p.tables e below (s₁.setTop (entryFrame m #[(.int p0), (.int p1), (.int p2), (.int p3), (.int p4)] maxLocals)) t := fun t kt => by
      refine pre299 _ ?_
      show Steps p.tables e below (T298.setTop (mkF m 97 #[iv p0, iv p1, iv p2, iv p3, iv p4, iv (3 : Int32), rv b233, rv b238, .val (.long ((0 : Int64) + (((own_lo p1).toInt64) * ((own_hi p1).toInt64)))), .second, .unset, .unset] [(.int (own_hi p2)), (.long ((own_lo p2).toInt64)), (.long ((0 : Int64) + (((own_lo p1).toInt64) * ((own_hi p1).toInt64))))])) _
      refine XS.i2l X298.here hx rfl (hb hby at_97) rfl ?_
      show Steps p.tables e below (T298.setTop (mkF m 98 #[iv p0, iv p1, iv p2, iv p3, iv p4, iv (3 : Int32), rv b233, rv b238, .val (.long ((0 : Int64) + (((own_lo p1).toInt64) * ((own_hi p1).toInt64)))), .second, .unset, .unset] [(.long ((own_hi p2).toInt64)), (.long ((own_lo p2).toInt64)), (.long ((0 : Int64) + (((own_lo p1).toInt64) * ((own_hi p1).toInt64))))])) _
      refine XS.lmul X298.here hx rfl (hb hby at_98) rfl ?_
      show Steps p.tables e below (T298.setTop (mkF m 99 #[iv p0, iv p1, iv p2, iv p3, iv p4, iv (3 : Int32), rv b233, rv b238, .val (.long ((0 : Int64) + (((own_lo p1).toInt64) * ((own_hi p1).toInt64)))), .second, .unset, .unset] [(.long (((own_lo p2).toInt64) * ((own_hi p2).toInt64))), (.long ((0 : Int64) + (((own_lo p1).toInt64) * ((own_hi p1).toInt64))))])) _
      refine XS.ladd X298.here hx rfl (hb hby at_99) rfl ?_
      show Steps p.tables e below (T298.setTop (mkF m 100 #[iv p0, iv p1, iv p2, iv p3, iv p4, iv (3 : Int32), rv b233, rv b238, .val (.long ((0 : Int64) + (((own_lo p1).toInt64) * ((own_hi p1).toInt64)))), .second, .unset, .unset] [(.long (((0 : Int64) + (((own_lo p1).toInt64) * ((own_hi p1).toInt64))) + (((own_lo p2).toInt64) * ((own_hi p2).toInt64))))])) _
      refine XS.lstore X298.here hx rfl (hb hby at_100) rfl (l' := #[iv p0, iv p1, iv p2, iv p3, iv p4, iv (3 : Int32), rv b233, rv b238, .val (.long (((0 : Int64) + (((own_lo p1).toInt64) * ((own_hi p1).toInt64))) + (((own_lo p2).toInt64) * ((own_hi p2).toInt64)))), .second, .unset, .unset]) rfl ?_
      show Steps p.tables e below (T298.setTop (mkF m 102 #[iv p0, iv p1, iv p2, iv p3, iv p4, iv (3 : Int32), rv b233, rv b238, .val (.long (((0 : Int64) + (((own_lo p1).toInt64) * ((own_hi p1).toInt64))) + (((own_lo p2).toInt64) * ((own_hi p2).toInt64)))), .second, .unset, .unset] [])) _
      refine XS.iload X298.here hx rfl (hb hby at_102) rfl ?_
      show Steps p.tables e below (T298.setTop (mkF m 104 #[iv p0, iv p1, iv p2, iv p3, iv p4, iv (3 : Int32), rv b233, rv b238, .val (.long (((0 : Int64) + (((own_lo p1).toInt64) * ((own_hi p1).toInt64))) + (((own_lo p2).toInt64) * ((own_hi p2).toInt64)))), .second, .unset, .unset] [(.int (3 : Int32))])) _
      refine XS.iconst X298.here hx rfl (hb hby at_104) ?_
      show Steps p.tables e below (T298.setTop (mkF m 105 #[iv p0, iv p1, iv p2, iv p3, iv p4, iv (3 : Int32), rv b233, rv b238, .val (.long (((0 : Int64) + (((own_lo p1).toInt64) * ((own_hi p1).toInt64))) + (((own_lo p2).toInt64) * ((own_hi p2).toInt64)))), .second, .unset, .unset] [(.int (2 : Int32)), (.int (3 : Int32))])) _
      refine XS.icmpNo X298.here hx rfl (hb hby at_105) rfl (XT.ii_le_f (by decide)) ?_
      show Steps p.tables e below (T298.setTop (mkF m 108 #[iv p0, iv p1, iv p2, iv p3, iv p4, iv (3 : Int32), rv b233, rv b238, .val (.long (((0 : Int64) + (((own_lo p1).toInt64) * ((own_hi p1).toInt64))) + (((own_lo p2).toInt64) * ((own_hi p2).toInt64)))), .second, .unset, .unset] [])) _
      refine XS.aload X298.here hx rfl (hb hby at_108) rfl rfl ?_
      show Steps p.tables e below (T298.setTop (mkF m 110 #[iv p0, iv p1, iv p2, iv p3, iv p4, iv (3 : Int32), rv b233, rv b238, .val (.long (((0 : Int64) + (((own_lo p1).toInt64) * ((own_hi p1).toInt64))) + (((own_lo p2).toInt64) * ((own_hi p2).toInt64)))), .second, .unset, .unset] [(.ref b233)])) _
      refine XS.iconst X298.here hx rfl (hb hby at_110) ?_
      show Steps p.tables e below (T298.setTop (mkF m 111 #[iv p0, iv p1, iv p2, iv p3, iv p4, iv (3 : Int32), rv b233, rv b238, .val (.long (((0 : Int64) + (((own_lo p1).toInt64) * ((own_hi p1).toInt64))) + (((own_lo p2).toInt64) * ((own_hi p2).toInt64)))), .second, .unset, .unset] [(.int (2 : Int32)), (.ref b233)])) _
      refine XS.iloadN X298.here hx rfl (hb hby at_111) rfl ?_
      exact kt
    obtain ⟨_, _, ⟨T301, L301, k301, n301⟩, -, X301, ⟨Lc301, hQ301, l301, y301, z301⟩, st301⟩ := Jvm.LawKit.callS X298 hx (y := (⟨"com/example/centroid/centroid/VectorsDotPinLaw", "lo", "(I)I"⟩ : MethodName)) hown (mvT hZ (W 5 rfl)) (mvT hZ (W 6 rfl)) (mvT hZ (W 7 rfl)) (mvT hZ (W 8 rfl)) (by decide) (backOf (W := 2) (rm_lo l Z a0 hw [] p3 h288 n0 O288) hZ (W 8 rfl) (W 7 rfl) (by decide) (by decide)) (g := (mkF m 112 #[iv p0, iv p1, iv p2, iv p3, iv p4, iv (3 : Int32), rv b233, rv b238, .val (.long (((0 : Int64) + (((own_lo p1).toInt64) * ((own_hi p1).toInt64))) + (((own_lo p2).toInt64) * ((own_hi p2).toInt64)))), .second, .unset, .unset] [(.int p3), (.int (2 : Int32)), (.ref b233)])) rfl (by rw [hml]; rfl) (argsL := [(.int p3)]) (rest := [(.int (2 : Int32)), (.ref b233)]) (lenOf pd_7 rfl) rfl (by show 2 * 0 + _ ≤ _; exact Nat.le_of_eq rfl) (hb hby at_112) (fun _ _ => ⟨rfl, e298, (by decide : 2 + 0 ≤ _), (by decide : 6 + 0 ≤ _)⟩)
    dsimp only [Pt.U, Pt.locs, Pt.cells, Pt.slots] at X301 l301 y301 z301 st301 hQ301
    replace l301 := l301.symm
    replace y301 : 2 = k301 := y301.symm
    replace z301 : 6 = n301 := z301.symm
    subst l301 y301 z301
    obtain ⟨rfl, M301, e301⟩ := hQ301
    have N301 := Fr.app N298 M301
    have pre302 : ∀ t, Steps p.tables e below (T301.setTop (mkF m 115 #[iv p0, iv p1, iv p2, iv p3, iv p4, iv (3 : Int32), rv b233, rv b238, .val (.long (((0 : Int64) + (((own_lo p1).toInt64) * ((own_hi p1).toInt64))) + (((own_lo p2).toInt64) * ((own_hi p2).toInt64)))), .second, .unset, .unset] [(.int (own_lo p3)), (.int (2 : Int32)), (.ref b233)])) t → Steps p.tables e below (s₁.setTop (entryFrame m #[(.int p0), (.int p1), (.int p2), (.int p3), (.int p4)] maxLocals)) t := fun t kt => pre300 _ (st301 _ kt)
    have pre303 : ∀ t, Steps p.tables e below (T301.setTop (mkF m 116 #[iv p0, iv p1, iv p2, iv p3, iv p4, iv (3 : Int32), rv b233, rv b238, .val (.long (((0 : Int64) + (((own_lo p1).toInt64) * ((own_hi p1).toInt64))) + (((own_lo p2).toInt64) * ((own_hi p2).toInt64)))), .second, .unset, .unset] [(.double (FP.i2d (own_lo p3))), (.int (2 : Int32)), (.ref b233)])) t → Steps p.tables e below (s₁.setTop (entryFrame m #[(.int p0), (.int p1), (.int p2), (.int p3), (.int p4)] maxLocals)) t := fun t kt => by
      refine pre302 _ ?_
      show Steps p.tables e below (T301.setTop (mkF m 115 #[iv p0, iv p1, iv p2, iv p3, iv p4, iv (3 : Int32), rv b233, rv b238, .val (.long (((0 : Int64) + (((own_lo p1).toInt64) * ((own_hi p1).toInt64))) + (((own_lo p2).toInt64) * ((own_hi p2).toInt64)))), .second, .unset, .unset] [(.int (own_lo p3)), (.int (2 : Int32)), (.ref b233)])) _
      refine XS.i2dS X301.here hx rfl (hb hby at_115) rfl rfl ?_
      exact kt
    obtain ⟨c304, Ar304, q304, S304, M304, H304, G304⟩ := id F292
    have i304 : ¬ ((2 : Int32) < 0 ∨ c304.slots.size ≤ ((2 : Int32)).toNatClampNeg) := inb_of S304 ⟨by decide, by decide⟩
    obtain ⟨T305, h305, X305, e305, W305, st305⟩ := stD X301 hx hZ e301 Ar304 (j := (2 : Int32)) i304 (g := (mkF m 116 #[iv p0, iv p1, iv p2, iv p3, iv p4, iv (3 : Int32), rv b233, rv b238, .val (.long (((0 : Int64) + (((own_lo p1).toInt64) * ((own_hi p1).toInt64))) + (((own_lo p2).toInt64) * ((own_hi p2).toInt64)))), .second, .unset, .unset] [(.double (FP.i2d (own_lo p3))), (.int (2 : Int32)), (.ref b233)])) rfl rfl (hb hby at_116)
    have pre306 : ∀ t, Steps p.tables e below (T305.setTop (mkF m 117 #[iv p0, iv p1, iv p2, iv p3, iv p4, iv (3 : Int32), rv b233, rv b238, .val (.long (((0 : Int64) + (((own_lo p1).toInt64) * ((own_hi p1).toInt64))) + (((own_lo p2).toInt64) * ((own_hi p2).toInt64)))), .second, .unset, .unset] [])) t → Steps p.tables e below (s₁.setTop (entryFrame m #[(.int p0), (.int p1), (.int p2), (.int p3), (.int p4)] maxLocals)) t := fun t kt => pre303 _ (st305 _ kt)
    have N305 := Fr.snoc X305 N301 g_b233
    have O305 := O288.wr W305 g_b233
    have K305 : Keep h0 h305 [] := K288.wr W305 (Or.inr sz_b233)
    have F307 := F290.wr W305
    have F308 := F291.wr W305
    have F309 := F293.other W305 (fun q => ne_b233_b238 q.symm)
    have F310 : Arv Z h305 b233 k233 .double (3 : Int32) [(.double (FP.i2d (own_lo p1))), (.double (FP.i2d (own_lo p2))), (.double (FP.i2d (own_lo p3)))] (.double (0 : UInt64)) := Arv.set Ar304 q304 S304 M304 H304 G304 rfl W305 2 rfl (Nat.le_of_ble_eq_true rfl)
    have pre311 : ∀ t, Steps p.tables e below (T305.setTop (mkF m 121 #[iv p0, iv p1, iv p2, iv p3, iv p4, iv (3 : Int32), rv b233, rv b238, .val (.long (((0 : Int64) + (((own_lo p1).toInt64) * ((own_hi p1).toInt64))) + (((own_lo p2).toInt64) * ((own_hi p2).toInt64)))), .second, .unset, .unset] [(.int p3), (.int (2 : Int32)), (.ref b238)])) t → Steps p.tables e below (s₁.setTop (entryFrame m #[(.int p0), (.int p1), (.int p2), (.int p3), (.int p4)] maxLocals)) t := fun t kt => by
      refine pre306 _ ?_
      show Steps p.tables e below (T305.setTop (mkF m 117 #[iv p0, iv p1, iv p2, iv p3, iv p4, iv (3 : Int32), rv b233, rv b238, .val (.long (((0 : Int64) + (((own_lo p1).toInt64) * ((own_hi p1).toInt64))) + (((own_lo p2).toInt64) * ((own_hi p2).toInt64)))), .second, .unset, .unset] [])) _
      refine XS.aload X305.here hx rfl (hb hby at_117) rfl rfl ?_
      show Steps p.tables e below (T305.setTop (mkF m 119 #[iv p0, iv p1, iv p2, iv p3, iv p4, iv (3 : Int32), rv b233, rv b238, .val (.long (((0 : Int64) + (((own_lo p1).toInt64) * ((own_hi p1).toInt64))) + (((own_lo p2).toInt64) * ((own_hi p2).toInt64)))), .second, .unset, .unset] [(.ref b238)])) _
      refine XS.iconst X305.here hx rfl (hb hby at_119) ?_
      show Steps p.tables e below (T305.setTop (mkF m 120 #[iv p0, iv p1, iv p2, iv p3, iv p4, iv (3 : Int32), rv b233, rv b238, .val (.long (((0 : Int64) + (((own_lo p1).toInt64) * ((own_hi p1).toInt64))) + (((own_lo p2).toInt64) * ((own_hi p2).toInt64)))), .second, .unset, .unset] [(.int (2 : Int32)), (.ref b238)])) _
      refine XS.iloadN X305.here hx rfl (hb hby at_120) rfl ?_
      exact kt
    obtain ⟨_, _, ⟨T312, L312, k312, n312⟩, -, X312, ⟨Lc312, hQ312, l312, y312, z312⟩, st312⟩ := Jvm.LawKit.callS X305 hx (y := (⟨"com/example/centroid/centroid/VectorsDotPinLaw", "hi", "(I)I"⟩ : MethodName)) hown (mvT hZ (W 9 rfl)) (mvT hZ (W 10 rfl)) (mvT hZ (W 7 rfl)) (mvT hZ (W 11 rfl)) (by decide) (backOf (W := 2) (rm_hi l Z a0 hw [] p3 h305 n0 O305) hZ (W 11 rfl) (W 7 rfl) (by decide) (by decide)) (g := (mkF m 121 #[iv p0, iv p1, iv p2, iv p3, iv p4, iv (3 : Int32), rv b233, rv b238, .val (.long (((0 : Int64) + (((own_lo p1).toInt64) * ((own_hi p1).toInt64))) + (((own_lo p2).toInt64) * ((own_hi p2).toInt64)))), .second, .unset, .unset] [(.int p3), (.int (2 : Int32)), (.ref b238)])) rfl (by rw [hml]; rfl) (argsL := [(.int p3)]) (rest := [(.int (2 : Int32)), (.ref b238)]) (lenOf pd_7 rfl) rfl (by show 2 * 0 + _ ≤ _; exact Nat.le_of_eq rfl) (hb hby at_121) (fun _ _ => ⟨rfl, e305, (by decide : 2 + 0 ≤ _), (by decide : 6 + 0 ≤ _)⟩)
    dsimp only [Pt.U, Pt.locs, Pt.cells, Pt.slots] at X312 l312 y312 z312 st312 hQ312
    replace l312 := l312.symm
    replace y312 : 2 = k312 := y312.symm
    replace z312 : 6 = n312 := z312.symm
    subst l312 y312 z312
    obtain ⟨rfl, M312, e312⟩ := hQ312
    have N312 := Fr.app N305 M312
    have pre313 : ∀ t, Steps p.tables e below (T312.setTop (mkF m 124 #[iv p0, iv p1, iv p2, iv p3, iv p4, iv (3 : Int32), rv b233, rv b238, .val (.long (((0 : Int64) + (((own_lo p1).toInt64) * ((own_hi p1).toInt64))) + (((own_lo p2).toInt64) * ((own_hi p2).toInt64)))), .second, .unset, .unset] [(.int (own_hi p3)), (.int (2 : Int32)), (.ref b238)])) t → Steps p.tables e below (s₁.setTop (entryFrame m #[(.int p0), (.int p1), (.int p2), (.int p3), (.int p4)] maxLocals)) t := fun t kt => pre311 _ (st312 _ kt)
    have pre314 : ∀ t, Steps p.tables e below (T312.setTop (mkF m 125 #[iv p0, iv p1, iv p2, iv p3, iv p4, iv (3 : Int32), rv b233, rv b238, .val (.long (((0 : Int64) + (((own_lo p1).toInt64) * ((own_hi p1).toInt64))) + (((own_lo p2).toInt64) * ((own_hi p2).toInt64)))), .second, .unset, .unset] [(.double (FP.i2d (own_hi p3))), (.int (2 : Int32)), (.ref b238)])) t → Steps p.tables e below (s₁.setTop (entryFrame m #[(.int p0), (.int p1), (.int p2), (.int p3), (.int p4)] maxLocals)) t := fun t kt => by
      refine pre313 _ ?_
      show Steps p.tables e below (T312.setTop (mkF m 124 #[iv p0, iv p1, iv p2, iv p3, iv p4, iv (3 : Int32), rv b233, rv b238, .val (.long (((0 : Int64) + (((own_lo p1).toInt64) * ((own_hi p1).toInt64))) + (((own_lo p2).toInt64) * ((own_hi p2).toInt64)))), .second, .unset, .unset] [(.int (own_hi p3)), (.int (2 : Int32)), (.ref b238)])) _
      refine XS.i2dS X312.here hx rfl (hb hby at_124) rfl rfl ?_
      exact kt
    obtain ⟨c315, Ar315, q315, S315, M315, H315, G315⟩ := id F309
    have i315 : ¬ ((2 : Int32) < 0 ∨ c315.slots.size ≤ ((2 : Int32)).toNatClampNeg) := inb_of S315 ⟨by decide, by decide⟩
    obtain ⟨T316, h316, X316, e316, W316, st316⟩ := stD X312 hx hZ e312 Ar315 (j := (2 : Int32)) i315 (g := (mkF m 125 #[iv p0, iv p1, iv p2, iv p3, iv p4, iv (3 : Int32), rv b233, rv b238, .val (.long (((0 : Int64) + (((own_lo p1).toInt64) * ((own_hi p1).toInt64))) + (((own_lo p2).toInt64) * ((own_hi p2).toInt64)))), .second, .unset, .unset] [(.double (FP.i2d (own_hi p3))), (.int (2 : Int32)), (.ref b238)])) rfl rfl (hb hby at_125)
    have pre317 : ∀ t, Steps p.tables e below (T316.setTop (mkF m 126 #[iv p0, iv p1, iv p2, iv p3, iv p4, iv (3 : Int32), rv b233, rv b238, .val (.long (((0 : Int64) + (((own_lo p1).toInt64) * ((own_hi p1).toInt64))) + (((own_lo p2).toInt64) * ((own_hi p2).toInt64)))), .second, .unset, .unset] [])) t → Steps p.tables e below (s₁.setTop (entryFrame m #[(.int p0), (.int p1), (.int p2), (.int p3), (.int p4)] maxLocals)) t := fun t kt => pre314 _ (st316 _ kt)
    have N316 := Fr.snoc X316 N312 g_b238
    have O316 := O305.wr W316 g_b238
    have K316 : Keep h0 h316 [] := K305.wr W316 (Or.inr sz_b238)
    have F318 := F307.wr W316
    have F319 := F308.wr W316
    have F320 := F310.other W316 ne_b233_b238
    have F321 : Arv Z h316 b238 k238 .double (3 : Int32) [(.double (FP.i2d (own_hi p1))), (.double (FP.i2d (own_hi p2))), (.double (FP.i2d (own_hi p3)))] (.double (0 : UInt64)) := Arv.set Ar315 q315 S315 M315 H315 G315 rfl W316 2 rfl (Nat.le_of_ble_eq_true rfl)
    have pre322 : ∀ t, Steps p.tables e below (T316.setTop (mkF m 129 #[iv p0, iv p1, iv p2, iv p3, iv p4, iv (3 : Int32), rv b233, rv b238, .val (.long (((0 : Int64) + (((own_lo p1).toInt64) * ((own_hi p1).toInt64))) + (((own_lo p2).toInt64) * ((own_hi p2).toInt64)))), .second, .unset, .unset] [(.int p3), (.long (((0 : Int64) + (((own_lo p1).toInt64) * ((own_hi p1).toInt64))) + (((own_lo p2).toInt64) * ((own_hi p2).toInt64))))])) t → Steps p.tables e below (s₁.setTop (entryFrame m #[(.int p0), (.int p1), (.int p2), (.int p3), (.int p4)] maxLocals)) t := fun t kt => by
      refine pre317 _ ?_
      show Steps p.tables e below (T316.setTop (mkF m 126 #[iv p0, iv p1, iv p2, iv p3, iv p4, iv (3 : Int32), rv b233, rv b238, .val (.long (((0 : Int64) + (((own_lo p1).toInt64) * ((own_hi p1).toInt64))) + (((own_lo p2).toInt64) * ((own_hi p2).toInt64)))), .second, .unset, .unset] [])) _
      refine XS.lload X316.here hx rfl (hb hby at_126) rfl ?_
      show Steps p.tables e below (T316.setTop (mkF m 128 #[iv p0, iv p1, iv p2, iv p3, iv p4, iv (3 : Int32), rv b233, rv b238, .val (.long (((0 : Int64) + (((own_lo p1).toInt64) * ((own_hi p1).toInt64))) + (((own_lo p2).toInt64) * ((own_hi p2).toInt64)))), .second, .unset, .unset] [(.long (((0 : Int64) + (((own_lo p1).toInt64) * ((own_hi p1).toInt64))) + (((own_lo p2).toInt64) * ((own_hi p2).toInt64))))])) _
      refine XS.iloadN X316.here hx rfl (hb hby at_128) rfl ?_
      exact kt
    obtain ⟨_, _, ⟨T323, L323, k323, n323⟩, -, X323, ⟨Lc323, hQ323, l323, y323, z323⟩, st323⟩ := Jvm.LawKit.callS X316 hx (y := (⟨"com/example/centroid/centroid/VectorsDotPinLaw", "lo", "(I)I"⟩ : MethodName)) hown (mvT hZ (W 5 rfl)) (mvT hZ (W 6 rfl)) (mvT hZ (W 7 rfl)) (mvT hZ (W 8 rfl)) (by decide) (backOf (W := 2) (rm_lo l Z a0 hw [] p3 h316 n0 O316) hZ (W 8 rfl) (W 7 rfl) (by decide) (by decide)) (g := (mkF m 129 #[iv p0, iv p1, iv p2, iv p3, iv p4, iv (3 : Int32), rv b233, rv b238, .val (.long (((0 : Int64) + (((own_lo p1).toInt64) * ((own_hi p1).toInt64))) + (((own_lo p2).toInt64) * ((own_hi p2).toInt64)))), .second, .unset, .unset] [(.int p3), (.long (((0 : Int64) + (((own_lo p1).toInt64) * ((own_hi p1).toInt64))) + (((own_lo p2).toInt64) * ((own_hi p2).toInt64))))])) rfl (by rw [hml]; rfl) (argsL := [(.int p3)]) (rest := [(.long (((0 : Int64) + (((own_lo p1).toInt64) * ((own_hi p1).toInt64))) + (((own_lo p2).toInt64) * ((own_hi p2).toInt64))))]) (lenOf pd_7 rfl) rfl (by show 2 * 0 + _ ≤ _; exact Nat.le_of_eq rfl) (hb hby at_129) (fun _ _ => ⟨rfl, e316, (by decide : 2 + 0 ≤ _), (by decide : 6 + 0 ≤ _)⟩)
    dsimp only [Pt.U, Pt.locs, Pt.cells, Pt.slots] at X323 l323 y323 z323 st323 hQ323
    replace l323 := l323.symm
    replace y323 : 2 = k323 := y323.symm
    replace z323 : 6 = n323 := z323.symm
    subst l323 y323 z323
    obtain ⟨rfl, M323, e323⟩ := hQ323
    have N323 := Fr.app N316 M323
    have pre324 : ∀ t, Steps p.tables e below (T323.setTop (mkF m 132 #[iv p0, iv p1, iv p2, iv p3, iv p4, iv (3 : Int32), rv b233, rv b238, .val (.long (((0 : Int64) + (((own_lo p1).toInt64) * ((own_hi p1).toInt64))) + (((own_lo p2).toInt64) * ((own_hi p2).toInt64)))), .second, .unset, .unset] [(.int (own_lo p3)), (.long (((0 : Int64) + (((own_lo p1).toInt64) * ((own_hi p1).toInt64))) + (((own_lo p2).toInt64) * ((own_hi p2).toInt64))))])) t → Steps p.tables e below (s₁.setTop (entryFrame m #[(.int p0), (.int p1), (.int p2), (.int p3), (.int p4)] maxLocals)) t := fun t kt => pre322 _ (st323 _ kt)
    have pre325 : ∀ t, Steps p.tables e below (T323.setTop (mkF m 134 #[iv p0, iv p1, iv p2, iv p3, iv p4, iv (3 : Int32), rv b233, rv b238, .val (.long (((0 : Int64) + (((own_lo p1).toInt64) * ((own_hi p1).toInt64))) + (((own_lo p2).toInt64) * ((own_hi p2).toInt64)))), .second, .unset, .unset] [(.int p3), (.long ((own_lo p3).toInt64)), (.long (((0 : Int64) + (((own_lo p1).toInt64) * ((own_hi p1).toInt64))) + (((own_lo p2).toInt64) * ((own_hi p2).toInt64))))])) t → Steps p.tables e below (s₁.setTop (entryFrame m #[(.int p0), (.int p1), (.int p2), (.int p3), (.int p4)] maxLocals)) t := fun t kt => by
      refine pre324 _ ?_
      show Steps p.tables e below (T323.setTop (mkF m 132 #[iv p0, iv p1, iv p2, iv p3, iv p4, iv (3 : Int32), rv b233, rv b238, .val (.long (((0 : Int64) + (((own_lo p1).toInt64) * ((own_hi p1).toInt64))) + (((own_lo p2).toInt64) * ((own_hi p2).toInt64)))), .second, .unset, .unset] [(.int (own_lo p3)), (.long (((0 : Int64) + (((own_lo p1).toInt64) * ((own_hi p1).toInt64))) + (((own_lo p2).toInt64) * ((own_hi p2).toInt64))))])) _
      refine XS.i2l X323.here hx rfl (hb hby at_132) rfl ?_
      show Steps p.tables e below (T323.setTop (mkF m 133 #[iv p0, iv p1, iv p2, iv p3, iv p4, iv (3 : Int32), rv b233, rv b238, .val (.long (((0 : Int64) + (((own_lo p1).toInt64) * ((own_hi p1).toInt64))) + (((own_lo p2).toInt64) * ((own_hi p2).toInt64)))), .second, .unset, .unset] [(.long ((own_lo p3).toInt64)), (.long (((0 : Int64) + (((own_lo p1).toInt64) * ((own_hi p1).toInt64))) + (((own_lo p2).toInt64) * ((own_hi p2).toInt64))))])) _
      refine XS.iloadN X323.here hx rfl (hb hby at_133) rfl ?_
      exact kt
    obtain ⟨_, _, ⟨T326, L326, k326, n326⟩, -, X326, ⟨Lc326, hQ326, l326, y326, z326⟩, st326⟩ := Jvm.LawKit.callS X323 hx (y := (⟨"com/example/centroid/centroid/VectorsDotPinLaw", "hi", "(I)I"⟩ : MethodName)) hown (mvT hZ (W 9 rfl)) (mvT hZ (W 10 rfl)) (mvT hZ (W 7 rfl)) (mvT hZ (W 11 rfl)) (by decide) (backOf (W := 4) (rm_hi l Z a0 hw [] p3 h316 n0 O316) hZ (W 11 rfl) (W 7 rfl) (by decide) (by decide)) (g := (mkF m 134 #[iv p0, iv p1, iv p2, iv p3, iv p4, iv (3 : Int32), rv b233, rv b238, .val (.long (((0 : Int64) + (((own_lo p1).toInt64) * ((own_hi p1).toInt64))) + (((own_lo p2).toInt64) * ((own_hi p2).toInt64)))), .second, .unset, .unset] [(.int p3), (.long ((own_lo p3).toInt64)), (.long (((0 : Int64) + (((own_lo p1).toInt64) * ((own_hi p1).toInt64))) + (((own_lo p2).toInt64) * ((own_hi p2).toInt64))))])) rfl (by rw [hml]; rfl) (argsL := [(.int p3)]) (rest := [(.long ((own_lo p3).toInt64)), (.long (((0 : Int64) + (((own_lo p1).toInt64) * ((own_hi p1).toInt64))) + (((own_lo p2).toInt64) * ((own_hi p2).toInt64))))]) (lenOf pd_7 rfl) rfl (by show 2 * 0 + _ ≤ _; exact Nat.le_of_eq rfl) (hb hby at_134) (fun _ _ => ⟨rfl, e323, (by decide : 2 + 0 ≤ _), (by decide : 6 + 0 ≤ _)⟩)
    dsimp only [Pt.U, Pt.locs, Pt.cells, Pt.slots] at X326 l326 y326 z326 st326 hQ326
    replace l326 := l326.symm
    replace y326 : 2 = k326 := y326.symm
    replace z326 : 6 = n326 := z326.symm
    subst l326 y326 z326
    obtain ⟨rfl, M326, e326⟩ := hQ326
    have N326 := Fr.app N323 M326
    have pre327 : ∀ t, Steps p.tables e below (T326.setTop (mkF m 137 #[iv p0, iv p1, iv p2, iv p3, iv p4, iv (3 : Int32), rv b233, rv b238, .val (.long (((0 : Int64) + (((own_lo p1).toInt64) * ((own_hi p1).toInt64))) + (((own_lo p2).toInt64) * ((own_hi p2).toInt64)))), .second, .unset, .unset] [(.int (own_hi p3)), (.long ((own_lo p3).toInt64)), (.long (((0 : Int64) + (((own_lo p1).toInt64) * ((own_hi p1).toInt64))) + (((own_lo p2).toInt64) * ((own_hi p2).toInt64))))])) t → Steps p.tables e below (s₁.setTop (entryFrame m #[(.int p0), (.int p1), (.int p2), (.int p3), (.int p4)] maxLocals)) t := fun t kt => pre325 _ (st326 _ kt)
    have pre328 : ∀ t, Steps p.tables e below (T326.setTop (mkF m 190 #[iv p0, iv p1, iv p2, iv p3, iv p4, iv (3 : Int32), rv b233, rv b238, .val (.long ((((0 : Int64) + (((own_lo p1).toInt64) * ((own_hi p1).toInt64))) + (((own_lo p2).toInt64) * ((own_hi p2).toInt64))) + (((own_lo p3).toInt64) * ((own_hi p3).toInt64)))), .second, .unset, .unset] [(.ref b238), (.ref b233)])) t → Steps p.tables e below (s₁.setTop (entryFrame m #[(.int p0), (.int p1), (.int p2), (.int p3), (.int p4)] maxLocals)) t := fun t kt => by
      refine pre327 _ ?_
      show Steps p.tables e below (T326.setTop (mkF m 137 #[iv p0, iv p1, iv p2, iv p3, iv p4, iv (3 : Int32), rv b233, rv b238, .val (.long (((0 : Int64) + (((own_lo p1).toInt64) * ((own_hi p1).toInt64))) + (((own_lo p2).toInt64) * ((own_hi p2).toInt64)))), .second, .unset, .unset] [(.int (own_hi p3)), (.long ((own_lo p3).toInt64)), (.long (((0 : Int64) + (((own_lo p1).toInt64) * ((own_hi p1).toInt64))) + (((own_lo p2).toInt64) * ((own_hi p2).toInt64))))])) _
      refine XS.i2l X326.here hx rfl (hb hby at_137) rfl ?_
      show Steps p.tables e below (T326.setTop (mkF m 138 #[iv p0, iv p1, iv p2, iv p3, iv p4, iv (3 : Int32), rv b233, rv b238, .val (.long (((0 : Int64) + (((own_lo p1).toInt64) * ((own_hi p1).toInt64))) + (((own_lo p2).toInt64) * ((own_hi p2).toInt64)))), .second, .unset, .unset] [(.long ((own_hi p3).toInt64)), (.long ((own_lo p3).toInt64)), (.long (((0 : Int64) + (((own_lo p1).toInt64) * ((own_hi p1).toInt64))) + (((own_lo p2).toInt64) * ((own_hi p2).toInt64))))])) _
      refine XS.lmul X326.here hx rfl (hb hby at_138) rfl ?_
      show Steps p.tables e below (T326.setTop (mkF m 139 #[iv p0, iv p1, iv p2, iv p3, iv p4, iv (3 : Int32), rv b233, rv b238, .val (.long (((0 : Int64) + (((own_lo p1).toInt64) * ((own_hi p1).toInt64))) + (((own_lo p2).toInt64) * ((own_hi p2).toInt64)))), .second, .unset, .unset] [(.long (((own_lo p3).toInt64) * ((own_hi p3).toInt64))), (.long (((0 : Int64) + (((own_lo p1).toInt64) * ((own_hi p1).toInt64))) + (((own_lo p2).toInt64) * ((own_hi p2).toInt64))))])) _
      refine XS.ladd X326.here hx rfl (hb hby at_139) rfl ?_
      show Steps p.tables e below (T326.setTop (mkF m 140 #[iv p0, iv p1, iv p2, iv p3, iv p4, iv (3 : Int32), rv b233, rv b238, .val (.long (((0 : Int64) + (((own_lo p1).toInt64) * ((own_hi p1).toInt64))) + (((own_lo p2).toInt64) * ((own_hi p2).toInt64)))), .second, .unset, .unset] [(.long ((((0 : Int64) + (((own_lo p1).toInt64) * ((own_hi p1).toInt64))) + (((own_lo p2).toInt64) * ((own_hi p2).toInt64))) + (((own_lo p3).toInt64) * ((own_hi p3).toInt64))))])) _
      refine XS.lstore X326.here hx rfl (hb hby at_140) rfl (l' := #[iv p0, iv p1, iv p2, iv p3, iv p4, iv (3 : Int32), rv b233, rv b238, .val (.long ((((0 : Int64) + (((own_lo p1).toInt64) * ((own_hi p1).toInt64))) + (((own_lo p2).toInt64) * ((own_hi p2).toInt64))) + (((own_lo p3).toInt64) * ((own_hi p3).toInt64)))), .second, .unset, .unset]) rfl ?_
      show Steps p.tables e below (T326.setTop (mkF m 142 #[iv p0, iv p1, iv p2, iv p3, iv p4, iv (3 : Int32), rv b233, rv b238, .val (.long ((((0 : Int64) + (((own_lo p1).toInt64) * ((own_hi p1).toInt64))) + (((own_lo p2).toInt64) * ((own_hi p2).toInt64))) + (((own_lo p3).toInt64) * ((own_hi p3).toInt64)))), .second, .unset, .unset] [])) _
      refine XS.iload X326.here hx rfl (hb hby at_142) rfl ?_
      show Steps p.tables e below (T326.setTop (mkF m 144 #[iv p0, iv p1, iv p2, iv p3, iv p4, iv (3 : Int32), rv b233, rv b238, .val (.long ((((0 : Int64) + (((own_lo p1).toInt64) * ((own_hi p1).toInt64))) + (((own_lo p2).toInt64) * ((own_hi p2).toInt64))) + (((own_lo p3).toInt64) * ((own_hi p3).toInt64)))), .second, .unset, .unset] [(.int (3 : Int32))])) _
      refine XS.iconst X326.here hx rfl (hb hby at_144) ?_
      show Steps p.tables e below (T326.setTop (mkF m 145 #[iv p0, iv p1, iv p2, iv p3, iv p4, iv (3 : Int32), rv b233, rv b238, .val (.long ((((0 : Int64) + (((own_lo p1).toInt64) * ((own_hi p1).toInt64))) + (((own_lo p2).toInt64) * ((own_hi p2).toInt64))) + (((own_lo p3).toInt64) * ((own_hi p3).toInt64)))), .second, .unset, .unset] [(.int (3 : Int32)), (.int (3 : Int32))])) _
      refine XS.icmpYes X326.here hx rfl (pc0 := 145) (pc' := 186) rfl (hb hby at_145) rfl (XT.ii_le_t (by decide)) (by decide) (by decide) ?_
      show Steps p.tables e below (T326.setTop (mkF m 186 #[iv p0, iv p1, iv p2, iv p3, iv p4, iv (3 : Int32), rv b233, rv b238, .val (.long ((((0 : Int64) + (((own_lo p1).toInt64) * ((own_hi p1).toInt64))) + (((own_lo p2).toInt64) * ((own_hi p2).toInt64))) + (((own_lo p3).toInt64) * ((own_hi p3).toInt64)))), .second, .unset, .unset] [])) _
      refine XS.aload X326.here hx rfl (hb hby at_186) rfl rfl ?_
      show Steps p.tables e below (T326.setTop (mkF m 188 #[iv p0, iv p1, iv p2, iv p3, iv p4, iv (3 : Int32), rv b233, rv b238, .val (.long ((((0 : Int64) + (((own_lo p1).toInt64) * ((own_hi p1).toInt64))) + (((own_lo p2).toInt64) * ((own_hi p2).toInt64))) + (((own_lo p3).toInt64) * ((own_hi p3).toInt64)))), .second, .unset, .unset] [(.ref b233)])) _
      refine XS.aload X326.here hx rfl (hb hby at_188) rfl rfl ?_
      exact kt
    obtain ⟨_, _, ⟨T329, L329, k329, n329⟩, -, X329, ⟨Lc329, hQ329, l329, y329, z329⟩, st329⟩ := Jvm.LawKit.callS X326 hx (y := (⟨"com/example/centroid/centroid/Vectors", "dot", "([D[D)D"⟩ : MethodName)) hown (mvT hZ (W 1 rfl)) (mvT hZ (W 2 rfl)) (mvT hZ (W 3 rfl)) (mvT hZ (W 4 rfl)) (by decide) (backOf (W := 0) (rm_dot3 l Z a0 hw [] b233 b238 k233 k238 ((FP.i2d (own_lo p1))) ((FP.i2d (own_lo p2))) ((FP.i2d (own_lo p3))) ((FP.i2d (own_hi p1))) ((FP.i2d (own_hi p2))) ((FP.i2d (own_hi p3))) ((own_lo p1).toInt) ((own_lo p2).toInt) ((own_lo p3).toInt) ((own_hi p1).toInt) ((own_hi p2).toInt) ((own_hi p3).toInt) h316 n0 O316 F320 F321 (own_D_i _ (own_lo_b _)) (own_D_i _ (own_lo_b _)) (own_D_i _ (own_lo_b _)) (own_D_i _ (own_hi_b _)) (own_D_i _ (own_hi_b _)) (own_D_i _ (own_hi_b _))) hZ (W 4 rfl) (W 3 rfl) (by decide) (by decide)) (g := (mkF m 190 #[iv p0, iv p1, iv p2, iv p3, iv p4, iv (3 : Int32), rv b233, rv b238, .val (.long ((((0 : Int64) + (((own_lo p1).toInt64) * ((own_hi p1).toInt64))) + (((own_lo p2).toInt64) * ((own_hi p2).toInt64))) + (((own_lo p3).toInt64) * ((own_hi p3).toInt64)))), .second, .unset, .unset] [(.ref b238), (.ref b233)])) rfl (by rw [hml]; rfl) (argsL := [(.ref b233), (.ref b238)]) (rest := []) (lenOf pd_6 rfl) rfl (by show 2 * 0 + _ ≤ _; exact Nat.le_of_eq rfl) (hb hby at_190) (fun _ _ => ⟨rfl, e326, (by decide : 2 + 0 ≤ _), (by decide : 6 + 0 ≤ _)⟩)
    dsimp only [Pt.U, Pt.locs, Pt.cells, Pt.slots] at X329 l329 y329 z329 st329 hQ329
    replace l329 := l329.symm
    replace y329 : 2 = k329 := y329.symm
    replace z329 : 6 = n329 := z329.symm
    subst l329 y329 z329
    obtain ⟨rd_329, rfl, M329, e329, P329_0⟩ := hQ329
    have N329 := Fr.app N326 M329
    have pre330 : ∀ t, Steps p.tables e below (T329.setTop (mkF m 193 #[iv p0, iv p1, iv p2, iv p3, iv p4, iv (3 : Int32), rv b233, rv b238, .val (.long ((((0 : Int64) + (((own_lo p1).toInt64) * ((own_hi p1).toInt64))) + (((own_lo p2).toInt64) * ((own_hi p2).toInt64))) + (((own_lo p3).toInt64) * ((own_hi p3).toInt64)))), .second, .unset, .unset] [(.double rd_329)])) t → Steps p.tables e below (s₁.setTop (entryFrame m #[(.int p0), (.int p1), (.int p2), (.int p3), (.int p4)] maxLocals)) t := fun t kt => pre328 _ (st329 _ kt)
    have pre331 : ∀ t, Steps p.tables e below (T329.setTop (mkF m 209 #[iv p0, iv p1, iv p2, iv p3, iv p4, iv (3 : Int32), rv b233, rv b238, .val (.long ((((0 : Int64) + (((own_lo p1).toInt64) * ((own_hi p1).toInt64))) + (((own_lo p2).toInt64) * ((own_hi p2).toInt64))) + (((own_lo p3).toInt64) * ((own_hi p3).toInt64)))), .second, .val (.double rd_329), .second] [(.int (1 : Int32))])) t → Steps p.tables e below (s₁.setTop (entryFrame m #[(.int p0), (.int p1), (.int p2), (.int p3), (.int p4)] maxLocals)) t := fun t kt => by
      refine pre330 _ ?_
      show Steps p.tables e below (T329.setTop (mkF m 193 #[iv p0, iv p1, iv p2, iv p3, iv p4, iv (3 : Int32), rv b233, rv b238, .val (.long ((((0 : Int64) + (((own_lo p1).toInt64) * ((own_hi p1).toInt64))) + (((own_lo p2).toInt64) * ((own_hi p2).toInt64))) + (((own_lo p3).toInt64) * ((own_hi p3).toInt64)))), .second, .unset, .unset] [(.double rd_329)])) _
      refine XS.dstore X329.here hx rfl (hb hby at_193) rfl (l' := #[iv p0, iv p1, iv p2, iv p3, iv p4, iv (3 : Int32), rv b233, rv b238, .val (.long ((((0 : Int64) + (((own_lo p1).toInt64) * ((own_hi p1).toInt64))) + (((own_lo p2).toInt64) * ((own_hi p2).toInt64))) + (((own_lo p3).toInt64) * ((own_hi p3).toInt64)))), .second, .val (.double rd_329), .second]) rfl ?_
      show Steps p.tables e below (T329.setTop (mkF m 195 #[iv p0, iv p1, iv p2, iv p3, iv p4, iv (3 : Int32), rv b233, rv b238, .val (.long ((((0 : Int64) + (((own_lo p1).toInt64) * ((own_hi p1).toInt64))) + (((own_lo p2).toInt64) * ((own_hi p2).toInt64))) + (((own_lo p3).toInt64) * ((own_hi p3).toInt64)))), .second, .val (.double rd_329), .second] [])) _
      refine XS.dload X329.here hx rfl (hb hby at_195) rfl ?_
      show Steps p.tables e below (T329.setTop (mkF m 197 #[iv p0, iv p1, iv p2, iv p3, iv p4, iv (3 : Int32), rv b233, rv b238, .val (.long ((((0 : Int64) + (((own_lo p1).toInt64) * ((own_hi p1).toInt64))) + (((own_lo p2).toInt64) * ((own_hi p2).toInt64))) + (((own_lo p3).toInt64) * ((own_hi p3).toInt64)))), .second, .val (.double rd_329), .second] [(.double rd_329)])) _
      refine XS.lload X329.here hx rfl (hb hby at_197) rfl ?_
      show Steps p.tables e below (T329.setTop (mkF m 199 #[iv p0, iv p1, iv p2, iv p3, iv p4, iv (3 : Int32), rv b233, rv b238, .val (.long ((((0 : Int64) + (((own_lo p1).toInt64) * ((own_hi p1).toInt64))) + (((own_lo p2).toInt64) * ((own_hi p2).toInt64))) + (((own_lo p3).toInt64) * ((own_hi p3).toInt64)))), .second, .val (.double rd_329), .second] [(.long ((((0 : Int64) + (((own_lo p1).toInt64) * ((own_hi p1).toInt64))) + (((own_lo p2).toInt64) * ((own_hi p2).toInt64))) + (((own_lo p3).toInt64) * ((own_hi p3).toInt64)))), (.double rd_329)])) _
      refine XS.l2dS X329.here hx rfl (hb hby at_199) rfl rfl ?_
      show Steps p.tables e below (T329.setTop (mkF m 200 #[iv p0, iv p1, iv p2, iv p3, iv p4, iv (3 : Int32), rv b233, rv b238, .val (.long ((((0 : Int64) + (((own_lo p1).toInt64) * ((own_hi p1).toInt64))) + (((own_lo p2).toInt64) * ((own_hi p2).toInt64))) + (((own_lo p3).toInt64) * ((own_hi p3).toInt64)))), .second, .val (.double rd_329), .second] [(.double (FP.l2d ((((0 : Int64) + (((own_lo p1).toInt64) * ((own_hi p1).toInt64))) + (((own_lo p2).toInt64) * ((own_hi p2).toInt64))) + (((own_lo p3).toInt64) * ((own_hi p3).toInt64))))), (.double rd_329)])) _
      refine XS.dcmpS X329.here hx rfl (hb hby at_200) rfl (v := (0 : Int32)) (own_D_cmp P329_0 (own_LD (own_L_add (own_L_add (own_L_add own_L_0 (own_L_mul (own_L_i _ (own_lo_b _)) (own_L_i _ (own_hi_b _)) (by decide)) (by decide)) (own_L_mul (own_L_i _ (own_lo_b _)) (own_L_i _ (own_hi_b _)) (by decide)) (by decide)) (own_L_mul (own_L_i _ (own_lo_b _)) (own_L_i _ (own_hi_b _)) (by decide)) (by decide)) (by decide)) _) ?_
      show Steps p.tables e below (T329.setTop (mkF m 201 #[iv p0, iv p1, iv p2, iv p3, iv p4, iv (3 : Int32), rv b233, rv b238, .val (.long ((((0 : Int64) + (((own_lo p1).toInt64) * ((own_hi p1).toInt64))) + (((own_lo p2).toInt64) * ((own_hi p2).toInt64))) + (((own_lo p3).toInt64) * ((own_hi p3).toInt64)))), .second, .val (.double rd_329), .second] [(.int (0 : Int32))])) _
      refine XS.ifNo X329.here hx rfl (hb hby at_201) rfl (XT.i0_ne_f (by decide)) ?_
      show Steps p.tables e below (T329.setTop (mkF m 204 #[iv p0, iv p1, iv p2, iv p3, iv p4, iv (3 : Int32), rv b233, rv b238, .val (.long ((((0 : Int64) + (((own_lo p1).toInt64) * ((own_hi p1).toInt64))) + (((own_lo p2).toInt64) * ((own_hi p2).toInt64))) + (((own_lo p3).toInt64) * ((own_hi p3).toInt64)))), .second, .val (.double rd_329), .second] [])) _
      refine XS.iconst X329.here hx rfl (hb hby at_204) ?_
      show Steps p.tables e below (T329.setTop (mkF m 205 #[iv p0, iv p1, iv p2, iv p3, iv p4, iv (3 : Int32), rv b233, rv b238, .val (.long ((((0 : Int64) + (((own_lo p1).toInt64) * ((own_hi p1).toInt64))) + (((own_lo p2).toInt64) * ((own_hi p2).toInt64))) + (((own_lo p3).toInt64) * ((own_hi p3).toInt64)))), .second, .val (.double rd_329), .second] [(.int (1 : Int32))])) _
      refine XS.goto X329.here hx rfl (pc0 := 205) (pc' := 209) rfl (hb hby at_205) (by decide) (by decide) ?_
      exact kt
    obtain ⟨fs, hr, hrun, hended, hW, hsame⟩ := X329.leave (v := some (.int (1 : Int32))) (fun h => by rw [Bd.returns] at h; cases h)
    refine ⟨_, _, pre331 _ (retN X329 hx (t := .boolean) Bd.returns (by simp) (hb hby at_209) hr), hrun, hended, _, _, rfl, ?_, ⟨_, rfl⟩, hW, hsame.mono (by decide) (by decide)⟩
    show Q_law Z p0 p1 p2 p3 p4 h0 n0 _ T329.heap _
    rw [e329]
    exact ⟨rfl, N329⟩
  · rw [hv99] at pre98
    have pre332 : ∀ t, Steps p.tables e below (s₁.setTop (mkF m 10 #[iv p0, iv p1, iv p2, iv p3, iv p4, iv (4 : Int32), .unset, .unset, .unset, .unset, .unset, .unset] [(.int (4 : Int32))])) t → Steps p.tables e below (s₁.setTop (entryFrame m #[(.int p0), (.int p1), (.int p2), (.int p3), (.int p4)] maxLocals)) t := fun t kt => by
      refine pre98 _ ?_
      show Steps p.tables e below (s₁.setTop (mkF m 8 #[iv p0, iv p1, iv p2, iv p3, iv p4, iv (4 : Int32), .unset, .unset, .unset, .unset, .unset, .unset] [])) _
      refine XS.iload X0.here hx rfl (hb hby at_8) rfl ?_
      exact kt
    obtain ⟨T333, h333, k333, X333, e333, E333, A333, B333, st333⟩ := newPE X0 hx hZ (W 0 rfl) e0 (g := (mkF m 10 #[iv p0, iv p1, iv p2, iv p3, iv p4, iv (4 : Int32), .unset, .unset, .unset, .unset, .unset, .unset] [(.int (4 : Int32))])) rfl (hb hby at_10) rfl (by decide) (cap := 4) (by decide) (by decide) (by decide) (by decide) (ad := "[D") (by decide)
    obtain ⟨b333, g333⟩ : ∃ z, z = h0.size := ⟨_, rfl⟩
    rw [← g333] at A333 B333 st333
    have pre334 : ∀ t, Steps p.tables e below (T333.setTop (mkF m 12 #[iv p0, iv p1, iv p2, iv p3, iv p4, iv (4 : Int32), .unset, .unset, .unset, .unset, .unset, .unset] [(.ref b333)])) t → Steps p.tables e below (s₁.setTop (entryFrame m #[(.int p0), (.int p1), (.int p2), (.int p3), (.int p4)] maxLocals)) t := fun t kt => pre332 _ (st333 _ kt)
    have O333 := O0.ext E333
    have K333 : Keep h0 h333 [] := K0.ext E333
    have g_b333 : n0 ≤ b333 := Nat.le_trans (Nat.le_trans (Nat.le_of_eq O0.1.symm) O0.2.1) (Nat.le_of_eq g333.symm)
    have sz_b333 : h0.size ≤ b333 := Nat.le_trans K0.1 (Nat.le_of_eq g333.symm)
    have F335 : Exa Z h333 b333 "[D" := B333
    have F336 : Arv Z h333 b333 k333 .double (4 : Int32) [(.double (0 : UInt64)), (.double (0 : UInt64)), (.double (0 : UInt64)), (.double (0 : UInt64))] (.double (0 : UInt64)) := (Arv.new A333 (by decide)).pad (pad_rep [] (.double (0 : UInt64)) 4)
    have pre337 : ∀ t, Steps p.tables e below (T333.setTop (mkF m 16 #[iv p0, iv p1, iv p2, iv p3, iv p4, iv (4 : Int32), rv b333, .unset, .unset, .unset, .unset, .unset] [(.int (4 : Int32))])) t → Steps p.tables e below (s₁.setTop (entryFrame m #[(.int p0), (.int p1), (.int p2), (.int p3), (.int p4)] maxLocals)) t := fun t kt => by
      refine pre334 _ ?_
      show Steps p.tables e below (T333.setTop (mkF m 12 #[iv p0, iv p1, iv p2, iv p3, iv p4, iv (4 : Int32), .unset, .unset, .unset, .unset, .unset, .unset] [(.ref b333)])) _
      refine XS.astore X333.here hx rfl (hb hby at_12) rfl rfl (l' := #[iv p0, iv p1, iv p2, iv p3, iv p4, iv (4 : Int32), rv b333, .unset, .unset, .unset, .unset, .unset]) rfl ?_
      show Steps p.tables e below (T333.setTop (mkF m 14 #[iv p0, iv p1, iv p2, iv p3, iv p4, iv (4 : Int32), rv b333, .unset, .unset, .unset, .unset, .unset] [])) _
      refine XS.iload X333.here hx rfl (hb hby at_14) rfl ?_
      exact kt
    obtain ⟨T338, h338, k338, X338, e338, E338, A338, B338, st338⟩ := newPE X333 hx hZ (W 0 rfl) e333 (g := (mkF m 16 #[iv p0, iv p1, iv p2, iv p3, iv p4, iv (4 : Int32), rv b333, .unset, .unset, .unset, .unset, .unset] [(.int (4 : Int32))])) rfl (hb hby at_16) rfl (by decide) (cap := 4) (by decide) (by decide) (by decide) (by decide) (ad := "[D") (by decide)
    obtain ⟨b338, g338⟩ : ∃ z, z = h333.size := ⟨_, rfl⟩
    rw [← g338] at A338 B338 st338
    have pre339 : ∀ t, Steps p.tables e below (T338.setTop (mkF m 18 #[iv p0, iv p1, iv p2, iv p3, iv p4, iv (4 : Int32), rv b333, .unset, .unset, .unset, .unset, .unset] [(.ref b338)])) t → Steps p.tables e below (s₁.setTop (entryFrame m #[(.int p0), (.int p1), (.int p2), (.int p3), (.int p4)] maxLocals)) t := fun t kt => pre337 _ (st338 _ kt)
    have O338 := O333.ext E338
    have K338 : Keep h0 h338 [] := K333.ext E338
    have F340 := F335.ext E338
    have F341 := F336.ext E338
    have g_b338 : n0 ≤ b338 := Nat.le_trans (Nat.le_trans (Nat.le_of_eq O333.1.symm) O333.2.1) (Nat.le_of_eq g338.symm)
    have sz_b338 : h0.size ≤ b338 := Nat.le_trans K333.1 (Nat.le_of_eq g338.symm)
    have ne_b333_b338 : b333 ≠ b338 := Nat.ne_of_lt (Nat.lt_of_lt_of_le F335.lt (Nat.le_of_eq g338.symm))
    have F342 : Exa Z h338 b338 "[D" := B338
    have F343 : Arv Z h338 b338 k338 .double (4 : Int32) [(.double (0 : UInt64)), (.double (0 : UInt64)), (.double (0 : UInt64)), (.double (0 : UInt64))] (.double (0 : UInt64)) := (Arv.new A338 (by decide)).pad (pad_rep [] (.double (0 : UInt64)) 4)
    have pre344 : ∀ t, Steps p.tables e below (T338.setTop (mkF m 32 #[iv p0, iv p1, iv p2, iv p3, iv p4, iv (4 : Int32), rv b333, rv b338, .val (.long (0 : Int64)), .second, .unset, .unset] [(.int p1), (.int (0 : Int32)), (.ref b333)])) t → Steps p.tables e below (s₁.setTop (entryFrame m #[(.int p0), (.int p1), (.int p2), (.int p3), (.int p4)] maxLocals)) t := fun t kt => by
      refine pre339 _ ?_
      show Steps p.tables e below (T338.setTop (mkF m 18 #[iv p0, iv p1, iv p2, iv p3, iv p4, iv (4 : Int32), rv b333, .unset, .unset, .unset, .unset, .unset] [(.ref b338)])) _
      refine XS.astore X338.here hx rfl (hb hby at_18) rfl rfl (l' := #[iv p0, iv p1, iv p2, iv p3, iv p4, iv (4 : Int32), rv b333, rv b338, .unset, .unset, .unset, .unset]) rfl ?_
      show Steps p.tables e below (T338.setTop (mkF m 20 #[iv p0, iv p1, iv p2, iv p3, iv p4, iv (4 : Int32), rv b333, rv b338, .unset, .unset, .unset, .unset] [])) _
      refine XS.lconst X338.here hx rfl (hb hby at_20) ?_
      show Steps p.tables e below (T338.setTop (mkF m 21 #[iv p0, iv p1, iv p2, iv p3, iv p4, iv (4 : Int32), rv b333, rv b338, .unset, .unset, .unset, .unset] [(.long (0 : Int64))])) _
      refine XS.lstore X338.here hx rfl (hb hby at_21) rfl (l' := #[iv p0, iv p1, iv p2, iv p3, iv p4, iv (4 : Int32), rv b333, rv b338, .val (.long (0 : Int64)), .second, .unset, .unset]) rfl ?_
      show Steps p.tables e below (T338.setTop (mkF m 23 #[iv p0, iv p1, iv p2, iv p3, iv p4, iv (4 : Int32), rv b333, rv b338, .val (.long (0 : Int64)), .second, .unset, .unset] [])) _
      refine XS.iload X338.here hx rfl (hb hby at_23) rfl ?_
      show Steps p.tables e below (T338.setTop (mkF m 25 #[iv p0, iv p1, iv p2, iv p3, iv p4, iv (4 : Int32), rv b333, rv b338, .val (.long (0 : Int64)), .second, .unset, .unset] [(.int (4 : Int32))])) _
      refine XS.ifNo X338.here hx rfl (hb hby at_25) rfl (XT.i0_le_f (by decide)) ?_
      show Steps p.tables e below (T338.setTop (mkF m 28 #[iv p0, iv p1, iv p2, iv p3, iv p4, iv (4 : Int32), rv b333, rv b338, .val (.long (0 : Int64)), .second, .unset, .unset] [])) _
      refine XS.aload X338.here hx rfl (hb hby at_28) rfl rfl ?_
      show Steps p.tables e below (T338.setTop (mkF m 30 #[iv p0, iv p1, iv p2, iv p3, iv p4, iv (4 : Int32), rv b333, rv b338, .val (.long (0 : Int64)), .second, .unset, .unset] [(.ref b333)])) _
      refine XS.iconst X338.here hx rfl (hb hby at_30) ?_
      show Steps p.tables e below (T338.setTop (mkF m 31 #[iv p0, iv p1, iv p2, iv p3, iv p4, iv (4 : Int32), rv b333, rv b338, .val (.long (0 : Int64)), .second, .unset, .unset] [(.int (0 : Int32)), (.ref b333)])) _
      refine XS.iloadN X338.here hx rfl (hb hby at_31) rfl ?_
      exact kt
    obtain ⟨_, _, ⟨T345, L345, k345, n345⟩, -, X345, ⟨Lc345, hQ345, l345, y345, z345⟩, st345⟩ := Jvm.LawKit.callS X338 hx (y := (⟨"com/example/centroid/centroid/VectorsDotPinLaw", "lo", "(I)I"⟩ : MethodName)) hown (mvT hZ (W 5 rfl)) (mvT hZ (W 6 rfl)) (mvT hZ (W 7 rfl)) (mvT hZ (W 8 rfl)) (by decide) (backOf (W := 2) (rm_lo l Z a0 hw [] p1 h338 n0 O338) hZ (W 8 rfl) (W 7 rfl) (by decide) (by decide)) (g := (mkF m 32 #[iv p0, iv p1, iv p2, iv p3, iv p4, iv (4 : Int32), rv b333, rv b338, .val (.long (0 : Int64)), .second, .unset, .unset] [(.int p1), (.int (0 : Int32)), (.ref b333)])) rfl (by rw [hml]; rfl) (argsL := [(.int p1)]) (rest := [(.int (0 : Int32)), (.ref b333)]) (lenOf pd_7 rfl) rfl (by show 2 * 0 + _ ≤ _; exact Nat.le_of_eq rfl) (hb hby at_32) (fun _ _ => ⟨rfl, e338, (by decide : 2 + 0 ≤ _), (by decide : 8 + 0 ≤ _)⟩)
    dsimp only [Pt.U, Pt.locs, Pt.cells, Pt.slots] at X345 l345 y345 z345 st345 hQ345
    replace l345 := l345.symm
    replace y345 : 2 = k345 := y345.symm
    replace z345 : 8 = n345 := z345.symm
    subst l345 y345 z345
    obtain ⟨rfl, M345, e345⟩ := hQ345
    have N345 := Fr.app N0 M345
    have pre346 : ∀ t, Steps p.tables e below (T345.setTop (mkF m 35 #[iv p0, iv p1, iv p2, iv p3, iv p4, iv (4 : Int32), rv b333, rv b338, .val (.long (0 : Int64)), .second, .unset, .unset] [(.int (own_lo p1)), (.int (0 : Int32)), (.ref b333)])) t → Steps p.tables e below (s₁.setTop (entryFrame m #[(.int p0), (.int p1), (.int p2), (.int p3), (.int p4)] maxLocals)) t := fun t kt => pre344 _ (st345 _ kt)
    have pre347 : ∀ t, Steps p.tables e below (T345.setTop (mkF m 36 #[iv p0, iv p1, iv p2, iv p3, iv p4, iv (4 : Int32), rv b333, rv b338, .val (.long (0 : Int64)), .second, .unset, .unset] [(.double (FP.i2d (own_lo p1))), (.int (0 : Int32)), (.ref b333)])) t → Steps p.tables e below (s₁.setTop (entryFrame m #[(.int p0), (.int p1), (.int p2), (.int p3), (.int p4)] maxLocals)) t := fun t kt => by
      refine pre346 _ ?_
      show Steps p.tables e below (T345.setTop (mkF m 35 #[iv p0, iv p1, iv p2, iv p3, iv p4, iv (4 : Int32), rv b333, rv b338, .val (.long (0 : Int64)), .second, .unset, .unset] [(.int (own_lo p1)), (.int (0 : Int32)), (.ref b333)])) _
      refine XS.i2dS X345.here hx rfl (hb hby at_35) rfl rfl ?_
      exact kt
    obtain ⟨c348, Ar348, q348, S348, M348, H348, G348⟩ := id F341
    have i348 : ¬ ((0 : Int32) < 0 ∨ c348.slots.size ≤ ((0 : Int32)).toNatClampNeg) := inb_of S348 ⟨by decide, by decide⟩
    obtain ⟨T349, h349, X349, e349, W349, st349⟩ := stD X345 hx hZ e345 Ar348 (j := (0 : Int32)) i348 (g := (mkF m 36 #[iv p0, iv p1, iv p2, iv p3, iv p4, iv (4 : Int32), rv b333, rv b338, .val (.long (0 : Int64)), .second, .unset, .unset] [(.double (FP.i2d (own_lo p1))), (.int (0 : Int32)), (.ref b333)])) rfl rfl (hb hby at_36)
    have pre350 : ∀ t, Steps p.tables e below (T349.setTop (mkF m 37 #[iv p0, iv p1, iv p2, iv p3, iv p4, iv (4 : Int32), rv b333, rv b338, .val (.long (0 : Int64)), .second, .unset, .unset] [])) t → Steps p.tables e below (s₁.setTop (entryFrame m #[(.int p0), (.int p1), (.int p2), (.int p3), (.int p4)] maxLocals)) t := fun t kt => pre347 _ (st349 _ kt)
    have N349 := Fr.snoc X349 N345 g_b333
    have O349 := O338.wr W349 g_b333
    have K349 : Keep h0 h349 [] := K338.wr W349 (Or.inr sz_b333)
    have F351 := F340.wr W349
    have F352 := F342.wr W349
    have F353 := F343.other W349 (fun q => ne_b333_b338 q.symm)
    have F354 : Arv Z h349 b333 k333 .double (4 : Int32) [(.double (FP.i2d (own_lo p1))), (.double (0 : UInt64)), (.double (0 : UInt64)), (.double (0 : UInt64))] (.double (0 : UInt64)) := Arv.set Ar348 q348 S348 M348 H348 G348 rfl W349 0 rfl (Nat.le_of_ble_eq_true rfl)
    have pre355 : ∀ t, Steps p.tables e below (T349.setTop (mkF m 41 #[iv p0, iv p1, iv p2, iv p3, iv p4, iv (4 : Int32), rv b333, rv b338, .val (.long (0 : Int64)), .second, .unset, .unset] [(.int p1), (.int (0 : Int32)), (.ref b338)])) t → Steps p.tables e below (s₁.setTop (entryFrame m #[(.int p0), (.int p1), (.int p2), (.int p3), (.int p4)] maxLocals)) t := fun t kt => by
      refine pre350 _ ?_
      show Steps p.tables e below (T349.setTop (mkF m 37 #[iv p0, iv p1, iv p2, iv p3, iv p4, iv (4 : Int32), rv b333, rv b338, .val (.long (0 : Int64)), .second, .unset, .unset] [])) _
      refine XS.aload X349.here hx rfl (hb hby at_37) rfl rfl ?_
      show Steps p.tables e below (T349.setTop (mkF m 39 #[iv p0, iv p1, iv p2, iv p3, iv p4, iv (4 : Int32), rv b333, rv b338, .val (.long (0 : Int64)), .second, .unset, .unset] [(.ref b338)])) _
      refine XS.iconst X349.here hx rfl (hb hby at_39) ?_
      show Steps p.tables e below (T349.setTop (mkF m 40 #[iv p0, iv p1, iv p2, iv p3, iv p4, iv (4 : Int32), rv b333, rv b338, .val (.long (0 : Int64)), .second, .unset, .unset] [(.int (0 : Int32)), (.ref b338)])) _
      refine XS.iloadN X349.here hx rfl (hb hby at_40) rfl ?_
      exact kt
    obtain ⟨_, _, ⟨T356, L356, k356, n356⟩, -, X356, ⟨Lc356, hQ356, l356, y356, z356⟩, st356⟩ := Jvm.LawKit.callS X349 hx (y := (⟨"com/example/centroid/centroid/VectorsDotPinLaw", "hi", "(I)I"⟩ : MethodName)) hown (mvT hZ (W 9 rfl)) (mvT hZ (W 10 rfl)) (mvT hZ (W 7 rfl)) (mvT hZ (W 11 rfl)) (by decide) (backOf (W := 2) (rm_hi l Z a0 hw [] p1 h349 n0 O349) hZ (W 11 rfl) (W 7 rfl) (by decide) (by decide)) (g := (mkF m 41 #[iv p0, iv p1, iv p2, iv p3, iv p4, iv (4 : Int32), rv b333, rv b338, .val (.long (0 : Int64)), .second, .unset, .unset] [(.int p1), (.int (0 : Int32)), (.ref b338)])) rfl (by rw [hml]; rfl) (argsL := [(.int p1)]) (rest := [(.int (0 : Int32)), (.ref b338)]) (lenOf pd_7 rfl) rfl (by show 2 * 0 + _ ≤ _; exact Nat.le_of_eq rfl) (hb hby at_41) (fun _ _ => ⟨rfl, e349, (by decide : 2 + 0 ≤ _), (by decide : 8 + 0 ≤ _)⟩)
    dsimp only [Pt.U, Pt.locs, Pt.cells, Pt.slots] at X356 l356 y356 z356 st356 hQ356
    replace l356 := l356.symm
    replace y356 : 2 = k356 := y356.symm
    replace z356 : 8 = n356 := z356.symm
    subst l356 y356 z356
    obtain ⟨rfl, M356, e356⟩ := hQ356
    have N356 := Fr.app N349 M356
    have pre357 : ∀ t, Steps p.tables e below (T356.setTop (mkF m 44 #[iv p0, iv p1, iv p2, iv p3, iv p4, iv (4 : Int32), rv b333, rv b338, .val (.long (0 : Int64)), .second, .unset, .unset] [(.int (own_hi p1)), (.int (0 : Int32)), (.ref b338)])) t → Steps p.tables e below (s₁.setTop (entryFrame m #[(.int p0), (.int p1), (.int p2), (.int p3), (.int p4)] maxLocals)) t := fun t kt => pre355 _ (st356 _ kt)
    have pre358 : ∀ t, Steps p.tables e below (T356.setTop (mkF m 45 #[iv p0, iv p1, iv p2, iv p3, iv p4, iv (4 : Int32), rv b333, rv b338, .val (.long (0 : Int64)), .second, .unset, .unset] [(.double (FP.i2d (own_hi p1))), (.int (0 : Int32)), (.ref b338)])) t → Steps p.tables e below (s₁.setTop (entryFrame m #[(.int p0), (.int p1), (.int p2), (.int p3), (.int p4)] maxLocals)) t := fun t kt => by
      refine pre357 _ ?_
      show Steps p.tables e below (T356.setTop (mkF m 44 #[iv p0, iv p1, iv p2, iv p3, iv p4, iv (4 : Int32), rv b333, rv b338, .val (.long (0 : Int64)), .second, .unset, .unset] [(.int (own_hi p1)), (.int (0 : Int32)), (.ref b338)])) _
      refine XS.i2dS X356.here hx rfl (hb hby at_44) rfl rfl ?_
      exact kt
    obtain ⟨c359, Ar359, q359, S359, M359, H359, G359⟩ := id F353
    have i359 : ¬ ((0 : Int32) < 0 ∨ c359.slots.size ≤ ((0 : Int32)).toNatClampNeg) := inb_of S359 ⟨by decide, by decide⟩
    obtain ⟨T360, h360, X360, e360, W360, st360⟩ := stD X356 hx hZ e356 Ar359 (j := (0 : Int32)) i359 (g := (mkF m 45 #[iv p0, iv p1, iv p2, iv p3, iv p4, iv (4 : Int32), rv b333, rv b338, .val (.long (0 : Int64)), .second, .unset, .unset] [(.double (FP.i2d (own_hi p1))), (.int (0 : Int32)), (.ref b338)])) rfl rfl (hb hby at_45)
    have pre361 : ∀ t, Steps p.tables e below (T360.setTop (mkF m 46 #[iv p0, iv p1, iv p2, iv p3, iv p4, iv (4 : Int32), rv b333, rv b338, .val (.long (0 : Int64)), .second, .unset, .unset] [])) t → Steps p.tables e below (s₁.setTop (entryFrame m #[(.int p0), (.int p1), (.int p2), (.int p3), (.int p4)] maxLocals)) t := fun t kt => pre358 _ (st360 _ kt)
    have N360 := Fr.snoc X360 N356 g_b338
    have O360 := O349.wr W360 g_b338
    have K360 : Keep h0 h360 [] := K349.wr W360 (Or.inr sz_b338)
    have F362 := F351.wr W360
    have F363 := F352.wr W360
    have F364 := F354.other W360 ne_b333_b338
    have F365 : Arv Z h360 b338 k338 .double (4 : Int32) [(.double (FP.i2d (own_hi p1))), (.double (0 : UInt64)), (.double (0 : UInt64)), (.double (0 : UInt64))] (.double (0 : UInt64)) := Arv.set Ar359 q359 S359 M359 H359 G359 rfl W360 0 rfl (Nat.le_of_ble_eq_true rfl)
    have pre366 : ∀ t, Steps p.tables e below (T360.setTop (mkF m 49 #[iv p0, iv p1, iv p2, iv p3, iv p4, iv (4 : Int32), rv b333, rv b338, .val (.long (0 : Int64)), .second, .unset, .unset] [(.int p1), (.long (0 : Int64))])) t → Steps p.tables e below (s₁.setTop (entryFrame m #[(.int p0), (.int p1), (.int p2), (.int p3), (.int p4)] maxLocals)) t := fun t kt => by
      refine pre361 _ ?_
      show Steps p.tables e below (T360.setTop (mkF m 46 #[iv p0, iv p1, iv p2, iv p3, iv p4, iv (4 : Int32), rv b333, rv b338, .val (.long (0 : Int64)), .second, .unset, .unset] [])) _
      refine XS.lload X360.here hx rfl (hb hby at_46) rfl ?_
      show Steps p.tables e below (T360.setTop (mkF m 48 #[iv p0, iv p1, iv p2, iv p3, iv p4, iv (4 : Int32), rv b333, rv b338, .val (.long (0 : Int64)), .second, .unset, .unset] [(.long (0 : Int64))])) _
      refine XS.iloadN X360.here hx rfl (hb hby at_48) rfl ?_
      exact kt
    obtain ⟨_, _, ⟨T367, L367, k367, n367⟩, -, X367, ⟨Lc367, hQ367, l367, y367, z367⟩, st367⟩ := Jvm.LawKit.callS X360 hx (y := (⟨"com/example/centroid/centroid/VectorsDotPinLaw", "lo", "(I)I"⟩ : MethodName)) hown (mvT hZ (W 5 rfl)) (mvT hZ (W 6 rfl)) (mvT hZ (W 7 rfl)) (mvT hZ (W 8 rfl)) (by decide) (backOf (W := 2) (rm_lo l Z a0 hw [] p1 h360 n0 O360) hZ (W 8 rfl) (W 7 rfl) (by decide) (by decide)) (g := (mkF m 49 #[iv p0, iv p1, iv p2, iv p3, iv p4, iv (4 : Int32), rv b333, rv b338, .val (.long (0 : Int64)), .second, .unset, .unset] [(.int p1), (.long (0 : Int64))])) rfl (by rw [hml]; rfl) (argsL := [(.int p1)]) (rest := [(.long (0 : Int64))]) (lenOf pd_7 rfl) rfl (by show 2 * 0 + _ ≤ _; exact Nat.le_of_eq rfl) (hb hby at_49) (fun _ _ => ⟨rfl, e360, (by decide : 2 + 0 ≤ _), (by decide : 8 + 0 ≤ _)⟩)
    dsimp only [Pt.U, Pt.locs, Pt.cells, Pt.slots] at X367 l367 y367 z367 st367 hQ367
    replace l367 := l367.symm
    replace y367 : 2 = k367 := y367.symm
    replace z367 : 8 = n367 := z367.symm
    subst l367 y367 z367
    obtain ⟨rfl, M367, e367⟩ := hQ367
    have N367 := Fr.app N360 M367
    have pre368 : ∀ t, Steps p.tables e below (T367.setTop (mkF m 52 #[iv p0, iv p1, iv p2, iv p3, iv p4, iv (4 : Int32), rv b333, rv b338, .val (.long (0 : Int64)), .second, .unset, .unset] [(.int (own_lo p1)), (.long (0 : Int64))])) t → Steps p.tables e below (s₁.setTop (entryFrame m #[(.int p0), (.int p1), (.int p2), (.int p3), (.int p4)] maxLocals)) t := fun t kt => pre366 _ (st367 _ kt)
    have pre369 : ∀ t, Steps p.tables e below (T367.setTop (mkF m 54 #[iv p0, iv p1, iv p2, iv p3, iv p4, iv (4 : Int32), rv b333, rv b338, .val (.long (0 : Int64)), .second, .unset, .unset] [(.int p1), (.long ((own_lo p1).toInt64)), (.long (0 : Int64))])) t → Steps p.tables e below (s₁.setTop (entryFrame m #[(.int p0), (.int p1), (.int p2), (.int p3), (.int p4)] maxLocals)) t := fun t kt => by
      refine pre368 _ ?_
      show Steps p.tables e below (T367.setTop (mkF m 52 #[iv p0, iv p1, iv p2, iv p3, iv p4, iv (4 : Int32), rv b333, rv b338, .val (.long (0 : Int64)), .second, .unset, .unset] [(.int (own_lo p1)), (.long (0 : Int64))])) _
      refine XS.i2l X367.here hx rfl (hb hby at_52) rfl ?_
      show Steps p.tables e below (T367.setTop (mkF m 53 #[iv p0, iv p1, iv p2, iv p3, iv p4, iv (4 : Int32), rv b333, rv b338, .val (.long (0 : Int64)), .second, .unset, .unset] [(.long ((own_lo p1).toInt64)), (.long (0 : Int64))])) _
      refine XS.iloadN X367.here hx rfl (hb hby at_53) rfl ?_
      exact kt
    obtain ⟨_, _, ⟨T370, L370, k370, n370⟩, -, X370, ⟨Lc370, hQ370, l370, y370, z370⟩, st370⟩ := Jvm.LawKit.callS X367 hx (y := (⟨"com/example/centroid/centroid/VectorsDotPinLaw", "hi", "(I)I"⟩ : MethodName)) hown (mvT hZ (W 9 rfl)) (mvT hZ (W 10 rfl)) (mvT hZ (W 7 rfl)) (mvT hZ (W 11 rfl)) (by decide) (backOf (W := 4) (rm_hi l Z a0 hw [] p1 h360 n0 O360) hZ (W 11 rfl) (W 7 rfl) (by decide) (by decide)) (g := (mkF m 54 #[iv p0, iv p1, iv p2, iv p3, iv p4, iv (4 : Int32), rv b333, rv b338, .val (.long (0 : Int64)), .second, .unset, .unset] [(.int p1), (.long ((own_lo p1).toInt64)), (.long (0 : Int64))])) rfl (by rw [hml]; rfl) (argsL := [(.int p1)]) (rest := [(.long ((own_lo p1).toInt64)), (.long (0 : Int64))]) (lenOf pd_7 rfl) rfl (by show 2 * 0 + _ ≤ _; exact Nat.le_of_eq rfl) (hb hby at_54) (fun _ _ => ⟨rfl, e367, (by decide : 2 + 0 ≤ _), (by decide : 8 + 0 ≤ _)⟩)
    dsimp only [Pt.U, Pt.locs, Pt.cells, Pt.slots] at X370 l370 y370 z370 st370 hQ370
    replace l370 := l370.symm
    replace y370 : 2 = k370 := y370.symm
    replace z370 : 8 = n370 := z370.symm
    subst l370 y370 z370
    obtain ⟨rfl, M370, e370⟩ := hQ370
    have N370 := Fr.app N367 M370
    have pre371 : ∀ t, Steps p.tables e below (T370.setTop (mkF m 57 #[iv p0, iv p1, iv p2, iv p3, iv p4, iv (4 : Int32), rv b333, rv b338, .val (.long (0 : Int64)), .second, .unset, .unset] [(.int (own_hi p1)), (.long ((own_lo p1).toInt64)), (.long (0 : Int64))])) t → Steps p.tables e below (s₁.setTop (entryFrame m #[(.int p0), (.int p1), (.int p2), (.int p3), (.int p4)] maxLocals)) t := fun t kt => pre369 _ (st370 _ kt)
    have pre372 : ∀ t, Steps p.tables e below (T370.setTop (mkF m 72 #[iv p0, iv p1, iv p2, iv p3, iv p4, iv (4 : Int32), rv b333, rv b338, .val (.long ((0 : Int64) + (((own_lo p1).toInt64) * ((own_hi p1).toInt64)))), .second, .unset, .unset] [(.int p2), (.int (1 : Int32)), (.ref b333)])) t → Steps p.tables e below (s₁.setTop (entryFrame m #[(.int p0), (.int p1), (.int p2), (.int p3), (.int p4)] maxLocals)) t := fun t kt => by
      refine pre371 _ ?_
      show Steps p.tables e below (T370.setTop (mkF m 57 #[iv p0, iv p1, iv p2, iv p3, iv p4, iv (4 : Int32), rv b333, rv b338, .val (.long (0 : Int64)), .second, .unset, .unset] [(.int (own_hi p1)), (.long ((own_lo p1).toInt64)), (.long (0 : Int64))])) _
      refine XS.i2l X370.here hx rfl (hb hby at_57) rfl ?_
      show Steps p.tables e below (T370.setTop (mkF m 58 #[iv p0, iv p1, iv p2, iv p3, iv p4, iv (4 : Int32), rv b333, rv b338, .val (.long (0 : Int64)), .second, .unset, .unset] [(.long ((own_hi p1).toInt64)), (.long ((own_lo p1).toInt64)), (.long (0 : Int64))])) _
      refine XS.lmul X370.here hx rfl (hb hby at_58) rfl ?_
      show Steps p.tables e below (T370.setTop (mkF m 59 #[iv p0, iv p1, iv p2, iv p3, iv p4, iv (4 : Int32), rv b333, rv b338, .val (.long (0 : Int64)), .second, .unset, .unset] [(.long (((own_lo p1).toInt64) * ((own_hi p1).toInt64))), (.long (0 : Int64))])) _
      refine XS.ladd X370.here hx rfl (hb hby at_59) rfl ?_
      show Steps p.tables e below (T370.setTop (mkF m 60 #[iv p0, iv p1, iv p2, iv p3, iv p4, iv (4 : Int32), rv b333, rv b338, .val (.long (0 : Int64)), .second, .unset, .unset] [(.long ((0 : Int64) + (((own_lo p1).toInt64) * ((own_hi p1).toInt64))))])) _
      refine XS.lstore X370.here hx rfl (hb hby at_60) rfl (l' := #[iv p0, iv p1, iv p2, iv p3, iv p4, iv (4 : Int32), rv b333, rv b338, .val (.long ((0 : Int64) + (((own_lo p1).toInt64) * ((own_hi p1).toInt64)))), .second, .unset, .unset]) rfl ?_
      show Steps p.tables e below (T370.setTop (mkF m 62 #[iv p0, iv p1, iv p2, iv p3, iv p4, iv (4 : Int32), rv b333, rv b338, .val (.long ((0 : Int64) + (((own_lo p1).toInt64) * ((own_hi p1).toInt64)))), .second, .unset, .unset] [])) _
      refine XS.iload X370.here hx rfl (hb hby at_62) rfl ?_
      show Steps p.tables e below (T370.setTop (mkF m 64 #[iv p0, iv p1, iv p2, iv p3, iv p4, iv (4 : Int32), rv b333, rv b338, .val (.long ((0 : Int64) + (((own_lo p1).toInt64) * ((own_hi p1).toInt64)))), .second, .unset, .unset] [(.int (4 : Int32))])) _
      refine XS.iconst X370.here hx rfl (hb hby at_64) ?_
      show Steps p.tables e below (T370.setTop (mkF m 65 #[iv p0, iv p1, iv p2, iv p3, iv p4, iv (4 : Int32), rv b333, rv b338, .val (.long ((0 : Int64) + (((own_lo p1).toInt64) * ((own_hi p1).toInt64)))), .second, .unset, .unset] [(.int (1 : Int32)), (.int (4 : Int32))])) _
      refine XS.icmpNo X370.here hx rfl (hb hby at_65) rfl (XT.ii_le_f (by decide)) ?_
      show Steps p.tables e below (T370.setTop (mkF m 68 #[iv p0, iv p1, iv p2, iv p3, iv p4, iv (4 : Int32), rv b333, rv b338, .val (.long ((0 : Int64) + (((own_lo p1).toInt64) * ((own_hi p1).toInt64)))), .second, .unset, .unset] [])) _
      refine XS.aload X370.here hx rfl (hb hby at_68) rfl rfl ?_
      show Steps p.tables e below (T370.setTop (mkF m 70 #[iv p0, iv p1, iv p2, iv p3, iv p4, iv (4 : Int32), rv b333, rv b338, .val (.long ((0 : Int64) + (((own_lo p1).toInt64) * ((own_hi p1).toInt64)))), .second, .unset, .unset] [(.ref b333)])) _
      refine XS.iconst X370.here hx rfl (hb hby at_70) ?_
      show Steps p.tables e below (T370.setTop (mkF m 71 #[iv p0, iv p1, iv p2, iv p3, iv p4, iv (4 : Int32), rv b333, rv b338, .val (.long ((0 : Int64) + (((own_lo p1).toInt64) * ((own_hi p1).toInt64)))), .second, .unset, .unset] [(.int (1 : Int32)), (.ref b333)])) _
      refine XS.iloadN X370.here hx rfl (hb hby at_71) rfl ?_
      exact kt
    obtain ⟨_, _, ⟨T373, L373, k373, n373⟩, -, X373, ⟨Lc373, hQ373, l373, y373, z373⟩, st373⟩ := Jvm.LawKit.callS X370 hx (y := (⟨"com/example/centroid/centroid/VectorsDotPinLaw", "lo", "(I)I"⟩ : MethodName)) hown (mvT hZ (W 5 rfl)) (mvT hZ (W 6 rfl)) (mvT hZ (W 7 rfl)) (mvT hZ (W 8 rfl)) (by decide) (backOf (W := 2) (rm_lo l Z a0 hw [] p2 h360 n0 O360) hZ (W 8 rfl) (W 7 rfl) (by decide) (by decide)) (g := (mkF m 72 #[iv p0, iv p1, iv p2, iv p3, iv p4, iv (4 : Int32), rv b333, rv b338, .val (.long ((0 : Int64) + (((own_lo p1).toInt64) * ((own_hi p1).toInt64)))), .second, .unset, .unset] [(.int p2), (.int (1 : Int32)), (.ref b333)])) rfl (by rw [hml]; rfl) (argsL := [(.int p2)]) (rest := [(.int (1 : Int32)), (.ref b333)]) (lenOf pd_7 rfl) rfl (by show 2 * 0 + _ ≤ _; exact Nat.le_of_eq rfl) (hb hby at_72) (fun _ _ => ⟨rfl, e370, (by decide : 2 + 0 ≤ _), (by decide : 8 + 0 ≤ _)⟩)
    dsimp only [Pt.U, Pt.locs, Pt.cells, Pt.slots] at X373 l373 y373 z373 st373 hQ373
    replace l373 := l373.symm
    replace y373 : 2 = k373 := y373.symm
    replace z373 : 8 = n373 := z373.symm
    subst l373 y373 z373
    obtain ⟨rfl, M373, e373⟩ := hQ373
    have N373 := Fr.app N370 M373
    have pre374 : ∀ t, Steps p.tables e below (T373.setTop (mkF m 75 #[iv p0, iv p1, iv p2, iv p3, iv p4, iv (4 : Int32), rv b333, rv b338, .val (.long ((0 : Int64) + (((own_lo p1).toInt64) * ((own_hi p1).toInt64)))), .second, .unset, .unset] [(.int (own_lo p2)), (.int (1 : Int32)), (.ref b333)])) t → Steps p.tables e below (s₁.setTop (entryFrame m #[(.int p0), (.int p1), (.int p2), (.int p3), (.int p4)] maxLocals)) t := fun t kt => pre372 _ (st373 _ kt)
    have pre375 : ∀ t, Steps p.tables e below (T373.setTop (mkF m 76 #[iv p0, iv p1, iv p2, iv p3, iv p4, iv (4 : Int32), rv b333, rv b338, .val (.long ((0 : Int64) + (((own_lo p1).toInt64) * ((own_hi p1).toInt64)))), .second, .unset, .unset] [(.double (FP.i2d (own_lo p2))), (.int (1 : Int32)), (.ref b333)])) t → Steps p.tables e below (s₁.setTop (entryFrame m #[(.int p0), (.int p1), (.int p2), (.int p3), (.int p4)] maxLocals)) t := fun t kt => by
      refine pre374 _ ?_
      show Steps p.tables e below (T373.setTop (mkF m 75 #[iv p0, iv p1, iv p2, iv p3, iv p4, iv (4 : Int32), rv b333, rv b338, .val (.long ((0 : Int64) + (((own_lo p1).toInt64) * ((own_hi p1).toInt64)))), .second, .unset, .unset] [(.int (own_lo p2)), (.int (1 : Int32)), (.ref b333)])) _
      refine XS.i2dS X373.here hx rfl (hb hby at_75) rfl rfl ?_
      exact kt
    obtain ⟨c376, Ar376, q376, S376, M376, H376, G376⟩ := id F364
    have i376 : ¬ ((1 : Int32) < 0 ∨ c376.slots.size ≤ ((1 : Int32)).toNatClampNeg) := inb_of S376 ⟨by decide, by decide⟩
    obtain ⟨T377, h377, X377, e377, W377, st377⟩ := stD X373 hx hZ e373 Ar376 (j := (1 : Int32)) i376 (g := (mkF m 76 #[iv p0, iv p1, iv p2, iv p3, iv p4, iv (4 : Int32), rv b333, rv b338, .val (.long ((0 : Int64) + (((own_lo p1).toInt64) * ((own_hi p1).toInt64)))), .second, .unset, .unset] [(.double (FP.i2d (own_lo p2))), (.int (1 : Int32)), (.ref b333)])) rfl rfl (hb hby at_76)
    have pre378 : ∀ t, Steps p.tables e below (T377.setTop (mkF m 77 #[iv p0, iv p1, iv p2, iv p3, iv p4, iv (4 : Int32), rv b333, rv b338, .val (.long ((0 : Int64) + (((own_lo p1).toInt64) * ((own_hi p1).toInt64)))), .second, .unset, .unset] [])) t → Steps p.tables e below (s₁.setTop (entryFrame m #[(.int p0), (.int p1), (.int p2), (.int p3), (.int p4)] maxLocals)) t := fun t kt => pre375 _ (st377 _ kt)
    have N377 := Fr.snoc X377 N373 g_b333
    have O377 := O360.wr W377 g_b333
    have K377 : Keep h0 h377 [] := K360.wr W377 (Or.inr sz_b333)
    have F379 := F362.wr W377
    have F380 := F363.wr W377
    have F381 := F365.other W377 (fun q => ne_b333_b338 q.symm)
    have F382 : Arv Z h377 b333 k333 .double (4 : Int32) [(.double (FP.i2d (own_lo p1))), (.double (FP.i2d (own_lo p2))), (.double (0 : UInt64)), (.double (0 : UInt64))] (.double (0 : UInt64)) := Arv.set Ar376 q376 S376 M376 H376 G376 rfl W377 1 rfl (Nat.le_of_ble_eq_true rfl)
    have pre383 : ∀ t, Steps p.tables e below (T377.setTop (mkF m 81 #[iv p0, iv p1, iv p2, iv p3, iv p4, iv (4 : Int32), rv b333, rv b338, .val (.long ((0 : Int64) + (((own_lo p1).toInt64) * ((own_hi p1).toInt64)))), .second, .unset, .unset] [(.int p2), (.int (1 : Int32)), (.ref b338)])) t → Steps p.tables e below (s₁.setTop (entryFrame m #[(.int p0), (.int p1), (.int p2), (.int p3), (.int p4)] maxLocals)) t := fun t kt => by
      refine pre378 _ ?_
      show Steps p.tables e below (T377.setTop (mkF m 77 #[iv p0, iv p1, iv p2, iv p3, iv p4, iv (4 : Int32), rv b333, rv b338, .val (.long ((0 : Int64) + (((own_lo p1).toInt64) * ((own_hi p1).toInt64)))), .second, .unset, .unset] [])) _
      refine XS.aload X377.here hx rfl (hb hby at_77) rfl rfl ?_
      show Steps p.tables e below (T377.setTop (mkF m 79 #[iv p0, iv p1, iv p2, iv p3, iv p4, iv (4 : Int32), rv b333, rv b338, .val (.long ((0 : Int64) + (((own_lo p1).toInt64) * ((own_hi p1).toInt64)))), .second, .unset, .unset] [(.ref b338)])) _
      refine XS.iconst X377.here hx rfl (hb hby at_79) ?_
      show Steps p.tables e below (T377.setTop (mkF m 80 #[iv p0, iv p1, iv p2, iv p3, iv p4, iv (4 : Int32), rv b333, rv b338, .val (.long ((0 : Int64) + (((own_lo p1).toInt64) * ((own_hi p1).toInt64)))), .second, .unset, .unset] [(.int (1 : Int32)), (.ref b338)])) _
      refine XS.iloadN X377.here hx rfl (hb hby at_80) rfl ?_
      exact kt
    obtain ⟨_, _, ⟨T384, L384, k384, n384⟩, -, X384, ⟨Lc384, hQ384, l384, y384, z384⟩, st384⟩ := Jvm.LawKit.callS X377 hx (y := (⟨"com/example/centroid/centroid/VectorsDotPinLaw", "hi", "(I)I"⟩ : MethodName)) hown (mvT hZ (W 9 rfl)) (mvT hZ (W 10 rfl)) (mvT hZ (W 7 rfl)) (mvT hZ (W 11 rfl)) (by decide) (backOf (W := 2) (rm_hi l Z a0 hw [] p2 h377 n0 O377) hZ (W 11 rfl) (W 7 rfl) (by decide) (by decide)) (g := (mkF m 81 #[iv p0, iv p1, iv p2, iv p3, iv p4, iv (4 : Int32), rv b333, rv b338, .val (.long ((0 : Int64) + (((own_lo p1).toInt64) * ((own_hi p1).toInt64)))), .second, .unset, .unset] [(.int p2), (.int (1 : Int32)), (.ref b338)])) rfl (by rw [hml]; rfl) (argsL := [(.int p2)]) (rest := [(.int (1 : Int32)), (.ref b338)]) (lenOf pd_7 rfl) rfl (by show 2 * 0 + _ ≤ _; exact Nat.le_of_eq rfl) (hb hby at_81) (fun _ _ => ⟨rfl, e377, (by decide : 2 + 0 ≤ _), (by decide : 8 + 0 ≤ _)⟩)
    dsimp only [Pt.U, Pt.locs, Pt.cells, Pt.slots] at X384 l384 y384 z384 st384 hQ384
    replace l384 := l384.symm
    replace y384 : 2 = k384 := y384.symm
    replace z384 : 8 = n384 := z384.symm
    subst l384 y384 z384
    obtain ⟨rfl, M384, e384⟩ := hQ384
    have N384 := Fr.app N377 M384
    have pre385 : ∀ t, Steps p.tables e below (T384.setTop (mkF m 84 #[iv p0, iv p1, iv p2, iv p3, iv p4, iv (4 : Int32), rv b333, rv b338, .val (.long ((0 : Int64) + (((own_lo p1).toInt64) * ((own_hi p1).toInt64)))), .second, .unset, .unset] [(.int (own_hi p2)), (.int (1 : Int32)), (.ref b338)])) t → Steps p.tables e below (s₁.setTop (entryFrame m #[(.int p0), (.int p1), (.int p2), (.int p3), (.int p4)] maxLocals)) t := fun t kt => pre383 _ (st384 _ kt)
    have pre386 : ∀ t, Steps p.tables e below (T384.setTop (mkF m 85 #[iv p0, iv p1, iv p2, iv p3, iv p4, iv (4 : Int32), rv b333, rv b338, .val (.long ((0 : Int64) + (((own_lo p1).toInt64) * ((own_hi p1).toInt64)))), .second, .unset, .unset] [(.double (FP.i2d (own_hi p2))), (.int (1 : Int32)), (.ref b338)])) t → Steps p.tables e below (s₁.setTop (entryFrame m #[(.int p0), (.int p1), (.int p2), (.int p3), (.int p4)] maxLocals)) t := fun t kt => by
      refine pre385 _ ?_
      show Steps p.tables e below (T384.setTop (mkF m 84 #[iv p0, iv p1, iv p2, iv p3, iv p4, iv (4 : Int32), rv b333, rv b338, .val (.long ((0 : Int64) + (((own_lo p1).toInt64) * ((own_hi p1).toInt64)))), .second, .unset, .unset] [(.int (own_hi p2)), (.int (1 : Int32)), (.ref b338)])) _
      refine XS.i2dS X384.here hx rfl (hb hby at_84) rfl rfl ?_
      exact kt
    obtain ⟨c387, Ar387, q387, S387, M387, H387, G387⟩ := id F381
    have i387 : ¬ ((1 : Int32) < 0 ∨ c387.slots.size ≤ ((1 : Int32)).toNatClampNeg) := inb_of S387 ⟨by decide, by decide⟩
    obtain ⟨T388, h388, X388, e388, W388, st388⟩ := stD X384 hx hZ e384 Ar387 (j := (1 : Int32)) i387 (g := (mkF m 85 #[iv p0, iv p1, iv p2, iv p3, iv p4, iv (4 : Int32), rv b333, rv b338, .val (.long ((0 : Int64) + (((own_lo p1).toInt64) * ((own_hi p1).toInt64)))), .second, .unset, .unset] [(.double (FP.i2d (own_hi p2))), (.int (1 : Int32)), (.ref b338)])) rfl rfl (hb hby at_85)
    have pre389 : ∀ t, Steps p.tables e below (T388.setTop (mkF m 86 #[iv p0, iv p1, iv p2, iv p3, iv p4, iv (4 : Int32), rv b333, rv b338, .val (.long ((0 : Int64) + (((own_lo p1).toInt64) * ((own_hi p1).toInt64)))), .second, .unset, .unset] [])) t → Steps p.tables e below (s₁.setTop (entryFrame m #[(.int p0), (.int p1), (.int p2), (.int p3), (.int p4)] maxLocals)) t := fun t kt => pre386 _ (st388 _ kt)
    have N388 := Fr.snoc X388 N384 g_b338
    have O388 := O377.wr W388 g_b338
    have K388 : Keep h0 h388 [] := K377.wr W388 (Or.inr sz_b338)
    have F390 := F379.wr W388
    have F391 := F380.wr W388
    have F392 := F382.other W388 ne_b333_b338
    have F393 : Arv Z h388 b338 k338 .double (4 : Int32) [(.double (FP.i2d (own_hi p1))), (.double (FP.i2d (own_hi p2))), (.double (0 : UInt64)), (.double (0 : UInt64))] (.double (0 : UInt64)) := Arv.set Ar387 q387 S387 M387 H387 G387 rfl W388 1 rfl (Nat.le_of_ble_eq_true rfl)
    have pre394 : ∀ t, Steps p.tables e below (T388.setTop (mkF m 89 #[iv p0, iv p1, iv p2, iv p3, iv p4, iv (4 : Int32), rv b333, rv b338, .val (.long ((0 : Int64) + (((own_lo p1).toInt64) * ((own_hi p1).toInt64)))), .second, .unset, .unset] [(.int p2), (.long ((0 : Int64) + (((own_lo p1).toInt64) * ((own_hi p1).toInt64))))])) t → Steps p.tables e below (s₁.setTop (entryFrame m #[(.int p0), (.int p1), (.int p2), (.int p3), (.int p4)] maxLocals)) t := fun t kt => by
      refine pre389 _ ?_
      show Steps p.tables e below (T388.setTop (mkF m 86 #[iv p0, iv p1, iv p2, iv p3, iv p4, iv (4 : Int32), rv b333, rv b338, .val (.long ((0 : Int64) + (((own_lo p1).toInt64) * ((own_hi p1).toInt64)))), .second, .unset, .unset] [])) _
      refine XS.lload X388.here hx rfl (hb hby at_86) rfl ?_
      show Steps p.tables e below (T388.setTop (mkF m 88 #[iv p0, iv p1, iv p2, iv p3, iv p4, iv (4 : Int32), rv b333, rv b338, .val (.long ((0 : Int64) + (((own_lo p1).toInt64) * ((own_hi p1).toInt64)))), .second, .unset, .unset] [(.long ((0 : Int64) + (((own_lo p1).toInt64) * ((own_hi p1).toInt64))))])) _
      refine XS.iloadN X388.here hx rfl (hb hby at_88) rfl ?_
      exact kt
    obtain ⟨_, _, ⟨T395, L395, k395, n395⟩, -, X395, ⟨Lc395, hQ395, l395, y395, z395⟩, st395⟩ := Jvm.LawKit.callS X388 hx (y := (⟨"com/example/centroid/centroid/VectorsDotPinLaw", "lo", "(I)I"⟩ : MethodName)) hown (mvT hZ (W 5 rfl)) (mvT hZ (W 6 rfl)) (mvT hZ (W 7 rfl)) (mvT hZ (W 8 rfl)) (by decide) (backOf (W := 2) (rm_lo l Z a0 hw [] p2 h388 n0 O388) hZ (W 8 rfl) (W 7 rfl) (by decide) (by decide)) (g := (mkF m 89 #[iv p0, iv p1, iv p2, iv p3, iv p4, iv (4 : Int32), rv b333, rv b338, .val (.long ((0 : Int64) + (((own_lo p1).toInt64) * ((own_hi p1).toInt64)))), .second, .unset, .unset] [(.int p2), (.long ((0 : Int64) + (((own_lo p1).toInt64) * ((own_hi p1).toInt64))))])) rfl (by rw [hml]; rfl) (argsL := [(.int p2)]) (rest := [(.long ((0 : Int64) + (((own_lo p1).toInt64) * ((own_hi p1).toInt64))))]) (lenOf pd_7 rfl) rfl (by show 2 * 0 + _ ≤ _; exact Nat.le_of_eq rfl) (hb hby at_89) (fun _ _ => ⟨rfl, e388, (by decide : 2 + 0 ≤ _), (by decide : 8 + 0 ≤ _)⟩)
    dsimp only [Pt.U, Pt.locs, Pt.cells, Pt.slots] at X395 l395 y395 z395 st395 hQ395
    replace l395 := l395.symm
    replace y395 : 2 = k395 := y395.symm
    replace z395 : 8 = n395 := z395.symm
    subst l395 y395 z395
    obtain ⟨rfl, M395, e395⟩ := hQ395
    have N395 := Fr.app N388 M395
    have pre396 : ∀ t, Steps p.tables e below (T395.setTop (mkF m 92 #[iv p0, iv p1, iv p2, iv p3, iv p4, iv (4 : Int32), rv b333, rv b338, .val (.long ((0 : Int64) + (((own_lo p1).toInt64) * ((own_hi p1).toInt64)))), .second, .unset, .unset] [(.int (own_lo p2)), (.long ((0 : Int64) + (((own_lo p1).toInt64) * ((own_hi p1).toInt64))))])) t → Steps p.tables e below (s₁.setTop (entryFrame m #[(.int p0), (.int p1), (.int p2), (.int p3), (.int p4)] maxLocals)) t := fun t kt => pre394 _ (st395 _ kt)
    have pre397 : ∀ t, Steps p.tables e below (T395.setTop (mkF m 94 #[iv p0, iv p1, iv p2, iv p3, iv p4, iv (4 : Int32), rv b333, rv b338, .val (.long ((0 : Int64) + (((own_lo p1).toInt64) * ((own_hi p1).toInt64)))), .second, .unset, .unset] [(.int p2), (.long ((own_lo p2).toInt64)), (.long ((0 : Int64) + (((own_lo p1).toInt64) * ((own_hi p1).toInt64))))])) t → Steps p.tables e below (s₁.setTop (entryFrame m #[(.int p0), (.int p1), (.int p2), (.int p3), (.int p4)] maxLocals)) t := fun t kt => by
      refine pre396 _ ?_
      show Steps p.tables e below (T395.setTop (mkF m 92 #[iv p0, iv p1, iv p2, iv p3, iv p4, iv (4 : Int32), rv b333, rv b338, .val (.long ((0 : Int64) + (((own_lo p1).toInt64) * ((own_hi p1).toInt64)))), .second, .unset, .unset] [(.int (own_lo p2)), (.long ((0 : Int64) + (((own_lo p1).toInt64) * ((own_hi p1).toInt64))))])) _
      refine XS.i2l X395.here hx rfl (hb hby at_92) rfl ?_
      show Steps p.tables e below (T395.setTop (mkF m 93 #[iv p0, iv p1, iv p2, iv p3, iv p4, iv (4 : Int32), rv b333, rv b338, .val (.long ((0 : Int64) + (((own_lo p1).toInt64) * ((own_hi p1).toInt64)))), .second, .unset, .unset] [(.long ((own_lo p2).toInt64)), (.long ((0 : Int64) + (((own_lo p1).toInt64) * ((own_hi p1).toInt64))))])) _
      refine XS.iloadN X395.here hx rfl (hb hby at_93) rfl ?_
      exact kt
    obtain ⟨_, _, ⟨T398, L398, k398, n398⟩, -, X398, ⟨Lc398, hQ398, l398, y398, z398⟩, st398⟩ := Jvm.LawKit.callS X395 hx (y := (⟨"com/example/centroid/centroid/VectorsDotPinLaw", "hi", "(I)I"⟩ : MethodName)) hown (mvT hZ (W 9 rfl)) (mvT hZ (W 10 rfl)) (mvT hZ (W 7 rfl)) (mvT hZ (W 11 rfl)) (by decide) (backOf (W := 4) (rm_hi l Z a0 hw [] p2 h388 n0 O388) hZ (W 11 rfl) (W 7 rfl) (by decide) (by decide)) (g := (mkF m 94 #[iv p0, iv p1, iv p2, iv p3, iv p4, iv (4 : Int32), rv b333, rv b338, .val (.long ((0 : Int64) + (((own_lo p1).toInt64) * ((own_hi p1).toInt64)))), .second, .unset, .unset] [(.int p2), (.long ((own_lo p2).toInt64)), (.long ((0 : Int64) + (((own_lo p1).toInt64) * ((own_hi p1).toInt64))))])) rfl (by rw [hml]; rfl) (argsL := [(.int p2)]) (rest := [(.long ((own_lo p2).toInt64)), (.long ((0 : Int64) + (((own_lo p1).toInt64) * ((own_hi p1).toInt64))))]) (lenOf pd_7 rfl) rfl (by show 2 * 0 + _ ≤ _; exact Nat.le_of_eq rfl) (hb hby at_94) (fun _ _ => ⟨rfl, e395, (by decide : 2 + 0 ≤ _), (by decide : 8 + 0 ≤ _)⟩)
    dsimp only [Pt.U, Pt.locs, Pt.cells, Pt.slots] at X398 l398 y398 z398 st398 hQ398
    replace l398 := l398.symm
    replace y398 : 2 = k398 := y398.symm
    replace z398 : 8 = n398 := z398.symm
    subst l398 y398 z398
    obtain ⟨rfl, M398, e398⟩ := hQ398
    have N398 := Fr.app N395 M398
    have pre399 : ∀ t, Steps p.tables e below (T398.setTop (mkF m 97 #[iv p0, iv p1, iv p2, iv p3, iv p4, iv (4 : Int32), rv b333, rv b338, .val (.long ((0 : Int64) + (((own_lo p1).toInt64) * ((own_hi p1).toInt64)))), .second, .unset, .unset] [(.int (own_hi p2)), (.long ((own_lo p2).toInt64)), (.long ((0 : Int64) + (((own_lo p1).toInt64) * ((own_hi p1).toInt64))))])) t → Steps p.tables e below (s₁.setTop (entryFrame m #[(.int p0), (.int p1), (.int p2), (.int p3), (.int p4)] maxLocals)) t := fun t kt => pre397 _ (st398 _ kt)
    have pre400 : ∀ t, Steps p.tables e below (T398.setTop (mkF m 112 #[iv p0, iv p1, iv p2, iv p3, iv p4, iv (4 : Int32), rv b333, rv b338, .val (.long (((0 : Int64) + (((own_lo p1).toInt64) * ((own_hi p1).toInt64))) + (((own_lo p2).toInt64) * ((own_hi p2).toInt64)))), .second, .unset, .unset] [(.int p3), (.int (2 : Int32)), (.ref b333)])) t → Steps p.tables e below (s₁.setTop (entryFrame m #[(.int p0), (.int p1), (.int p2), (.int p3), (.int p4)] maxLocals)) t := fun t kt => by
      refine pre399 _ ?_
      show Steps p.tables e below (T398.setTop (mkF m 97 #[iv p0, iv p1, iv p2, iv p3, iv p4, iv (4 : Int32), rv b333, rv b338, .val (.long ((0 : Int64) + (((own_lo p1).toInt64) * ((own_hi p1).toInt64)))), .second, .unset, .unset] [(.int (own_hi p2)), (.long ((own_lo p2).toInt64)), (.long ((0 : Int64) + (((own_lo p1).toInt64) * ((own_hi p1).toInt64))))])) _
      refine XS.i2l X398.here hx rfl (hb hby at_97) rfl ?_
      show Steps p.tables e below (T398.setTop (mkF m 98 #[iv p0, iv p1, iv p2, iv p3, iv p4, iv (4 : Int32), rv b333, rv b338, .val (.long ((0 : Int64) + (((own_lo p1).toInt64) * ((own_hi p1).toInt64)))), .second, .unset, .unset] [(.long ((own_hi p2).toInt64)), (.long ((own_lo p2).toInt64)), (.long ((0 : Int64) + (((own_lo p1).toInt64) * ((own_hi p1).toInt64))))])) _
      refine XS.lmul X398.here hx rfl (hb hby at_98) rfl ?_
      show Steps p.tables e below (T398.setTop (mkF m 99 #[iv p0, iv p1, iv p2, iv p3, iv p4, iv (4 : Int32), rv b333, rv b338, .val (.long ((0 : Int64) + (((own_lo p1).toInt64) * ((own_hi p1).toInt64)))), .second, .unset, .unset] [(.long (((own_lo p2).toInt64) * ((own_hi p2).toInt64))), (.long ((0 : Int64) + (((own_lo p1).toInt64) * ((own_hi p1).toInt64))))])) _
      refine XS.ladd X398.here hx rfl (hb hby at_99) rfl ?_
      show Steps p.tables e below (T398.setTop (mkF m 100 #[iv p0, iv p1, iv p2, iv p3, iv p4, iv (4 : Int32), rv b333, rv b338, .val (.long ((0 : Int64) + (((own_lo p1).toInt64) * ((own_hi p1).toInt64)))), .second, .unset, .unset] [(.long (((0 : Int64) + (((own_lo p1).toInt64) * ((own_hi p1).toInt64))) + (((own_lo p2).toInt64) * ((own_hi p2).toInt64))))])) _
      refine XS.lstore X398.here hx rfl (hb hby at_100) rfl (l' := #[iv p0, iv p1, iv p2, iv p3, iv p4, iv (4 : Int32), rv b333, rv b338, .val (.long (((0 : Int64) + (((own_lo p1).toInt64) * ((own_hi p1).toInt64))) + (((own_lo p2).toInt64) * ((own_hi p2).toInt64)))), .second, .unset, .unset]) rfl ?_
      show Steps p.tables e below (T398.setTop (mkF m 102 #[iv p0, iv p1, iv p2, iv p3, iv p4, iv (4 : Int32), rv b333, rv b338, .val (.long (((0 : Int64) + (((own_lo p1).toInt64) * ((own_hi p1).toInt64))) + (((own_lo p2).toInt64) * ((own_hi p2).toInt64)))), .second, .unset, .unset] [])) _
      refine XS.iload X398.here hx rfl (hb hby at_102) rfl ?_
      show Steps p.tables e below (T398.setTop (mkF m 104 #[iv p0, iv p1, iv p2, iv p3, iv p4, iv (4 : Int32), rv b333, rv b338, .val (.long (((0 : Int64) + (((own_lo p1).toInt64) * ((own_hi p1).toInt64))) + (((own_lo p2).toInt64) * ((own_hi p2).toInt64)))), .second, .unset, .unset] [(.int (4 : Int32))])) _
      refine XS.iconst X398.here hx rfl (hb hby at_104) ?_
      show Steps p.tables e below (T398.setTop (mkF m 105 #[iv p0, iv p1, iv p2, iv p3, iv p4, iv (4 : Int32), rv b333, rv b338, .val (.long (((0 : Int64) + (((own_lo p1).toInt64) * ((own_hi p1).toInt64))) + (((own_lo p2).toInt64) * ((own_hi p2).toInt64)))), .second, .unset, .unset] [(.int (2 : Int32)), (.int (4 : Int32))])) _
      refine XS.icmpNo X398.here hx rfl (hb hby at_105) rfl (XT.ii_le_f (by decide)) ?_
      show Steps p.tables e below (T398.setTop (mkF m 108 #[iv p0, iv p1, iv p2, iv p3, iv p4, iv (4 : Int32), rv b333, rv b338, .val (.long (((0 : Int64) + (((own_lo p1).toInt64) * ((own_hi p1).toInt64))) + (((own_lo p2).toInt64) * ((own_hi p2).toInt64)))), .second, .unset, .unset] [])) _
      refine XS.aload X398.here hx rfl (hb hby at_108) rfl rfl ?_
      show Steps p.tables e below (T398.setTop (mkF m 110 #[iv p0, iv p1, iv p2, iv p3, iv p4, iv (4 : Int32), rv b333, rv b338, .val (.long (((0 : Int64) + (((own_lo p1).toInt64) * ((own_hi p1).toInt64))) + (((own_lo p2).toInt64) * ((own_hi p2).toInt64)))), .second, .unset, .unset] [(.ref b333)])) _
      refine XS.iconst X398.here hx rfl (hb hby at_110) ?_
      show Steps p.tables e below (T398.setTop (mkF m 111 #[iv p0, iv p1, iv p2, iv p3, iv p4, iv (4 : Int32), rv b333, rv b338, .val (.long (((0 : Int64) + (((own_lo p1).toInt64) * ((own_hi p1).toInt64))) + (((own_lo p2).toInt64) * ((own_hi p2).toInt64)))), .second, .unset, .unset] [(.int (2 : Int32)), (.ref b333)])) _
      refine XS.iloadN X398.here hx rfl (hb hby at_111) rfl ?_
      exact kt
    obtain ⟨_, _, ⟨T401, L401, k401, n401⟩, -, X401, ⟨Lc401, hQ401, l401, y401, z401⟩, st401⟩ := Jvm.LawKit.callS X398 hx (y := (⟨"com/example/centroid/centroid/VectorsDotPinLaw", "lo", "(I)I"⟩ : MethodName)) hown (mvT hZ (W 5 rfl)) (mvT hZ (W 6 rfl)) (mvT hZ (W 7 rfl)) (mvT hZ (W 8 rfl)) (by decide) (backOf (W := 2) (rm_lo l Z a0 hw [] p3 h388 n0 O388) hZ (W 8 rfl) (W 7 rfl) (by decide) (by decide)) (g := (mkF m 112 #[iv p0, iv p1, iv p2, iv p3, iv p4, iv (4 : Int32), rv b333, rv b338, .val (.long (((0 : Int64) + (((own_lo p1).toInt64) * ((own_hi p1).toInt64))) + (((own_lo p2).toInt64) * ((own_hi p2).toInt64)))), .second, .unset, .unset] [(.int p3), (.int (2 : Int32)), (.ref b333)])) rfl (by rw [hml]; rfl) (argsL := [(.int p3)]) (rest := [(.int (2 : Int32)), (.ref b333)]) (lenOf pd_7 rfl) rfl (by show 2 * 0 + _ ≤ _; exact Nat.le_of_eq rfl) (hb hby at_112) (fun _ _ => ⟨rfl, e398, (by decide : 2 + 0 ≤ _), (by decide : 8 + 0 ≤ _)⟩)
    dsimp only [Pt.U, Pt.locs, Pt.cells, Pt.slots] at X401 l401 y401 z401 st401 hQ401
    replace l401 := l401.symm
    replace y401 : 2 = k401 := y401.symm
    replace z401 : 8 = n401 := z401.symm
    subst l401 y401 z401
    obtain ⟨rfl, M401, e401⟩ := hQ401
    have N401 := Fr.app N398 M401
    have pre402 : ∀ t, Steps p.tables e below (T401.setTop (mkF m 115 #[iv p0, iv p1, iv p2, iv p3, iv p4, iv (4 : Int32), rv b333, rv b338, .val (.long (((0 : Int64) + (((own_lo p1).toInt64) * ((own_hi p1).toInt64))) + (((own_lo p2).toInt64) * ((own_hi p2).toInt64)))), .second, .unset, .unset] [(.int (own_lo p3)), (.int (2 : Int32)), (.ref b333)])) t → Steps p.tables e below (s₁.setTop (entryFrame m #[(.int p0), (.int p1), (.int p2), (.int p3), (.int p4)] maxLocals)) t := fun t kt => pre400 _ (st401 _ kt)
    have pre403 : ∀ t, Steps p.tables e below (T401.setTop (mkF m 116 #[iv p0, iv p1, iv p2, iv p3, iv p4, iv (4 : Int32), rv b333, rv b338, .val (.long (((0 : Int64) + (((own_lo p1).toInt64) * ((own_hi p1).toInt64))) + (((own_lo p2).toInt64) * ((own_hi p2).toInt64)))), .second, .unset, .unset] [(.double (FP.i2d (own_lo p3))), (.int (2 : Int32)), (.ref b333)])) t → Steps p.tables e below (s₁.setTop (entryFrame m #[(.int p0), (.int p1), (.int p2), (.int p3), (.int p4)] maxLocals)) t := fun t kt => by
      refine pre402 _ ?_
      show Steps p.tables e below (T401.setTop (mkF m 115 #[iv p0, iv p1, iv p2, iv p3, iv p4, iv (4 : Int32), rv b333, rv b338, .val (.long (((0 : Int64) + (((own_lo p1).toInt64) * ((own_hi p1).toInt64))) + (((own_lo p2).toInt64) * ((own_hi p2).toInt64)))), .second, .unset, .unset] [(.int (own_lo p3)), (.int (2 : Int32)), (.ref b333)])) _
      refine XS.i2dS X401.here hx rfl (hb hby at_115) rfl rfl ?_
      exact kt
    obtain ⟨c404, Ar404, q404, S404, M404, H404, G404⟩ := id F392
    have i404 : ¬ ((2 : Int32) < 0 ∨ c404.slots.size ≤ ((2 : Int32)).toNatClampNeg) := inb_of S404 ⟨by decide, by decide⟩
    obtain ⟨T405, h405, X405, e405, W405, st405⟩ := stD X401 hx hZ e401 Ar404 (j := (2 : Int32)) i404 (g := (mkF m 116 #[iv p0, iv p1, iv p2, iv p3, iv p4, iv (4 : Int32), rv b333, rv b338, .val (.long (((0 : Int64) + (((own_lo p1).toInt64) * ((own_hi p1).toInt64))) + (((own_lo p2).toInt64) * ((own_hi p2).toInt64)))), .second, .unset, .unset] [(.double (FP.i2d (own_lo p3))), (.int (2 : Int32)), (.ref b333)])) rfl rfl (hb hby at_116)
    have pre406 : ∀ t, Steps p.tables e below (T405.setTop (mkF m 117 #[iv p0, iv p1, iv p2, iv p3, iv p4, iv (4 : Int32), rv b333, rv b338, .val (.long (((0 : Int64) + (((own_lo p1).toInt64) * ((own_hi p1).toInt64))) + (((own_lo p2).toInt64) * ((own_hi p2).toInt64)))), .second, .unset, .unset] [])) t → Steps p.tables e below (s₁.setTop (entryFrame m #[(.int p0), (.int p1), (.int p2), (.int p3), (.int p4)] maxLocals)) t := fun t kt => pre403 _ (st405 _ kt)
    have N405 := Fr.snoc X405 N401 g_b333
    have O405 := O388.wr W405 g_b333
    have K405 : Keep h0 h405 [] := K388.wr W405 (Or.inr sz_b333)
    have F407 := F390.wr W405
    have F408 := F391.wr W405
    have F409 := F393.other W405 (fun q => ne_b333_b338 q.symm)
    have F410 : Arv Z h405 b333 k333 .double (4 : Int32) [(.double (FP.i2d (own_lo p1))), (.double (FP.i2d (own_lo p2))), (.double (FP.i2d (own_lo p3))), (.double (0 : UInt64))] (.double (0 : UInt64)) := Arv.set Ar404 q404 S404 M404 H404 G404 rfl W405 2 rfl (Nat.le_of_ble_eq_true rfl)
    have pre411 : ∀ t, Steps p.tables e below (T405.setTop (mkF m 121 #[iv p0, iv p1, iv p2, iv p3, iv p4, iv (4 : Int32), rv b333, rv b338, .val (.long (((0 : Int64) + (((own_lo p1).toInt64) * ((own_hi p1).toInt64))) + (((own_lo p2).toInt64) * ((own_hi p2).toInt64)))), .second, .unset, .unset] [(.int p3), (.int (2 : Int32)), (.ref b338)])) t → Steps p.tables e below (s₁.setTop (entryFrame m #[(.int p0), (.int p1), (.int p2), (.int p3), (.int p4)] maxLocals)) t := fun t kt => by
      refine pre406 _ ?_
      show Steps p.tables e below (T405.setTop (mkF m 117 #[iv p0, iv p1, iv p2, iv p3, iv p4, iv (4 : Int32), rv b333, rv b338, .val (.long (((0 : Int64) + (((own_lo p1).toInt64) * ((own_hi p1).toInt64))) + (((own_lo p2).toInt64) * ((own_hi p2).toInt64)))), .second, .unset, .unset] [])) _
      refine XS.aload X405.here hx rfl (hb hby at_117) rfl rfl ?_
      show Steps p.tables e below (T405.setTop (mkF m 119 #[iv p0, iv p1, iv p2, iv p3, iv p4, iv (4 : Int32), rv b333, rv b338, .val (.long (((0 : Int64) + (((own_lo p1).toInt64) * ((own_hi p1).toInt64))) + (((own_lo p2).toInt64) * ((own_hi p2).toInt64)))), .second, .unset, .unset] [(.ref b338)])) _
      refine XS.iconst X405.here hx rfl (hb hby at_119) ?_
      show Steps p.tables e below (T405.setTop (mkF m 120 #[iv p0, iv p1, iv p2, iv p3, iv p4, iv (4 : Int32), rv b333, rv b338, .val (.long (((0 : Int64) + (((own_lo p1).toInt64) * ((own_hi p1).toInt64))) + (((own_lo p2).toInt64) * ((own_hi p2).toInt64)))), .second, .unset, .unset] [(.int (2 : Int32)), (.ref b338)])) _
      refine XS.iloadN X405.here hx rfl (hb hby at_120) rfl ?_
      exact kt
    obtain ⟨_, _, ⟨T412, L412, k412, n412⟩, -, X412, ⟨Lc412, hQ412, l412, y412, z412⟩, st412⟩ := Jvm.LawKit.callS X405 hx (y := (⟨"com/example/centroid/centroid/VectorsDotPinLaw", "hi", "(I)I"⟩ : MethodName)) hown (mvT hZ (W 9 rfl)) (mvT hZ (W 10 rfl)) (mvT hZ (W 7 rfl)) (mvT hZ (W 11 rfl)) (by decide) (backOf (W := 2) (rm_hi l Z a0 hw [] p3 h405 n0 O405) hZ (W 11 rfl) (W 7 rfl) (by decide) (by decide)) (g := (mkF m 121 #[iv p0, iv p1, iv p2, iv p3, iv p4, iv (4 : Int32), rv b333, rv b338, .val (.long (((0 : Int64) + (((own_lo p1).toInt64) * ((own_hi p1).toInt64))) + (((own_lo p2).toInt64) * ((own_hi p2).toInt64)))), .second, .unset, .unset] [(.int p3), (.int (2 : Int32)), (.ref b338)])) rfl (by rw [hml]; rfl) (argsL := [(.int p3)]) (rest := [(.int (2 : Int32)), (.ref b338)]) (lenOf pd_7 rfl) rfl (by show 2 * 0 + _ ≤ _; exact Nat.le_of_eq rfl) (hb hby at_121) (fun _ _ => ⟨rfl, e405, (by decide : 2 + 0 ≤ _), (by decide : 8 + 0 ≤ _)⟩)
    dsimp only [Pt.U, Pt.locs, Pt.cells, Pt.slots] at X412 l412 y412 z412 st412 hQ412
    replace l412 := l412.symm
    replace y412 : 2 = k412 := y412.symm
    replace z412 : 8 = n412 := z412.symm
    subst l412 y412 z412
    obtain ⟨rfl, M412, e412⟩ := hQ412
    have N412 := Fr.app N405 M412
    have pre413 : ∀ t, Steps p.tables e below (T412.setTop (mkF m 124 #[iv p0, iv p1, iv p2, iv p3, iv p4, iv (4 : Int32), rv b333, rv b338, .val (.long (((0 : Int64) + (((own_lo p1).toInt64) * ((own_hi p1).toInt64))) + (((own_lo p2).toInt64) * ((own_hi p2).toInt64)))), .second, .unset, .unset] [(.int (own_hi p3)), (.int (2 : Int32)), (.ref b338)])) t → Steps p.tables e below (s₁.setTop (entryFrame m #[(.int p0), (.int p1), (.int p2), (.int p3), (.int p4)] maxLocals)) t := fun t kt => pre411 _ (st412 _ kt)
    have pre414 : ∀ t, Steps p.tables e below (T412.setTop (mkF m 125 #[iv p0, iv p1, iv p2, iv p3, iv p4, iv (4 : Int32), rv b333, rv b338, .val (.long (((0 : Int64) + (((own_lo p1).toInt64) * ((own_hi p1).toInt64))) + (((own_lo p2).toInt64) * ((own_hi p2).toInt64)))), .second, .unset, .unset] [(.double (FP.i2d (own_hi p3))), (.int (2 : Int32)), (.ref b338)])) t → Steps p.tables e below (s₁.setTop (entryFrame m #[(.int p0), (.int p1), (.int p2), (.int p3), (.int p4)] maxLocals)) t := fun t kt => by
      refine pre413 _ ?_
      show Steps p.tables e below (T412.setTop (mkF m 124 #[iv p0, iv p1, iv p2, iv p3, iv p4, iv (4 : Int32), rv b333, rv b338, .val (.long (((0 : Int64) + (((own_lo p1).toInt64) * ((own_hi p1).toInt64))) + (((own_lo p2).toInt64) * ((own_hi p2).toInt64)))), .second, .unset, .unset] [(.int (own_hi p3)), (.int (2 : Int32)), (.ref b338)])) _
      refine XS.i2dS X412.here hx rfl (hb hby at_124) rfl rfl ?_
      exact kt
    obtain ⟨c415, Ar415, q415, S415, M415, H415, G415⟩ := id F409
    have i415 : ¬ ((2 : Int32) < 0 ∨ c415.slots.size ≤ ((2 : Int32)).toNatClampNeg) := inb_of S415 ⟨by decide, by decide⟩
    obtain ⟨T416, h416, X416, e416, W416, st416⟩ := stD X412 hx hZ e412 Ar415 (j := (2 : Int32)) i415 (g := (mkF m 125 #[iv p0, iv p1, iv p2, iv p3, iv p4, iv (4 : Int32), rv b333, rv b338, .val (.long (((0 : Int64) + (((own_lo p1).toInt64) * ((own_hi p1).toInt64))) + (((own_lo p2).toInt64) * ((own_hi p2).toInt64)))), .second, .unset, .unset] [(.double (FP.i2d (own_hi p3))), (.int (2 : Int32)), (.ref b338)])) rfl rfl (hb hby at_125)
    have pre417 : ∀ t, Steps p.tables e below (T416.setTop (mkF m 126 #[iv p0, iv p1, iv p2, iv p3, iv p4, iv (4 : Int32), rv b333, rv b338, .val (.long (((0 : Int64) + (((own_lo p1).toInt64) * ((own_hi p1).toInt64))) + (((own_lo p2).toInt64) * ((own_hi p2).toInt64)))), .second, .unset, .unset] [])) t → Steps p.tables e below (s₁.setTop (entryFrame m #[(.int p0), (.int p1), (.int p2), (.int p3), (.int p4)] maxLocals)) t := fun t kt => pre414 _ (st416 _ kt)
    have N416 := Fr.snoc X416 N412 g_b338
    have O416 := O405.wr W416 g_b338
    have K416 : Keep h0 h416 [] := K405.wr W416 (Or.inr sz_b338)
    have F418 := F407.wr W416
    have F419 := F408.wr W416
    have F420 := F410.other W416 ne_b333_b338
    have F421 : Arv Z h416 b338 k338 .double (4 : Int32) [(.double (FP.i2d (own_hi p1))), (.double (FP.i2d (own_hi p2))), (.double (FP.i2d (own_hi p3))), (.double (0 : UInt64))] (.double (0 : UInt64)) := Arv.set Ar415 q415 S415 M415 H415 G415 rfl W416 2 rfl (Nat.le_of_ble_eq_true rfl)
    have pre422 : ∀ t, Steps p.tables e below (T416.setTop (mkF m 129 #[iv p0, iv p1, iv p2, iv p3, iv p4, iv (4 : Int32), rv b333, rv b338, .val (.long (((0 : Int64) + (((own_lo p1).toInt64) * ((own_hi p1).toInt64))) + (((own_lo p2).toInt64) * ((own_hi p2).toInt64)))), .second, .unset, .unset] [(.int p3), (.long (((0 : Int64) + (((own_lo p1).toInt64) * ((own_hi p1).toInt64))) + (((own_lo p2).toInt64) * ((own_hi p2).toInt64))))])) t → Steps p.tables e below (s₁.setTop (entryFrame m #[(.int p0), (.int p1), (.int p2), (.int p3), (.int p4)] maxLocals)) t := fun t kt => by
      refine pre417 _ ?_
      show Steps p.tables e below (T416.setTop (mkF m 126 #[iv p0, iv p1, iv p2, iv p3, iv p4, iv (4 : Int32), rv b333, rv b338, .val (.long (((0 : Int64) + (((own_lo p1).toInt64) * ((own_hi p1).toInt64))) + (((own_lo p2).toInt64) * ((own_hi p2).toInt64)))), .second, .unset, .unset] [])) _
      refine XS.lload X416.here hx rfl (hb hby at_126) rfl ?_
      show Steps p.tables e below (T416.setTop (mkF m 128 #[iv p0, iv p1, iv p2, iv p3, iv p4, iv (4 : Int32), rv b333, rv b338, .val (.long (((0 : Int64) + (((own_lo p1).toInt64) * ((own_hi p1).toInt64))) + (((own_lo p2).toInt64) * ((own_hi p2).toInt64)))), .second, .unset, .unset] [(.long (((0 : Int64) + (((own_lo p1).toInt64) * ((own_hi p1).toInt64))) + (((own_lo p2).toInt64) * ((own_hi p2).toInt64))))])) _
      refine XS.iloadN X416.here hx rfl (hb hby at_128) rfl ?_
      exact kt
    obtain ⟨_, _, ⟨T423, L423, k423, n423⟩, -, X423, ⟨Lc423, hQ423, l423, y423, z423⟩, st423⟩ := Jvm.LawKit.callS X416 hx (y := (⟨"com/example/centroid/centroid/VectorsDotPinLaw", "lo", "(I)I"⟩ : MethodName)) hown (mvT hZ (W 5 rfl)) (mvT hZ (W 6 rfl)) (mvT hZ (W 7 rfl)) (mvT hZ (W 8 rfl)) (by decide) (backOf (W := 2) (rm_lo l Z a0 hw [] p3 h416 n0 O416) hZ (W 8 rfl) (W 7 rfl) (by decide) (by decide)) (g := (mkF m 129 #[iv p0, iv p1, iv p2, iv p3, iv p4, iv (4 : Int32), rv b333, rv b338, .val (.long (((0 : Int64) + (((own_lo p1).toInt64) * ((own_hi p1).toInt64))) + (((own_lo p2).toInt64) * ((own_hi p2).toInt64)))), .second, .unset, .unset] [(.int p3), (.long (((0 : Int64) + (((own_lo p1).toInt64) * ((own_hi p1).toInt64))) + (((own_lo p2).toInt64) * ((own_hi p2).toInt64))))])) rfl (by rw [hml]; rfl) (argsL := [(.int p3)]) (rest := [(.long (((0 : Int64) + (((own_lo p1).toInt64) * ((own_hi p1).toInt64))) + (((own_lo p2).toInt64) * ((own_hi p2).toInt64))))]) (lenOf pd_7 rfl) rfl (by show 2 * 0 + _ ≤ _; exact Nat.le_of_eq rfl) (hb hby at_129) (fun _ _ => ⟨rfl, e416, (by decide : 2 + 0 ≤ _), (by decide : 8 + 0 ≤ _)⟩)
    dsimp only [Pt.U, Pt.locs, Pt.cells, Pt.slots] at X423 l423 y423 z423 st423 hQ423
    replace l423 := l423.symm
    replace y423 : 2 = k423 := y423.symm
    replace z423 : 8 = n423 := z423.symm
    subst l423 y423 z423
    obtain ⟨rfl, M423, e423⟩ := hQ423
    have N423 := Fr.app N416 M423
    have pre424 : ∀ t, Steps p.tables e below (T423.setTop (mkF m 132 #[iv p0, iv p1, iv p2, iv p3, iv p4, iv (4 : Int32), rv b333, rv b338, .val (.long (((0 : Int64) + (((own_lo p1).toInt64) * ((own_hi p1).toInt64))) + (((own_lo p2).toInt64) * ((own_hi p2).toInt64)))), .second, .unset, .unset] [(.int (own_lo p3)), (.long (((0 : Int64) + (((own_lo p1).toInt64) * ((own_hi p1).toInt64))) + (((own_lo p2).toInt64) * ((own_hi p2).toInt64))))])) t → Steps p.tables e below (s₁.setTop (entryFrame m #[(.int p0), (.int p1), (.int p2), (.int p3), (.int p4)] maxLocals)) t := fun t kt => pre422 _ (st423 _ kt)
    have pre425 : ∀ t, Steps p.tables e below (T423.setTop (mkF m 134 #[iv p0, iv p1, iv p2, iv p3, iv p4, iv (4 : Int32), rv b333, rv b338, .val (.long (((0 : Int64) + (((own_lo p1).toInt64) * ((own_hi p1).toInt64))) + (((own_lo p2).toInt64) * ((own_hi p2).toInt64)))), .second, .unset, .unset] [(.int p3), (.long ((own_lo p3).toInt64)), (.long (((0 : Int64) + (((own_lo p1).toInt64) * ((own_hi p1).toInt64))) + (((own_lo p2).toInt64) * ((own_hi p2).toInt64))))])) t → Steps p.tables e below (s₁.setTop (entryFrame m #[(.int p0), (.int p1), (.int p2), (.int p3), (.int p4)] maxLocals)) t := fun t kt => by
      refine pre424 _ ?_
      show Steps p.tables e below (T423.setTop (mkF m 132 #[iv p0, iv p1, iv p2, iv p3, iv p4, iv (4 : Int32), rv b333, rv b338, .val (.long (((0 : Int64) + (((own_lo p1).toInt64) * ((own_hi p1).toInt64))) + (((own_lo p2).toInt64) * ((own_hi p2).toInt64)))), .second, .unset, .unset] [(.int (own_lo p3)), (.long (((0 : Int64) + (((own_lo p1).toInt64) * ((own_hi p1).toInt64))) + (((own_lo p2).toInt64) * ((own_hi p2).toInt64))))])) _
      refine XS.i2l X423.here hx rfl (hb hby at_132) rfl ?_
      show Steps p.tables e below (T423.setTop (mkF m 133 #[iv p0, iv p1, iv p2, iv p3, iv p4, iv (4 : Int32), rv b333, rv b338, .val (.long (((0 : Int64) + (((own_lo p1).toInt64) * ((own_hi p1).toInt64))) + (((own_lo p2).toInt64) * ((own_hi p2).toInt64)))), .second, .unset, .unset] [(.long ((own_lo p3).toInt64)), (.long (((0 : Int64) + (((own_lo p1).toInt64) * ((own_hi p1).toInt64))) + (((own_lo p2).toInt64) * ((own_hi p2).toInt64))))])) _
      refine XS.iloadN X423.here hx rfl (hb hby at_133) rfl ?_
      exact kt
    obtain ⟨_, _, ⟨T426, L426, k426, n426⟩, -, X426, ⟨Lc426, hQ426, l426, y426, z426⟩, st426⟩ := Jvm.LawKit.callS X423 hx (y := (⟨"com/example/centroid/centroid/VectorsDotPinLaw", "hi", "(I)I"⟩ : MethodName)) hown (mvT hZ (W 9 rfl)) (mvT hZ (W 10 rfl)) (mvT hZ (W 7 rfl)) (mvT hZ (W 11 rfl)) (by decide) (backOf (W := 4) (rm_hi l Z a0 hw [] p3 h416 n0 O416) hZ (W 11 rfl) (W 7 rfl) (by decide) (by decide)) (g := (mkF m 134 #[iv p0, iv p1, iv p2, iv p3, iv p4, iv (4 : Int32), rv b333, rv b338, .val (.long (((0 : Int64) + (((own_lo p1).toInt64) * ((own_hi p1).toInt64))) + (((own_lo p2).toInt64) * ((own_hi p2).toInt64)))), .second, .unset, .unset] [(.int p3), (.long ((own_lo p3).toInt64)), (.long (((0 : Int64) + (((own_lo p1).toInt64) * ((own_hi p1).toInt64))) + (((own_lo p2).toInt64) * ((own_hi p2).toInt64))))])) rfl (by rw [hml]; rfl) (argsL := [(.int p3)]) (rest := [(.long ((own_lo p3).toInt64)), (.long (((0 : Int64) + (((own_lo p1).toInt64) * ((own_hi p1).toInt64))) + (((own_lo p2).toInt64) * ((own_hi p2).toInt64))))]) (lenOf pd_7 rfl) rfl (by show 2 * 0 + _ ≤ _; exact Nat.le_of_eq rfl) (hb hby at_134) (fun _ _ => ⟨rfl, e423, (by decide : 2 + 0 ≤ _), (by decide : 8 + 0 ≤ _)⟩)
    dsimp only [Pt.U, Pt.locs, Pt.cells, Pt.slots] at X426 l426 y426 z426 st426 hQ426
    replace l426 := l426.symm
    replace y426 : 2 = k426 := y426.symm
    replace z426 : 8 = n426 := z426.symm
    subst l426 y426 z426
    obtain ⟨rfl, M426, e426⟩ := hQ426
    have N426 := Fr.app N423 M426
    have pre427 : ∀ t, Steps p.tables e below (T426.setTop (mkF m 137 #[iv p0, iv p1, iv p2, iv p3, iv p4, iv (4 : Int32), rv b333, rv b338, .val (.long (((0 : Int64) + (((own_lo p1).toInt64) * ((own_hi p1).toInt64))) + (((own_lo p2).toInt64) * ((own_hi p2).toInt64)))), .second, .unset, .unset] [(.int (own_hi p3)), (.long ((own_lo p3).toInt64)), (.long (((0 : Int64) + (((own_lo p1).toInt64) * ((own_hi p1).toInt64))) + (((own_lo p2).toInt64) * ((own_hi p2).toInt64))))])) t → Steps p.tables e below (s₁.setTop (entryFrame m #[(.int p0), (.int p1), (.int p2), (.int p3), (.int p4)] maxLocals)) t := fun t kt => pre425 _ (st426 _ kt)
    have pre428 : ∀ t, Steps p.tables e below (T426.setTop (mkF m 153 #[iv p0, iv p1, iv p2, iv p3, iv p4, iv (4 : Int32), rv b333, rv b338, .val (.long ((((0 : Int64) + (((own_lo p1).toInt64) * ((own_hi p1).toInt64))) + (((own_lo p2).toInt64) * ((own_hi p2).toInt64))) + (((own_lo p3).toInt64) * ((own_hi p3).toInt64)))), .second, .unset, .unset] [(.int p4), (.int (3 : Int32)), (.ref b333)])) t → Steps p.tables e below (s₁.setTop (entryFrame m #[(.int p0), (.int p1), (.int p2), (.int p3), (.int p4)] maxLocals)) t := fun t kt => by
      refine pre427 _ ?_
      show Steps p.tables e below (T426.setTop (mkF m 137 #[iv p0, iv p1, iv p2, iv p3, iv p4, iv (4 : Int32), rv b333, rv b338, .val (.long (((0 : Int64) + (((own_lo p1).toInt64) * ((own_hi p1).toInt64))) + (((own_lo p2).toInt64) * ((own_hi p2).toInt64)))), .second, .unset, .unset] [(.int (own_hi p3)), (.long ((own_lo p3).toInt64)), (.long (((0 : Int64) + (((own_lo p1).toInt64) * ((own_hi p1).toInt64))) + (((own_lo p2).toInt64) * ((own_hi p2).toInt64))))])) _
      refine XS.i2l X426.here hx rfl (hb hby at_137) rfl ?_
      show Steps p.tables e below (T426.setTop (mkF m 138 #[iv p0, iv p1, iv p2, iv p3, iv p4, iv (4 : Int32), rv b333, rv b338, .val (.long (((0 : Int64) + (((own_lo p1).toInt64) * ((own_hi p1).toInt64))) + (((own_lo p2).toInt64) * ((own_hi p2).toInt64)))), .second, .unset, .unset] [(.long ((own_hi p3).toInt64)), (.long ((own_lo p3).toInt64)), (.long (((0 : Int64) + (((own_lo p1).toInt64) * ((own_hi p1).toInt64))) + (((own_lo p2).toInt64) * ((own_hi p2).toInt64))))])) _
      refine XS.lmul X426.here hx rfl (hb hby at_138) rfl ?_
      show Steps p.tables e below (T426.setTop (mkF m 139 #[iv p0, iv p1, iv p2, iv p3, iv p4, iv (4 : Int32), rv b333, rv b338, .val (.long (((0 : Int64) + (((own_lo p1).toInt64) * ((own_hi p1).toInt64))) + (((own_lo p2).toInt64) * ((own_hi p2).toInt64)))), .second, .unset, .unset] [(.long (((own_lo p3).toInt64) * ((own_hi p3).toInt64))), (.long (((0 : Int64) + (((own_lo p1).toInt64) * ((own_hi p1).toInt64))) + (((own_lo p2).toInt64) * ((own_hi p2).toInt64))))])) _
      refine XS.ladd X426.here hx rfl (hb hby at_139) rfl ?_
      show Steps p.tables e below (T426.setTop (mkF m 140 #[iv p0, iv p1, iv p2, iv p3, iv p4, iv (4 : Int32), rv b333, rv b338, .val (.long (((0 : Int64) + (((own_lo p1).toInt64) * ((own_hi p1).toInt64))) + (((own_lo p2).toInt64) * ((own_hi p2).toInt64)))), .second, .unset, .unset] [(.long ((((0 : Int64) + (((own_lo p1).toInt64) * ((own_hi p1).toInt64))) + (((own_lo p2).toInt64) * ((own_hi p2).toInt64))) + (((own_lo p3).toInt64) * ((own_hi p3).toInt64))))])) _
      refine XS.lstore X426.here hx rfl (hb hby at_140) rfl (l' := #[iv p0, iv p1, iv p2, iv p3, iv p4, iv (4 : Int32), rv b333, rv b338, .val (.long ((((0 : Int64) + (((own_lo p1).toInt64) * ((own_hi p1).toInt64))) + (((own_lo p2).toInt64) * ((own_hi p2).toInt64))) + (((own_lo p3).toInt64) * ((own_hi p3).toInt64)))), .second, .unset, .unset]) rfl ?_
      show Steps p.tables e below (T426.setTop (mkF m 142 #[iv p0, iv p1, iv p2, iv p3, iv p4, iv (4 : Int32), rv b333, rv b338, .val (.long ((((0 : Int64) + (((own_lo p1).toInt64) * ((own_hi p1).toInt64))) + (((own_lo p2).toInt64) * ((own_hi p2).toInt64))) + (((own_lo p3).toInt64) * ((own_hi p3).toInt64)))), .second, .unset, .unset] [])) _
      refine XS.iload X426.here hx rfl (hb hby at_142) rfl ?_
      show Steps p.tables e below (T426.setTop (mkF m 144 #[iv p0, iv p1, iv p2, iv p3, iv p4, iv (4 : Int32), rv b333, rv b338, .val (.long ((((0 : Int64) + (((own_lo p1).toInt64) * ((own_hi p1).toInt64))) + (((own_lo p2).toInt64) * ((own_hi p2).toInt64))) + (((own_lo p3).toInt64) * ((own_hi p3).toInt64)))), .second, .unset, .unset] [(.int (4 : Int32))])) _
      refine XS.iconst X426.here hx rfl (hb hby at_144) ?_
      show Steps p.tables e below (T426.setTop (mkF m 145 #[iv p0, iv p1, iv p2, iv p3, iv p4, iv (4 : Int32), rv b333, rv b338, .val (.long ((((0 : Int64) + (((own_lo p1).toInt64) * ((own_hi p1).toInt64))) + (((own_lo p2).toInt64) * ((own_hi p2).toInt64))) + (((own_lo p3).toInt64) * ((own_hi p3).toInt64)))), .second, .unset, .unset] [(.int (3 : Int32)), (.int (4 : Int32))])) _
      refine XS.icmpNo X426.here hx rfl (hb hby at_145) rfl (XT.ii_le_f (by decide)) ?_
      show Steps p.tables e below (T426.setTop (mkF m 148 #[iv p0, iv p1, iv p2, iv p3, iv p4, iv (4 : Int32), rv b333, rv b338, .val (.long ((((0 : Int64) + (((own_lo p1).toInt64) * ((own_hi p1).toInt64))) + (((own_lo p2).toInt64) * ((own_hi p2).toInt64))) + (((own_lo p3).toInt64) * ((own_hi p3).toInt64)))), .second, .unset, .unset] [])) _
      refine XS.aload X426.here hx rfl (hb hby at_148) rfl rfl ?_
      show Steps p.tables e below (T426.setTop (mkF m 150 #[iv p0, iv p1, iv p2, iv p3, iv p4, iv (4 : Int32), rv b333, rv b338, .val (.long ((((0 : Int64) + (((own_lo p1).toInt64) * ((own_hi p1).toInt64))) + (((own_lo p2).toInt64) * ((own_hi p2).toInt64))) + (((own_lo p3).toInt64) * ((own_hi p3).toInt64)))), .second, .unset, .unset] [(.ref b333)])) _
      refine XS.iconst X426.here hx rfl (hb hby at_150) ?_
      show Steps p.tables e below (T426.setTop (mkF m 151 #[iv p0, iv p1, iv p2, iv p3, iv p4, iv (4 : Int32), rv b333, rv b338, .val (.long ((((0 : Int64) + (((own_lo p1).toInt64) * ((own_hi p1).toInt64))) + (((own_lo p2).toInt64) * ((own_hi p2).toInt64))) + (((own_lo p3).toInt64) * ((own_hi p3).toInt64)))), .second, .unset, .unset] [(.int (3 : Int32)), (.ref b333)])) _
      refine XS.iload X426.here hx rfl (hb hby at_151) rfl ?_
      exact kt
    obtain ⟨_, _, ⟨T429, L429, k429, n429⟩, -, X429, ⟨Lc429, hQ429, l429, y429, z429⟩, st429⟩ := Jvm.LawKit.callS X426 hx (y := (⟨"com/example/centroid/centroid/VectorsDotPinLaw", "lo", "(I)I"⟩ : MethodName)) hown (mvT hZ (W 5 rfl)) (mvT hZ (W 6 rfl)) (mvT hZ (W 7 rfl)) (mvT hZ (W 8 rfl)) (by decide) (backOf (W := 2) (rm_lo l Z a0 hw [] p4 h416 n0 O416) hZ (W 8 rfl) (W 7 rfl) (by decide) (by decide)) (g := (mkF m 153 #[iv p0, iv p1, iv p2, iv p3, iv p4, iv (4 : Int32), rv b333, rv b338, .val (.long ((((0 : Int64) + (((own_lo p1).toInt64) * ((own_hi p1).toInt64))) + (((own_lo p2).toInt64) * ((own_hi p2).toInt64))) + (((own_lo p3).toInt64) * ((own_hi p3).toInt64)))), .second, .unset, .unset] [(.int p4), (.int (3 : Int32)), (.ref b333)])) rfl (by rw [hml]; rfl) (argsL := [(.int p4)]) (rest := [(.int (3 : Int32)), (.ref b333)]) (lenOf pd_7 rfl) rfl (by show 2 * 0 + _ ≤ _; exact Nat.le_of_eq rfl) (hb hby at_153) (fun _ _ => ⟨rfl, e426, (by decide : 2 + 0 ≤ _), (by decide : 8 + 0 ≤ _)⟩)
    dsimp only [Pt.U, Pt.locs, Pt.cells, Pt.slots] at X429 l429 y429 z429 st429 hQ429
    replace l429 := l429.symm
    replace y429 : 2 = k429 := y429.symm
    replace z429 : 8 = n429 := z429.symm
    subst l429 y429 z429
    obtain ⟨rfl, M429, e429⟩ := hQ429
    have N429 := Fr.app N426 M429
    have pre430 : ∀ t, Steps p.tables e below (T429.setTop (mkF m 156 #[iv p0, iv p1, iv p2, iv p3, iv p4, iv (4 : Int32), rv b333, rv b338, .val (.long ((((0 : Int64) + (((own_lo p1).toInt64) * ((own_hi p1).toInt64))) + (((own_lo p2).toInt64) * ((own_hi p2).toInt64))) + (((own_lo p3).toInt64) * ((own_hi p3).toInt64)))), .second, .unset, .unset] [(.int (own_lo p4)), (.int (3 : Int32)), (.ref b333)])) t → Steps p.tables e below (s₁.setTop (entryFrame m #[(.int p0), (.int p1), (.int p2), (.int p3), (.int p4)] maxLocals)) t := fun t kt => pre428 _ (st429 _ kt)
    have pre431 : ∀ t, Steps p.tables e below (T429.setTop (mkF m 157 #[iv p0, iv p1, iv p2, iv p3, iv p4, iv (4 : Int32), rv b333, rv b338, .val (.long ((((0 : Int64) + (((own_lo p1).toInt64) * ((own_hi p1).toInt64))) + (((own_lo p2).toInt64) * ((own_hi p2).toInt64))) + (((own_lo p3).toInt64) * ((own_hi p3).toInt64)))), .second, .unset, .unset] [(.double (FP.i2d (own_lo p4))), (.int (3 : Int32)), (.ref b333)])) t → Steps p.tables e below (s₁.setTop (entryFrame m #[(.int p0), (.int p1), (.int p2), (.int p3), (.int p4)] maxLocals)) t := fun t kt => by
      refine pre430 _ ?_
      show Steps p.tables e below (T429.setTop (mkF m 156 #[iv p0, iv p1, iv p2, iv p3, iv p4, iv (4 : Int32), rv b333, rv b338, .val (.long ((((0 : Int64) + (((own_lo p1).toInt64) * ((own_hi p1).toInt64))) + (((own_lo p2).toInt64) * ((own_hi p2).toInt64))) + (((own_lo p3).toInt64) * ((own_hi p3).toInt64)))), .second, .unset, .unset] [(.int (own_lo p4)), (.int (3 : Int32)), (.ref b333)])) _
      refine XS.i2dS X429.here hx rfl (hb hby at_156) rfl rfl ?_
      exact kt
    obtain ⟨c432, Ar432, q432, S432, M432, H432, G432⟩ := id F420
    have i432 : ¬ ((3 : Int32) < 0 ∨ c432.slots.size ≤ ((3 : Int32)).toNatClampNeg) := inb_of S432 ⟨by decide, by decide⟩
    obtain ⟨T433, h433, X433, e433, W433, st433⟩ := stD X429 hx hZ e429 Ar432 (j := (3 : Int32)) i432 (g := (mkF m 157 #[iv p0, iv p1, iv p2, iv p3, iv p4, iv (4 : Int32), rv b333, rv b338, .val (.long ((((0 : Int64) + (((own_lo p1).toInt64) * ((own_hi p1).toInt64))) + (((own_lo p2).toInt64) * ((own_hi p2).toInt64))) + (((own_lo p3).toInt64) * ((own_hi p3).toInt64)))), .second, .unset, .unset] [(.double (FP.i2d (own_lo p4))), (.int (3 : Int32)), (.ref b333)])) rfl rfl (hb hby at_157)
    have pre434 : ∀ t, Steps p.tables e below (T433.setTop (mkF m 158 #[iv p0, iv p1, iv p2, iv p3, iv p4, iv (4 : Int32), rv b333, rv b338, .val (.long ((((0 : Int64) + (((own_lo p1).toInt64) * ((own_hi p1).toInt64))) + (((own_lo p2).toInt64) * ((own_hi p2).toInt64))) + (((own_lo p3).toInt64) * ((own_hi p3).toInt64)))), .second, .unset, .unset] [])) t → Steps p.tables e below (s₁.setTop (entryFrame m #[(.int p0), (.int p1), (.int p2), (.int p3), (.int p4)] maxLocals)) t := fun t kt => pre431 _ (st433 _ kt)
    have N433 := Fr.snoc X433 N429 g_b333
    have O433 := O416.wr W433 g_b333
    have K433 : Keep h0 h433 [] := K416.wr W433 (Or.inr sz_b333)
    have F435 := F418.wr W433
    have F436 := F419.wr W433
    have F437 := F421.other W433 (fun q => ne_b333_b338 q.symm)
    have F438 : Arv Z h433 b333 k333 .double (4 : Int32) [(.double (FP.i2d (own_lo p1))), (.double (FP.i2d (own_lo p2))), (.double (FP.i2d (own_lo p3))), (.double (FP.i2d (own_lo p4)))] (.double (0 : UInt64)) := Arv.set Ar432 q432 S432 M432 H432 G432 rfl W433 3 rfl (Nat.le_of_ble_eq_true rfl)
    have pre439 : ∀ t, Steps p.tables e below (T433.setTop (mkF m 163 #[iv p0, iv p1, iv p2, iv p3, iv p4, iv (4 : Int32), rv b333, rv b338, .val (.long ((((0 : Int64) + (((own_lo p1).toInt64) * ((own_hi p1).toInt64))) + (((own_lo p2).toInt64) * ((own_hi p2).toInt64))) + (((own_lo p3).toInt64) * ((own_hi p3).toInt64)))), .second, .unset, .unset] [(.int p4), (.int (3 : Int32)), (.ref b338)])) t → Steps p.tables e below (s₁.setTop (entryFrame m #[(.int p0), (.int p1), (.int p2), (.int p3), (.int p4)] maxLocals)) t := fun t kt => by
      refine pre434 _ ?_
      show Steps p.tables e below (T433.setTop (mkF m 158 #[iv p0, iv p1, iv p2, iv p3, iv p4, iv (4 : Int32), rv b333, rv b338, .val (.long ((((0 : Int64) + (((own_lo p1).toInt64) * ((own_hi p1).toInt64))) + (((own_lo p2).toInt64) * ((own_hi p2).toInt64))) + (((own_lo p3).toInt64) * ((own_hi p3).toInt64)))), .second, .unset, .unset] [])) _
      refine XS.aload X433.here hx rfl (hb hby at_158) rfl rfl ?_
      show Steps p.tables e below (T433.setTop (mkF m 160 #[iv p0, iv p1, iv p2, iv p3, iv p4, iv (4 : Int32), rv b333, rv b338, .val (.long ((((0 : Int64) + (((own_lo p1).toInt64) * ((own_hi p1).toInt64))) + (((own_lo p2).toInt64) * ((own_hi p2).toInt64))) + (((own_lo p3).toInt64) * ((own_hi p3).toInt64)))), .second, .unset, .unset] [(.ref b338)])) _
      refine XS.iconst X433.here hx rfl (hb hby at_160) ?_
      show Steps p.tables e below (T433.setTop (mkF m 161 #[iv p0, iv p1, iv p2, iv p3, iv p4, iv (4 : Int32), rv b333, rv b338, .val (.long ((((0 : Int64) + (((own_lo p1).toInt64) * ((own_hi p1).toInt64))) + (((own_lo p2).toInt64) * ((own_hi p2).toInt64))) + (((own_lo p3).toInt64) * ((own_hi p3).toInt64)))), .second, .unset, .unset] [(.int (3 : Int32)), (.ref b338)])) _
      refine XS.iload X433.here hx rfl (hb hby at_161) rfl ?_
      exact kt
    obtain ⟨_, _, ⟨T440, L440, k440, n440⟩, -, X440, ⟨Lc440, hQ440, l440, y440, z440⟩, st440⟩ := Jvm.LawKit.callS X433 hx (y := (⟨"com/example/centroid/centroid/VectorsDotPinLaw", "hi", "(I)I"⟩ : MethodName)) hown (mvT hZ (W 9 rfl)) (mvT hZ (W 10 rfl)) (mvT hZ (W 7 rfl)) (mvT hZ (W 11 rfl)) (by decide) (backOf (W := 2) (rm_hi l Z a0 hw [] p4 h433 n0 O433) hZ (W 11 rfl) (W 7 rfl) (by decide) (by decide)) (g := (mkF m 163 #[iv p0, iv p1, iv p2, iv p3, iv p4, iv (4 : Int32), rv b333, rv b338, .val (.long ((((0 : Int64) + (((own_lo p1).toInt64) * ((own_hi p1).toInt64))) + (((own_lo p2).toInt64) * ((own_hi p2).toInt64))) + (((own_lo p3).toInt64) * ((own_hi p3).toInt64)))), .second, .unset, .unset] [(.int p4), (.int (3 : Int32)), (.ref b338)])) rfl (by rw [hml]; rfl) (argsL := [(.int p4)]) (rest := [(.int (3 : Int32)), (.ref b338)]) (lenOf pd_7 rfl) rfl (by show 2 * 0 + _ ≤ _; exact Nat.le_of_eq rfl) (hb hby at_163) (fun _ _ => ⟨rfl, e433, (by decide : 2 + 0 ≤ _), (by decide : 8 + 0 ≤ _)⟩)
    dsimp only [Pt.U, Pt.locs, Pt.cells, Pt.slots] at X440 l440 y440 z440 st440 hQ440
    replace l440 := l440.symm
    replace y440 : 2 = k440 := y440.symm
    replace z440 : 8 = n440 := z440.symm
    subst l440 y440 z440
    obtain ⟨rfl, M440, e440⟩ := hQ440
    have N440 := Fr.app N433 M440
    have pre441 : ∀ t, Steps p.tables e below (T440.setTop (mkF m 166 #[iv p0, iv p1, iv p2, iv p3, iv p4, iv (4 : Int32), rv b333, rv b338, .val (.long ((((0 : Int64) + (((own_lo p1).toInt64) * ((own_hi p1).toInt64))) + (((own_lo p2).toInt64) * ((own_hi p2).toInt64))) + (((own_lo p3).toInt64) * ((own_hi p3).toInt64)))), .second, .unset, .unset] [(.int (own_hi p4)), (.int (3 : Int32)), (.ref b338)])) t → Steps p.tables e below (s₁.setTop (entryFrame m #[(.int p0), (.int p1), (.int p2), (.int p3), (.int p4)] maxLocals)) t := fun t kt => pre439 _ (st440 _ kt)
    have pre442 : ∀ t, Steps p.tables e below (T440.setTop (mkF m 167 #[iv p0, iv p1, iv p2, iv p3, iv p4, iv (4 : Int32), rv b333, rv b338, .val (.long ((((0 : Int64) + (((own_lo p1).toInt64) * ((own_hi p1).toInt64))) + (((own_lo p2).toInt64) * ((own_hi p2).toInt64))) + (((own_lo p3).toInt64) * ((own_hi p3).toInt64)))), .second, .unset, .unset] [(.double (FP.i2d (own_hi p4))), (.int (3 : Int32)), (.ref b338)])) t → Steps p.tables e below (s₁.setTop (entryFrame m #[(.int p0), (.int p1), (.int p2), (.int p3), (.int p4)] maxLocals)) t := fun t kt => by
      refine pre441 _ ?_
      show Steps p.tables e below (T440.setTop (mkF m 166 #[iv p0, iv p1, iv p2, iv p3, iv p4, iv (4 : Int32), rv b333, rv b338, .val (.long ((((0 : Int64) + (((own_lo p1).toInt64) * ((own_hi p1).toInt64))) + (((own_lo p2).toInt64) * ((own_hi p2).toInt64))) + (((own_lo p3).toInt64) * ((own_hi p3).toInt64)))), .second, .unset, .unset] [(.int (own_hi p4)), (.int (3 : Int32)), (.ref b338)])) _
      refine XS.i2dS X440.here hx rfl (hb hby at_166) rfl rfl ?_
      exact kt
    obtain ⟨c443, Ar443, q443, S443, M443, H443, G443⟩ := id F437
    have i443 : ¬ ((3 : Int32) < 0 ∨ c443.slots.size ≤ ((3 : Int32)).toNatClampNeg) := inb_of S443 ⟨by decide, by decide⟩
    obtain ⟨T444, h444, X444, e444, W444, st444⟩ := stD X440 hx hZ e440 Ar443 (j := (3 : Int32)) i443 (g := (mkF m 167 #[iv p0, iv p1, iv p2, iv p3, iv p4, iv (4 : Int32), rv b333, rv b338, .val (.long ((((0 : Int64) + (((own_lo p1).toInt64) * ((own_hi p1).toInt64))) + (((own_lo p2).toInt64) * ((own_hi p2).toInt64))) + (((own_lo p3).toInt64) * ((own_hi p3).toInt64)))), .second, .unset, .unset] [(.double (FP.i2d (own_hi p4))), (.int (3 : Int32)), (.ref b338)])) rfl rfl (hb hby at_167)
    have pre445 : ∀ t, Steps p.tables e below (T444.setTop (mkF m 168 #[iv p0, iv p1, iv p2, iv p3, iv p4, iv (4 : Int32), rv b333, rv b338, .val (.long ((((0 : Int64) + (((own_lo p1).toInt64) * ((own_hi p1).toInt64))) + (((own_lo p2).toInt64) * ((own_hi p2).toInt64))) + (((own_lo p3).toInt64) * ((own_hi p3).toInt64)))), .second, .unset, .unset] [])) t → Steps p.tables e below (s₁.setTop (entryFrame m #[(.int p0), (.int p1), (.int p2), (.int p3), (.int p4)] maxLocals)) t := fun t kt => pre442 _ (st444 _ kt)
    have N444 := Fr.snoc X444 N440 g_b338
    have O444 := O433.wr W444 g_b338
    have K444 : Keep h0 h444 [] := K433.wr W444 (Or.inr sz_b338)
    have F446 := F435.wr W444
    have F447 := F436.wr W444
    have F448 := F438.other W444 ne_b333_b338
    have F449 : Arv Z h444 b338 k338 .double (4 : Int32) [(.double (FP.i2d (own_hi p1))), (.double (FP.i2d (own_hi p2))), (.double (FP.i2d (own_hi p3))), (.double (FP.i2d (own_hi p4)))] (.double (0 : UInt64)) := Arv.set Ar443 q443 S443 M443 H443 G443 rfl W444 3 rfl (Nat.le_of_ble_eq_true rfl)
    have pre450 : ∀ t, Steps p.tables e below (T444.setTop (mkF m 172 #[iv p0, iv p1, iv p2, iv p3, iv p4, iv (4 : Int32), rv b333, rv b338, .val (.long ((((0 : Int64) + (((own_lo p1).toInt64) * ((own_hi p1).toInt64))) + (((own_lo p2).toInt64) * ((own_hi p2).toInt64))) + (((own_lo p3).toInt64) * ((own_hi p3).toInt64)))), .second, .unset, .unset] [(.int p4), (.long ((((0 : Int64) + (((own_lo p1).toInt64) * ((own_hi p1).toInt64))) + (((own_lo p2).toInt64) * ((own_hi p2).toInt64))) + (((own_lo p3).toInt64) * ((own_hi p3).toInt64))))])) t → Steps p.tables e below (s₁.setTop (entryFrame m #[(.int p0), (.int p1), (.int p2), (.int p3), (.int p4)] maxLocals)) t := fun t kt => by
      refine pre445 _ ?_
      show Steps p.tables e below (T444.setTop (mkF m 168 #[iv p0, iv p1, iv p2, iv p3, iv p4, iv (4 : Int32), rv b333, rv b338, .val (.long ((((0 : Int64) + (((own_lo p1).toInt64) * ((own_hi p1).toInt64))) + (((own_lo p2).toInt64) * ((own_hi p2).toInt64))) + (((own_lo p3).toInt64) * ((own_hi p3).toInt64)))), .second, .unset, .unset] [])) _
      refine XS.lload X444.here hx rfl (hb hby at_168) rfl ?_
      show Steps p.tables e below (T444.setTop (mkF m 170 #[iv p0, iv p1, iv p2, iv p3, iv p4, iv (4 : Int32), rv b333, rv b338, .val (.long ((((0 : Int64) + (((own_lo p1).toInt64) * ((own_hi p1).toInt64))) + (((own_lo p2).toInt64) * ((own_hi p2).toInt64))) + (((own_lo p3).toInt64) * ((own_hi p3).toInt64)))), .second, .unset, .unset] [(.long ((((0 : Int64) + (((own_lo p1).toInt64) * ((own_hi p1).toInt64))) + (((own_lo p2).toInt64) * ((own_hi p2).toInt64))) + (((own_lo p3).toInt64) * ((own_hi p3).toInt64))))])) _
      refine XS.iload X444.here hx rfl (hb hby at_170) rfl ?_
      exact kt
    obtain ⟨_, _, ⟨T451, L451, k451, n451⟩, -, X451, ⟨Lc451, hQ451, l451, y451, z451⟩, st451⟩ := Jvm.LawKit.callS X444 hx (y := (⟨"com/example/centroid/centroid/VectorsDotPinLaw", "lo", "(I)I"⟩ : MethodName)) hown (mvT hZ (W 5 rfl)) (mvT hZ (W 6 rfl)) (mvT hZ (W 7 rfl)) (mvT hZ (W 8 rfl)) (by decide) (backOf (W := 2) (rm_lo l Z a0 hw [] p4 h444 n0 O444) hZ (W 8 rfl) (W 7 rfl) (by decide) (by decide)) (g := (mkF m 172 #[iv p0, iv p1, iv p2, iv p3, iv p4, iv (4 : Int32), rv b333, rv b338, .val (.long ((((0 : Int64) + (((own_lo p1).toInt64) * ((own_hi p1).toInt64))) + (((own_lo p2).toInt64) * ((own_hi p2).toInt64))) + (((own_lo p3).toInt64) * ((own_hi p3).toInt64)))), .second, .unset, .unset] [(.int p4), (.long ((((0 : Int64) + (((own_lo p1).toInt64) * ((own_hi p1).toInt64))) + (((own_lo p2).toInt64) * ((own_hi p2).toInt64))) + (((own_lo p3).toInt64) * ((own_hi p3).toInt64))))])) rfl (by rw [hml]; rfl) (argsL := [(.int p4)]) (rest := [(.long ((((0 : Int64) + (((own_lo p1).toInt64) * ((own_hi p1).toInt64))) + (((own_lo p2).toInt64) * ((own_hi p2).toInt64))) + (((own_lo p3).toInt64) * ((own_hi p3).toInt64))))]) (lenOf pd_7 rfl) rfl (by show 2 * 0 + _ ≤ _; exact Nat.le_of_eq rfl) (hb hby at_172) (fun _ _ => ⟨rfl, e444, (by decide : 2 + 0 ≤ _), (by decide : 8 + 0 ≤ _)⟩)
    dsimp only [Pt.U, Pt.locs, Pt.cells, Pt.slots] at X451 l451 y451 z451 st451 hQ451
    replace l451 := l451.symm
    replace y451 : 2 = k451 := y451.symm
    replace z451 : 8 = n451 := z451.symm
    subst l451 y451 z451
    obtain ⟨rfl, M451, e451⟩ := hQ451
    have N451 := Fr.app N444 M451
    have pre452 : ∀ t, Steps p.tables e below (T451.setTop (mkF m 175 #[iv p0, iv p1, iv p2, iv p3, iv p4, iv (4 : Int32), rv b333, rv b338, .val (.long ((((0 : Int64) + (((own_lo p1).toInt64) * ((own_hi p1).toInt64))) + (((own_lo p2).toInt64) * ((own_hi p2).toInt64))) + (((own_lo p3).toInt64) * ((own_hi p3).toInt64)))), .second, .unset, .unset] [(.int (own_lo p4)), (.long ((((0 : Int64) + (((own_lo p1).toInt64) * ((own_hi p1).toInt64))) + (((own_lo p2).toInt64) * ((own_hi p2).toInt64))) + (((own_lo p3).toInt64) * ((own_hi p3).toInt64))))])) t → Steps p.tables e below (s₁.setTop (entryFrame m #[(.int p0), (.int p1), (.int p2), (.int p3), (.int p4)] maxLocals)) t := fun t kt => pre450 _ (st451 _ kt)
    have pre453 : ∀ t, Steps p.tables e below (T451.setTop (mkF m 178 #[iv p0, iv p1, iv p2, iv p3, iv p4, iv (4 : Int32), rv b333, rv b338, .val (.long ((((0 : Int64) + (((own_lo p1).toInt64) * ((own_hi p1).toInt64))) + (((own_lo p2).toInt64) * ((own_hi p2).toInt64))) + (((own_lo p3).toInt64) * ((own_hi p3).toInt64)))), .second, .unset, .unset] [(.int p4), (.long ((own_lo p4).toInt64)), (.long ((((0 : Int64) + (((own_lo p1).toInt64) * ((own_hi p1).toInt64))) + (((own_lo p2).toInt64) * ((own_hi p2).toInt64))) + (((own_lo p3).toInt64) * ((own_hi p3).toInt64))))])) t → Steps p.tables e below (s₁.setTop (entryFrame m #[(.int p0), (.int p1), (.int p2), (.int p3), (.int p4)] maxLocals)) t := fun t kt => by
      refine pre452 _ ?_
      show Steps p.tables e below (T451.setTop (mkF m 175 #[iv p0, iv p1, iv p2, iv p3, iv p4, iv (4 : Int32), rv b333, rv b338, .val (.long ((((0 : Int64) + (((own_lo p1).toInt64) * ((own_hi p1).toInt64))) + (((own_lo p2).toInt64) * ((own_hi p2).toInt64))) + (((own_lo p3).toInt64) * ((own_hi p3).toInt64)))), .second, .unset, .unset] [(.int (own_lo p4)), (.long ((((0 : Int64) + (((own_lo p1).toInt64) * ((own_hi p1).toInt64))) + (((own_lo p2).toInt64) * ((own_hi p2).toInt64))) + (((own_lo p3).toInt64) * ((own_hi p3).toInt64))))])) _
      refine XS.i2l X451.here hx rfl (hb hby at_175) rfl ?_
      show Steps p.tables e below (T451.setTop (mkF m 176 #[iv p0, iv p1, iv p2, iv p3, iv p4, iv (4 : Int32), rv b333, rv b338, .val (.long ((((0 : Int64) + (((own_lo p1).toInt64) * ((own_hi p1).toInt64))) + (((own_lo p2).toInt64) * ((own_hi p2).toInt64))) + (((own_lo p3).toInt64) * ((own_hi p3).toInt64)))), .second, .unset, .unset] [(.long ((own_lo p4).toInt64)), (.long ((((0 : Int64) + (((own_lo p1).toInt64) * ((own_hi p1).toInt64))) + (((own_lo p2).toInt64) * ((own_hi p2).toInt64))) + (((own_lo p3).toInt64) * ((own_hi p3).toInt64))))])) _
      refine XS.iload X451.here hx rfl (hb hby at_176) rfl ?_
      exact kt
    obtain ⟨_, _, ⟨T454, L454, k454, n454⟩, -, X454, ⟨Lc454, hQ454, l454, y454, z454⟩, st454⟩ := Jvm.LawKit.callS X451 hx (y := (⟨"com/example/centroid/centroid/VectorsDotPinLaw", "hi", "(I)I"⟩ : MethodName)) hown (mvT hZ (W 9 rfl)) (mvT hZ (W 10 rfl)) (mvT hZ (W 7 rfl)) (mvT hZ (W 11 rfl)) (by decide) (backOf (W := 4) (rm_hi l Z a0 hw [] p4 h444 n0 O444) hZ (W 11 rfl) (W 7 rfl) (by decide) (by decide)) (g := (mkF m 178 #[iv p0, iv p1, iv p2, iv p3, iv p4, iv (4 : Int32), rv b333, rv b338, .val (.long ((((0 : Int64) + (((own_lo p1).toInt64) * ((own_hi p1).toInt64))) + (((own_lo p2).toInt64) * ((own_hi p2).toInt64))) + (((own_lo p3).toInt64) * ((own_hi p3).toInt64)))), .second, .unset, .unset] [(.int p4), (.long ((own_lo p4).toInt64)), (.long ((((0 : Int64) + (((own_lo p1).toInt64) * ((own_hi p1).toInt64))) + (((own_lo p2).toInt64) * ((own_hi p2).toInt64))) + (((own_lo p3).toInt64) * ((own_hi p3).toInt64))))])) rfl (by rw [hml]; rfl) (argsL := [(.int p4)]) (rest := [(.long ((own_lo p4).toInt64)), (.long ((((0 : Int64) + (((own_lo p1).toInt64) * ((own_hi p1).toInt64))) + (((own_lo p2).toInt64) * ((own_hi p2).toInt64))) + (((own_lo p3).toInt64) * ((own_hi p3).toInt64))))]) (lenOf pd_7 rfl) rfl (by show 2 * 0 + _ ≤ _; exact Nat.le_of_eq rfl) (hb hby at_178) (fun _ _ => ⟨rfl, e451, (by decide : 2 + 0 ≤ _), (by decide : 8 + 0 ≤ _)⟩)
    dsimp only [Pt.U, Pt.locs, Pt.cells, Pt.slots] at X454 l454 y454 z454 st454 hQ454
    replace l454 := l454.symm
    replace y454 : 2 = k454 := y454.symm
    replace z454 : 8 = n454 := z454.symm
    subst l454 y454 z454
    obtain ⟨rfl, M454, e454⟩ := hQ454
    have N454 := Fr.app N451 M454
    have pre455 : ∀ t, Steps p.tables e below (T454.setTop (mkF m 181 #[iv p0, iv p1, iv p2, iv p3, iv p4, iv (4 : Int32), rv b333, rv b338, .val (.long ((((0 : Int64) + (((own_lo p1).toInt64) * ((own_hi p1).toInt64))) + (((own_lo p2).toInt64) * ((own_hi p2).toInt64))) + (((own_lo p3).toInt64) * ((own_hi p3).toInt64)))), .second, .unset, .unset] [(.int (own_hi p4)), (.long ((own_lo p4).toInt64)), (.long ((((0 : Int64) + (((own_lo p1).toInt64) * ((own_hi p1).toInt64))) + (((own_lo p2).toInt64) * ((own_hi p2).toInt64))) + (((own_lo p3).toInt64) * ((own_hi p3).toInt64))))])) t → Steps p.tables e below (s₁.setTop (entryFrame m #[(.int p0), (.int p1), (.int p2), (.int p3), (.int p4)] maxLocals)) t := fun t kt => pre453 _ (st454 _ kt)
    have pre456 : ∀ t, Steps p.tables e below (T454.setTop (mkF m 190 #[iv p0, iv p1, iv p2, iv p3, iv p4, iv (4 : Int32), rv b333, rv b338, .val (.long (((((0 : Int64) + (((own_lo p1).toInt64) * ((own_hi p1).toInt64))) + (((own_lo p2).toInt64) * ((own_hi p2).toInt64))) + (((own_lo p3).toInt64) * ((own_hi p3).toInt64))) + (((own_lo p4).toInt64) * ((own_hi p4).toInt64)))), .second, .unset, .unset] [(.ref b338), (.ref b333)])) t → Steps p.tables e below (s₁.setTop (entryFrame m #[(.int p0), (.int p1), (.int p2), (.int p3), (.int p4)] maxLocals)) t := fun t kt => by
      refine pre455 _ ?_
      show Steps p.tables e below (T454.setTop (mkF m 181 #[iv p0, iv p1, iv p2, iv p3, iv p4, iv (4 : Int32), rv b333, rv b338, .val (.long ((((0 : Int64) + (((own_lo p1).toInt64) * ((own_hi p1).toInt64))) + (((own_lo p2).toInt64) * ((own_hi p2).toInt64))) + (((own_lo p3).toInt64) * ((own_hi p3).toInt64)))), .second, .unset, .unset] [(.int (own_hi p4)), (.long ((own_lo p4).toInt64)), (.long ((((0 : Int64) + (((own_lo p1).toInt64) * ((own_hi p1).toInt64))) + (((own_lo p2).toInt64) * ((own_hi p2).toInt64))) + (((own_lo p3).toInt64) * ((own_hi p3).toInt64))))])) _
      refine XS.i2l X454.here hx rfl (hb hby at_181) rfl ?_
      show Steps p.tables e below (T454.setTop (mkF m 182 #[iv p0, iv p1, iv p2, iv p3, iv p4, iv (4 : Int32), rv b333, rv b338, .val (.long ((((0 : Int64) + (((own_lo p1).toInt64) * ((own_hi p1).toInt64))) + (((own_lo p2).toInt64) * ((own_hi p2).toInt64))) + (((own_lo p3).toInt64) * ((own_hi p3).toInt64)))), .second, .unset, .unset] [(.long ((own_hi p4).toInt64)), (.long ((own_lo p4).toInt64)), (.long ((((0 : Int64) + (((own_lo p1).toInt64) * ((own_hi p1).toInt64))) + (((own_lo p2).toInt64) * ((own_hi p2).toInt64))) + (((own_lo p3).toInt64) * ((own_hi p3).toInt64))))])) _
      refine XS.lmul X454.here hx rfl (hb hby at_182) rfl ?_
      show Steps p.tables e below (T454.setTop (mkF m 183 #[iv p0, iv p1, iv p2, iv p3, iv p4, iv (4 : Int32), rv b333, rv b338, .val (.long ((((0 : Int64) + (((own_lo p1).toInt64) * ((own_hi p1).toInt64))) + (((own_lo p2).toInt64) * ((own_hi p2).toInt64))) + (((own_lo p3).toInt64) * ((own_hi p3).toInt64)))), .second, .unset, .unset] [(.long (((own_lo p4).toInt64) * ((own_hi p4).toInt64))), (.long ((((0 : Int64) + (((own_lo p1).toInt64) * ((own_hi p1).toInt64))) + (((own_lo p2).toInt64) * ((own_hi p2).toInt64))) + (((own_lo p3).toInt64) * ((own_hi p3).toInt64))))])) _
      refine XS.ladd X454.here hx rfl (hb hby at_183) rfl ?_
      show Steps p.tables e below (T454.setTop (mkF m 184 #[iv p0, iv p1, iv p2, iv p3, iv p4, iv (4 : Int32), rv b333, rv b338, .val (.long ((((0 : Int64) + (((own_lo p1).toInt64) * ((own_hi p1).toInt64))) + (((own_lo p2).toInt64) * ((own_hi p2).toInt64))) + (((own_lo p3).toInt64) * ((own_hi p3).toInt64)))), .second, .unset, .unset] [(.long (((((0 : Int64) + (((own_lo p1).toInt64) * ((own_hi p1).toInt64))) + (((own_lo p2).toInt64) * ((own_hi p2).toInt64))) + (((own_lo p3).toInt64) * ((own_hi p3).toInt64))) + (((own_lo p4).toInt64) * ((own_hi p4).toInt64))))])) _
      refine XS.lstore X454.here hx rfl (hb hby at_184) rfl (l' := #[iv p0, iv p1, iv p2, iv p3, iv p4, iv (4 : Int32), rv b333, rv b338, .val (.long (((((0 : Int64) + (((own_lo p1).toInt64) * ((own_hi p1).toInt64))) + (((own_lo p2).toInt64) * ((own_hi p2).toInt64))) + (((own_lo p3).toInt64) * ((own_hi p3).toInt64))) + (((own_lo p4).toInt64) * ((own_hi p4).toInt64)))), .second, .unset, .unset]) rfl ?_
      show Steps p.tables e below (T454.setTop (mkF m 186 #[iv p0, iv p1, iv p2, iv p3, iv p4, iv (4 : Int32), rv b333, rv b338, .val (.long (((((0 : Int64) + (((own_lo p1).toInt64) * ((own_hi p1).toInt64))) + (((own_lo p2).toInt64) * ((own_hi p2).toInt64))) + (((own_lo p3).toInt64) * ((own_hi p3).toInt64))) + (((own_lo p4).toInt64) * ((own_hi p4).toInt64)))), .second, .unset, .unset] [])) _
      refine XS.aload X454.here hx rfl (hb hby at_186) rfl rfl ?_
      show Steps p.tables e below (T454.setTop (mkF m 188 #[iv p0, iv p1, iv p2, iv p3, iv p4, iv (4 : Int32), rv b333, rv b338, .val (.long (((((0 : Int64) + (((own_lo p1).toInt64) * ((own_hi p1).toInt64))) + (((own_lo p2).toInt64) * ((own_hi p2).toInt64))) + (((own_lo p3).toInt64) * ((own_hi p3).toInt64))) + (((own_lo p4).toInt64) * ((own_hi p4).toInt64)))), .second, .unset, .unset] [(.ref b333)])) _
      refine XS.aload X454.here hx rfl (hb hby at_188) rfl rfl ?_
      exact kt
    obtain ⟨_, _, ⟨T457, L457, k457, n457⟩, -, X457, ⟨Lc457, hQ457, l457, y457, z457⟩, st457⟩ := Jvm.LawKit.callS X454 hx (y := (⟨"com/example/centroid/centroid/Vectors", "dot", "([D[D)D"⟩ : MethodName)) hown (mvT hZ (W 1 rfl)) (mvT hZ (W 2 rfl)) (mvT hZ (W 3 rfl)) (mvT hZ (W 4 rfl)) (by decide) (backOf (W := 0) (rm_dot4 l Z a0 hw [] b333 b338 k333 k338 ((FP.i2d (own_lo p1))) ((FP.i2d (own_lo p2))) ((FP.i2d (own_lo p3))) ((FP.i2d (own_lo p4))) ((FP.i2d (own_hi p1))) ((FP.i2d (own_hi p2))) ((FP.i2d (own_hi p3))) ((FP.i2d (own_hi p4))) ((own_lo p1).toInt) ((own_lo p2).toInt) ((own_lo p3).toInt) ((own_lo p4).toInt) ((own_hi p1).toInt) ((own_hi p2).toInt) ((own_hi p3).toInt) ((own_hi p4).toInt) h444 n0 O444 F448 F449 (own_D_i _ (own_lo_b _)) (own_D_i _ (own_lo_b _)) (own_D_i _ (own_lo_b _)) (own_D_i _ (own_lo_b _)) (own_D_i _ (own_hi_b _)) (own_D_i _ (own_hi_b _)) (own_D_i _ (own_hi_b _)) (own_D_i _ (own_hi_b _))) hZ (W 4 rfl) (W 3 rfl) (by decide) (by decide)) (g := (mkF m 190 #[iv p0, iv p1, iv p2, iv p3, iv p4, iv (4 : Int32), rv b333, rv b338, .val (.long (((((0 : Int64) + (((own_lo p1).toInt64) * ((own_hi p1).toInt64))) + (((own_lo p2).toInt64) * ((own_hi p2).toInt64))) + (((own_lo p3).toInt64) * ((own_hi p3).toInt64))) + (((own_lo p4).toInt64) * ((own_hi p4).toInt64)))), .second, .unset, .unset] [(.ref b338), (.ref b333)])) rfl (by rw [hml]; rfl) (argsL := [(.ref b333), (.ref b338)]) (rest := []) (lenOf pd_6 rfl) rfl (by show 2 * 0 + _ ≤ _; exact Nat.le_of_eq rfl) (hb hby at_190) (fun _ _ => ⟨rfl, e454, (by decide : 2 + 0 ≤ _), (by decide : 8 + 0 ≤ _)⟩)
    dsimp only [Pt.U, Pt.locs, Pt.cells, Pt.slots] at X457 l457 y457 z457 st457 hQ457
    replace l457 := l457.symm
    replace y457 : 2 = k457 := y457.symm
    replace z457 : 8 = n457 := z457.symm
    subst l457 y457 z457
    obtain ⟨rd_457, rfl, M457, e457, P457_0⟩ := hQ457
    have N457 := Fr.app N454 M457
    have pre458 : ∀ t, Steps p.tables e below (T457.setTop (mkF m 193 #[iv p0, iv p1, iv p2, iv p3, iv p4, iv (4 : Int32), rv b333, rv b338, .val (.long (((((0 : Int64) + (((own_lo p1).toInt64) * ((own_hi p1).toInt64))) + (((own_lo p2).toInt64) * ((own_hi p2).toInt64))) + (((own_lo p3).toInt64) * ((own_hi p3).toInt64))) + (((own_lo p4).toInt64) * ((own_hi p4).toInt64)))), .second, .unset, .unset] [(.double rd_457)])) t → Steps p.tables e below (s₁.setTop (entryFrame m #[(.int p0), (.int p1), (.int p2), (.int p3), (.int p4)] maxLocals)) t := fun t kt => pre456 _ (st457 _ kt)
    have pre459 : ∀ t, Steps p.tables e below (T457.setTop (mkF m 209 #[iv p0, iv p1, iv p2, iv p3, iv p4, iv (4 : Int32), rv b333, rv b338, .val (.long (((((0 : Int64) + (((own_lo p1).toInt64) * ((own_hi p1).toInt64))) + (((own_lo p2).toInt64) * ((own_hi p2).toInt64))) + (((own_lo p3).toInt64) * ((own_hi p3).toInt64))) + (((own_lo p4).toInt64) * ((own_hi p4).toInt64)))), .second, .val (.double rd_457), .second] [(.int (1 : Int32))])) t → Steps p.tables e below (s₁.setTop (entryFrame m #[(.int p0), (.int p1), (.int p2), (.int p3), (.int p4)] maxLocals)) t := fun t kt => by
      refine pre458 _ ?_
      show Steps p.tables e below (T457.setTop (mkF m 193 #[iv p0, iv p1, iv p2, iv p3, iv p4, iv (4 : Int32), rv b333, rv b338, .val (.long (((((0 : Int64) + (((own_lo p1).toInt64) * ((own_hi p1).toInt64))) + (((own_lo p2).toInt64) * ((own_hi p2).toInt64))) + (((own_lo p3).toInt64) * ((own_hi p3).toInt64))) + (((own_lo p4).toInt64) * ((own_hi p4).toInt64)))), .second, .unset, .unset] [(.double rd_457)])) _
      refine XS.dstore X457.here hx rfl (hb hby at_193) rfl (l' := #[iv p0, iv p1, iv p2, iv p3, iv p4, iv (4 : Int32), rv b333, rv b338, .val (.long (((((0 : Int64) + (((own_lo p1).toInt64) * ((own_hi p1).toInt64))) + (((own_lo p2).toInt64) * ((own_hi p2).toInt64))) + (((own_lo p3).toInt64) * ((own_hi p3).toInt64))) + (((own_lo p4).toInt64) * ((own_hi p4).toInt64)))), .second, .val (.double rd_457), .second]) rfl ?_
      show Steps p.tables e below (T457.setTop (mkF m 195 #[iv p0, iv p1, iv p2, iv p3, iv p4, iv (4 : Int32), rv b333, rv b338, .val (.long (((((0 : Int64) + (((own_lo p1).toInt64) * ((own_hi p1).toInt64))) + (((own_lo p2).toInt64) * ((own_hi p2).toInt64))) + (((own_lo p3).toInt64) * ((own_hi p3).toInt64))) + (((own_lo p4).toInt64) * ((own_hi p4).toInt64)))), .second, .val (.double rd_457), .second] [])) _
      refine XS.dload X457.here hx rfl (hb hby at_195) rfl ?_
      show Steps p.tables e below (T457.setTop (mkF m 197 #[iv p0, iv p1, iv p2, iv p3, iv p4, iv (4 : Int32), rv b333, rv b338, .val (.long (((((0 : Int64) + (((own_lo p1).toInt64) * ((own_hi p1).toInt64))) + (((own_lo p2).toInt64) * ((own_hi p2).toInt64))) + (((own_lo p3).toInt64) * ((own_hi p3).toInt64))) + (((own_lo p4).toInt64) * ((own_hi p4).toInt64)))), .second, .val (.double rd_457), .second] [(.double rd_457)])) _
      refine XS.lload X457.here hx rfl (hb hby at_197) rfl ?_
      show Steps p.tables e below (T457.setTop (mkF m 199 #[iv p0, iv p1, iv p2, iv p3, iv p4, iv (4 : Int32), rv b333, rv b338, .val (.long (((((0 : Int64) + (((own_lo p1).toInt64) * ((own_hi p1).toInt64))) + (((own_lo p2).toInt64) * ((own_hi p2).toInt64))) + (((own_lo p3).toInt64) * ((own_hi p3).toInt64))) + (((own_lo p4).toInt64) * ((own_hi p4).toInt64)))), .second, .val (.double rd_457), .second] [(.long (((((0 : Int64) + (((own_lo p1).toInt64) * ((own_hi p1).toInt64))) + (((own_lo p2).toInt64) * ((own_hi p2).toInt64))) + (((own_lo p3).toInt64) * ((own_hi p3).toInt64))) + (((own_lo p4).toInt64) * ((own_hi p4).toInt64)))), (.double rd_457)])) _
      refine XS.l2dS X457.here hx rfl (hb hby at_199) rfl rfl ?_
      show Steps p.tables e below (T457.setTop (mkF m 200 #[iv p0, iv p1, iv p2, iv p3, iv p4, iv (4 : Int32), rv b333, rv b338, .val (.long (((((0 : Int64) + (((own_lo p1).toInt64) * ((own_hi p1).toInt64))) + (((own_lo p2).toInt64) * ((own_hi p2).toInt64))) + (((own_lo p3).toInt64) * ((own_hi p3).toInt64))) + (((own_lo p4).toInt64) * ((own_hi p4).toInt64)))), .second, .val (.double rd_457), .second] [(.double (FP.l2d (((((0 : Int64) + (((own_lo p1).toInt64) * ((own_hi p1).toInt64))) + (((own_lo p2).toInt64) * ((own_hi p2).toInt64))) + (((own_lo p3).toInt64) * ((own_hi p3).toInt64))) + (((own_lo p4).toInt64) * ((own_hi p4).toInt64))))), (.double rd_457)])) _
      refine XS.dcmpS X457.here hx rfl (hb hby at_200) rfl (v := (0 : Int32)) (own_D_cmp P457_0 (own_LD (own_L_add (own_L_add (own_L_add (own_L_add own_L_0 (own_L_mul (own_L_i _ (own_lo_b _)) (own_L_i _ (own_hi_b _)) (by decide)) (by decide)) (own_L_mul (own_L_i _ (own_lo_b _)) (own_L_i _ (own_hi_b _)) (by decide)) (by decide)) (own_L_mul (own_L_i _ (own_lo_b _)) (own_L_i _ (own_hi_b _)) (by decide)) (by decide)) (own_L_mul (own_L_i _ (own_lo_b _)) (own_L_i _ (own_hi_b _)) (by decide)) (by decide)) (by decide)) _) ?_
      show Steps p.tables e below (T457.setTop (mkF m 201 #[iv p0, iv p1, iv p2, iv p3, iv p4, iv (4 : Int32), rv b333, rv b338, .val (.long (((((0 : Int64) + (((own_lo p1).toInt64) * ((own_hi p1).toInt64))) + (((own_lo p2).toInt64) * ((own_hi p2).toInt64))) + (((own_lo p3).toInt64) * ((own_hi p3).toInt64))) + (((own_lo p4).toInt64) * ((own_hi p4).toInt64)))), .second, .val (.double rd_457), .second] [(.int (0 : Int32))])) _
      refine XS.ifNo X457.here hx rfl (hb hby at_201) rfl (XT.i0_ne_f (by decide)) ?_
      show Steps p.tables e below (T457.setTop (mkF m 204 #[iv p0, iv p1, iv p2, iv p3, iv p4, iv (4 : Int32), rv b333, rv b338, .val (.long (((((0 : Int64) + (((own_lo p1).toInt64) * ((own_hi p1).toInt64))) + (((own_lo p2).toInt64) * ((own_hi p2).toInt64))) + (((own_lo p3).toInt64) * ((own_hi p3).toInt64))) + (((own_lo p4).toInt64) * ((own_hi p4).toInt64)))), .second, .val (.double rd_457), .second] [])) _
      refine XS.iconst X457.here hx rfl (hb hby at_204) ?_
      show Steps p.tables e below (T457.setTop (mkF m 205 #[iv p0, iv p1, iv p2, iv p3, iv p4, iv (4 : Int32), rv b333, rv b338, .val (.long (((((0 : Int64) + (((own_lo p1).toInt64) * ((own_hi p1).toInt64))) + (((own_lo p2).toInt64) * ((own_hi p2).toInt64))) + (((own_lo p3).toInt64) * ((own_hi p3).toInt64))) + (((own_lo p4).toInt64) * ((own_hi p4).toInt64)))), .second, .val (.double rd_457), .second] [(.int (1 : Int32))])) _
      refine XS.goto X457.here hx rfl (pc0 := 205) (pc' := 209) rfl (hb hby at_205) (by decide) (by decide) ?_
      exact kt
    obtain ⟨fs, hr, hrun, hended, hW, hsame⟩ := X457.leave (v := some (.int (1 : Int32))) (fun h => by rw [Bd.returns] at h; cases h)
    refine ⟨_, _, pre459 _ (retN X457 hx (t := .boolean) Bd.returns (by simp) (hb hby at_209) hr), hrun, hended, _, _, rfl, ?_, ⟨_, rfl⟩, hW, hsame.mono (by decide) (by decide)⟩
    show Q_law Z p0 p1 p2 p3 p4 h0 n0 _ T457.heap _
    rw [e457]
    exact ⟨rfl, N457⟩
set_option maxRecDepth 65536 in
set_option maxHeartbeats 40000000 in
theorem comes_1 {Post : Tables → Env → Array Value → State → Outcome → State → Prop} (hpost : ∀ tb e args s v u, (limb_1_1.after args s (.returned v) u = true ∧ limb_1_2.after args s (.returned v) u = true ∧ True) → FrameEnd s (.returned v) u (Jvm.fieldLocs frame_1_writes args s ++ Jvm.arrayLocs frame_1_arrays args s ++ Jvm.staticLocs frame_1_statics s) 16 128 → Post tb e args s (.returned v) u) :
    ArmFor flags0 classFile x code maxLocals ret World_1 tables_1 room_1 Calls_1 rest_1 Pre_1 Post := by
  intro l hfl _ _ p e ha hc hk s m args below hf hA hF happ hP
  obtain ⟨hcalls, hrest, hpre⟩ := hP
  obtain ⟨-, -, -, hnamed, -, -, -, hat⟩ := (Spec.applies_iff hf).mp happ
  obtain ⟨hg, hn⟩ := and_e (Cond.before_iff.mp (show (Jvm.Cond.and given_1 narrow_1).before args s = true from hpre))
  obtain ⟨given_1_2, given_1_3⟩ := and_e hg
  obtain ⟨given_1_4, given_1_5⟩ := and_e given_1_3
  obtain ⟨given_1_6, given_1_7⟩ := and_e given_1_5
  obtain ⟨given_1_8, given_1_9⟩ := and_e given_1_7
  obtain ⟨given_1_10, given_1_11⟩ := and_e given_1_9
  obtain ⟨w0, w1, w2, w3, w4, rfl⟩ : ∃ w0 w1 w2 w3 w4 : Value, args = #[w0, w1, w2, w3, w4] := by
    have hs : args.size = 5 := by simpa [Cond.value, given_1] using given_1_2
    obtain ⟨L⟩ := args
    match L, hs with
    | [w0, w1, w2, w3, w4], _ => exact ⟨w0, w1, w2, w3, w4, rfl⟩
  have hw := fun d (hd : d ∈ tables_1) => atoms_spec (ws := Jvm.Cond.code x code maxLocals ret :: tables_1) hat d (List.mem_cons_of_mem _ hd)
  have W := fun {d : Jvm.Cond} (i : Nat) (q : tables_1[i]? = some d) => hw d (List.mem_of_getElem? q)
  have hfit : Fit s := fun {y c} hc i hi => by
    obtain ⟨ha, rfl⟩ := Array.getElem?_eq_some_iff.mp hc
    have q := List.all_eq_true.mp ((Array.all_eq_true_iff_forall_mem.mp hF) _ (Array.getElem_mem ha)) i (List.mem_range.mpr hi)
    simpa [Array.getElem?_eq_getElem hi] using q
  obtain ⟨i0, ei0⟩ := is_v given_1_4
  obtain rfl : w0 = (.int i0) := Option.some.inj ei0
  obtain ⟨i1, ei1⟩ := is_v given_1_6
  obtain rfl : w1 = (.int i1) := Option.some.inj ei1
  obtain ⟨i2, ei2⟩ := is_v given_1_8
  obtain rfl : w2 = (.int i2) := Option.some.inj ei2
  obtain ⟨i3, ei3⟩ := is_v given_1_10
  obtain rfl : w3 = (.int i3) := Option.some.inj ei3
  obtain ⟨i4, ei4⟩ := is_v given_1_11
  obtain rfl : w4 = (.int i4) := Option.some.inj ei4
  obtain ⟨n, o, h1, h2, h3, _, L, rfl, ⟨rfl, N⟩, hq⟩ := rm_law l s _ hw tables_1 i0 i1 i2 i3 i4 s.heap s.heap.size (Old.start s)  p e ha hc hk s m _ below hf ((Spec.applies_iff_loose hf).mp happ).1 ⟨rfl, State.Warmed39.refl s, rfl⟩ trivial
  refine ⟨n, _, h1, h2, h3, hpost _ _ _ _ _ _ ⟨Cond.after_iff.mpr rfl, Cond.after_iff.mpr (eq_i res_at (Term.int_eval (1)) rfl), trivial⟩ ⟨hq.1, hq.2.1, (hq.2.2.sift fun y hy => Or.inr (N y hy)).mono (by decide) (by decide)⟩⟩
theorem main_1_1 : Claimed_1_1 := comes_1 fun _ _ _ _ _ _ h hF => ⟨h.1, hF⟩
theorem main_1_2 : Claimed_1_2 := comes_1 fun _ _ _ _ _ _ h hF => ⟨h.2.1, hF⟩
end Jvm.Pilot.@@N@@
namespace Jvm.Pilot.@@N@@
open Jvm Jvm.ClassFile Sem Op Lib Jvm.Free Jvm.Stand Jvm.Pilot.@@N@@.Jvm.D
/-! MADE BY PROGRAM (witnessworld.py) out of the Statement's table words and the real class files: 9 classes; the members and pool entries that the words name. The judged class is class 1, her method 3. -/
namespace start1
open Jvm.ClassFile
def u (s : String) : CpInfo := .utf8 (stringToUtf16 s)
/-- a pool by its gaps: so many unusable entries, then the entry; so many at the end -/
def gap : Nat → List CpInfo → List CpInfo
  | 0, r => r
  | n + 1, r => .unusable :: gap n r
def poolList (es : List (Nat × CpInfo)) (last : Nat) : List CpInfo := es.foldr (fun e r => gap e.1 (e.2 :: r)) (gap last [])
def pool (es : List (Nat × CpInfo)) (last : Nat) : Array CpInfo := ⟨poolList es last⟩
def fileOf (pool : Array CpInfo) (this : Nat) (attrs : Array Attribute := #[]) (ms : Array MethodInfo := #[]) (fl : Nat := 33) (sup : Nat := 0) (ifs : Array Nat := #[]) (fds : Array FieldInfo := #[]) : ClassFile where
  minorVersion := 0
  majorVersion := 65
  constantPool := pool
  accessFlags := fl
  thisClass := this
  superClass := sup
  interfaces := ifs
  fields := fds
  methods := ms
  attributes := attrs
def plain (name : String) (sup : Option ClassId) : Class where
  name := name
  kind := .ordinary
  loader := none
  accessFlags := 33
  super := sup
  interfaces := #[]
  cf := none
  fields := #[]
  methods := #[]
  instanceTypes := #[]
  staticTypes := #[]
  resolved := #[]
  callSites := []
  init := .initialized
  statics := none
  mirror := none

def pool0 : Array CpInfo := pool [(5, u "<init>"), (0, u "()V"), (1, .class_ 10), (1, u "java/lang/Object")] 113

def k0m0 : Method := { name := "<init>", desc := "()V", sig := { parameters := [], returnType := none }, accessFlags := 1, code := none }
/-- java/lang/Object -/
def k0 : Class := { plain "java/lang/Object" none with
  accessFlags := 33
  interfaces := #[]
  cf := some (fileOf pool0 8 #[] #[{ accessFlags := 1, nameIndex := 5, descriptorIndex := 6, attributes := #[] }] 33 0 #[] #[])
  fields := #[]
  methods := #[k0m0]
  instanceTypes := #[]
  staticTypes := #[]
  resolved := Array.replicate 124 none
  statics := none }

def pool1 : Array CpInfo := pool [(2, .class_ 4), (1, u "java/lang/Object"), (0, u "<init>"), (0, u "()V"), (0, .methodref 8 9), (0, .class_ 10), (0, .nameAndType 11 12), (0, u "com/example/centroid/centroid/VectorsDotPinLaw"), (0, u "lo"), (0, u "(I)I"), (0, .methodref 8 14), (0, .nameAndType 15 12), (0, u "hi"), (0, .methodref 17 18), (0, .class_ 19), (0, .nameAndType 20 21), (0, u "com/example/centroid/centroid/Vectors"), (0, u "dot"), (0, u "([D[D)D"), (2, u "law"), (0, u "(IIIII)Z")] 5

def k1m0 : Method := { name := "<init>", desc := "()V", sig := { parameters := [], returnType := none }, accessFlags := 2, code := none }
def k1c1 : Code := { maxStack := 2, maxLocals := 1, code := method_2_code, exceptionTable := #[], attributes := #[] }
def k1m1 : Method := { name := "lo", desc := "(I)I", sig := { parameters := [.int], returnType := some .int }, accessFlags := 10, code := some k1c1 }
def k1c2 : Code := { maxStack := 2, maxLocals := 1, code := method_3_code, exceptionTable := #[], attributes := #[] }
def k1m2 : Method := { name := "hi", desc := "(I)I", sig := { parameters := [.int], returnType := some .int }, accessFlags := 10, code := some k1c2 }
def k1c3 : Code := { maxStack := 6, maxLocals := 12, code := code, exceptionTable := #[], attributes := #[] }
def k1m3 : Method := { name := "law", desc := "(IIIII)Z", sig := { parameters := [.int, .int, .int, .int, .int], returnType := some .boolean }, accessFlags := 9, code := some k1c3 }
/-- com/example/centroid/centroid/VectorsDotPinLaw -/
def k1 : Class := { plain "com/example/centroid/centroid/VectorsDotPinLaw" (some 0) with
  accessFlags := 49
  interfaces := #[]
  cf := some (fileOf pool1 8 #[] #[{ accessFlags := 2, nameIndex := 5, descriptorIndex := 6, attributes := #[] }, { accessFlags := 10, nameIndex := 11, descriptorIndex := 12, attributes := #[] }, { accessFlags := 10, nameIndex := 15, descriptorIndex := 12, attributes := #[] }, { accessFlags := 9, nameIndex := 24, descriptorIndex := 25, attributes := #[] }] 49 2 #[] #[])
  fields := #[]
  methods := #[k1m0, k1m1, k1m2, k1m3]
  instanceTypes := #[]
  staticTypes := #[]
  resolved := Array.replicate 31 none
  statics := none }

def pool2 : Array CpInfo := pool [(2, .class_ 4), (1, u "java/lang/Object"), (0, u "<init>"), (0, u "()V"), (1, .class_ 10), (1, u "com/example/centroid/centroid/Vectors"), (0, u "dot"), (0, u "([D[D)D")] 13

def k2m0 : Method := { name := "<init>", desc := "()V", sig := { parameters := [], returnType := none }, accessFlags := 2, code := none }
def k2c1 : Code := { maxStack := 6, maxLocals := 5, code := prog_52_method_2_code, exceptionTable := #[], attributes := #[] }
def k2m1 : Method := { name := "dot", desc := "([D[D)D", sig := { parameters := [(.array .double), (.array .double)], returnType := some .double }, accessFlags := 8, code := some k2c1 }
/-- com/example/centroid/centroid/Vectors -/
def k2 : Class := { plain "com/example/centroid/centroid/Vectors" (some 0) with
  accessFlags := 32
  interfaces := #[]
  cf := some (fileOf pool2 8 #[] #[{ accessFlags := 2, nameIndex := 5, descriptorIndex := 6, attributes := #[] }, { accessFlags := 8, nameIndex := 11, descriptorIndex := 12, attributes := #[] }] 32 2 #[] #[])
  fields := #[]
  methods := #[k2m0, k2m1]
  instanceTypes := #[]
  staticTypes := #[]
  resolved := Array.replicate 26 none
  statics := none }

def pool3 : Array CpInfo := pool [(1, u "java/lang/Cloneable"), (0, .class_ 1), (0, u "java/lang/Object"), (0, .class_ 3)] 3

/-- java/lang/Cloneable -/
def k3 : Class := { plain "java/lang/Cloneable" (some 0) with
  accessFlags := 1537
  interfaces := #[]
  cf := some (fileOf pool3 2 #[] #[] 1537 4 #[] #[])
  fields := #[]
  methods := #[]
  instanceTypes := #[]
  staticTypes := #[]
  resolved := Array.replicate 8 none
  statics := none }

def pool4 : Array CpInfo := pool [(1, u "java/io/Serializable"), (0, .class_ 1), (0, u "java/lang/Object"), (0, .class_ 3)] 3

/-- java/io/Serializable -/
def k4 : Class := { plain "java/io/Serializable" (some 0) with
  accessFlags := 1537
  interfaces := #[]
  cf := some (fileOf pool4 2 #[] #[] 1537 4 #[] #[])
  fields := #[]
  methods := #[]
  instanceTypes := #[]
  staticTypes := #[]
  resolved := Array.replicate 8 none
  statics := none }

/-- the primitive byte -/
def k5 : Class := { plain "byte" none with kind := .primitive 'B', accessFlags := 0x411 }
/-- [B -/
def k6 : Class := { plain "[B" (some 0) with kind := .array 5 .byte, interfaces := #[3, 4], accessFlags := 1041 }

/-- the primitive int -/
def k7 : Class := { plain "double" none with kind := .primitive 'D', accessFlags := 0x411 }
/-- [D -/
def k8 : Class := { plain "[D" (some 0) with kind := .array 7 .double, interfaces := #[3, 4], accessFlags := 1041 }

def heap : Heap := #[]
def classes : Array Class := #[k0, k1, k2, k3, k4, k5, k6, k7, k8]
def interned : List (Array UInt16 × Addr) := []
def slotsUsed : Nat := 0
def theMethod : MethodId := ⟨1, 3⟩
def args0 : Array Value := #[.int 5, .int 4, .int 5, .int 4, .int 3]
def aboutOver (below : List Frame) : State where
  vm := { classes := classes, interned := interned.toArray }
  heap := heap
  slotsUsed := slotsUsed
  threads := #[{ frames := .invoking theMethod args0 :: below }]
def below0 : List Frame := [.native { method := ⟨0, 0⟩, args := #[] }]
def about1 : State := aboutOver below0
def p0 : Program := .bare "" "" ""
def e0 : Env := launch0.env 0 0 0
theorem w_frames : about1.frames = Frame.invoking theMethod args0 :: below0 := rfl
set_option maxRecDepth 65536 in
theorem w_args : argsFit about1.vm theMethod args0 = true := by decide +kernel
set_option maxRecDepth 65536 in
theorem w_heap : heapFits about1 = true := by decide +kernel
set_option maxRecDepth 65536 in
theorem w_runnable : about1.curStatus? = some .runnable := by decide +kernel
set_option maxRecDepth 65536 in
theorem w_alone : about1.alone = true := by decide +kernel
set_option maxRecDepth 65536 in
theorem w_named : about1.methodNamed? x = some theMethod := by decide +kernel
set_option maxRecDepth 65536 in
theorem w_hears : about1.hears theMethod below0 = true := by decide +kernel
set_option maxRecDepth 65536 in
theorem w_ripe : about1.ripe theMethod args0 below0 = true := by decide +kernel
theorem w_running : about1.status = .running := rfl
set_option maxRecDepth 65536 in
theorem w_room : about1.hasRoom e0.platform room_1 = true :=
  launch0.hasRoom_least _ room_1 (by decide +kernel) (by decide +kernel) (by decide +kernel) (by decide +kernel) (by decide +kernel) (by decide +kernel)
theorem allAtoms_all (ts : List Jvm.Cond) (a : Array Jvm.Value) (st : Jvm.State) : (allAtoms ts).before a st = ts.all (fun c => c.before a st) := by
  induction ts with
  | nil => rfl
  | cons c t ih =>
    show (Jvm.Cond.and c (allAtoms t)).before a st = _
    rw [Jvm.Cond.before_and, ih, List.all_cons]
def words1 : List Jvm.Cond := Jvm.Cond.code x code maxLocals ret :: tables_1
/-- a 'code' word, met by the world's own term for the bytes: nothing is compared byte by byte -/
theorem code_word {y : MethodName} {bytes : ByteArray} {mx : Nat} {rt : Option FieldType} {a : Array Value} {s : State} {m : MethodId} {meth : Method} {c : Code} (h1 : s.methodNamed? y = some m) (h2 : s.vm.method? m = some meth) (h3 : meth.code = some c) (h4 : c.code = bytes)
    (h5 : (c.maxLocals == mx && c.exceptionTable.isEmpty && decide (c.maxStack ≤ mostOperands) && decide (meth.sig.returnType = rt) && !meth.locks && decide (parseMethodDescriptor y.desc = some meth.sig)) = true) : (Jvm.Cond.code y bytes mx rt).before a s = true := by
  simp only [Bool.and_eq_true, beq_iff_eq, Bool.not_eq_true', decide_eq_true_eq] at h5
  obtain ⟨⟨⟨⟨⟨g1, g2⟩, g3⟩, g4⟩, g5⟩, g6⟩ := h5
  simp [Cond.before, Cond.holds, Cond.value, h1, h2, h3, h4, g1, g2, g3, g4, g5, g6]
def isCode : Jvm.Cond → Bool
  | .code _ _ _ _ => true
  | _ => false
theorem all_split {L : List Jvm.Cond} {P : Jvm.Cond → Bool} (h1 : L.all (fun c => isCode c || P c) = true) (h2 : ∀ c ∈ L.filter isCode, P c = true) : L.all P = true := by
  refine List.all_eq_true.mpr fun c hc => ?_
  have h := List.all_eq_true.mp h1 c hc
  rcases Bool.eq_false_or_eq_true (isCode c) with hi | hi
  · exact h2 c (List.mem_filter.mpr ⟨hc, hi⟩)
  · simpa [hi] using h
set_option maxRecDepth 65536 in
theorem w_c0 : (Jvm.Cond.code x code maxLocals ret).before args0 about1 = true := code_word (m := ⟨1, 3⟩) (meth := k1m3) (c := k1c3) (by decide +kernel) rfl rfl rfl (by decide +kernel)
set_option maxRecDepth 65536 in
theorem w_c1 : (Jvm.Cond.code ({ cls := "com/example/centroid/centroid/Vectors", name := "dot", desc := "([D[D)D" } : Jvm.MethodName) prog_52_method_2_code (5 : Nat) (Option.some Jvm.ClassFile.FieldType.double)).before args0 about1 = true := code_word (m := ⟨2, 1⟩) (meth := k2m1) (c := k2c1) (by decide +kernel) rfl rfl rfl (by decide +kernel)
set_option maxRecDepth 65536 in
theorem w_c2 : (Jvm.Cond.code ({ cls := "com/example/centroid/centroid/VectorsDotPinLaw", name := "lo", desc := "(I)I" } : Jvm.MethodName) method_2_code (1 : Nat) (Option.some Jvm.ClassFile.FieldType.int)).before args0 about1 = true := code_word (m := ⟨1, 1⟩) (meth := k1m1) (c := k1c1) (by decide +kernel) rfl rfl rfl (by decide +kernel)
set_option maxRecDepth 65536 in
theorem w_c3 : (Jvm.Cond.code ({ cls := "com/example/centroid/centroid/VectorsDotPinLaw", name := "hi", desc := "(I)I" } : Jvm.MethodName) method_3_code (1 : Nat) (Option.some Jvm.ClassFile.FieldType.int)).before args0 about1 = true := code_word (m := ⟨1, 2⟩) (meth := k1m2) (c := k1c2) (by decide +kernel) rfl rfl rfl (by decide +kernel)
def codes1 : List Jvm.Cond := [Jvm.Cond.code x code maxLocals ret, Jvm.Cond.code ({ cls := "com/example/centroid/centroid/Vectors", name := "dot", desc := "([D[D)D" } : Jvm.MethodName) prog_52_method_2_code (5 : Nat) (Option.some Jvm.ClassFile.FieldType.double), Jvm.Cond.code ({ cls := "com/example/centroid/centroid/VectorsDotPinLaw", name := "lo", desc := "(I)I" } : Jvm.MethodName) method_2_code (1 : Nat) (Option.some Jvm.ClassFile.FieldType.int), Jvm.Cond.code ({ cls := "com/example/centroid/centroid/VectorsDotPinLaw", name := "hi", desc := "(I)I" } : Jvm.MethodName) method_3_code (1 : Nat) (Option.some Jvm.ClassFile.FieldType.int)]
set_option maxRecDepth 65536 in
theorem codes_eq : words1.filter isCode = codes1 := rfl
theorem w_codes : ∀ c ∈ words1.filter isCode, c.before args0 about1 = true := by
  rw [codes_eq]
  intro c hc
  simp only [codes1, List.mem_cons, List.not_mem_nil, or_false] at hc
  rcases hc with rfl | rfl | rfl | rfl
  · exact w_c0
  · exact w_c1
  · exact w_c2
  · exact w_c3
set_option maxRecDepth 65536 in
theorem w_t1 : words1.all (fun c => isCode c || c.before args0 about1) = true := by decide +kernel
theorem w_tables : (allAtoms (Jvm.Cond.code x code maxLocals ret :: tables_1)).before args0 about1 = true := by
  rw [allAtoms_all]
  show words1.all (fun c => c.before args0 about1) = true
  refine all_split ?_ w_codes
  rw [w_t1]
set_option maxRecDepth 65536 in
theorem w_case : (Jvm.Cond.and given_1 narrow_1).before args0 about1 = true := by decide +kernel
theorem w_applies : (headSpec (Jvm.Cond.code x code maxLocals ret :: tables_1) room_1).applies x e0.platform about1 = true :=
  (Spec.applies_iff w_frames).mpr ⟨w_running, w_runnable, w_alone, w_named, w_hears, w_ripe, w_room, w_tables⟩
theorem atStart : AtStart classFile x code maxLocals ret World_1 tables_1 room_1 Calls_1 rest_1 Pre_1 launch0 p0 e0 about1 theMethod args0 below0 :=
  ⟨lists_1, trivial, launch0.admits_env _ _ _, launch0.least_env, fairChoices_fair.cas, fairChoices_fair.clock, w_frames, w_args, w_heap, w_applies, trivial, trivial, w_case⟩
end start1
theorem witness_1 : WitnessClaimed_1 := ⟨start1.p0, start1.e0, start1.about1, start1.theMethod, start1.args0, start1.below0, start1.atStart⟩
end Jvm.Pilot.@@N@@
